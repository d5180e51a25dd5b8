import JvmDerived
import JvmDerived.Pilot.@@N@@Statement
import JvmDerived.Pilot.@@N@@Code
set_option linter.unusedVariables false
set_option linter.unusedSimpArgs false

namespace Jvm.GoKit
open Jvm Jvm.ClassFile Sem Op Lib Jvm.Free Jvm.Stand Jvm.LawKit Jvm.RoadKit Bundle
/-- what goes with a Stand over the re-based start -/
def Hid (s Z : State) (wd : Bool) (EL : List (String × Nat)) (n0 : Nat) (ow0 ow : List Addr) (T : State) (locs : List Loc) (vm0 : Vm) (k0 : Nat) (h : Heap) : Prop :=
  s.Since vm0 k0 ∧ k0 ≤ h.size ∧ Z.Warmed39 vm0 ∧ T.heap = h ∧ Fr n0 locs ∧ CHr Z EL s.vm s.heap vm0 h ∧ Keep s.heap h ow0 ∧ Old Z n0 h ∧ (∀ x ∈ ow, Safe Z EL vm0 h x ∧ x < h.size ∧ n0 ≤ x ∧ (x ∈ ow0 ∨ s.heap.size ≤ x)) ∧ (wd = true ∨ s.WarmedH vm0)
/-- what a body leaves -/
def FinS (s Z : State) (wd ro : Bool) (EL : List (String × Nat)) (n0 : Nat) (ow0 : List Addr) (R : Room) (Q : Option Value → Heap → Prop) (o : Outcome) (t : State) : Prop :=
  ∃ v L, o = .returned v ∧ Q v t.heap ∧ Fr n0 L ∧ CHr Z EL s.vm s.heap t.vm t.heap ∧ Keep s.heap t.heap ow0 ∧ ReturnedEndW s o t L R.cells R.slots ∧ (wd = true ∨ s.WarmedH t.vm) ∧ (ro = true → ∀ d, v = some (.ref d) → Safe Z EL t.vm t.heap d ∧ d < t.heap.size ∧ n0 ≤ d ∧ s.heap.size ≤ d)
/-- from wherever the walk stands with heap h at the frame g, the run ends in Q -/
def Run (p : Program) (l : Launch) (e : Env) (R : Room) (s : State) (m : MethodId) (args : Array Value) (below : List Frame) (meth : Method) (c : Code) (Z : State) (wd ro : Bool) (EL : List (String × Nat)) (n0 : Nat) (ow0 : List Addr) (Q : Option Value → Heap → Prop)
    (h : Heap) (ow : List Addr) (cells slots : Nat) (g : JFrame) : Prop :=
  ∀ (T : State) (locs : List Loc) (vm0 : Vm) (k0 : Nat), Stand p l e R (s.setVm vm0) m args below meth c T locs cells slots → Hid s Z wd EL n0 ow0 ow T locs vm0 k0 h →
    ∃ s₂ o, Steps p.tables e below (T.setTop g) s₂ ∧ s₂.status = .running ∧ Ended s₂ below o ∧ FinS s Z wd ro EL n0 ow0 R Q o s₂
/-- a method's contract -/
def Con (l : Launch) (Z : State) (wd ro : Bool) (EL : List (String × Nat)) (n0 : Nat) (y : MethodName) (bytes : ByteArray) (maxL : Nat) (ret : Option FieldType) (rm : Room) (ws : List Jvm.Cond) (as' : Array Value) (h0 : Heap) (ow : List Addr) (Q : Option Value → Heap → Prop) : Prop :=
  MetFree l y (head1 (Jvm.Cond.code y bytes maxL ret :: ws) rm) (fun a U => a = as' ∧ Z.Warmed39 U.vm ∧ U.heap = h0 ∧ Old Z n0 h0 ∧ CHv Z EL U.vm h0 ∧ ∀ x ∈ ow, Safe Z EL U.vm h0 x ∧ x < h0.size ∧ n0 ≤ x) (fun _ _ _ _ _ => True) (fun _ U o U' => FinS U Z wd ro EL n0 ow rm Q o U')
/-- what stays of a body -/
def Gd (p : Program) (s : State) (m : MethodId) (meth : Method) (c : Code) (y : MethodName) (bytes : ByteArray) (maxL : Nat) (ret : Option FieldType) (Z : State) (a0 : Array Value) (EL : List (String × Nat)) : Prop :=
  p.tables.exec = Jvm.exec ∧ c.code = bytes ∧ c.maxLocals = maxL ∧ s.vm.findClass y.cls = some m.cls ∧ meth.sig.returnType = ret ∧ meth.name = y.name ∧ meth.locks = false ∧ EW Z a0 EL
section
variable {p : Program} {l : Launch} {e : Env} {R : Room} {s : State} {m : MethodId} {args : Array Value} {below : List Frame} {meth : Method} {c : Code} {Z : State} {wd ro : Bool} {EL : List (String × Nat)} {n0 : Nat} {ow0 : List Addr} {Q : Option Value → Heap → Prop}
variable {h : Heap} {ow : List Addr} {cells slots cells' slots' : Nat} {pc pc' : Nat} {Ls Ls' : Array Slot} {st rest : List Value} {y : MethodName} {bytes : ByteArray} {maxL : Nat} {ret : Option FieldType} {a0 : Array Value}
theorem Con.intro {ws : List Jvm.Cond} {as' : Array Value} (hx : plainFor y = true) (hEL : EW Z a0 EL)
    (body : ∀ (p : Program) (e : Env) (s : State) (m : MethodId) (below : List Frame) (meth : Method) (c : Code), s.heap = h → Gd p s m meth c y bytes maxL ret Z a0 EL → Run p l e R s m as' below meth c Z wd ro EL n0 ow Q h ow 0 0 (entryFrame m as' maxL)) :
    Con l Z wd ro EL n0 y bytes maxL ret R ws as' h ow Q := by
  refine MetFree.of_bodySF hx hisR ?_
  intro p e s m args below meth c s₁ Bd hml0 hP hK
  obtain ⟨rfl, hZ, hh, hO, hC, hS⟩ := hP
  have e0 : s₁.heap = h := by rw [← hh, Bd.state]; rfl
  have X0 : Stand p l e R s m args below meth c s₁ [] 0 0 := Stand.of_body Bd
  refine body p e s m below meth c hh ⟨Bd.exec, Bd.bytes, hml0, findClass_of_methodNamed Bd.named, Bd.returns, (name_of_methodNamed Bd.named Bd.method).1, Bd.notSynchronized, hEL⟩ s₁ [] s.vm h.size X0 ?_
  have hc : CHr Z EL s.vm s.heap s.vm h := by rw [hh]; exact CHr.refl hC
  refine ⟨(State.WarmedH.refl s).since _, Nat.le_refl _, hZ, e0, Fr.nil _, hc, by rw [hh]; exact Keep.refl _ _, hO, fun x hx => ⟨(hS x hx).1, (hS x hx).2.1, (hS x hx).2.2, Or.inl hx⟩, Or.inr (State.WarmedH.refl s)⟩
theorem Run.stp {g g' : JFrame} (stp : ∀ (T : State) (locs : List Loc) (vm0 : Vm) (k0 : Nat), Stand p l e R (s.setVm vm0) m args below meth c T locs cells slots → Hid s Z wd EL n0 ow0 ow T locs vm0 k0 h → ∀ t, Steps p.tables e below (T.setTop g') t → Steps p.tables e below (T.setTop g) t)
    (K : Run p l e R s m args below meth c Z wd ro EL n0 ow0 Q h ow cells slots g') : Run p l e R s m args below meth c Z wd ro EL n0 ow0 Q h ow cells slots g := fun T locs vm0 k0 X H => by
  obtain ⟨s₂, o, a, b⟩ := K T locs vm0 k0 X H
  exact ⟨s₂, o, stp T locs vm0 k0 X H _ a, b⟩
theorem Run.mov {g g' : JFrame} (stp : ∀ (T : State) (locs : List Loc) (vm0 : Vm) (k0 : Nat), Stand p l e R (s.setVm vm0) m args below meth c T locs cells slots → Hid s Z wd EL n0 ow0 ow T locs vm0 k0 h →
      ∃ T', Stand p l e R (s.setVm vm0) m args below meth c T' locs cells slots ∧ T'.heap = h ∧ ∀ t, Steps p.tables e below (T'.setTop g') t → Steps p.tables e below (T.setTop g) t)
    (K : Run p l e R s m args below meth c Z wd ro EL n0 ow0 Q h ow cells slots g') : Run p l e R s m args below meth c Z wd ro EL n0 ow0 Q h ow cells slots g := fun T locs vm0 k0 X H => by
  obtain ⟨T', X', eT, st⟩ := stp T locs vm0 k0 X H
  obtain ⟨i1, i2, i3, -, i5⟩ := H
  obtain ⟨s₂, o, a, b⟩ := K T' locs vm0 k0 X' ⟨i1, i2, i3, eT, i5⟩
  exact ⟨s₂, o, st _ a, b⟩
theorem Run.mono {g : JFrame} {cells' slots' : Nat} (hc : cells ≤ cells') (hs : slots ≤ slots') (K : Run p l e R s m args below meth c Z wd ro EL n0 ow0 Q h ow cells' slots' g) : Run p l e R s m args below meth c Z wd ro EL n0 ow0 Q h ow cells slots g := fun T locs vm0 k0 X H => K T locs vm0 k0 (X.mono hc hs) H
theorem Run.owless {g : JFrame} {ow' : List Addr} (hs : ∀ x ∈ ow', x ∈ ow) (K : Run p l e R s m args below meth c Z wd ro EL n0 ow0 Q h ow' cells slots g) : Run p l e R s m args below meth c Z wd ro EL n0 ow0 Q h ow cells slots g := fun T locs vm0 k0 X H => by
  obtain ⟨i1, i2, i3, i4, i5, i6, i7, i8, i9, i10⟩ := H
  exact K T locs vm0 k0 X ⟨i1, i2, i3, i4, i5, i6, i7, i8, fun x q => i9 x (hs x q), i10⟩
/-- what is known at every point -/
theorem Run.know {g : JFrame} (K : Ext Z.heap h → Keep s.heap h ow0 → (∀ x ∈ ow, x < h.size ∧ n0 ≤ x ∧ (x ∈ ow0 ∨ s.heap.size ≤ x)) → Run p l e R s m args below meth c Z wd ro EL n0 ow0 Q h ow cells slots g) : Run p l e R s m args below meth c Z wd ro EL n0 ow0 Q h ow cells slots g := fun T locs vm0 k0 X H =>
  K H.2.2.2.2.2.2.2.1.2 H.2.2.2.2.2.2.1 (fun x q => (H.2.2.2.2.2.2.2.2.1 x q).2) T locs vm0 k0 X H
theorem Gd.own (G : Gd p s m meth c y bytes maxL ret Z a0 EL) {vm0 : Vm} {k0 : Nat} (hS : s.Since vm0 k0) : vm0.findClass y.cls = some m.cls := (hS.1.alike.findClass _ _).trans G.2.2.2.1
theorem Gd.hb (G : Gd p s m meth c y bytes maxL ret Z a0 EL) {pc : Nat} {r : Except ClassFile.DecodeError (ClassFile.Instr × Nat)} (h2 : ClassFile.decode bytes pc = r) : ClassFile.decode c.code pc = r := Jvm.hb G.2.1 h2
theorem Hid.cell {T : State} {locs : List Loc} {vm0 : Vm} {k0 : Nat} {a : Addr} {cl : Cell} {ty : FieldType} (H : Hid s Z wd EL n0 ow0 ow T locs vm0 k0 h) (A : Arr Z h a cl ty) : T.heap[a]? = some cl := by
  rw [H.2.2.2.1]; exact A.1
theorem Hid.arr {T : State} {locs : List Loc} {vm0 : Vm} {k0 : Nat} {a : Addr} {cl : Cell} {ty : FieldType} (H : Hid s Z wd EL n0 ow0 ow T locs vm0 k0 h) (A : Arr Z h a cl ty) : (s.setVm vm0).isArrayOf cl ty := State.isArrayOf_alike (T := s.setVm vm0) H.2.2.1.alike A.2.1
/-- a write at a place that is ours -/
theorem Hid.wr {T T' : State} {locs : List Loc} {vm0 : Vm} {k0 sl : Nat} {h' : Heap} {a : Addr} {v : Value} (H : Hid s Z wd EL n0 ow0 ow T locs vm0 k0 h) (W : Wr h h' a sl v) (ha : a ∈ ow) (eT : T'.heap = h') : Hid s Z wd EL n0 ow0 ow T' (locs ++ [⟨a, sl⟩]) vm0 k0 h' := by
  obtain ⟨i1, i2, i3, i4, i5, i6, i7, i8, i9, i10⟩ := H
  obtain ⟨S, q1, q2, q3⟩ := i9 a ha
  have hsz : h'.size = h.size := W.size
  refine ⟨i1, by rw [hsz]; exact i2, i3, eT, i5.app (fun y hy => by cases List.mem_singleton.mp hy; exact q2), i6.trans (CHr.wr W S i6.1), i7.wr W q3, i8.wr W q2, fun x hx => ?_, i10⟩
  obtain ⟨S', r1, r2, r3⟩ := i9 x hx
  exact ⟨Safe.wr W S i6.1 S', by rw [hsz]; exact r1, r2, r3⟩
theorem instNAt {T : State} {locs : List Loc} {vm0 : Vm} (X : Stand p l e R (s.setVm vm0) m args below meth c T locs cells slots) (hx : p.tables.exec = Jvm.exec) (hZ : Z.Warmed39 vm0) {own K D : String} {index : Nat} (hown : vm0.findClass own = some m.cls) (w : (Jvm.Cond.classLink own index K).before a0 Z = true) (eT : T.heap = h) {a : Addr} (F : Ins Z h a K false) (E : Exa Z h a D)
    {g : JFrame} (hg : g.method = m) {rest : List Value} (hs : g.stack = .ref a :: rest) (hd : decode c.code g.pc = .ok (.instanceof index, 3)) : ∃ T', Stand p l e R (s.setVm vm0) m args below meth c T' locs cells slots ∧ T'.heap = h ∧ ∀ target, Steps p.tables e below (T'.setTop { g with pc := g.pc + 3, stack := .int 0 :: rest }) target → Steps p.tables e below (T.setTop g) target := by
  obtain ⟨cell, cT, h1, h2, h3⟩ := F
  obtain ⟨cell', k, e1, -, e3, e4, -⟩ := E
  cases h1.symm.trans e1
  obtain ⟨k', q, -⟩ := hZ.alike.2.2 _ _ e3
  obtain ⟨vm', X', st⟩ := Sym.instanceofNoAt X hx hown (mv (s := s.setVm vm0) hZ w) (by rw [eT]; exact h1) e4 q (by show vm0.findClass K = _; rw [hZ.alike.findClass]; exact h2) (by show vm0.assignable _ _ = _; rw [hZ.alike.assignable]; simpa [e4] using h3) hg hs hd
  exact ⟨_, X', eT, st⟩
/-- a new cell -/
theorem Hid.ext {T T' : State} {locs : List Loc} {vm0 : Vm} {k0 : Nat} {h' : Heap} (H : Hid s Z wd EL n0 ow0 ow T locs vm0 k0 h) (E : Ext h h') (hlt : h.size < h'.size) (eT : T'.heap = h') : Hid s Z wd EL n0 ow0 (h.size :: ow) T' locs vm0 k0 h' := by
  obtain ⟨i1, i2, i3, i4, i5, i6, i7, i8, i9, i10⟩ := H
  refine ⟨i1, Nat.le_trans i2 E.1, i3, eT, i5, i6.trans (CHr.ext E i6.1), i7.ext E, i8.ext E, fun x hx => ?_, i10⟩
  rcases List.mem_cons.mp hx with rfl | hx
  · exact ⟨(Safe.new (Nat.le_refl _)).ext E i6.1, hlt, i8.1 ▸ i8.2.1, Or.inr i7.1⟩
  · obtain ⟨S', r1, r2, r3⟩ := i9 x hx
    exact ⟨S'.ext E i6.1, Nat.lt_of_lt_of_le r1 E.1, r2, r3⟩
theorem aloadN (G : Gd p s m meth c y bytes maxL ret Z a0 EL) {k : Fin 4} {v : Value} (hd : decode bytes pc = .ok (.aload_n k, 1)) (hl : Ls[k.val]? = some (.val v)) (hv : v.isRef = true) (hp : pc + 1 = pc') (K : Run p l e R s m args below meth c Z wd ro EL n0 ow0 Q h ow cells slots (mkF m pc' Ls (v :: st))) : Run p l e R s m args below meth c Z wd ro EL n0 ow0 Q h ow cells slots (mkF m pc Ls st) := by
  subst hp
  exact Run.stp (fun T locs vm0 k0 X H t k => XS.aloadN X.here G.1 rfl (G.hb hd) hl hv k) K
theorem aload (G : Gd p s m meth c y bytes maxL ret Z a0 EL) {k : Nat} {v : Value} (hd : decode bytes pc = .ok (.aload k, 2)) (hl : Ls[k]? = some (.val v)) (hv : v.isRef = true) (hp : pc + 2 = pc') (K : Run p l e R s m args below meth c Z wd ro EL n0 ow0 Q h ow cells slots (mkF m pc' Ls (v :: st))) : Run p l e R s m args below meth c Z wd ro EL n0 ow0 Q h ow cells slots (mkF m pc Ls st) := by
  subst hp
  exact Run.stp (fun T locs vm0 k0 X H t k => XS.aload X.here G.1 rfl (G.hb hd) hl hv k) K
theorem iloadN (G : Gd p s m meth c y bytes maxL ret Z a0 EL) {k : Fin 4} {v : Int32} (hd : decode bytes pc = .ok (.iload_n k, 1)) (hl : Ls[k.val]? = some (.val (.int v))) (hp : pc + 1 = pc') (K : Run p l e R s m args below meth c Z wd ro EL n0 ow0 Q h ow cells slots (mkF m pc' Ls (.int v :: st))) : Run p l e R s m args below meth c Z wd ro EL n0 ow0 Q h ow cells slots (mkF m pc Ls st) := by
  subst hp
  exact Run.stp (fun T locs vm0 k0 X H t k => XS.iloadN X.here G.1 rfl (G.hb hd) hl k) K
theorem iload (G : Gd p s m meth c y bytes maxL ret Z a0 EL) {k : Nat} {v : Int32} (hd : decode bytes pc = .ok (.iload k, 2)) (hl : Ls[k]? = some (.val (.int v))) (hp : pc + 2 = pc') (K : Run p l e R s m args below meth c Z wd ro EL n0 ow0 Q h ow cells slots (mkF m pc' Ls (.int v :: st))) : Run p l e R s m args below meth c Z wd ro EL n0 ow0 Q h ow cells slots (mkF m pc Ls st) := by
  subst hp
  exact Run.stp (fun T locs vm0 k0 X H t k => XS.iload X.here G.1 rfl (G.hb hd) hl k) K
theorem iconst (G : Gd p s m meth c y bytes maxL ret Z a0 EL) {i : Int} (v : Int32) (hd : decode bytes pc = .ok (.iconst i, 1)) (hv : Int32.ofInt i = v) (hp : pc + 1 = pc') (K : Run p l e R s m args below meth c Z wd ro EL n0 ow0 Q h ow cells slots (mkF m pc' Ls (.int v :: st))) : Run p l e R s m args below meth c Z wd ro EL n0 ow0 Q h ow cells slots (mkF m pc Ls st) := by
  subst hp
  exact Run.stp (fun T locs vm0 k0 X H t k => XT.iconstV X.here G.1 rfl v (G.hb hd) hv k) K
theorem bipush (G : Gd p s m meth c y bytes maxL ret Z a0 EL) {i : Int} (v : Int32) (hd : decode bytes pc = .ok (.bipush i, 2)) (hv : (Int8.ofInt i).toInt32 = v) (hp : pc + 2 = pc') (K : Run p l e R s m args below meth c Z wd ro EL n0 ow0 Q h ow cells slots (mkF m pc' Ls (.int v :: st))) : Run p l e R s m args below meth c Z wd ro EL n0 ow0 Q h ow cells slots (mkF m pc Ls st) := by
  subst hp
  exact Run.stp (fun T locs vm0 k0 X H t k => XT.bipushV X.here G.1 rfl v (G.hb hd) hv k) K
theorem sipush (G : Gd p s m meth c y bytes maxL ret Z a0 EL) {i : Int} (v : Int32) (hd : decode bytes pc = .ok (.sipush i, 3)) (hv : (Int16.ofInt i).toInt32 = v) (hp : pc + 3 = pc') (K : Run p l e R s m args below meth c Z wd ro EL n0 ow0 Q h ow cells slots (mkF m pc' Ls (.int v :: st))) : Run p l e R s m args below meth c Z wd ro EL n0 ow0 Q h ow cells slots (mkF m pc Ls st) := by
  subst hp
  exact Run.stp (fun T locs vm0 k0 X H t k => XT.sipushV X.here G.1 rfl v (G.hb hd) hv k) K
theorem aconstNull (G : Gd p s m meth c y bytes maxL ret Z a0 EL)  (hd : decode bytes pc = .ok (.aconst_null, 1))  (hp : pc + 1 = pc') (K : Run p l e R s m args below meth c Z wd ro EL n0 ow0 Q h ow cells slots (mkF m pc' Ls (.null :: st))) : Run p l e R s m args below meth c Z wd ro EL n0 ow0 Q h ow cells slots (mkF m pc Ls st) := by
  subst hp
  exact Run.stp (fun T locs vm0 k0 X H t k => XS.aconstNull X.here G.1 rfl (G.hb hd) k) K
theorem dup (G : Gd p s m meth c y bytes maxL ret Z a0 EL) {v : Value} (hd : decode bytes pc = .ok (.dup, 1)) (hv : v.category = 1) (hp : pc + 1 = pc') (K : Run p l e R s m args below meth c Z wd ro EL n0 ow0 Q h ow cells slots (mkF m pc' Ls (v :: v :: rest))) : Run p l e R s m args below meth c Z wd ro EL n0 ow0 Q h ow cells slots (mkF m pc Ls (v :: rest)) := by
  subst hp
  exact Run.stp (fun T locs vm0 k0 X H t k => XS.dup X.here G.1 rfl (G.hb hd) rfl hv k) K
theorem pop (G : Gd p s m meth c y bytes maxL ret Z a0 EL) {v : Value} (hd : decode bytes pc = .ok (.pop, 1)) (hv : v.category = 1) (hp : pc + 1 = pc') (K : Run p l e R s m args below meth c Z wd ro EL n0 ow0 Q h ow cells slots (mkF m pc' Ls rest)) : Run p l e R s m args below meth c Z wd ro EL n0 ow0 Q h ow cells slots (mkF m pc Ls (v :: rest)) := by
  subst hp
  exact Run.stp (fun T locs vm0 k0 X H t k => XT.pop X.here G.1 rfl (G.hb hd) rfl hv k) K
theorem dupX1 (G : Gd p s m meth c y bytes maxL ret Z a0 EL) {v w : Value} (hd : decode bytes pc = .ok (.dup_x1, 1)) (hv : v.category = 1) (hw : w.category = 1) (hp : pc + 1 = pc') (K : Run p l e R s m args below meth c Z wd ro EL n0 ow0 Q h ow cells slots (mkF m pc' Ls (v :: w :: v :: rest))) : Run p l e R s m args below meth c Z wd ro EL n0 ow0 Q h ow cells slots (mkF m pc Ls (v :: w :: rest)) := by
  subst hp
  exact Run.stp (fun T locs vm0 k0 X H t k => XT.dupX1 X.here G.1 rfl (G.hb hd) rfl hv hw k) K
theorem istoreN (G : Gd p s m meth c y bytes maxL ret Z a0 EL) {k : Fin 4} {x : Int32} (hd : decode bytes pc = .ok (.istore_n k, 1)) (hl : storeLocals Ls k.val (.int x) = some Ls') (hp : pc + 1 = pc') (K : Run p l e R s m args below meth c Z wd ro EL n0 ow0 Q h ow cells slots (mkF m pc' Ls' rest)) : Run p l e R s m args below meth c Z wd ro EL n0 ow0 Q h ow cells slots (mkF m pc Ls (.int x :: rest)) := by
  subst hp
  exact Run.stp (fun T locs vm0 k0 X H t k => XS.istoreN X.here G.1 rfl (G.hb hd) rfl hl k) K
theorem istore (G : Gd p s m meth c y bytes maxL ret Z a0 EL) {k : Nat} {x : Int32} (hd : decode bytes pc = .ok (.istore k, 2)) (hl : storeLocals Ls k (.int x) = some Ls') (hp : pc + 2 = pc') (K : Run p l e R s m args below meth c Z wd ro EL n0 ow0 Q h ow cells slots (mkF m pc' Ls' rest)) : Run p l e R s m args below meth c Z wd ro EL n0 ow0 Q h ow cells slots (mkF m pc Ls (.int x :: rest)) := by
  subst hp
  exact Run.stp (fun T locs vm0 k0 X H t k => XS.istore X.here G.1 rfl (G.hb hd) rfl hl k) K
theorem astoreN (G : Gd p s m meth c y bytes maxL ret Z a0 EL) {k : Fin 4} {x : Value} (hd : decode bytes pc = .ok (.astore_n k, 1)) (hv : x.isRef = true) (hl : storeLocals Ls k.val x = some Ls') (hp : pc + 1 = pc') (K : Run p l e R s m args below meth c Z wd ro EL n0 ow0 Q h ow cells slots (mkF m pc' Ls' rest)) : Run p l e R s m args below meth c Z wd ro EL n0 ow0 Q h ow cells slots (mkF m pc Ls (x :: rest)) := by
  subst hp
  exact Run.stp (fun T locs vm0 k0 X H t k => XS.astoreN X.here G.1 rfl (G.hb hd) rfl hv hl k) K
theorem astore (G : Gd p s m meth c y bytes maxL ret Z a0 EL) {k : Nat} {x : Value} (hd : decode bytes pc = .ok (.astore k, 2)) (hv : x.isRef = true) (hl : storeLocals Ls k x = some Ls') (hp : pc + 2 = pc') (K : Run p l e R s m args below meth c Z wd ro EL n0 ow0 Q h ow cells slots (mkF m pc' Ls' rest)) : Run p l e R s m args below meth c Z wd ro EL n0 ow0 Q h ow cells slots (mkF m pc Ls (x :: rest)) := by
  subst hp
  exact Run.stp (fun T locs vm0 k0 X H t k => XS.astore X.here G.1 rfl (G.hb hd) rfl hv hl k) K
theorem iinc (G : Gd p s m meth c y bytes maxL ret Z a0 EL) {k : Nat} {i : Int} {x : Int32} (v : Int32) (hd : decode bytes pc = .ok (.iinc k i, 3)) (hv : Int32.ofInt i = v) (hl : Ls[k]? = some (.val (.int x))) (hl' : storeLocals Ls k (.int (x + v)) = some Ls') (hp : pc + 3 = pc') (K : Run p l e R s m args below meth c Z wd ro EL n0 ow0 Q h ow cells slots (mkF m pc' Ls' st)) : Run p l e R s m args below meth c Z wd ro EL n0 ow0 Q h ow cells slots (mkF m pc Ls st) := by
  subst hp
  exact Run.stp (fun T locs vm0 k0 X H t k => XT.iincV X.here G.1 rfl v (G.hb hd) hv hl hl' k) K
theorem iadd (G : Gd p s m meth c y bytes maxL ret Z a0 EL) {x z : Int32} (hd : decode bytes pc = .ok (.iadd, 1))  (hp : pc + 1 = pc') (K : ∀ v : Int32, v = x + z → Run p l e R s m args below meth c Z wd ro EL n0 ow0 Q h ow cells slots (mkF m pc' Ls (.int v :: rest))) : Run p l e R s m args below meth c Z wd ro EL n0 ow0 Q h ow cells slots (mkF m pc Ls (.int z :: .int x :: rest)) := by
  subst hp
  exact Run.stp (fun T locs vm0 k0 X H t k => XS.iadd X.here G.1 rfl (G.hb hd) rfl k) (K _ rfl)
theorem isub (G : Gd p s m meth c y bytes maxL ret Z a0 EL) {x z : Int32} (hd : decode bytes pc = .ok (.isub, 1))  (hp : pc + 1 = pc') (K : ∀ v : Int32, v = x - z → Run p l e R s m args below meth c Z wd ro EL n0 ow0 Q h ow cells slots (mkF m pc' Ls (.int v :: rest))) : Run p l e R s m args below meth c Z wd ro EL n0 ow0 Q h ow cells slots (mkF m pc Ls (.int z :: .int x :: rest)) := by
  subst hp
  exact Run.stp (fun T locs vm0 k0 X H t k => XS.isub X.here G.1 rfl (G.hb hd) rfl k) (K _ rfl)
theorem iand (G : Gd p s m meth c y bytes maxL ret Z a0 EL) {x z : Int32} (hd : decode bytes pc = .ok (.iand, 1))  (hp : pc + 1 = pc') (K : ∀ v : Int32, v = x &&& z → Run p l e R s m args below meth c Z wd ro EL n0 ow0 Q h ow cells slots (mkF m pc' Ls (.int v :: rest))) : Run p l e R s m args below meth c Z wd ro EL n0 ow0 Q h ow cells slots (mkF m pc Ls (.int z :: .int x :: rest)) := by
  subst hp
  exact Run.stp (fun T locs vm0 k0 X H t k => XS.iand X.here G.1 rfl (G.hb hd) rfl k) (K _ rfl)
theorem imul (G : Gd p s m meth c y bytes maxL ret Z a0 EL) {x z : Int32} (hd : decode bytes pc = .ok (.imul, 1))  (hp : pc + 1 = pc') (K : ∀ v : Int32, v = x * z → Run p l e R s m args below meth c Z wd ro EL n0 ow0 Q h ow cells slots (mkF m pc' Ls (.int v :: rest))) : Run p l e R s m args below meth c Z wd ro EL n0 ow0 Q h ow cells slots (mkF m pc Ls (.int z :: .int x :: rest)) := by
  subst hp
  exact Run.stp (fun T locs vm0 k0 X H t k => XS.imul X.here G.1 rfl (G.hb hd) rfl k) (K _ rfl)
theorem ior (G : Gd p s m meth c y bytes maxL ret Z a0 EL) {x z : Int32} (hd : decode bytes pc = .ok (.ior, 1))  (hp : pc + 1 = pc') (K : ∀ v : Int32, v = x ||| z → Run p l e R s m args below meth c Z wd ro EL n0 ow0 Q h ow cells slots (mkF m pc' Ls (.int v :: rest))) : Run p l e R s m args below meth c Z wd ro EL n0 ow0 Q h ow cells slots (mkF m pc Ls (.int z :: .int x :: rest)) := by
  subst hp
  exact Run.stp (fun T locs vm0 k0 X H t k => XT.ior X.here G.1 rfl (G.hb hd) rfl k) (K _ rfl)
theorem ixor (G : Gd p s m meth c y bytes maxL ret Z a0 EL) {x z : Int32} (hd : decode bytes pc = .ok (.ixor, 1))  (hp : pc + 1 = pc') (K : ∀ v : Int32, v = x ^^^ z → Run p l e R s m args below meth c Z wd ro EL n0 ow0 Q h ow cells slots (mkF m pc' Ls (.int v :: rest))) : Run p l e R s m args below meth c Z wd ro EL n0 ow0 Q h ow cells slots (mkF m pc Ls (.int z :: .int x :: rest)) := by
  subst hp
  exact Run.stp (fun T locs vm0 k0 X H t k => XT.ixor X.here G.1 rfl (G.hb hd) rfl k) (K _ rfl)
theorem irem (G : Gd p s m meth c y bytes maxL ret Z a0 EL) {x z : Int32} (hd : decode bytes pc = .ok (.irem, 1)) (hz : z ≠ 0) (hp : pc + 1 = pc') (K : ∀ v : Int32, v = x % z → Run p l e R s m args below meth c Z wd ro EL n0 ow0 Q h ow cells slots (mkF m pc' Ls (.int v :: rest))) : Run p l e R s m args below meth c Z wd ro EL n0 ow0 Q h ow cells slots (mkF m pc Ls (.int z :: .int x :: rest)) := by
  subst hp
  exact Run.stp (fun T locs vm0 k0 X H t k => iremM X G.1 rfl (G.hb hd) rfl hz k) (K _ rfl)
theorem ineg (G : Gd p s m meth c y bytes maxL ret Z a0 EL) {x : Int32} (hd : decode bytes pc = .ok (.ineg, 1)) (hp : pc + 1 = pc') (K : ∀ v : Int32, v = -x → Run p l e R s m args below meth c Z wd ro EL n0 ow0 Q h ow cells slots (mkF m pc' Ls (.int v :: rest))) : Run p l e R s m args below meth c Z wd ro EL n0 ow0 Q h ow cells slots (mkF m pc Ls (.int x :: rest)) := by
  subst hp
  exact Run.stp (fun T locs vm0 k0 X H t k => XS.ineg X.here G.1 rfl (G.hb hd) rfl k) (K _ rfl)
theorem i2c (G : Gd p s m meth c y bytes maxL ret Z a0 EL) {x : Int32} (hd : decode bytes pc = .ok (.i2c, 1)) (hp : pc + 1 = pc') (K : ∀ v : Int32, v = x.toUInt32.toUInt16.toUInt32.toInt32 → Run p l e R s m args below meth c Z wd ro EL n0 ow0 Q h ow cells slots (mkF m pc' Ls (.int v :: rest))) : Run p l e R s m args below meth c Z wd ro EL n0 ow0 Q h ow cells slots (mkF m pc Ls (.int x :: rest)) := by
  subst hp
  exact Run.stp (fun T locs vm0 k0 X H t k => XT.i2c X.here G.1 rfl (G.hb hd) rfl k) (K _ rfl)
theorem i2b (G : Gd p s m meth c y bytes maxL ret Z a0 EL) {x : Int32} (hd : decode bytes pc = .ok (.i2b, 1)) (hp : pc + 1 = pc') (K : ∀ v : Int32, v = x.toInt8.toInt32 → Run p l e R s m args below meth c Z wd ro EL n0 ow0 Q h ow cells slots (mkF m pc' Ls (.int v :: rest))) : Run p l e R s m args below meth c Z wd ro EL n0 ow0 Q h ow cells slots (mkF m pc Ls (.int x :: rest)) := by
  subst hp
  exact Run.stp (fun T locs vm0 k0 X H t k => XT.i2b X.here G.1 rfl (G.hb hd) rfl k) (K _ rfl)
theorem ishl (G : Gd p s m meth c y bytes maxL ret Z a0 EL) {x z : Int32} (hd : decode bytes pc = .ok (.ishl, 1))  (hp : pc + 1 = pc') (K : ∀ v : Int32, v = x <<< (z &&& 31) → Run p l e R s m args below meth c Z wd ro EL n0 ow0 Q h ow cells slots (mkF m pc' Ls (.int v :: rest))) : Run p l e R s m args below meth c Z wd ro EL n0 ow0 Q h ow cells slots (mkF m pc Ls (.int z :: .int x :: rest)) := by
  subst hp
  exact Run.stp (fun T locs vm0 k0 X H t k => XT.ishl X.here G.1 rfl (G.hb hd) rfl k) (K _ rfl)
theorem ishr (G : Gd p s m meth c y bytes maxL ret Z a0 EL) {x z : Int32} (hd : decode bytes pc = .ok (.ishr, 1))  (hp : pc + 1 = pc') (K : ∀ v : Int32, v = x >>> (z &&& 31) → Run p l e R s m args below meth c Z wd ro EL n0 ow0 Q h ow cells slots (mkF m pc' Ls (.int v :: rest))) : Run p l e R s m args below meth c Z wd ro EL n0 ow0 Q h ow cells slots (mkF m pc Ls (.int z :: .int x :: rest)) := by
  subst hp
  exact Run.stp (fun T locs vm0 k0 X H t k => XT.ishr X.here G.1 rfl (G.hb hd) rfl k) (K _ rfl)
theorem iushr (G : Gd p s m meth c y bytes maxL ret Z a0 EL) {x z : Int32} (hd : decode bytes pc = .ok (.iushr, 1))  (hp : pc + 1 = pc') (K : ∀ v : Int32, v = (x.toUInt32 >>> (z &&& 31).toUInt32).toInt32 → Run p l e R s m args below meth c Z wd ro EL n0 ow0 Q h ow cells slots (mkF m pc' Ls (.int v :: rest))) : Run p l e R s m args below meth c Z wd ro EL n0 ow0 Q h ow cells slots (mkF m pc Ls (.int z :: .int x :: rest)) := by
  subst hp
  exact Run.stp (fun T locs vm0 k0 X H t k => XT.iushr X.here G.1 rfl (G.hb hd) rfl k) (K _ rfl)
theorem goto (G : Gd p s m meth c y bytes maxL ret Z a0 EL) {o : Int} (hd : decode bytes pc = .ok (.goto o, 3)) (ho : 0 ≤ (pc : Int) + o) (hp : ((pc : Int) + o).toNat = pc') (K : Run p l e R s m args below meth c Z wd ro EL n0 ow0 Q h ow cells slots (mkF m pc' Ls st)) : Run p l e R s m args below meth c Z wd ro EL n0 ow0 Q h ow cells slots (mkF m pc Ls st) :=
  Run.stp (fun T locs vm0 k0 X H t k => XS.goto X.here G.1 rfl rfl (G.hb hd) ho hp k) K
theorem icmp_eq_t (G : Gd p s m meth c y bytes maxL ret Z a0 EL) {o : Int} {x z : Int32} (hd : decode bytes pc = .ok (.if_icmp .eq o, 3)) (hc : x = z) (ho : 0 ≤ (pc : Int) + o) (hp : ((pc : Int) + o).toNat = pc') (K : Run p l e R s m args below meth c Z wd ro EL n0 ow0 Q h ow cells slots (mkF m pc' Ls rest)) : Run p l e R s m args below meth c Z wd ro EL n0 ow0 Q h ow cells slots (mkF m pc Ls (.int z :: .int x :: rest)) :=
  Run.stp (fun T locs vm0 k0 X H t k => XS.icmpYes X.here G.1 rfl rfl (G.hb hd) rfl (XT.ii_eq_t hc) ho hp k) K
theorem icmp_eq_f (G : Gd p s m meth c y bytes maxL ret Z a0 EL) {o : Int} {x z : Int32} (hd : decode bytes pc = .ok (.if_icmp .eq o, 3)) (hc : ¬ x = z) (hp : pc + 3 = pc') (K : Run p l e R s m args below meth c Z wd ro EL n0 ow0 Q h ow cells slots (mkF m pc' Ls rest)) : Run p l e R s m args below meth c Z wd ro EL n0 ow0 Q h ow cells slots (mkF m pc Ls (.int z :: .int x :: rest)) := by
  subst hp
  exact Run.stp (fun T locs vm0 k0 X H t k => XS.icmpNo X.here G.1 rfl (G.hb hd) rfl (XT.ii_eq_f hc) k) K
theorem icmp_eq (G : Gd p s m meth c y bytes maxL ret Z a0 EL) {o : Int} {x z : Int32} {pt pf : Nat} (hd : decode bytes pc = .ok (.if_icmp .eq o, 3)) (ho : 0 ≤ (pc : Int) + o) (hp : ((pc : Int) + o).toNat = pt) (hq : pc + 3 = pf) (K1 : (x = z) → Run p l e R s m args below meth c Z wd ro EL n0 ow0 Q h ow cells slots (mkF m pt Ls rest)) (K2 : (¬ x = z) → Run p l e R s m args below meth c Z wd ro EL n0 ow0 Q h ow cells slots (mkF m pf Ls rest)) : Run p l e R s m args below meth c Z wd ro EL n0 ow0 Q h ow cells slots (mkF m pc Ls (.int z :: .int x :: rest)) := by
  by_cases q : x = z
  · exact icmp_eq_t G hd q ho hp (K1 q)
  · exact icmp_eq_f G hd q hq (K2 q)
theorem icmp_ne_t (G : Gd p s m meth c y bytes maxL ret Z a0 EL) {o : Int} {x z : Int32} (hd : decode bytes pc = .ok (.if_icmp .ne o, 3)) (hc : ¬ x = z) (ho : 0 ≤ (pc : Int) + o) (hp : ((pc : Int) + o).toNat = pc') (K : Run p l e R s m args below meth c Z wd ro EL n0 ow0 Q h ow cells slots (mkF m pc' Ls rest)) : Run p l e R s m args below meth c Z wd ro EL n0 ow0 Q h ow cells slots (mkF m pc Ls (.int z :: .int x :: rest)) :=
  Run.stp (fun T locs vm0 k0 X H t k => XS.icmpYes X.here G.1 rfl rfl (G.hb hd) rfl (XT.ii_ne_t hc) ho hp k) K
theorem icmp_ne_f (G : Gd p s m meth c y bytes maxL ret Z a0 EL) {o : Int} {x z : Int32} (hd : decode bytes pc = .ok (.if_icmp .ne o, 3)) (hc : x = z) (hp : pc + 3 = pc') (K : Run p l e R s m args below meth c Z wd ro EL n0 ow0 Q h ow cells slots (mkF m pc' Ls rest)) : Run p l e R s m args below meth c Z wd ro EL n0 ow0 Q h ow cells slots (mkF m pc Ls (.int z :: .int x :: rest)) := by
  subst hp
  exact Run.stp (fun T locs vm0 k0 X H t k => XS.icmpNo X.here G.1 rfl (G.hb hd) rfl (XT.ii_ne_f hc) k) K
theorem icmp_ne (G : Gd p s m meth c y bytes maxL ret Z a0 EL) {o : Int} {x z : Int32} {pt pf : Nat} (hd : decode bytes pc = .ok (.if_icmp .ne o, 3)) (ho : 0 ≤ (pc : Int) + o) (hp : ((pc : Int) + o).toNat = pt) (hq : pc + 3 = pf) (K1 : (¬ x = z) → Run p l e R s m args below meth c Z wd ro EL n0 ow0 Q h ow cells slots (mkF m pt Ls rest)) (K2 : (x = z) → Run p l e R s m args below meth c Z wd ro EL n0 ow0 Q h ow cells slots (mkF m pf Ls rest)) : Run p l e R s m args below meth c Z wd ro EL n0 ow0 Q h ow cells slots (mkF m pc Ls (.int z :: .int x :: rest)) := by
  by_cases q : x = z
  · exact icmp_ne_f G hd q hq (K2 q)
  · exact icmp_ne_t G hd q ho hp (K1 q)
theorem icmp_lt_t (G : Gd p s m meth c y bytes maxL ret Z a0 EL) {o : Int} {x z : Int32} (hd : decode bytes pc = .ok (.if_icmp .lt o, 3)) (hc : x < z) (ho : 0 ≤ (pc : Int) + o) (hp : ((pc : Int) + o).toNat = pc') (K : Run p l e R s m args below meth c Z wd ro EL n0 ow0 Q h ow cells slots (mkF m pc' Ls rest)) : Run p l e R s m args below meth c Z wd ro EL n0 ow0 Q h ow cells slots (mkF m pc Ls (.int z :: .int x :: rest)) :=
  Run.stp (fun T locs vm0 k0 X H t k => XS.icmpYes X.here G.1 rfl rfl (G.hb hd) rfl (XT.ii_lt_t hc) ho hp k) K
theorem icmp_lt_f (G : Gd p s m meth c y bytes maxL ret Z a0 EL) {o : Int} {x z : Int32} (hd : decode bytes pc = .ok (.if_icmp .lt o, 3)) (hc : ¬ x < z) (hp : pc + 3 = pc') (K : Run p l e R s m args below meth c Z wd ro EL n0 ow0 Q h ow cells slots (mkF m pc' Ls rest)) : Run p l e R s m args below meth c Z wd ro EL n0 ow0 Q h ow cells slots (mkF m pc Ls (.int z :: .int x :: rest)) := by
  subst hp
  exact Run.stp (fun T locs vm0 k0 X H t k => XS.icmpNo X.here G.1 rfl (G.hb hd) rfl (XT.ii_lt_f hc) k) K
theorem icmp_lt (G : Gd p s m meth c y bytes maxL ret Z a0 EL) {o : Int} {x z : Int32} {pt pf : Nat} (hd : decode bytes pc = .ok (.if_icmp .lt o, 3)) (ho : 0 ≤ (pc : Int) + o) (hp : ((pc : Int) + o).toNat = pt) (hq : pc + 3 = pf) (K1 : (x < z) → Run p l e R s m args below meth c Z wd ro EL n0 ow0 Q h ow cells slots (mkF m pt Ls rest)) (K2 : (¬ x < z) → Run p l e R s m args below meth c Z wd ro EL n0 ow0 Q h ow cells slots (mkF m pf Ls rest)) : Run p l e R s m args below meth c Z wd ro EL n0 ow0 Q h ow cells slots (mkF m pc Ls (.int z :: .int x :: rest)) := by
  by_cases q : x < z
  · exact icmp_lt_t G hd q ho hp (K1 q)
  · exact icmp_lt_f G hd q hq (K2 q)
theorem icmp_ge_t (G : Gd p s m meth c y bytes maxL ret Z a0 EL) {o : Int} {x z : Int32} (hd : decode bytes pc = .ok (.if_icmp .ge o, 3)) (hc : ¬ x < z) (ho : 0 ≤ (pc : Int) + o) (hp : ((pc : Int) + o).toNat = pc') (K : Run p l e R s m args below meth c Z wd ro EL n0 ow0 Q h ow cells slots (mkF m pc' Ls rest)) : Run p l e R s m args below meth c Z wd ro EL n0 ow0 Q h ow cells slots (mkF m pc Ls (.int z :: .int x :: rest)) :=
  Run.stp (fun T locs vm0 k0 X H t k => XS.icmpYes X.here G.1 rfl rfl (G.hb hd) rfl (XT.ii_ge_t hc) ho hp k) K
theorem icmp_ge_f (G : Gd p s m meth c y bytes maxL ret Z a0 EL) {o : Int} {x z : Int32} (hd : decode bytes pc = .ok (.if_icmp .ge o, 3)) (hc : x < z) (hp : pc + 3 = pc') (K : Run p l e R s m args below meth c Z wd ro EL n0 ow0 Q h ow cells slots (mkF m pc' Ls rest)) : Run p l e R s m args below meth c Z wd ro EL n0 ow0 Q h ow cells slots (mkF m pc Ls (.int z :: .int x :: rest)) := by
  subst hp
  exact Run.stp (fun T locs vm0 k0 X H t k => XS.icmpNo X.here G.1 rfl (G.hb hd) rfl (XT.ii_ge_f hc) k) K
theorem icmp_ge (G : Gd p s m meth c y bytes maxL ret Z a0 EL) {o : Int} {x z : Int32} {pt pf : Nat} (hd : decode bytes pc = .ok (.if_icmp .ge o, 3)) (ho : 0 ≤ (pc : Int) + o) (hp : ((pc : Int) + o).toNat = pt) (hq : pc + 3 = pf) (K1 : (¬ x < z) → Run p l e R s m args below meth c Z wd ro EL n0 ow0 Q h ow cells slots (mkF m pt Ls rest)) (K2 : (x < z) → Run p l e R s m args below meth c Z wd ro EL n0 ow0 Q h ow cells slots (mkF m pf Ls rest)) : Run p l e R s m args below meth c Z wd ro EL n0 ow0 Q h ow cells slots (mkF m pc Ls (.int z :: .int x :: rest)) := by
  by_cases q : x < z
  · exact icmp_ge_f G hd q hq (K2 q)
  · exact icmp_ge_t G hd q ho hp (K1 q)
theorem icmp_gt_t (G : Gd p s m meth c y bytes maxL ret Z a0 EL) {o : Int} {x z : Int32} (hd : decode bytes pc = .ok (.if_icmp .gt o, 3)) (hc : z < x) (ho : 0 ≤ (pc : Int) + o) (hp : ((pc : Int) + o).toNat = pc') (K : Run p l e R s m args below meth c Z wd ro EL n0 ow0 Q h ow cells slots (mkF m pc' Ls rest)) : Run p l e R s m args below meth c Z wd ro EL n0 ow0 Q h ow cells slots (mkF m pc Ls (.int z :: .int x :: rest)) :=
  Run.stp (fun T locs vm0 k0 X H t k => XS.icmpYes X.here G.1 rfl rfl (G.hb hd) rfl (XT.ii_gt_t hc) ho hp k) K
theorem icmp_gt_f (G : Gd p s m meth c y bytes maxL ret Z a0 EL) {o : Int} {x z : Int32} (hd : decode bytes pc = .ok (.if_icmp .gt o, 3)) (hc : ¬ z < x) (hp : pc + 3 = pc') (K : Run p l e R s m args below meth c Z wd ro EL n0 ow0 Q h ow cells slots (mkF m pc' Ls rest)) : Run p l e R s m args below meth c Z wd ro EL n0 ow0 Q h ow cells slots (mkF m pc Ls (.int z :: .int x :: rest)) := by
  subst hp
  exact Run.stp (fun T locs vm0 k0 X H t k => XS.icmpNo X.here G.1 rfl (G.hb hd) rfl (XT.ii_gt_f hc) k) K
theorem icmp_gt (G : Gd p s m meth c y bytes maxL ret Z a0 EL) {o : Int} {x z : Int32} {pt pf : Nat} (hd : decode bytes pc = .ok (.if_icmp .gt o, 3)) (ho : 0 ≤ (pc : Int) + o) (hp : ((pc : Int) + o).toNat = pt) (hq : pc + 3 = pf) (K1 : (z < x) → Run p l e R s m args below meth c Z wd ro EL n0 ow0 Q h ow cells slots (mkF m pt Ls rest)) (K2 : (¬ z < x) → Run p l e R s m args below meth c Z wd ro EL n0 ow0 Q h ow cells slots (mkF m pf Ls rest)) : Run p l e R s m args below meth c Z wd ro EL n0 ow0 Q h ow cells slots (mkF m pc Ls (.int z :: .int x :: rest)) := by
  by_cases q : z < x
  · exact icmp_gt_t G hd q ho hp (K1 q)
  · exact icmp_gt_f G hd q hq (K2 q)
theorem icmp_le_t (G : Gd p s m meth c y bytes maxL ret Z a0 EL) {o : Int} {x z : Int32} (hd : decode bytes pc = .ok (.if_icmp .le o, 3)) (hc : ¬ z < x) (ho : 0 ≤ (pc : Int) + o) (hp : ((pc : Int) + o).toNat = pc') (K : Run p l e R s m args below meth c Z wd ro EL n0 ow0 Q h ow cells slots (mkF m pc' Ls rest)) : Run p l e R s m args below meth c Z wd ro EL n0 ow0 Q h ow cells slots (mkF m pc Ls (.int z :: .int x :: rest)) :=
  Run.stp (fun T locs vm0 k0 X H t k => XS.icmpYes X.here G.1 rfl rfl (G.hb hd) rfl (XT.ii_le_t hc) ho hp k) K
theorem icmp_le_f (G : Gd p s m meth c y bytes maxL ret Z a0 EL) {o : Int} {x z : Int32} (hd : decode bytes pc = .ok (.if_icmp .le o, 3)) (hc : z < x) (hp : pc + 3 = pc') (K : Run p l e R s m args below meth c Z wd ro EL n0 ow0 Q h ow cells slots (mkF m pc' Ls rest)) : Run p l e R s m args below meth c Z wd ro EL n0 ow0 Q h ow cells slots (mkF m pc Ls (.int z :: .int x :: rest)) := by
  subst hp
  exact Run.stp (fun T locs vm0 k0 X H t k => XS.icmpNo X.here G.1 rfl (G.hb hd) rfl (XT.ii_le_f hc) k) K
theorem icmp_le (G : Gd p s m meth c y bytes maxL ret Z a0 EL) {o : Int} {x z : Int32} {pt pf : Nat} (hd : decode bytes pc = .ok (.if_icmp .le o, 3)) (ho : 0 ≤ (pc : Int) + o) (hp : ((pc : Int) + o).toNat = pt) (hq : pc + 3 = pf) (K1 : (¬ z < x) → Run p l e R s m args below meth c Z wd ro EL n0 ow0 Q h ow cells slots (mkF m pt Ls rest)) (K2 : (z < x) → Run p l e R s m args below meth c Z wd ro EL n0 ow0 Q h ow cells slots (mkF m pf Ls rest)) : Run p l e R s m args below meth c Z wd ro EL n0 ow0 Q h ow cells slots (mkF m pc Ls (.int z :: .int x :: rest)) := by
  by_cases q : z < x
  · exact icmp_le_f G hd q hq (K2 q)
  · exact icmp_le_t G hd q ho hp (K1 q)
theorem if_eq_t (G : Gd p s m meth c y bytes maxL ret Z a0 EL) {o : Int} {x : Int32} (hd : decode bytes pc = .ok (.ifCond .eq o, 3)) (hc : x = 0) (ho : 0 ≤ (pc : Int) + o) (hp : ((pc : Int) + o).toNat = pc') (K : Run p l e R s m args below meth c Z wd ro EL n0 ow0 Q h ow cells slots (mkF m pc' Ls rest)) : Run p l e R s m args below meth c Z wd ro EL n0 ow0 Q h ow cells slots (mkF m pc Ls (.int x :: rest)) :=
  Run.stp (fun T locs vm0 k0 X H t k => XS.ifYes X.here G.1 rfl rfl (G.hb hd) rfl (XT.i0_eq_t hc) ho hp k) K
theorem if_eq_f (G : Gd p s m meth c y bytes maxL ret Z a0 EL) {o : Int} {x : Int32} (hd : decode bytes pc = .ok (.ifCond .eq o, 3)) (hc : ¬ x = 0) (hp : pc + 3 = pc') (K : Run p l e R s m args below meth c Z wd ro EL n0 ow0 Q h ow cells slots (mkF m pc' Ls rest)) : Run p l e R s m args below meth c Z wd ro EL n0 ow0 Q h ow cells slots (mkF m pc Ls (.int x :: rest)) := by
  subst hp
  exact Run.stp (fun T locs vm0 k0 X H t k => XS.ifNo X.here G.1 rfl (G.hb hd) rfl (XT.i0_eq_f hc) k) K
theorem if_eq (G : Gd p s m meth c y bytes maxL ret Z a0 EL) {o : Int} {x : Int32} {pt pf : Nat} (hd : decode bytes pc = .ok (.ifCond .eq o, 3)) (ho : 0 ≤ (pc : Int) + o) (hp : ((pc : Int) + o).toNat = pt) (hq : pc + 3 = pf) (K1 : (x = 0) → Run p l e R s m args below meth c Z wd ro EL n0 ow0 Q h ow cells slots (mkF m pt Ls rest)) (K2 : (¬ x = 0) → Run p l e R s m args below meth c Z wd ro EL n0 ow0 Q h ow cells slots (mkF m pf Ls rest)) : Run p l e R s m args below meth c Z wd ro EL n0 ow0 Q h ow cells slots (mkF m pc Ls (.int x :: rest)) := by
  by_cases q : x = 0
  · exact if_eq_t G hd q ho hp (K1 q)
  · exact if_eq_f G hd q hq (K2 q)
theorem if_ne_t (G : Gd p s m meth c y bytes maxL ret Z a0 EL) {o : Int} {x : Int32} (hd : decode bytes pc = .ok (.ifCond .ne o, 3)) (hc : ¬ x = 0) (ho : 0 ≤ (pc : Int) + o) (hp : ((pc : Int) + o).toNat = pc') (K : Run p l e R s m args below meth c Z wd ro EL n0 ow0 Q h ow cells slots (mkF m pc' Ls rest)) : Run p l e R s m args below meth c Z wd ro EL n0 ow0 Q h ow cells slots (mkF m pc Ls (.int x :: rest)) :=
  Run.stp (fun T locs vm0 k0 X H t k => XS.ifYes X.here G.1 rfl rfl (G.hb hd) rfl (XT.i0_ne_t hc) ho hp k) K
theorem if_ne_f (G : Gd p s m meth c y bytes maxL ret Z a0 EL) {o : Int} {x : Int32} (hd : decode bytes pc = .ok (.ifCond .ne o, 3)) (hc : x = 0) (hp : pc + 3 = pc') (K : Run p l e R s m args below meth c Z wd ro EL n0 ow0 Q h ow cells slots (mkF m pc' Ls rest)) : Run p l e R s m args below meth c Z wd ro EL n0 ow0 Q h ow cells slots (mkF m pc Ls (.int x :: rest)) := by
  subst hp
  exact Run.stp (fun T locs vm0 k0 X H t k => XS.ifNo X.here G.1 rfl (G.hb hd) rfl (XT.i0_ne_f hc) k) K
theorem if_ne (G : Gd p s m meth c y bytes maxL ret Z a0 EL) {o : Int} {x : Int32} {pt pf : Nat} (hd : decode bytes pc = .ok (.ifCond .ne o, 3)) (ho : 0 ≤ (pc : Int) + o) (hp : ((pc : Int) + o).toNat = pt) (hq : pc + 3 = pf) (K1 : (¬ x = 0) → Run p l e R s m args below meth c Z wd ro EL n0 ow0 Q h ow cells slots (mkF m pt Ls rest)) (K2 : (x = 0) → Run p l e R s m args below meth c Z wd ro EL n0 ow0 Q h ow cells slots (mkF m pf Ls rest)) : Run p l e R s m args below meth c Z wd ro EL n0 ow0 Q h ow cells slots (mkF m pc Ls (.int x :: rest)) := by
  by_cases q : x = 0
  · exact if_ne_f G hd q hq (K2 q)
  · exact if_ne_t G hd q ho hp (K1 q)
theorem if_lt_t (G : Gd p s m meth c y bytes maxL ret Z a0 EL) {o : Int} {x : Int32} (hd : decode bytes pc = .ok (.ifCond .lt o, 3)) (hc : x < 0) (ho : 0 ≤ (pc : Int) + o) (hp : ((pc : Int) + o).toNat = pc') (K : Run p l e R s m args below meth c Z wd ro EL n0 ow0 Q h ow cells slots (mkF m pc' Ls rest)) : Run p l e R s m args below meth c Z wd ro EL n0 ow0 Q h ow cells slots (mkF m pc Ls (.int x :: rest)) :=
  Run.stp (fun T locs vm0 k0 X H t k => XS.ifYes X.here G.1 rfl rfl (G.hb hd) rfl (XT.i0_lt_t hc) ho hp k) K
theorem if_lt_f (G : Gd p s m meth c y bytes maxL ret Z a0 EL) {o : Int} {x : Int32} (hd : decode bytes pc = .ok (.ifCond .lt o, 3)) (hc : ¬ x < 0) (hp : pc + 3 = pc') (K : Run p l e R s m args below meth c Z wd ro EL n0 ow0 Q h ow cells slots (mkF m pc' Ls rest)) : Run p l e R s m args below meth c Z wd ro EL n0 ow0 Q h ow cells slots (mkF m pc Ls (.int x :: rest)) := by
  subst hp
  exact Run.stp (fun T locs vm0 k0 X H t k => XS.ifNo X.here G.1 rfl (G.hb hd) rfl (XT.i0_lt_f hc) k) K
theorem if_lt (G : Gd p s m meth c y bytes maxL ret Z a0 EL) {o : Int} {x : Int32} {pt pf : Nat} (hd : decode bytes pc = .ok (.ifCond .lt o, 3)) (ho : 0 ≤ (pc : Int) + o) (hp : ((pc : Int) + o).toNat = pt) (hq : pc + 3 = pf) (K1 : (x < 0) → Run p l e R s m args below meth c Z wd ro EL n0 ow0 Q h ow cells slots (mkF m pt Ls rest)) (K2 : (¬ x < 0) → Run p l e R s m args below meth c Z wd ro EL n0 ow0 Q h ow cells slots (mkF m pf Ls rest)) : Run p l e R s m args below meth c Z wd ro EL n0 ow0 Q h ow cells slots (mkF m pc Ls (.int x :: rest)) := by
  by_cases q : x < 0
  · exact if_lt_t G hd q ho hp (K1 q)
  · exact if_lt_f G hd q hq (K2 q)
theorem if_ge_t (G : Gd p s m meth c y bytes maxL ret Z a0 EL) {o : Int} {x : Int32} (hd : decode bytes pc = .ok (.ifCond .ge o, 3)) (hc : ¬ x < 0) (ho : 0 ≤ (pc : Int) + o) (hp : ((pc : Int) + o).toNat = pc') (K : Run p l e R s m args below meth c Z wd ro EL n0 ow0 Q h ow cells slots (mkF m pc' Ls rest)) : Run p l e R s m args below meth c Z wd ro EL n0 ow0 Q h ow cells slots (mkF m pc Ls (.int x :: rest)) :=
  Run.stp (fun T locs vm0 k0 X H t k => XS.ifYes X.here G.1 rfl rfl (G.hb hd) rfl (XT.i0_ge_t hc) ho hp k) K
theorem if_ge_f (G : Gd p s m meth c y bytes maxL ret Z a0 EL) {o : Int} {x : Int32} (hd : decode bytes pc = .ok (.ifCond .ge o, 3)) (hc : x < 0) (hp : pc + 3 = pc') (K : Run p l e R s m args below meth c Z wd ro EL n0 ow0 Q h ow cells slots (mkF m pc' Ls rest)) : Run p l e R s m args below meth c Z wd ro EL n0 ow0 Q h ow cells slots (mkF m pc Ls (.int x :: rest)) := by
  subst hp
  exact Run.stp (fun T locs vm0 k0 X H t k => XS.ifNo X.here G.1 rfl (G.hb hd) rfl (XT.i0_ge_f hc) k) K
theorem if_ge (G : Gd p s m meth c y bytes maxL ret Z a0 EL) {o : Int} {x : Int32} {pt pf : Nat} (hd : decode bytes pc = .ok (.ifCond .ge o, 3)) (ho : 0 ≤ (pc : Int) + o) (hp : ((pc : Int) + o).toNat = pt) (hq : pc + 3 = pf) (K1 : (¬ x < 0) → Run p l e R s m args below meth c Z wd ro EL n0 ow0 Q h ow cells slots (mkF m pt Ls rest)) (K2 : (x < 0) → Run p l e R s m args below meth c Z wd ro EL n0 ow0 Q h ow cells slots (mkF m pf Ls rest)) : Run p l e R s m args below meth c Z wd ro EL n0 ow0 Q h ow cells slots (mkF m pc Ls (.int x :: rest)) := by
  by_cases q : x < 0
  · exact if_ge_f G hd q hq (K2 q)
  · exact if_ge_t G hd q ho hp (K1 q)
theorem if_gt_t (G : Gd p s m meth c y bytes maxL ret Z a0 EL) {o : Int} {x : Int32} (hd : decode bytes pc = .ok (.ifCond .gt o, 3)) (hc : 0 < x) (ho : 0 ≤ (pc : Int) + o) (hp : ((pc : Int) + o).toNat = pc') (K : Run p l e R s m args below meth c Z wd ro EL n0 ow0 Q h ow cells slots (mkF m pc' Ls rest)) : Run p l e R s m args below meth c Z wd ro EL n0 ow0 Q h ow cells slots (mkF m pc Ls (.int x :: rest)) :=
  Run.stp (fun T locs vm0 k0 X H t k => XS.ifYes X.here G.1 rfl rfl (G.hb hd) rfl (XT.i0_gt_t hc) ho hp k) K
theorem if_gt_f (G : Gd p s m meth c y bytes maxL ret Z a0 EL) {o : Int} {x : Int32} (hd : decode bytes pc = .ok (.ifCond .gt o, 3)) (hc : ¬ 0 < x) (hp : pc + 3 = pc') (K : Run p l e R s m args below meth c Z wd ro EL n0 ow0 Q h ow cells slots (mkF m pc' Ls rest)) : Run p l e R s m args below meth c Z wd ro EL n0 ow0 Q h ow cells slots (mkF m pc Ls (.int x :: rest)) := by
  subst hp
  exact Run.stp (fun T locs vm0 k0 X H t k => XS.ifNo X.here G.1 rfl (G.hb hd) rfl (XT.i0_gt_f hc) k) K
theorem if_gt (G : Gd p s m meth c y bytes maxL ret Z a0 EL) {o : Int} {x : Int32} {pt pf : Nat} (hd : decode bytes pc = .ok (.ifCond .gt o, 3)) (ho : 0 ≤ (pc : Int) + o) (hp : ((pc : Int) + o).toNat = pt) (hq : pc + 3 = pf) (K1 : (0 < x) → Run p l e R s m args below meth c Z wd ro EL n0 ow0 Q h ow cells slots (mkF m pt Ls rest)) (K2 : (¬ 0 < x) → Run p l e R s m args below meth c Z wd ro EL n0 ow0 Q h ow cells slots (mkF m pf Ls rest)) : Run p l e R s m args below meth c Z wd ro EL n0 ow0 Q h ow cells slots (mkF m pc Ls (.int x :: rest)) := by
  by_cases q : 0 < x
  · exact if_gt_t G hd q ho hp (K1 q)
  · exact if_gt_f G hd q hq (K2 q)
theorem if_le_t (G : Gd p s m meth c y bytes maxL ret Z a0 EL) {o : Int} {x : Int32} (hd : decode bytes pc = .ok (.ifCond .le o, 3)) (hc : ¬ 0 < x) (ho : 0 ≤ (pc : Int) + o) (hp : ((pc : Int) + o).toNat = pc') (K : Run p l e R s m args below meth c Z wd ro EL n0 ow0 Q h ow cells slots (mkF m pc' Ls rest)) : Run p l e R s m args below meth c Z wd ro EL n0 ow0 Q h ow cells slots (mkF m pc Ls (.int x :: rest)) :=
  Run.stp (fun T locs vm0 k0 X H t k => XS.ifYes X.here G.1 rfl rfl (G.hb hd) rfl (XT.i0_le_t hc) ho hp k) K
theorem if_le_f (G : Gd p s m meth c y bytes maxL ret Z a0 EL) {o : Int} {x : Int32} (hd : decode bytes pc = .ok (.ifCond .le o, 3)) (hc : 0 < x) (hp : pc + 3 = pc') (K : Run p l e R s m args below meth c Z wd ro EL n0 ow0 Q h ow cells slots (mkF m pc' Ls rest)) : Run p l e R s m args below meth c Z wd ro EL n0 ow0 Q h ow cells slots (mkF m pc Ls (.int x :: rest)) := by
  subst hp
  exact Run.stp (fun T locs vm0 k0 X H t k => XS.ifNo X.here G.1 rfl (G.hb hd) rfl (XT.i0_le_f hc) k) K
theorem if_le (G : Gd p s m meth c y bytes maxL ret Z a0 EL) {o : Int} {x : Int32} {pt pf : Nat} (hd : decode bytes pc = .ok (.ifCond .le o, 3)) (ho : 0 ≤ (pc : Int) + o) (hp : ((pc : Int) + o).toNat = pt) (hq : pc + 3 = pf) (K1 : (¬ 0 < x) → Run p l e R s m args below meth c Z wd ro EL n0 ow0 Q h ow cells slots (mkF m pt Ls rest)) (K2 : (0 < x) → Run p l e R s m args below meth c Z wd ro EL n0 ow0 Q h ow cells slots (mkF m pf Ls rest)) : Run p l e R s m args below meth c Z wd ro EL n0 ow0 Q h ow cells slots (mkF m pc Ls (.int x :: rest)) := by
  by_cases q : 0 < x
  · exact if_le_f G hd q hq (K2 q)
  · exact if_le_t G hd q ho hp (K1 q)
theorem ifnull_t (G : Gd p s m meth c y bytes maxL ret Z a0 EL) {o : Int} (hd : decode bytes pc = .ok (.ifnull o, 3)) (ho : 0 ≤ (pc : Int) + o) (hp : ((pc : Int) + o).toNat = pc') (K : Run p l e R s m args below meth c Z wd ro EL n0 ow0 Q h ow cells slots (mkF m pc' Ls rest)) : Run p l e R s m args below meth c Z wd ro EL n0 ow0 Q h ow cells slots (mkF m pc Ls (.null :: rest)) :=
  Run.stp (fun T locs vm0 k0 X H t k => XS.ifnullYes X.here G.1 rfl rfl (G.hb hd) rfl ho hp k) K
theorem ifnull_f (G : Gd p s m meth c y bytes maxL ret Z a0 EL) {o : Int} {b : Addr} (hd : decode bytes pc = .ok (.ifnull o, 3)) (hp : pc + 3 = pc') (K : Run p l e R s m args below meth c Z wd ro EL n0 ow0 Q h ow cells slots (mkF m pc' Ls rest)) : Run p l e R s m args below meth c Z wd ro EL n0 ow0 Q h ow cells slots (mkF m pc Ls (.ref b :: rest)) := by
  subst hp
  exact Run.stp (fun T locs vm0 k0 X H t k => XS.ifnullNo X.here G.1 rfl (G.hb hd) rfl k) K
theorem ifnonnull_t (G : Gd p s m meth c y bytes maxL ret Z a0 EL) {o : Int} {b : Addr} (hd : decode bytes pc = .ok (.ifnonnull o, 3)) (ho : 0 ≤ (pc : Int) + o) (hp : ((pc : Int) + o).toNat = pc') (K : Run p l e R s m args below meth c Z wd ro EL n0 ow0 Q h ow cells slots (mkF m pc' Ls rest)) : Run p l e R s m args below meth c Z wd ro EL n0 ow0 Q h ow cells slots (mkF m pc Ls (.ref b :: rest)) :=
  Run.stp (fun T locs vm0 k0 X H t k => XT.ifnonnullYes X.here G.1 rfl rfl (G.hb hd) rfl ho hp k) K
theorem ifnonnull_f (G : Gd p s m meth c y bytes maxL ret Z a0 EL) {o : Int} (hd : decode bytes pc = .ok (.ifnonnull o, 3)) (hp : pc + 3 = pc') (K : Run p l e R s m args below meth c Z wd ro EL n0 ow0 Q h ow cells slots (mkF m pc' Ls rest)) : Run p l e R s m args below meth c Z wd ro EL n0 ow0 Q h ow cells slots (mkF m pc Ls (.null :: rest)) := by
  subst hp
  exact Run.stp (fun T locs vm0 k0 X H t k => XT.ifnonnullNo X.here G.1 rfl (G.hb hd) rfl k) K
theorem acmp_eq_t (G : Gd p s m meth c y bytes maxL ret Z a0 EL) {o : Int} {v w : Value} (hd : decode bytes pc = .ok (.if_acmp .eq o, 3)) (hv : v.isRef = true) (hw : w.isRef = true) (hc : v = w) (ho : 0 ≤ (pc : Int) + o) (hp : ((pc : Int) + o).toNat = pc') (K : Run p l e R s m args below meth c Z wd ro EL n0 ow0 Q h ow cells slots (mkF m pc' Ls rest)) : Run p l e R s m args below meth c Z wd ro EL n0 ow0 Q h ow cells slots (mkF m pc Ls (w :: v :: rest)) :=
  Run.stp (fun T locs vm0 k0 X H t k => XT.acmpYes X.here G.1 rfl rfl (G.hb hd) rfl hv hw (XT.aa_eq_t hc) ho hp k) K
theorem acmp_eq_f (G : Gd p s m meth c y bytes maxL ret Z a0 EL) {o : Int} {v w : Value} (hd : decode bytes pc = .ok (.if_acmp .eq o, 3)) (hv : v.isRef = true) (hw : w.isRef = true) (hc : ¬ v = w) (hp : pc + 3 = pc') (K : Run p l e R s m args below meth c Z wd ro EL n0 ow0 Q h ow cells slots (mkF m pc' Ls rest)) : Run p l e R s m args below meth c Z wd ro EL n0 ow0 Q h ow cells slots (mkF m pc Ls (w :: v :: rest)) := by
  subst hp
  exact Run.stp (fun T locs vm0 k0 X H t k => XT.acmpNo X.here G.1 rfl (G.hb hd) rfl hv hw (XT.aa_eq_f hc) k) K
theorem acmp_ne_t (G : Gd p s m meth c y bytes maxL ret Z a0 EL) {o : Int} {v w : Value} (hd : decode bytes pc = .ok (.if_acmp .ne o, 3)) (hv : v.isRef = true) (hw : w.isRef = true) (hc : ¬ v = w) (ho : 0 ≤ (pc : Int) + o) (hp : ((pc : Int) + o).toNat = pc') (K : Run p l e R s m args below meth c Z wd ro EL n0 ow0 Q h ow cells slots (mkF m pc' Ls rest)) : Run p l e R s m args below meth c Z wd ro EL n0 ow0 Q h ow cells slots (mkF m pc Ls (w :: v :: rest)) :=
  Run.stp (fun T locs vm0 k0 X H t k => XT.acmpYes X.here G.1 rfl rfl (G.hb hd) rfl hv hw (XT.aa_ne_t hc) ho hp k) K
theorem acmp_ne_f (G : Gd p s m meth c y bytes maxL ret Z a0 EL) {o : Int} {v w : Value} (hd : decode bytes pc = .ok (.if_acmp .ne o, 3)) (hv : v.isRef = true) (hw : w.isRef = true) (hc : v = w) (hp : pc + 3 = pc') (K : Run p l e R s m args below meth c Z wd ro EL n0 ow0 Q h ow cells slots (mkF m pc' Ls rest)) : Run p l e R s m args below meth c Z wd ro EL n0 ow0 Q h ow cells slots (mkF m pc Ls (w :: v :: rest)) := by
  subst hp
  exact Run.stp (fun T locs vm0 k0 X H t k => XT.acmpNo X.here G.1 rfl (G.hb hd) rfl hv hw (XT.aa_ne_f hc) k) K
theorem ldcInt (G : Gd p s m meth c y bytes maxL ret Z a0 EL) {idx : Nat} {v : Int32} (hd : decode bytes pc = .ok (.ldc idx, 2)) (w : (Jvm.Cond.constant y.cls idx v).before a0 Z = true) (hp : pc + 2 = pc') (K : Run p l e R s m args below meth c Z wd ro EL n0 ow0 Q h ow cells slots (mkF m pc' Ls (.int v :: st))) : Run p l e R s m args below meth c Z wd ro EL n0 ow0 Q h ow cells slots (mkF m pc Ls st) := by
  subst hp
  exact Run.stp (fun T locs vm0 k0 X H t k => X.ldcI G.1 (G.own H.1) (mv (s := s.setVm vm0) H.2.2.1 w) rfl (G.hb hd) k) K
theorem getf (G : Gd p s m meth c y bytes maxL ret Z a0 EL) {idx : Nat} {R0 O n d : String} {a : Addr} {v : Value} (hd : decode bytes pc = .ok (.getfield idx, 3)) (w : (Jvm.Cond.fieldLink y.cls idx R0 n d).before a0 Z = true) (via : Via Z R0 O n d) (F : Fld Z h a O n d v) (hp : pc + 3 = pc') (K : Run p l e R s m args below meth c Z wd ro EL n0 ow0 Q h ow cells slots (mkF m pc' Ls (v :: rest))) : Run p l e R s m args below meth c Z wd ro EL n0 ow0 Q h ow cells slots (mkF m pc Ls (.ref a :: rest)) := by
  subst hp
  exact Run.mov (fun T locs vm0 k0 X H => getF X G.1 H.2.2.1 (host := "") (G.own H.1) (Or.inl w) via H.2.2.2.1 F rfl rfl (G.hb hd)) K
theorem gets (G : Gd p s m meth c y bytes maxL ret Z a0 EL) {idx : Nat} {R0 O n d : String} {v : Value} (hd : decode bytes pc = .ok (.getstatic idx, 3)) (w : (Jvm.Cond.fieldLink y.cls idx R0 n d).before a0 Z = true) (via : Via Z R0 O n d) (F : Sta Z Z.heap O n d v) (hp : pc + 3 = pc') (K : Run p l e R s m args below meth c Z wd ro EL n0 ow0 Q h ow cells slots (mkF m pc' Ls (v :: st))) : Run p l e R s m args below meth c Z wd ro EL n0 ow0 Q h ow cells slots (mkF m pc Ls st) := by
  subst hp
  exact Run.mov (fun T locs vm0 k0 X H => getS X G.1 H.2.2.1 (host := "") (G.own H.1) w via H.2.2.2.1 (F.ext H.2.2.2.2.2.2.2.1.2) rfl (G.hb hd)) K
theorem putf (G : Gd p s m meth c y bytes maxL ret Z a0 EL) {idx kk : Nat} {R0 O n d C : String} {a : Addr} {v old : Value} {ty : FieldType} (hd : decode bytes pc = .ok (.putfield idx, 3)) (w : (Jvm.Cond.fieldLink y.cls idx R0 n d).before a0 Z = true) (via : Via Z R0 O n d) (F : Fld Z h a O n d old) (E : Exa Z h a C) (L : (Jvm.Cond.lays C O n d).before a0 Z = true ∨ ((Jvm.Cond.laysFinal C O n d).before a0 Z = true ∧ y.cls = O ∧ y.name = "<init>")) (wi : (Jvm.Cond.instantiable C kk).before a0 Z = true) (hty : parseFieldDescriptor d = some ty) (hn : narrow ty v = v) (hf : fits ty v = true) (ha : a ∈ ow) (hp : pc + 3 = pc')
    (K : ∀ h', Wr h h' a (RoadKit.slotOf Z O n d) v → Run p l e R s m args below meth c Z wd ro EL n0 ow0 Q h' ow cells slots (mkF m pc' Ls rest)) : Run p l e R s m args below meth c Z wd ro EL n0 ow0 Q h ow cells slots (mkF m pc Ls (v :: .ref a :: rest)) := by
  subst hp
  intro T locs vm0 k0 X H
  obtain ⟨T', h', X', eT, W, st⟩ := putF X G.1 H.2.2.1 (host := "") (G.own H.1) (Or.inl w) via H.2.2.2.1 F E (L.imp id fun q => ⟨q.1, q.2.1, G.2.2.2.2.2.1.trans q.2.2⟩) wi hty hn hf (g := mkF m pc Ls (v :: .ref a :: rest)) rfl rfl (G.hb hd)
  obtain ⟨s₂, o, q, r⟩ := K h' W T' _ vm0 k0 X' (H.wr W ha eT)
  exact ⟨s₂, o, st _ q, r⟩
theorem castOk (G : Gd p s m meth c y bytes maxL ret Z a0 EL) {idx : Nat} {C : String} {a : Addr} (hd : decode bytes pc = .ok (.checkcast idx, 3)) (w : (Jvm.Cond.classLink y.cls idx C).before a0 Z = true) (F : Ins Z h a C true) (hp : pc + 3 = pc') (K : Run p l e R s m args below meth c Z wd ro EL n0 ow0 Q h ow cells slots (mkF m pc' Ls (.ref a :: rest))) : Run p l e R s m args below meth c Z wd ro EL n0 ow0 Q h ow cells slots (mkF m pc Ls (.ref a :: rest)) := by
  subst hp
  exact Run.mov (fun T locs vm0 k0 X H => castY X G.1 H.2.2.1 (G.own H.1) w H.2.2.2.1 F rfl rfl (G.hb hd)) K
theorem instYes (G : Gd p s m meth c y bytes maxL ret Z a0 EL) {idx : Nat} {C : String} {a : Addr} (hd : decode bytes pc = .ok (.instanceof idx, 3)) (w : (Jvm.Cond.classLink y.cls idx C).before a0 Z = true) (F : Ins Z h a C true) (hp : pc + 3 = pc') (K : Run p l e R s m args below meth c Z wd ro EL n0 ow0 Q h ow cells slots (mkF m pc' Ls (.int 1 :: rest))) : Run p l e R s m args below meth c Z wd ro EL n0 ow0 Q h ow cells slots (mkF m pc Ls (.ref a :: rest)) := by
  subst hp
  exact Run.mov (fun T locs vm0 k0 X H => instY X G.1 H.2.2.1 (G.own H.1) w H.2.2.2.1 F rfl rfl (G.hb hd)) K
theorem instNo (G : Gd p s m meth c y bytes maxL ret Z a0 EL) {idx : Nat} {C D : String} {a : Addr} (hd : decode bytes pc = .ok (.instanceof idx, 3)) (w : (Jvm.Cond.classLink y.cls idx C).before a0 Z = true) (F : Ins Z h a C false) (E : Exa Z h a D) (hp : pc + 3 = pc') (K : Run p l e R s m args below meth c Z wd ro EL n0 ow0 Q h ow cells slots (mkF m pc' Ls (.int 0 :: rest))) : Run p l e R s m args below meth c Z wd ro EL n0 ow0 Q h ow cells slots (mkF m pc Ls (.ref a :: rest)) := by
  subst hp
  exact Run.mov (fun T locs vm0 k0 X H => instNAt X G.1 H.2.2.1 (G.own H.1) w H.2.2.2.1 F E rfl rfl (G.hb hd)) K
theorem arrlen (G : Gd p s m meth c y bytes maxL ret Z a0 EL) {a : Addr} {cl : Cell} {ty : FieldType} (hd : decode bytes pc = .ok (.arraylength, 1)) (A : Arr Z h a cl ty) (hp : pc + 1 = pc') (K : Run p l e R s m args below meth c Z wd ro EL n0 ow0 Q h ow cells slots (mkF m pc' Ls (.int cl.slots.size.toInt32 :: rest))) : Run p l e R s m args below meth c Z wd ro EL n0 ow0 Q h ow cells slots (mkF m pc Ls (.ref a :: rest)) := by
  subst hp
  exact Run.stp (fun T locs vm0 k0 X H t k => X.arraylength G.1 (H.cell A) (H.arr A) (g := mkF m pc Ls (.ref a :: rest)) rfl rfl (G.hb hd) t k) K
theorem caload (G : Gd p s m meth c y bytes maxL ret Z a0 EL) {a : Addr} {cl : Cell} {j : Int32} {v : Value} (hd : decode bytes pc = .ok (.caload, 1)) (A : Arr Z h a cl .char) (hj : ¬ (j < 0 ∨ cl.slots.size ≤ j.toNatClampNeg)) (hv : cl.slots[j.toNatClampNeg]? = some v) (hp : pc + 1 = pc') (K : Run p l e R s m args below meth c Z wd ro EL n0 ow0 Q h ow cells slots (mkF m pc' Ls (v :: rest))) : Run p l e R s m args below meth c Z wd ro EL n0 ow0 Q h ow cells slots (mkF m pc Ls (.int j :: .ref a :: rest)) := by
  subst hp
  exact Run.stp (fun T locs vm0 k0 X H t k => X.caload G.1 (H.cell A) (H.arr A) A.2.2 hj hv (g := mkF m pc Ls (.int j :: .ref a :: rest)) rfl rfl (G.hb hd) t k) K
theorem baload (G : Gd p s m meth c y bytes maxL ret Z a0 EL) {a : Addr} {cl : Cell} {j : Int32} {v : Value} (hd : decode bytes pc = .ok (.baload, 1)) (A : Arr Z h a cl .byte) (hj : ¬ (j < 0 ∨ cl.slots.size ≤ j.toNatClampNeg)) (hv : cl.slots[j.toNatClampNeg]? = some v) (hp : pc + 1 = pc') (K : Run p l e R s m args below meth c Z wd ro EL n0 ow0 Q h ow cells slots (mkF m pc' Ls (v :: rest))) : Run p l e R s m args below meth c Z wd ro EL n0 ow0 Q h ow cells slots (mkF m pc Ls (.int j :: .ref a :: rest)) := by
  subst hp
  exact Run.stp (fun T locs vm0 k0 X H t k => X.baloadBytes G.1 (H.cell A) (H.arr A) A.2.2 hj hv (g := mkF m pc Ls (.int j :: .ref a :: rest)) rfl rfl (G.hb hd) t k) K
theorem iaload (G : Gd p s m meth c y bytes maxL ret Z a0 EL) {a : Addr} {cl : Cell} {j : Int32} {v : Value} (hd : decode bytes pc = .ok (.iaload, 1)) (A : Arr Z h a cl .int) (hj : ¬ (j < 0 ∨ cl.slots.size ≤ j.toNatClampNeg)) (hv : cl.slots[j.toNatClampNeg]? = some v) (hp : pc + 1 = pc') (K : Run p l e R s m args below meth c Z wd ro EL n0 ow0 Q h ow cells slots (mkF m pc' Ls (v :: rest))) : Run p l e R s m args below meth c Z wd ro EL n0 ow0 Q h ow cells slots (mkF m pc Ls (.int j :: .ref a :: rest)) := by
  subst hp
  exact Run.stp (fun T locs vm0 k0 X H t k => X.iaload G.1 (H.cell A) (H.arr A) A.2.2 hj hv (g := mkF m pc Ls (.int j :: .ref a :: rest)) rfl rfl (G.hb hd) t k) K
theorem aaload (G : Gd p s m meth c y bytes maxL ret Z a0 EL) {a : Addr} {cl : Cell} {j : Int32} {v : Value} {ty : FieldType} (hd : decode bytes pc = .ok (.aaload, 1)) (A : Arr Z h a cl ty) (hty : ty.isReference = true) (hj : ¬ (j < 0 ∨ cl.slots.size ≤ j.toNatClampNeg)) (hv : cl.slots[j.toNatClampNeg]? = some v) (hp : pc + 1 = pc') (K : Run p l e R s m args below meth c Z wd ro EL n0 ow0 Q h ow cells slots (mkF m pc' Ls (v :: rest))) : Run p l e R s m args below meth c Z wd ro EL n0 ow0 Q h ow cells slots (mkF m pc Ls (.int j :: .ref a :: rest)) := by
  subst hp
  exact Run.stp (fun T locs vm0 k0 X H t k => X.aaload G.1 (H.cell A) (H.arr A) hty A.2.2 hj hv (g := mkF m pc Ls (.int j :: .ref a :: rest)) rfl rfl (G.hb hd) t k) K
theorem castore (G : Gd p s m meth c y bytes maxL ret Z a0 EL) {a : Addr} {cl : Cell} {j x : Int32} (hd : decode bytes pc = .ok (.castore, 1)) (A : Arr Z h a cl .char) (hj : ¬ (j < 0 ∨ cl.slots.size ≤ j.toNatClampNeg)) (ha : a ∈ ow) (hp : pc + 1 = pc') (K : ∀ h', Wr h h' a j.toNatClampNeg (.int (nar .char x)) → Run p l e R s m args below meth c Z wd ro EL n0 ow0 Q h' ow cells slots (mkF m pc' Ls rest)) : Run p l e R s m args below meth c Z wd ro EL n0 ow0 Q h ow cells slots (mkF m pc Ls (.int x :: .int j :: .ref a :: rest)) := by
  subst hp
  intro T locs vm0 k0 X H
  obtain ⟨T', h', X', eT, W, st⟩ := stC X G.1 H.2.2.1 H.2.2.2.1 A hj (g := mkF m pc Ls (.int x :: .int j :: .ref a :: rest)) rfl rfl (G.hb hd)
  obtain ⟨s₂, o, q, r⟩ := K h' W T' _ vm0 k0 X' (H.wr W ha eT)
  exact ⟨s₂, o, st _ q, r⟩
theorem bastore (G : Gd p s m meth c y bytes maxL ret Z a0 EL) {a : Addr} {cl : Cell} {j x : Int32} (hd : decode bytes pc = .ok (.bastore, 1)) (A : Arr Z h a cl .byte) (hj : ¬ (j < 0 ∨ cl.slots.size ≤ j.toNatClampNeg)) (ha : a ∈ ow) (hp : pc + 1 = pc') (K : ∀ h', Wr h h' a j.toNatClampNeg (.int (nar .byte x)) → Run p l e R s m args below meth c Z wd ro EL n0 ow0 Q h' ow cells slots (mkF m pc' Ls rest)) : Run p l e R s m args below meth c Z wd ro EL n0 ow0 Q h ow cells slots (mkF m pc Ls (.int x :: .int j :: .ref a :: rest)) := by
  subst hp
  intro T locs vm0 k0 X H
  obtain ⟨T', h', X', eT, W, st⟩ := stB X G.1 H.2.2.1 H.2.2.2.1 A hj (g := mkF m pc Ls (.int x :: .int j :: .ref a :: rest)) rfl rfl (G.hb hd)
  obtain ⟨s₂, o, q, r⟩ := K h' W T' _ vm0 k0 X' (H.wr W ha eT)
  exact ⟨s₂, o, st _ q, r⟩
theorem newarr (G : Gd p s m meth c y bytes maxL ret Z a0 EL) {aty : ArrayType} {n : Int32} {cap : Nat} (hd : decode bytes pc = .ok (.newarray aty, 2)) (w : (Jvm.Cond.arrayClass (newarray.typeOf aty)).before a0 Z = true) (hn : ¬ n < 0) (hcap : n.toNatClampNeg ≤ cap) (hb : cap * 8 ≤ 536870912) (hc : cells + 1 ≤ R.cells) (hl : slots + cap ≤ R.slots) (hc' : cells + 1 = cells') (hs' : slots + cap = slots') (hp : pc + 2 = pc')
    (K : ∀ (h' : Heap) (cA : ClassId) (a : Addr), a = h.size → Ext h h' → Arr Z h' a (newA cA (newarray.typeOf aty) n) (newarray.typeOf aty) → Run p l e R s m args below meth c Z wd ro EL n0 ow0 Q h' (a :: ow) cells' slots' (mkF m pc' Ls (.ref a :: rest))) : Run p l e R s m args below meth c Z wd ro EL n0 ow0 Q h ow cells slots (mkF m pc Ls (.int n :: rest)) := by
  subst hp hc' hs'
  intro T locs vm0 k0 X H
  obtain ⟨T', h', cA, X', eT, E, A, st⟩ := newP X G.1 H.2.2.1 w H.2.2.2.1 (g := mkF m pc Ls (.int n :: rest)) rfl (G.hb hd) rfl hn hcap hb hc hl
  obtain ⟨s₂, o, q, r⟩ := K h' cA h.size rfl E A T' _ vm0 k0 X' (H.ext E A.lt eT)
  exact ⟨s₂, o, st _ q, r⟩
theorem newobj (G : Gd p s m meth c y bytes maxL ret Z a0 EL) {idx n : Nat} {C : String} (hd : decode bytes pc = .ok (.new idx, 3)) (w : (Jvm.Cond.classLink y.cls idx C).before a0 Z = true) (wi : (Jvm.Cond.instantiable C n).before a0 Z = true) (wz : (Jvm.Cond.initialized C).before a0 Z = true) (hc : cells + 1 ≤ R.cells) (hl : slots + n ≤ R.slots) (hc' : cells + 1 = cells') (hs' : slots + n = slots') (hp : pc + 3 = pc')
    (K : ∀ (h' : Heap) (a : Addr), a = h.size → Ext h h' → Exa Z h' a C → (∀ {O nm d : String} {ty : FieldType}, Laid Z a0 C O nm d → parseFieldDescriptor d = some ty → Fld Z h' a O nm d (defaultValue ty)) → Run p l e R s m args below meth c Z wd ro EL n0 ow0 Q h' (a :: ow) cells' slots' (mkF m pc' Ls (.ref a :: st))) : Run p l e R s m args below meth c Z wd ro EL n0 ow0 Q h ow cells slots (mkF m pc Ls st) := by
  subst hp hc' hs'
  intro T locs vm0 k0 X H
  obtain ⟨T', h', X', eT, E, A, D, -, st⟩ := newO X G.1 H.2.2.1 (G.own H.1) w wi wz H.2.2.2.1 (g := mkF m pc Ls st) rfl (G.hb hd) hc hl
  obtain ⟨s₂, o, q, r⟩ := K h' h.size rfl E A D T' _ vm0 k0 X' (H.ext E A.lt eT)
  exact ⟨s₂, o, st _ q, r⟩
theorem initObj (G : Gd p s m meth c y bytes maxL ret Z a0 EL) {idx : Nat} {a : Addr} {W : Nat} (hd : decode bytes pc = .ok (.invokespecial idx, 3)) (w1 : (Jvm.Cond.methodLink y.cls idx Lib.objectInit).before a0 Z = true) (w2 : (Jvm.Cond.instanceMethod Lib.objectInit).before a0 Z = true) (w3 : (Jvm.Cond.code Lib.objectInit ⟨#[0xb1]⟩ 1 none).before a0 Z = true) (hsz : Ls.size = maxL) (hf : 1 ≤ R.frames) (hW : (rest.map fun v => v.category).sum ≤ W) (hl : W + 12 ≤ R.locals) (hp : pc + 3 = pc') (K : Run p l e R s m args below meth c Z wd ro EL n0 ow0 Q h ow cells slots (mkF m pc' Ls rest)) : Run p l e R s m args below meth c Z wd ro EL n0 ow0 Q h ow cells slots (mkF m pc Ls (.ref a :: rest)) := by
  subst hp
  exact Run.mov (fun T locs vm0 k0 X H => initO X G.1 H.2.2.1 (G.own H.1) w1 w2 w3 H.2.2.2.1 rfl (hsz.trans G.2.2.1.symm) rfl (G.hb hd) hf (by show 2 * 0 + _ ≤ W; omega) hl) K
theorem instNull (G : Gd p s m meth c y bytes maxL ret Z a0 EL) {idx : Nat} (hd : decode bytes pc = .ok (.instanceof idx, 3)) (hp : pc + 3 = pc') (K : Run p l e R s m args below meth c Z wd ro EL n0 ow0 Q h ow cells slots (mkF m pc' Ls (.int 0 :: rest))) : Run p l e R s m args below meth c Z wd ro EL n0 ow0 Q h ow cells slots (mkF m pc Ls (.null :: rest)) := by
  subst hp
  exact Run.stp (fun T locs vm0 k0 X H t k => X.instanceofNull G.1 (g := mkF m pc Ls (.null :: rest)) rfl rfl (G.hb hd) t k) K
theorem cloneArr (G : Gd p s m meth c y bytes maxL ret Z a0 EL) {idx cap W : Nat} {ad : String} {a : Addr} {cl : Cell} {ty : FieldType} (hd : decode bytes pc = .ok (.invokevirtual idx, 3)) (w1 : (Jvm.Cond.methodLink y.cls idx ⟨ad, "clone", "()Ljava/lang/Object;"⟩).before a0 Z = true) (w2 : (Jvm.Cond.sameMethod ad "java/lang/Object" "clone" "()Ljava/lang/Object;").before a0 Z = true) (w3 : (Jvm.Cond.native ⟨"java/lang/Object", "clone", "()Ljava/lang/Object;"⟩).before a0 Z = true) (w4 : (Jvm.Cond.instanceMethod ⟨"java/lang/Object", "clone", "()Ljava/lang/Object;"⟩).before a0 Z = true) (w5 : (Jvm.Cond.selects ad ⟨ad, "clone", "()Ljava/lang/Object;"⟩ ⟨"java/lang/Object", "clone", "()Ljava/lang/Object;"⟩).before a0 Z = true) (w6 : (Jvm.Cond.castable ad "java/lang/Cloneable").before a0 Z = true)
    (A : Arr Z h a cl ty) (E : Exa Z h a ad) (F : FitC Z cl) (hsz : Ls.size = maxL) (hf : 1 ≤ R.frames) (hW : (rest.map fun v => v.category).sum ≤ W) (hl : W + 14 ≤ R.locals) (hcap : cl.slots.size ≤ cap) (hc : cells + 1 ≤ R.cells) (hsl : slots + cap ≤ R.slots) (hc' : cells + 1 = cells') (hs' : slots + cap = slots') (hp : pc + 3 = pc')
    (K : ∀ (h' : Heap) (a' : Addr), a' = h.size → Ext h h' → Arr Z h' a' (cloneOf cl) ty → Exa Z h' a' ad → Run p l e R s m args below meth c Z wd ro EL n0 ow0 Q h' (a' :: ow) cells' slots' (mkF m pc' Ls (.ref a' :: rest))) : Run p l e R s m args below meth c Z wd ro EL n0 ow0 Q h ow cells slots (mkF m pc Ls (.ref a :: rest)) := by
  subst hp hc' hs'
  intro T locs vm0 k0 X H
  obtain ⟨T', h', X', eT, Ex, A', E', st⟩ := cloneA X G.1 H.2.2.1 (G.own H.1) w1 w2 w3 w4 w5 w6 H.2.2.2.1 A E F (g := mkF m pc Ls (.ref a :: rest)) rfl (hsz.trans G.2.2.1.symm) rfl (G.hb hd) hf (W := W) (by show 2 * 0 + _ ≤ W; omega) hl hcap hc hsl
  obtain ⟨s₂, o, q, r⟩ := K h' h.size rfl Ex A' E' T' _ vm0 k0 X' (H.ext Ex A'.lt eT)
  exact ⟨s₂, o, st _ q, r⟩
theorem ldcStr (G : Gd p s m meth c y bytes maxL ret Z a0 EL) {idx n : Nat} {text : String} {vs : List Value} {z : Int32} (hd : decode bytes pc = .ok (.ldc idx, 2)) (hwd : wd = true) (w : (Jvm.Cond.stringLink y.cls idx text).before a0 Z = true) (wS : ∀ a ∈ Bundle.stringAtoms, a.before a0 Z = true) (hmem : (y.cls, idx) ∈ EL)
    (ht : (∀ c ∈ text.toList, c.toNat < 256) ∧ text.toList.map (fun c => Value.int (Jvm.Lit.byteI c.toNat.toUInt16)) = vs) (hz : ¬ z < 0) (hl : z.toNatClampNeg = vs.length) (hn : 4 * text.toList.length ≤ n) (hbig : n ≤ 536870912) (hc : cells + 2 ≤ R.cells) (hl' : slots + (n + 4) ≤ R.slots) (hc' : cells + 2 = cells') (hs' : slots + (n + 4) = slots') (hp : pc + 2 = pc')
    (K : ∀ (a b : Addr) (k : ClassId) (h' : Heap), Ext h h' → Exa Z h' a "java/lang/String" → Fld Z h' a "java/lang/String" "coder" "B" (.int 0) → Fld Z h' a "java/lang/String" "value" "[B" (.ref b) → Arv Z h' b k .byte z vs (.int 0) → (∀ x ∈ ow, x ≠ a ∧ x ≠ b) → Run p l e R s m args below meth c Z wd ro EL n0 ow0 Q h' ow cells' slots' (mkF m pc' Ls (.ref a :: st))) : Run p l e R s m args below meth c Z wd ro EL n0 ow0 Q h ow cells slots (mkF m pc Ls st) := by
  subst hp hc' hs'
  intro T locs vm0 k0 X H
  obtain ⟨i1, i2, i3, i4, i5, i6, i7, i8, i9, i10⟩ := H
  obtain ⟨a, T', h', k1, b, k, X', eT, E, hS, hk, hW, -, q1, q2, q3, q4, -, -, hC, -, hne, st⟩ := ldcCH X G.1 i3 (G.own i1) w wS i4 i1 i2 G.2.2.2.2.2.2.2 hmem i6.1 ht hz hl (g := mkF m pc Ls st) rfl (G.hb hd) hn hbig hc hl'
  have hsafe : ∀ x ∈ ow, Safe Z EL T'.vm h' x := fun x hx => hC.safe (i9 x hx).2.1 (i9 x hx).1
  obtain ⟨s₂, o, q, r⟩ := K a b k h' E q1 q2 q3 q4 (fun x hx => hne x (hsafe x hx)) T' locs T'.vm k1 X' ⟨hS, hk, hW, eT, i5, i6.trans hC, i7.ext E, i8.ext E, fun x hx => ⟨hsafe x hx, Nat.lt_of_lt_of_le (i9 x hx).2.1 E.1, (i9 x hx).2.2⟩, Or.inl hwd⟩
  exact ⟨s₂, o, st _ q, r⟩
theorem ldcOpaque (G : Gd p s m meth c y bytes maxL ret Z a0 EL) {idx n : Nat} {text : String} (hd : decode bytes pc = .ok (.ldc idx, 2)) (hwd : wd = true) (w : (Jvm.Cond.stringLink y.cls idx text).before a0 Z = true) (wS : ∀ a ∈ Bundle.stringAtoms, a.before a0 Z = true)
    (hn : 4 * text.toList.length ≤ n) (hbig : n ≤ 536870912) (hc : cells + 2 ≤ R.cells) (hl' : slots + (n + 4) ≤ R.slots) (hc' : cells + 2 = cells') (hs' : slots + (n + 4) = slots') (hp : pc + 2 = pc')
    (K : ∀ (a : Addr) (h' : Heap), Ext h h' → Run p l e R s m args below meth c Z wd ro EL n0 ow0 Q h' ow cells' slots' (mkF m pc' Ls (.ref a :: st))) : Run p l e R s m args below meth c Z wd ro EL n0 ow0 Q h ow cells slots (mkF m pc Ls st) := by
  subst hp hc' hs'
  intro T locs vm0 k0 X H
  obtain ⟨i1, i2, i3, i4, i5, i6, i7, i8, i9, i10⟩ := H
  obtain ⟨a, T', h', k1, X', eT, E, hS, hk, hW, -, hC, -, st⟩ := ldcOH X G.1 i3 (G.own i1) w wS i4 i1 i2 G.2.2.2.2.2.2.2 i6.1 (g := mkF m pc Ls st) rfl (G.hb hd) hn hbig hc hl'
  have hsafe : ∀ x ∈ ow, Safe Z EL T'.vm h' x := fun x hx => hC.safe (i9 x hx).2.1 (i9 x hx).1
  obtain ⟨s₂, o, q, r⟩ := K a h' E T' locs T'.vm k1 X' ⟨hS, hk, hW, eT, i5, i6.trans hC, i7.ext E, i8.ext E, fun x hx => ⟨hsafe x hx, Nat.lt_of_lt_of_le (i9 x hx).2.1 E.1, (i9 x hx).2.2⟩, Or.inl hwd⟩
  exact ⟨s₂, o, st _ q, r⟩
theorem fin (G : Gd p s m meth c y bytes maxL ret Z a0 EL) {v : Option Value} {g : JFrame} (hro : ro = true → ∀ d, v = some (.ref d) → d ∈ ow ∧ d ∉ ow0) (hv : ret = none → v = none) (hc : cells ≤ R.cells) (hs : slots ≤ R.slots) (q : Q v h)
    (stp : ∀ (T : State) (locs : List Loc) (vm0 : Vm) (k0 : Nat) (fs : List Frame), Stand p l e R (s.setVm vm0) m args below meth c T locs cells slots → (∀ (f : JFrame) (acts : List Action), f.method = m → f.locked = none → f.entered = [] → (doReturn e (T.setTop f) acts v).1 = T.setFrames fs) → Steps p.tables e below (T.setTop g) (T.setFrames fs)) : Run p l e R s m args below meth c Z wd ro EL n0 ow0 Q h ow cells slots g := by
  intro T locs vm0 k0 X H
  obtain ⟨i1, i2, i3, i4, i5, i6, i7, i8, i9, i10⟩ := H
  obtain ⟨fs, hr, hrun, hended, hW⟩ := X.leaveW i1 (by rw [i4]; exact i2) (v := v) (fun h => hv (G.2.2.2.2.1.symm.trans h)) G.2.2.2.2.2.2.1
  have hT : (T.setFrames fs).heap = h := i4
  have hA := CHv.at X i3 G.2.2.2.2.2.2.2 i6.1
  refine ⟨_, _, stp T locs vm0 k0 fs X hr, hrun, hended, v, locs, rfl, by rw [hT]; exact q, i5, by rw [hT]; exact i6.trans hA, by rw [hT]; exact i7, ⟨hW.1, hW.2.1, hW.2.2.1, hW.2.2.2.mono hc hs⟩, i10.imp id (fun w => State.WarmedH.trans (t := s.setVm vm0) w X.warmed), fun hr d hd => ?_⟩
  obtain ⟨q1, q2⟩ := hro hr d hd
  obtain ⟨w1, w2, w3, w4⟩ := i9 d q1
  rw [hT]
  exact ⟨hA.safe w2 w1, w2, w3, w4.elim (fun z => absurd z q2) id⟩
theorem retInt (G : Gd p s m meth c y bytes maxL ret Z a0 EL) {z : Int32} (hd : decode bytes pc = .ok (.ireturn, 1)) (hret : ret = some .int) (hc : cells ≤ R.cells) (hs : slots ≤ R.slots) (q : Q (some (.int z)) h) : Run p l e R s m args below meth c Z wd ro EL n0 ow0 Q h ow cells slots (mkF m pc Ls (.int z :: rest)) :=
  fin G (fun _ d z => by cases z) (fun h => by rw [hret] at h; cases h) hc hs q fun T locs vm0 k0 fs X hr => retOut X G.1 (G.2.2.2.2.1.trans hret) rfl (Or.inl ⟨rfl, Or.inl rfl, z, rfl⟩) (G.hb hd) hr
theorem retNar (G : Gd p s m meth c y bytes maxL ret Z a0 EL) {z : Int32} {t : FieldType} (hd : decode bytes pc = .ok (.ireturn, 1)) (hret : ret = some t) (ht : t = .boolean ∨ t = .byte ∨ t = .char ∨ t = .short) (hc : cells ≤ R.cells) (hs : slots ≤ R.slots) (q : Q (some (.int (nar t z))) h) : Run p l e R s m args below meth c Z wd ro EL n0 ow0 Q h ow cells slots (mkF m pc Ls (.int z :: rest)) :=
  fin G (fun _ d z => by cases z) (fun h => by rw [hret] at h; cases h) hc hs q fun T locs vm0 k0 fs X hr => retN X G.1 (G.2.2.2.2.1.trans hret) ht (G.hb hd) hr
theorem retRef (G : Gd p s m meth c y bytes maxL ret Z a0 EL) {v : Value} {t : FieldType} (hro : ro = false) (hd : decode bytes pc = .ok (.areturn, 1)) (hret : ret = some t) (ht : t.isReference = true) (hv : v.isRef = true) (hc : cells ≤ R.cells) (hs : slots ≤ R.slots) (q : Q (some v) h) : Run p l e R s m args below meth c Z wd ro EL n0 ow0 Q h ow cells slots (mkF m pc Ls (v :: rest)) :=
  fin G (fun z => by rw [hro] at z; cases z) (fun h => by rw [hret] at h; cases h) hc hs q fun T locs vm0 k0 fs X hr => retOut X G.1 (G.2.2.2.2.1.trans hret) (by cases t <;> cases v <;> first | rfl | (simp [Value.isRef, FieldType.isReference] at hv ht)) (Or.inr (Or.inr (Or.inr (Or.inr ⟨rfl, ht, hv⟩)))) (G.hb hd) hr
theorem retOwn (G : Gd p s m meth c y bytes maxL ret Z a0 EL) {a : Addr} {t : FieldType} (ha : a ∈ ow) (hn : a ∉ ow0) (hd : decode bytes pc = .ok (.areturn, 1)) (hret : ret = some t) (ht : t.isReference = true) (hc : cells ≤ R.cells) (hs : slots ≤ R.slots) (q : Q (some (.ref a)) h) : Run p l e R s m args below meth c Z wd ro EL n0 ow0 Q h ow cells slots (mkF m pc Ls (.ref a :: rest)) :=
  fin G (fun _ d z => by cases z; exact ⟨ha, hn⟩) (fun h => by rw [hret] at h; cases h) hc hs q fun T locs vm0 k0 fs X hr => retOut X G.1 (G.2.2.2.2.1.trans hret) (by cases t <;> first | rfl | (simp [FieldType.isReference] at ht)) (Or.inr (Or.inr (Or.inr (Or.inr ⟨rfl, ht, rfl⟩)))) (G.hb hd) hr
theorem retVoid (G : Gd p s m meth c y bytes maxL ret Z a0 EL) (hd : decode bytes pc = .ok (.return_, 1)) (hret : ret = none) (hc : cells ≤ R.cells) (hs : slots ≤ R.slots) (q : Q none h) : Run p l e R s m args below meth c Z wd ro EL n0 ow0 Q h ow cells slots (mkF m pc Ls []) :=
  fin G (fun _ d z => by cases z) (fun _ => rfl) hc hs q fun T locs vm0 k0 fs X hr => X.returnOut G.1 (G.2.2.2.2.1.trans hret) (G.hb hd) hr
/-- a callee's contract pays the call -/
theorem backG {y' : MethodName} {bytes' : ByteArray} {maxL' : Nat} {ret' : Option FieldType} {rm : Room} {len W : Nat} {as' : Array Value} {owc : List Addr} {Q' : Option Value → Heap → Prop} {ro' : Bool} {vm0 : Vm}
    (C : Con l Z wd ro' EL n0 y' bytes' maxL' ret' rm [] as' h owc Q') (hZ : Z.Warmed39 vm0) (wc : (Jvm.Cond.code y' bytes' maxL' ret').before a0 Z = true) (wz : (Jvm.Cond.initialized y'.cls).before a0 Z = true) (hf : rm.frames + 1 ≤ R.frames) (hl : W + (maxL' + 11) + rm.locals ≤ R.locals) (hEL : EW Z a0 EL) (H : CHv Z EL vm0 h) (hO : Old Z n0 h) (hS : ∀ x ∈ owc, Safe Z EL vm0 h x ∧ x < h.size ∧ n0 ≤ x) :
    BackS l R p e below (s.setVm vm0) args y' len W (fun A a => a = as' ∧ A.U.heap = h ∧ A.cells + rm.cells ≤ R.cells ∧ A.slots + rm.slots ≤ R.slots)
      (fun A _ v B => ∃ L, Q' v B.U.heap ∧ Fr n0 L ∧ Keep h B.U.heap owc ∧ B.locs = A.locs ++ L ∧ B.cells = A.cells + rm.cells ∧ B.slots = A.slots + rm.slots ∧ CHr Z EL vm0 h B.U.vm B.U.heap ∧ (wd = true ∨ (s.setVm vm0).WarmedH B.U.vm) ∧ (ro' = true → ∀ d, v = some (.ref d) → Safe Z EL B.U.vm B.U.heap d ∧ d < B.U.heap.size ∧ n0 ≤ d ∧ h.size ≤ d)) :=
  BackS.of_freeW (bytes := bytes') (maxL := maxL') (ret := ret') (E := fun _ first o t L k n => k = rm.cells ∧ n = rm.slots ∧ (∃ v, o = .returned v ∧ Q' v t.heap) ∧ Fr n0 L ∧ Keep first.heap t.heap owc ∧ CHr Z EL first.vm first.heap t.vm t.heap ∧ (wd = true ∨ first.WarmedH t.vm) ∧ (ro' = true → ∀ v d, o = .returned v → v = some (.ref d) → Safe Z EL t.vm t.heap d ∧ d < t.heap.size ∧ n0 ≤ d ∧ first.heap.size ≤ d)) C hf hl
    (fun m meth c A a Y hp => have hU : Z.Warmed39 A.U.vm := wtrans (s := s.setVm vm0) hZ Y.warmed
      ⟨by show (Cond.and _ .tt).before a A.U = true; rw [Cond.before_and, mv hU wc]; rfl, mv hU wc, mv hU wz, hp.2.2.1, hp.2.2.2⟩)
    (fun m meth c A a g mk Y hp => ⟨hp.1, wtrans (s := s.setVm vm0) hZ Y.warmed, hp.2.1, hO, (CHv.at Y hZ hEL H).1, fun x hx => ⟨(CHv.at Y hZ hEL H).safe (hS x hx).2.1 (hS x hx).1, (hS x hx).2⟩⟩) (fun _ _ _ _ _ _ _ _ _ => trivial)
    (fun _ _ _ _ ⟨v, L, h1, h2, h3, h4, h5, h6, h7, h8⟩ => ⟨L, _, _, h6, rfl, rfl, ⟨v, h1, h2⟩, h3, h5, h4, h7, fun hr w d e1 e2 => h8 hr d (by rw [h1] at e1; cases e1; exact e2)⟩)
    (fun m meth c A a g mk v t L k n Y hp _ _ ⟨e1, e2, ⟨v', e3, e4⟩, e5, e6, e7, e8, e9⟩ => by
      cases e3; subst e1 e2
      have hh : (A.U.calling g mk a).heap = h := hp.2.1
      rw [hh] at e6 e7 e9
      exact ⟨L, e4, e5, e6, rfl, rfl, rfl, (CHv.at Y hZ hEL H).trans e7, e8.imp id (fun w => State.WarmedH.trans (t := A.U) Y.warmed w), fun hr d hd => e9 hr v d rfl hd⟩)
theorem Hid.call {T T' : State} {locs L : List Loc} {vm0 : Vm} {k0 : Nat} {owc : List Addr} (H : Hid s Z wd EL n0 ow0 ow T locs vm0 k0 h) (how : ∀ x ∈ owc, x ∈ ow) (hS : (s.setVm vm0).Since T'.vm T'.heap.size) (N : Fr n0 L) (K : Keep h T'.heap owc) (hC : CHr Z EL vm0 h T'.vm T'.heap) (hw : wd = true ∨ (s.setVm vm0).WarmedH T'.vm) :
    Hid s Z wd EL n0 ow0 ow T' (locs ++ L) T'.vm T'.heap.size T'.heap := by
  obtain ⟨i1, i2, i3, i4, i5, i6, i7, i8, i9, i10⟩ := H
  refine ⟨i1.trans hS (Nat.le_trans i2 K.1), Nat.le_refl _, State.Warmed39.trans (t := s.setVm vm0) i3 hS.1, rfl, i5.app N, i6.trans hC, i7.trans K (fun x hx => (i9 x (how x hx)).2.2.2), i8.keep K (fun x hx => (i9 x (how x hx)).2.2.1), fun x hx => ⟨hC.safe (i9 x hx).2.1 (i9 x hx).1, Nat.lt_of_lt_of_le (i9 x hx).2.1 K.1, (i9 x hx).2.2⟩, ?_⟩
  rcases hw with hw | hw
  · exact Or.inl hw
  · exact i10.imp id fun w => State.WarmedH.trans (t := s.setVm vm0) w hw
theorem Hid.own {T : State} {locs : List Loc} {vm0 : Vm} {k0 : Nat} {d : Addr} (H : Hid s Z wd EL n0 ow0 ow T locs vm0 k0 h) (q : Safe Z EL vm0 h d ∧ d < h.size ∧ n0 ≤ d ∧ (d ∈ ow0 ∨ s.heap.size ≤ d)) : Hid s Z wd EL n0 ow0 (d :: ow) T locs vm0 k0 h := by
  obtain ⟨i1, i2, i3, i4, i5, i6, i7, i8, i9, i10⟩ := H
  refine ⟨i1, i2, i3, i4, i5, i6, i7, i8, fun x hx => ?_, i10⟩
  rcases List.mem_cons.mp hx with rfl | hx
  · exact q
  · exact i9 x hx
theorem callStatic (G : Gd p s m meth c y bytes maxL ret Z a0 EL) {idx : Nat} {y' : MethodName} {bytes' : ByteArray} {maxL' : Nat} {ret' : Option FieldType} {rm : Room} {W : Nat} {argsL : List Value} {owc : List Addr} {Q' : Option Value → Heap → Prop} {ro' : Bool} (hd : decode bytes pc = .ok (.invokestatic idx, 3))
    (w1 : (Jvm.Cond.methodLink y.cls idx y').before a0 Z = true) (w2 : (Jvm.Cond.static y').before a0 Z = true) (w3 : (Jvm.Cond.initialized y'.cls).before a0 Z = true) (w4 : (Jvm.Cond.code y' bytes' maxL' ret').before a0 Z = true) (hy : y'.cls ≠ "java/lang/invoke/MethodHandle" ∧ y'.cls ≠ "java/lang/invoke/VarHandle")
    (C : Con l Z wd ro' EL n0 y' bytes' maxL' ret' rm [] argsL.toArray h owc Q') (hst : st = argsL.reverse ++ rest) (hlen : ∀ sig, parseMethodDescriptor y'.desc = some sig → argsL.length = sig.parameters.length) (hsz : Ls.size = maxL) (hfr : rm.frames + 1 ≤ R.frames) (hW : (rest.map fun v => v.category).sum ≤ W) (hlo : W + (maxL' + 11) + rm.locals ≤ R.locals) (hc : cells + rm.cells ≤ R.cells) (hs : slots + rm.slots ≤ R.slots) (how : ∀ x ∈ owc, x ∈ ow) (hc' : cells + rm.cells = cells') (hs' : slots + rm.slots = slots') (hp : pc + 3 = pc')
    (K : ∀ (v : Option Value) (h' : Heap), Q' v h' → Keep h h' owc → Run p l e R s m args below meth c Z wd ro EL n0 ow0 Q h' ow cells' slots' (mkF m pc' Ls (v.toList ++ rest))) : Run p l e R s m args below meth c Z wd ro EL n0 ow0 Q h ow cells slots (mkF m pc Ls st) := by
  subst hp hst hc' hs'
  intro T locs vm0 k0 X H
  have hZ := H.2.2.1
  obtain ⟨v, vm₁, B, -, X', hS, -, ⟨L, q1, q2, q3, q4, q5, q6, q7, q8, q9⟩, stp⟩ := callSS X G.1 (bytes := bytes') (maxL := maxL') (ret := ret') (G.own H.1) (mv (s := s.setVm vm0) hZ w1) (mv (s := s.setVm vm0) hZ w2) (mv (s := s.setVm vm0) hZ w3) (mv (s := s.setVm vm0) hZ w4) hy
    (backG C hZ w4 w3 hfr hlo G.2.2.2.2.2.2.2 H.2.2.2.2.2.1.1 H.2.2.2.2.2.2.2.1 (fun x hx => ⟨(H.2.2.2.2.2.2.2.2.1 x (how x hx)).1, (H.2.2.2.2.2.2.2.2.1 x (how x hx)).2.1, (H.2.2.2.2.2.2.2.2.1 x (how x hx)).2.2.1⟩)) (g := mkF m pc Ls (argsL.reverse ++ rest)) rfl (hsz.trans G.2.2.1.symm) hlen rfl (by show 2 * 0 + _ ≤ W; omega) (G.hb hd) (fun _ _ => ⟨rfl, H.2.2.2.1, hc, hs⟩)
  obtain ⟨T', Lc, kc, nc⟩ := B
  dsimp only [Pt.U, Pt.locs, Pt.cells, Pt.slots] at X' q1 q3 q4 q5 q6 q7 q8 q9 hS stp
  subst q4 q5 q6
  obtain ⟨s₂, o, q, r⟩ := K v T'.heap q1 q3 T' (locs ++ L) T'.vm T'.heap.size X' (H.call how hS q2 q3 q7 q8)
  exact ⟨s₂, o, stp.trans q, r⟩
theorem callStaticO (G : Gd p s m meth c y bytes maxL ret Z a0 EL) {idx : Nat} {y' : MethodName} {bytes' : ByteArray} {maxL' : Nat} {ret' : Option FieldType} {rm : Room} {W : Nat} {argsL : List Value} {owc : List Addr} {Q' : Option Value → Heap → Prop} (hd : decode bytes pc = .ok (.invokestatic idx, 3))
    (w1 : (Jvm.Cond.methodLink y.cls idx y').before a0 Z = true) (w2 : (Jvm.Cond.static y').before a0 Z = true) (w3 : (Jvm.Cond.initialized y'.cls).before a0 Z = true) (w4 : (Jvm.Cond.code y' bytes' maxL' ret').before a0 Z = true) (hy : y'.cls ≠ "java/lang/invoke/MethodHandle" ∧ y'.cls ≠ "java/lang/invoke/VarHandle")
    (C : Con l Z wd true EL n0 y' bytes' maxL' ret' rm [] argsL.toArray h owc Q') (hst : st = argsL.reverse ++ rest) (hlen : ∀ sig, parseMethodDescriptor y'.desc = some sig → argsL.length = sig.parameters.length) (hsz : Ls.size = maxL) (hfr : rm.frames + 1 ≤ R.frames) (hW : (rest.map fun v => v.category).sum ≤ W) (hlo : W + (maxL' + 11) + rm.locals ≤ R.locals) (hc : cells + rm.cells ≤ R.cells) (hs : slots + rm.slots ≤ R.slots) (how : ∀ x ∈ owc, x ∈ ow) (hc' : cells + rm.cells = cells') (hs' : slots + rm.slots = slots') (hp : pc + 3 = pc')
    (hq : ∀ v h', Q' v h' → ∃ d, v = some (.ref d)) (K : ∀ (d : Addr) (h' : Heap), Q' (some (.ref d)) h' → Keep h h' owc → h.size ≤ d → Run p l e R s m args below meth c Z wd ro EL n0 ow0 Q h' (d :: ow) cells' slots' (mkF m pc' Ls (.ref d :: rest))) : Run p l e R s m args below meth c Z wd ro EL n0 ow0 Q h ow cells slots (mkF m pc Ls st) := by
  subst hp hst hc' hs'
  intro T locs vm0 k0 X H
  have hZ := H.2.2.1
  obtain ⟨v, vm₁, B, -, X', hS, -, ⟨L, q1, q2, q3, q4, q5, q6, q7, q8, q9⟩, stp⟩ := callSS X G.1 (bytes := bytes') (maxL := maxL') (ret := ret') (G.own H.1) (mv (s := s.setVm vm0) hZ w1) (mv (s := s.setVm vm0) hZ w2) (mv (s := s.setVm vm0) hZ w3) (mv (s := s.setVm vm0) hZ w4) hy
    (backG C hZ w4 w3 hfr hlo G.2.2.2.2.2.2.2 H.2.2.2.2.2.1.1 H.2.2.2.2.2.2.2.1 (fun x hx => ⟨(H.2.2.2.2.2.2.2.2.1 x (how x hx)).1, (H.2.2.2.2.2.2.2.2.1 x (how x hx)).2.1, (H.2.2.2.2.2.2.2.2.1 x (how x hx)).2.2.1⟩)) (g := mkF m pc Ls (argsL.reverse ++ rest)) rfl (hsz.trans G.2.2.1.symm) hlen rfl (by show 2 * 0 + _ ≤ W; omega) (G.hb hd) (fun _ _ => ⟨rfl, H.2.2.2.1, hc, hs⟩)
  obtain ⟨T', Lc, kc, nc⟩ := B
  dsimp only [Pt.U, Pt.locs, Pt.cells, Pt.slots] at X' q1 q3 q4 q5 q6 q7 q8 q9 hS stp
  subst q4 q5 q6
  obtain ⟨d, rfl⟩ := hq _ _ q1
  obtain ⟨o1, o2, o3, o4⟩ := q9 rfl d rfl
  obtain ⟨s₂, o, q, r⟩ := K d T'.heap q1 q3 o4 T' (locs ++ L) T'.vm T'.heap.size X' ((H.call how hS q2 q3 q7 q8).own ⟨o1, o2, o3, Or.inr (Nat.le_trans H.2.2.2.2.2.2.1.1 o4)⟩)
  exact ⟨s₂, o, stp.trans q, r⟩
theorem callSpecial (G : Gd p s m meth c y bytes maxL ret Z a0 EL) {idx : Nat} {y' : MethodName} {bytes' : ByteArray} {maxL' : Nat} {rm : Room} {W : Nat} {a : Addr} {argsL : List Value} {owc : List Addr} {Q' : Option Value → Heap → Prop} {ro' : Bool} (hd : decode bytes pc = .ok (.invokespecial idx, 3)) (hn : y'.name = "<init>")
    (w1 : (Jvm.Cond.methodLink y.cls idx y').before a0 Z = true) (w2 : (Jvm.Cond.instanceMethod y').before a0 Z = true) (w3 : (Jvm.Cond.initialized y'.cls).before a0 Z = true) (w4 : (Jvm.Cond.code y' bytes' maxL' none).before a0 Z = true) (hy : y'.cls ≠ "java/lang/invoke/MethodHandle" ∧ y'.cls ≠ "java/lang/invoke/VarHandle")
    (C : Con l Z wd ro' EL n0 y' bytes' maxL' none rm [] (.ref a :: argsL).toArray h owc Q') (hst : st = argsL.reverse ++ .ref a :: rest) (hlen : ∀ sig, parseMethodDescriptor y'.desc = some sig → argsL.length = sig.parameters.length) (hsz : Ls.size = maxL) (hfr : rm.frames + 1 ≤ R.frames) (hW : (rest.map fun v => v.category).sum ≤ W) (hlo : W + (maxL' + 11) + rm.locals ≤ R.locals) (hc : cells + rm.cells ≤ R.cells) (hs : slots + rm.slots ≤ R.slots) (how : ∀ x ∈ owc, x ∈ ow) (hc' : cells + rm.cells = cells') (hs' : slots + rm.slots = slots') (hp : pc + 3 = pc')
    (K : ∀ (v : Option Value) (h' : Heap), Q' v h' → Keep h h' owc → Run p l e R s m args below meth c Z wd ro EL n0 ow0 Q h' ow cells' slots' (mkF m pc' Ls (v.toList ++ rest))) : Run p l e R s m args below meth c Z wd ro EL n0 ow0 Q h ow cells slots (mkF m pc Ls st) := by
  subst hp hst hc' hs'
  intro T locs vm0 k0 X H
  have hZ := H.2.2.1
  obtain ⟨v, vm₁, B, -, X', hS, -, ⟨L, q1, q2, q3, q4, q5, q6, q7, q8, q9⟩, stp⟩ := X.specialBackS G.1 (bytes := bytes') (maxL := maxL') hn (G.own H.1) (mv (s := s.setVm vm0) hZ w1) (mv (s := s.setVm vm0) hZ w2) (mv (s := s.setVm vm0) hZ w4) hy
    (backG C hZ w4 w3 hfr hlo G.2.2.2.2.2.2.2 H.2.2.2.2.2.1.1 H.2.2.2.2.2.2.2.1 (fun x hx => ⟨(H.2.2.2.2.2.2.2.2.1 x (how x hx)).1, (H.2.2.2.2.2.2.2.2.1 x (how x hx)).2.1, (H.2.2.2.2.2.2.2.2.1 x (how x hx)).2.2.1⟩)) (g := mkF m pc Ls (argsL.reverse ++ .ref a :: rest)) rfl (hsz.trans G.2.2.1.symm) (Steps.refl _) hlen rfl (by show 2 * 0 + _ ≤ W; omega) (G.hb hd) (fun _ _ => ⟨rfl, H.2.2.2.1, hc, hs⟩)
  obtain ⟨T', Lc, kc, nc⟩ := B
  dsimp only [Pt.U, Pt.locs, Pt.cells, Pt.slots] at X' q1 q3 q4 q5 q6 q7 q8 q9 hS stp
  subst q4 q5 q6
  obtain ⟨s₂, o, q, r⟩ := K v T'.heap q1 q3 T' (locs ++ L) T'.vm T'.heap.size X' (H.call how hS q2 q3 q7 q8)
  exact ⟨s₂, o, stp.trans q, r⟩
theorem callVirtual (G : Gd p s m meth c y bytes maxL ret Z a0 EL) {idx : Nat} {y' z' : MethodName} {D : String} {bytes' : ByteArray} {maxL' : Nat} {ret' : Option FieldType} {rm : Room} {W : Nat} {a : Addr} {argsL : List Value} {owc : List Addr} {Q' : Option Value → Heap → Prop} {ro' : Bool} (hd : decode bytes pc = .ok (.invokevirtual idx, 3))
    (w1 : (Jvm.Cond.methodLink y.cls idx y').before a0 Z = true) (w2 : (Jvm.Cond.declares y').before a0 Z = true) (w3 : (Jvm.Cond.selects D y' z').before a0 Z = true) (hnf : ∀ (s : State), Z.Warmed39 s.vm → NotFace s y') (w4 : (Jvm.Cond.instanceMethod z').before a0 Z = true) (w5 : (Jvm.Cond.initialized z'.cls).before a0 Z = true) (w6 : (Jvm.Cond.code z' bytes' maxL' ret').before a0 Z = true) (hy : y'.cls ≠ "java/lang/invoke/MethodHandle" ∧ y'.cls ≠ "java/lang/invoke/VarHandle")
    (E : Exa Z h a D) (C : Con l Z wd ro' EL n0 z' bytes' maxL' ret' rm [] (.ref a :: argsL).toArray h owc Q') (hst : st = argsL.reverse ++ .ref a :: rest) (hlen : ∀ sig, parseMethodDescriptor y'.desc = some sig → argsL.length = sig.parameters.length) (hsz : Ls.size = maxL) (hfr : rm.frames + 1 ≤ R.frames) (hW : (rest.map fun v => v.category).sum ≤ W) (hlo : W + (maxL' + 11) + rm.locals ≤ R.locals) (hc : cells + rm.cells ≤ R.cells) (hs : slots + rm.slots ≤ R.slots) (how : ∀ x ∈ owc, x ∈ ow) (hc' : cells + rm.cells = cells') (hs' : slots + rm.slots = slots') (hp : pc + 3 = pc')
    (K : ∀ (v : Option Value) (h' : Heap), Q' v h' → Keep h h' owc → Run p l e R s m args below meth c Z wd ro EL n0 ow0 Q h' ow cells' slots' (mkF m pc' Ls (v.toList ++ rest))) : Run p l e R s m args below meth c Z wd ro EL n0 ow0 Q h ow cells slots (mkF m pc Ls st) := by
  subst hp hst hc' hs'
  intro T locs vm0 k0 X H
  have hZ := H.2.2.1
  obtain ⟨cq, kq, r1, -, r3⟩ := isOf (s := s.setVm vm0) (T := T) hZ H.2.2.2.1 E
  obtain ⟨v, vm₁, B, -, X', hS, -, ⟨L, q1, q2, q3, q4, q5, q6, q7, q8, q9⟩, stp⟩ := X.virtualBackS G.1 (G.own H.1) (mv (s := s.setVm vm0) hZ w1) (mv (s := s.setVm vm0) hZ w2) (hnf (s.setVm vm0) hZ) (mv (s := s.setVm vm0) hZ w3) (mv (s := s.setVm vm0) hZ w4) hy
    (backG C hZ w6 w5 hfr hlo G.2.2.2.2.2.2.2 H.2.2.2.2.2.1.1 H.2.2.2.2.2.2.2.1 (fun x hx => ⟨(H.2.2.2.2.2.2.2.2.1 x (how x hx)).1, (H.2.2.2.2.2.2.2.2.1 x (how x hx)).2.1, (H.2.2.2.2.2.2.2.2.1 x (how x hx)).2.2.1⟩)) r1 r3 (g := mkF m pc Ls (argsL.reverse ++ .ref a :: rest)) rfl (hsz.trans G.2.2.1.symm) (Steps.refl _) hlen rfl (by show 2 * 0 + _ ≤ W; omega) (G.hb hd) (fun _ _ => ⟨rfl, H.2.2.2.1, hc, hs⟩)
  obtain ⟨T', Lc, kc, nc⟩ := B
  dsimp only [Pt.U, Pt.locs, Pt.cells, Pt.slots] at X' q1 q3 q4 q5 q6 q7 q8 q9 hS stp
  subst q4 q5 q6
  obtain ⟨s₂, o, q, r⟩ := K v T'.heap q1 q3 T' (locs ++ L) T'.vm T'.heap.size X' (H.call how hS q2 q3 q7 q8)
  exact ⟨s₂, o, stp.trans q, r⟩
theorem callFace (G : Gd p s m meth c y bytes maxL ret Z a0 EL) {idx count : Nat} {y' z' : MethodName} {D : String} {bytes' : ByteArray} {maxL' : Nat} {ret' : Option FieldType} {rm : Room} {W : Nat} {a : Addr} {argsL : List Value} {owc : List Addr} {Q' : Option Value → Heap → Prop} {ro' : Bool} (hd : decode bytes pc = .ok (.invokeinterface idx count, 5))
    (w1 : (Jvm.Cond.methodLink y.cls idx y').before a0 Z = true) (w2 : (Jvm.Cond.declares y').before a0 Z = true) (w3 : (Jvm.Cond.selects D y' z').before a0 Z = true) (wf : ∀ (a1 : Array Value) (s : State), Z.Warmed39 s.vm → (Jvm.Cond.interfaceMethod y'.cls y'.cls y'.name y'.desc).before a1 s = true) (wp : (Jvm.Cond.publicMethod z').before a0 Z = true) (wu : (Jvm.Cond.unhidden D y'.name y'.desc).before a0 Z = true) (wk : (Jvm.Cond.castable D y'.cls).before a0 Z = true) (w4 : (Jvm.Cond.instanceMethod z').before a0 Z = true) (w5 : (Jvm.Cond.initialized z'.cls).before a0 Z = true) (w6 : (Jvm.Cond.code z' bytes' maxL' ret').before a0 Z = true) (hy : y'.cls ≠ "java/lang/invoke/MethodHandle" ∧ y'.cls ≠ "java/lang/invoke/VarHandle")
    (E : Exa Z h a D) (C : Con l Z wd ro' EL n0 z' bytes' maxL' ret' rm [] (.ref a :: argsL).toArray h owc Q') (hst : st = argsL.reverse ++ .ref a :: rest) (hlen : ∀ sig, parseMethodDescriptor y'.desc = some sig → argsL.length = sig.parameters.length) (hsz : Ls.size = maxL) (hfr : rm.frames + 1 ≤ R.frames) (hW : (rest.map fun v => v.category).sum ≤ W) (hlo : W + (maxL' + 11) + rm.locals ≤ R.locals) (hc : cells + rm.cells ≤ R.cells) (hs : slots + rm.slots ≤ R.slots) (how : ∀ x ∈ owc, x ∈ ow) (hc' : cells + rm.cells = cells') (hs' : slots + rm.slots = slots') (hp : pc + 5 = pc')
    (K : ∀ (v : Option Value) (h' : Heap), Q' v h' → Keep h h' owc → Run p l e R s m args below meth c Z wd ro EL n0 ow0 Q h' ow cells' slots' (mkF m pc' Ls (v.toList ++ rest))) : Run p l e R s m args below meth c Z wd ro EL n0 ow0 Q h ow cells slots (mkF m pc Ls st) := by
  subst hp hst hc' hs'
  intro T locs vm0 k0 X H
  have hZ := H.2.2.1
  obtain ⟨cq, kq, r1, r2, r3⟩ := isOf (s := s.setVm vm0) (T := T) hZ H.2.2.2.1 E
  obtain ⟨v, vm₁, B, -, X', hS, -, ⟨L, q1, q2, q3, q4, q5, q6, q7, q8, q9⟩, stp⟩ := X.interfaceBackS G.1 (G.own H.1) (mv (s := s.setVm vm0) hZ w1) (mv (s := s.setVm vm0) hZ w2) (wf _ (s.setVm vm0) hZ) (mv (s := s.setVm vm0) hZ w3) (mv (s := s.setVm vm0) hZ w4) (mv (s := s.setVm vm0) hZ wp) (mv (s := s.setVm vm0) hZ wu) (mv (s := s.setVm vm0) hZ wk) hy
    (backG C hZ w6 w5 hfr hlo G.2.2.2.2.2.2.2 H.2.2.2.2.2.1.1 H.2.2.2.2.2.2.2.1 (fun x hx => ⟨(H.2.2.2.2.2.2.2.2.1 x (how x hx)).1, (H.2.2.2.2.2.2.2.2.1 x (how x hx)).2.1, (H.2.2.2.2.2.2.2.2.1 x (how x hx)).2.2.1⟩)) r1 r2 r3 (g := mkF m pc Ls (argsL.reverse ++ .ref a :: rest)) rfl (hsz.trans G.2.2.1.symm) (Steps.refl _) hlen rfl (by show 2 * 0 + _ ≤ W; omega) (G.hb hd) (fun _ _ => ⟨rfl, H.2.2.2.1, hc, hs⟩)
  obtain ⟨T', Lc, kc, nc⟩ := B
  dsimp only [Pt.U, Pt.locs, Pt.cells, Pt.slots] at X' q1 q3 q4 q5 q6 q7 q8 q9 hS stp
  subst q4 q5 q6
  obtain ⟨s₂, o, q, r⟩ := K v T'.heap q1 q3 T' (locs ++ L) T'.vm T'.heap.size X' (H.call how hS q2 q3 q7 q8)
  exact ⟨s₂, o, stp.trans q, r⟩
theorem nface {y' : MethodName} {D : String} (w3 : (Jvm.Cond.selects D y' y').before a0 Z = true) : ∀ (s : State), Z.Warmed39 s.vm → NotFace s y' := fun s hZ => notFace_of_selects (args := #[]) (mv (s := s) hZ w3)
end
end Jvm.GoKit


namespace Jvm.GoKit
open Jvm Jvm.ClassFile Sem Op Lib Jvm.Free Jvm.Stand Jvm.LawKit Jvm.RoadKit Bundle
theorem wi {L : List Jvm.Cond} {a0 : Array Value} {Z : State} (hw : ∀ d ∈ L, d.before a0 Z = true) (i : Nat) {d : Jvm.Cond} (h : L[i]? = some d) : d.before a0 Z = true := hw _ (List.mem_of_getElem? h)
/-- an array of chars or bytes, with its values -/
def IA (Z : State) (h : Heap) (b : Addr) (ty : FieldType) (xs : List Int32) : Prop := ∃ cl : Cell, Arr Z h b cl ty ∧ cl.slots = (xs.map Value.int).toArray ∧ xs.length < 2 ^ 31
section
variable {p : Program} {l : Launch} {e : Env} {R : Room} {s : State} {m : MethodId} {args : Array Value} {below : List Frame} {meth : Method} {c : Code} {Z : State} {wd ro ro' : Bool} {EL : List (String × Nat)} {n0 : Nat} {ow0 : List Addr} {Q : Option Value → Heap → Prop}
variable {h h' : Heap} {ow : List Addr} {cells slots cells' slots' : Nat} {pc pc' : Nat} {Ls Ls' : Array Slot} {st rest : List Value} {y : MethodName} {bytes : ByteArray} {maxL : Nat} {ret : Option FieldType} {a0 : Array Value}
variable {a b : Addr} {ty : FieldType} {xs : List Int32} {i : Nat} {x x' z j : Int32} {ws : List Addr} {sl : Nat} {v : Value}
theorem IA.lt (A : IA Z h b ty xs) : b < h.size := by obtain ⟨cl, A, -⟩ := A; exact A.lt
theorem IA.ext (A : IA Z h b ty xs) (E : Ext h h') : IA Z h' b ty xs := by obtain ⟨cl, A, r⟩ := A; exact ⟨cl, A.ext E, r⟩
theorem IA.other (A : IA Z h b ty xs) (W : Wr h h' a sl v) (q : b ≠ a) : IA Z h' b ty xs := by obtain ⟨cl, A, r⟩ := A; exact ⟨cl, A.other W q, r⟩
theorem IA.keep (A : IA Z h b ty xs) (K : Keep h h' ws) (q : b ∉ ws) : IA Z h' b ty xs := by obtain ⟨cl, A, r⟩ := A; exact ⟨cl, ⟨K.2.1 b cl A.1 q, A.2⟩, r⟩
theorem IA.new {cA : ClassId} {n : Int32} {k : Nat} (A : Arr Z h a (newA cA ty n) ty) (hk : n.toNatClampNeg = k) (hd : defaultValue ty = .int 0) : IA Z h a ty (List.replicate k 0) := by
  refine ⟨_, A, ?_, ?_⟩
  · subst hk; simp [newA, hd]
  · rw [List.length_replicate, ← hk]
    have := n.toInt_lt
    simp only [Int32.toNatClampNeg]; omega
theorem idx_ok {cl : Cell} {j : Int32} {i n : Nat} (hs : cl.slots.size = n) (hj : j.toNatClampNeg = i) (hj0 : ¬ j < 0) (hi : i < n) : ¬ (j < 0 ∨ cl.slots.size ≤ j.toNatClampNeg) := by
  rintro (q | q)
  · exact hj0 q
  · omega
theorem IA.set (A : IA Z h a ty xs) (W : Wr h h' a i (.int x)) (hi : i < xs.length) : IA Z h' a ty (xs.set i x) := by
  obtain ⟨cl, A, e, hl⟩ := A
  refine ⟨_, A.same W, ?_, by simpa using hl⟩
  simp only [Cell.setSlot]
  rw [e, ← Array.toList_inj]
  simp [List.map_set]
theorem castI (G : Gd p s m meth c y bytes maxL ret Z a0 EL) (hd : decode bytes pc = .ok (.castore, 1)) (A : IA Z h a .char xs) (hj : j.toNatClampNeg = i) (hj0 : ¬ j < 0) (hi : i < xs.length) (hx : nar .char x = x') (ha : a ∈ ow) (hp : pc + 1 = pc')
    (K : ∀ h', Wr h h' a i (.int x') → IA Z h' a .char (xs.set i x') → Run p l e R s m args below meth c Z wd ro EL n0 ow0 Q h' ow cells slots (mkF m pc' Ls rest)) : Run p l e R s m args below meth c Z wd ro EL n0 ow0 Q h ow cells slots (mkF m pc Ls (.int x :: .int j :: .ref a :: rest)) := by
  obtain ⟨cl, A1, e1, hl⟩ := id A
  refine castore G hd A1 (idx_ok (by rw [e1]; simp) hj hj0 hi) ha hp fun h' W => ?_
  rw [hj, hx] at W
  exact K h' W (A.set W hi)
theorem bastI (G : Gd p s m meth c y bytes maxL ret Z a0 EL) (hd : decode bytes pc = .ok (.bastore, 1)) (A : IA Z h a .byte xs) (hj : j.toNatClampNeg = i) (hj0 : ¬ j < 0) (hi : i < xs.length) (hx : nar .byte x = x') (ha : a ∈ ow) (hp : pc + 1 = pc')
    (K : ∀ h', Wr h h' a i (.int x') → IA Z h' a .byte (xs.set i x') → Run p l e R s m args below meth c Z wd ro EL n0 ow0 Q h' ow cells slots (mkF m pc' Ls rest)) : Run p l e R s m args below meth c Z wd ro EL n0 ow0 Q h ow cells slots (mkF m pc Ls (.int x :: .int j :: .ref a :: rest)) := by
  obtain ⟨cl, A1, e1, hl⟩ := id A
  refine bastore G hd A1 (idx_ok (by rw [e1]; simp) hj hj0 hi) ha hp fun h' W => ?_
  rw [hj, hx] at W
  exact K h' W (A.set W hi)
theorem caloadI (G : Gd p s m meth c y bytes maxL ret Z a0 EL) (hd : decode bytes pc = .ok (.caload, 1)) (A : IA Z h a .char xs) (hj : j.toNatClampNeg = i) (hj0 : ¬ j < 0) (hv : xs[i]? = some x) (hp : pc + 1 = pc') (K : Run p l e R s m args below meth c Z wd ro EL n0 ow0 Q h ow cells slots (mkF m pc' Ls (.int x :: rest))) : Run p l e R s m args below meth c Z wd ro EL n0 ow0 Q h ow cells slots (mkF m pc Ls (.int j :: .ref a :: rest)) := by
  obtain ⟨cl, A1, e1, hl⟩ := A
  have hi := (List.getElem?_eq_some_iff.mp hv).1
  exact caload G hd A1 (idx_ok (by rw [e1]; simp) hj hj0 hi) (by rw [e1, hj]; simp [hv]) hp K
theorem baloadI (G : Gd p s m meth c y bytes maxL ret Z a0 EL) (hd : decode bytes pc = .ok (.baload, 1)) (A : IA Z h a .byte xs) (hj : j.toNatClampNeg = i) (hj0 : ¬ j < 0) (hv : xs[i]? = some x) (hp : pc + 1 = pc') (K : Run p l e R s m args below meth c Z wd ro EL n0 ow0 Q h ow cells slots (mkF m pc' Ls (.int x :: rest))) : Run p l e R s m args below meth c Z wd ro EL n0 ow0 Q h ow cells slots (mkF m pc Ls (.int j :: .ref a :: rest)) := by
  obtain ⟨cl, A1, e1, hl⟩ := A
  have hi := (List.getElem?_eq_some_iff.mp hv).1
  exact baload G hd A1 (idx_ok (by rw [e1]; simp) hj hj0 hi) (by rw [e1, hj]; simp [hv]) hp K
theorem arrlenI (G : Gd p s m meth c y bytes maxL ret Z a0 EL) (hd : decode bytes pc = .ok (.arraylength, 1)) (A : IA Z h a ty xs) (hz : xs.length.toInt32 = z) (hp : pc + 1 = pc') (K : Run p l e R s m args below meth c Z wd ro EL n0 ow0 Q h ow cells slots (mkF m pc' Ls (.int z :: rest))) : Run p l e R s m args below meth c Z wd ro EL n0 ow0 Q h ow cells slots (mkF m pc Ls (.ref a :: rest)) := by
  obtain ⟨cl, A1, e1, hl⟩ := A
  refine arrlen G hd A1 hp ?_
  rw [e1, List.size_toArray, List.length_map, hz]
  exact K
theorem newcI (G : Gd p s m meth c y bytes maxL ret Z a0 EL) {n : Int32} {k cap : Nat} (hd : decode bytes pc = .ok (.newarray .char, 2)) (w : (Jvm.Cond.arrayClass .char).before a0 Z = true) (hn : ¬ n < 0) (hk : n.toNatClampNeg = k) (hcap : k ≤ cap) (hb : cap * 8 ≤ 536870912) (hc : cells + 1 ≤ R.cells) (hl : slots + cap ≤ R.slots) (hc' : cells + 1 = cells') (hs' : slots + cap = slots') (hp : pc + 2 = pc')
    (K : ∀ (h' : Heap) (a : Addr), a = h.size → Ext h h' → IA Z h' a .char (List.replicate k 0) → Run p l e R s m args below meth c Z wd ro EL n0 ow0 Q h' (a :: ow) cells' slots' (mkF m pc' Ls (.ref a :: rest))) : Run p l e R s m args below meth c Z wd ro EL n0 ow0 Q h ow cells slots (mkF m pc Ls (.int n :: rest)) :=
  newarr G hd w hn (hk ▸ hcap) hb hc hl hc' hs' hp fun h' cA a g E A => K h' a g E (IA.new A hk rfl)
theorem newbI (G : Gd p s m meth c y bytes maxL ret Z a0 EL) {n : Int32} {k cap : Nat} (hd : decode bytes pc = .ok (.newarray .byte, 2)) (w : (Jvm.Cond.arrayClass .byte).before a0 Z = true) (hn : ¬ n < 0) (hk : n.toNatClampNeg = k) (hcap : k ≤ cap) (hb : cap * 8 ≤ 536870912) (hc : cells + 1 ≤ R.cells) (hl : slots + cap ≤ R.slots) (hc' : cells + 1 = cells') (hs' : slots + cap = slots') (hp : pc + 2 = pc')
    (K : ∀ (h' : Heap) (a : Addr), a = h.size → Ext h h' → IA Z h' a .byte (List.replicate k 0) → Run p l e R s m args below meth c Z wd ro EL n0 ow0 Q h' (a :: ow) cells' slots' (mkF m pc' Ls (.ref a :: rest))) : Run p l e R s m args below meth c Z wd ro EL n0 ow0 Q h ow cells slots (mkF m pc Ls (.int n :: rest)) :=
  newarr G hd w hn (hk ▸ hcap) hb hc hl hc' hs' hp fun h' cA a g E A => K h' a g E (IA.new A hk rfl)
/-- calls of a callee that leaves the heap as it was -/
theorem callStaticP (G : Gd p s m meth c y bytes maxL ret Z a0 EL) {idx : Nat} {y' : MethodName} {bytes' : ByteArray} {maxL' : Nat} {ret' : Option FieldType} {rm : Room} {W : Nat} {argsL : List Value} {r : Option Value} (hd : decode bytes pc = .ok (.invokestatic idx, 3))
    (w1 : (Jvm.Cond.methodLink y.cls idx y').before a0 Z = true) (w2 : (Jvm.Cond.static y').before a0 Z = true) (w3 : (Jvm.Cond.initialized y'.cls).before a0 Z = true) (w4 : (Jvm.Cond.code y' bytes' maxL' ret').before a0 Z = true) (hy : y'.cls ≠ "java/lang/invoke/MethodHandle" ∧ y'.cls ≠ "java/lang/invoke/VarHandle")
    (C : Con l Z wd ro' EL n0 y' bytes' maxL' ret' rm [] argsL.toArray h [] (fun v h' => v = r ∧ h' = h)) (hst : st = argsL.reverse ++ rest) (hlen : ∀ sig, parseMethodDescriptor y'.desc = some sig → argsL.length = sig.parameters.length) (hsz : Ls.size = maxL) (hfr : rm.frames + 1 ≤ R.frames) (hW : (rest.map fun v => v.category).sum ≤ W) (hlo : W + (maxL' + 11) + rm.locals ≤ R.locals) (hc : cells + rm.cells ≤ R.cells) (hs : slots + rm.slots ≤ R.slots) (hc' : cells + rm.cells = cells') (hs' : slots + rm.slots = slots') (hp : pc + 3 = pc')
    (K : Run p l e R s m args below meth c Z wd ro EL n0 ow0 Q h ow cells' slots' (mkF m pc' Ls (r.toList ++ rest))) : Run p l e R s m args below meth c Z wd ro EL n0 ow0 Q h ow cells slots (mkF m pc Ls st) :=
  callStatic G hd w1 w2 w3 w4 hy C hst hlen hsz hfr hW hlo hc hs (fun _ q => nomatch q) hc' hs' hp fun v h' q _ => by rw [q.1, q.2]; exact K
theorem callVirtualP (G : Gd p s m meth c y bytes maxL ret Z a0 EL) {idx : Nat} {y' : MethodName} {D : String} {bytes' : ByteArray} {maxL' : Nat} {ret' : Option FieldType} {rm : Room} {W : Nat} {a : Addr} {argsL : List Value} {r : Option Value} (hd : decode bytes pc = .ok (.invokevirtual idx, 3))
    (w1 : (Jvm.Cond.methodLink y.cls idx y').before a0 Z = true) (w2 : (Jvm.Cond.declares y').before a0 Z = true) (w3 : (Jvm.Cond.selects D y' y').before a0 Z = true) (w4 : (Jvm.Cond.instanceMethod y').before a0 Z = true) (w5 : (Jvm.Cond.initialized y'.cls).before a0 Z = true) (w6 : (Jvm.Cond.code y' bytes' maxL' ret').before a0 Z = true) (hy : y'.cls ≠ "java/lang/invoke/MethodHandle" ∧ y'.cls ≠ "java/lang/invoke/VarHandle")
    (E : Exa Z h a D) (C : Con l Z wd ro' EL n0 y' bytes' maxL' ret' rm [] (.ref a :: argsL).toArray h [] (fun v h' => v = r ∧ h' = h)) (hst : st = argsL.reverse ++ .ref a :: rest) (hlen : ∀ sig, parseMethodDescriptor y'.desc = some sig → argsL.length = sig.parameters.length) (hsz : Ls.size = maxL) (hfr : rm.frames + 1 ≤ R.frames) (hW : (rest.map fun v => v.category).sum ≤ W) (hlo : W + (maxL' + 11) + rm.locals ≤ R.locals) (hc : cells + rm.cells ≤ R.cells) (hs : slots + rm.slots ≤ R.slots) (hc' : cells + rm.cells = cells') (hs' : slots + rm.slots = slots') (hp : pc + 3 = pc')
    (K : Run p l e R s m args below meth c Z wd ro EL n0 ow0 Q h ow cells' slots' (mkF m pc' Ls (r.toList ++ rest))) : Run p l e R s m args below meth c Z wd ro EL n0 ow0 Q h ow cells slots (mkF m pc Ls st) :=
  callVirtual G hd w1 w2 w3 (nface w3) w4 w5 w6 hy E C hst hlen hsz hfr hW hlo hc hs (fun _ q => nomatch q) hc' hs' hp fun v h' q _ => by rw [q.1, q.2]; exact K
theorem callFaceP (G : Gd p s m meth c y bytes maxL ret Z a0 EL) {idx count : Nat} {y' z' : MethodName} {D : String} {bytes' : ByteArray} {maxL' : Nat} {ret' : Option FieldType} {rm : Room} {W : Nat} {a : Addr} {argsL : List Value} {r : Option Value} (hd : decode bytes pc = .ok (.invokeinterface idx count, 5))
    (w1 : (Jvm.Cond.methodLink y.cls idx y').before a0 Z = true) (w2 : (Jvm.Cond.declares y').before a0 Z = true) (w3 : (Jvm.Cond.selects D y' z').before a0 Z = true) (wf : ∀ (a1 : Array Value) (s : State), Z.Warmed39 s.vm → (Jvm.Cond.interfaceMethod y'.cls y'.cls y'.name y'.desc).before a1 s = true) (wp : (Jvm.Cond.publicMethod z').before a0 Z = true) (wu : (Jvm.Cond.unhidden D y'.name y'.desc).before a0 Z = true) (wk : (Jvm.Cond.castable D y'.cls).before a0 Z = true) (w4 : (Jvm.Cond.instanceMethod z').before a0 Z = true) (w5 : (Jvm.Cond.initialized z'.cls).before a0 Z = true) (w6 : (Jvm.Cond.code z' bytes' maxL' ret').before a0 Z = true) (hy : y'.cls ≠ "java/lang/invoke/MethodHandle" ∧ y'.cls ≠ "java/lang/invoke/VarHandle")
    (E : Exa Z h a D) (C : Con l Z wd ro' EL n0 z' bytes' maxL' ret' rm [] (.ref a :: argsL).toArray h [] (fun v h' => v = r ∧ h' = h)) (hst : st = argsL.reverse ++ .ref a :: rest) (hlen : ∀ sig, parseMethodDescriptor y'.desc = some sig → argsL.length = sig.parameters.length) (hsz : Ls.size = maxL) (hfr : rm.frames + 1 ≤ R.frames) (hW : (rest.map fun v => v.category).sum ≤ W) (hlo : W + (maxL' + 11) + rm.locals ≤ R.locals) (hc : cells + rm.cells ≤ R.cells) (hs : slots + rm.slots ≤ R.slots) (hc' : cells + rm.cells = cells') (hs' : slots + rm.slots = slots') (hp : pc + 5 = pc')
    (K : Run p l e R s m args below meth c Z wd ro EL n0 ow0 Q h ow cells' slots' (mkF m pc' Ls (r.toList ++ rest))) : Run p l e R s m args below meth c Z wd ro EL n0 ow0 Q h ow cells slots (mkF m pc Ls st) :=
  callFace G hd w1 w2 w3 wf wp wu wk w4 w5 w6 hy E C hst hlen hsz hfr hW hlo hc hs (fun _ q => nomatch q) hc' hs' hp fun v h' q _ => by rw [q.1, q.2]; exact K
/-- a Latin-1 String of known chars -/
def Lat (Z : State) (h : Heap) (a : Addr) (cs : List Int32) : Prop := Exa Z h a "java/lang/String" ∧ (∃ b, Fld Z h a "java/lang/String" "value" "[B" (.ref b) ∧ Fld Z h a "java/lang/String" "coder" "B" (.int 0) ∧ IA Z h b .byte (cs.map fun c => c.toInt8.toInt32)) ∧ ∀ c ∈ cs, 0 ≤ c.toInt ∧ c.toInt < 256
theorem Lat.ext {cs : List Int32} (S : Lat Z h a cs) (E : Ext h h') : Lat Z h' a cs := by
  obtain ⟨S1, ⟨b, S2, S3, S4⟩, S5⟩ := S
  exact ⟨S1.ext E, ⟨b, S2.ext E, S3.ext E, S4.ext E⟩, S5⟩
theorem Lat.keep {cs : List Int32} (S : Lat Z h a cs) (K : Keep h h' []) : Lat Z h' a cs := by
  obtain ⟨S1, ⟨b, S2, S3, S4⟩, S5⟩ := S
  exact ⟨S1.keep K, ⟨b, S2.keep K nin0, S3.keep K nin0, S4.keep K nin0⟩, S5⟩
theorem Lat.lt {cs : List Int32} (S : Lat Z h a cs) : a < h.size := S.1.lt
theorem IA.ne {n : Nat} {C : String} (A : IA Z h b ty xs) (E : Exa Z h a C) (wi : (Jvm.Cond.instantiable C n).before a0 Z = true) : b ≠ a := by obtain ⟨cl, A, -⟩ := A; exact (ne_arr E wi A).symm
theorem IA.neTy {ty' : FieldType} {ys : List Int32} (A : IA Z h b ty xs) (B : IA Z h a ty' ys) (hn : ty ≠ ty') : b ≠ a := fun q => by
  subst q
  obtain ⟨c1, A, -⟩ := A
  obtain ⟨c2, B, -⟩ := B
  cases A.1.symm.trans B.1
  obtain ⟨-, k1, e1, p1, r1⟩ := A.2.1
  obtain ⟨-, k2, e2, p2, r2⟩ := B.2.1
  cases e1.symm.trans e2
  have := r1.symm.trans r2
  injection this with _ q
  exact hn q
theorem IA.len (A : IA Z h b ty xs) : xs.length < 2 ^ 31 := by obtain ⟨-, -, -, h⟩ := A; exact h
theorem Lat.wrI {cs : List Int32} {n : Nat} (S : Lat Z h a cs) (W : Wr h h' b sl v) (A : IA Z h b ty xs) (ht : ty ≠ .byte) (wi : (Jvm.Cond.instantiable "java/lang/String" n).before a0 Z = true) : Lat Z h' a cs := by
  obtain ⟨E, ⟨d, V, C, B⟩, l⟩ := S
  have n1 : a ≠ b := fun q => IA.ne A E wi q.symm
  exact ⟨E.wr W, ⟨d, V.other W (Or.inl n1), C.other W (Or.inl n1), B.other W (IA.neTy B A (fun q => ht q.symm))⟩, l⟩
theorem con_mono {y' : MethodName} {bytes' : ByteArray} {maxL' : Nat} {ret' : Option FieldType} {rm : Room} {ws : List Jvm.Cond} {as' : Array Value} {owc : List Addr} {Q1 Q2 : Option Value → Heap → Prop} (C : Con l Z wd ro EL n0 y' bytes' maxL' ret' rm ws as' h owc Q1) (q : ∀ v h', Q1 v h' → Q2 v h') : Con l Z wd ro EL n0 y' bytes' maxL' ret' rm ws as' h owc Q2 := by
  intro p e a1 a2 a3 s m args below a4 a5 a6 a7
  obtain ⟨n, o, b1, b2, b3, v, L, b4, b5, b6⟩ := C p e a1 a2 a3 s m args below a4 a5 a6 a7
  exact ⟨n, o, b1, b2, b3, v, L, b4, q _ _ b5, b6⟩
theorem castRun {g g' : JFrame} (q : g = g') (K : Run p l e R s m args below meth c Z wd ro EL n0 ow0 Q h ow cells slots g') : Run p l e R s m args below meth c Z wd ro EL n0 ow0 Q h ow cells slots g := q ▸ K
theorem toI_toInt {i : Nat} (h : i < 2 ^ 31) : i.toInt32.toInt = i := len_toInt h
theorem toI_clamp {i : Nat} (h : i < 2 ^ 31) : i.toInt32.toNatClampNeg = i := by simp only [Int32.toNatClampNeg, toI_toInt h]; rfl
theorem toI_nn {i : Nat} (h : i < 2 ^ 31) : ¬ i.toInt32 < 0 := by
  rw [Int32.lt_iff_toInt_lt, toI_toInt h]; show ¬ (i : Int) < 0; omega
theorem toI_lt {i k : Nat} (h : i < 2 ^ 31) (h' : k < 2 ^ 31) : i.toInt32 < k.toInt32 ↔ i < k := by
  rw [Int32.lt_iff_toInt_lt, toI_toInt h, toI_toInt h']; omega
theorem toI_succ (i : Nat) : i.toInt32 + 1 = (i + 1).toInt32 := by
  apply Int32.toBitVec_inj.mp
  simp [Nat.toInt32, BitVec.ofNat_add]
theorem toI_eq {i k : Nat} (h : i < 2 ^ 31) (h' : k < 2 ^ 31) : i.toInt32 = k.toInt32 ↔ i = k := by
  refine ⟨fun q => ?_, fun q => by rw [q]⟩
  have := congrArg Int32.toInt q
  rw [toI_toInt h, toI_toInt h'] at this; omega
theorem lo8_nar (c : Int32) : nar .byte (c.toInt8.toInt32) = c.toInt8.toInt32 := by simp [nar]
theorem nar_i2c (x : Int32) : nar .char (x.toUInt32.toUInt16.toUInt32.toInt32) = x.toUInt32.toUInt16.toUInt32.toInt32 := by simp only [nar, UInt32.toUInt32_toInt32, UInt16.toUInt16_toUInt32]
theorem set_fill (f : Int32 → Int32) (cs : List Int32) (i k : Nat) (c : Int32) (hc : cs[i]? = some c) : (((cs.take i).map f) ++ List.replicate (k + 1) 0).set i (f c) = ((cs.take (i + 1)).map f) ++ List.replicate k 0 := by
  have hi := (List.getElem?_eq_some_iff.mp hc).1
  have hl : ((cs.take i).map f).length = i := by simp; omega
  rw [List.set_append_right _ _ (by omega), hl, Nat.sub_self, List.replicate_succ, List.set_cons_zero, List.take_add_one, hc]
  simp
theorem and_rng (x m : Int32) (M : Nat) (hm : m.toBitVec.toNat = M) (hM : M < 2 ^ 31) : 0 ≤ (x &&& m).toInt ∧ (x &&& m).toInt ≤ M := by
  have h : (x &&& m).toBitVec.toNat ≤ M := by
    show (x.toBitVec &&& m.toBitVec).toNat ≤ M
    rw [BitVec.toNat_and, ← hm]; exact Nat.and_le_right
  have e : (x &&& m).toInt = ((x &&& m).toBitVec.toNat : Int) := by
    show (x &&& m).toBitVec.toInt = _
    rw [BitVec.toInt_eq_toNat_cond]; rw [if_pos (by omega)]
  omega
theorem and255_rng (x : Int32) : 0 ≤ (x &&& 255).toInt ∧ (x &&& 255).toInt < 256 := by
  have := and_rng x 255 255 rfl (by decide); omega
theorem ch8 (x v w : Int32) (h1 : v = x &&& 255) (h2 : w = v.toUInt32.toUInt16.toUInt32.toInt32) : 0 ≤ w.toInt ∧ w.toInt < 256 := by
  subst h1 h2; rw [i2c_mask]; exact and255_rng x
theorem bool_ok {z : Int32} (h : z = 0 ∨ z = 1) : narrow .boolean (.int z) = .int z ∧ fits .boolean (.int z) = true ∧ nar .boolean z = z := by
  rcases h with rfl | rfl <;> exact ⟨rfl, rfl, rfl⟩
theorem ref_ok {v : Value} (C : String) (h : v.isRef = true) : narrow (.object C) v = v ∧ fits (.object C) v = true := by
  rcases ref_cases h with rfl | ⟨r, rfl⟩ <;> exact ⟨rfl, rfl⟩
theorem rem_rng (x m : Int32) (hx : 0 ≤ x.toInt) (hm : 0 < m.toInt) : 0 ≤ (x % m).toInt ∧ (x % m).toInt < m.toInt := by
  rw [Int32.toInt_mod, Int.tmod_eq_emod_of_nonneg hx]
  exact ⟨Int.emod_nonneg _ (by omega), Int.emod_lt_of_pos _ hm⟩
theorem and31_rem {x v w m : Int32} (h1 : v = x &&& 2147483647) (h2 : w = v % m) (hm : 0 < m.toInt) : 0 ≤ w.toInt ∧ w.toInt < m.toInt := by
  subst h1 h2; exact rem_rng _ _ (and_rng x 2147483647 2147483647 rfl (by decide)).1 hm
/-- compact strings are on -/
def Cst (Z : State) : Prop := ∃ cz : Int32, Sta Z Z.heap "java/lang/String" "COMPACT_STRINGS" "Z" (.int cz) ∧ cz ≠ 0
theorem keepExt (K : Keep h h' []) : Ext h h' := ⟨K.1, fun x c q => K.2.1 x c q nin0⟩
theorem extKeep (E : Ext h h') : Keep h h' [] := (Keep.refl h []).ext E
end
end Jvm.GoKit


namespace Jvm.GoKit
open Jvm Jvm.ClassFile Sem Op Lib Jvm.Free Jvm.Stand Jvm.LawKit Jvm.RoadKit Bundle
/-- invokespecial of a method that the direct superclass itself declares, class or interface -/
theorem wp_own {Q : Unit → Pre} {E : CtlPost} {e : Env} {d : Bool} {acts : List Action} {s : State} {f : JFrame} {index a : Nat} {m : MethodId} {k ck : Class} {meth : Method} {args rest : List Value} {cell : Cell} {kcell : Class}
    (hs : s.topJava?.isSome) (hnamed : namesResolved s.vm f.method.cls index m.cls) (hr : s.vm.methodReady f.method.cls index m)
    (hk : s.vm.classes[m.cls]? = some k) (hm : s.vm.method? m = some meth) (hck : s.vm.classes[f.method.cls]? = some ck) (hsup : ck.super = some m.cls) (hni : ck.isInterface = false)
    (hstatic : meth.isStatic = false) (habs : meth.isAbstract = false) (hfound : lookupSpecial s.vm m.cls meth.name meth.desc = .method m)
    (hlen : args.length = meth.sig.parameters.length) (hstack : f.stack = args.reverse ++ .ref a :: rest)
    (hcell : s.heap[a]? = some cell) (hobj : ∀ c, cell.vm ≠ .statics c) (hkcell : s.vm.classes[cell.cls]? = some kcell) :
    wp (invokespecial.sem index) Q E e d acts (s.setTop f) ↔ E (.invoke m (.ref a :: args).toArray) acts (s.setTop { f with stack := rest }) := by
  obtain ⟨kc, cf, ci, n, h1, h2, h3, h4⟩ := hnamed
  have hpre : ∀ {Q' : ClassId → Pre} {d' : Bool} {acts' : List Action}, wp (Jvm.refClassAt index) Q' E e d' acts' (s.setTop f) ↔ Q' m.cls d' acts' (s.setTop f) := by
    intro Q' d' acts'
    rcases h3 with h3 | h3 <;>
      simp [Jvm.refClassAt, Jvm.constantAt, State.method?_setTop f hs, h1, h2, h3, W.resolveClassAt_ready (State.method?_setTop f hs) h4]
  simp only [invokespecial.sem, wp_bind', W.resolveMethodAt_ready (State.method?_setTop f hs) hr]
  simp only [W.theMethod, State.vm_setTop, hm, Option.some.injEq, exists_eq_left', wp_bind', hpre]
  simp [hs, hstatic, habs, hck, hk, hm, hsup, hfound, hni, hcell, hobj, hkcell, State.method?_setTop f hs, Jvm.popArgs, ← hlen, popN_top hs hstack]
theorem superStep {tb : Tables} [Ours tb] {e : Env} {below : List Frame} {s U : State} {mm : MethodId} {cc : Code} (h : At U mm cc below) (hexec : tb.exec = Jvm.exec) (hW : s.WarmedH U.vm)
    (hpl : e.platform.magicAccessors = ({} : Platform).magicAccessors) {own : String} (hown : s.vm.findClass own = some mm.cls) {idx : Nat} {t : MethodName}
    (hnot : t.cls ≠ "java/lang/invoke/MethodHandle" ∧ t.cls ≠ "java/lang/invoke/VarHandle") {args : Array Value} {bytes : ByteArray} {maxL : Nat} {ret : Option FieldType}
    (hlink : (Cond.methodLink own idx t).before args s = true) (hinst : (Cond.instanceMethod t).before args s = true) (hcode : (Cond.code t bytes maxL ret).before args s = true) (hsup : (Cond.superclass own t.cls).before args s = true)
    {f : JFrame} (hf : f.method = mm) {a : Addr} {cell : Cell} {kcell : Class} {argsL rest : List Value} (hlen : ∀ sig, parseMethodDescriptor t.desc = some sig → argsL.length = sig.parameters.length) (hstack : f.stack = argsL.reverse ++ .ref a :: rest) (hd : decode cc.code f.pc = .ok (.invokespecial idx, 3))
    (hcell : U.heap[a]? = some cell) (hobj : ∀ c, cell.vm ≠ .statics c) (hkcell : s.vm.classes[cell.cls]? = some kcell) :
    ∃ tm vm', s.methodNamed? t = some tm ∧ s.WarmedH vm' ∧
      ∀ target, (∀ acts, Steps tb e below (doInvoke e ((U.setVm vm').setTop { f with stack := rest }) acts tm (.ref a :: argsL).toArray).1 target) → Steps tb e below (U.setTop f) target := by
  subst hf
  obtain ⟨obj, methO, hnO, hmO, hstO, habO⟩ := Cond.instanceMethod_spec hinst
  obtain ⟨methO', cO, hmO', hcO, hbO, hlO, -, hlockO, -, hsigO⟩ := Cond.code_spec hnO hcode
  cases hmO.symm.trans hmO'
  obtain ⟨kO, hkO, hnameO⟩ := className_of_methodNamed hnO
  obtain ⟨hnameMO, hdescO⟩ := name_of_methodNamed hnO hmO
  obtain ⟨ci, hl, hright⟩ := Cond.methodLink_spec hown hnO hlink e.platform hpl
  have hE : s.MethodEntry e U.vm f.method.cls idx obj ci := State.methodEntry hW hl hright fun k hk => by
    cases hkO.symm.trans hk
    rw [hnameO]; exact hnot
  obtain ⟨dk, cf, nt, _, _, via, _, _, hd', hcf, hcp, -⟩ := hl.here
  have hcp' : cf.constantPool[idx]? = some (.methodref ci nt) ∨ cf.constantPool[idx]? = some (.interfaceMethodref ci nt) := by
    cases via
    · exact Or.inl (by simpa using hcp)
    · exact Or.inr (by simpa using hcp)
  have hcn := findClass_of_methodNamed hnO
  obtain ⟨kp, hp, -⟩ := Vm.findClass_spec hcn
  have ws := hsup
  simp only [Cond.before, Cond.holds, Cond.value, hown, hcn, hd', hp, Option.bind_some, Option.map_some] at ws
  have ws' : ((dk.super = some obj.cls ∧ dk.kind = .ordinary) ∧ kp.kind = .ordinary) ∧ dk.isInterface = false := by simpa using ws
  have hwarm := hE.warmed
  have hreadyM := hE.ready
  have hreadyC := hE.classReady
  generalize hvm₂ : U.vm.called f.method.cls ci idx obj = vm₂ at hwarm hreadyM hreadyC
  obtain ⟨dk₂, hdk₂, hed₂⟩ := hwarm.alike.2.2 _ _ hd'
  obtain ⟨kO₂, hkO₂, heO₂⟩ := hwarm.alike.2.2 _ _ hkO
  obtain ⟨kc₂, hkc₂, hec₂⟩ := hwarm.alike.2.2 _ _ hkcell
  have hmO₂ : vm₂.method? obj = some methO := by rw [hwarm.alike.method?]; exact hmO
  have hfound : lookupSpecial vm₂ obj.cls methO.name methO.desc = .method obj := by
    rw [hwarm.alike.lookupSpecial, hnameMO, hdescO]; exact lookupSpecial_of_named hnO hmO hstO
  refine ⟨obj, vm₂, hnO, hwarm, fun target hrest => ?_⟩
  have hAt₂ : At (U.setVm vm₂) f.method cc below := h.setVm (hW.alike.symm.trans hwarm.alike)
  jvm_step h [hexec, hd, invokespecial.wp_cold (e := e) (s := U) (s₀ := s) (f := f) (meth := methO) h.top hE hd' hcf hcp' hmO, hvm₂,
    wp_own (e := e) (s := U.setVm vm₂) (k := kO₂) (ck := dk₂) (meth := methO) (m := obj) (a := a) (args := argsL) (rest := rest) (f := f) (cell := cell) (kcell := kc₂)
      hAt₂.top ⟨dk₂, cf, ci, nt, hdk₂, by rw [hed₂]; exact hcf, hcp', hreadyC⟩ hreadyM hkO₂ hmO₂ hdk₂ (by rw [hed₂]; exact ws'.1.1.1) (by rw [hed₂]; exact ws'.2) hstO habO hfound (hlen _ hsigO) hstack hcell hobj hkc₂]
  exact hrest
/-- no interface: out of what a call goes to -/
theorem nfOf {Z : State} {a0 : Array Value} {D : String} {x z y : MethodName} (w : (Jvm.Cond.selects D x z).before a0 Z = true) (hc : y.cls = z.cls) : ∀ (s : State), Z.Warmed39 s.vm → NotFace s y := fun s hZ r0 h0 => by
  obtain ⟨c2, r2, m2, q1, q2, q3, q4, kP, hkP, hkPi⟩ := Cond.selects_spec (mv (s := s) (args := #[]) hZ w)
  have e1 := findClass_of_methodNamed h0
  have e2 := findClass_of_methodNamed q3
  rw [hc, e2] at e1
  exact ⟨kP, by rw [← Option.some.inj e1]; exact hkP, hkPi⟩
section
variable {p : Program} {l : Launch} {e : Env} {R : Room} {s : State} {m : MethodId} {args : Array Value} {below : List Frame} {meth : Method} {c : Code} {Z : State} {wd ro : Bool} {EL : List (String × Nat)} {n0 : Nat} {ow0 : List Addr} {Q : Option Value → Heap → Prop}
variable {h h' : Heap} {ow : List Addr} {cells slots cells' slots' : Nat} {pc pc' : Nat} {Ls Ls' : Array Slot} {st rest : List Value} {y : MethodName} {bytes : ByteArray} {maxL : Nat} {ret : Option FieldType} {a0 : Array Value}
theorem Run.n0le {g : JFrame} (K : n0 ≤ h.size → Run p l e R s m args below meth c Z wd ro EL n0 ow0 Q h ow cells slots g) : Run p l e R s m args below meth c Z wd ro EL n0 ow0 Q h ow cells slots g := fun T locs vm0 k0 X H =>
  K (by rw [← H.2.2.2.2.2.2.2.1.1]; exact H.2.2.2.2.2.2.2.1.2.1) T locs vm0 k0 X H
theorem Run.claim {g : JFrame} {d : Addr} (hEL : EL = []) (hlt : d < h.size) (hn : n0 ≤ d) (hd : s.heap.size ≤ d) (K : Run p l e R s m args below meth c Z wd ro EL n0 ow0 Q h (d :: ow) cells slots g) : Run p l e R s m args below meth c Z wd ro EL n0 ow0 Q h ow cells slots g := fun T locs vm0 k0 X H =>
  K T locs vm0 k0 X (H.own ⟨(fun B => by obtain ⟨q, hq, -⟩ := B; rw [hEL] at hq; cases hq), hlt, hn, Or.inr hd⟩)
theorem getfN (G : Gd p s m meth c y bytes maxL ret Z a0 EL) {idx : Nat} {R0 O n d host : String} {a : Addr} {v : Value} (hd : decode bytes pc = .ok (.getfield idx, 3)) (w : (Jvm.Cond.fieldLinkNest y.cls idx R0 n d host).before a0 Z = true) (via : Via Z R0 O n d) (F : Fld Z h a O n d v) (hp : pc + 3 = pc') (K : Run p l e R s m args below meth c Z wd ro EL n0 ow0 Q h ow cells slots (mkF m pc' Ls (v :: rest))) : Run p l e R s m args below meth c Z wd ro EL n0 ow0 Q h ow cells slots (mkF m pc Ls (.ref a :: rest)) := by
  subst hp
  exact Run.mov (fun T locs vm0 k0 X H => getF X G.1 H.2.2.1 (G.own H.1) (Or.inr w) via H.2.2.2.1 F rfl rfl (G.hb hd)) K
theorem getReady {T : State} {locs : List Loc} (X : Stand p l e R s m args below meth c T locs cells slots) (hx : p.tables.exec = Jvm.exec) {index cf : Nat} {f : Field} (hready : T.vm.fieldReady m.cls index cf f) (hst : f.isStatic = false)
    {a : Addr} {cell : Cell} {v : Value} (hcell : T.heap[a]? = some cell) (hknown : cell.vm ≠ .unknown) (hslot : cell.slots[f.slot]? = some v)
    {g : JFrame} (hg : g.method = m) (hstack : g.stack = .ref a :: rest) (hdg : decode c.code g.pc = .ok (.getfield index, 3)) :
    ∀ target, Steps p.tables e below (T.setTop { g with pc := g.pc + 3, stack := v :: rest }) target → Steps p.tables e below (T.setTop g) target := by
  intro target hrest
  subst hg
  jvm_step X.here [hx, hdg, getfield.wp_ready (e := e) (s := T) (f := g) X.here.top hready hst hstack hcell hknown hslot]
  exact hrest
theorem ldcF (G : Gd p s m meth c y bytes maxL ret Z a0 EL) {idx : Nat} {v : UInt32} (hd : decode bytes pc = .ok (.ldc idx, 2)) (w : (Jvm.Cond.constantFloat y.cls idx v).before a0 Z = true) (hp : pc + 2 = pc') (K : Run p l e R s m args below meth c Z wd ro EL n0 ow0 Q h ow cells slots (mkF m pc' Ls (.float v :: st))) : Run p l e R s m args below meth c Z wd ro EL n0 ow0 Q h ow cells slots (mkF m pc Ls st) := by
  subst hp
  exact Run.stp (fun T locs vm0 k0 X H t k => X.ldcFloatC G.1 (G.own H.1) (mv (s := s.setVm vm0) H.2.2.1 w) (g := mkF m pc Ls st) rfl (G.hb hd) t k) K
/-- an Object[] of n places -/
def RA (Z : State) (h : Heap) (a : Addr) (n : Nat) : Prop := ∃ cl, Arr Z h a cl (.object "java/lang/Object") ∧ cl.slots.size = n ∧ Ovr Z cl.cls "java/lang/Object"
variable {a b : Addr} {n : Nat} {sl : Nat} {v : Value} {ws : List Addr}
theorem RA.lt (A : RA Z h a n) : a < h.size := by obtain ⟨cl, A, -⟩ := A; exact A.lt
theorem RA.ext (A : RA Z h b n) (E : Ext h h') : RA Z h' b n := by obtain ⟨cl, A, r⟩ := A; exact ⟨cl, A.ext E, r⟩
theorem RA.keep (A : RA Z h b n) (K : Keep h h' ws) (q : b ∉ ws) : RA Z h' b n := by obtain ⟨cl, A, r⟩ := A; exact ⟨cl, ⟨K.2.1 b cl A.1 q, A.2⟩, r⟩
theorem RA.other (A : RA Z h b n) (W : Wr h h' a sl v) (q : b ≠ a) : RA Z h' b n := by obtain ⟨cl, A, r⟩ := A; exact ⟨cl, A.other W q, r⟩
theorem RA.same (A : RA Z h a n) (W : Wr h h' a sl v) : RA Z h' a n := by
  obtain ⟨cl, A, r, o⟩ := A
  exact ⟨_, A.same W, by simpa [Cell.setSlot] using r, o⟩
theorem arrlenR (G : Gd p s m meth c y bytes maxL ret Z a0 EL) {cl : Cell} {ty : FieldType} {z : Int32} (hd : decode bytes pc = .ok (.arraylength, 1)) (A : Arr Z h a cl ty) (hz : cl.slots.size.toInt32 = z) (hp : pc + 1 = pc') (K : Run p l e R s m args below meth c Z wd ro EL n0 ow0 Q h ow cells slots (mkF m pc' Ls (.int z :: rest))) : Run p l e R s m args below meth c Z wd ro EL n0 ow0 Q h ow cells slots (mkF m pc Ls (.ref a :: rest)) := by
  subst hz; exact arrlen G hd A hp K
theorem newR (G : Gd p s m meth c y bytes maxL ret Z a0 EL) {idx cap : Nat} {j : Int32} (hd : decode bytes pc = .ok (.anewarray idx, 3)) (w1 : (Jvm.Cond.classLink y.cls idx "java/lang/Object").before a0 Z = true) (w2 : (Jvm.Cond.arrayOver (.object "java/lang/Object")).before a0 Z = true) (hn : ¬ j < 0) (hk : j.toNatClampNeg = n) (hcap : n ≤ cap) (hb : cap * 8 ≤ 536870912) (hc : cells + 1 ≤ R.cells) (hl : slots + cap ≤ R.slots) (hc' : cells + 1 = cells') (hs' : slots + cap = slots') (hp : pc + 3 = pc')
    (K : ∀ (h' : Heap) (a : Addr), a = h.size → Ext h h' → RA Z h' a n → Run p l e R s m args below meth c Z wd ro EL n0 ow0 Q h' (a :: ow) cells' slots' (mkF m pc' Ls (.ref a :: rest))) : Run p l e R s m args below meth c Z wd ro EL n0 ow0 Q h ow cells slots (mkF m pc Ls (.int j :: rest)) := by
  subst hp hc' hs' hk
  intro T locs vm0 k0 X H
  obtain ⟨T', h', cA, X', eT, E, A, -, O, st⟩ := newRE X G.1 H.2.2.1 (G.own H.1) w1 w2 H.2.2.2.1 (g := mkF m pc Ls (.int j :: rest)) rfl (G.hb hd) rfl hn hcap hb hc hl rfl
  obtain ⟨s₂, o, q, r⟩ := K h' h.size rfl E ⟨_, A, by simp [newA], O⟩ T' _ vm0 k0 X' (H.ext E A.lt eT)
  exact ⟨s₂, o, st _ q, r⟩
theorem aastR (G : Gd p s m meth c y bytes maxL ret Z a0 EL) {j : Int32} {x : Addr} (hd : decode bytes pc = .ok (.aastore, 1)) (A : RA Z h a n) (hj0 : ¬ j < 0) (hj : j.toNatClampNeg < n) (I : Ins Z h x "java/lang/Object" true) (ha : a ∈ ow) (hp : pc + 1 = pc')
    (K : ∀ h', Wr h h' a j.toNatClampNeg (.ref x) → RA Z h' a n → Run p l e R s m args below meth c Z wd ro EL n0 ow0 Q h' ow cells slots (mkF m pc' Ls rest)) : Run p l e R s m args below meth c Z wd ro EL n0 ow0 Q h ow cells slots (mkF m pc Ls (.ref x :: .int j :: .ref a :: rest)) := by
  subst hp
  intro T locs vm0 k0 X H
  obtain ⟨cl, A1, hs, O⟩ := id A
  obtain ⟨T', h', X', eT, W, st⟩ := stR X G.1 H.2.2.1 H.2.2.2.1 A1 (idx_ok hs rfl hj0 hj) rfl (Sto.of A1 O I) (g := mkF m pc Ls (.ref x :: .int j :: .ref a :: rest)) rfl rfl (G.hb hd)
  obtain ⟨s₂, o, q, r⟩ := K h' W (A.same W) T' _ vm0 k0 X' (H.wr W ha eT)
  exact ⟨s₂, o, st _ q, r⟩
theorem getfR (G : Gd p s m meth c y bytes maxL ret Z a0 EL) {idx : Nat} {R0 O n d : String} {a : Addr} {v : Value} (hd : decode bytes pc = .ok (.getfield idx, 3)) (w : (Jvm.Cond.fieldRef y.cls idx R0 n d).before a0 Z = true) (via : Via Z R0 O n d) (F : Fld Z h a O n d v) (hp : pc + 3 = pc') (K : Run p l e R s m args below meth c Z wd ro EL n0 ow0 Q h ow cells slots (mkF m pc' Ls (v :: rest))) : Run p l e R s m args below meth c Z wd ro EL n0 ow0 Q h ow cells slots (mkF m pc Ls (.ref a :: rest)) := by
  subst hp
  refine Run.stp (fun T locs vm0 k0 X H t k => ?_) K
  have hT : Z.Warmed39 T.vm := wtrans (s := s.setVm vm0) H.2.2.1 X.warmed
  have hown : (Z.setVm T.vm).vm.findClass y.cls = some m.cls := (X.warmed.alike.findClass _ _).trans (G.own H.1)
  obtain ⟨cell, cf, kk, i, f, h1, h2, h3, h4, -, -, h7⟩ := F
  obtain ⟨k', hi, -⟩ := State.fieldFound?_setVm (s := Z) hT.alike (via _ h2)
  obtain ⟨c2, k2, i2, f2, q1, q2⟩ := Cond.fieldRef_spec hown (Cond.fieldRef_warmed39 hT w)
  cases (show (Z.setVm T.vm).fieldFound? R0 n d = _ from hi).symm.trans q1
  exact getReady X G.1 q2 h3 (by rw [H.2.2.2.1]; exact h1) h4 h7 (g := mkF m pc Ls (.ref a :: rest)) rfl rfl (G.hb hd) t k
theorem copy0 (G : Gd p s m meth c y bytes maxL ret Z a0 EL) {idx W : Nat} {a b : Addr} {cs cd : Cell} (hd : decode bytes pc = .ok (.invokestatic idx, 3)) (w1 : (Jvm.Cond.methodLink y.cls idx arraycopyName).before a0 Z = true) (w2 : (Jvm.Cond.native arraycopyName).before a0 Z = true) (w3 : (Jvm.Cond.static arraycopyName).before a0 Z = true) (w4 : (Jvm.Cond.initialized "java/lang/System").before a0 Z = true)
    (A : Arr Z h a cs .byte) (B : Arr Z h b cd .byte) (hsz : Ls.size = maxL) (hf : 1 ≤ R.frames) (hW : (rest.map fun v => v.category).sum ≤ W) (hl : W + (nativeFrameWords "java/lang/System" "arraycopy" 5 + 11) ≤ R.locals) (hp : pc + 3 = pc') (K : Run p l e R s m args below meth c Z wd ro EL n0 ow0 Q h ow cells slots (mkF m pc' Ls rest)) : Run p l e R s m args below meth c Z wd ro EL n0 ow0 Q h ow cells slots (mkF m pc Ls (.int 0 :: .int 0 :: .ref b :: .int 0 :: .ref a :: rest)) := by
  subst hp
  refine Run.mov (fun T locs vm0 k0 X H => ?_) K
  obtain ⟨os, ks, hks, sc, hsk⟩ := H.arr A
  obtain ⟨od, kd, hkd, dc, hdk⟩ := H.arr B
  have hZ := H.2.2.1
  obtain ⟨vm', X', st⟩ := X.arraycopy (srcPos := 0) (destPos := 0) (n := 0) G.1 (G.own H.1) (mv (s := s.setVm vm0) hZ w1) (mv (s := s.setVm vm0) hZ w2) (mv (s := s.setVm vm0) hZ w3) (mv (s := s.setVm vm0) hZ w4) (H.cell A) (H.cell B) os od A.2.2 B.2.2 hks hkd hsk hdk (by decide) (by decide) (by decide) (by decide) (by simp) (by simp)
    (fun _ _ i hi => absurd hi (Nat.not_lt_zero i)) (g := mkF m pc Ls (.int 0 :: .int 0 :: .ref b :: .int 0 :: .ref a :: rest)) rfl (hsz.trans G.2.2.1.symm) rfl (G.hb hd) hf (by show 2 * 0 + _ + _ ≤ _; omega)
  rw [show copied cs cd 0 0 0 = cd from rfl, State.setCell_held (show (T.setVm vm').heap[b]? = some cd from H.cell B)] at X' st
  rw [show (cs.stretch (0 : Int32).toNatClampNeg (0 : Int32).toNatClampNeg).zipIdx.map (fun q => (⟨b, (0 : Int32).toNatClampNeg + q.2⟩ : Loc)) = [] from rfl, List.append_nil] at X'
  exact ⟨_, X', H.2.2.2.1, st⟩
theorem callSuper (G : Gd p s m meth c y bytes maxL ret Z a0 EL) {idx : Nat} {y' : MethodName} {D : String} {bytes' : ByteArray} {maxL' : Nat} {ret' : Option FieldType} {rm : Room} {W : Nat} {a : Addr} {argsL : List Value} {owc : List Addr} {Q' : Option Value → Heap → Prop} {ro' : Bool} (hd : decode bytes pc = .ok (.invokespecial idx, 3))
    (w1 : (Jvm.Cond.methodLink y.cls idx y').before a0 Z = true) (w2 : (Jvm.Cond.instanceMethod y').before a0 Z = true) (w3 : (Jvm.Cond.initialized y'.cls).before a0 Z = true) (w4 : (Jvm.Cond.code y' bytes' maxL' ret').before a0 Z = true) (w5 : (Jvm.Cond.superclass y.cls y'.cls).before a0 Z = true) (hy : y'.cls ≠ "java/lang/invoke/MethodHandle" ∧ y'.cls ≠ "java/lang/invoke/VarHandle")
    (E : Exa Z h a D) (C : Con l Z wd ro' EL n0 y' bytes' maxL' ret' rm [] (.ref a :: argsL).toArray h owc Q') (hst : st = argsL.reverse ++ .ref a :: rest) (hlen : ∀ sig, parseMethodDescriptor y'.desc = some sig → argsL.length = sig.parameters.length) (hsz : Ls.size = maxL) (hfr : rm.frames + 1 ≤ R.frames) (hW : (rest.map fun v => v.category).sum ≤ W) (hlo : W + (maxL' + 11) + rm.locals ≤ R.locals) (hc : cells + rm.cells ≤ R.cells) (hs : slots + rm.slots ≤ R.slots) (how : ∀ x ∈ owc, x ∈ ow) (hc' : cells + rm.cells = cells') (hs' : slots + rm.slots = slots') (hp : pc + 3 = pc')
    (K : ∀ (v : Option Value) (h' : Heap), Q' v h' → Keep h h' owc → Run p l e R s m args below meth c Z wd ro EL n0 ow0 Q h' ow cells' slots' (mkF m pc' Ls (v.toList ++ rest))) : Run p l e R s m args below meth c Z wd ro EL n0 ow0 Q h ow cells slots (mkF m pc Ls st) := by
  subst hp hst hc' hs'
  intro T locs vm0 k0 X H
  have hZ := H.2.2.1
  have hpl : e.platform.magicAccessors = ({} : Platform).magicAccessors := by rw [X.admits.platform]
  obtain ⟨cell, kz, g1, g2, g3, g4, -⟩ := E
  obtain ⟨kc, gk, -⟩ := hZ.alike.2.2 _ _ g3
  obtain ⟨mk, vm₁, hnamed, hW₁, hstep₁⟩ := superStep (s := s.setVm vm0) X.here G.1 X.warmed hpl (G.own H.1) hy (args := args) (mv (s := s.setVm vm0) hZ w1) (mv (s := s.setVm vm0) hZ w2) (mv (s := s.setVm vm0) hZ w4) (mv (s := s.setVm vm0) hZ w5) (f := mkF m pc Ls (argsL.reverse ++ .ref a :: rest)) rfl (cell := cell) (kcell := kc) hlen rfl (G.hb hd) (by rw [H.2.2.2.1]; exact g1) (fun q z => by rw [z] at g4; cases g4) gk
  have X₁ := X.noted hW₁
  obtain ⟨v, B, X', hS, -, ⟨L, q1, q2, q3, q4, q5, q6, q7, q8, q9⟩, stp⟩ := (backG (s := s) (args := args) (len := 3) C hZ w4 w3 hfr hlo G.2.2.2.2.2.2.2 H.2.2.2.2.2.1.1 H.2.2.2.2.2.2.2.1 (fun x hx => ⟨(H.2.2.2.2.2.2.2.2.1 x (how x hx)).1, (H.2.2.2.2.2.2.2.2.1 x (how x hx)).2.1, (H.2.2.2.2.2.2.2.2.1 x (how x hx)).2.2.1⟩))
    m meth c ⟨T.setVm vm₁, locs, cells, slots⟩ (mkF m pc Ls rest) (.invokespecial idx) mk (.ref a :: argsL).toArray X₁ rfl (hsz.trans G.2.2.1.symm) (G.hb hd) (by show 2 * 0 + (rest.map fun v => v.category).sum ≤ W; omega) (X₁.named hnamed) ⟨rfl, H.2.2.2.1, hc, hs⟩
  obtain ⟨T', Lc, kc', nc⟩ := B
  dsimp only [Pt.U, Pt.locs, Pt.cells, Pt.slots] at X' q1 q3 q4 q5 q6 q7 q8 q9 hS stp
  subst q4 q5 q6
  obtain ⟨s₂, o, q, r⟩ := K v T'.heap q1 q3 T' (locs ++ L) T'.vm T'.heap.size X' (H.call how hS q2 q3 q7 q8)
  exact ⟨s₂, o, ((hstep₁ _ fun acts => by rw [doInvoke_state]; exact Steps.refl _).trans stp).trans q, r⟩
theorem callPriv (G : Gd p s m meth c y bytes maxL ret Z a0 EL) {idx : Nat} {y' : MethodName} {D : String} {bytes' : ByteArray} {maxL' : Nat} {ret' : Option FieldType} {rm : Room} {W : Nat} {a : Addr} {argsL : List Value} {owc : List Addr} {Q' : Option Value → Heap → Prop} {ro' : Bool} (hd : decode bytes pc = .ok (.invokevirtual idx, 3))
    (w1 : (Jvm.Cond.methodLink y.cls idx y').before a0 Z = true) (w2 : (Jvm.Cond.instanceMethod y').before a0 Z = true) (w6 : (Jvm.Cond.selects y'.cls y' y').before a0 Z = true) (w7 : (Jvm.Cond.privateMethod y').before a0 Z = true) (w3 : (Jvm.Cond.initialized y'.cls).before a0 Z = true) (w4 : (Jvm.Cond.code y' bytes' maxL' ret').before a0 Z = true) (hy : y'.cls ≠ "java/lang/invoke/MethodHandle" ∧ y'.cls ≠ "java/lang/invoke/VarHandle")
    (E : Exa Z h a D) (C : Con l Z wd ro' EL n0 y' bytes' maxL' ret' rm [] (.ref a :: argsL).toArray h owc Q') (hst : st = argsL.reverse ++ .ref a :: rest) (hlen : ∀ sig, parseMethodDescriptor y'.desc = some sig → argsL.length = sig.parameters.length) (hsz : Ls.size = maxL) (hfr : rm.frames + 1 ≤ R.frames) (hW : (rest.map fun v => v.category).sum ≤ W) (hlo : W + (maxL' + 11) + rm.locals ≤ R.locals) (hc : cells + rm.cells ≤ R.cells) (hs : slots + rm.slots ≤ R.slots) (how : ∀ x ∈ owc, x ∈ ow) (hc' : cells + rm.cells = cells') (hs' : slots + rm.slots = slots') (hp : pc + 3 = pc')
    (K : ∀ (v : Option Value) (h' : Heap), Q' v h' → Keep h h' owc → Run p l e R s m args below meth c Z wd ro EL n0 ow0 Q h' ow cells' slots' (mkF m pc' Ls (v.toList ++ rest))) : Run p l e R s m args below meth c Z wd ro EL n0 ow0 Q h ow cells slots (mkF m pc Ls st) := by
  subst hp hst hc' hs'
  intro T locs vm0 k0 X H
  have hZ := H.2.2.1
  obtain ⟨cell, kz, g1, g2, g3, g4, -⟩ := E
  obtain ⟨v, vm₁, B, -, X', hS, -, ⟨L, q1, q2, q3, q4, q5, q6, q7, q8, q9⟩, stp⟩ := X.privateBackS G.1 (bytes := bytes') (maxL := maxL') (ret := ret') (G.own H.1) (mv (s := s.setVm vm0) hZ w1) (mv (s := s.setVm vm0) hZ w2) (mv (s := s.setVm vm0) hZ w6) (Cond.privateMethod_at (args := args) (mv (s := s.setVm vm0) hZ w7)) (mv (s := s.setVm vm0) hZ w4) hy
    (backG (args := args) C hZ w4 w3 hfr hlo G.2.2.2.2.2.2.2 H.2.2.2.2.2.1.1 H.2.2.2.2.2.2.2.1 (fun x hx => ⟨(H.2.2.2.2.2.2.2.2.1 x (how x hx)).1, (H.2.2.2.2.2.2.2.2.1 x (how x hx)).2.1, (H.2.2.2.2.2.2.2.2.1 x (how x hx)).2.2.1⟩)) (g := mkF m pc Ls (argsL.reverse ++ .ref a :: rest)) rfl (hsz.trans G.2.2.1.symm) (Steps.refl _) (cell := cell) (by rw [H.2.2.2.1]; exact g1) (fun q z => by rw [z] at g4; cases g4) hlen rfl (by show 2 * 0 + _ ≤ W; omega) (G.hb hd) (fun _ _ => ⟨rfl, H.2.2.2.1, hc, hs⟩)
  obtain ⟨T', Lc, kc', nc⟩ := B
  dsimp only [Pt.U, Pt.locs, Pt.cells, Pt.slots] at X' q1 q3 q4 q5 q6 q7 q8 q9 hS stp
  subst q4 q5 q6
  obtain ⟨s₂, o, q, r⟩ := K v T'.heap q1 q3 T' (locs ++ L) T'.vm T'.heap.size X' (H.call how hS q2 q3 q7 q8)
  exact ⟨s₂, o, stp.trans q, r⟩
theorem newbE (G : Gd p s m meth c y bytes maxL ret Z a0 EL) {n : Int32} {k cap : Nat} {ad : String} (hd : decode bytes pc = .ok (.newarray .byte, 2)) (w : (Jvm.Cond.arrayClass (newarray.typeOf .byte)).before a0 Z = true) (had : "[" ++ (newarray.typeOf .byte).toString = ad) (hn : ¬ n < 0) (hk : n.toNatClampNeg = k) (hcap : n.toNatClampNeg ≤ cap) (hb : cap * 8 ≤ 536870912) (hc : cells + 1 ≤ R.cells) (hl : slots + cap ≤ R.slots) (hc' : cells + 1 = cells') (hs' : slots + cap = slots') (hp : pc + 2 = pc')
    (K : ∀ (h' : Heap) (a : Addr), a = h.size → Ext h h' → IA Z h' a .byte (List.replicate k 0) → Exa Z h' a ad → Run p l e R s m args below meth c Z wd ro EL n0 ow0 Q h' (a :: ow) cells' slots' (mkF m pc' Ls (.ref a :: rest))) : Run p l e R s m args below meth c Z wd ro EL n0 ow0 Q h ow cells slots (mkF m pc Ls (.int n :: rest)) := by
  subst hp hc' hs'
  intro T locs vm0 k0 X H
  obtain ⟨T', h', cA, X', eT, E, A, Ex, st⟩ := newPE X G.1 H.2.2.1 w H.2.2.2.1 (g := mkF m pc Ls (.int n :: rest)) rfl (G.hb hd) rfl hn hcap hb hc hl had
  obtain ⟨s₂, o, q, r⟩ := K h' h.size rfl E (IA.new A hk rfl) Ex T' _ vm0 k0 X' (H.ext E A.lt eT)
  exact ⟨s₂, o, st _ q, r⟩
theorem clone0 (G : Gd p s m meth c y bytes maxL ret Z a0 EL) {idx W : Nat} {a : Addr} (hd : decode bytes pc = .ok (.invokevirtual idx, 3)) (w1 : (Jvm.Cond.methodLink y.cls idx ⟨"[B", "clone", "()Ljava/lang/Object;"⟩).before a0 Z = true) (w2 : (Jvm.Cond.sameMethod "[B" "java/lang/Object" "clone" "()Ljava/lang/Object;").before a0 Z = true) (w3 : (Jvm.Cond.native ⟨"java/lang/Object", "clone", "()Ljava/lang/Object;"⟩).before a0 Z = true) (w4 : (Jvm.Cond.instanceMethod ⟨"java/lang/Object", "clone", "()Ljava/lang/Object;"⟩).before a0 Z = true) (w5 : (Jvm.Cond.selects "[B" ⟨"[B", "clone", "()Ljava/lang/Object;"⟩ ⟨"java/lang/Object", "clone", "()Ljava/lang/Object;"⟩).before a0 Z = true) (w6 : (Jvm.Cond.castable "[B" "java/lang/Cloneable").before a0 Z = true)
    (A : IA Z h a .byte []) (E : Exa Z h a "[B") (hsz : Ls.size = maxL) (hf : 1 ≤ R.frames) (hW : (rest.map fun v => v.category).sum ≤ W) (hl : W + 14 ≤ R.locals) (hc : cells + 1 ≤ R.cells) (hsl : slots + 0 ≤ R.slots) (hc' : cells + 1 = cells') (hp : pc + 3 = pc')
    (K : ∀ (h' : Heap) (a' : Addr), a' = h.size → Ext h h' → IA Z h' a' .byte [] → Exa Z h' a' "[B" → Run p l e R s m args below meth c Z wd ro EL n0 ow0 Q h' (a' :: ow) cells' slots (mkF m pc' Ls (.ref a' :: rest))) : Run p l e R s m args below meth c Z wd ro EL n0 ow0 Q h ow cells slots (mkF m pc Ls (.ref a :: rest)) := by
  obtain ⟨cl, A1, e1, e2⟩ := A
  have z : cl.slots = #[] := by rw [e1]; rfl
  exact cloneArr G hd w1 w2 w3 w4 w5 w6 A1 E (fun i v hv => by rw [z] at hv; cases hv) hsz hf hW hl (cap := 0) (by rw [z]; exact Nat.le_refl _) hc hsl hc' (slots' := slots) rfl hp (fun h' a' g' Ex A' E' => K h' a' g' Ex ⟨_, A', by show cl.slots = _; rw [z]; rfl, by decide⟩ E')
/-- a contract of a method with an exception table -/
def ConH (l : Launch) (Z : State) (wd ro : Bool) (EL : List (String × Nat)) (n0 : Nat) (y : MethodName) (bytes : ByteArray) (maxL : Nat) (ret : Option FieldType) (hs : List (Nat × Nat × Nat × Nat)) (rm : Room) (ws : List Jvm.Cond) (as' : Array Value) (h0 : Heap) (ow : List Addr) (Q : Option Value → Heap → Prop) : Prop :=
  MetFree l y (head1 (Jvm.Cond.codeWith y bytes maxL ret hs :: ws) rm) (fun a U => a = as' ∧ Z.Warmed39 U.vm ∧ U.heap = h0 ∧ Old Z n0 h0 ∧ CHv Z EL U.vm h0 ∧ ∀ x ∈ ow, Safe Z EL U.vm h0 x ∧ x < h0.size ∧ n0 ≤ x) (fun _ _ _ _ _ => True) (fun _ U o U' => FinS U Z wd ro EL n0 ow rm Q o U')
theorem ConH.intro {hs : List (Nat × Nat × Nat × Nat)} {ws : List Jvm.Cond} {as' : Array Value} (hx : plainFor y = true) (hEL : EW Z a0 EL)
    (body : ∀ (p : Program) (e : Env) (s : State) (m : MethodId) (below : List Frame) (meth : Method) (c : Code), s.heap = h → Gd p s m meth c y bytes maxL ret Z a0 EL → Run p l e R s m as' below meth c Z wd ro EL n0 ow Q h ow 0 0 (entryFrame m as' maxL)) :
    ConH l Z wd ro EL n0 y bytes maxL ret hs R ws as' h ow Q := by
  refine MetFree.of_bodySF hx hisWith ?_
  intro p e s m args below meth c s₁ Bd hml0 hP hK
  obtain ⟨rfl, hZ, hh, hO, hC, hS⟩ := hP
  have e0 : s₁.heap = h := by rw [← hh, Bd.state]; rfl
  have X0 : Stand p l e R s m args below meth c s₁ [] 0 0 := Stand.of_body Bd
  refine body p e s m below meth c hh ⟨Bd.exec, Bd.bytes, hml0, findClass_of_methodNamed Bd.named, Bd.returns, (name_of_methodNamed Bd.named Bd.method).1, Bd.notSynchronized, hEL⟩ s₁ [] s.vm h.size X0 ?_
  have hc : CHr Z EL s.vm s.heap s.vm h := by rw [hh]; exact CHr.refl hC
  refine ⟨(State.WarmedH.refl s).since _, Nat.le_refl _, hZ, e0, Fr.nil _, hc, by rw [hh]; exact Keep.refl _ _, hO, fun x hx => ⟨(hS x hx).1, (hS x hx).2.1, (hS x hx).2.2, Or.inl hx⟩, Or.inr (State.WarmedH.refl s)⟩
theorem backH {y' : MethodName} {bytes' : ByteArray} {maxL' : Nat} {ret' : Option FieldType} {hs : List (Nat × Nat × Nat × Nat)} {rm : Room} {len W : Nat} {as' : Array Value} {owc : List Addr} {Q' : Option Value → Heap → Prop} {ro' : Bool} {vm0 : Vm}
    (C : ConH l Z false ro' EL n0 y' bytes' maxL' ret' hs rm [] as' h owc Q') (hZ : Z.Warmed39 vm0) (wc : (Jvm.Cond.codeWith y' bytes' maxL' ret' hs).before a0 Z = true) (wz : (Jvm.Cond.initialized y'.cls).before a0 Z = true) (hf : rm.frames + 1 ≤ R.frames) (hl : W + (maxL' + 11) + rm.locals ≤ R.locals) (hEL : EW Z a0 EL) (H : CHv Z EL vm0 h) (hO : Old Z n0 h) (hS : ∀ x ∈ owc, Safe Z EL vm0 h x ∧ x < h.size ∧ n0 ≤ x) :
    BackS l R p e below (s.setVm vm0) args y' len W (fun A a => a = as' ∧ A.U.heap = h ∧ A.cells + rm.cells ≤ R.cells ∧ A.slots + rm.slots ≤ R.slots)
      (fun A _ v B => A.U.heap = h ∧ ∃ L, Q' v B.U.heap ∧ Fr n0 L ∧ Keep h B.U.heap owc ∧ B.locs = A.locs ++ L ∧ B.cells = A.cells + rm.cells ∧ B.slots = A.slots + rm.slots ∧ CHr Z EL vm0 h B.U.vm B.U.heap ∧ (s.setVm vm0).WarmedH B.U.vm) :=
  BackS.of_back (Back.of_freeWith (bytes := bytes') (maxL := maxL') (ret := ret') (handlers := hs) (E := fun _ first o t L k n => k = rm.cells ∧ n = rm.slots ∧ (∃ v, o = .returned v ∧ Q' v t.heap) ∧ Fr n0 L ∧ Keep first.heap t.heap owc ∧ CHr Z EL first.vm first.heap t.vm t.heap ∧ first.WarmedH t.vm) C hf hl
    (fun m meth c A a Y hp => have hU : Z.Warmed39 A.U.vm := wtrans (s := s.setVm vm0) hZ Y.warmed
      ⟨by show (Cond.and _ .tt).before a A.U = true; rw [Cond.before_and, mv hU wc]; rfl, mv hU wc, mv hU wz, hp.2.2.1, hp.2.2.2⟩)
    (fun m meth c A a g mk Y hp => ⟨hp.1, wtrans (s := s.setVm vm0) hZ Y.warmed, hp.2.1, hO, (CHv.at Y hZ hEL H).1, fun x hx => ⟨(CHv.at Y hZ hEL H).safe (hS x hx).2.1 (hS x hx).1, (hS x hx).2⟩⟩) (fun _ _ _ _ _ _ _ _ _ => trivial)
    (fun _ _ _ _ ⟨v, L, h1, h2, h3, h4, h5, h6, h7, h8⟩ => ⟨L, _, _, ⟨h6.1, h7.resolve_left (fun q => by cases q), h6.2.2.2⟩, rfl, rfl, ⟨v, h1, h2⟩, h3, h5, h4, h7.resolve_left (fun q => by cases q)⟩)
    (fun m meth c A a g mk v t L k n Y hp _ _ ⟨e1, e2, ⟨v', e3, e4⟩, e5, e6, e7, e8⟩ => by
      cases e3; subst e1 e2
      have hh : (A.U.calling g mk a).heap = h := hp.2.1
      rw [hh] at e6 e7
      exact ⟨hp.2.1, L, e4, e5, e6, rfl, rfl, rfl, (CHv.at Y hZ hEL H).trans e7, State.WarmedH.trans (t := A.U) Y.warmed e8⟩))
    (fun A a v B ⟨e0, L, _, _, K, _⟩ => by rw [e0]; exact K.1)
theorem callVirtualH (G : Gd p s m meth c y bytes maxL ret Z a0 EL) {idx : Nat} {y' z' : MethodName} {D : String} {bytes' : ByteArray} {maxL' : Nat} {ret' : Option FieldType} {hs0 : List (Nat × Nat × Nat × Nat)} {rm : Room} {W : Nat} {a : Addr} {argsL : List Value} {owc : List Addr} {Q' : Option Value → Heap → Prop} {ro' : Bool} (hwd : wd = false) (hd : decode bytes pc = .ok (.invokevirtual idx, 3))
    (w1 : (Jvm.Cond.methodLink y.cls idx y').before a0 Z = true) (w2 : (Jvm.Cond.declares y').before a0 Z = true) (w3 : (Jvm.Cond.selects D y' z').before a0 Z = true) (hnf : ∀ (s : State), Z.Warmed39 s.vm → NotFace s y') (w4 : (Jvm.Cond.instanceMethod z').before a0 Z = true) (w5 : (Jvm.Cond.initialized z'.cls).before a0 Z = true) (w6 : (Jvm.Cond.codeWith z' bytes' maxL' ret' hs0).before a0 Z = true) (hy : y'.cls ≠ "java/lang/invoke/MethodHandle" ∧ y'.cls ≠ "java/lang/invoke/VarHandle")
    (E : Exa Z h a D) (C : ConH l Z false ro' EL n0 z' bytes' maxL' ret' hs0 rm [] (.ref a :: argsL).toArray h owc Q') (hst : st = argsL.reverse ++ .ref a :: rest) (hlen : ∀ sig, parseMethodDescriptor y'.desc = some sig → argsL.length = sig.parameters.length) (hsz : Ls.size = maxL) (hfr : rm.frames + 1 ≤ R.frames) (hW : (rest.map fun v => v.category).sum ≤ W) (hlo : W + (maxL' + 11) + rm.locals ≤ R.locals) (hc : cells + rm.cells ≤ R.cells) (hs : slots + rm.slots ≤ R.slots) (how : ∀ x ∈ owc, x ∈ ow) (hc' : cells + rm.cells = cells') (hs' : slots + rm.slots = slots') (hp : pc + 3 = pc')
    (K : ∀ (v : Option Value) (h' : Heap), Q' v h' → Keep h h' owc → Run p l e R s m args below meth c Z wd ro EL n0 ow0 Q h' ow cells' slots' (mkF m pc' Ls (v.toList ++ rest))) : Run p l e R s m args below meth c Z wd ro EL n0 ow0 Q h ow cells slots (mkF m pc Ls st) := by
  subst hp hst hc' hs'
  intro T locs vm0 k0 X H
  have hZ := H.2.2.1
  obtain ⟨cq, kq, r1, -, r3⟩ := isOf (s := s.setVm vm0) (T := T) hZ H.2.2.2.1 E
  obtain ⟨v, vm₁, B, -, X', hS, -, ⟨q0, L, q1, q2, q3, q4, q5, q6, q7, q8⟩, stp⟩ := X.virtualBackS G.1 (G.own H.1) (mv (s := s.setVm vm0) hZ w1) (mv (s := s.setVm vm0) hZ w2) (hnf (s.setVm vm0) hZ) (mv (s := s.setVm vm0) hZ w3) (mv (s := s.setVm vm0) hZ w4) hy
    (backH C hZ w6 w5 hfr hlo G.2.2.2.2.2.2.2 H.2.2.2.2.2.1.1 H.2.2.2.2.2.2.2.1 (fun x hx => ⟨(H.2.2.2.2.2.2.2.2.1 x (how x hx)).1, (H.2.2.2.2.2.2.2.2.1 x (how x hx)).2.1, (H.2.2.2.2.2.2.2.2.1 x (how x hx)).2.2.1⟩)) r1 r3 (g := mkF m pc Ls (argsL.reverse ++ .ref a :: rest)) rfl (hsz.trans G.2.2.1.symm) (Steps.refl _) hlen rfl (by show 2 * 0 + _ ≤ W; omega) (G.hb hd) (fun _ _ => ⟨rfl, H.2.2.2.1, hc, hs⟩)
  obtain ⟨T', Lc, kc, nc⟩ := B
  dsimp only [Pt.U, Pt.locs, Pt.cells, Pt.slots] at X' q1 q3 q4 q5 q6 q7 q8 hS stp
  subst q4 q5 q6
  obtain ⟨s₂, o, q, r⟩ := K v T'.heap q1 q3 T' (locs ++ L) T'.vm T'.heap.size X' (H.call how hS q2 q3 q7 (Or.inr q8))
  exact ⟨s₂, o, stp.trans q, r⟩
end
end Jvm.GoKit

namespace Jvm.Pilot.@@N@@
open Jvm Jvm.ClassFile Sem Op Lib Jvm.Free Jvm.Stand Jvm.LawKit Jvm.RoadKit Jvm.GoKit Bundle Jvm.Pilot.@@N@@.Jvm.D
abbrev ELs : List (String × Nat) := []
theorem hELs {Z : State} {a0 : Array Value} (hw : ∀ d ∈ tables_1, d.before a0 Z = true) : EW Z a0 ELs := EW.nil
theorem wr_size {h h' : Heap} {a : Addr} {sl : Nat} {v : Value} (W : Wr h h' a sl v) : h.size ≤ h'.size := by
  obtain ⟨_, _, _, _, rfl⟩ := W; simp
theorem adB : "[" ++ (newarray.typeOf .byte).toString = "[B" := by decide +kernel
theorem d3_0 : decode jdk_22_method_1_code 0 = .ok (.aload_n 0, 1) := by decide +kernel
theorem d3_1 : decode jdk_22_method_1_code 1 = .ok (.invokespecial 1, 3) := by decide +kernel
theorem d3_4 : decode jdk_22_method_1_code 4 = .ok (.return_, 1) := by decide +kernel
theorem pn_java_util_AbstractCollection : plainName "java/util/AbstractCollection" = true := by first | (simp [plainName, overriddenIn]; done) | decide +kernel
abbrev rm_con_abscoll : Room := { frames := 1, cells := 0, slots := 0, locals := 12 }
set_option maxRecDepth 65536 in
set_option maxHeartbeats 40000000 in
theorem con_abscoll (l : Launch) {Z : State} {a0 : Array Value} (hw : ∀ d ∈ tables_1, d.before a0 Z = true) {n0 : Nat} {h0 : Heap} {a : Addr} :
    Con l Z false false ELs n0 (⟨"java/util/AbstractCollection", "<init>", "()V"⟩ : MethodName) jdk_22_method_1_code 1 none rm_con_abscoll [] #[(.ref a)] h0 [] (fun v h => v = none) := by
  refine Con.intro (plainFor_of_name pn_java_util_AbstractCollection) (hELs hw) ?_
  intro p e s m below meth c hh G
  refine castRun (g' := mkF m 0 #[.val (.ref a)] []) (by first | rfl | (simp [entryFrame, mkF, argsToLocals, Value.category, maxLocals]; done)) ?_
  refine GoKit.aloadN G d3_0 rfl rfl (pc' := 1) rfl ?_
  refine GoKit.initObj G d3_1 (wi hw 20 rfl) (wi hw 21 rfl) (wi hw 22 rfl) rfl (by decide) (W := 0) (Nat.le_of_eq rfl) (by decide) (pc' := 4) rfl ?_
  refine GoKit.retVoid G d3_4 rfl (by decide) (by decide) ?_
  exact rfl
theorem d17_0 : decode jdk_71_method_1_code 0 = .ok (.aload_n 0, 1) := by decide +kernel
theorem d17_1 : decode jdk_71_method_1_code 1 = .ok (.invokespecial 1, 3) := by decide +kernel
theorem d17_4 : decode jdk_71_method_1_code 4 = .ok (.return_, 1) := by decide +kernel
theorem pn_java_util_AbstractMap : plainName "java/util/AbstractMap" = true := by first | (simp [plainName, overriddenIn]; done) | decide +kernel
abbrev rm_con_absmap : Room := { frames := 1, cells := 0, slots := 0, locals := 12 }
set_option maxRecDepth 65536 in
set_option maxHeartbeats 40000000 in
theorem con_absmap (l : Launch) {Z : State} {a0 : Array Value} (hw : ∀ d ∈ tables_1, d.before a0 Z = true) {n0 : Nat} {h0 : Heap} {a : Addr} :
    Con l Z false false ELs n0 (⟨"java/util/AbstractMap", "<init>", "()V"⟩ : MethodName) jdk_71_method_1_code 1 none rm_con_absmap [] #[(.ref a)] h0 [] (fun v h => v = none) := by
  refine Con.intro (plainFor_of_name pn_java_util_AbstractMap) (hELs hw) ?_
  intro p e s m below meth c hh G
  refine castRun (g' := mkF m 0 #[.val (.ref a)] []) (by first | rfl | (simp [entryFrame, mkF, argsToLocals, Value.category, maxLocals]; done)) ?_
  refine GoKit.aloadN G d17_0 rfl rfl (pc' := 1) rfl ?_
  refine GoKit.initObj G d17_1 (wi hw 104 rfl) (wi hw 21 rfl) (wi hw 22 rfl) rfl (by decide) (W := 0) (Nat.le_of_eq rfl) (by decide) (pc' := 4) rfl ?_
  refine GoKit.retVoid G d17_4 rfl (by decide) (by decide) ?_
  exact rfl
theorem d26_0 : decode jdk_91_method_1_code 0 = .ok (.aload_n 0, 1) := by decide +kernel
theorem d26_1 : decode jdk_91_method_1_code 1 = .ok (.invokespecial 1, 3) := by decide +kernel
theorem pd_0 : parseMethodDescriptor "()V" = some ⟨[], none⟩ := by decide +kernel
theorem d26_4 : decode jdk_91_method_1_code 4 = .ok (.return_, 1) := by decide +kernel
theorem pn_java_util_AbstractSet : plainName "java/util/AbstractSet" = true := by first | (simp [plainName, overriddenIn]; done) | decide +kernel
abbrev rm_con_absset : Room := { frames := 2, cells := 0, slots := 0, locals := 24 }
set_option maxRecDepth 65536 in
set_option maxHeartbeats 40000000 in
theorem con_absset (l : Launch) {Z : State} {a0 : Array Value} (hw : ∀ d ∈ tables_1, d.before a0 Z = true) {n0 : Nat} {h0 : Heap} {a : Addr} :
    Con l Z false false ELs n0 (⟨"java/util/AbstractSet", "<init>", "()V"⟩ : MethodName) jdk_91_method_1_code 1 none rm_con_absset [] #[(.ref a)] h0 [] (fun v h => v = none) := by
  refine Con.intro (plainFor_of_name pn_java_util_AbstractSet) (hELs hw) ?_
  intro p e s m below meth c hh G
  refine castRun (g' := mkF m 0 #[.val (.ref a)] []) (by first | rfl | (simp [entryFrame, mkF, argsToLocals, Value.category, maxLocals]; done)) ?_
  refine GoKit.aloadN G d26_0 rfl rfl (pc' := 1) rfl ?_
  refine GoKit.callSpecial G d26_1 rfl (wi hw 188 rfl) (wi hw 15 rfl) (wi hw 18 rfl) (wi hw 19 rfl) (by decide) (owc := []) (W := 0) (argsL := []) (rest := []) (con_abscoll l hw) rfl (lenOf pd_0 rfl) rfl (by decide) (Nat.le_of_eq rfl) (by decide) (by decide) (by decide) (fun _ q => nomatch q) (cells' := 0) (slots' := 0) rfl rfl (pc' := 4) rfl (fun r1 h4 q2 K3 => ?_)
  obtain rfl := q2
  show Run _ _ _ _ _ _ _ _ _ _ _ _ _ _ _ _ _ _ _ _ _ (mkF m 4 #[.val (.ref a)] [])
  refine GoKit.retVoid G d26_4 rfl (by decide) (by decide) ?_
  exact rfl
theorem d2_0 : decode jdk_39_method_1_code 0 = .ok (.aload_n 0, 1) := by decide +kernel
theorem d2_1 : decode jdk_39_method_1_code 1 = .ok (.invokespecial 1, 3) := by decide +kernel
theorem d2_4 : decode jdk_39_method_1_code 4 = .ok (.aload_n 0, 1) := by decide +kernel
theorem d2_5 : decode jdk_39_method_1_code 5 = .ok (.iconst 0, 1) := by decide +kernel
theorem d2_6 : decode jdk_39_method_1_code 6 = .ok (.putfield 7, 3) := by decide +kernel
theorem d2_9 : decode jdk_39_method_1_code 9 = .ok (.return_, 1) := by decide +kernel
theorem pn_java_util_AbstractList : plainName "java/util/AbstractList" = true := by first | (simp [plainName, overriddenIn]; done) | decide +kernel
abbrev rm_con_abslist : Room := { frames := 2, cells := 0, slots := 0, locals := 24 }
set_option maxRecDepth 65536 in
set_option maxHeartbeats 40000000 in
theorem con_abslist (l : Launch) {Z : State} {a0 : Array Value} (hw : ∀ d ∈ tables_1, d.before a0 Z = true) {n0 : Nat} {h0 : Heap} {a : Addr}  (O : Exa Z h0 a "java/util/ArrayList" ∧ Fld Z h0 a "java/util/AbstractList" "modCount" "I" (.int 0) ∧ Fld Z h0 a "java/util/ArrayList" "elementData" "[Ljava/lang/Object;" .null ∧ Fld Z h0 a "java/util/ArrayList" "size" "I" (.int 0)) :
    Con l Z false false ELs n0 (⟨"java/util/AbstractList", "<init>", "()V"⟩ : MethodName) jdk_39_method_1_code 1 none rm_con_abslist [] #[(.ref a)] h0 [a] (fun v h => v = none ∧ Exa Z h a "java/util/ArrayList" ∧ Fld Z h a "java/util/AbstractList" "modCount" "I" (.int 0) ∧ Fld Z h a "java/util/ArrayList" "elementData" "[Ljava/lang/Object;" .null ∧ Fld Z h a "java/util/ArrayList" "size" "I" (.int 0)) := by
  refine Con.intro (plainFor_of_name pn_java_util_AbstractList) (hELs hw) ?_
  intro p e s m below meth c hh G
  refine castRun (g' := mkF m 0 #[.val (.ref a)] []) (by first | rfl | (simp [entryFrame, mkF, argsToLocals, Value.category, maxLocals]; done)) ?_
  refine GoKit.aloadN G d2_0 rfl rfl (pc' := 1) rfl ?_
  refine GoKit.callSpecial G d2_1 rfl (wi hw 14 rfl) (wi hw 15 rfl) (wi hw 18 rfl) (wi hw 19 rfl) (by decide) (owc := []) (W := 0) (argsL := []) (rest := []) (con_abscoll l hw) rfl (lenOf pd_0 rfl) rfl (by decide) (Nat.le_of_eq rfl) (by decide) (by decide) (by decide) (fun _ q => nomatch q) (cells' := 0) (slots' := 0) rfl rfl (pc' := 4) rfl (fun r1 h4 q2 K3 => ?_)
  obtain rfl := q2
  show Run _ _ _ _ _ _ _ _ _ _ _ _ _ _ _ _ _ _ _ _ _ (mkF m 4 #[.val (.ref a)] [])
  refine GoKit.aloadN G d2_4 rfl rfl (pc' := 5) rfl ?_
  refine GoKit.iconst G (0 : Int32) d2_5 rfl (pc' := 6) rfl ?_
  refine GoKit.putf G d2_6 (wi hw 23 rfl) Via.refl (O.2.1.keep K3 nin0) (O.1.keep K3) (Or.inl (wi hw 24 rfl)) (wi hw 3 rfl) (ty := .int) (by decide) rfl rfl (List.Mem.head _) (pc' := 9) rfl (fun h6 W5 => ?_)
  have F7 := ((O.2.1.keep K3 nin0)).same W5
  refine GoKit.retVoid G d2_9 rfl (by decide) (by decide) ?_
  exact ⟨rfl, ⟨((O.1.keep K3).wr W5), F7, ((O.2.2.1.keep K3 nin0).other W5 (Or.inr (slot_ne (Or.inl (wi hw 27 rfl)) (Or.inl (wi hw 24 rfl)) (by decide) (by decide : _ = some (.array (.object "java/lang/Object"))) (by decide : _ = some .int)))), ((O.2.2.2.keep K3 nin0).other W5 (Or.inr (slot_ne (Or.inl (wi hw 63 rfl)) (Or.inl (wi hw 24 rfl)) (by decide) (by decide : _ = some .int) (by decide : _ = some .int))))⟩⟩
theorem d1_0 : decode jdk_38_method_2_code 0 = .ok (.aload_n 0, 1) := by decide +kernel
theorem d1_1 : decode jdk_38_method_2_code 1 = .ok (.invokespecial 1, 3) := by decide +kernel
theorem d1_4 : decode jdk_38_method_2_code 4 = .ok (.aload_n 0, 1) := by decide +kernel
theorem d1_5 : decode jdk_38_method_2_code 5 = .ok (.getstatic 39, 3) := by decide +kernel
theorem d1_8 : decode jdk_38_method_2_code 8 = .ok (.putfield 9, 3) := by decide +kernel
theorem d1_11 : decode jdk_38_method_2_code 11 = .ok (.return_, 1) := by decide +kernel
theorem pn_java_util_ArrayList : plainName "java/util/ArrayList" = true := by first | (simp [plainName, overriddenIn]; done) | decide +kernel
abbrev rm_con_alinit : Room := { frames := 3, cells := 0, slots := 0, locals := 36 }
set_option maxRecDepth 65536 in
set_option maxHeartbeats 40000000 in
theorem con_alinit (l : Launch) {Z : State} {a0 : Array Value} (hw : ∀ d ∈ tables_1, d.before a0 Z = true) {n0 : Nat} {h0 : Heap} {a : Addr} {d0 : Addr} (SD : Sta Z Z.heap "java/util/ArrayList" "DEFAULTCAPACITY_EMPTY_ELEMENTDATA" "[Ljava/lang/Object;" (.ref d0)) (O : Exa Z h0 a "java/util/ArrayList" ∧ Fld Z h0 a "java/util/AbstractList" "modCount" "I" (.int 0) ∧ Fld Z h0 a "java/util/ArrayList" "elementData" "[Ljava/lang/Object;" .null ∧ Fld Z h0 a "java/util/ArrayList" "size" "I" (.int 0)) :
    Con l Z false false ELs n0 (⟨"java/util/ArrayList", "<init>", "()V"⟩ : MethodName) jdk_38_method_2_code 1 none rm_con_alinit [] #[(.ref a)] h0 [a] (fun v h => v = none ∧ Exa Z h a "java/util/ArrayList" ∧ Fld Z h a "java/util/AbstractList" "modCount" "I" (.int 0) ∧ Fld Z h a "java/util/ArrayList" "elementData" "[Ljava/lang/Object;" (.ref d0) ∧ Fld Z h a "java/util/ArrayList" "size" "I" (.int 0)) := by
  refine Con.intro (plainFor_of_name pn_java_util_ArrayList) (hELs hw) ?_
  intro p e s m below meth c hh G
  refine castRun (g' := mkF m 0 #[.val (.ref a)] []) (by first | rfl | (simp [entryFrame, mkF, argsToLocals, Value.category, maxLocals]; done)) ?_
  refine GoKit.aloadN G d1_0 rfl rfl (pc' := 1) rfl ?_
  refine GoKit.callSpecial G d1_1 rfl (wi hw 8 rfl) (wi hw 9 rfl) (wi hw 12 rfl) (wi hw 13 rfl) (by decide) (owc := [a]) (W := 0) (argsL := []) (rest := []) (con_abslist l hw ⟨O.1, O.2.1, O.2.2.1, O.2.2.2⟩) rfl (lenOf pd_0 rfl) rfl (by decide) (Nat.le_of_eq rfl) (by decide) (by decide) (by decide) (List.forall_mem_cons.mpr ⟨(List.Mem.head _), (fun _ q => nomatch q)⟩) (cells' := 0) (slots' := 0) rfl rfl (pc' := 4) rfl (fun r1 h4 q2 K3 => ?_)
  obtain ⟨rfl, O5⟩ := q2
  show Run _ _ _ _ _ _ _ _ _ _ _ _ _ _ _ _ _ _ _ _ _ (mkF m 4 #[.val (.ref a)] [])
  refine GoKit.aloadN G d1_4 rfl rfl (pc' := 5) rfl ?_
  refine GoKit.gets G d1_5 (wi hw 25 rfl) Via.refl SD (pc' := 8) rfl ?_
  refine GoKit.putf G d1_8 (wi hw 26 rfl) Via.refl O5.2.2.1 O5.1 (Or.inl (wi hw 27 rfl)) (wi hw 3 rfl) (ty := (.array (.object "java/lang/Object"))) (by decide) rfl rfl (List.Mem.head _) (pc' := 11) rfl (fun h7 W6 => ?_)
  have F8 := (O5.2.2.1).same W6
  refine GoKit.retVoid G d1_11 rfl (by decide) (by decide) ?_
  exact ⟨rfl, ⟨(O5.1.wr W6), (O5.2.1.other W6 (Or.inr (slot_ne (Or.inl (wi hw 24 rfl)) (Or.inl (wi hw 27 rfl)) (by decide) (by decide : _ = some .int) (by decide : _ = some (.array (.object "java/lang/Object")))))), F8, (O5.2.2.2.other W6 (Or.inr (slot_ne (Or.inl (wi hw 63 rfl)) (Or.inl (wi hw 27 rfl)) (by decide) (by decide : _ = some .int) (by decide : _ = some (.array (.object "java/lang/Object"))))))⟩⟩
def max32 (x z : Int32) : Int32 := if x < z then z else x
theorem d14_0 : decode jdk_29_method_65_code 0 = .ok (.iload_n 0, 1) := by decide +kernel
theorem d14_1 : decode jdk_29_method_65_code 1 = .ok (.iload_n 1, 1) := by decide +kernel
theorem d14_2 : decode jdk_29_method_65_code 2 = .ok (.if_icmp .lt 7, 3) := by decide +kernel
theorem d14_9 : decode jdk_29_method_65_code 9 = .ok (.iload_n 1, 1) := by decide +kernel
theorem d14_10 : decode jdk_29_method_65_code 10 = .ok (.ireturn, 1) := by decide +kernel
theorem d14_5 : decode jdk_29_method_65_code 5 = .ok (.iload_n 0, 1) := by decide +kernel
theorem d14_6 : decode jdk_29_method_65_code 6 = .ok (.goto 4, 3) := by decide +kernel
abbrev rm_con_max : Room := { frames := 0, cells := 0, slots := 0, locals := 0 }
set_option maxRecDepth 65536 in
set_option maxHeartbeats 40000000 in
theorem con_max (l : Launch) {Z : State} {a0 : Array Value} (hw : ∀ d ∈ tables_1, d.before a0 Z = true) {n0 : Nat} {h0 : Heap} (x z : Int32) :
    Con l Z false false ELs n0 (⟨"java/lang/Math", "max", "(II)I"⟩ : MethodName) jdk_29_method_65_code 2 (some .int) rm_con_max [] #[(.int x), (.int z)] h0 [] (fun v h => v = some (.int (max32 x z)) ∧ h = h0) := by
  refine Con.intro (Jvm.Free.JP.mathPlain rfl (by decide +kernel)) (hELs hw) ?_
  intro p e s m below meth c hh G
  refine castRun (g' := mkF m 0 #[.val (.int x), .val (.int z)] []) (by first | rfl | (simp [entryFrame, mkF, argsToLocals, Value.category, maxLocals]; done)) ?_
  refine GoKit.iloadN G d14_0 rfl (pc' := 1) rfl ?_
  refine GoKit.iloadN G d14_1 rfl (pc' := 2) rfl ?_
  refine GoKit.icmp_lt G d14_2 (by decide) (pt := 9) (pf := 5) rfl rfl (fun hb1 => ?_) (fun hb1 => ?_)
  · refine GoKit.iloadN G d14_9 rfl (pc' := 10) rfl ?_
    refine GoKit.retInt G d14_10 rfl (by decide) (by decide) ?_
    exact ⟨by simp [max32, hb1], rfl⟩
  · refine GoKit.iloadN G d14_5 rfl (pc' := 6) rfl ?_
    refine GoKit.goto G d14_6 (by decide) (pc' := 10) rfl ?_
    refine GoKit.retInt G d14_10 rfl (by decide) (by decide) ?_
    exact ⟨by simp [max32, hb1], rfl⟩
def min32 (x z : Int32) : Int32 := if z < x then z else x
theorem d54_0 : decode jdk_29_method_69_code 0 = .ok (.iload_n 0, 1) := by decide +kernel
theorem d54_1 : decode jdk_29_method_69_code 1 = .ok (.iload_n 1, 1) := by decide +kernel
theorem d54_2 : decode jdk_29_method_69_code 2 = .ok (.if_icmp .gt 7, 3) := by decide +kernel
theorem d54_9 : decode jdk_29_method_69_code 9 = .ok (.iload_n 1, 1) := by decide +kernel
theorem d54_10 : decode jdk_29_method_69_code 10 = .ok (.ireturn, 1) := by decide +kernel
theorem d54_5 : decode jdk_29_method_69_code 5 = .ok (.iload_n 0, 1) := by decide +kernel
theorem d54_6 : decode jdk_29_method_69_code 6 = .ok (.goto 4, 3) := by decide +kernel
abbrev rm_con_min : Room := { frames := 0, cells := 0, slots := 0, locals := 0 }
set_option maxRecDepth 65536 in
set_option maxHeartbeats 40000000 in
theorem con_min (l : Launch) {Z : State} {a0 : Array Value} (hw : ∀ d ∈ tables_1, d.before a0 Z = true) {n0 : Nat} {h0 : Heap} (x z : Int32) :
    Con l Z false false ELs n0 (⟨"java/lang/Math", "min", "(II)I"⟩ : MethodName) jdk_29_method_69_code 2 (some .int) rm_con_min [] #[(.int x), (.int z)] h0 [] (fun v h => v = some (.int (min32 x z)) ∧ h = h0) := by
  refine Con.intro (Jvm.Free.JP.mathPlain rfl (by decide +kernel)) (hELs hw) ?_
  intro p e s m below meth c hh G
  refine castRun (g' := mkF m 0 #[.val (.int x), .val (.int z)] []) (by first | rfl | (simp [entryFrame, mkF, argsToLocals, Value.category, maxLocals]; done)) ?_
  refine GoKit.iloadN G d54_0 rfl (pc' := 1) rfl ?_
  refine GoKit.iloadN G d54_1 rfl (pc' := 2) rfl ?_
  refine GoKit.icmp_gt G d54_2 (by decide) (pt := 9) (pf := 5) rfl rfl (fun hb1 => ?_) (fun hb1 => ?_)
  · refine GoKit.iloadN G d54_9 rfl (pc' := 10) rfl ?_
    refine GoKit.retInt G d54_10 rfl (by decide) (by decide) ?_
    exact ⟨by simp [min32, hb1], rfl⟩
  · refine GoKit.iloadN G d54_5 rfl (pc' := 6) rfl ?_
    refine GoKit.goto G d54_6 (by decide) (pc' := 10) rfl ?_
    refine GoKit.retInt G d54_10 rfl (by decide) (by decide) ?_
    exact ⟨by simp [min32, hb1], rfl⟩
theorem d13_0 : decode jdk_38_method_6_code 0 = .ok (.aload_n 0, 1) := by decide +kernel
theorem d13_1 : decode jdk_38_method_6_code 1 = .ok (.getfield 9, 3) := by decide +kernel
theorem d13_4 : decode jdk_38_method_6_code 4 = .ok (.arraylength, 1) := by decide +kernel
theorem d13_5 : decode jdk_38_method_6_code 5 = .ok (.istore_n 2, 1) := by decide +kernel
theorem d13_6 : decode jdk_38_method_6_code 6 = .ok (.iload_n 2, 1) := by decide +kernel
theorem d13_7 : decode jdk_38_method_6_code 7 = .ok (.ifCond .gt 13, 3) := by decide +kernel
theorem d13_10 : decode jdk_38_method_6_code 10 = .ok (.aload_n 0, 1) := by decide +kernel
theorem d13_11 : decode jdk_38_method_6_code 11 = .ok (.getfield 9, 3) := by decide +kernel
theorem d13_14 : decode jdk_38_method_6_code 14 = .ok (.getstatic 39, 3) := by decide +kernel
theorem d13_17 : decode jdk_38_method_6_code 17 = .ok (.if_acmp .eq 28, 3) := by decide +kernel
theorem d13_45 : decode jdk_38_method_6_code 45 = .ok (.aload_n 0, 1) := by decide +kernel
theorem d13_46 : decode jdk_38_method_6_code 46 = .ok (.bipush 10, 2) := by decide +kernel
theorem d13_48 : decode jdk_38_method_6_code 48 = .ok (.iload_n 1, 1) := by decide +kernel
theorem d13_49 : decode jdk_38_method_6_code 49 = .ok (.invokestatic 79, 3) := by decide +kernel
theorem pd_1 : parseMethodDescriptor "(II)I" = some ⟨[.int, .int], some .int⟩ := by decide +kernel
theorem d13_52 : decode jdk_38_method_6_code 52 = .ok (.anewarray 7, 3) := by decide +kernel
theorem d13_55 : decode jdk_38_method_6_code 55 = .ok (.dup_x1, 1) := by decide +kernel
theorem d13_56 : decode jdk_38_method_6_code 56 = .ok (.putfield 9, 3) := by decide +kernel
theorem d13_59 : decode jdk_38_method_6_code 59 = .ok (.areturn, 1) := by decide +kernel
abbrev rm_con_growI : Room := { frames := 1, cells := 1, slots := 10, locals := 14 }
set_option maxRecDepth 65536 in
set_option maxHeartbeats 40000000 in
theorem con_growI (l : Launch) {Z : State} {a0 : Array Value} (hw : ∀ d ∈ tables_1, d.before a0 Z = true) {n0 : Nat} {h0 : Heap} {a : Addr} {d0 : Addr} {cl0 : Cell} (SD : Sta Z Z.heap "java/util/ArrayList" "DEFAULTCAPACITY_EMPTY_ELEMENTDATA" "[Ljava/lang/Object;" (.ref d0)) (A0 : Arr Z Z.heap d0 cl0 (.object "java/lang/Object")) (hz0 : cl0.slots.size = 0) (O : Exa Z h0 a "java/util/ArrayList" ∧ Fld Z h0 a "java/util/AbstractList" "modCount" "I" (.int (1 : Int32)) ∧ Fld Z h0 a "java/util/ArrayList" "elementData" "[Ljava/lang/Object;" (.ref d0) ∧ Fld Z h0 a "java/util/ArrayList" "size" "I" (.int 0)) :
    Con l Z false false ELs n0 (⟨"java/util/ArrayList", "grow", "(I)[Ljava/lang/Object;"⟩ : MethodName) jdk_38_method_6_code 4 (some (.array (.object "java/lang/Object"))) rm_con_growI [] #[(.ref a), (.int (1 : Int32))] h0 [a] (fun v h => ∃ d, v = some (.ref d) ∧ h0.size ≤ d ∧ RA Z h d 10 ∧ Exa Z h a "java/util/ArrayList" ∧ Fld Z h a "java/util/AbstractList" "modCount" "I" (.int (1 : Int32)) ∧ Fld Z h a "java/util/ArrayList" "elementData" "[Ljava/lang/Object;" (.ref d) ∧ Fld Z h a "java/util/ArrayList" "size" "I" (.int 0)) := by
  refine Con.intro (plainFor_of_name pn_java_util_ArrayList) (hELs hw) ?_
  intro p e s m below meth c hh G
  refine castRun (g' := mkF m 0 #[.val (.ref a), .val (.int (1 : Int32)), .unset, .unset] []) (by first | rfl | (simp [entryFrame, mkF, argsToLocals, Value.category, maxLocals]; done)) ?_
  refine Run.know (fun EZ _ _ => ?_)
  refine GoKit.aloadN G d13_0 rfl rfl (pc' := 1) rfl ?_
  refine GoKit.getf G d13_1 (wi hw 26 rfl) Via.refl O.2.2.1 (pc' := 4) rfl ?_
  refine GoKit.arrlenR G d13_4 (A0.ext EZ) (z := (0 : Int32)) (by rw [hz0]; rfl) (pc' := 5) rfl ?_
  refine GoKit.istoreN G d13_5 (Ls' := #[.val (.ref a), .val (.int (1 : Int32)), .val (.int (0 : Int32)), .unset]) rfl (pc' := 6) rfl ?_
  refine GoKit.iloadN G d13_6 rfl (pc' := 7) rfl ?_
  refine GoKit.if_gt_f G d13_7 (by decide) (pc' := 10) rfl ?_
  refine GoKit.aloadN G d13_10 rfl rfl (pc' := 11) rfl ?_
  refine GoKit.getf G d13_11 (wi hw 26 rfl) Via.refl O.2.2.1 (pc' := 14) rfl ?_
  refine GoKit.gets G d13_14 (wi hw 25 rfl) Via.refl SD (pc' := 17) rfl ?_
  refine GoKit.acmp_eq_t G d13_17 rfl rfl rfl (by decide) (pc' := 45) rfl ?_
  refine GoKit.aloadN G d13_45 rfl rfl (pc' := 46) rfl ?_
  refine GoKit.bipush G (10 : Int32) d13_46 rfl (pc' := 48) rfl ?_
  refine GoKit.iloadN G d13_48 rfl (pc' := 49) rfl ?_
  refine GoKit.callStaticP G d13_49 (wi hw 79 rfl) (wi hw 80 rfl) (wi hw 81 rfl) (wi hw 82 rfl) (by decide) (W := 1) (argsL := [(.int (10 : Int32)), (.int (1 : Int32))]) (rest := [(.ref a)]) (con_max l hw (10 : Int32) (1 : Int32)) rfl (lenOf pd_1 rfl) rfl (by decide) (Nat.le_of_eq rfl) (by decide) (by decide) (by decide) (cells' := 0) (slots' := 0) rfl rfl (pc' := 52) rfl ?_
  show Run _ _ _ _ _ _ _ _ _ _ _ _ _ _ _ _ _ _ _ _ _ (mkF m 52 #[.val (.ref a), .val (.int (1 : Int32)), .val (.int (0 : Int32)), .unset] [(.int (max32 (10 : Int32) (1 : Int32))), (.ref a)])
  rw [show max32 (10 : Int32) (1 : Int32) = 10 from rfl]
  refine GoKit.newR G d13_52 (wi hw 83 rfl) (wi hw 84 rfl) (n := 10) (cap := 10) (by decide) rfl (Nat.le_refl _) (by decide) (by decide) (by decide) (cells' := 1) (slots' := 10) rfl rfl (pc' := 55) rfl (fun h4 a1 ga1 E2 A3 => ?_)
  refine GoKit.dupX1 G d13_55 rfl rfl (pc' := 56) rfl ?_
  refine GoKit.putf G d13_56 (wi hw 26 rfl) Via.refl (O.2.2.1.ext E2) (O.1.ext E2) (Or.inl (wi hw 27 rfl)) (wi hw 3 rfl) (ty := (.array (.object "java/lang/Object"))) (by decide) rfl rfl (List.Mem.tail _ (List.Mem.head _)) (pc' := 59) rfl (fun h6 W5 => ?_)
  have F7 := ((O.2.2.1.ext E2)).same W5
  refine GoKit.retRef G rfl d13_59 rfl rfl rfl (by decide) (by decide) ?_
  exact ⟨_, rfl, (Nat.le_trans (Nat.le_refl _) (Nat.le_of_eq ga1.symm)), (A3.other W5 (Ne.symm (Nat.ne_of_lt (Nat.lt_of_lt_of_le (O.2.2.2).lt (Nat.le_of_eq ga1.symm))))), ⟨((O.1.ext E2).wr W5), ((O.2.1.ext E2).other W5 (Or.inr (slot_ne (Or.inl (wi hw 24 rfl)) (Or.inl (wi hw 27 rfl)) (by decide) (by decide : _ = some .int) (by decide : _ = some (.array (.object "java/lang/Object")))))), F7, ((O.2.2.2.ext E2).other W5 (Or.inr (slot_ne (Or.inl (wi hw 63 rfl)) (Or.inl (wi hw 27 rfl)) (by decide) (by decide : _ = some .int) (by decide : _ = some (.array (.object "java/lang/Object"))))))⟩⟩
theorem d12_0 : decode jdk_38_method_7_code 0 = .ok (.aload_n 0, 1) := by decide +kernel
theorem d12_1 : decode jdk_38_method_7_code 1 = .ok (.aload_n 0, 1) := by decide +kernel
theorem d12_2 : decode jdk_38_method_7_code 2 = .ok (.getfield 48, 3) := by decide +kernel
theorem d12_5 : decode jdk_38_method_7_code 5 = .ok (.iconst 1, 1) := by decide +kernel
theorem d12_6 : decode jdk_38_method_7_code 6 = .ok (.iadd, 1) := by decide +kernel
theorem d12_7 : decode jdk_38_method_7_code 7 = .ok (.invokevirtual 69, 3) := by decide +kernel
theorem pd_2 : parseMethodDescriptor "(I)[Ljava/lang/Object;" = some ⟨[.int], some (.array (.object "java/lang/Object"))⟩ := by decide +kernel
theorem d12_10 : decode jdk_38_method_7_code 10 = .ok (.areturn, 1) := by decide +kernel
abbrev rm_con_grow : Room := { frames := 2, cells := 1, slots := 10, locals := 29 }
set_option maxRecDepth 65536 in
set_option maxHeartbeats 40000000 in
theorem con_grow (l : Launch) {Z : State} {a0 : Array Value} (hw : ∀ d ∈ tables_1, d.before a0 Z = true) {n0 : Nat} {h0 : Heap}  {a : Addr} {d0 : Addr} {cl0 : Cell} (SD : Sta Z Z.heap "java/util/ArrayList" "DEFAULTCAPACITY_EMPTY_ELEMENTDATA" "[Ljava/lang/Object;" (.ref d0)) (A0 : Arr Z Z.heap d0 cl0 (.object "java/lang/Object")) (hz0 : cl0.slots.size = 0) (O : Exa Z h0 a "java/util/ArrayList" ∧ Fld Z h0 a "java/util/AbstractList" "modCount" "I" (.int (1 : Int32)) ∧ Fld Z h0 a "java/util/ArrayList" "elementData" "[Ljava/lang/Object;" (.ref d0) ∧ Fld Z h0 a "java/util/ArrayList" "size" "I" (.int 0)) :
    Con l Z false false ELs n0 (⟨"java/util/ArrayList", "grow", "()[Ljava/lang/Object;"⟩ : MethodName) jdk_38_method_7_code 1 (some (.array (.object "java/lang/Object"))) rm_con_grow [] #[(.ref a)] h0 [a] (fun v h => ∃ d, v = some (.ref d) ∧ h0.size ≤ d ∧ RA Z h d 10 ∧ Exa Z h a "java/util/ArrayList" ∧ Fld Z h a "java/util/AbstractList" "modCount" "I" (.int (1 : Int32)) ∧ Fld Z h a "java/util/ArrayList" "elementData" "[Ljava/lang/Object;" (.ref d) ∧ Fld Z h a "java/util/ArrayList" "size" "I" (.int 0)) := by
  refine Con.intro (plainFor_of_name pn_java_util_ArrayList) (hELs hw) ?_
  intro p e s m below meth c hh G
  refine castRun (g' := mkF m 0 #[.val (.ref a)] []) (by first | rfl | (simp [entryFrame, mkF, argsToLocals, Value.category, maxLocals]; done)) ?_
  refine Run.know (fun EZ _ _ => ?_)
  refine GoKit.aloadN G d12_0 rfl rfl (pc' := 1) rfl ?_
  refine GoKit.aloadN G d12_1 rfl rfl (pc' := 2) rfl ?_
  refine GoKit.getf G d12_2 (wi hw 62 rfl) Via.refl O.2.2.2 (pc' := 5) rfl ?_
  refine GoKit.iconst G (1 : Int32) d12_5 rfl (pc' := 6) rfl ?_
  refine GoKit.iadd G d12_6 (pc' := 7) rfl (fun v1 hqv1 => ?_)
  obtain rfl : v1 = (1 : Int32) := by rw [hqv1]; rfl
  refine GoKit.callPriv G d12_7 (wi hw 74 rfl) (wi hw 75 rfl) (wi hw 77 rfl) (wi hw 76 rfl) (wi hw 4 rfl) (wi hw 78 rfl) (by decide) O.1 (owc := [a]) (W := 0) (argsL := [(.int (1 : Int32))]) (rest := []) (con_growI l hw SD A0 hz0 ⟨O.1, O.2.1, O.2.2.1, O.2.2.2⟩) rfl (lenOf pd_2 rfl) rfl (by decide) (Nat.le_of_eq rfl) (by decide) (by decide) (by decide) (List.forall_mem_cons.mpr ⟨(List.Mem.head _), (fun _ q => nomatch q)⟩) (cells' := 1) (slots' := 10) rfl rfl (pc' := 10) rfl (fun r2 h5 q3 K4 => ?_)
  obtain ⟨d6, rfl, le7, A8, O9⟩ := q3
  show Run _ _ _ _ _ _ _ _ _ _ _ _ _ _ _ _ _ _ _ _ _ (mkF m 10 #[.val (.ref a)] [(.ref d6)])
  refine GoKit.retRef G rfl d12_10 rfl rfl rfl (by decide) (by decide) ?_
  exact ⟨_, rfl, Nat.le_trans (Nat.le_refl _) le7, A8, ⟨O9.1, O9.2.1, O9.2.2.1, O9.2.2.2⟩⟩
theorem d11_0 : decode jdk_38_method_24_code 0 = .ok (.iload_n 3, 1) := by decide +kernel
theorem d11_1 : decode jdk_38_method_24_code 1 = .ok (.aload_n 2, 1) := by decide +kernel
theorem d11_2 : decode jdk_38_method_24_code 2 = .ok (.arraylength, 1) := by decide +kernel
theorem d11_3 : decode jdk_38_method_24_code 3 = .ok (.if_icmp .ne 8, 3) := by decide +kernel
theorem d11_6 : decode jdk_38_method_24_code 6 = .ok (.aload_n 0, 1) := by decide +kernel
theorem d11_7 : decode jdk_38_method_24_code 7 = .ok (.invokevirtual 129, 3) := by decide +kernel
theorem pd_3 : parseMethodDescriptor "()[Ljava/lang/Object;" = some ⟨[], some (.array (.object "java/lang/Object"))⟩ := by decide +kernel
theorem d11_10 : decode jdk_38_method_24_code 10 = .ok (.astore_n 2, 1) := by decide +kernel
theorem d11_11 : decode jdk_38_method_24_code 11 = .ok (.aload_n 2, 1) := by decide +kernel
theorem d11_12 : decode jdk_38_method_24_code 12 = .ok (.iload_n 3, 1) := by decide +kernel
theorem d11_13 : decode jdk_38_method_24_code 13 = .ok (.aload_n 1, 1) := by decide +kernel
theorem d11_14 : decode jdk_38_method_24_code 14 = .ok (.aastore, 1) := by decide +kernel
theorem d11_15 : decode jdk_38_method_24_code 15 = .ok (.aload_n 0, 1) := by decide +kernel
theorem d11_16 : decode jdk_38_method_24_code 16 = .ok (.iload_n 3, 1) := by decide +kernel
theorem d11_17 : decode jdk_38_method_24_code 17 = .ok (.iconst 1, 1) := by decide +kernel
theorem d11_18 : decode jdk_38_method_24_code 18 = .ok (.iadd, 1) := by decide +kernel
theorem d11_19 : decode jdk_38_method_24_code 19 = .ok (.putfield 48, 3) := by decide +kernel
theorem d11_22 : decode jdk_38_method_24_code 22 = .ok (.return_, 1) := by decide +kernel
abbrev rm_con_add3 : Room := { frames := 3, cells := 1, slots := 10, locals := 41 }
set_option maxRecDepth 65536 in
set_option maxHeartbeats 40000000 in
theorem con_add3 (l : Launch) {Z : State} {a0 : Array Value} (hw : ∀ d ∈ tables_1, d.before a0 Z = true) {n0 : Nat} {h0 : Heap} {a : Addr} {d0 : Addr} {cl0 : Cell} (SD : Sta Z Z.heap "java/util/ArrayList" "DEFAULTCAPACITY_EMPTY_ELEMENTDATA" "[Ljava/lang/Object;" (.ref d0)) (A0 : Arr Z Z.heap d0 cl0 (.object "java/lang/Object")) (hz0 : cl0.slots.size = 0) (O : Exa Z h0 a "java/util/ArrayList" ∧ Fld Z h0 a "java/util/AbstractList" "modCount" "I" (.int (1 : Int32)) ∧ Fld Z h0 a "java/util/ArrayList" "elementData" "[Ljava/lang/Object;" (.ref d0) ∧ Fld Z h0 a "java/util/ArrayList" "size" "I" (.int 0)) {x : Addr} (X : Exa Z h0 x "java/lang/String") :
    Con l Z false false ELs n0 (⟨"java/util/ArrayList", "add", "(Ljava/lang/Object;[Ljava/lang/Object;I)V"⟩ : MethodName) jdk_38_method_24_code 4 none rm_con_add3 [] #[(.ref a), (.ref x), (.ref d0), (.int 0)] h0 [a] (fun v h => ∃ d, v = none ∧ h0.size ≤ d ∧ RA Z h d 10 ∧ Exa Z h a "java/util/ArrayList" ∧ Fld Z h a "java/util/AbstractList" "modCount" "I" (.int (1 : Int32)) ∧ Fld Z h a "java/util/ArrayList" "elementData" "[Ljava/lang/Object;" (.ref d) ∧ Fld Z h a "java/util/ArrayList" "size" "I" (.int (1 : Int32))) := by
  refine Con.intro (plainFor_of_name pn_java_util_ArrayList) (hELs hw) ?_
  intro p e s m below meth c hh G
  refine castRun (g' := mkF m 0 #[.val (.ref a), .val (.ref x), .val (.ref d0), .val (.int 0)] []) (by first | rfl | (simp [entryFrame, mkF, argsToLocals, Value.category, maxLocals]; done)) ?_
  refine Run.n0le (fun hn0 => ?_)
  refine Run.know (fun EZ _ _ => ?_)
  refine GoKit.iloadN G d11_0 rfl (pc' := 1) rfl ?_
  refine GoKit.aloadN G d11_1 rfl rfl (pc' := 2) rfl ?_
  refine GoKit.arrlenR G d11_2 (A0.ext EZ) (z := (0 : Int32)) (by rw [hz0]; rfl) (pc' := 3) rfl ?_
  refine GoKit.icmp_ne_f G d11_3 (by decide) (pc' := 6) rfl ?_
  refine GoKit.aloadN G d11_6 rfl rfl (pc' := 7) rfl ?_
  refine GoKit.callPriv G d11_7 (wi hw 69 rfl) (wi hw 70 rfl) (wi hw 72 rfl) (wi hw 71 rfl) (wi hw 4 rfl) (wi hw 73 rfl) (by decide) O.1 (owc := [a]) (W := 0) (argsL := []) (rest := []) (con_grow l hw SD A0 hz0 ⟨O.1, O.2.1, O.2.2.1, O.2.2.2⟩) rfl (lenOf pd_3 rfl) rfl (by decide) (Nat.le_of_eq rfl) (by decide) (by decide) (by decide) (List.forall_mem_cons.mpr ⟨(List.Mem.head _), (fun _ q => nomatch q)⟩) (cells' := 1) (slots' := 10) rfl rfl (pc' := 10) rfl (fun r1 h4 q2 K3 => ?_)
  obtain ⟨d5, rfl, le6, A7, O8⟩ := q2
  have le9 : h0.size ≤ d5 := Nat.le_trans (Nat.le_refl _) le6
  refine Run.claim rfl A7.lt (Nat.le_trans hn0 le9) (by rw [hh]; exact le9) ?_
  show Run _ _ _ _ _ _ _ _ _ _ _ _ _ _ _ _ _ _ _ _ _ (mkF m 10 #[.val (.ref a), .val (.ref x), .val (.ref d0), .val (.int 0)] [(.ref d5)])
  refine GoKit.astoreN G d11_10 rfl (Ls' := #[.val (.ref a), .val (.ref x), .val (.ref d5), .val (.int 0)]) rfl (pc' := 11) rfl ?_
  refine GoKit.aloadN G d11_11 rfl rfl (pc' := 12) rfl ?_
  refine GoKit.iloadN G d11_12 rfl (pc' := 13) rfl ?_
  refine GoKit.aloadN G d11_13 rfl rfl (pc' := 14) rfl ?_
  refine GoKit.aastR G d11_14 A7 (by decide) (by decide) (Ins.of_exa (X.keep K3) (wi hw 85 rfl)) (List.Mem.head _) (pc' := 15) rfl (fun h12 W10 A11 => ?_)
  refine GoKit.aloadN G d11_15 rfl rfl (pc' := 16) rfl ?_
  refine GoKit.iloadN G d11_16 rfl (pc' := 17) rfl ?_
  refine GoKit.iconst G (1 : Int32) d11_17 rfl (pc' := 18) rfl ?_
  refine GoKit.iadd G d11_18 (pc' := 19) rfl (fun v13 hqv13 => ?_)
  obtain rfl : v13 = (1 : Int32) := by rw [hqv13]; rfl
  refine GoKit.putf G d11_19 (wi hw 62 rfl) Via.refl (O8.2.2.2.other W10 (Or.inl (Nat.ne_of_lt (Nat.lt_of_lt_of_le (O.2.2.2).lt le6)))) (O8.1.wr W10) (Or.inl (wi hw 63 rfl)) (wi hw 3 rfl) (ty := .int) (by decide) rfl rfl (List.Mem.tail _ (List.Mem.head _)) (pc' := 22) rfl (fun h15 W14 => ?_)
  have F16 := ((O8.2.2.2.other W10 (Or.inl (Nat.ne_of_lt (Nat.lt_of_lt_of_le (O.2.2.2).lt le6))))).same W14
  refine GoKit.retVoid G d11_22 rfl (by decide) (by decide) ?_
  exact ⟨d5, rfl, (Nat.le_trans (Nat.le_refl _) le6), (A11.other W14 (Ne.symm (Nat.ne_of_lt (Nat.lt_of_lt_of_le (O.2.2.2).lt le6)))), ⟨((O8.1.wr W10).wr W14), ((O8.2.1.other W10 (Or.inl (Nat.ne_of_lt (Nat.lt_of_lt_of_le (O.2.2.2).lt le6)))).other W14 (Or.inr (slot_ne (Or.inl (wi hw 24 rfl)) (Or.inl (wi hw 63 rfl)) (by decide) (by decide : _ = some .int) (by decide : _ = some .int)))), ((O8.2.2.1.other W10 (Or.inl (Nat.ne_of_lt (Nat.lt_of_lt_of_le (O.2.2.2).lt le6)))).other W14 (Or.inr (slot_ne (Or.inl (wi hw 27 rfl)) (Or.inl (wi hw 63 rfl)) (by decide) (by decide : _ = some (.array (.object "java/lang/Object"))) (by decide : _ = some .int)))), F16⟩⟩
abbrev rm_con_add3F : Room := { frames := 0, cells := 0, slots := 0, locals := 0 }
set_option maxRecDepth 65536 in
set_option maxHeartbeats 40000000 in
theorem con_add3F (l : Launch) {Z : State} {a0 : Array Value} (hw : ∀ d ∈ tables_1, d.before a0 Z = true) {n0 : Nat} {h0 : Heap} {a b : Addr} (O : Exa Z h0 a "java/util/ArrayList" ∧ Fld Z h0 a "java/util/AbstractList" "modCount" "I" (.int (2 : Int32)) ∧ Fld Z h0 a "java/util/ArrayList" "elementData" "[Ljava/lang/Object;" (.ref b) ∧ Fld Z h0 a "java/util/ArrayList" "size" "I" (.int (1 : Int32))) (A : RA Z h0 b 10) (hne : a ≠ b) {x : Addr} (X : Exa Z h0 x "java/lang/String") (hnx : x ≠ b) :
    Con l Z false false ELs n0 (⟨"java/util/ArrayList", "add", "(Ljava/lang/Object;[Ljava/lang/Object;I)V"⟩ : MethodName) jdk_38_method_24_code 4 none rm_con_add3F [] #[(.ref a), (.ref x), (.ref b), (.int (1 : Int32))] h0 [a, b] (fun v h => v = none) := by
  refine Con.intro (plainFor_of_name pn_java_util_ArrayList) (hELs hw) ?_
  intro p e s m below meth c hh G
  refine castRun (g' := mkF m 0 #[.val (.ref a), .val (.ref x), .val (.ref b), .val (.int (1 : Int32))] []) (by first | rfl | (simp [entryFrame, mkF, argsToLocals, Value.category, maxLocals]; done)) ?_
  refine Run.n0le (fun hn0 => ?_)
  refine GoKit.iloadN G d11_0 rfl (pc' := 1) rfl ?_
  refine GoKit.aloadN G d11_1 rfl rfl (pc' := 2) rfl ?_
  obtain ⟨cl1, A2, hz3, -⟩ := id A
  refine GoKit.arrlenR G d11_2 A2 (z := (10 : Int32)) (by rw [hz3]; rfl) (pc' := 3) rfl ?_
  refine GoKit.icmp_ne_t G d11_3 (by decide) (by decide) (pc' := 11) rfl ?_
  refine GoKit.aloadN G d11_11 rfl rfl (pc' := 12) rfl ?_
  refine GoKit.iloadN G d11_12 rfl (pc' := 13) rfl ?_
  refine GoKit.aloadN G d11_13 rfl rfl (pc' := 14) rfl ?_
  refine GoKit.aastR G d11_14 A (by decide) (by decide) (Ins.of_exa X (wi hw 85 rfl)) (List.Mem.tail _ (List.Mem.head _)) (pc' := 15) rfl (fun h6 W4 A5 => ?_)
  refine GoKit.aloadN G d11_15 rfl rfl (pc' := 16) rfl ?_
  refine GoKit.iloadN G d11_16 rfl (pc' := 17) rfl ?_
  refine GoKit.iconst G (1 : Int32) d11_17 rfl (pc' := 18) rfl ?_
  refine GoKit.iadd G d11_18 (pc' := 19) rfl (fun v7 hqv7 => ?_)
  obtain rfl : v7 = (2 : Int32) := by rw [hqv7]; rfl
  refine GoKit.putf G d11_19 (wi hw 62 rfl) Via.refl (O.2.2.2.other W4 (Or.inl hne)) (O.1.wr W4) (Or.inl (wi hw 63 rfl)) (wi hw 3 rfl) (ty := .int) (by decide) rfl rfl (List.Mem.head _) (pc' := 22) rfl (fun h9 W8 => ?_)
  have F10 := ((O.2.2.2.other W4 (Or.inl hne))).same W8
  refine GoKit.retVoid G d11_22 rfl (by decide) (by decide) ?_
  exact rfl
theorem d10_0 : decode jdk_38_method_25_code 0 = .ok (.aload_n 0, 1) := by decide +kernel
theorem d10_1 : decode jdk_38_method_25_code 1 = .ok (.dup, 1) := by decide +kernel
theorem d10_2 : decode jdk_38_method_25_code 2 = .ok (.getfield 63, 3) := by decide +kernel
theorem d10_5 : decode jdk_38_method_25_code 5 = .ok (.iconst 1, 1) := by decide +kernel
theorem d10_6 : decode jdk_38_method_25_code 6 = .ok (.iadd, 1) := by decide +kernel
theorem d10_7 : decode jdk_38_method_25_code 7 = .ok (.putfield 63, 3) := by decide +kernel
theorem d10_10 : decode jdk_38_method_25_code 10 = .ok (.aload_n 0, 1) := by decide +kernel
theorem d10_11 : decode jdk_38_method_25_code 11 = .ok (.aload_n 1, 1) := by decide +kernel
theorem d10_12 : decode jdk_38_method_25_code 12 = .ok (.aload_n 0, 1) := by decide +kernel
theorem d10_13 : decode jdk_38_method_25_code 13 = .ok (.getfield 9, 3) := by decide +kernel
theorem d10_16 : decode jdk_38_method_25_code 16 = .ok (.aload_n 0, 1) := by decide +kernel
theorem d10_17 : decode jdk_38_method_25_code 17 = .ok (.getfield 48, 3) := by decide +kernel
theorem d10_20 : decode jdk_38_method_25_code 20 = .ok (.invokevirtual 131, 3) := by decide +kernel
theorem pd_4 : parseMethodDescriptor "(Ljava/lang/Object;[Ljava/lang/Object;I)V" = some ⟨[(.object "java/lang/Object"), (.array (.object "java/lang/Object")), .int], none⟩ := by decide +kernel
theorem d10_23 : decode jdk_38_method_25_code 23 = .ok (.iconst 1, 1) := by decide +kernel
theorem d10_24 : decode jdk_38_method_25_code 24 = .ok (.ireturn, 1) := by decide +kernel
abbrev rm_con_add : Room := { frames := 4, cells := 1, slots := 10, locals := 56 }
set_option maxRecDepth 65536 in
set_option maxHeartbeats 40000000 in
theorem con_add (l : Launch) {Z : State} {a0 : Array Value} (hw : ∀ d ∈ tables_1, d.before a0 Z = true) {n0 : Nat} {h0 : Heap} {a : Addr} {d0 : Addr} {cl0 : Cell} (SD : Sta Z Z.heap "java/util/ArrayList" "DEFAULTCAPACITY_EMPTY_ELEMENTDATA" "[Ljava/lang/Object;" (.ref d0)) (A0 : Arr Z Z.heap d0 cl0 (.object "java/lang/Object")) (hz0 : cl0.slots.size = 0) (O : Exa Z h0 a "java/util/ArrayList" ∧ Fld Z h0 a "java/util/AbstractList" "modCount" "I" (.int 0) ∧ Fld Z h0 a "java/util/ArrayList" "elementData" "[Ljava/lang/Object;" (.ref d0) ∧ Fld Z h0 a "java/util/ArrayList" "size" "I" (.int 0)) {x : Addr} (X : Exa Z h0 x "java/lang/String") :
    Con l Z false false ELs n0 (⟨"java/util/ArrayList", "add", "(Ljava/lang/Object;)Z"⟩ : MethodName) jdk_38_method_25_code 2 (some .boolean) rm_con_add [] #[(.ref a), (.ref x)] h0 [a] (fun v h => ∃ d, v = some (.int 1) ∧ h0.size ≤ d ∧ RA Z h d 10 ∧ Exa Z h a "java/util/ArrayList" ∧ Fld Z h a "java/util/AbstractList" "modCount" "I" (.int (1 : Int32)) ∧ Fld Z h a "java/util/ArrayList" "elementData" "[Ljava/lang/Object;" (.ref d) ∧ Fld Z h a "java/util/ArrayList" "size" "I" (.int (1 : Int32))) := by
  refine Con.intro (plainFor_of_name pn_java_util_ArrayList) (hELs hw) ?_
  intro p e s m below meth c hh G
  refine castRun (g' := mkF m 0 #[.val (.ref a), .val (.ref x)] []) (by first | rfl | (simp [entryFrame, mkF, argsToLocals, Value.category, maxLocals]; done)) ?_
  refine Run.n0le (fun hn0 => ?_)
  refine Run.know (fun EZ _ _ => ?_)
  refine GoKit.aloadN G d10_0 rfl rfl (pc' := 1) rfl ?_
  refine GoKit.dup G d10_1 rfl (pc' := 2) rfl ?_
  refine GoKit.getf G d10_2 (wi hw 60 rfl) (Via.of (wi hw 61 rfl)) O.2.1 (pc' := 5) rfl ?_
  refine GoKit.iconst G (1 : Int32) d10_5 rfl (pc' := 6) rfl ?_
  refine GoKit.iadd G d10_6 (pc' := 7) rfl (fun v1 hqv1 => ?_)
  obtain rfl : v1 = (1 : Int32) := by rw [hqv1]; rfl
  refine GoKit.putf G d10_7 (wi hw 60 rfl) (Via.of (wi hw 61 rfl)) O.2.1 O.1 (Or.inl (wi hw 24 rfl)) (wi hw 3 rfl) (ty := .int) (by decide) rfl rfl (List.Mem.head _) (pc' := 10) rfl (fun h3 W2 => ?_)
  have F4 := (O.2.1).same W2
  refine GoKit.aloadN G d10_10 rfl rfl (pc' := 11) rfl ?_
  refine GoKit.aloadN G d10_11 rfl rfl (pc' := 12) rfl ?_
  refine GoKit.aloadN G d10_12 rfl rfl (pc' := 13) rfl ?_
  refine GoKit.getf G d10_13 (wi hw 26 rfl) Via.refl (O.2.2.1.other W2 (Or.inr (slot_ne (Or.inl (wi hw 27 rfl)) (Or.inl (wi hw 24 rfl)) (by decide) (by decide : _ = some (.array (.object "java/lang/Object"))) (by decide : _ = some .int)))) (pc' := 16) rfl ?_
  refine GoKit.aloadN G d10_16 rfl rfl (pc' := 17) rfl ?_
  refine GoKit.getf G d10_17 (wi hw 62 rfl) Via.refl (O.2.2.2.other W2 (Or.inr (slot_ne (Or.inl (wi hw 63 rfl)) (Or.inl (wi hw 24 rfl)) (by decide) (by decide : _ = some .int) (by decide : _ = some .int)))) (pc' := 20) rfl ?_
  refine GoKit.callPriv G d10_20 (wi hw 64 rfl) (wi hw 65 rfl) (wi hw 67 rfl) (wi hw 66 rfl) (wi hw 4 rfl) (wi hw 68 rfl) (by decide) (O.1.wr W2) (owc := [a]) (W := 0) (argsL := [(.ref x), (.ref d0), (.int 0)]) (rest := []) (con_add3 l hw SD A0 hz0 ⟨(O.1.wr W2), F4, (O.2.2.1.other W2 (Or.inr (slot_ne (Or.inl (wi hw 27 rfl)) (Or.inl (wi hw 24 rfl)) (by decide) (by decide : _ = some (.array (.object "java/lang/Object"))) (by decide : _ = some .int)))), (O.2.2.2.other W2 (Or.inr (slot_ne (Or.inl (wi hw 63 rfl)) (Or.inl (wi hw 24 rfl)) (by decide) (by decide : _ = some .int) (by decide : _ = some .int))))⟩ (X.wr W2)) rfl (lenOf pd_4 rfl) rfl (by decide) (Nat.le_of_eq rfl) (by decide) (by decide) (by decide) (List.forall_mem_cons.mpr ⟨(List.Mem.head _), (fun _ q => nomatch q)⟩) (cells' := 1) (slots' := 10) rfl rfl (pc' := 23) rfl (fun r5 h8 q6 K7 => ?_)
  obtain ⟨d9, rfl, le10, A11, O12⟩ := q6
  show Run _ _ _ _ _ _ _ _ _ _ _ _ _ _ _ _ _ _ _ _ _ (mkF m 23 #[.val (.ref a), .val (.ref x)] [])
  refine GoKit.iconst G (1 : Int32) d10_23 rfl (pc' := 24) rfl ?_
  refine GoKit.retNar G d10_24 (t := .boolean) rfl (by simp) (by decide) (by decide) ?_
  exact ⟨d9, rfl, Nat.le_trans (wr_size W2) le10, A11, ⟨O12.1, O12.2.1, O12.2.2.1, O12.2.2.2⟩⟩
abbrev rm_con_addF : Room := { frames := 1, cells := 0, slots := 0, locals := 15 }
set_option maxRecDepth 65536 in
set_option maxHeartbeats 40000000 in
theorem con_addF (l : Launch) {Z : State} {a0 : Array Value} (hw : ∀ d ∈ tables_1, d.before a0 Z = true) {n0 : Nat} {h0 : Heap} {a b : Addr} (O : Exa Z h0 a "java/util/ArrayList" ∧ Fld Z h0 a "java/util/AbstractList" "modCount" "I" (.int (1 : Int32)) ∧ Fld Z h0 a "java/util/ArrayList" "elementData" "[Ljava/lang/Object;" (.ref b) ∧ Fld Z h0 a "java/util/ArrayList" "size" "I" (.int (1 : Int32))) (A : RA Z h0 b 10) (hne : a ≠ b) {x : Addr} (X : Exa Z h0 x "java/lang/String") (hnx : x ≠ b) :
    Con l Z false false ELs n0 (⟨"java/util/ArrayList", "add", "(Ljava/lang/Object;)Z"⟩ : MethodName) jdk_38_method_25_code 2 (some .boolean) rm_con_addF [] #[(.ref a), (.ref x)] h0 [a, b] (fun v h => v = some (.int 1)) := by
  refine Con.intro (plainFor_of_name pn_java_util_ArrayList) (hELs hw) ?_
  intro p e s m below meth c hh G
  refine castRun (g' := mkF m 0 #[.val (.ref a), .val (.ref x)] []) (by first | rfl | (simp [entryFrame, mkF, argsToLocals, Value.category, maxLocals]; done)) ?_
  refine Run.n0le (fun hn0 => ?_)
  refine GoKit.aloadN G d10_0 rfl rfl (pc' := 1) rfl ?_
  refine GoKit.dup G d10_1 rfl (pc' := 2) rfl ?_
  refine GoKit.getf G d10_2 (wi hw 60 rfl) (Via.of (wi hw 61 rfl)) O.2.1 (pc' := 5) rfl ?_
  refine GoKit.iconst G (1 : Int32) d10_5 rfl (pc' := 6) rfl ?_
  refine GoKit.iadd G d10_6 (pc' := 7) rfl (fun v1 hqv1 => ?_)
  obtain rfl : v1 = (2 : Int32) := by rw [hqv1]; rfl
  refine GoKit.putf G d10_7 (wi hw 60 rfl) (Via.of (wi hw 61 rfl)) O.2.1 O.1 (Or.inl (wi hw 24 rfl)) (wi hw 3 rfl) (ty := .int) (by decide) rfl rfl (List.Mem.head _) (pc' := 10) rfl (fun h3 W2 => ?_)
  have F4 := (O.2.1).same W2
  refine GoKit.aloadN G d10_10 rfl rfl (pc' := 11) rfl ?_
  refine GoKit.aloadN G d10_11 rfl rfl (pc' := 12) rfl ?_
  refine GoKit.aloadN G d10_12 rfl rfl (pc' := 13) rfl ?_
  refine GoKit.getf G d10_13 (wi hw 26 rfl) Via.refl (O.2.2.1.other W2 (Or.inr (slot_ne (Or.inl (wi hw 27 rfl)) (Or.inl (wi hw 24 rfl)) (by decide) (by decide : _ = some (.array (.object "java/lang/Object"))) (by decide : _ = some .int)))) (pc' := 16) rfl ?_
  refine GoKit.aloadN G d10_16 rfl rfl (pc' := 17) rfl ?_
  refine GoKit.getf G d10_17 (wi hw 62 rfl) Via.refl (O.2.2.2.other W2 (Or.inr (slot_ne (Or.inl (wi hw 63 rfl)) (Or.inl (wi hw 24 rfl)) (by decide) (by decide : _ = some .int) (by decide : _ = some .int)))) (pc' := 20) rfl ?_
  refine GoKit.callPriv G d10_20 (wi hw 64 rfl) (wi hw 65 rfl) (wi hw 67 rfl) (wi hw 66 rfl) (wi hw 4 rfl) (wi hw 68 rfl) (by decide) (O.1.wr W2) (owc := [a, b]) (W := 0) (argsL := [(.ref x), (.ref b), (.int (1 : Int32))]) (rest := []) (con_add3F l hw ⟨(O.1.wr W2), F4, (O.2.2.1.other W2 (Or.inr (slot_ne (Or.inl (wi hw 27 rfl)) (Or.inl (wi hw 24 rfl)) (by decide) (by decide : _ = some (.array (.object "java/lang/Object"))) (by decide : _ = some .int)))), (O.2.2.2.other W2 (Or.inr (slot_ne (Or.inl (wi hw 63 rfl)) (Or.inl (wi hw 24 rfl)) (by decide) (by decide : _ = some .int) (by decide : _ = some .int))))⟩ (A.other W2 (Ne.symm hne)) hne (X.wr W2) hnx) rfl (lenOf pd_4 rfl) rfl (by decide) (Nat.le_of_eq rfl) (by decide) (by decide) (by decide) (List.forall_mem_cons.mpr ⟨(List.Mem.head _), (List.forall_mem_cons.mpr ⟨(List.Mem.tail _ (List.Mem.head _)), (fun _ q => nomatch q)⟩)⟩) (cells' := 0) (slots' := 0) rfl rfl (pc' := 23) rfl (fun r5 h8 q6 K7 => ?_)
  obtain rfl := q6
  show Run _ _ _ _ _ _ _ _ _ _ _ _ _ _ _ _ _ _ _ _ _ (mkF m 23 #[.val (.ref a), .val (.ref x)] [])
  refine GoKit.iconst G (1 : Int32) d10_23 rfl (pc' := 24) rfl ?_
  refine GoKit.retNar G d10_24 (t := .boolean) rfl (by simp) (by decide) (by decide) ?_
  exact rfl
theorem d16_0 : decode jdk_69_method_7_code 0 = .ok (.aload_n 0, 1) := by decide +kernel
theorem d16_1 : decode jdk_69_method_7_code 1 = .ok (.invokespecial 43, 3) := by decide +kernel
theorem d16_4 : decode jdk_69_method_7_code 4 = .ok (.aload_n 0, 1) := by decide +kernel
theorem d16_5 : decode jdk_69_method_7_code 5 = .ok (.ldc 92, 2) := by decide +kernel
theorem d16_7 : decode jdk_69_method_7_code 7 = .ok (.putfield 81, 3) := by decide +kernel
theorem d16_10 : decode jdk_69_method_7_code 10 = .ok (.return_, 1) := by decide +kernel
theorem pn_java_util_HashMap : plainName "java/util/HashMap" = true := by first | (simp [plainName, overriddenIn]; done) | decide +kernel
abbrev rm_con_hminit : Room := { frames := 2, cells := 0, slots := 0, locals := 24 }
set_option maxRecDepth 65536 in
set_option maxHeartbeats 40000000 in
theorem con_hminit (l : Launch) {Z : State} {a0 : Array Value} (hw : ∀ d ∈ tables_1, d.before a0 Z = true) {n0 : Nat} {h0 : Heap} {a : Addr} (O : Exa Z h0 a "java/util/HashMap" ∧ Fld Z h0 a "java/util/HashMap" "size" "I" (.int 0) ∧ Fld Z h0 a "java/util/HashMap" "modCount" "I" (.int 0) ∧ Fld Z h0 a "java/util/HashMap" "table" "[Ljava/util/HashMap$Node;" .null ∧ Fld Z h0 a "java/util/HashMap" "entrySet" "Ljava/util/Set;" .null ∧ Fld Z h0 a "java/util/AbstractMap" "keySet" "Ljava/util/Set;" .null ∧ Fld Z h0 a "java/util/HashMap" "loadFactor" "F" (.float 0)) :
    Con l Z false false ELs n0 (⟨"java/util/HashMap", "<init>", "()V"⟩ : MethodName) jdk_69_method_7_code 1 none rm_con_hminit [] #[(.ref a)] h0 [a] (fun v h => v = none ∧ Exa Z h a "java/util/HashMap" ∧ Fld Z h a "java/util/HashMap" "size" "I" (.int 0) ∧ Fld Z h a "java/util/HashMap" "modCount" "I" (.int 0) ∧ Fld Z h a "java/util/HashMap" "table" "[Ljava/util/HashMap$Node;" .null ∧ Fld Z h a "java/util/HashMap" "entrySet" "Ljava/util/Set;" .null ∧ Fld Z h a "java/util/AbstractMap" "keySet" "Ljava/util/Set;" .null) := by
  refine Con.intro (plainFor_of_name pn_java_util_HashMap) (hELs hw) ?_
  intro p e s m below meth c hh G
  refine castRun (g' := mkF m 0 #[.val (.ref a)] []) (by first | rfl | (simp [entryFrame, mkF, argsToLocals, Value.category, maxLocals]; done)) ?_
  refine GoKit.aloadN G d16_0 rfl rfl (pc' := 1) rfl ?_
  refine GoKit.callSpecial G d16_1 rfl (wi hw 98 rfl) (wi hw 99 rfl) (wi hw 102 rfl) (wi hw 103 rfl) (by decide) (owc := []) (W := 0) (argsL := []) (rest := []) (con_absmap l hw) rfl (lenOf pd_0 rfl) rfl (by decide) (Nat.le_of_eq rfl) (by decide) (by decide) (by decide) (fun _ q => nomatch q) (cells' := 0) (slots' := 0) rfl rfl (pc' := 4) rfl (fun r1 h4 q2 K3 => ?_)
  obtain rfl := q2
  show Run _ _ _ _ _ _ _ _ _ _ _ _ _ _ _ _ _ _ _ _ _ (mkF m 4 #[.val (.ref a)] [])
  refine GoKit.aloadN G d16_4 rfl rfl (pc' := 5) rfl ?_
  refine GoKit.ldcF G d16_5 (wi hw 105 rfl) (pc' := 7) rfl ?_
  refine GoKit.putf G d16_7 (wi hw 106 rfl) Via.refl (O.2.2.2.2.2.2.keep K3 nin0) (O.1.keep K3) (Or.inr ⟨(wi hw 107 rfl), rfl, rfl⟩) (wi hw 93 rfl) (ty := .float) (by decide) rfl rfl (List.Mem.head _) (pc' := 10) rfl (fun h6 W5 => ?_)
  have F7 := ((O.2.2.2.2.2.2.keep K3 nin0)).same W5
  refine GoKit.retVoid G d16_10 rfl (by decide) (by decide) ?_
  exact ⟨rfl, ⟨((O.1.keep K3).wr W5), ((O.2.1.keep K3 nin0).other W5 (Or.inr (slot_ne (Or.inl (wi hw 157 rfl)) (Or.inr (wi hw 107 rfl)) (by decide) (by decide : _ = some .int) (by decide : _ = some .float)))), ((O.2.2.1.keep K3 nin0).other W5 (Or.inr (slot_ne (Or.inl (wi hw 216 rfl)) (Or.inr (wi hw 107 rfl)) (by decide) (by decide : _ = some .int) (by decide : _ = some .float)))), ((O.2.2.2.1.keep K3 nin0).other W5 (Or.inr (slot_ne (Or.inl (wi hw 220 rfl)) (Or.inr (wi hw 107 rfl)) (by decide) (by decide : _ = some (.array (.object "java/util/HashMap$Node"))) (by decide : _ = some .float)))), ((O.2.2.2.2.1.keep K3 nin0).other W5 (Or.inr (slot_ne (Or.inl (wi hw 172 rfl)) (Or.inr (wi hw 107 rfl)) (by decide) (by decide : _ = some (.object "java/util/Set")) (by decide : _ = some .float)))), ((O.2.2.2.2.2.1.keep K3 nin0).other W5 (Or.inr (slot_ne (Or.inl (wi hw 456 rfl)) (Or.inr (wi hw 107 rfl)) (by decide) (by decide : _ = some (.object "java/util/Set")) (by decide : _ = some .float))))⟩⟩
theorem d25_0 : decode jdk_111_method_1_code 0 = .ok (.aload_n 0, 1) := by decide +kernel
theorem d25_1 : decode jdk_111_method_1_code 1 = .ok (.aload_n 1, 1) := by decide +kernel
theorem d25_2 : decode jdk_111_method_1_code 2 = .ok (.putfield 1, 3) := by decide +kernel
theorem d25_5 : decode jdk_111_method_1_code 5 = .ok (.aload_n 0, 1) := by decide +kernel
theorem d25_6 : decode jdk_111_method_1_code 6 = .ok (.invokespecial 7, 3) := by decide +kernel
theorem d25_9 : decode jdk_111_method_1_code 9 = .ok (.return_, 1) := by decide +kernel
theorem pn_java_util_HashMap_EntrySet : plainName "java/util/HashMap$EntrySet" = true := by first | (simp [plainName, overriddenIn]; done) | decide +kernel
abbrev rm_con_esinit : Room := { frames := 3, cells := 0, slots := 0, locals := 36 }
set_option maxRecDepth 65536 in
set_option maxHeartbeats 40000000 in
theorem con_esinit (l : Launch) {Z : State} {a0 : Array Value} (hw : ∀ d ∈ tables_1, d.before a0 Z = true) {n0 : Nat} {h0 : Heap} {a : Addr} {q0 : Addr} (O : Exa Z h0 a "java/util/HashMap$EntrySet" ∧ Fld Z h0 a "java/util/HashMap$EntrySet" "this$0" "Ljava/util/HashMap;" .null) :
    Con l Z false false ELs n0 (⟨"java/util/HashMap$EntrySet", "<init>", "(Ljava/util/HashMap;)V"⟩ : MethodName) jdk_111_method_1_code 2 none rm_con_esinit [] #[(.ref a), (.ref q0)] h0 [a] (fun v h => v = none ∧ Exa Z h a "java/util/HashMap$EntrySet" ∧ Fld Z h a "java/util/HashMap$EntrySet" "this$0" "Ljava/util/HashMap;" (.ref q0)) := by
  refine Con.intro (plainFor_of_name pn_java_util_HashMap_EntrySet) (hELs hw) ?_
  intro p e s m below meth c hh G
  refine castRun (g' := mkF m 0 #[.val (.ref a), .val (.ref q0)] []) (by first | rfl | (simp [entryFrame, mkF, argsToLocals, Value.category, maxLocals]; done)) ?_
  refine GoKit.aloadN G d25_0 rfl rfl (pc' := 1) rfl ?_
  refine GoKit.aloadN G d25_1 rfl rfl (pc' := 2) rfl ?_
  refine GoKit.putf G d25_2 (wi hw 180 rfl) Via.refl O.2 O.1 (Or.inr ⟨(wi hw 181 rfl), rfl, rfl⟩) (wi hw 174 rfl) (ty := (.object "java/util/HashMap")) (by decide) rfl rfl (List.Mem.head _) (pc' := 5) rfl (fun h2 W1 => ?_)
  have F3 := (O.2).same W1
  refine GoKit.aloadN G d25_5 rfl rfl (pc' := 6) rfl ?_
  refine GoKit.callSpecial G d25_6 rfl (wi hw 182 rfl) (wi hw 183 rfl) (wi hw 186 rfl) (wi hw 187 rfl) (by decide) (owc := []) (W := 0) (argsL := []) (rest := []) (con_absset l hw) rfl (lenOf pd_0 rfl) rfl (by decide) (Nat.le_of_eq rfl) (by decide) (by decide) (by decide) (fun _ q => nomatch q) (cells' := 0) (slots' := 0) rfl rfl (pc' := 9) rfl (fun r4 h7 q5 K6 => ?_)
  obtain rfl := q5
  show Run _ _ _ _ _ _ _ _ _ _ _ _ _ _ _ _ _ _ _ _ _ (mkF m 9 #[.val (.ref a), .val (.ref q0)] [])
  refine GoKit.retVoid G d25_9 rfl (by decide) (by decide) ?_
  exact ⟨rfl, ⟨((O.1.wr W1).keep K6), (F3.keep K6 nin0)⟩⟩
theorem d63_0 : decode jdk_97_method_1_code 0 = .ok (.aload_n 0, 1) := by decide +kernel
theorem d63_1 : decode jdk_97_method_1_code 1 = .ok (.aload_n 1, 1) := by decide +kernel
theorem d63_2 : decode jdk_97_method_1_code 2 = .ok (.putfield 1, 3) := by decide +kernel
theorem d63_5 : decode jdk_97_method_1_code 5 = .ok (.aload_n 0, 1) := by decide +kernel
theorem d63_6 : decode jdk_97_method_1_code 6 = .ok (.invokespecial 7, 3) := by decide +kernel
theorem d63_9 : decode jdk_97_method_1_code 9 = .ok (.return_, 1) := by decide +kernel
theorem pn_java_util_HashMap_KeySet : plainName "java/util/HashMap$KeySet" = true := by first | (simp [plainName, overriddenIn]; done) | decide +kernel
abbrev rm_con_ksinit : Room := { frames := 3, cells := 0, slots := 0, locals := 36 }
set_option maxRecDepth 65536 in
set_option maxHeartbeats 40000000 in
theorem con_ksinit (l : Launch) {Z : State} {a0 : Array Value} (hw : ∀ d ∈ tables_1, d.before a0 Z = true) {n0 : Nat} {h0 : Heap} {a : Addr} {q0 : Addr} (O : Exa Z h0 a "java/util/HashMap$KeySet" ∧ Fld Z h0 a "java/util/HashMap$KeySet" "this$0" "Ljava/util/HashMap;" .null) :
    Con l Z false false ELs n0 (⟨"java/util/HashMap$KeySet", "<init>", "(Ljava/util/HashMap;)V"⟩ : MethodName) jdk_97_method_1_code 2 none rm_con_ksinit [] #[(.ref a), (.ref q0)] h0 [a] (fun v h => v = none ∧ Exa Z h a "java/util/HashMap$KeySet" ∧ Fld Z h a "java/util/HashMap$KeySet" "this$0" "Ljava/util/HashMap;" (.ref q0)) := by
  refine Con.intro (plainFor_of_name pn_java_util_HashMap_KeySet) (hELs hw) ?_
  intro p e s m below meth c hh G
  refine castRun (g' := mkF m 0 #[.val (.ref a), .val (.ref q0)] []) (by first | rfl | (simp [entryFrame, mkF, argsToLocals, Value.category, maxLocals]; done)) ?_
  refine GoKit.aloadN G d63_0 rfl rfl (pc' := 1) rfl ?_
  refine GoKit.aloadN G d63_1 rfl rfl (pc' := 2) rfl ?_
  refine GoKit.putf G d63_2 (wi hw 464 rfl) Via.refl O.2 O.1 (Or.inr ⟨(wi hw 465 rfl), rfl, rfl⟩) (wi hw 458 rfl) (ty := (.object "java/util/HashMap")) (by decide) rfl rfl (List.Mem.head _) (pc' := 5) rfl (fun h2 W1 => ?_)
  have F3 := (O.2).same W1
  refine GoKit.aloadN G d63_5 rfl rfl (pc' := 6) rfl ?_
  refine GoKit.callSpecial G d63_6 rfl (wi hw 466 rfl) (wi hw 183 rfl) (wi hw 186 rfl) (wi hw 187 rfl) (by decide) (owc := []) (W := 0) (argsL := []) (rest := []) (con_absset l hw) rfl (lenOf pd_0 rfl) rfl (by decide) (Nat.le_of_eq rfl) (by decide) (by decide) (by decide) (fun _ q => nomatch q) (cells' := 0) (slots' := 0) rfl rfl (pc' := 9) rfl (fun r4 h7 q5 K6 => ?_)
  obtain rfl := q5
  show Run _ _ _ _ _ _ _ _ _ _ _ _ _ _ _ _ _ _ _ _ _ (mkF m 9 #[.val (.ref a), .val (.ref q0)] [])
  refine GoKit.retVoid G d63_9 rfl (by decide) (by decide) ?_
  exact ⟨rfl, ⟨((O.1.wr W1).keep K6), (F3.keep K6 nin0)⟩⟩
theorem d32_0 : decode jdk_2738_method_1_code 0 = .ok (.aload_n 0, 1) := by decide +kernel
theorem d32_1 : decode jdk_2738_method_1_code 1 = .ok (.aload_n 1, 1) := by decide +kernel
theorem d32_2 : decode jdk_2738_method_1_code 2 = .ok (.putfield 1, 3) := by decide +kernel
theorem d32_5 : decode jdk_2738_method_1_code 5 = .ok (.aload_n 0, 1) := by decide +kernel
theorem d32_6 : decode jdk_2738_method_1_code 6 = .ok (.invokespecial 7, 3) := by decide +kernel
theorem d32_9 : decode jdk_2738_method_1_code 9 = .ok (.return_, 1) := by decide +kernel
theorem pn_java_util_TreeMap_EntrySet : plainName "java/util/TreeMap$EntrySet" = true := by first | (simp [plainName, overriddenIn]; done) | decide +kernel
abbrev rm_con_tesinit : Room := { frames := 3, cells := 0, slots := 0, locals := 36 }
set_option maxRecDepth 65536 in
set_option maxHeartbeats 40000000 in
theorem con_tesinit (l : Launch) {Z : State} {a0 : Array Value} (hw : ∀ d ∈ tables_1, d.before a0 Z = true) {n0 : Nat} {h0 : Heap} {a : Addr} {q0 : Addr} (O : Exa Z h0 a "java/util/TreeMap$EntrySet" ∧ Fld Z h0 a "java/util/TreeMap$EntrySet" "this$0" "Ljava/util/TreeMap;" .null) :
    Con l Z false false ELs n0 (⟨"java/util/TreeMap$EntrySet", "<init>", "(Ljava/util/TreeMap;)V"⟩ : MethodName) jdk_2738_method_1_code 2 none rm_con_tesinit [] #[(.ref a), (.ref q0)] h0 [a] (fun v h => v = none ∧ Exa Z h a "java/util/TreeMap$EntrySet" ∧ Fld Z h a "java/util/TreeMap$EntrySet" "this$0" "Ljava/util/TreeMap;" (.ref q0)) := by
  refine Con.intro (plainFor_of_name pn_java_util_TreeMap_EntrySet) (hELs hw) ?_
  intro p e s m below meth c hh G
  refine castRun (g' := mkF m 0 #[.val (.ref a), .val (.ref q0)] []) (by first | rfl | (simp [entryFrame, mkF, argsToLocals, Value.category, maxLocals]; done)) ?_
  refine GoKit.aloadN G d32_0 rfl rfl (pc' := 1) rfl ?_
  refine GoKit.aloadN G d32_1 rfl rfl (pc' := 2) rfl ?_
  refine GoKit.putf G d32_2 (wi hw 250 rfl) Via.refl O.2 O.1 (Or.inr ⟨(wi hw 251 rfl), rfl, rfl⟩) (wi hw 244 rfl) (ty := (.object "java/util/TreeMap")) (by decide) rfl rfl (List.Mem.head _) (pc' := 5) rfl (fun h2 W1 => ?_)
  have F3 := (O.2).same W1
  refine GoKit.aloadN G d32_5 rfl rfl (pc' := 6) rfl ?_
  refine GoKit.callSpecial G d32_6 rfl (wi hw 252 rfl) (wi hw 183 rfl) (wi hw 186 rfl) (wi hw 187 rfl) (by decide) (owc := []) (W := 0) (argsL := []) (rest := []) (con_absset l hw) rfl (lenOf pd_0 rfl) rfl (by decide) (Nat.le_of_eq rfl) (by decide) (by decide) (by decide) (fun _ q => nomatch q) (cells' := 0) (slots' := 0) rfl rfl (pc' := 9) rfl (fun r4 h7 q5 K6 => ?_)
  obtain rfl := q5
  show Run _ _ _ _ _ _ _ _ _ _ _ _ _ _ _ _ _ _ _ _ _ (mkF m 9 #[.val (.ref a), .val (.ref q0)] [])
  refine GoKit.retVoid G d32_9 rfl (by decide) (by decide) ?_
  exact ⟨rfl, ⟨((O.1.wr W1).keep K6), (F3.keep K6 nin0)⟩⟩
theorem d29_0 : decode jdk_99_method_1_code 0 = .ok (.aload_n 0, 1) := by decide +kernel
theorem d29_1 : decode jdk_99_method_1_code 1 = .ok (.aload_n 1, 1) := by decide +kernel
theorem d29_2 : decode jdk_99_method_1_code 2 = .ok (.putfield 1, 3) := by decide +kernel
theorem d29_5 : decode jdk_99_method_1_code 5 = .ok (.aload_n 0, 1) := by decide +kernel
theorem d29_6 : decode jdk_99_method_1_code 6 = .ok (.invokespecial 7, 3) := by decide +kernel
theorem d29_9 : decode jdk_99_method_1_code 9 = .ok (.aload_n 0, 1) := by decide +kernel
theorem d29_10 : decode jdk_99_method_1_code 10 = .ok (.aload_n 1, 1) := by decide +kernel
theorem d29_11 : decode jdk_99_method_1_code 11 = .ok (.getfield 13, 3) := by decide +kernel
theorem d29_14 : decode jdk_99_method_1_code 14 = .ok (.putfield 19, 3) := by decide +kernel
theorem d29_17 : decode jdk_99_method_1_code 17 = .ok (.aload_n 1, 1) := by decide +kernel
theorem d29_18 : decode jdk_99_method_1_code 18 = .ok (.getfield 22, 3) := by decide +kernel
theorem d29_21 : decode jdk_99_method_1_code 21 = .ok (.astore_n 2, 1) := by decide +kernel
theorem d29_22 : decode jdk_99_method_1_code 22 = .ok (.aload_n 0, 1) := by decide +kernel
theorem d29_23 : decode jdk_99_method_1_code 23 = .ok (.aload_n 0, 1) := by decide +kernel
theorem d29_24 : decode jdk_99_method_1_code 24 = .ok (.aconst_null, 1) := by decide +kernel
theorem d29_25 : decode jdk_99_method_1_code 25 = .ok (.dup_x1, 1) := by decide +kernel
theorem d29_26 : decode jdk_99_method_1_code 26 = .ok (.putfield 26, 3) := by decide +kernel
theorem d29_29 : decode jdk_99_method_1_code 29 = .ok (.putfield 30, 3) := by decide +kernel
theorem d29_32 : decode jdk_99_method_1_code 32 = .ok (.aload_n 0, 1) := by decide +kernel
theorem d29_33 : decode jdk_99_method_1_code 33 = .ok (.iconst 0, 1) := by decide +kernel
theorem d29_34 : decode jdk_99_method_1_code 34 = .ok (.putfield 33, 3) := by decide +kernel
theorem d29_37 : decode jdk_99_method_1_code 37 = .ok (.aload_n 2, 1) := by decide +kernel
theorem d29_38 : decode jdk_99_method_1_code 38 = .ok (.ifnull 40, 3) := by decide +kernel
theorem d29_78 : decode jdk_99_method_1_code 78 = .ok (.return_, 1) := by decide +kernel
theorem pn_java_util_HashMap_HashIterator : plainName "java/util/HashMap$HashIterator" = true := by first | (simp [plainName, overriddenIn]; done) | decide +kernel
abbrev rm_con_hiE : Room := { frames := 1, cells := 0, slots := 0, locals := 12 }
set_option maxRecDepth 65536 in
set_option maxHeartbeats 40000000 in
theorem con_hiE (l : Launch) {Z : State} {a0 : Array Value} (hw : ∀ d ∈ tables_1, d.before a0 Z = true) {n0 : Nat} {h0 : Heap} {a q0 : Addr} (O : Exa Z h0 a "java/util/HashMap$EntryIterator" ∧ Fld Z h0 a "java/util/HashMap$HashIterator" "this$0" "Ljava/util/HashMap;" .null ∧ Fld Z h0 a "java/util/HashMap$HashIterator" "expectedModCount" "I" (.int 0) ∧ Fld Z h0 a "java/util/HashMap$HashIterator" "next" "Ljava/util/HashMap$Node;" .null ∧ Fld Z h0 a "java/util/HashMap$HashIterator" "current" "Ljava/util/HashMap$Node;" .null ∧ Fld Z h0 a "java/util/HashMap$HashIterator" "index" "I" (.int 0)) (M : Exa Z h0 q0 "java/util/HashMap" ∧ Fld Z h0 q0 "java/util/HashMap" "modCount" "I" (.int 0) ∧ Fld Z h0 q0 "java/util/HashMap" "table" "[Ljava/util/HashMap$Node;" .null) :
    Con l Z false false ELs n0 (⟨"java/util/HashMap$HashIterator", "<init>", "(Ljava/util/HashMap;)V"⟩ : MethodName) jdk_99_method_1_code 3 none rm_con_hiE [] #[(.ref a), (.ref q0)] h0 [a] (fun v h => v = none ∧ Exa Z h a "java/util/HashMap$EntryIterator" ∧ Fld Z h a "java/util/HashMap$HashIterator" "this$0" "Ljava/util/HashMap;" (.ref q0) ∧ Fld Z h a "java/util/HashMap$HashIterator" "expectedModCount" "I" (.int 0) ∧ Fld Z h a "java/util/HashMap$HashIterator" "next" "Ljava/util/HashMap$Node;" .null ∧ Fld Z h a "java/util/HashMap$HashIterator" "current" "Ljava/util/HashMap$Node;" .null ∧ Fld Z h a "java/util/HashMap$HashIterator" "index" "I" (.int 0)) := by
  refine Con.intro (plainFor_of_name pn_java_util_HashMap_HashIterator) (hELs hw) ?_
  intro p e s m below meth c hh G
  refine castRun (g' := mkF m 0 #[.val (.ref a), .val (.ref q0), .unset] []) (by first | rfl | (simp [entryFrame, mkF, argsToLocals, Value.category, maxLocals]; done)) ?_
  refine GoKit.aloadN G d29_0 rfl rfl (pc' := 1) rfl ?_
  refine GoKit.aloadN G d29_1 rfl rfl (pc' := 2) rfl ?_
  refine GoKit.putf G d29_2 (wi hw 212 rfl) Via.refl O.2.1 O.1 (Or.inr ⟨(wi hw 213 rfl), rfl, rfl⟩) (wi hw 200 rfl) (ty := (.object "java/util/HashMap")) (by decide) rfl rfl (List.Mem.head _) (pc' := 5) rfl (fun h2 W1 => ?_)
  have F3 := (O.2.1).same W1
  refine GoKit.aloadN G d29_5 rfl rfl (pc' := 6) rfl ?_
  refine GoKit.initObj G d29_6 (wi hw 214 rfl) (wi hw 21 rfl) (wi hw 22 rfl) rfl (by decide) (W := 0) (Nat.le_of_eq rfl) (by decide) (pc' := 9) rfl ?_
  refine GoKit.aloadN G d29_9 rfl rfl (pc' := 10) rfl ?_
  refine GoKit.aloadN G d29_10 rfl rfl (pc' := 11) rfl ?_
  refine GoKit.getf G d29_11 (wi hw 215 rfl) Via.refl (M.2.1.other W1 (Or.inl (Exa.ne M.1 O.1 (by decide)))) (pc' := 14) rfl ?_
  refine GoKit.putf G d29_14 (wi hw 217 rfl) Via.refl (O.2.2.1.other W1 (Or.inr (slot_ne (Or.inl (wi hw 218 rfl)) (Or.inr (wi hw 213 rfl)) (by decide) (by decide : _ = some .int) (by decide : _ = some (.object "java/util/HashMap"))))) (O.1.wr W1) (Or.inl (wi hw 218 rfl)) (wi hw 200 rfl) (ty := .int) (by decide) rfl rfl (List.Mem.head _) (pc' := 17) rfl (fun h5 W4 => ?_)
  have F6 := ((O.2.2.1.other W1 (Or.inr (slot_ne (Or.inl (wi hw 218 rfl)) (Or.inr (wi hw 213 rfl)) (by decide) (by decide : _ = some .int) (by decide : _ = some (.object "java/util/HashMap")))))).same W4
  refine GoKit.aloadN G d29_17 rfl rfl (pc' := 18) rfl ?_
  refine GoKit.getf G d29_18 (wi hw 219 rfl) Via.refl ((M.2.2.other W1 (Or.inl (Exa.ne M.1 O.1 (by decide)))).other W4 (Or.inl (Exa.ne M.1 O.1 (by decide)))) (pc' := 21) rfl ?_
  refine GoKit.astoreN G d29_21 rfl (Ls' := #[.val (.ref a), .val (.ref q0), .val .null]) rfl (pc' := 22) rfl ?_
  refine GoKit.aloadN G d29_22 rfl rfl (pc' := 23) rfl ?_
  refine GoKit.aloadN G d29_23 rfl rfl (pc' := 24) rfl ?_
  refine GoKit.aconstNull G d29_24 (pc' := 25) rfl ?_
  refine GoKit.dupX1 G d29_25 rfl rfl (pc' := 26) rfl ?_
  refine GoKit.putf G d29_26 (wi hw 221 rfl) Via.refl ((O.2.2.2.1.other W1 (Or.inr (slot_ne (Or.inl (wi hw 222 rfl)) (Or.inr (wi hw 213 rfl)) (by decide) (by decide : _ = some (.object "java/util/HashMap$Node")) (by decide : _ = some (.object "java/util/HashMap"))))).other W4 (Or.inr (slot_ne (Or.inl (wi hw 222 rfl)) (Or.inl (wi hw 218 rfl)) (by decide) (by decide : _ = some (.object "java/util/HashMap$Node")) (by decide : _ = some .int)))) ((O.1.wr W1).wr W4) (Or.inl (wi hw 222 rfl)) (wi hw 200 rfl) (ty := (.object "java/util/HashMap$Node")) (by decide) rfl rfl (List.Mem.head _) (pc' := 29) rfl (fun h8 W7 => ?_)
  have F9 := (((O.2.2.2.1.other W1 (Or.inr (slot_ne (Or.inl (wi hw 222 rfl)) (Or.inr (wi hw 213 rfl)) (by decide) (by decide : _ = some (.object "java/util/HashMap$Node")) (by decide : _ = some (.object "java/util/HashMap"))))).other W4 (Or.inr (slot_ne (Or.inl (wi hw 222 rfl)) (Or.inl (wi hw 218 rfl)) (by decide) (by decide : _ = some (.object "java/util/HashMap$Node")) (by decide : _ = some .int))))).same W7
  refine GoKit.putf G d29_29 (wi hw 223 rfl) Via.refl (((O.2.2.2.2.1.other W1 (Or.inr (slot_ne (Or.inl (wi hw 224 rfl)) (Or.inr (wi hw 213 rfl)) (by decide) (by decide : _ = some (.object "java/util/HashMap$Node")) (by decide : _ = some (.object "java/util/HashMap"))))).other W4 (Or.inr (slot_ne (Or.inl (wi hw 224 rfl)) (Or.inl (wi hw 218 rfl)) (by decide) (by decide : _ = some (.object "java/util/HashMap$Node")) (by decide : _ = some .int)))).other W7 (Or.inr (slot_ne (Or.inl (wi hw 224 rfl)) (Or.inl (wi hw 222 rfl)) (by decide) (by decide : _ = some (.object "java/util/HashMap$Node")) (by decide : _ = some (.object "java/util/HashMap$Node"))))) (((O.1.wr W1).wr W4).wr W7) (Or.inl (wi hw 224 rfl)) (wi hw 200 rfl) (ty := (.object "java/util/HashMap$Node")) (by decide) rfl rfl (List.Mem.head _) (pc' := 32) rfl (fun h11 W10 => ?_)
  have F12 := ((((O.2.2.2.2.1.other W1 (Or.inr (slot_ne (Or.inl (wi hw 224 rfl)) (Or.inr (wi hw 213 rfl)) (by decide) (by decide : _ = some (.object "java/util/HashMap$Node")) (by decide : _ = some (.object "java/util/HashMap"))))).other W4 (Or.inr (slot_ne (Or.inl (wi hw 224 rfl)) (Or.inl (wi hw 218 rfl)) (by decide) (by decide : _ = some (.object "java/util/HashMap$Node")) (by decide : _ = some .int)))).other W7 (Or.inr (slot_ne (Or.inl (wi hw 224 rfl)) (Or.inl (wi hw 222 rfl)) (by decide) (by decide : _ = some (.object "java/util/HashMap$Node")) (by decide : _ = some (.object "java/util/HashMap$Node")))))).same W10
  refine GoKit.aloadN G d29_32 rfl rfl (pc' := 33) rfl ?_
  refine GoKit.iconst G (0 : Int32) d29_33 rfl (pc' := 34) rfl ?_
  refine GoKit.putf G d29_34 (wi hw 225 rfl) Via.refl ((((O.2.2.2.2.2.other W1 (Or.inr (slot_ne (Or.inl (wi hw 226 rfl)) (Or.inr (wi hw 213 rfl)) (by decide) (by decide : _ = some .int) (by decide : _ = some (.object "java/util/HashMap"))))).other W4 (Or.inr (slot_ne (Or.inl (wi hw 226 rfl)) (Or.inl (wi hw 218 rfl)) (by decide) (by decide : _ = some .int) (by decide : _ = some .int)))).other W7 (Or.inr (slot_ne (Or.inl (wi hw 226 rfl)) (Or.inl (wi hw 222 rfl)) (by decide) (by decide : _ = some .int) (by decide : _ = some (.object "java/util/HashMap$Node"))))).other W10 (Or.inr (slot_ne (Or.inl (wi hw 226 rfl)) (Or.inl (wi hw 224 rfl)) (by decide) (by decide : _ = some .int) (by decide : _ = some (.object "java/util/HashMap$Node"))))) ((((O.1.wr W1).wr W4).wr W7).wr W10) (Or.inl (wi hw 226 rfl)) (wi hw 200 rfl) (ty := .int) (by decide) rfl rfl (List.Mem.head _) (pc' := 37) rfl (fun h14 W13 => ?_)
  have F15 := (((((O.2.2.2.2.2.other W1 (Or.inr (slot_ne (Or.inl (wi hw 226 rfl)) (Or.inr (wi hw 213 rfl)) (by decide) (by decide : _ = some .int) (by decide : _ = some (.object "java/util/HashMap"))))).other W4 (Or.inr (slot_ne (Or.inl (wi hw 226 rfl)) (Or.inl (wi hw 218 rfl)) (by decide) (by decide : _ = some .int) (by decide : _ = some .int)))).other W7 (Or.inr (slot_ne (Or.inl (wi hw 226 rfl)) (Or.inl (wi hw 222 rfl)) (by decide) (by decide : _ = some .int) (by decide : _ = some (.object "java/util/HashMap$Node"))))).other W10 (Or.inr (slot_ne (Or.inl (wi hw 226 rfl)) (Or.inl (wi hw 224 rfl)) (by decide) (by decide : _ = some .int) (by decide : _ = some (.object "java/util/HashMap$Node")))))).same W13
  refine GoKit.aloadN G d29_37 rfl rfl (pc' := 38) rfl ?_
  refine GoKit.ifnull_t G d29_38 (by decide) (pc' := 78) rfl ?_
  refine GoKit.retVoid G d29_78 rfl (by decide) (by decide) ?_
  exact ⟨rfl, ⟨(((((O.1.wr W1).wr W4).wr W7).wr W10).wr W13), ((((F3.other W4 (Or.inr (slot_ne (Or.inr (wi hw 213 rfl)) (Or.inl (wi hw 218 rfl)) (by decide) (by decide : _ = some (.object "java/util/HashMap")) (by decide : _ = some .int)))).other W7 (Or.inr (slot_ne (Or.inr (wi hw 213 rfl)) (Or.inl (wi hw 222 rfl)) (by decide) (by decide : _ = some (.object "java/util/HashMap")) (by decide : _ = some (.object "java/util/HashMap$Node"))))).other W10 (Or.inr (slot_ne (Or.inr (wi hw 213 rfl)) (Or.inl (wi hw 224 rfl)) (by decide) (by decide : _ = some (.object "java/util/HashMap")) (by decide : _ = some (.object "java/util/HashMap$Node"))))).other W13 (Or.inr (slot_ne (Or.inr (wi hw 213 rfl)) (Or.inl (wi hw 226 rfl)) (by decide) (by decide : _ = some (.object "java/util/HashMap")) (by decide : _ = some .int)))), (((F6.other W7 (Or.inr (slot_ne (Or.inl (wi hw 218 rfl)) (Or.inl (wi hw 222 rfl)) (by decide) (by decide : _ = some .int) (by decide : _ = some (.object "java/util/HashMap$Node"))))).other W10 (Or.inr (slot_ne (Or.inl (wi hw 218 rfl)) (Or.inl (wi hw 224 rfl)) (by decide) (by decide : _ = some .int) (by decide : _ = some (.object "java/util/HashMap$Node"))))).other W13 (Or.inr (slot_ne (Or.inl (wi hw 218 rfl)) (Or.inl (wi hw 226 rfl)) (by decide) (by decide : _ = some .int) (by decide : _ = some .int)))), ((F9.other W10 (Or.inr (slot_ne (Or.inl (wi hw 222 rfl)) (Or.inl (wi hw 224 rfl)) (by decide) (by decide : _ = some (.object "java/util/HashMap$Node")) (by decide : _ = some (.object "java/util/HashMap$Node"))))).other W13 (Or.inr (slot_ne (Or.inl (wi hw 222 rfl)) (Or.inl (wi hw 226 rfl)) (by decide) (by decide : _ = some (.object "java/util/HashMap$Node")) (by decide : _ = some .int)))), (F12.other W13 (Or.inr (slot_ne (Or.inl (wi hw 224 rfl)) (Or.inl (wi hw 226 rfl)) (by decide) (by decide : _ = some (.object "java/util/HashMap$Node")) (by decide : _ = some .int)))), F15⟩⟩
theorem d28_0 : decode jdk_142_method_1_code 0 = .ok (.aload_n 0, 1) := by decide +kernel
theorem d28_1 : decode jdk_142_method_1_code 1 = .ok (.aload_n 1, 1) := by decide +kernel
theorem d28_2 : decode jdk_142_method_1_code 2 = .ok (.invokespecial 1, 3) := by decide +kernel
theorem pd_5 : parseMethodDescriptor "(Ljava/util/HashMap;)V" = some ⟨[(.object "java/util/HashMap")], none⟩ := by decide +kernel
theorem d28_5 : decode jdk_142_method_1_code 5 = .ok (.return_, 1) := by decide +kernel
theorem pn_java_util_HashMap_EntryIterator : plainName "java/util/HashMap$EntryIterator" = true := by first | (simp [plainName, overriddenIn]; done) | decide +kernel
abbrev rm_con_itE : Room := { frames := 2, cells := 0, slots := 0, locals := 26 }
set_option maxRecDepth 65536 in
set_option maxHeartbeats 40000000 in
theorem con_itE (l : Launch) {Z : State} {a0 : Array Value} (hw : ∀ d ∈ tables_1, d.before a0 Z = true) {n0 : Nat} {h0 : Heap} {a q0 : Addr} (O : Exa Z h0 a "java/util/HashMap$EntryIterator" ∧ Fld Z h0 a "java/util/HashMap$HashIterator" "this$0" "Ljava/util/HashMap;" .null ∧ Fld Z h0 a "java/util/HashMap$HashIterator" "expectedModCount" "I" (.int 0) ∧ Fld Z h0 a "java/util/HashMap$HashIterator" "next" "Ljava/util/HashMap$Node;" .null ∧ Fld Z h0 a "java/util/HashMap$HashIterator" "current" "Ljava/util/HashMap$Node;" .null ∧ Fld Z h0 a "java/util/HashMap$HashIterator" "index" "I" (.int 0)) (M : Exa Z h0 q0 "java/util/HashMap" ∧ Fld Z h0 q0 "java/util/HashMap" "modCount" "I" (.int 0) ∧ Fld Z h0 q0 "java/util/HashMap" "table" "[Ljava/util/HashMap$Node;" .null) :
    Con l Z false false ELs n0 (⟨"java/util/HashMap$EntryIterator", "<init>", "(Ljava/util/HashMap;)V"⟩ : MethodName) jdk_142_method_1_code 2 none rm_con_itE [] #[(.ref a), (.ref q0)] h0 [a] (fun v h => v = none ∧ Exa Z h a "java/util/HashMap$EntryIterator" ∧ Fld Z h a "java/util/HashMap$HashIterator" "this$0" "Ljava/util/HashMap;" (.ref q0) ∧ Fld Z h a "java/util/HashMap$HashIterator" "expectedModCount" "I" (.int 0) ∧ Fld Z h a "java/util/HashMap$HashIterator" "next" "Ljava/util/HashMap$Node;" .null ∧ Fld Z h a "java/util/HashMap$HashIterator" "current" "Ljava/util/HashMap$Node;" .null ∧ Fld Z h a "java/util/HashMap$HashIterator" "index" "I" (.int 0)) := by
  refine Con.intro (plainFor_of_name pn_java_util_HashMap_EntryIterator) (hELs hw) ?_
  intro p e s m below meth c hh G
  refine castRun (g' := mkF m 0 #[.val (.ref a), .val (.ref q0)] []) (by first | rfl | (simp [entryFrame, mkF, argsToLocals, Value.category, maxLocals]; done)) ?_
  refine GoKit.aloadN G d28_0 rfl rfl (pc' := 1) rfl ?_
  refine GoKit.aloadN G d28_1 rfl rfl (pc' := 2) rfl ?_
  refine GoKit.callSpecial G d28_2 rfl (wi hw 206 rfl) (wi hw 207 rfl) (wi hw 210 rfl) (wi hw 211 rfl) (by decide) (owc := [a]) (W := 0) (argsL := [(.ref q0)]) (rest := []) (con_hiE l hw ⟨O.1, O.2.1, O.2.2.1, O.2.2.2.1, O.2.2.2.2.1, O.2.2.2.2.2⟩ ⟨M.1, M.2.1, M.2.2⟩) rfl (lenOf pd_5 rfl) rfl (by decide) (Nat.le_of_eq rfl) (by decide) (by decide) (by decide) (List.forall_mem_cons.mpr ⟨(List.Mem.head _), (fun _ q => nomatch q)⟩) (cells' := 0) (slots' := 0) rfl rfl (pc' := 5) rfl (fun r1 h4 q2 K3 => ?_)
  obtain ⟨rfl, O5⟩ := q2
  show Run _ _ _ _ _ _ _ _ _ _ _ _ _ _ _ _ _ _ _ _ _ (mkF m 5 #[.val (.ref a), .val (.ref q0)] [])
  refine GoKit.retVoid G d28_5 rfl (by decide) (by decide) ?_
  exact ⟨rfl, ⟨O5.1, O5.2.1, O5.2.2.1, O5.2.2.2.1, O5.2.2.2.2.1, O5.2.2.2.2.2⟩⟩
theorem d27_0 : decode jdk_111_method_4_code 0 = .ok (.new 22, 3) := by decide +kernel
theorem d27_3 : decode jdk_111_method_4_code 3 = .ok (.dup, 1) := by decide +kernel
theorem d27_4 : decode jdk_111_method_4_code 4 = .ok (.aload_n 0, 1) := by decide +kernel
theorem d27_5 : decode jdk_111_method_4_code 5 = .ok (.getfield 1, 3) := by decide +kernel
theorem d27_8 : decode jdk_111_method_4_code 8 = .ok (.invokespecial 24, 3) := by decide +kernel
theorem d27_11 : decode jdk_111_method_4_code 11 = .ok (.areturn, 1) := by decide +kernel
abbrev rm_con_iterE : Room := { frames := 3, cells := 1, slots := 5, locals := 40 }
set_option maxRecDepth 65536 in
set_option maxHeartbeats 40000000 in
theorem con_iterE (l : Launch) {Z : State} {a0 : Array Value} (hw : ∀ d ∈ tables_1, d.before a0 Z = true) {n0 : Nat} {h0 : Heap} {b q0 : Addr} (O : Exa Z h0 b "java/util/HashMap$EntrySet" ∧ Fld Z h0 b "java/util/HashMap$EntrySet" "this$0" "Ljava/util/HashMap;" (.ref q0)) (M : Exa Z h0 q0 "java/util/HashMap" ∧ Fld Z h0 q0 "java/util/HashMap" "modCount" "I" (.int 0) ∧ Fld Z h0 q0 "java/util/HashMap" "table" "[Ljava/util/HashMap$Node;" .null) :
    Con l Z false false ELs n0 (⟨"java/util/HashMap$EntrySet", "iterator", "()Ljava/util/Iterator;"⟩ : MethodName) jdk_111_method_4_code 1 (some (.object "java/util/Iterator")) rm_con_iterE [] #[(.ref b)] h0 [] (fun v h => ∃ d, v = some (.ref d) ∧ Exa Z h d "java/util/HashMap$EntryIterator" ∧ Fld Z h d "java/util/HashMap$HashIterator" "this$0" "Ljava/util/HashMap;" (.ref q0) ∧ Fld Z h d "java/util/HashMap$HashIterator" "expectedModCount" "I" (.int 0) ∧ Fld Z h d "java/util/HashMap$HashIterator" "next" "Ljava/util/HashMap$Node;" .null ∧ Fld Z h d "java/util/HashMap$HashIterator" "current" "Ljava/util/HashMap$Node;" .null ∧ Fld Z h d "java/util/HashMap$HashIterator" "index" "I" (.int 0)) := by
  refine Con.intro (plainFor_of_name pn_java_util_HashMap_EntrySet) (hELs hw) ?_
  intro p e s m below meth c hh G
  refine castRun (g' := mkF m 0 #[.val (.ref b)] []) (by first | rfl | (simp [entryFrame, mkF, argsToLocals, Value.category, maxLocals]; done)) ?_
  refine GoKit.newobj G d27_0 (wi hw 199 rfl) (wi hw 200 rfl) (wi hw 201 rfl) (by decide) (by decide) (cells' := 1) (slots' := 5) rfl rfl (pc' := 3) rfl (fun h5 a1 ga1 E2 X3 D4 => ?_)
  have F6 : Fld Z h5 a1 "java/util/HashMap$HashIterator" "this$0" "Ljava/util/HashMap;" .null := D4 (Or.inr (wi hw 213 rfl)) (ty := (.object "java/util/HashMap")) (by decide)
  have F7 : Fld Z h5 a1 "java/util/HashMap$HashIterator" "expectedModCount" "I" (.int 0) := D4 (Or.inl (wi hw 218 rfl)) (ty := .int) (by decide)
  have F8 : Fld Z h5 a1 "java/util/HashMap$HashIterator" "next" "Ljava/util/HashMap$Node;" .null := D4 (Or.inl (wi hw 222 rfl)) (ty := (.object "java/util/HashMap$Node")) (by decide)
  have F9 : Fld Z h5 a1 "java/util/HashMap$HashIterator" "current" "Ljava/util/HashMap$Node;" .null := D4 (Or.inl (wi hw 224 rfl)) (ty := (.object "java/util/HashMap$Node")) (by decide)
  have F10 : Fld Z h5 a1 "java/util/HashMap$HashIterator" "index" "I" (.int 0) := D4 (Or.inl (wi hw 226 rfl)) (ty := .int) (by decide)
  refine GoKit.dup G d27_3 rfl (pc' := 4) rfl ?_
  refine GoKit.aloadN G d27_4 rfl rfl (pc' := 5) rfl ?_
  refine GoKit.getf G d27_5 (wi hw 180 rfl) Via.refl (O.2.ext E2) (pc' := 8) rfl ?_
  refine GoKit.callSpecial G d27_8 rfl (wi hw 202 rfl) (wi hw 203 rfl) (wi hw 201 rfl) (wi hw 205 rfl) (by decide) (owc := [a1]) (W := 1) (argsL := [(.ref q0)]) (rest := [(.ref a1)]) (con_itE l hw ⟨X3, F6, F7, F8, F9, F10⟩ ⟨(M.1.ext E2), (M.2.1.ext E2), (M.2.2.ext E2)⟩) rfl (lenOf pd_5 rfl) rfl (by decide) (Nat.le_of_eq rfl) (by decide) (by decide) (by decide) (List.forall_mem_cons.mpr ⟨(List.Mem.head _), (fun _ q => nomatch q)⟩) (cells' := 1) (slots' := 5) rfl rfl (pc' := 11) rfl (fun r11 h14 q12 K13 => ?_)
  obtain ⟨rfl, O15⟩ := q12
  show Run _ _ _ _ _ _ _ _ _ _ _ _ _ _ _ _ _ _ _ _ _ (mkF m 11 #[.val (.ref b)] [(.ref a1)])
  refine GoKit.retRef G rfl d27_11 rfl rfl rfl (by decide) (by decide) ?_
  exact ⟨_, rfl, ⟨O15.1, O15.2.1, O15.2.2.1, O15.2.2.2.1, O15.2.2.2.2.1, O15.2.2.2.2.2⟩⟩
abbrev rm_con_hiK : Room := { frames := 1, cells := 0, slots := 0, locals := 12 }
set_option maxRecDepth 65536 in
set_option maxHeartbeats 40000000 in
theorem con_hiK (l : Launch) {Z : State} {a0 : Array Value} (hw : ∀ d ∈ tables_1, d.before a0 Z = true) {n0 : Nat} {h0 : Heap} {a q0 : Addr} (O : Exa Z h0 a "java/util/HashMap$KeyIterator" ∧ Fld Z h0 a "java/util/HashMap$HashIterator" "this$0" "Ljava/util/HashMap;" .null ∧ Fld Z h0 a "java/util/HashMap$HashIterator" "expectedModCount" "I" (.int 0) ∧ Fld Z h0 a "java/util/HashMap$HashIterator" "next" "Ljava/util/HashMap$Node;" .null ∧ Fld Z h0 a "java/util/HashMap$HashIterator" "current" "Ljava/util/HashMap$Node;" .null ∧ Fld Z h0 a "java/util/HashMap$HashIterator" "index" "I" (.int 0)) (M : Exa Z h0 q0 "java/util/HashMap" ∧ Fld Z h0 q0 "java/util/HashMap" "modCount" "I" (.int 0) ∧ Fld Z h0 q0 "java/util/HashMap" "table" "[Ljava/util/HashMap$Node;" .null) :
    Con l Z false false ELs n0 (⟨"java/util/HashMap$HashIterator", "<init>", "(Ljava/util/HashMap;)V"⟩ : MethodName) jdk_99_method_1_code 3 none rm_con_hiK [] #[(.ref a), (.ref q0)] h0 [a] (fun v h => v = none ∧ Exa Z h a "java/util/HashMap$KeyIterator" ∧ Fld Z h a "java/util/HashMap$HashIterator" "this$0" "Ljava/util/HashMap;" (.ref q0) ∧ Fld Z h a "java/util/HashMap$HashIterator" "expectedModCount" "I" (.int 0) ∧ Fld Z h a "java/util/HashMap$HashIterator" "next" "Ljava/util/HashMap$Node;" .null ∧ Fld Z h a "java/util/HashMap$HashIterator" "current" "Ljava/util/HashMap$Node;" .null ∧ Fld Z h a "java/util/HashMap$HashIterator" "index" "I" (.int 0)) := by
  refine Con.intro (plainFor_of_name pn_java_util_HashMap_HashIterator) (hELs hw) ?_
  intro p e s m below meth c hh G
  refine castRun (g' := mkF m 0 #[.val (.ref a), .val (.ref q0), .unset] []) (by first | rfl | (simp [entryFrame, mkF, argsToLocals, Value.category, maxLocals]; done)) ?_
  refine GoKit.aloadN G d29_0 rfl rfl (pc' := 1) rfl ?_
  refine GoKit.aloadN G d29_1 rfl rfl (pc' := 2) rfl ?_
  refine GoKit.putf G d29_2 (wi hw 212 rfl) Via.refl O.2.1 O.1 (Or.inr ⟨(wi hw 496 rfl), rfl, rfl⟩) (wi hw 488 rfl) (ty := (.object "java/util/HashMap")) (by decide) rfl rfl (List.Mem.head _) (pc' := 5) rfl (fun h2 W1 => ?_)
  have F3 := (O.2.1).same W1
  refine GoKit.aloadN G d29_5 rfl rfl (pc' := 6) rfl ?_
  refine GoKit.initObj G d29_6 (wi hw 214 rfl) (wi hw 21 rfl) (wi hw 22 rfl) rfl (by decide) (W := 0) (Nat.le_of_eq rfl) (by decide) (pc' := 9) rfl ?_
  refine GoKit.aloadN G d29_9 rfl rfl (pc' := 10) rfl ?_
  refine GoKit.aloadN G d29_10 rfl rfl (pc' := 11) rfl ?_
  refine GoKit.getf G d29_11 (wi hw 215 rfl) Via.refl (M.2.1.other W1 (Or.inl (Exa.ne M.1 O.1 (by decide)))) (pc' := 14) rfl ?_
  refine GoKit.putf G d29_14 (wi hw 217 rfl) Via.refl (O.2.2.1.other W1 (Or.inr (slot_ne (Or.inl (wi hw 497 rfl)) (Or.inr (wi hw 496 rfl)) (by decide) (by decide : _ = some .int) (by decide : _ = some (.object "java/util/HashMap"))))) (O.1.wr W1) (Or.inl (wi hw 497 rfl)) (wi hw 488 rfl) (ty := .int) (by decide) rfl rfl (List.Mem.head _) (pc' := 17) rfl (fun h5 W4 => ?_)
  have F6 := ((O.2.2.1.other W1 (Or.inr (slot_ne (Or.inl (wi hw 497 rfl)) (Or.inr (wi hw 496 rfl)) (by decide) (by decide : _ = some .int) (by decide : _ = some (.object "java/util/HashMap")))))).same W4
  refine GoKit.aloadN G d29_17 rfl rfl (pc' := 18) rfl ?_
  refine GoKit.getf G d29_18 (wi hw 219 rfl) Via.refl ((M.2.2.other W1 (Or.inl (Exa.ne M.1 O.1 (by decide)))).other W4 (Or.inl (Exa.ne M.1 O.1 (by decide)))) (pc' := 21) rfl ?_
  refine GoKit.astoreN G d29_21 rfl (Ls' := #[.val (.ref a), .val (.ref q0), .val .null]) rfl (pc' := 22) rfl ?_
  refine GoKit.aloadN G d29_22 rfl rfl (pc' := 23) rfl ?_
  refine GoKit.aloadN G d29_23 rfl rfl (pc' := 24) rfl ?_
  refine GoKit.aconstNull G d29_24 (pc' := 25) rfl ?_
  refine GoKit.dupX1 G d29_25 rfl rfl (pc' := 26) rfl ?_
  refine GoKit.putf G d29_26 (wi hw 221 rfl) Via.refl ((O.2.2.2.1.other W1 (Or.inr (slot_ne (Or.inl (wi hw 498 rfl)) (Or.inr (wi hw 496 rfl)) (by decide) (by decide : _ = some (.object "java/util/HashMap$Node")) (by decide : _ = some (.object "java/util/HashMap"))))).other W4 (Or.inr (slot_ne (Or.inl (wi hw 498 rfl)) (Or.inl (wi hw 497 rfl)) (by decide) (by decide : _ = some (.object "java/util/HashMap$Node")) (by decide : _ = some .int)))) ((O.1.wr W1).wr W4) (Or.inl (wi hw 498 rfl)) (wi hw 488 rfl) (ty := (.object "java/util/HashMap$Node")) (by decide) rfl rfl (List.Mem.head _) (pc' := 29) rfl (fun h8 W7 => ?_)
  have F9 := (((O.2.2.2.1.other W1 (Or.inr (slot_ne (Or.inl (wi hw 498 rfl)) (Or.inr (wi hw 496 rfl)) (by decide) (by decide : _ = some (.object "java/util/HashMap$Node")) (by decide : _ = some (.object "java/util/HashMap"))))).other W4 (Or.inr (slot_ne (Or.inl (wi hw 498 rfl)) (Or.inl (wi hw 497 rfl)) (by decide) (by decide : _ = some (.object "java/util/HashMap$Node")) (by decide : _ = some .int))))).same W7
  refine GoKit.putf G d29_29 (wi hw 223 rfl) Via.refl (((O.2.2.2.2.1.other W1 (Or.inr (slot_ne (Or.inl (wi hw 499 rfl)) (Or.inr (wi hw 496 rfl)) (by decide) (by decide : _ = some (.object "java/util/HashMap$Node")) (by decide : _ = some (.object "java/util/HashMap"))))).other W4 (Or.inr (slot_ne (Or.inl (wi hw 499 rfl)) (Or.inl (wi hw 497 rfl)) (by decide) (by decide : _ = some (.object "java/util/HashMap$Node")) (by decide : _ = some .int)))).other W7 (Or.inr (slot_ne (Or.inl (wi hw 499 rfl)) (Or.inl (wi hw 498 rfl)) (by decide) (by decide : _ = some (.object "java/util/HashMap$Node")) (by decide : _ = some (.object "java/util/HashMap$Node"))))) (((O.1.wr W1).wr W4).wr W7) (Or.inl (wi hw 499 rfl)) (wi hw 488 rfl) (ty := (.object "java/util/HashMap$Node")) (by decide) rfl rfl (List.Mem.head _) (pc' := 32) rfl (fun h11 W10 => ?_)
  have F12 := ((((O.2.2.2.2.1.other W1 (Or.inr (slot_ne (Or.inl (wi hw 499 rfl)) (Or.inr (wi hw 496 rfl)) (by decide) (by decide : _ = some (.object "java/util/HashMap$Node")) (by decide : _ = some (.object "java/util/HashMap"))))).other W4 (Or.inr (slot_ne (Or.inl (wi hw 499 rfl)) (Or.inl (wi hw 497 rfl)) (by decide) (by decide : _ = some (.object "java/util/HashMap$Node")) (by decide : _ = some .int)))).other W7 (Or.inr (slot_ne (Or.inl (wi hw 499 rfl)) (Or.inl (wi hw 498 rfl)) (by decide) (by decide : _ = some (.object "java/util/HashMap$Node")) (by decide : _ = some (.object "java/util/HashMap$Node")))))).same W10
  refine GoKit.aloadN G d29_32 rfl rfl (pc' := 33) rfl ?_
  refine GoKit.iconst G (0 : Int32) d29_33 rfl (pc' := 34) rfl ?_
  refine GoKit.putf G d29_34 (wi hw 225 rfl) Via.refl ((((O.2.2.2.2.2.other W1 (Or.inr (slot_ne (Or.inl (wi hw 500 rfl)) (Or.inr (wi hw 496 rfl)) (by decide) (by decide : _ = some .int) (by decide : _ = some (.object "java/util/HashMap"))))).other W4 (Or.inr (slot_ne (Or.inl (wi hw 500 rfl)) (Or.inl (wi hw 497 rfl)) (by decide) (by decide : _ = some .int) (by decide : _ = some .int)))).other W7 (Or.inr (slot_ne (Or.inl (wi hw 500 rfl)) (Or.inl (wi hw 498 rfl)) (by decide) (by decide : _ = some .int) (by decide : _ = some (.object "java/util/HashMap$Node"))))).other W10 (Or.inr (slot_ne (Or.inl (wi hw 500 rfl)) (Or.inl (wi hw 499 rfl)) (by decide) (by decide : _ = some .int) (by decide : _ = some (.object "java/util/HashMap$Node"))))) ((((O.1.wr W1).wr W4).wr W7).wr W10) (Or.inl (wi hw 500 rfl)) (wi hw 488 rfl) (ty := .int) (by decide) rfl rfl (List.Mem.head _) (pc' := 37) rfl (fun h14 W13 => ?_)
  have F15 := (((((O.2.2.2.2.2.other W1 (Or.inr (slot_ne (Or.inl (wi hw 500 rfl)) (Or.inr (wi hw 496 rfl)) (by decide) (by decide : _ = some .int) (by decide : _ = some (.object "java/util/HashMap"))))).other W4 (Or.inr (slot_ne (Or.inl (wi hw 500 rfl)) (Or.inl (wi hw 497 rfl)) (by decide) (by decide : _ = some .int) (by decide : _ = some .int)))).other W7 (Or.inr (slot_ne (Or.inl (wi hw 500 rfl)) (Or.inl (wi hw 498 rfl)) (by decide) (by decide : _ = some .int) (by decide : _ = some (.object "java/util/HashMap$Node"))))).other W10 (Or.inr (slot_ne (Or.inl (wi hw 500 rfl)) (Or.inl (wi hw 499 rfl)) (by decide) (by decide : _ = some .int) (by decide : _ = some (.object "java/util/HashMap$Node")))))).same W13
  refine GoKit.aloadN G d29_37 rfl rfl (pc' := 38) rfl ?_
  refine GoKit.ifnull_t G d29_38 (by decide) (pc' := 78) rfl ?_
  refine GoKit.retVoid G d29_78 rfl (by decide) (by decide) ?_
  exact ⟨rfl, ⟨(((((O.1.wr W1).wr W4).wr W7).wr W10).wr W13), ((((F3.other W4 (Or.inr (slot_ne (Or.inr (wi hw 496 rfl)) (Or.inl (wi hw 497 rfl)) (by decide) (by decide : _ = some (.object "java/util/HashMap")) (by decide : _ = some .int)))).other W7 (Or.inr (slot_ne (Or.inr (wi hw 496 rfl)) (Or.inl (wi hw 498 rfl)) (by decide) (by decide : _ = some (.object "java/util/HashMap")) (by decide : _ = some (.object "java/util/HashMap$Node"))))).other W10 (Or.inr (slot_ne (Or.inr (wi hw 496 rfl)) (Or.inl (wi hw 499 rfl)) (by decide) (by decide : _ = some (.object "java/util/HashMap")) (by decide : _ = some (.object "java/util/HashMap$Node"))))).other W13 (Or.inr (slot_ne (Or.inr (wi hw 496 rfl)) (Or.inl (wi hw 500 rfl)) (by decide) (by decide : _ = some (.object "java/util/HashMap")) (by decide : _ = some .int)))), (((F6.other W7 (Or.inr (slot_ne (Or.inl (wi hw 497 rfl)) (Or.inl (wi hw 498 rfl)) (by decide) (by decide : _ = some .int) (by decide : _ = some (.object "java/util/HashMap$Node"))))).other W10 (Or.inr (slot_ne (Or.inl (wi hw 497 rfl)) (Or.inl (wi hw 499 rfl)) (by decide) (by decide : _ = some .int) (by decide : _ = some (.object "java/util/HashMap$Node"))))).other W13 (Or.inr (slot_ne (Or.inl (wi hw 497 rfl)) (Or.inl (wi hw 500 rfl)) (by decide) (by decide : _ = some .int) (by decide : _ = some .int)))), ((F9.other W10 (Or.inr (slot_ne (Or.inl (wi hw 498 rfl)) (Or.inl (wi hw 499 rfl)) (by decide) (by decide : _ = some (.object "java/util/HashMap$Node")) (by decide : _ = some (.object "java/util/HashMap$Node"))))).other W13 (Or.inr (slot_ne (Or.inl (wi hw 498 rfl)) (Or.inl (wi hw 500 rfl)) (by decide) (by decide : _ = some (.object "java/util/HashMap$Node")) (by decide : _ = some .int)))), (F12.other W13 (Or.inr (slot_ne (Or.inl (wi hw 499 rfl)) (Or.inl (wi hw 500 rfl)) (by decide) (by decide : _ = some (.object "java/util/HashMap$Node")) (by decide : _ = some .int)))), F15⟩⟩
theorem d67_0 : decode jdk_98_method_1_code 0 = .ok (.aload_n 0, 1) := by decide +kernel
theorem d67_1 : decode jdk_98_method_1_code 1 = .ok (.aload_n 1, 1) := by decide +kernel
theorem d67_2 : decode jdk_98_method_1_code 2 = .ok (.invokespecial 1, 3) := by decide +kernel
theorem d67_5 : decode jdk_98_method_1_code 5 = .ok (.return_, 1) := by decide +kernel
theorem pn_java_util_HashMap_KeyIterator : plainName "java/util/HashMap$KeyIterator" = true := by first | (simp [plainName, overriddenIn]; done) | decide +kernel
abbrev rm_con_itK : Room := { frames := 2, cells := 0, slots := 0, locals := 26 }
set_option maxRecDepth 65536 in
set_option maxHeartbeats 40000000 in
theorem con_itK (l : Launch) {Z : State} {a0 : Array Value} (hw : ∀ d ∈ tables_1, d.before a0 Z = true) {n0 : Nat} {h0 : Heap} {a q0 : Addr} (O : Exa Z h0 a "java/util/HashMap$KeyIterator" ∧ Fld Z h0 a "java/util/HashMap$HashIterator" "this$0" "Ljava/util/HashMap;" .null ∧ Fld Z h0 a "java/util/HashMap$HashIterator" "expectedModCount" "I" (.int 0) ∧ Fld Z h0 a "java/util/HashMap$HashIterator" "next" "Ljava/util/HashMap$Node;" .null ∧ Fld Z h0 a "java/util/HashMap$HashIterator" "current" "Ljava/util/HashMap$Node;" .null ∧ Fld Z h0 a "java/util/HashMap$HashIterator" "index" "I" (.int 0)) (M : Exa Z h0 q0 "java/util/HashMap" ∧ Fld Z h0 q0 "java/util/HashMap" "modCount" "I" (.int 0) ∧ Fld Z h0 q0 "java/util/HashMap" "table" "[Ljava/util/HashMap$Node;" .null) :
    Con l Z false false ELs n0 (⟨"java/util/HashMap$KeyIterator", "<init>", "(Ljava/util/HashMap;)V"⟩ : MethodName) jdk_98_method_1_code 2 none rm_con_itK [] #[(.ref a), (.ref q0)] h0 [a] (fun v h => v = none ∧ Exa Z h a "java/util/HashMap$KeyIterator" ∧ Fld Z h a "java/util/HashMap$HashIterator" "this$0" "Ljava/util/HashMap;" (.ref q0) ∧ Fld Z h a "java/util/HashMap$HashIterator" "expectedModCount" "I" (.int 0) ∧ Fld Z h a "java/util/HashMap$HashIterator" "next" "Ljava/util/HashMap$Node;" .null ∧ Fld Z h a "java/util/HashMap$HashIterator" "current" "Ljava/util/HashMap$Node;" .null ∧ Fld Z h a "java/util/HashMap$HashIterator" "index" "I" (.int 0)) := by
  refine Con.intro (plainFor_of_name pn_java_util_HashMap_KeyIterator) (hELs hw) ?_
  intro p e s m below meth c hh G
  refine castRun (g' := mkF m 0 #[.val (.ref a), .val (.ref q0)] []) (by first | rfl | (simp [entryFrame, mkF, argsToLocals, Value.category, maxLocals]; done)) ?_
  refine GoKit.aloadN G d67_0 rfl rfl (pc' := 1) rfl ?_
  refine GoKit.aloadN G d67_1 rfl rfl (pc' := 2) rfl ?_
  refine GoKit.callSpecial G d67_2 rfl (wi hw 494 rfl) (wi hw 207 rfl) (wi hw 210 rfl) (wi hw 211 rfl) (by decide) (owc := [a]) (W := 0) (argsL := [(.ref q0)]) (rest := []) (con_hiK l hw ⟨O.1, O.2.1, O.2.2.1, O.2.2.2.1, O.2.2.2.2.1, O.2.2.2.2.2⟩ ⟨M.1, M.2.1, M.2.2⟩) rfl (lenOf pd_5 rfl) rfl (by decide) (Nat.le_of_eq rfl) (by decide) (by decide) (by decide) (List.forall_mem_cons.mpr ⟨(List.Mem.head _), (fun _ q => nomatch q)⟩) (cells' := 0) (slots' := 0) rfl rfl (pc' := 5) rfl (fun r1 h4 q2 K3 => ?_)
  obtain ⟨rfl, O5⟩ := q2
  show Run _ _ _ _ _ _ _ _ _ _ _ _ _ _ _ _ _ _ _ _ _ (mkF m 5 #[.val (.ref a), .val (.ref q0)] [])
  refine GoKit.retVoid G d67_5 rfl (by decide) (by decide) ?_
  exact ⟨rfl, ⟨O5.1, O5.2.1, O5.2.2.1, O5.2.2.2.1, O5.2.2.2.2.1, O5.2.2.2.2.2⟩⟩
theorem d66_0 : decode jdk_97_method_4_code 0 = .ok (.new 22, 3) := by decide +kernel
theorem d66_3 : decode jdk_97_method_4_code 3 = .ok (.dup, 1) := by decide +kernel
theorem d66_4 : decode jdk_97_method_4_code 4 = .ok (.aload_n 0, 1) := by decide +kernel
theorem d66_5 : decode jdk_97_method_4_code 5 = .ok (.getfield 1, 3) := by decide +kernel
theorem d66_8 : decode jdk_97_method_4_code 8 = .ok (.invokespecial 24, 3) := by decide +kernel
theorem d66_11 : decode jdk_97_method_4_code 11 = .ok (.areturn, 1) := by decide +kernel
abbrev rm_con_iterK : Room := { frames := 3, cells := 1, slots := 5, locals := 40 }
set_option maxRecDepth 65536 in
set_option maxHeartbeats 40000000 in
theorem con_iterK (l : Launch) {Z : State} {a0 : Array Value} (hw : ∀ d ∈ tables_1, d.before a0 Z = true) {n0 : Nat} {h0 : Heap} {b q0 : Addr} (O : Exa Z h0 b "java/util/HashMap$KeySet" ∧ Fld Z h0 b "java/util/HashMap$KeySet" "this$0" "Ljava/util/HashMap;" (.ref q0)) (M : Exa Z h0 q0 "java/util/HashMap" ∧ Fld Z h0 q0 "java/util/HashMap" "modCount" "I" (.int 0) ∧ Fld Z h0 q0 "java/util/HashMap" "table" "[Ljava/util/HashMap$Node;" .null) :
    Con l Z false false ELs n0 (⟨"java/util/HashMap$KeySet", "iterator", "()Ljava/util/Iterator;"⟩ : MethodName) jdk_97_method_4_code 1 (some (.object "java/util/Iterator")) rm_con_iterK [] #[(.ref b)] h0 [] (fun v h => ∃ d, v = some (.ref d) ∧ Exa Z h d "java/util/HashMap$KeyIterator" ∧ Fld Z h d "java/util/HashMap$HashIterator" "this$0" "Ljava/util/HashMap;" (.ref q0) ∧ Fld Z h d "java/util/HashMap$HashIterator" "expectedModCount" "I" (.int 0) ∧ Fld Z h d "java/util/HashMap$HashIterator" "next" "Ljava/util/HashMap$Node;" .null ∧ Fld Z h d "java/util/HashMap$HashIterator" "current" "Ljava/util/HashMap$Node;" .null ∧ Fld Z h d "java/util/HashMap$HashIterator" "index" "I" (.int 0)) := by
  refine Con.intro (plainFor_of_name pn_java_util_HashMap_KeySet) (hELs hw) ?_
  intro p e s m below meth c hh G
  refine castRun (g' := mkF m 0 #[.val (.ref b)] []) (by first | rfl | (simp [entryFrame, mkF, argsToLocals, Value.category, maxLocals]; done)) ?_
  refine GoKit.newobj G d66_0 (wi hw 487 rfl) (wi hw 488 rfl) (wi hw 489 rfl) (by decide) (by decide) (cells' := 1) (slots' := 5) rfl rfl (pc' := 3) rfl (fun h5 a1 ga1 E2 X3 D4 => ?_)
  have F6 : Fld Z h5 a1 "java/util/HashMap$HashIterator" "this$0" "Ljava/util/HashMap;" .null := D4 (Or.inr (wi hw 496 rfl)) (ty := (.object "java/util/HashMap")) (by decide)
  have F7 : Fld Z h5 a1 "java/util/HashMap$HashIterator" "expectedModCount" "I" (.int 0) := D4 (Or.inl (wi hw 497 rfl)) (ty := .int) (by decide)
  have F8 : Fld Z h5 a1 "java/util/HashMap$HashIterator" "next" "Ljava/util/HashMap$Node;" .null := D4 (Or.inl (wi hw 498 rfl)) (ty := (.object "java/util/HashMap$Node")) (by decide)
  have F9 : Fld Z h5 a1 "java/util/HashMap$HashIterator" "current" "Ljava/util/HashMap$Node;" .null := D4 (Or.inl (wi hw 499 rfl)) (ty := (.object "java/util/HashMap$Node")) (by decide)
  have F10 : Fld Z h5 a1 "java/util/HashMap$HashIterator" "index" "I" (.int 0) := D4 (Or.inl (wi hw 500 rfl)) (ty := .int) (by decide)
  refine GoKit.dup G d66_3 rfl (pc' := 4) rfl ?_
  refine GoKit.aloadN G d66_4 rfl rfl (pc' := 5) rfl ?_
  refine GoKit.getf G d66_5 (wi hw 464 rfl) Via.refl (O.2.ext E2) (pc' := 8) rfl ?_
  refine GoKit.callSpecial G d66_8 rfl (wi hw 490 rfl) (wi hw 491 rfl) (wi hw 489 rfl) (wi hw 493 rfl) (by decide) (owc := [a1]) (W := 1) (argsL := [(.ref q0)]) (rest := [(.ref a1)]) (con_itK l hw ⟨X3, F6, F7, F8, F9, F10⟩ ⟨(M.1.ext E2), (M.2.1.ext E2), (M.2.2.ext E2)⟩) rfl (lenOf pd_5 rfl) rfl (by decide) (Nat.le_of_eq rfl) (by decide) (by decide) (by decide) (List.forall_mem_cons.mpr ⟨(List.Mem.head _), (fun _ q => nomatch q)⟩) (cells' := 1) (slots' := 5) rfl rfl (pc' := 11) rfl (fun r11 h14 q12 K13 => ?_)
  obtain ⟨rfl, O15⟩ := q12
  show Run _ _ _ _ _ _ _ _ _ _ _ _ _ _ _ _ _ _ _ _ _ (mkF m 11 #[.val (.ref b)] [(.ref a1)])
  refine GoKit.retRef G rfl d66_11 rfl rfl rfl (by decide) (by decide) ?_
  exact ⟨_, rfl, ⟨O15.1, O15.2.1, O15.2.2.1, O15.2.2.2.1, O15.2.2.2.2.1, O15.2.2.2.2.2⟩⟩
theorem d30_0 : decode jdk_99_method_2_code 0 = .ok (.aload_n 0, 1) := by decide +kernel
theorem d30_1 : decode jdk_99_method_2_code 1 = .ok (.getfield 26, 3) := by decide +kernel
theorem d30_4 : decode jdk_99_method_2_code 4 = .ok (.ifnull 7, 3) := by decide +kernel
theorem d30_11 : decode jdk_99_method_2_code 11 = .ok (.iconst 0, 1) := by decide +kernel
theorem d30_12 : decode jdk_99_method_2_code 12 = .ok (.ireturn, 1) := by decide +kernel
abbrev rm_con_hasnext : Room := { frames := 0, cells := 0, slots := 0, locals := 0 }
set_option maxRecDepth 65536 in
set_option maxHeartbeats 40000000 in
theorem con_hasnext (l : Launch) {Z : State} {a0 : Array Value} (hw : ∀ d ∈ tables_1, d.before a0 Z = true) {n0 : Nat} {h0 : Heap} {a : Addr} (F : Fld Z h0 a "java/util/HashMap$HashIterator" "next" "Ljava/util/HashMap$Node;" .null) :
    Con l Z false false ELs n0 (⟨"java/util/HashMap$HashIterator", "hasNext", "()Z"⟩ : MethodName) jdk_99_method_2_code 1 (some .boolean) rm_con_hasnext [] #[(.ref a)] h0 [] (fun v h => v = some (.int 0) ∧ h = h0) := by
  refine Con.intro (plainFor_of_name pn_java_util_HashMap_HashIterator) (hELs hw) ?_
  intro p e s m below meth c hh G
  refine castRun (g' := mkF m 0 #[.val (.ref a)] []) (by first | rfl | (simp [entryFrame, mkF, argsToLocals, Value.category, maxLocals]; done)) ?_
  refine GoKit.aloadN G d30_0 rfl rfl (pc' := 1) rfl ?_
  refine GoKit.getf G d30_1 (wi hw 221 rfl) Via.refl F (pc' := 4) rfl ?_
  refine GoKit.ifnull_t G d30_4 (by decide) (pc' := 11) rfl ?_
  refine GoKit.iconst G (0 : Int32) d30_11 rfl (pc' := 12) rfl ?_
  refine GoKit.retNar G d30_12 (t := .boolean) rfl (by simp) (by decide) (by decide) ?_
  exact ⟨rfl, rfl⟩
theorem d22_0 : decode jdk_69_method_10_code 0 = .ok (.aload_n 0, 1) := by decide +kernel
theorem d22_1 : decode jdk_69_method_10_code 1 = .ok (.getfield 156, 3) := by decide +kernel
theorem d22_4 : decode jdk_69_method_10_code 4 = .ok (.ireturn, 1) := by decide +kernel
abbrev rm_con_hmsize : Room := { frames := 0, cells := 0, slots := 0, locals := 0 }
set_option maxRecDepth 65536 in
set_option maxHeartbeats 40000000 in
theorem con_hmsize (l : Launch) {Z : State} {a0 : Array Value} (hw : ∀ d ∈ tables_1, d.before a0 Z = true) {n0 : Nat} {h0 : Heap} {q0 : Addr} {ev kv : Value} (M : Exa Z h0 q0 "java/util/HashMap" ∧ Fld Z h0 q0 "java/util/HashMap" "size" "I" (.int 0) ∧ Fld Z h0 q0 "java/util/HashMap" "modCount" "I" (.int 0) ∧ Fld Z h0 q0 "java/util/HashMap" "table" "[Ljava/util/HashMap$Node;" .null ∧ Fld Z h0 q0 "java/util/HashMap" "entrySet" "Ljava/util/Set;" ev ∧ Fld Z h0 q0 "java/util/AbstractMap" "keySet" "Ljava/util/Set;" kv) :
    Con l Z false false ELs n0 (⟨"java/util/HashMap", "size", "()I"⟩ : MethodName) jdk_69_method_10_code 1 (some .int) rm_con_hmsize [] #[(.ref q0)] h0 [] (fun v h => v = some (.int 0) ∧ h = h0) := by
  refine Con.intro (plainFor_of_name pn_java_util_HashMap) (hELs hw) ?_
  intro p e s m below meth c hh G
  refine castRun (g' := mkF m 0 #[.val (.ref q0)] []) (by first | rfl | (simp [entryFrame, mkF, argsToLocals, Value.category, maxLocals]; done)) ?_
  refine GoKit.aloadN G d22_0 rfl rfl (pc' := 1) rfl ?_
  refine GoKit.getf G d22_1 (wi hw 156 rfl) Via.refl M.2.1 (pc' := 4) rfl ?_
  refine GoKit.retInt G d22_4 rfl (by decide) (by decide) ?_
  exact ⟨rfl, rfl⟩
theorem d24_0 : decode jdk_69_method_29_code 0 = .ok (.aload_n 0, 1) := by decide +kernel
theorem d24_1 : decode jdk_69_method_29_code 1 = .ok (.getfield 266, 3) := by decide +kernel
theorem d24_4 : decode jdk_69_method_29_code 4 = .ok (.dup, 1) := by decide +kernel
theorem d24_5 : decode jdk_69_method_29_code 5 = .ok (.astore_n 1, 1) := by decide +kernel
theorem d24_6 : decode jdk_69_method_29_code 6 = .ok (.ifnonnull 19, 3) := by decide +kernel
theorem d24_9 : decode jdk_69_method_29_code 9 = .ok (.aload_n 0, 1) := by decide +kernel
theorem d24_10 : decode jdk_69_method_29_code 10 = .ok (.new 268, 3) := by decide +kernel
theorem d24_13 : decode jdk_69_method_29_code 13 = .ok (.dup, 1) := by decide +kernel
theorem d24_14 : decode jdk_69_method_29_code 14 = .ok (.aload_n 0, 1) := by decide +kernel
theorem d24_15 : decode jdk_69_method_29_code 15 = .ok (.invokespecial 270, 3) := by decide +kernel
theorem d24_18 : decode jdk_69_method_29_code 18 = .ok (.dup_x1, 1) := by decide +kernel
theorem d24_19 : decode jdk_69_method_29_code 19 = .ok (.putfield 266, 3) := by decide +kernel
theorem d24_22 : decode jdk_69_method_29_code 22 = .ok (.goto 4, 3) := by decide +kernel
theorem d24_26 : decode jdk_69_method_29_code 26 = .ok (.areturn, 1) := by decide +kernel
abbrev rm_con_esN : Room := { frames := 4, cells := 1, slots := 1, locals := 51 }
set_option maxRecDepth 65536 in
set_option maxHeartbeats 40000000 in
theorem con_esN (l : Launch) {Z : State} {a0 : Array Value} (hw : ∀ d ∈ tables_1, d.before a0 Z = true) {n0 : Nat} {h0 : Heap} {q0 : Addr} {kv : Value} (M : Exa Z h0 q0 "java/util/HashMap" ∧ Fld Z h0 q0 "java/util/HashMap" "size" "I" (.int 0) ∧ Fld Z h0 q0 "java/util/HashMap" "modCount" "I" (.int 0) ∧ Fld Z h0 q0 "java/util/HashMap" "table" "[Ljava/util/HashMap$Node;" .null ∧ Fld Z h0 q0 "java/util/HashMap" "entrySet" "Ljava/util/Set;" .null ∧ Fld Z h0 q0 "java/util/AbstractMap" "keySet" "Ljava/util/Set;" kv) :
    Con l Z false false ELs n0 (⟨"java/util/HashMap", "entrySet", "()Ljava/util/Set;"⟩ : MethodName) jdk_69_method_29_code 2 (some (.object "java/util/Set")) rm_con_esN [] #[(.ref q0)] h0 [q0] (fun v h => ∃ d, v = some (.ref d) ∧ (Exa Z h q0 "java/util/HashMap" ∧ Fld Z h q0 "java/util/HashMap" "size" "I" (.int 0) ∧ Fld Z h q0 "java/util/HashMap" "modCount" "I" (.int 0) ∧ Fld Z h q0 "java/util/HashMap" "table" "[Ljava/util/HashMap$Node;" .null ∧ Fld Z h q0 "java/util/HashMap" "entrySet" "Ljava/util/Set;" (.ref d) ∧ Fld Z h q0 "java/util/AbstractMap" "keySet" "Ljava/util/Set;" kv) ∧ Exa Z h d "java/util/HashMap$EntrySet" ∧ Fld Z h d "java/util/HashMap$EntrySet" "this$0" "Ljava/util/HashMap;" (.ref q0)) := by
  refine Con.intro (plainFor_of_name pn_java_util_HashMap) (hELs hw) ?_
  intro p e s m below meth c hh G
  refine castRun (g' := mkF m 0 #[.val (.ref q0), .unset] []) (by first | rfl | (simp [entryFrame, mkF, argsToLocals, Value.category, maxLocals]; done)) ?_
  refine GoKit.aloadN G d24_0 rfl rfl (pc' := 1) rfl ?_
  refine GoKit.getf G d24_1 (wi hw 171 rfl) Via.refl M.2.2.2.2.1 (pc' := 4) rfl ?_
  refine GoKit.dup G d24_4 rfl (pc' := 5) rfl ?_
  refine GoKit.astoreN G d24_5 rfl (Ls' := #[.val (.ref q0), .val .null]) rfl (pc' := 6) rfl ?_
  refine GoKit.ifnonnull_f G d24_6 (pc' := 9) rfl ?_
  refine GoKit.aloadN G d24_9 rfl rfl (pc' := 10) rfl ?_
  refine GoKit.newobj G d24_10 (wi hw 173 rfl) (wi hw 174 rfl) (wi hw 175 rfl) (by decide) (by decide) (cells' := 1) (slots' := 1) rfl rfl (pc' := 13) rfl (fun h5 a1 ga1 E2 X3 D4 => ?_)
  have F6 : Fld Z h5 a1 "java/util/HashMap$EntrySet" "this$0" "Ljava/util/HashMap;" .null := D4 (Or.inr (wi hw 181 rfl)) (ty := (.object "java/util/HashMap")) (by decide)
  refine GoKit.dup G d24_13 rfl (pc' := 14) rfl ?_
  refine GoKit.aloadN G d24_14 rfl rfl (pc' := 15) rfl ?_
  refine GoKit.callSpecial G d24_15 rfl (wi hw 176 rfl) (wi hw 177 rfl) (wi hw 175 rfl) (wi hw 179 rfl) (by decide) (owc := [a1]) (W := 2) (argsL := [(.ref q0)]) (rest := [(.ref a1), (.ref q0)]) (con_esinit l hw ⟨X3, F6⟩) rfl (lenOf pd_5 rfl) rfl (by decide) (Nat.le_of_eq rfl) (by decide) (by decide) (by decide) (List.forall_mem_cons.mpr ⟨(List.Mem.head _), (fun _ q => nomatch q)⟩) (cells' := 1) (slots' := 1) rfl rfl (pc' := 18) rfl (fun r7 h10 q8 K9 => ?_)
  obtain ⟨rfl, O11⟩ := q8
  show Run _ _ _ _ _ _ _ _ _ _ _ _ _ _ _ _ _ _ _ _ _ (mkF m 18 #[.val (.ref q0), .val .null] [(.ref a1), (.ref q0)])
  refine GoKit.dupX1 G d24_18 rfl rfl (pc' := 19) rfl ?_
  refine GoKit.putf G d24_19 (wi hw 171 rfl) Via.refl ((M.2.2.2.2.1.ext E2).keep K9 (ninS (Nat.ne_of_lt (Nat.lt_of_lt_of_le (M.2.2.2.2.2).lt (Nat.le_of_eq ga1.symm))) nin0)) ((M.1.ext E2).keep K9) (Or.inl (wi hw 172 rfl)) (wi hw 93 rfl) (ty := (.object "java/util/Set")) (by decide) rfl rfl (List.Mem.tail _ (List.Mem.head _)) (pc' := 22) rfl (fun h13 W12 => ?_)
  have F14 := (((M.2.2.2.2.1.ext E2).keep K9 (ninS (Nat.ne_of_lt (Nat.lt_of_lt_of_le (M.2.2.2.2.2).lt (Nat.le_of_eq ga1.symm))) nin0))).same W12
  refine GoKit.goto G d24_22 (by decide) (pc' := 26) rfl ?_
  refine GoKit.retRef G rfl d24_26 rfl rfl rfl (by decide) (by decide) ?_
  exact ⟨_, rfl, ⟨(((M.1.ext E2).keep K9).wr W12), (((M.2.1.ext E2).keep K9 (ninS (Nat.ne_of_lt (Nat.lt_of_lt_of_le (M.2.2.2.2.2).lt (Nat.le_of_eq ga1.symm))) nin0)).other W12 (Or.inr (slot_ne (Or.inl (wi hw 157 rfl)) (Or.inl (wi hw 172 rfl)) (by decide) (by decide : _ = some .int) (by decide : _ = some (.object "java/util/Set"))))), (((M.2.2.1.ext E2).keep K9 (ninS (Nat.ne_of_lt (Nat.lt_of_lt_of_le (M.2.2.2.2.2).lt (Nat.le_of_eq ga1.symm))) nin0)).other W12 (Or.inr (slot_ne (Or.inl (wi hw 216 rfl)) (Or.inl (wi hw 172 rfl)) (by decide) (by decide : _ = some .int) (by decide : _ = some (.object "java/util/Set"))))), (((M.2.2.2.1.ext E2).keep K9 (ninS (Nat.ne_of_lt (Nat.lt_of_lt_of_le (M.2.2.2.2.2).lt (Nat.le_of_eq ga1.symm))) nin0)).other W12 (Or.inr (slot_ne (Or.inl (wi hw 220 rfl)) (Or.inl (wi hw 172 rfl)) (by decide) (by decide : _ = some (.array (.object "java/util/HashMap$Node"))) (by decide : _ = some (.object "java/util/Set"))))), F14, (((M.2.2.2.2.2.ext E2).keep K9 (ninS (Nat.ne_of_lt (Nat.lt_of_lt_of_le (M.2.2.2.2.2).lt (Nat.le_of_eq ga1.symm))) nin0)).other W12 (Or.inr (slot_ne (Or.inl (wi hw 456 rfl)) (Or.inl (wi hw 172 rfl)) (by decide) (by decide : _ = some (.object "java/util/Set")) (by decide : _ = some (.object "java/util/Set")))))⟩, ⟨(O11.1.wr W12), (O11.2.other W12 (Or.inl (Ne.symm (Nat.ne_of_lt (Nat.lt_of_lt_of_le (M.2.2.2.2.2).lt (Nat.le_of_eq ga1.symm))))))⟩⟩
theorem d24_25 : decode jdk_69_method_29_code 25 = .ok (.aload_n 1, 1) := by decide +kernel
abbrev rm_con_esF : Room := { frames := 0, cells := 0, slots := 0, locals := 0 }
set_option maxRecDepth 65536 in
set_option maxHeartbeats 40000000 in
theorem con_esF (l : Launch) {Z : State} {a0 : Array Value} (hw : ∀ d ∈ tables_1, d.before a0 Z = true) {n0 : Nat} {h0 : Heap} {q0 b : Addr} {kv : Value} (M : Exa Z h0 q0 "java/util/HashMap" ∧ Fld Z h0 q0 "java/util/HashMap" "size" "I" (.int 0) ∧ Fld Z h0 q0 "java/util/HashMap" "modCount" "I" (.int 0) ∧ Fld Z h0 q0 "java/util/HashMap" "table" "[Ljava/util/HashMap$Node;" .null ∧ Fld Z h0 q0 "java/util/HashMap" "entrySet" "Ljava/util/Set;" (.ref b) ∧ Fld Z h0 q0 "java/util/AbstractMap" "keySet" "Ljava/util/Set;" kv) (S : Exa Z h0 b "java/util/HashMap$EntrySet" ∧ Fld Z h0 b "java/util/HashMap$EntrySet" "this$0" "Ljava/util/HashMap;" (.ref q0)) :
    Con l Z false false ELs n0 (⟨"java/util/HashMap", "entrySet", "()Ljava/util/Set;"⟩ : MethodName) jdk_69_method_29_code 2 (some (.object "java/util/Set")) rm_con_esF [] #[(.ref q0)] h0 [] (fun v h => v = some (.ref b) ∧ h = h0) := by
  refine Con.intro (plainFor_of_name pn_java_util_HashMap) (hELs hw) ?_
  intro p e s m below meth c hh G
  refine castRun (g' := mkF m 0 #[.val (.ref q0), .unset] []) (by first | rfl | (simp [entryFrame, mkF, argsToLocals, Value.category, maxLocals]; done)) ?_
  refine GoKit.aloadN G d24_0 rfl rfl (pc' := 1) rfl ?_
  refine GoKit.getf G d24_1 (wi hw 171 rfl) Via.refl M.2.2.2.2.1 (pc' := 4) rfl ?_
  refine GoKit.dup G d24_4 rfl (pc' := 5) rfl ?_
  refine GoKit.astoreN G d24_5 rfl (Ls' := #[.val (.ref q0), .val (.ref b)]) rfl (pc' := 6) rfl ?_
  refine GoKit.ifnonnull_t G d24_6 (by decide) (pc' := 25) rfl ?_
  refine GoKit.aloadN G d24_25 rfl rfl (pc' := 26) rfl ?_
  refine GoKit.retRef G rfl d24_26 rfl rfl rfl (by decide) (by decide) ?_
  exact ⟨rfl, rfl⟩
theorem d23_0 : decode jdk_71_method_9_code 0 = .ok (.aload_n 1, 1) := by decide +kernel
theorem d23_1 : decode jdk_71_method_9_code 1 = .ok (.invokeinterface 52 1, 5) := by decide +kernel
theorem pd_6 : parseMethodDescriptor "()Ljava/util/Set;" = some ⟨[], some (.object "java/util/Set")⟩ := by decide +kernel
theorem d23_6 : decode jdk_71_method_9_code 6 = .ok (.invokeinterface 20 1, 5) := by decide +kernel
theorem pd_7 : parseMethodDescriptor "()Ljava/util/Iterator;" = some ⟨[], some (.object "java/util/Iterator")⟩ := by decide +kernel
theorem d23_11 : decode jdk_71_method_9_code 11 = .ok (.astore_n 2, 1) := by decide +kernel
theorem d23_12 : decode jdk_71_method_9_code 12 = .ok (.aload_n 2, 1) := by decide +kernel
theorem d23_13 : decode jdk_71_method_9_code 13 = .ok (.invokeinterface 24 1, 5) := by decide +kernel
theorem pd_8 : parseMethodDescriptor "()Z" = some ⟨[], some .boolean⟩ := by decide +kernel
theorem d23_18 : decode jdk_71_method_9_code 18 = .ok (.ifCond .eq 33, 3) := by decide +kernel
theorem d23_51 : decode jdk_71_method_9_code 51 = .ok (.return_, 1) := by decide +kernel
abbrev rm_con_paN : Room := { frames := 5, cells := 2, slots := 6, locals := 64 }
set_option maxRecDepth 65536 in
set_option maxHeartbeats 40000000 in
theorem con_paN (l : Launch) {Z : State} {a0 : Array Value} (hw : ∀ d ∈ tables_1, d.before a0 Z = true) {n0 : Nat} {h0 : Heap} {q0 : Addr} {kv : Value} (M : Exa Z h0 q0 "java/util/HashMap" ∧ Fld Z h0 q0 "java/util/HashMap" "size" "I" (.int 0) ∧ Fld Z h0 q0 "java/util/HashMap" "modCount" "I" (.int 0) ∧ Fld Z h0 q0 "java/util/HashMap" "table" "[Ljava/util/HashMap$Node;" .null ∧ Fld Z h0 q0 "java/util/HashMap" "entrySet" "Ljava/util/Set;" .null ∧ Fld Z h0 q0 "java/util/AbstractMap" "keySet" "Ljava/util/Set;" kv) {t : Addr} :
    Con l Z false false ELs n0 (⟨"java/util/AbstractMap", "putAll", "(Ljava/util/Map;)V"⟩ : MethodName) jdk_71_method_9_code 4 none rm_con_paN [] #[(.ref t), (.ref q0)] h0 [q0] (fun v h => ∃ d, v = none ∧ (Exa Z h q0 "java/util/HashMap" ∧ Fld Z h q0 "java/util/HashMap" "size" "I" (.int 0) ∧ Fld Z h q0 "java/util/HashMap" "modCount" "I" (.int 0) ∧ Fld Z h q0 "java/util/HashMap" "table" "[Ljava/util/HashMap$Node;" .null ∧ Fld Z h q0 "java/util/HashMap" "entrySet" "Ljava/util/Set;" (.ref d) ∧ Fld Z h q0 "java/util/AbstractMap" "keySet" "Ljava/util/Set;" kv) ∧ Exa Z h d "java/util/HashMap$EntrySet" ∧ Fld Z h d "java/util/HashMap$EntrySet" "this$0" "Ljava/util/HashMap;" (.ref q0)) := by
  refine Con.intro (plainFor_of_name pn_java_util_AbstractMap) (hELs hw) ?_
  intro p e s m below meth c hh G
  refine castRun (g' := mkF m 0 #[.val (.ref t), .val (.ref q0), .unset, .unset] []) (by first | rfl | (simp [entryFrame, mkF, argsToLocals, Value.category, maxLocals]; done)) ?_
  refine GoKit.aloadN G d23_0 rfl rfl (pc' := 1) rfl ?_
  refine GoKit.callFace G d23_1 (wi hw 163 rfl) (wi hw 164 rfl) (wi hw 166 rfl) (fun _ _ hZ => mv hZ (wi hw 165 rfl)) (wi hw 168 rfl) (wi hw 169 rfl) (wi hw 154 rfl) (wi hw 167 rfl) (wi hw 94 rfl) (wi hw 170 rfl) (by decide) M.1 (owc := [q0]) (W := 0) (argsL := []) (rest := []) (con_esN l hw ⟨M.1, M.2.1, M.2.2.1, M.2.2.2.1, M.2.2.2.2.1, M.2.2.2.2.2⟩) rfl (lenOf pd_6 rfl) rfl (by decide) (Nat.le_of_eq rfl) (by decide) (by decide) (by decide) (List.forall_mem_cons.mpr ⟨(List.Mem.head _), (fun _ q => nomatch q)⟩) (cells' := 1) (slots' := 1) rfl rfl (pc' := 6) rfl (fun r1 h4 q2 K3 => ?_)
  obtain ⟨d5, rfl, O6⟩ := q2
  show Run _ _ _ _ _ _ _ _ _ _ _ _ _ _ _ _ _ _ _ _ _ (mkF m 6 #[.val (.ref t), .val (.ref q0), .unset, .unset] [(.ref d5)])
  refine GoKit.callFace G d23_6 (wi hw 190 rfl) (wi hw 191 rfl) (wi hw 193 rfl) (fun _ _ hZ => mv hZ (wi hw 192 rfl)) (wi hw 195 rfl) (wi hw 196 rfl) (wi hw 197 rfl) (wi hw 194 rfl) (wi hw 175 rfl) (wi hw 198 rfl) (by decide) O6.2.1 (owc := []) (W := 0) (argsL := []) (rest := []) (con_iterE l hw ⟨O6.2.1, O6.2.2⟩ ⟨O6.1.1, O6.1.2.2.1, O6.1.2.2.2.1⟩) rfl (lenOf pd_7 rfl) rfl (by decide) (Nat.le_of_eq rfl) (by decide) (by decide) (by decide) (fun _ q => nomatch q) (cells' := 2) (slots' := 6) rfl rfl (pc' := 11) rfl (fun r7 h10 q8 K9 => ?_)
  obtain ⟨d11, rfl, O12⟩ := q8
  show Run _ _ _ _ _ _ _ _ _ _ _ _ _ _ _ _ _ _ _ _ _ (mkF m 11 #[.val (.ref t), .val (.ref q0), .unset, .unset] [(.ref d11)])
  refine GoKit.astoreN G d23_11 rfl (Ls' := #[.val (.ref t), .val (.ref q0), .val (.ref d11), .unset]) rfl (pc' := 12) rfl ?_
  refine GoKit.aloadN G d23_12 rfl rfl (pc' := 13) rfl ?_
  refine GoKit.callFaceP G d23_13 (wi hw 227 rfl) (wi hw 228 rfl) (wi hw 230 rfl) (fun _ _ hZ => mv hZ (wi hw 229 rfl)) (wi hw 232 rfl) (wi hw 233 rfl) (wi hw 234 rfl) (wi hw 231 rfl) (wi hw 210 rfl) (wi hw 235 rfl) (by decide) O12.1 (W := 0) (argsL := []) (rest := []) (con_hasnext l hw O12.2.2.2.1) rfl (lenOf pd_8 rfl) rfl (by decide) (Nat.le_of_eq rfl) (by decide) (by decide) (by decide) (cells' := 2) (slots' := 6) rfl rfl (pc' := 18) rfl ?_
  show Run _ _ _ _ _ _ _ _ _ _ _ _ _ _ _ _ _ _ _ _ _ (mkF m 18 #[.val (.ref t), .val (.ref q0), .val (.ref d11), .unset] [(.int (0 : Int32))])
  refine GoKit.if_eq_t G d23_18 (by decide) (by decide) (pc' := 51) rfl ?_
  refine GoKit.retVoid G d23_51 rfl (by decide) (by decide) ?_
  exact ⟨_, rfl, ⟨(O6.1.1.keep K9), (O6.1.2.1.keep K9 nin0), (O6.1.2.2.1.keep K9 nin0), (O6.1.2.2.2.1.keep K9 nin0), (O6.1.2.2.2.2.1.keep K9 nin0), (O6.1.2.2.2.2.2.keep K9 nin0)⟩, ⟨(O6.2.1.keep K9), (O6.2.2.keep K9 nin0)⟩⟩
abbrev rm_con_paF : Room := { frames := 4, cells := 1, slots := 5, locals := 52 }
set_option maxRecDepth 65536 in
set_option maxHeartbeats 40000000 in
theorem con_paF (l : Launch) {Z : State} {a0 : Array Value} (hw : ∀ d ∈ tables_1, d.before a0 Z = true) {n0 : Nat} {h0 : Heap} {q0 b : Addr} {kv : Value} (M : Exa Z h0 q0 "java/util/HashMap" ∧ Fld Z h0 q0 "java/util/HashMap" "size" "I" (.int 0) ∧ Fld Z h0 q0 "java/util/HashMap" "modCount" "I" (.int 0) ∧ Fld Z h0 q0 "java/util/HashMap" "table" "[Ljava/util/HashMap$Node;" .null ∧ Fld Z h0 q0 "java/util/HashMap" "entrySet" "Ljava/util/Set;" (.ref b) ∧ Fld Z h0 q0 "java/util/AbstractMap" "keySet" "Ljava/util/Set;" kv) (S : Exa Z h0 b "java/util/HashMap$EntrySet" ∧ Fld Z h0 b "java/util/HashMap$EntrySet" "this$0" "Ljava/util/HashMap;" (.ref q0)) {t : Addr} :
    Con l Z false false ELs n0 (⟨"java/util/AbstractMap", "putAll", "(Ljava/util/Map;)V"⟩ : MethodName) jdk_71_method_9_code 4 none rm_con_paF [] #[(.ref t), (.ref q0)] h0 [] (fun v h => v = none) := by
  refine Con.intro (plainFor_of_name pn_java_util_AbstractMap) (hELs hw) ?_
  intro p e s m below meth c hh G
  refine castRun (g' := mkF m 0 #[.val (.ref t), .val (.ref q0), .unset, .unset] []) (by first | rfl | (simp [entryFrame, mkF, argsToLocals, Value.category, maxLocals]; done)) ?_
  refine GoKit.aloadN G d23_0 rfl rfl (pc' := 1) rfl ?_
  refine GoKit.callFaceP G d23_1 (wi hw 163 rfl) (wi hw 164 rfl) (wi hw 166 rfl) (fun _ _ hZ => mv hZ (wi hw 165 rfl)) (wi hw 168 rfl) (wi hw 169 rfl) (wi hw 154 rfl) (wi hw 167 rfl) (wi hw 94 rfl) (wi hw 170 rfl) (by decide) M.1 (W := 0) (argsL := []) (rest := []) (con_esF l hw ⟨M.1, M.2.1, M.2.2.1, M.2.2.2.1, M.2.2.2.2.1, M.2.2.2.2.2⟩ ⟨S.1, S.2⟩) rfl (lenOf pd_6 rfl) rfl (by decide) (Nat.le_of_eq rfl) (by decide) (by decide) (by decide) (cells' := 0) (slots' := 0) rfl rfl (pc' := 6) rfl ?_
  show Run _ _ _ _ _ _ _ _ _ _ _ _ _ _ _ _ _ _ _ _ _ (mkF m 6 #[.val (.ref t), .val (.ref q0), .unset, .unset] [(.ref b)])
  refine GoKit.callFace G d23_6 (wi hw 190 rfl) (wi hw 191 rfl) (wi hw 193 rfl) (fun _ _ hZ => mv hZ (wi hw 192 rfl)) (wi hw 195 rfl) (wi hw 196 rfl) (wi hw 197 rfl) (wi hw 194 rfl) (wi hw 175 rfl) (wi hw 198 rfl) (by decide) S.1 (owc := []) (W := 0) (argsL := []) (rest := []) (con_iterE l hw ⟨S.1, S.2⟩ ⟨M.1, M.2.2.1, M.2.2.2.1⟩) rfl (lenOf pd_7 rfl) rfl (by decide) (Nat.le_of_eq rfl) (by decide) (by decide) (by decide) (fun _ q => nomatch q) (cells' := 1) (slots' := 5) rfl rfl (pc' := 11) rfl (fun r1 h4 q2 K3 => ?_)
  obtain ⟨d5, rfl, O6⟩ := q2
  show Run _ _ _ _ _ _ _ _ _ _ _ _ _ _ _ _ _ _ _ _ _ (mkF m 11 #[.val (.ref t), .val (.ref q0), .unset, .unset] [(.ref d5)])
  refine GoKit.astoreN G d23_11 rfl (Ls' := #[.val (.ref t), .val (.ref q0), .val (.ref d5), .unset]) rfl (pc' := 12) rfl ?_
  refine GoKit.aloadN G d23_12 rfl rfl (pc' := 13) rfl ?_
  refine GoKit.callFaceP G d23_13 (wi hw 227 rfl) (wi hw 228 rfl) (wi hw 230 rfl) (fun _ _ hZ => mv hZ (wi hw 229 rfl)) (wi hw 232 rfl) (wi hw 233 rfl) (wi hw 234 rfl) (wi hw 231 rfl) (wi hw 210 rfl) (wi hw 235 rfl) (by decide) O6.1 (W := 0) (argsL := []) (rest := []) (con_hasnext l hw O6.2.2.2.1) rfl (lenOf pd_8 rfl) rfl (by decide) (Nat.le_of_eq rfl) (by decide) (by decide) (by decide) (cells' := 1) (slots' := 5) rfl rfl (pc' := 18) rfl ?_
  show Run _ _ _ _ _ _ _ _ _ _ _ _ _ _ _ _ _ _ _ _ _ (mkF m 18 #[.val (.ref t), .val (.ref q0), .val (.ref d5), .unset] [(.int (0 : Int32))])
  refine GoKit.if_eq_t G d23_18 (by decide) (by decide) (pc' := 51) rfl ?_
  refine GoKit.retVoid G d23_51 rfl (by decide) (by decide) ?_
  exact rfl
theorem d99_0 : decode jdk_2729_method_14_code 0 = .ok (.aload_n 1, 1) := by decide +kernel
theorem d99_1 : decode jdk_2729_method_14_code 1 = .ok (.invokeinterface 82 1, 5) := by decide +kernel
theorem pd_9 : parseMethodDescriptor "()I" = some ⟨[], some .int⟩ := by decide +kernel
theorem d99_6 : decode jdk_2729_method_14_code 6 = .ok (.istore_n 2, 1) := by decide +kernel
theorem d99_7 : decode jdk_2729_method_14_code 7 = .ok (.aload_n 0, 1) := by decide +kernel
theorem d99_8 : decode jdk_2729_method_14_code 8 = .ok (.getfield 7, 3) := by decide +kernel
theorem d99_11 : decode jdk_2729_method_14_code 11 = .ok (.ifCond .ne 66, 3) := by decide +kernel
theorem d99_14 : decode jdk_2729_method_14_code 14 = .ok (.iload_n 2, 1) := by decide +kernel
theorem d99_15 : decode jdk_2729_method_14_code 15 = .ok (.ifCond .eq 62, 3) := by decide +kernel
theorem d99_77 : decode jdk_2729_method_14_code 77 = .ok (.aload_n 0, 1) := by decide +kernel
theorem d99_78 : decode jdk_2729_method_14_code 78 = .ok (.aload_n 1, 1) := by decide +kernel
theorem d99_79 : decode jdk_2729_method_14_code 79 = .ok (.invokespecial 91, 3) := by decide +kernel
theorem pd_10 : parseMethodDescriptor "(Ljava/util/Map;)V" = some ⟨[(.object "java/util/Map")], none⟩ := by decide +kernel
theorem d99_82 : decode jdk_2729_method_14_code 82 = .ok (.return_, 1) := by decide +kernel
theorem pn_java_util_TreeMap : plainName "java/util/TreeMap" = true := by first | (simp [plainName, overriddenIn]; done) | decide +kernel
abbrev rm_con_ptN : Room := { frames := 6, cells := 2, slots := 6, locals := 79 }
set_option maxRecDepth 65536 in
set_option maxHeartbeats 40000000 in
theorem con_ptN (l : Launch) {Z : State} {a0 : Array Value} (hw : ∀ d ∈ tables_1, d.before a0 Z = true) {n0 : Nat} {h0 : Heap} {q0 : Addr} {kv : Value} (M : Exa Z h0 q0 "java/util/HashMap" ∧ Fld Z h0 q0 "java/util/HashMap" "size" "I" (.int 0) ∧ Fld Z h0 q0 "java/util/HashMap" "modCount" "I" (.int 0) ∧ Fld Z h0 q0 "java/util/HashMap" "table" "[Ljava/util/HashMap$Node;" .null ∧ Fld Z h0 q0 "java/util/HashMap" "entrySet" "Ljava/util/Set;" .null ∧ Fld Z h0 q0 "java/util/AbstractMap" "keySet" "Ljava/util/Set;" kv) {t : Addr} (T : Exa Z h0 t "java/util/TreeMap" ∧ Fld Z h0 t "java/util/TreeMap" "size" "I" (.int 0) ∧ Fld Z h0 t "java/util/TreeMap" "modCount" "I" (.int 0) ∧ Fld Z h0 t "java/util/TreeMap" "comparator" "Ljava/util/Comparator;" .null ∧ Fld Z h0 t "java/util/TreeMap" "entrySet" "Ljava/util/TreeMap$EntrySet;" .null ∧ Fld Z h0 t "java/util/TreeMap" "root" "Ljava/util/TreeMap$Entry;" .null) :
    ConH l Z false false ELs n0 (⟨"java/util/TreeMap", "putAll", "(Ljava/util/Map;)V"⟩ : MethodName) jdk_2729_method_14_code 4 none [(54, 72, 75, 46), (54, 72, 75, 48)] rm_con_ptN [] #[(.ref t), (.ref q0)] h0 [q0] (fun v h => ∃ d, v = none ∧ (Exa Z h q0 "java/util/HashMap" ∧ Fld Z h q0 "java/util/HashMap" "size" "I" (.int 0) ∧ Fld Z h q0 "java/util/HashMap" "modCount" "I" (.int 0) ∧ Fld Z h q0 "java/util/HashMap" "table" "[Ljava/util/HashMap$Node;" .null ∧ Fld Z h q0 "java/util/HashMap" "entrySet" "Ljava/util/Set;" (.ref d) ∧ Fld Z h q0 "java/util/AbstractMap" "keySet" "Ljava/util/Set;" kv) ∧ Exa Z h d "java/util/HashMap$EntrySet" ∧ Fld Z h d "java/util/HashMap$EntrySet" "this$0" "Ljava/util/HashMap;" (.ref q0)) := by
  refine ConH.intro (plainFor_of_name pn_java_util_TreeMap) (hELs hw) ?_
  intro p e s m below meth c hh G
  refine castRun (g' := mkF m 0 #[.val (.ref t), .val (.ref q0), .unset, .unset] []) (by first | rfl | (simp [entryFrame, mkF, argsToLocals, Value.category, maxLocals]; done)) ?_
  refine GoKit.aloadN G d99_0 rfl rfl (pc' := 1) rfl ?_
  refine GoKit.callFaceP G d99_1 (wi hw 147 rfl) (wi hw 148 rfl) (wi hw 150 rfl) (fun _ _ hZ => mv hZ (wi hw 149 rfl)) (wi hw 152 rfl) (wi hw 153 rfl) (wi hw 154 rfl) (wi hw 151 rfl) (wi hw 94 rfl) (wi hw 155 rfl) (by decide) M.1 (W := 0) (argsL := []) (rest := []) (con_hmsize l hw ⟨M.1, M.2.1, M.2.2.1, M.2.2.2.1, M.2.2.2.2.1, M.2.2.2.2.2⟩) rfl (lenOf pd_9 rfl) rfl (by decide) (Nat.le_of_eq rfl) (by decide) (by decide) (by decide) (cells' := 0) (slots' := 0) rfl rfl (pc' := 6) rfl ?_
  show Run _ _ _ _ _ _ _ _ _ _ _ _ _ _ _ _ _ _ _ _ _ (mkF m 6 #[.val (.ref t), .val (.ref q0), .unset, .unset] [(.int (0 : Int32))])
  refine GoKit.istoreN G d99_6 (Ls' := #[.val (.ref t), .val (.ref q0), .val (.int (0 : Int32)), .unset]) rfl (pc' := 7) rfl ?_
  refine GoKit.aloadN G d99_7 rfl rfl (pc' := 8) rfl ?_
  refine GoKit.getf G d99_8 (wi hw 136 rfl) Via.refl T.2.1 (pc' := 11) rfl ?_
  refine GoKit.if_ne_f G d99_11 (by decide) (pc' := 14) rfl ?_
  refine GoKit.iloadN G d99_14 rfl (pc' := 15) rfl ?_
  refine GoKit.if_eq_t G d99_15 (by decide) (by decide) (pc' := 77) rfl ?_
  refine GoKit.aloadN G d99_77 rfl rfl (pc' := 78) rfl ?_
  refine GoKit.aloadN G d99_78 rfl rfl (pc' := 79) rfl ?_
  refine GoKit.callSuper G d99_79 (wi hw 158 rfl) (wi hw 159 rfl) (wi hw 102 rfl) (wi hw 162 rfl) (wi hw 160 rfl) (by decide) T.1 (owc := [q0]) (W := 0) (argsL := [(.ref q0)]) (rest := []) (con_paN l hw ⟨M.1, M.2.1, M.2.2.1, M.2.2.2.1, M.2.2.2.2.1, M.2.2.2.2.2⟩) rfl (lenOf pd_10 rfl) rfl (by decide) (Nat.le_of_eq rfl) (by decide) (by decide) (by decide) (List.forall_mem_cons.mpr ⟨(List.Mem.head _), (fun _ q => nomatch q)⟩) (cells' := 2) (slots' := 6) rfl rfl (pc' := 82) rfl (fun r1 h4 q2 K3 => ?_)
  obtain ⟨d5, rfl, O6⟩ := q2
  show Run _ _ _ _ _ _ _ _ _ _ _ _ _ _ _ _ _ _ _ _ _ (mkF m 82 #[.val (.ref t), .val (.ref q0), .val (.int (0 : Int32)), .unset] [])
  refine GoKit.retVoid G d99_82 rfl (by decide) (by decide) ?_
  exact ⟨_, rfl, ⟨O6.1.1, O6.1.2.1, O6.1.2.2.1, O6.1.2.2.2.1, O6.1.2.2.2.2.1, O6.1.2.2.2.2.2⟩, ⟨O6.2.1, O6.2.2⟩⟩
abbrev rm_con_ptF : Room := { frames := 5, cells := 1, slots := 5, locals := 67 }
set_option maxRecDepth 65536 in
set_option maxHeartbeats 40000000 in
theorem con_ptF (l : Launch) {Z : State} {a0 : Array Value} (hw : ∀ d ∈ tables_1, d.before a0 Z = true) {n0 : Nat} {h0 : Heap} {q0 b : Addr} {kv : Value} (M : Exa Z h0 q0 "java/util/HashMap" ∧ Fld Z h0 q0 "java/util/HashMap" "size" "I" (.int 0) ∧ Fld Z h0 q0 "java/util/HashMap" "modCount" "I" (.int 0) ∧ Fld Z h0 q0 "java/util/HashMap" "table" "[Ljava/util/HashMap$Node;" .null ∧ Fld Z h0 q0 "java/util/HashMap" "entrySet" "Ljava/util/Set;" (.ref b) ∧ Fld Z h0 q0 "java/util/AbstractMap" "keySet" "Ljava/util/Set;" kv) (S : Exa Z h0 b "java/util/HashMap$EntrySet" ∧ Fld Z h0 b "java/util/HashMap$EntrySet" "this$0" "Ljava/util/HashMap;" (.ref q0)) {t : Addr} (T : Exa Z h0 t "java/util/TreeMap" ∧ Fld Z h0 t "java/util/TreeMap" "size" "I" (.int 0) ∧ Fld Z h0 t "java/util/TreeMap" "modCount" "I" (.int 0) ∧ Fld Z h0 t "java/util/TreeMap" "comparator" "Ljava/util/Comparator;" .null ∧ Fld Z h0 t "java/util/TreeMap" "entrySet" "Ljava/util/TreeMap$EntrySet;" .null ∧ Fld Z h0 t "java/util/TreeMap" "root" "Ljava/util/TreeMap$Entry;" .null) :
    ConH l Z false false ELs n0 (⟨"java/util/TreeMap", "putAll", "(Ljava/util/Map;)V"⟩ : MethodName) jdk_2729_method_14_code 4 none [(54, 72, 75, 46), (54, 72, 75, 48)] rm_con_ptF [] #[(.ref t), (.ref q0)] h0 [] (fun v h => v = none) := by
  refine ConH.intro (plainFor_of_name pn_java_util_TreeMap) (hELs hw) ?_
  intro p e s m below meth c hh G
  refine castRun (g' := mkF m 0 #[.val (.ref t), .val (.ref q0), .unset, .unset] []) (by first | rfl | (simp [entryFrame, mkF, argsToLocals, Value.category, maxLocals]; done)) ?_
  refine GoKit.aloadN G d99_0 rfl rfl (pc' := 1) rfl ?_
  refine GoKit.callFaceP G d99_1 (wi hw 147 rfl) (wi hw 148 rfl) (wi hw 150 rfl) (fun _ _ hZ => mv hZ (wi hw 149 rfl)) (wi hw 152 rfl) (wi hw 153 rfl) (wi hw 154 rfl) (wi hw 151 rfl) (wi hw 94 rfl) (wi hw 155 rfl) (by decide) M.1 (W := 0) (argsL := []) (rest := []) (con_hmsize l hw ⟨M.1, M.2.1, M.2.2.1, M.2.2.2.1, M.2.2.2.2.1, M.2.2.2.2.2⟩) rfl (lenOf pd_9 rfl) rfl (by decide) (Nat.le_of_eq rfl) (by decide) (by decide) (by decide) (cells' := 0) (slots' := 0) rfl rfl (pc' := 6) rfl ?_
  show Run _ _ _ _ _ _ _ _ _ _ _ _ _ _ _ _ _ _ _ _ _ (mkF m 6 #[.val (.ref t), .val (.ref q0), .unset, .unset] [(.int (0 : Int32))])
  refine GoKit.istoreN G d99_6 (Ls' := #[.val (.ref t), .val (.ref q0), .val (.int (0 : Int32)), .unset]) rfl (pc' := 7) rfl ?_
  refine GoKit.aloadN G d99_7 rfl rfl (pc' := 8) rfl ?_
  refine GoKit.getf G d99_8 (wi hw 136 rfl) Via.refl T.2.1 (pc' := 11) rfl ?_
  refine GoKit.if_ne_f G d99_11 (by decide) (pc' := 14) rfl ?_
  refine GoKit.iloadN G d99_14 rfl (pc' := 15) rfl ?_
  refine GoKit.if_eq_t G d99_15 (by decide) (by decide) (pc' := 77) rfl ?_
  refine GoKit.aloadN G d99_77 rfl rfl (pc' := 78) rfl ?_
  refine GoKit.aloadN G d99_78 rfl rfl (pc' := 79) rfl ?_
  refine GoKit.callSuper G d99_79 (wi hw 158 rfl) (wi hw 159 rfl) (wi hw 102 rfl) (wi hw 162 rfl) (wi hw 160 rfl) (by decide) T.1 (owc := []) (W := 0) (argsL := [(.ref q0)]) (rest := []) (con_paF l hw ⟨M.1, M.2.1, M.2.2.1, M.2.2.2.1, M.2.2.2.2.1, M.2.2.2.2.2⟩ ⟨S.1, S.2⟩) rfl (lenOf pd_10 rfl) rfl (by decide) (Nat.le_of_eq rfl) (by decide) (by decide) (by decide) (fun _ q => nomatch q) (cells' := 1) (slots' := 5) rfl rfl (pc' := 82) rfl (fun r1 h4 q2 K3 => ?_)
  obtain rfl := q2
  show Run _ _ _ _ _ _ _ _ _ _ _ _ _ _ _ _ _ _ _ _ _ (mkF m 82 #[.val (.ref t), .val (.ref q0), .val (.int (0 : Int32)), .unset] [])
  refine GoKit.retVoid G d99_82 rfl (by decide) (by decide) ?_
  exact rfl
theorem d21_0 : decode jdk_2729_method_3_code 0 = .ok (.aload_n 0, 1) := by decide +kernel
theorem d21_1 : decode jdk_2729_method_3_code 1 = .ok (.invokespecial 1, 3) := by decide +kernel
theorem d21_4 : decode jdk_2729_method_3_code 4 = .ok (.aload_n 0, 1) := by decide +kernel
theorem d21_5 : decode jdk_2729_method_3_code 5 = .ok (.iconst 0, 1) := by decide +kernel
theorem d21_6 : decode jdk_2729_method_3_code 6 = .ok (.putfield 7, 3) := by decide +kernel
theorem d21_9 : decode jdk_2729_method_3_code 9 = .ok (.aload_n 0, 1) := by decide +kernel
theorem d21_10 : decode jdk_2729_method_3_code 10 = .ok (.iconst 0, 1) := by decide +kernel
theorem d21_11 : decode jdk_2729_method_3_code 11 = .ok (.putfield 13, 3) := by decide +kernel
theorem d21_14 : decode jdk_2729_method_3_code 14 = .ok (.aload_n 0, 1) := by decide +kernel
theorem d21_15 : decode jdk_2729_method_3_code 15 = .ok (.aconst_null, 1) := by decide +kernel
theorem d21_16 : decode jdk_2729_method_3_code 16 = .ok (.putfield 16, 3) := by decide +kernel
theorem d21_19 : decode jdk_2729_method_3_code 19 = .ok (.aload_n 0, 1) := by decide +kernel
theorem d21_20 : decode jdk_2729_method_3_code 20 = .ok (.aload_n 1, 1) := by decide +kernel
theorem d21_21 : decode jdk_2729_method_3_code 21 = .ok (.invokevirtual 20, 3) := by decide +kernel
theorem d21_24 : decode jdk_2729_method_3_code 24 = .ok (.return_, 1) := by decide +kernel
abbrev rm_con_tmN : Room := { frames := 7, cells := 2, slots := 6, locals := 94 }
set_option maxRecDepth 65536 in
set_option maxHeartbeats 40000000 in
theorem con_tmN (l : Launch) {Z : State} {a0 : Array Value} (hw : ∀ d ∈ tables_1, d.before a0 Z = true) {n0 : Nat} {h0 : Heap} {q0 : Addr} {kv : Value} (M : Exa Z h0 q0 "java/util/HashMap" ∧ Fld Z h0 q0 "java/util/HashMap" "size" "I" (.int 0) ∧ Fld Z h0 q0 "java/util/HashMap" "modCount" "I" (.int 0) ∧ Fld Z h0 q0 "java/util/HashMap" "table" "[Ljava/util/HashMap$Node;" .null ∧ Fld Z h0 q0 "java/util/HashMap" "entrySet" "Ljava/util/Set;" .null ∧ Fld Z h0 q0 "java/util/AbstractMap" "keySet" "Ljava/util/Set;" kv) {t : Addr} (T : Exa Z h0 t "java/util/TreeMap" ∧ Fld Z h0 t "java/util/TreeMap" "size" "I" (.int 0) ∧ Fld Z h0 t "java/util/TreeMap" "modCount" "I" (.int 0) ∧ Fld Z h0 t "java/util/TreeMap" "comparator" "Ljava/util/Comparator;" .null ∧ Fld Z h0 t "java/util/TreeMap" "entrySet" "Ljava/util/TreeMap$EntrySet;" .null ∧ Fld Z h0 t "java/util/TreeMap" "root" "Ljava/util/TreeMap$Entry;" .null) :
    Con l Z false false ELs n0 (⟨"java/util/TreeMap", "<init>", "(Ljava/util/Map;)V"⟩ : MethodName) jdk_2729_method_3_code 2 none rm_con_tmN [] #[(.ref t), (.ref q0)] h0 [t, q0] (fun v h => ∃ d, v = none ∧ (Exa Z h t "java/util/TreeMap" ∧ Fld Z h t "java/util/TreeMap" "size" "I" (.int 0) ∧ Fld Z h t "java/util/TreeMap" "modCount" "I" (.int 0) ∧ Fld Z h t "java/util/TreeMap" "comparator" "Ljava/util/Comparator;" .null ∧ Fld Z h t "java/util/TreeMap" "entrySet" "Ljava/util/TreeMap$EntrySet;" .null ∧ Fld Z h t "java/util/TreeMap" "root" "Ljava/util/TreeMap$Entry;" .null) ∧ (Exa Z h q0 "java/util/HashMap" ∧ Fld Z h q0 "java/util/HashMap" "size" "I" (.int 0) ∧ Fld Z h q0 "java/util/HashMap" "modCount" "I" (.int 0) ∧ Fld Z h q0 "java/util/HashMap" "table" "[Ljava/util/HashMap$Node;" .null ∧ Fld Z h q0 "java/util/HashMap" "entrySet" "Ljava/util/Set;" (.ref d) ∧ Fld Z h q0 "java/util/AbstractMap" "keySet" "Ljava/util/Set;" kv) ∧ Exa Z h d "java/util/HashMap$EntrySet" ∧ Fld Z h d "java/util/HashMap$EntrySet" "this$0" "Ljava/util/HashMap;" (.ref q0)) := by
  refine Con.intro (plainFor_of_name pn_java_util_TreeMap) (hELs hw) ?_
  intro p e s m below meth c hh G
  refine castRun (g' := mkF m 0 #[.val (.ref t), .val (.ref q0)] []) (by first | rfl | (simp [entryFrame, mkF, argsToLocals, Value.category, maxLocals]; done)) ?_
  refine GoKit.aloadN G d21_0 rfl rfl (pc' := 1) rfl ?_
  refine GoKit.callSpecial G d21_1 rfl (wi hw 134 rfl) (wi hw 99 rfl) (wi hw 102 rfl) (wi hw 103 rfl) (by decide) (owc := []) (W := 0) (argsL := []) (rest := []) (con_absmap l hw) rfl (lenOf pd_0 rfl) rfl (by decide) (Nat.le_of_eq rfl) (by decide) (by decide) (by decide) (fun _ q => nomatch q) (cells' := 0) (slots' := 0) rfl rfl (pc' := 4) rfl (fun r1 h4 q2 K3 => ?_)
  obtain rfl := q2
  show Run _ _ _ _ _ _ _ _ _ _ _ _ _ _ _ _ _ _ _ _ _ (mkF m 4 #[.val (.ref t), .val (.ref q0)] [])
  refine GoKit.aloadN G d21_4 rfl rfl (pc' := 5) rfl ?_
  refine GoKit.iconst G (0 : Int32) d21_5 rfl (pc' := 6) rfl ?_
  refine GoKit.putf G d21_6 (wi hw 136 rfl) Via.refl (T.2.1.keep K3 nin0) (T.1.keep K3) (Or.inl (wi hw 137 rfl)) (wi hw 129 rfl) (ty := .int) (by decide) rfl rfl (List.Mem.head _) (pc' := 9) rfl (fun h6 W5 => ?_)
  have F7 := ((T.2.1.keep K3 nin0)).same W5
  refine GoKit.aloadN G d21_9 rfl rfl (pc' := 10) rfl ?_
  refine GoKit.iconst G (0 : Int32) d21_10 rfl (pc' := 11) rfl ?_
  refine GoKit.putf G d21_11 (wi hw 138 rfl) Via.refl ((T.2.2.1.keep K3 nin0).other W5 (Or.inr (slot_ne (Or.inl (wi hw 139 rfl)) (Or.inl (wi hw 137 rfl)) (by decide) (by decide : _ = some .int) (by decide : _ = some .int)))) ((T.1.keep K3).wr W5) (Or.inl (wi hw 139 rfl)) (wi hw 129 rfl) (ty := .int) (by decide) rfl rfl (List.Mem.head _) (pc' := 14) rfl (fun h9 W8 => ?_)
  have F10 := (((T.2.2.1.keep K3 nin0).other W5 (Or.inr (slot_ne (Or.inl (wi hw 139 rfl)) (Or.inl (wi hw 137 rfl)) (by decide) (by decide : _ = some .int) (by decide : _ = some .int))))).same W8
  refine GoKit.aloadN G d21_14 rfl rfl (pc' := 15) rfl ?_
  refine GoKit.aconstNull G d21_15 (pc' := 16) rfl ?_
  refine GoKit.putf G d21_16 (wi hw 140 rfl) Via.refl (((T.2.2.2.1.keep K3 nin0).other W5 (Or.inr (slot_ne (Or.inr (wi hw 141 rfl)) (Or.inl (wi hw 137 rfl)) (by decide) (by decide : _ = some (.object "java/util/Comparator")) (by decide : _ = some .int)))).other W8 (Or.inr (slot_ne (Or.inr (wi hw 141 rfl)) (Or.inl (wi hw 139 rfl)) (by decide) (by decide : _ = some (.object "java/util/Comparator")) (by decide : _ = some .int)))) (((T.1.keep K3).wr W5).wr W8) (Or.inr ⟨(wi hw 141 rfl), rfl, rfl⟩) (wi hw 129 rfl) (ty := (.object "java/util/Comparator")) (by decide) rfl rfl (List.Mem.head _) (pc' := 19) rfl (fun h12 W11 => ?_)
  have F13 := ((((T.2.2.2.1.keep K3 nin0).other W5 (Or.inr (slot_ne (Or.inr (wi hw 141 rfl)) (Or.inl (wi hw 137 rfl)) (by decide) (by decide : _ = some (.object "java/util/Comparator")) (by decide : _ = some .int)))).other W8 (Or.inr (slot_ne (Or.inr (wi hw 141 rfl)) (Or.inl (wi hw 139 rfl)) (by decide) (by decide : _ = some (.object "java/util/Comparator")) (by decide : _ = some .int))))).same W11
  refine GoKit.aloadN G d21_19 rfl rfl (pc' := 20) rfl ?_
  refine GoKit.aloadN G d21_20 rfl rfl (pc' := 21) rfl ?_
  refine GoKit.callVirtualH G rfl d21_21 (wi hw 142 rfl) (wi hw 143 rfl) (wi hw 145 rfl) (nface (wi hw 145 rfl)) (wi hw 144 rfl) (wi hw 130 rfl) (wi hw 146 rfl) (by decide) ((((T.1.keep K3).wr W5).wr W8).wr W11) (owc := [q0]) (W := 0) (argsL := [(.ref q0)]) (rest := []) (con_ptN l hw ⟨((((M.1.keep K3).wr W5).wr W8).wr W11), ((((M.2.1.keep K3 nin0).other W5 (Or.inl (Exa.ne M.1 T.1 (by decide)))).other W8 (Or.inl (Exa.ne M.1 T.1 (by decide)))).other W11 (Or.inl (Exa.ne M.1 T.1 (by decide)))), ((((M.2.2.1.keep K3 nin0).other W5 (Or.inl (Exa.ne M.1 T.1 (by decide)))).other W8 (Or.inl (Exa.ne M.1 T.1 (by decide)))).other W11 (Or.inl (Exa.ne M.1 T.1 (by decide)))), ((((M.2.2.2.1.keep K3 nin0).other W5 (Or.inl (Exa.ne M.1 T.1 (by decide)))).other W8 (Or.inl (Exa.ne M.1 T.1 (by decide)))).other W11 (Or.inl (Exa.ne M.1 T.1 (by decide)))), ((((M.2.2.2.2.1.keep K3 nin0).other W5 (Or.inl (Exa.ne M.1 T.1 (by decide)))).other W8 (Or.inl (Exa.ne M.1 T.1 (by decide)))).other W11 (Or.inl (Exa.ne M.1 T.1 (by decide)))), ((((M.2.2.2.2.2.keep K3 nin0).other W5 (Or.inl (Exa.ne M.1 T.1 (by decide)))).other W8 (Or.inl (Exa.ne M.1 T.1 (by decide)))).other W11 (Or.inl (Exa.ne M.1 T.1 (by decide))))⟩ ⟨((((T.1.keep K3).wr W5).wr W8).wr W11), ((F7.other W8 (Or.inr (slot_ne (Or.inl (wi hw 137 rfl)) (Or.inl (wi hw 139 rfl)) (by decide) (by decide : _ = some .int) (by decide : _ = some .int)))).other W11 (Or.inr (slot_ne (Or.inl (wi hw 137 rfl)) (Or.inr (wi hw 141 rfl)) (by decide) (by decide : _ = some .int) (by decide : _ = some (.object "java/util/Comparator"))))), (F10.other W11 (Or.inr (slot_ne (Or.inl (wi hw 139 rfl)) (Or.inr (wi hw 141 rfl)) (by decide) (by decide : _ = some .int) (by decide : _ = some (.object "java/util/Comparator"))))), F13, ((((T.2.2.2.2.1.keep K3 nin0).other W5 (Or.inr (slot_ne (Or.inl (wi hw 242 rfl)) (Or.inl (wi hw 137 rfl)) (by decide) (by decide : _ = some (.object "java/util/TreeMap$EntrySet")) (by decide : _ = some .int)))).other W8 (Or.inr (slot_ne (Or.inl (wi hw 242 rfl)) (Or.inl (wi hw 139 rfl)) (by decide) (by decide : _ = some (.object "java/util/TreeMap$EntrySet")) (by decide : _ = some .int)))).other W11 (Or.inr (slot_ne (Or.inl (wi hw 242 rfl)) (Or.inr (wi hw 141 rfl)) (by decide) (by decide : _ = some (.object "java/util/TreeMap$EntrySet")) (by decide : _ = some (.object "java/util/Comparator"))))), ((((T.2.2.2.2.2.keep K3 nin0).other W5 (Or.inr (slot_ne (Or.inl (wi hw 271 rfl)) (Or.inl (wi hw 137 rfl)) (by decide) (by decide : _ = some (.object "java/util/TreeMap$Entry")) (by decide : _ = some .int)))).other W8 (Or.inr (slot_ne (Or.inl (wi hw 271 rfl)) (Or.inl (wi hw 139 rfl)) (by decide) (by decide : _ = some (.object "java/util/TreeMap$Entry")) (by decide : _ = some .int)))).other W11 (Or.inr (slot_ne (Or.inl (wi hw 271 rfl)) (Or.inr (wi hw 141 rfl)) (by decide) (by decide : _ = some (.object "java/util/TreeMap$Entry")) (by decide : _ = some (.object "java/util/Comparator")))))⟩) rfl (lenOf pd_10 rfl) rfl (by decide) (Nat.le_of_eq rfl) (by decide) (by decide) (by decide) (List.forall_mem_cons.mpr ⟨(List.Mem.tail _ (List.Mem.head _)), (fun _ q => nomatch q)⟩) (cells' := 2) (slots' := 6) rfl rfl (pc' := 24) rfl (fun r14 h17 q15 K16 => ?_)
  obtain ⟨d18, rfl, O19⟩ := q15
  show Run _ _ _ _ _ _ _ _ _ _ _ _ _ _ _ _ _ _ _ _ _ (mkF m 24 #[.val (.ref t), .val (.ref q0)] [])
  refine GoKit.retVoid G d21_24 rfl (by decide) (by decide) ?_
  exact ⟨_, rfl, ⟨(((((T.1.keep K3).wr W5).wr W8).wr W11).keep K16), (((F7.other W8 (Or.inr (slot_ne (Or.inl (wi hw 137 rfl)) (Or.inl (wi hw 139 rfl)) (by decide) (by decide : _ = some .int) (by decide : _ = some .int)))).other W11 (Or.inr (slot_ne (Or.inl (wi hw 137 rfl)) (Or.inr (wi hw 141 rfl)) (by decide) (by decide : _ = some .int) (by decide : _ = some (.object "java/util/Comparator"))))).keep K16 (ninS (Exa.ne T.1 M.1 (by decide)) nin0)), ((F10.other W11 (Or.inr (slot_ne (Or.inl (wi hw 139 rfl)) (Or.inr (wi hw 141 rfl)) (by decide) (by decide : _ = some .int) (by decide : _ = some (.object "java/util/Comparator"))))).keep K16 (ninS (Exa.ne T.1 M.1 (by decide)) nin0)), (F13.keep K16 (ninS (Exa.ne T.1 M.1 (by decide)) nin0)), (((((T.2.2.2.2.1.keep K3 nin0).other W5 (Or.inr (slot_ne (Or.inl (wi hw 242 rfl)) (Or.inl (wi hw 137 rfl)) (by decide) (by decide : _ = some (.object "java/util/TreeMap$EntrySet")) (by decide : _ = some .int)))).other W8 (Or.inr (slot_ne (Or.inl (wi hw 242 rfl)) (Or.inl (wi hw 139 rfl)) (by decide) (by decide : _ = some (.object "java/util/TreeMap$EntrySet")) (by decide : _ = some .int)))).other W11 (Or.inr (slot_ne (Or.inl (wi hw 242 rfl)) (Or.inr (wi hw 141 rfl)) (by decide) (by decide : _ = some (.object "java/util/TreeMap$EntrySet")) (by decide : _ = some (.object "java/util/Comparator"))))).keep K16 (ninS (Exa.ne T.1 M.1 (by decide)) nin0)), (((((T.2.2.2.2.2.keep K3 nin0).other W5 (Or.inr (slot_ne (Or.inl (wi hw 271 rfl)) (Or.inl (wi hw 137 rfl)) (by decide) (by decide : _ = some (.object "java/util/TreeMap$Entry")) (by decide : _ = some .int)))).other W8 (Or.inr (slot_ne (Or.inl (wi hw 271 rfl)) (Or.inl (wi hw 139 rfl)) (by decide) (by decide : _ = some (.object "java/util/TreeMap$Entry")) (by decide : _ = some .int)))).other W11 (Or.inr (slot_ne (Or.inl (wi hw 271 rfl)) (Or.inr (wi hw 141 rfl)) (by decide) (by decide : _ = some (.object "java/util/TreeMap$Entry")) (by decide : _ = some (.object "java/util/Comparator"))))).keep K16 (ninS (Exa.ne T.1 M.1 (by decide)) nin0))⟩, ⟨O19.1.1, O19.1.2.1, O19.1.2.2.1, O19.1.2.2.2.1, O19.1.2.2.2.2.1, O19.1.2.2.2.2.2⟩, ⟨O19.2.1, O19.2.2⟩⟩
abbrev rm_con_tmF : Room := { frames := 6, cells := 1, slots := 5, locals := 82 }
set_option maxRecDepth 65536 in
set_option maxHeartbeats 40000000 in
theorem con_tmF (l : Launch) {Z : State} {a0 : Array Value} (hw : ∀ d ∈ tables_1, d.before a0 Z = true) {n0 : Nat} {h0 : Heap} {q0 b : Addr} {kv : Value} (M : Exa Z h0 q0 "java/util/HashMap" ∧ Fld Z h0 q0 "java/util/HashMap" "size" "I" (.int 0) ∧ Fld Z h0 q0 "java/util/HashMap" "modCount" "I" (.int 0) ∧ Fld Z h0 q0 "java/util/HashMap" "table" "[Ljava/util/HashMap$Node;" .null ∧ Fld Z h0 q0 "java/util/HashMap" "entrySet" "Ljava/util/Set;" (.ref b) ∧ Fld Z h0 q0 "java/util/AbstractMap" "keySet" "Ljava/util/Set;" kv) (S : Exa Z h0 b "java/util/HashMap$EntrySet" ∧ Fld Z h0 b "java/util/HashMap$EntrySet" "this$0" "Ljava/util/HashMap;" (.ref q0)) {t : Addr} (T : Exa Z h0 t "java/util/TreeMap" ∧ Fld Z h0 t "java/util/TreeMap" "size" "I" (.int 0) ∧ Fld Z h0 t "java/util/TreeMap" "modCount" "I" (.int 0) ∧ Fld Z h0 t "java/util/TreeMap" "comparator" "Ljava/util/Comparator;" .null ∧ Fld Z h0 t "java/util/TreeMap" "entrySet" "Ljava/util/TreeMap$EntrySet;" .null ∧ Fld Z h0 t "java/util/TreeMap" "root" "Ljava/util/TreeMap$Entry;" .null) :
    Con l Z false false ELs n0 (⟨"java/util/TreeMap", "<init>", "(Ljava/util/Map;)V"⟩ : MethodName) jdk_2729_method_3_code 2 none rm_con_tmF [] #[(.ref t), (.ref q0)] h0 [t] (fun v h => v = none ∧ Exa Z h t "java/util/TreeMap" ∧ Fld Z h t "java/util/TreeMap" "size" "I" (.int 0) ∧ Fld Z h t "java/util/TreeMap" "modCount" "I" (.int 0) ∧ Fld Z h t "java/util/TreeMap" "comparator" "Ljava/util/Comparator;" .null ∧ Fld Z h t "java/util/TreeMap" "entrySet" "Ljava/util/TreeMap$EntrySet;" .null ∧ Fld Z h t "java/util/TreeMap" "root" "Ljava/util/TreeMap$Entry;" .null) := by
  refine Con.intro (plainFor_of_name pn_java_util_TreeMap) (hELs hw) ?_
  intro p e s m below meth c hh G
  refine castRun (g' := mkF m 0 #[.val (.ref t), .val (.ref q0)] []) (by first | rfl | (simp [entryFrame, mkF, argsToLocals, Value.category, maxLocals]; done)) ?_
  refine GoKit.aloadN G d21_0 rfl rfl (pc' := 1) rfl ?_
  refine GoKit.callSpecial G d21_1 rfl (wi hw 134 rfl) (wi hw 99 rfl) (wi hw 102 rfl) (wi hw 103 rfl) (by decide) (owc := []) (W := 0) (argsL := []) (rest := []) (con_absmap l hw) rfl (lenOf pd_0 rfl) rfl (by decide) (Nat.le_of_eq rfl) (by decide) (by decide) (by decide) (fun _ q => nomatch q) (cells' := 0) (slots' := 0) rfl rfl (pc' := 4) rfl (fun r1 h4 q2 K3 => ?_)
  obtain rfl := q2
  show Run _ _ _ _ _ _ _ _ _ _ _ _ _ _ _ _ _ _ _ _ _ (mkF m 4 #[.val (.ref t), .val (.ref q0)] [])
  refine GoKit.aloadN G d21_4 rfl rfl (pc' := 5) rfl ?_
  refine GoKit.iconst G (0 : Int32) d21_5 rfl (pc' := 6) rfl ?_
  refine GoKit.putf G d21_6 (wi hw 136 rfl) Via.refl (T.2.1.keep K3 nin0) (T.1.keep K3) (Or.inl (wi hw 137 rfl)) (wi hw 129 rfl) (ty := .int) (by decide) rfl rfl (List.Mem.head _) (pc' := 9) rfl (fun h6 W5 => ?_)
  have F7 := ((T.2.1.keep K3 nin0)).same W5
  refine GoKit.aloadN G d21_9 rfl rfl (pc' := 10) rfl ?_
  refine GoKit.iconst G (0 : Int32) d21_10 rfl (pc' := 11) rfl ?_
  refine GoKit.putf G d21_11 (wi hw 138 rfl) Via.refl ((T.2.2.1.keep K3 nin0).other W5 (Or.inr (slot_ne (Or.inl (wi hw 139 rfl)) (Or.inl (wi hw 137 rfl)) (by decide) (by decide : _ = some .int) (by decide : _ = some .int)))) ((T.1.keep K3).wr W5) (Or.inl (wi hw 139 rfl)) (wi hw 129 rfl) (ty := .int) (by decide) rfl rfl (List.Mem.head _) (pc' := 14) rfl (fun h9 W8 => ?_)
  have F10 := (((T.2.2.1.keep K3 nin0).other W5 (Or.inr (slot_ne (Or.inl (wi hw 139 rfl)) (Or.inl (wi hw 137 rfl)) (by decide) (by decide : _ = some .int) (by decide : _ = some .int))))).same W8
  refine GoKit.aloadN G d21_14 rfl rfl (pc' := 15) rfl ?_
  refine GoKit.aconstNull G d21_15 (pc' := 16) rfl ?_
  refine GoKit.putf G d21_16 (wi hw 140 rfl) Via.refl (((T.2.2.2.1.keep K3 nin0).other W5 (Or.inr (slot_ne (Or.inr (wi hw 141 rfl)) (Or.inl (wi hw 137 rfl)) (by decide) (by decide : _ = some (.object "java/util/Comparator")) (by decide : _ = some .int)))).other W8 (Or.inr (slot_ne (Or.inr (wi hw 141 rfl)) (Or.inl (wi hw 139 rfl)) (by decide) (by decide : _ = some (.object "java/util/Comparator")) (by decide : _ = some .int)))) (((T.1.keep K3).wr W5).wr W8) (Or.inr ⟨(wi hw 141 rfl), rfl, rfl⟩) (wi hw 129 rfl) (ty := (.object "java/util/Comparator")) (by decide) rfl rfl (List.Mem.head _) (pc' := 19) rfl (fun h12 W11 => ?_)
  have F13 := ((((T.2.2.2.1.keep K3 nin0).other W5 (Or.inr (slot_ne (Or.inr (wi hw 141 rfl)) (Or.inl (wi hw 137 rfl)) (by decide) (by decide : _ = some (.object "java/util/Comparator")) (by decide : _ = some .int)))).other W8 (Or.inr (slot_ne (Or.inr (wi hw 141 rfl)) (Or.inl (wi hw 139 rfl)) (by decide) (by decide : _ = some (.object "java/util/Comparator")) (by decide : _ = some .int))))).same W11
  refine GoKit.aloadN G d21_19 rfl rfl (pc' := 20) rfl ?_
  refine GoKit.aloadN G d21_20 rfl rfl (pc' := 21) rfl ?_
  refine GoKit.callVirtualH G rfl d21_21 (wi hw 142 rfl) (wi hw 143 rfl) (wi hw 145 rfl) (nface (wi hw 145 rfl)) (wi hw 144 rfl) (wi hw 130 rfl) (wi hw 146 rfl) (by decide) ((((T.1.keep K3).wr W5).wr W8).wr W11) (owc := []) (W := 0) (argsL := [(.ref q0)]) (rest := []) (con_ptF l hw ⟨((((M.1.keep K3).wr W5).wr W8).wr W11), ((((M.2.1.keep K3 nin0).other W5 (Or.inl (Exa.ne M.1 T.1 (by decide)))).other W8 (Or.inl (Exa.ne M.1 T.1 (by decide)))).other W11 (Or.inl (Exa.ne M.1 T.1 (by decide)))), ((((M.2.2.1.keep K3 nin0).other W5 (Or.inl (Exa.ne M.1 T.1 (by decide)))).other W8 (Or.inl (Exa.ne M.1 T.1 (by decide)))).other W11 (Or.inl (Exa.ne M.1 T.1 (by decide)))), ((((M.2.2.2.1.keep K3 nin0).other W5 (Or.inl (Exa.ne M.1 T.1 (by decide)))).other W8 (Or.inl (Exa.ne M.1 T.1 (by decide)))).other W11 (Or.inl (Exa.ne M.1 T.1 (by decide)))), ((((M.2.2.2.2.1.keep K3 nin0).other W5 (Or.inl (Exa.ne M.1 T.1 (by decide)))).other W8 (Or.inl (Exa.ne M.1 T.1 (by decide)))).other W11 (Or.inl (Exa.ne M.1 T.1 (by decide)))), ((((M.2.2.2.2.2.keep K3 nin0).other W5 (Or.inl (Exa.ne M.1 T.1 (by decide)))).other W8 (Or.inl (Exa.ne M.1 T.1 (by decide)))).other W11 (Or.inl (Exa.ne M.1 T.1 (by decide))))⟩ ⟨((((S.1.keep K3).wr W5).wr W8).wr W11), ((((S.2.keep K3 nin0).other W5 (Or.inl (Exa.ne S.1 T.1 (by decide)))).other W8 (Or.inl (Exa.ne S.1 T.1 (by decide)))).other W11 (Or.inl (Exa.ne S.1 T.1 (by decide))))⟩ ⟨((((T.1.keep K3).wr W5).wr W8).wr W11), ((F7.other W8 (Or.inr (slot_ne (Or.inl (wi hw 137 rfl)) (Or.inl (wi hw 139 rfl)) (by decide) (by decide : _ = some .int) (by decide : _ = some .int)))).other W11 (Or.inr (slot_ne (Or.inl (wi hw 137 rfl)) (Or.inr (wi hw 141 rfl)) (by decide) (by decide : _ = some .int) (by decide : _ = some (.object "java/util/Comparator"))))), (F10.other W11 (Or.inr (slot_ne (Or.inl (wi hw 139 rfl)) (Or.inr (wi hw 141 rfl)) (by decide) (by decide : _ = some .int) (by decide : _ = some (.object "java/util/Comparator"))))), F13, ((((T.2.2.2.2.1.keep K3 nin0).other W5 (Or.inr (slot_ne (Or.inl (wi hw 242 rfl)) (Or.inl (wi hw 137 rfl)) (by decide) (by decide : _ = some (.object "java/util/TreeMap$EntrySet")) (by decide : _ = some .int)))).other W8 (Or.inr (slot_ne (Or.inl (wi hw 242 rfl)) (Or.inl (wi hw 139 rfl)) (by decide) (by decide : _ = some (.object "java/util/TreeMap$EntrySet")) (by decide : _ = some .int)))).other W11 (Or.inr (slot_ne (Or.inl (wi hw 242 rfl)) (Or.inr (wi hw 141 rfl)) (by decide) (by decide : _ = some (.object "java/util/TreeMap$EntrySet")) (by decide : _ = some (.object "java/util/Comparator"))))), ((((T.2.2.2.2.2.keep K3 nin0).other W5 (Or.inr (slot_ne (Or.inl (wi hw 271 rfl)) (Or.inl (wi hw 137 rfl)) (by decide) (by decide : _ = some (.object "java/util/TreeMap$Entry")) (by decide : _ = some .int)))).other W8 (Or.inr (slot_ne (Or.inl (wi hw 271 rfl)) (Or.inl (wi hw 139 rfl)) (by decide) (by decide : _ = some (.object "java/util/TreeMap$Entry")) (by decide : _ = some .int)))).other W11 (Or.inr (slot_ne (Or.inl (wi hw 271 rfl)) (Or.inr (wi hw 141 rfl)) (by decide) (by decide : _ = some (.object "java/util/TreeMap$Entry")) (by decide : _ = some (.object "java/util/Comparator")))))⟩) rfl (lenOf pd_10 rfl) rfl (by decide) (Nat.le_of_eq rfl) (by decide) (by decide) (by decide) (fun _ q => nomatch q) (cells' := 1) (slots' := 5) rfl rfl (pc' := 24) rfl (fun r14 h17 q15 K16 => ?_)
  obtain rfl := q15
  show Run _ _ _ _ _ _ _ _ _ _ _ _ _ _ _ _ _ _ _ _ _ (mkF m 24 #[.val (.ref t), .val (.ref q0)] [])
  refine GoKit.retVoid G d21_24 rfl (by decide) (by decide) ?_
  exact ⟨rfl, ⟨(((((T.1.keep K3).wr W5).wr W8).wr W11).keep K16), (((F7.other W8 (Or.inr (slot_ne (Or.inl (wi hw 137 rfl)) (Or.inl (wi hw 139 rfl)) (by decide) (by decide : _ = some .int) (by decide : _ = some .int)))).other W11 (Or.inr (slot_ne (Or.inl (wi hw 137 rfl)) (Or.inr (wi hw 141 rfl)) (by decide) (by decide : _ = some .int) (by decide : _ = some (.object "java/util/Comparator"))))).keep K16 nin0), ((F10.other W11 (Or.inr (slot_ne (Or.inl (wi hw 139 rfl)) (Or.inr (wi hw 141 rfl)) (by decide) (by decide : _ = some .int) (by decide : _ = some (.object "java/util/Comparator"))))).keep K16 nin0), (F13.keep K16 nin0), (((((T.2.2.2.2.1.keep K3 nin0).other W5 (Or.inr (slot_ne (Or.inl (wi hw 242 rfl)) (Or.inl (wi hw 137 rfl)) (by decide) (by decide : _ = some (.object "java/util/TreeMap$EntrySet")) (by decide : _ = some .int)))).other W8 (Or.inr (slot_ne (Or.inl (wi hw 242 rfl)) (Or.inl (wi hw 139 rfl)) (by decide) (by decide : _ = some (.object "java/util/TreeMap$EntrySet")) (by decide : _ = some .int)))).other W11 (Or.inr (slot_ne (Or.inl (wi hw 242 rfl)) (Or.inr (wi hw 141 rfl)) (by decide) (by decide : _ = some (.object "java/util/TreeMap$EntrySet")) (by decide : _ = some (.object "java/util/Comparator"))))).keep K16 nin0), (((((T.2.2.2.2.2.keep K3 nin0).other W5 (Or.inr (slot_ne (Or.inl (wi hw 271 rfl)) (Or.inl (wi hw 137 rfl)) (by decide) (by decide : _ = some (.object "java/util/TreeMap$Entry")) (by decide : _ = some .int)))).other W8 (Or.inr (slot_ne (Or.inl (wi hw 271 rfl)) (Or.inl (wi hw 139 rfl)) (by decide) (by decide : _ = some (.object "java/util/TreeMap$Entry")) (by decide : _ = some .int)))).other W11 (Or.inr (slot_ne (Or.inl (wi hw 271 rfl)) (Or.inr (wi hw 141 rfl)) (by decide) (by decide : _ = some (.object "java/util/TreeMap$Entry")) (by decide : _ = some (.object "java/util/Comparator"))))).keep K16 nin0)⟩⟩
theorem d31_0 : decode jdk_2729_method_53_code 0 = .ok (.aload_n 0, 1) := by decide +kernel
theorem d31_1 : decode jdk_2729_method_53_code 1 = .ok (.getfield 188, 3) := by decide +kernel
theorem d31_4 : decode jdk_2729_method_53_code 4 = .ok (.astore_n 1, 1) := by decide +kernel
theorem d31_5 : decode jdk_2729_method_53_code 5 = .ok (.aload_n 1, 1) := by decide +kernel
theorem d31_6 : decode jdk_2729_method_53_code 6 = .ok (.ifnull 7, 3) := by decide +kernel
theorem d31_13 : decode jdk_2729_method_53_code 13 = .ok (.aload_n 0, 1) := by decide +kernel
theorem d31_14 : decode jdk_2729_method_53_code 14 = .ok (.new 242, 3) := by decide +kernel
theorem d31_17 : decode jdk_2729_method_53_code 17 = .ok (.dup, 1) := by decide +kernel
theorem d31_18 : decode jdk_2729_method_53_code 18 = .ok (.aload_n 0, 1) := by decide +kernel
theorem d31_19 : decode jdk_2729_method_53_code 19 = .ok (.invokespecial 244, 3) := by decide +kernel
theorem pd_11 : parseMethodDescriptor "(Ljava/util/TreeMap;)V" = some ⟨[(.object "java/util/TreeMap")], none⟩ := by decide +kernel
theorem d31_22 : decode jdk_2729_method_53_code 22 = .ok (.dup_x1, 1) := by decide +kernel
theorem d31_23 : decode jdk_2729_method_53_code 23 = .ok (.putfield 188, 3) := by decide +kernel
theorem d31_26 : decode jdk_2729_method_53_code 26 = .ok (.areturn, 1) := by decide +kernel
abbrev rm_con_tms : Room := { frames := 4, cells := 1, slots := 1, locals := 51 }
set_option maxRecDepth 65536 in
set_option maxHeartbeats 40000000 in
theorem con_tms (l : Launch) {Z : State} {a0 : Array Value} (hw : ∀ d ∈ tables_1, d.before a0 Z = true) {n0 : Nat} {h0 : Heap} {t : Addr} (T : Exa Z h0 t "java/util/TreeMap" ∧ Fld Z h0 t "java/util/TreeMap" "size" "I" (.int 0) ∧ Fld Z h0 t "java/util/TreeMap" "modCount" "I" (.int 0) ∧ Fld Z h0 t "java/util/TreeMap" "comparator" "Ljava/util/Comparator;" .null ∧ Fld Z h0 t "java/util/TreeMap" "entrySet" "Ljava/util/TreeMap$EntrySet;" .null ∧ Fld Z h0 t "java/util/TreeMap" "root" "Ljava/util/TreeMap$Entry;" .null) :
    Con l Z false false ELs n0 (⟨"java/util/TreeMap", "entrySet", "()Ljava/util/Set;"⟩ : MethodName) jdk_2729_method_53_code 2 (some (.object "java/util/Set")) rm_con_tms [] #[(.ref t)] h0 [t] (fun v h => ∃ d, v = some (.ref d) ∧ (Exa Z h t "java/util/TreeMap" ∧ Fld Z h t "java/util/TreeMap" "size" "I" (.int 0) ∧ Fld Z h t "java/util/TreeMap" "modCount" "I" (.int 0) ∧ Fld Z h t "java/util/TreeMap" "comparator" "Ljava/util/Comparator;" .null ∧ Fld Z h t "java/util/TreeMap" "entrySet" "Ljava/util/TreeMap$EntrySet;" (.ref d) ∧ Fld Z h t "java/util/TreeMap" "root" "Ljava/util/TreeMap$Entry;" .null) ∧ Exa Z h d "java/util/TreeMap$EntrySet" ∧ Fld Z h d "java/util/TreeMap$EntrySet" "this$0" "Ljava/util/TreeMap;" (.ref t)) := by
  refine Con.intro (plainFor_of_name pn_java_util_TreeMap) (hELs hw) ?_
  intro p e s m below meth c hh G
  refine castRun (g' := mkF m 0 #[.val (.ref t), .unset] []) (by first | rfl | (simp [entryFrame, mkF, argsToLocals, Value.category, maxLocals]; done)) ?_
  refine GoKit.aloadN G d31_0 rfl rfl (pc' := 1) rfl ?_
  refine GoKit.getf G d31_1 (wi hw 241 rfl) Via.refl T.2.2.2.2.1 (pc' := 4) rfl ?_
  refine GoKit.astoreN G d31_4 rfl (Ls' := #[.val (.ref t), .val .null]) rfl (pc' := 5) rfl ?_
  refine GoKit.aloadN G d31_5 rfl rfl (pc' := 6) rfl ?_
  refine GoKit.ifnull_t G d31_6 (by decide) (pc' := 13) rfl ?_
  refine GoKit.aloadN G d31_13 rfl rfl (pc' := 14) rfl ?_
  refine GoKit.newobj G d31_14 (wi hw 243 rfl) (wi hw 244 rfl) (wi hw 245 rfl) (by decide) (by decide) (cells' := 1) (slots' := 1) rfl rfl (pc' := 17) rfl (fun h5 a1 ga1 E2 X3 D4 => ?_)
  have F6 : Fld Z h5 a1 "java/util/TreeMap$EntrySet" "this$0" "Ljava/util/TreeMap;" .null := D4 (Or.inr (wi hw 251 rfl)) (ty := (.object "java/util/TreeMap")) (by decide)
  refine GoKit.dup G d31_17 rfl (pc' := 18) rfl ?_
  refine GoKit.aloadN G d31_18 rfl rfl (pc' := 19) rfl ?_
  refine GoKit.callSpecial G d31_19 rfl (wi hw 246 rfl) (wi hw 247 rfl) (wi hw 245 rfl) (wi hw 249 rfl) (by decide) (owc := [a1]) (W := 2) (argsL := [(.ref t)]) (rest := [(.ref a1), (.ref t)]) (con_tesinit l hw ⟨X3, F6⟩) rfl (lenOf pd_11 rfl) rfl (by decide) (Nat.le_of_eq rfl) (by decide) (by decide) (by decide) (List.forall_mem_cons.mpr ⟨(List.Mem.head _), (fun _ q => nomatch q)⟩) (cells' := 1) (slots' := 1) rfl rfl (pc' := 22) rfl (fun r7 h10 q8 K9 => ?_)
  obtain ⟨rfl, O11⟩ := q8
  show Run _ _ _ _ _ _ _ _ _ _ _ _ _ _ _ _ _ _ _ _ _ (mkF m 22 #[.val (.ref t), .val .null] [(.ref a1), (.ref t)])
  refine GoKit.dupX1 G d31_22 rfl rfl (pc' := 23) rfl ?_
  refine GoKit.putf G d31_23 (wi hw 241 rfl) Via.refl ((T.2.2.2.2.1.ext E2).keep K9 (ninS (Nat.ne_of_lt (Nat.lt_of_lt_of_le (T.2.2.2.2.2).lt (Nat.le_of_eq ga1.symm))) nin0)) ((T.1.ext E2).keep K9) (Or.inl (wi hw 242 rfl)) (wi hw 129 rfl) (ty := (.object "java/util/TreeMap$EntrySet")) (by decide) rfl rfl (List.Mem.tail _ (List.Mem.head _)) (pc' := 26) rfl (fun h13 W12 => ?_)
  have F14 := (((T.2.2.2.2.1.ext E2).keep K9 (ninS (Nat.ne_of_lt (Nat.lt_of_lt_of_le (T.2.2.2.2.2).lt (Nat.le_of_eq ga1.symm))) nin0))).same W12
  refine GoKit.retRef G rfl d31_26 rfl rfl rfl (by decide) (by decide) ?_
  exact ⟨_, rfl, ⟨(((T.1.ext E2).keep K9).wr W12), (((T.2.1.ext E2).keep K9 (ninS (Nat.ne_of_lt (Nat.lt_of_lt_of_le (T.2.2.2.2.2).lt (Nat.le_of_eq ga1.symm))) nin0)).other W12 (Or.inr (slot_ne (Or.inl (wi hw 137 rfl)) (Or.inl (wi hw 242 rfl)) (by decide) (by decide : _ = some .int) (by decide : _ = some (.object "java/util/TreeMap$EntrySet"))))), (((T.2.2.1.ext E2).keep K9 (ninS (Nat.ne_of_lt (Nat.lt_of_lt_of_le (T.2.2.2.2.2).lt (Nat.le_of_eq ga1.symm))) nin0)).other W12 (Or.inr (slot_ne (Or.inl (wi hw 139 rfl)) (Or.inl (wi hw 242 rfl)) (by decide) (by decide : _ = some .int) (by decide : _ = some (.object "java/util/TreeMap$EntrySet"))))), (((T.2.2.2.1.ext E2).keep K9 (ninS (Nat.ne_of_lt (Nat.lt_of_lt_of_le (T.2.2.2.2.2).lt (Nat.le_of_eq ga1.symm))) nin0)).other W12 (Or.inr (slot_ne (Or.inr (wi hw 141 rfl)) (Or.inl (wi hw 242 rfl)) (by decide) (by decide : _ = some (.object "java/util/Comparator")) (by decide : _ = some (.object "java/util/TreeMap$EntrySet"))))), F14, (((T.2.2.2.2.2.ext E2).keep K9 (ninS (Nat.ne_of_lt (Nat.lt_of_lt_of_le (T.2.2.2.2.2).lt (Nat.le_of_eq ga1.symm))) nin0)).other W12 (Or.inr (slot_ne (Or.inl (wi hw 271 rfl)) (Or.inl (wi hw 242 rfl)) (by decide) (by decide : _ = some (.object "java/util/TreeMap$Entry")) (by decide : _ = some (.object "java/util/TreeMap$EntrySet")))))⟩, ⟨(O11.1.wr W12), (O11.2.other W12 (Or.inl (Ne.symm (Nat.ne_of_lt (Nat.lt_of_lt_of_le (T.2.2.2.2.2).lt (Nat.le_of_eq ga1.symm))))))⟩⟩
theorem d34_0 : decode jdk_2729_method_72_code 0 = .ok (.aload_n 0, 1) := by decide +kernel
theorem d34_1 : decode jdk_2729_method_72_code 1 = .ok (.getfield 101, 3) := by decide +kernel
theorem d34_4 : decode jdk_2729_method_72_code 4 = .ok (.astore_n 1, 1) := by decide +kernel
theorem d34_5 : decode jdk_2729_method_72_code 5 = .ok (.aload_n 1, 1) := by decide +kernel
theorem d34_6 : decode jdk_2729_method_72_code 6 = .ok (.ifnull 18, 3) := by decide +kernel
theorem d34_24 : decode jdk_2729_method_72_code 24 = .ok (.aload_n 1, 1) := by decide +kernel
theorem d34_25 : decode jdk_2729_method_72_code 25 = .ok (.areturn, 1) := by decide +kernel
abbrev rm_con_gfe : Room := { frames := 0, cells := 0, slots := 0, locals := 0 }
set_option maxRecDepth 65536 in
set_option maxHeartbeats 40000000 in
theorem con_gfe (l : Launch) {Z : State} {a0 : Array Value} (hw : ∀ d ∈ tables_1, d.before a0 Z = true) {n0 : Nat} {h0 : Heap} {t : Addr} (T : Exa Z h0 t "java/util/TreeMap" ∧ Fld Z h0 t "java/util/TreeMap" "modCount" "I" (.int 0) ∧ Fld Z h0 t "java/util/TreeMap" "root" "Ljava/util/TreeMap$Entry;" .null) :
    Con l Z false false ELs n0 (⟨"java/util/TreeMap", "getFirstEntry", "()Ljava/util/TreeMap$Entry;"⟩ : MethodName) jdk_2729_method_72_code 2 (some (.object "java/util/TreeMap$Entry")) rm_con_gfe [] #[(.ref t)] h0 [] (fun v h => v = some .null ∧ h = h0) := by
  refine Con.intro (plainFor_of_name pn_java_util_TreeMap) (hELs hw) ?_
  intro p e s m below meth c hh G
  refine castRun (g' := mkF m 0 #[.val (.ref t), .unset] []) (by first | rfl | (simp [entryFrame, mkF, argsToLocals, Value.category, maxLocals]; done)) ?_
  refine GoKit.aloadN G d34_0 rfl rfl (pc' := 1) rfl ?_
  refine GoKit.getf G d34_1 (wi hw 270 rfl) Via.refl T.2.2 (pc' := 4) rfl ?_
  refine GoKit.astoreN G d34_4 rfl (Ls' := #[.val (.ref t), .val .null]) rfl (pc' := 5) rfl ?_
  refine GoKit.aloadN G d34_5 rfl rfl (pc' := 6) rfl ?_
  refine GoKit.ifnull_t G d34_6 (by decide) (pc' := 24) rfl ?_
  refine GoKit.aloadN G d34_24 rfl rfl (pc' := 25) rfl ?_
  refine GoKit.retRef G rfl d34_25 rfl rfl rfl (by decide) (by decide) ?_
  exact ⟨rfl, rfl⟩
theorem d36_0 : decode jdk_2750_method_1_code 0 = .ok (.aload_n 0, 1) := by decide +kernel
theorem d36_1 : decode jdk_2750_method_1_code 1 = .ok (.aload_n 1, 1) := by decide +kernel
theorem d36_2 : decode jdk_2750_method_1_code 2 = .ok (.putfield 1, 3) := by decide +kernel
theorem d36_5 : decode jdk_2750_method_1_code 5 = .ok (.aload_n 0, 1) := by decide +kernel
theorem d36_6 : decode jdk_2750_method_1_code 6 = .ok (.invokespecial 7, 3) := by decide +kernel
theorem d36_9 : decode jdk_2750_method_1_code 9 = .ok (.aload_n 0, 1) := by decide +kernel
theorem d36_10 : decode jdk_2750_method_1_code 10 = .ok (.aload_n 1, 1) := by decide +kernel
theorem d36_11 : decode jdk_2750_method_1_code 11 = .ok (.getfield 13, 3) := by decide +kernel
theorem d36_14 : decode jdk_2750_method_1_code 14 = .ok (.putfield 19, 3) := by decide +kernel
theorem d36_17 : decode jdk_2750_method_1_code 17 = .ok (.aload_n 0, 1) := by decide +kernel
theorem d36_18 : decode jdk_2750_method_1_code 18 = .ok (.aconst_null, 1) := by decide +kernel
theorem d36_19 : decode jdk_2750_method_1_code 19 = .ok (.putfield 22, 3) := by decide +kernel
theorem d36_22 : decode jdk_2750_method_1_code 22 = .ok (.aload_n 0, 1) := by decide +kernel
theorem d36_23 : decode jdk_2750_method_1_code 23 = .ok (.aload_n 2, 1) := by decide +kernel
theorem d36_24 : decode jdk_2750_method_1_code 24 = .ok (.putfield 26, 3) := by decide +kernel
theorem d36_27 : decode jdk_2750_method_1_code 27 = .ok (.return_, 1) := by decide +kernel
theorem pn_java_util_TreeMap_PrivateEntryIterator : plainName "java/util/TreeMap$PrivateEntryIterator" = true := by first | (simp [plainName, overriddenIn]; done) | decide +kernel
abbrev rm_con_pei : Room := { frames := 1, cells := 0, slots := 0, locals := 12 }
set_option maxRecDepth 65536 in
set_option maxHeartbeats 40000000 in
theorem con_pei (l : Launch) {Z : State} {a0 : Array Value} (hw : ∀ d ∈ tables_1, d.before a0 Z = true) {n0 : Nat} {h0 : Heap} {a t : Addr} (O : Exa Z h0 a "java/util/TreeMap$EntryIterator" ∧ Fld Z h0 a "java/util/TreeMap$PrivateEntryIterator" "this$0" "Ljava/util/TreeMap;" .null ∧ Fld Z h0 a "java/util/TreeMap$PrivateEntryIterator" "expectedModCount" "I" (.int 0) ∧ Fld Z h0 a "java/util/TreeMap$PrivateEntryIterator" "lastReturned" "Ljava/util/TreeMap$Entry;" .null ∧ Fld Z h0 a "java/util/TreeMap$PrivateEntryIterator" "next" "Ljava/util/TreeMap$Entry;" .null) (T : Exa Z h0 t "java/util/TreeMap" ∧ Fld Z h0 t "java/util/TreeMap" "modCount" "I" (.int 0) ∧ Fld Z h0 t "java/util/TreeMap" "root" "Ljava/util/TreeMap$Entry;" .null) :
    Con l Z false false ELs n0 (⟨"java/util/TreeMap$PrivateEntryIterator", "<init>", "(Ljava/util/TreeMap;Ljava/util/TreeMap$Entry;)V"⟩ : MethodName) jdk_2750_method_1_code 3 none rm_con_pei [] #[(.ref a), (.ref t), .null] h0 [a] (fun v h => v = none ∧ Exa Z h a "java/util/TreeMap$EntryIterator" ∧ Fld Z h a "java/util/TreeMap$PrivateEntryIterator" "this$0" "Ljava/util/TreeMap;" (.ref t) ∧ Fld Z h a "java/util/TreeMap$PrivateEntryIterator" "expectedModCount" "I" (.int 0) ∧ Fld Z h a "java/util/TreeMap$PrivateEntryIterator" "lastReturned" "Ljava/util/TreeMap$Entry;" .null ∧ Fld Z h a "java/util/TreeMap$PrivateEntryIterator" "next" "Ljava/util/TreeMap$Entry;" .null) := by
  refine Con.intro (plainFor_of_name pn_java_util_TreeMap_PrivateEntryIterator) (hELs hw) ?_
  intro p e s m below meth c hh G
  refine castRun (g' := mkF m 0 #[.val (.ref a), .val (.ref t), .val .null] []) (by first | rfl | (simp [entryFrame, mkF, argsToLocals, Value.category, maxLocals]; done)) ?_
  refine GoKit.aloadN G d36_0 rfl rfl (pc' := 1) rfl ?_
  refine GoKit.aloadN G d36_1 rfl rfl (pc' := 2) rfl ?_
  refine GoKit.putf G d36_2 (wi hw 282 rfl) Via.refl O.2.1 O.1 (Or.inr ⟨(wi hw 283 rfl), rfl, rfl⟩) (wi hw 263 rfl) (ty := (.object "java/util/TreeMap")) (by decide) rfl rfl (List.Mem.head _) (pc' := 5) rfl (fun h2 W1 => ?_)
  have F3 := (O.2.1).same W1
  refine GoKit.aloadN G d36_5 rfl rfl (pc' := 6) rfl ?_
  refine GoKit.initObj G d36_6 (wi hw 284 rfl) (wi hw 21 rfl) (wi hw 22 rfl) rfl (by decide) (W := 0) (Nat.le_of_eq rfl) (by decide) (pc' := 9) rfl ?_
  refine GoKit.aloadN G d36_9 rfl rfl (pc' := 10) rfl ?_
  refine GoKit.aloadN G d36_10 rfl rfl (pc' := 11) rfl ?_
  refine GoKit.getfR G d36_11 (wi hw 285 rfl) Via.refl (T.2.1.other W1 (Or.inl (Exa.ne T.1 O.1 (by decide)))) (pc' := 14) rfl ?_
  refine GoKit.putf G d36_14 (wi hw 286 rfl) Via.refl (O.2.2.1.other W1 (Or.inr (slot_ne (Or.inl (wi hw 287 rfl)) (Or.inr (wi hw 283 rfl)) (by decide) (by decide : _ = some .int) (by decide : _ = some (.object "java/util/TreeMap"))))) (O.1.wr W1) (Or.inl (wi hw 287 rfl)) (wi hw 263 rfl) (ty := .int) (by decide) rfl rfl (List.Mem.head _) (pc' := 17) rfl (fun h5 W4 => ?_)
  have F6 := ((O.2.2.1.other W1 (Or.inr (slot_ne (Or.inl (wi hw 287 rfl)) (Or.inr (wi hw 283 rfl)) (by decide) (by decide : _ = some .int) (by decide : _ = some (.object "java/util/TreeMap")))))).same W4
  refine GoKit.aloadN G d36_17 rfl rfl (pc' := 18) rfl ?_
  refine GoKit.aconstNull G d36_18 (pc' := 19) rfl ?_
  refine GoKit.putf G d36_19 (wi hw 288 rfl) Via.refl ((O.2.2.2.1.other W1 (Or.inr (slot_ne (Or.inl (wi hw 289 rfl)) (Or.inr (wi hw 283 rfl)) (by decide) (by decide : _ = some (.object "java/util/TreeMap$Entry")) (by decide : _ = some (.object "java/util/TreeMap"))))).other W4 (Or.inr (slot_ne (Or.inl (wi hw 289 rfl)) (Or.inl (wi hw 287 rfl)) (by decide) (by decide : _ = some (.object "java/util/TreeMap$Entry")) (by decide : _ = some .int)))) ((O.1.wr W1).wr W4) (Or.inl (wi hw 289 rfl)) (wi hw 263 rfl) (ty := (.object "java/util/TreeMap$Entry")) (by decide) rfl rfl (List.Mem.head _) (pc' := 22) rfl (fun h8 W7 => ?_)
  have F9 := (((O.2.2.2.1.other W1 (Or.inr (slot_ne (Or.inl (wi hw 289 rfl)) (Or.inr (wi hw 283 rfl)) (by decide) (by decide : _ = some (.object "java/util/TreeMap$Entry")) (by decide : _ = some (.object "java/util/TreeMap"))))).other W4 (Or.inr (slot_ne (Or.inl (wi hw 289 rfl)) (Or.inl (wi hw 287 rfl)) (by decide) (by decide : _ = some (.object "java/util/TreeMap$Entry")) (by decide : _ = some .int))))).same W7
  refine GoKit.aloadN G d36_22 rfl rfl (pc' := 23) rfl ?_
  refine GoKit.aloadN G d36_23 rfl rfl (pc' := 24) rfl ?_
  refine GoKit.putf G d36_24 (wi hw 290 rfl) Via.refl (((O.2.2.2.2.other W1 (Or.inr (slot_ne (Or.inl (wi hw 291 rfl)) (Or.inr (wi hw 283 rfl)) (by decide) (by decide : _ = some (.object "java/util/TreeMap$Entry")) (by decide : _ = some (.object "java/util/TreeMap"))))).other W4 (Or.inr (slot_ne (Or.inl (wi hw 291 rfl)) (Or.inl (wi hw 287 rfl)) (by decide) (by decide : _ = some (.object "java/util/TreeMap$Entry")) (by decide : _ = some .int)))).other W7 (Or.inr (slot_ne (Or.inl (wi hw 291 rfl)) (Or.inl (wi hw 289 rfl)) (by decide) (by decide : _ = some (.object "java/util/TreeMap$Entry")) (by decide : _ = some (.object "java/util/TreeMap$Entry"))))) (((O.1.wr W1).wr W4).wr W7) (Or.inl (wi hw 291 rfl)) (wi hw 263 rfl) (ty := (.object "java/util/TreeMap$Entry")) (by decide) rfl rfl (List.Mem.head _) (pc' := 27) rfl (fun h11 W10 => ?_)
  have F12 := ((((O.2.2.2.2.other W1 (Or.inr (slot_ne (Or.inl (wi hw 291 rfl)) (Or.inr (wi hw 283 rfl)) (by decide) (by decide : _ = some (.object "java/util/TreeMap$Entry")) (by decide : _ = some (.object "java/util/TreeMap"))))).other W4 (Or.inr (slot_ne (Or.inl (wi hw 291 rfl)) (Or.inl (wi hw 287 rfl)) (by decide) (by decide : _ = some (.object "java/util/TreeMap$Entry")) (by decide : _ = some .int)))).other W7 (Or.inr (slot_ne (Or.inl (wi hw 291 rfl)) (Or.inl (wi hw 289 rfl)) (by decide) (by decide : _ = some (.object "java/util/TreeMap$Entry")) (by decide : _ = some (.object "java/util/TreeMap$Entry")))))).same W10
  refine GoKit.retVoid G d36_27 rfl (by decide) (by decide) ?_
  exact ⟨rfl, ⟨((((O.1.wr W1).wr W4).wr W7).wr W10), (((F3.other W4 (Or.inr (slot_ne (Or.inr (wi hw 283 rfl)) (Or.inl (wi hw 287 rfl)) (by decide) (by decide : _ = some (.object "java/util/TreeMap")) (by decide : _ = some .int)))).other W7 (Or.inr (slot_ne (Or.inr (wi hw 283 rfl)) (Or.inl (wi hw 289 rfl)) (by decide) (by decide : _ = some (.object "java/util/TreeMap")) (by decide : _ = some (.object "java/util/TreeMap$Entry"))))).other W10 (Or.inr (slot_ne (Or.inr (wi hw 283 rfl)) (Or.inl (wi hw 291 rfl)) (by decide) (by decide : _ = some (.object "java/util/TreeMap")) (by decide : _ = some (.object "java/util/TreeMap$Entry"))))), ((F6.other W7 (Or.inr (slot_ne (Or.inl (wi hw 287 rfl)) (Or.inl (wi hw 289 rfl)) (by decide) (by decide : _ = some .int) (by decide : _ = some (.object "java/util/TreeMap$Entry"))))).other W10 (Or.inr (slot_ne (Or.inl (wi hw 287 rfl)) (Or.inl (wi hw 291 rfl)) (by decide) (by decide : _ = some .int) (by decide : _ = some (.object "java/util/TreeMap$Entry"))))), (F9.other W10 (Or.inr (slot_ne (Or.inl (wi hw 289 rfl)) (Or.inl (wi hw 291 rfl)) (by decide) (by decide : _ = some (.object "java/util/TreeMap$Entry")) (by decide : _ = some (.object "java/util/TreeMap$Entry"))))), F12⟩⟩
theorem d35_0 : decode jdk_2737_method_1_code 0 = .ok (.aload_n 0, 1) := by decide +kernel
theorem d35_1 : decode jdk_2737_method_1_code 1 = .ok (.aload_n 1, 1) := by decide +kernel
theorem d35_2 : decode jdk_2737_method_1_code 2 = .ok (.aload_n 2, 1) := by decide +kernel
theorem d35_3 : decode jdk_2737_method_1_code 3 = .ok (.invokespecial 1, 3) := by decide +kernel
theorem pd_12 : parseMethodDescriptor "(Ljava/util/TreeMap;Ljava/util/TreeMap$Entry;)V" = some ⟨[(.object "java/util/TreeMap"), (.object "java/util/TreeMap$Entry")], none⟩ := by decide +kernel
theorem d35_6 : decode jdk_2737_method_1_code 6 = .ok (.return_, 1) := by decide +kernel
theorem pn_java_util_TreeMap_EntryIterator : plainName "java/util/TreeMap$EntryIterator" = true := by first | (simp [plainName, overriddenIn]; done) | decide +kernel
abbrev rm_con_tei : Room := { frames := 2, cells := 0, slots := 0, locals := 26 }
set_option maxRecDepth 65536 in
set_option maxHeartbeats 40000000 in
theorem con_tei (l : Launch) {Z : State} {a0 : Array Value} (hw : ∀ d ∈ tables_1, d.before a0 Z = true) {n0 : Nat} {h0 : Heap} {a t : Addr} (O : Exa Z h0 a "java/util/TreeMap$EntryIterator" ∧ Fld Z h0 a "java/util/TreeMap$PrivateEntryIterator" "this$0" "Ljava/util/TreeMap;" .null ∧ Fld Z h0 a "java/util/TreeMap$PrivateEntryIterator" "expectedModCount" "I" (.int 0) ∧ Fld Z h0 a "java/util/TreeMap$PrivateEntryIterator" "lastReturned" "Ljava/util/TreeMap$Entry;" .null ∧ Fld Z h0 a "java/util/TreeMap$PrivateEntryIterator" "next" "Ljava/util/TreeMap$Entry;" .null) (T : Exa Z h0 t "java/util/TreeMap" ∧ Fld Z h0 t "java/util/TreeMap" "modCount" "I" (.int 0) ∧ Fld Z h0 t "java/util/TreeMap" "root" "Ljava/util/TreeMap$Entry;" .null) :
    Con l Z false false ELs n0 (⟨"java/util/TreeMap$EntryIterator", "<init>", "(Ljava/util/TreeMap;Ljava/util/TreeMap$Entry;)V"⟩ : MethodName) jdk_2737_method_1_code 3 none rm_con_tei [] #[(.ref a), (.ref t), .null] h0 [a] (fun v h => v = none ∧ Exa Z h a "java/util/TreeMap$EntryIterator" ∧ Fld Z h a "java/util/TreeMap$PrivateEntryIterator" "this$0" "Ljava/util/TreeMap;" (.ref t) ∧ Fld Z h a "java/util/TreeMap$PrivateEntryIterator" "expectedModCount" "I" (.int 0) ∧ Fld Z h a "java/util/TreeMap$PrivateEntryIterator" "lastReturned" "Ljava/util/TreeMap$Entry;" .null ∧ Fld Z h a "java/util/TreeMap$PrivateEntryIterator" "next" "Ljava/util/TreeMap$Entry;" .null) := by
  refine Con.intro (plainFor_of_name pn_java_util_TreeMap_EntryIterator) (hELs hw) ?_
  intro p e s m below meth c hh G
  refine castRun (g' := mkF m 0 #[.val (.ref a), .val (.ref t), .val .null] []) (by first | rfl | (simp [entryFrame, mkF, argsToLocals, Value.category, maxLocals]; done)) ?_
  refine GoKit.aloadN G d35_0 rfl rfl (pc' := 1) rfl ?_
  refine GoKit.aloadN G d35_1 rfl rfl (pc' := 2) rfl ?_
  refine GoKit.aloadN G d35_2 rfl rfl (pc' := 3) rfl ?_
  refine GoKit.callSpecial G d35_3 rfl (wi hw 276 rfl) (wi hw 277 rfl) (wi hw 280 rfl) (wi hw 281 rfl) (by decide) (owc := [a]) (W := 0) (argsL := [(.ref t), .null]) (rest := []) (con_pei l hw ⟨O.1, O.2.1, O.2.2.1, O.2.2.2.1, O.2.2.2.2⟩ ⟨T.1, T.2.1, T.2.2⟩) rfl (lenOf pd_12 rfl) rfl (by decide) (Nat.le_of_eq rfl) (by decide) (by decide) (by decide) (List.forall_mem_cons.mpr ⟨(List.Mem.head _), (fun _ q => nomatch q)⟩) (cells' := 0) (slots' := 0) rfl rfl (pc' := 6) rfl (fun r1 h4 q2 K3 => ?_)
  obtain ⟨rfl, O5⟩ := q2
  show Run _ _ _ _ _ _ _ _ _ _ _ _ _ _ _ _ _ _ _ _ _ (mkF m 6 #[.val (.ref a), .val (.ref t), .val .null] [])
  refine GoKit.retVoid G d35_6 rfl (by decide) (by decide) ?_
  exact ⟨rfl, ⟨O5.1, O5.2.1, O5.2.2.1, O5.2.2.2.1, O5.2.2.2.2⟩⟩
theorem d33_0 : decode jdk_2738_method_2_code 0 = .ok (.new 13, 3) := by decide +kernel
theorem d33_3 : decode jdk_2738_method_2_code 3 = .ok (.dup, 1) := by decide +kernel
theorem d33_4 : decode jdk_2738_method_2_code 4 = .ok (.aload_n 0, 1) := by decide +kernel
theorem d33_5 : decode jdk_2738_method_2_code 5 = .ok (.getfield 1, 3) := by decide +kernel
theorem d33_8 : decode jdk_2738_method_2_code 8 = .ok (.aload_n 0, 1) := by decide +kernel
theorem d33_9 : decode jdk_2738_method_2_code 9 = .ok (.getfield 1, 3) := by decide +kernel
theorem d33_12 : decode jdk_2738_method_2_code 12 = .ok (.invokevirtual 15, 3) := by decide +kernel
theorem pd_13 : parseMethodDescriptor "()Ljava/util/TreeMap$Entry;" = some ⟨[], some (.object "java/util/TreeMap$Entry")⟩ := by decide +kernel
theorem d33_15 : decode jdk_2738_method_2_code 15 = .ok (.invokespecial 21, 3) := by decide +kernel
theorem d33_18 : decode jdk_2738_method_2_code 18 = .ok (.areturn, 1) := by decide +kernel
abbrev rm_con_titer : Room := { frames := 3, cells := 1, slots := 4, locals := 41 }
set_option maxRecDepth 65536 in
set_option maxHeartbeats 40000000 in
theorem con_titer (l : Launch) {Z : State} {a0 : Array Value} (hw : ∀ d ∈ tables_1, d.before a0 Z = true) {n0 : Nat} {h0 : Heap} {b t : Addr} (O : Exa Z h0 b "java/util/TreeMap$EntrySet" ∧ Fld Z h0 b "java/util/TreeMap$EntrySet" "this$0" "Ljava/util/TreeMap;" (.ref t)) (T : Exa Z h0 t "java/util/TreeMap" ∧ Fld Z h0 t "java/util/TreeMap" "modCount" "I" (.int 0) ∧ Fld Z h0 t "java/util/TreeMap" "root" "Ljava/util/TreeMap$Entry;" .null) :
    Con l Z false false ELs n0 (⟨"java/util/TreeMap$EntrySet", "iterator", "()Ljava/util/Iterator;"⟩ : MethodName) jdk_2738_method_2_code 1 (some (.object "java/util/Iterator")) rm_con_titer [] #[(.ref b)] h0 [] (fun v h => ∃ d, v = some (.ref d) ∧ Exa Z h d "java/util/TreeMap$EntryIterator" ∧ Fld Z h d "java/util/TreeMap$PrivateEntryIterator" "this$0" "Ljava/util/TreeMap;" (.ref t) ∧ Fld Z h d "java/util/TreeMap$PrivateEntryIterator" "expectedModCount" "I" (.int 0) ∧ Fld Z h d "java/util/TreeMap$PrivateEntryIterator" "lastReturned" "Ljava/util/TreeMap$Entry;" .null ∧ Fld Z h d "java/util/TreeMap$PrivateEntryIterator" "next" "Ljava/util/TreeMap$Entry;" .null) := by
  refine Con.intro (plainFor_of_name pn_java_util_TreeMap_EntrySet) (hELs hw) ?_
  intro p e s m below meth c hh G
  refine castRun (g' := mkF m 0 #[.val (.ref b)] []) (by first | rfl | (simp [entryFrame, mkF, argsToLocals, Value.category, maxLocals]; done)) ?_
  refine GoKit.newobj G d33_0 (wi hw 262 rfl) (wi hw 263 rfl) (wi hw 264 rfl) (by decide) (by decide) (cells' := 1) (slots' := 4) rfl rfl (pc' := 3) rfl (fun h5 a1 ga1 E2 X3 D4 => ?_)
  have F6 : Fld Z h5 a1 "java/util/TreeMap$PrivateEntryIterator" "this$0" "Ljava/util/TreeMap;" .null := D4 (Or.inr (wi hw 283 rfl)) (ty := (.object "java/util/TreeMap")) (by decide)
  have F7 : Fld Z h5 a1 "java/util/TreeMap$PrivateEntryIterator" "expectedModCount" "I" (.int 0) := D4 (Or.inl (wi hw 287 rfl)) (ty := .int) (by decide)
  have F8 : Fld Z h5 a1 "java/util/TreeMap$PrivateEntryIterator" "lastReturned" "Ljava/util/TreeMap$Entry;" .null := D4 (Or.inl (wi hw 289 rfl)) (ty := (.object "java/util/TreeMap$Entry")) (by decide)
  have F9 : Fld Z h5 a1 "java/util/TreeMap$PrivateEntryIterator" "next" "Ljava/util/TreeMap$Entry;" .null := D4 (Or.inl (wi hw 291 rfl)) (ty := (.object "java/util/TreeMap$Entry")) (by decide)
  refine GoKit.dup G d33_3 rfl (pc' := 4) rfl ?_
  refine GoKit.aloadN G d33_4 rfl rfl (pc' := 5) rfl ?_
  refine GoKit.getf G d33_5 (wi hw 250 rfl) Via.refl (O.2.ext E2) (pc' := 8) rfl ?_
  refine GoKit.aloadN G d33_8 rfl rfl (pc' := 9) rfl ?_
  refine GoKit.getf G d33_9 (wi hw 250 rfl) Via.refl (O.2.ext E2) (pc' := 12) rfl ?_
  refine GoKit.callVirtualP G d33_12 (wi hw 265 rfl) (wi hw 266 rfl) (wi hw 268 rfl) (wi hw 267 rfl) (wi hw 130 rfl) (wi hw 269 rfl) (by decide) (T.1.ext E2) (W := 3) (argsL := []) (rest := [(.ref t), (.ref a1), (.ref a1)]) (con_gfe l hw ⟨(T.1.ext E2), (T.2.1.ext E2), (T.2.2.ext E2)⟩) rfl (lenOf pd_13 rfl) rfl (by decide) (Nat.le_of_eq rfl) (by decide) (by decide) (by decide) (cells' := 1) (slots' := 4) rfl rfl (pc' := 15) rfl ?_
  show Run _ _ _ _ _ _ _ _ _ _ _ _ _ _ _ _ _ _ _ _ _ (mkF m 15 #[.val (.ref b)] [.null, (.ref t), (.ref a1), (.ref a1)])
  refine GoKit.callSpecial G d33_15 rfl (wi hw 272 rfl) (wi hw 273 rfl) (wi hw 264 rfl) (wi hw 275 rfl) (by decide) (owc := [a1]) (W := 1) (argsL := [(.ref t), .null]) (rest := [(.ref a1)]) (con_tei l hw ⟨X3, F6, F7, F8, F9⟩ ⟨(T.1.ext E2), (T.2.1.ext E2), (T.2.2.ext E2)⟩) rfl (lenOf pd_12 rfl) rfl (by decide) (Nat.le_of_eq rfl) (by decide) (by decide) (by decide) (List.forall_mem_cons.mpr ⟨(List.Mem.head _), (fun _ q => nomatch q)⟩) (cells' := 1) (slots' := 4) rfl rfl (pc' := 18) rfl (fun r10 h13 q11 K12 => ?_)
  obtain ⟨rfl, O14⟩ := q11
  show Run _ _ _ _ _ _ _ _ _ _ _ _ _ _ _ _ _ _ _ _ _ (mkF m 18 #[.val (.ref b)] [(.ref a1)])
  refine GoKit.retRef G rfl d33_18 rfl rfl rfl (by decide) (by decide) ?_
  exact ⟨_, rfl, ⟨O14.1, O14.2.1, O14.2.2.1, O14.2.2.2.1, O14.2.2.2.2⟩⟩
theorem d37_0 : decode jdk_2750_method_2_code 0 = .ok (.aload_n 0, 1) := by decide +kernel
theorem d37_1 : decode jdk_2750_method_2_code 1 = .ok (.getfield 26, 3) := by decide +kernel
theorem d37_4 : decode jdk_2750_method_2_code 4 = .ok (.ifnull 7, 3) := by decide +kernel
theorem d37_11 : decode jdk_2750_method_2_code 11 = .ok (.iconst 0, 1) := by decide +kernel
theorem d37_12 : decode jdk_2750_method_2_code 12 = .ok (.ireturn, 1) := by decide +kernel
abbrev rm_con_thasnext : Room := { frames := 0, cells := 0, slots := 0, locals := 0 }
set_option maxRecDepth 65536 in
set_option maxHeartbeats 40000000 in
theorem con_thasnext (l : Launch) {Z : State} {a0 : Array Value} (hw : ∀ d ∈ tables_1, d.before a0 Z = true) {n0 : Nat} {h0 : Heap} {a : Addr} (F : Fld Z h0 a "java/util/TreeMap$PrivateEntryIterator" "next" "Ljava/util/TreeMap$Entry;" .null) :
    Con l Z false false ELs n0 (⟨"java/util/TreeMap$PrivateEntryIterator", "hasNext", "()Z"⟩ : MethodName) jdk_2750_method_2_code 1 (some .boolean) rm_con_thasnext [] #[(.ref a)] h0 [] (fun v h => v = some (.int 0) ∧ h = h0) := by
  refine Con.intro (plainFor_of_name pn_java_util_TreeMap_PrivateEntryIterator) (hELs hw) ?_
  intro p e s m below meth c hh G
  refine castRun (g' := mkF m 0 #[.val (.ref a)] []) (by first | rfl | (simp [entryFrame, mkF, argsToLocals, Value.category, maxLocals]; done)) ?_
  refine GoKit.aloadN G d37_0 rfl rfl (pc' := 1) rfl ?_
  refine GoKit.getf G d37_1 (wi hw 290 rfl) Via.refl F (pc' := 4) rfl ?_
  refine GoKit.ifnull_t G d37_4 (by decide) (pc' := 11) rfl ?_
  refine GoKit.iconst G (0 : Int32) d37_11 rfl (pc' := 12) rfl ?_
  refine GoKit.retNar G d37_12 (t := .boolean) rfl (by simp) (by decide) (by decide) ?_
  exact ⟨rfl, rfl⟩
theorem d40_0 : decode jdk_68_method_2_code 0 = .ok (.aload_n 0, 1) := by decide +kernel
theorem d40_1 : decode jdk_68_method_2_code 1 = .ok (.invokespecial 3, 3) := by decide +kernel
theorem d40_4 : decode jdk_68_method_2_code 4 = .ok (.getstatic 18, 3) := by decide +kernel
theorem d40_7 : decode jdk_68_method_2_code 7 = .ok (.ifCond .eq 18, 3) := by decide +kernel
theorem d40_10 : decode jdk_68_method_2_code 10 = .ok (.aload_n 0, 1) := by decide +kernel
theorem d40_11 : decode jdk_68_method_2_code 11 = .ok (.iload_n 1, 1) := by decide +kernel
theorem d40_12 : decode jdk_68_method_2_code 12 = .ok (.newarray .byte, 2) := by decide +kernel
theorem d40_14 : decode jdk_68_method_2_code 14 = .ok (.putfield 15, 3) := by decide +kernel
theorem d40_17 : decode jdk_68_method_2_code 17 = .ok (.aload_n 0, 1) := by decide +kernel
theorem d40_18 : decode jdk_68_method_2_code 18 = .ok (.iconst 0, 1) := by decide +kernel
theorem d40_19 : decode jdk_68_method_2_code 19 = .ok (.putfield 22, 3) := by decide +kernel
theorem d40_22 : decode jdk_68_method_2_code 22 = .ok (.goto 16, 3) := by decide +kernel
theorem d40_38 : decode jdk_68_method_2_code 38 = .ok (.return_, 1) := by decide +kernel
theorem pn_java_lang_AbstractStringBuilder : plainName "java/lang/AbstractStringBuilder" = true := by first | (simp [plainName, overriddenIn]; done) | decide +kernel
abbrev rm_con_asb : Room := { frames := 1, cells := 1, slots := 16, locals := 12 }
set_option maxRecDepth 65536 in
set_option maxHeartbeats 40000000 in
theorem con_asb (l : Launch) {Z : State} {a0 : Array Value} (hw : ∀ d ∈ tables_1, d.before a0 Z = true) {n0 : Nat} {h0 : Heap} {a : Addr} (O : Exa Z h0 a "java/lang/StringBuilder" ∧ Fld Z h0 a "java/lang/AbstractStringBuilder" "value" "[B" .null ∧ Fld Z h0 a "java/lang/AbstractStringBuilder" "coder" "B" (.int 0) ∧ Fld Z h0 a "java/lang/AbstractStringBuilder" "count" "I" (.int 0)) (HC : Cst Z) :
    Con l Z false false ELs n0 (⟨"java/lang/AbstractStringBuilder", "<init>", "(I)V"⟩ : MethodName) jdk_68_method_2_code 2 none rm_con_asb [] #[(.ref a), (.int (16 : Int32))] h0 [a] (fun v h => ∃ b, v = none ∧ (Exa Z h a "java/lang/StringBuilder" ∧ Fld Z h a "java/lang/AbstractStringBuilder" "value" "[B" (.ref b) ∧ Fld Z h a "java/lang/AbstractStringBuilder" "coder" "B" (.int 0) ∧ Fld Z h a "java/lang/AbstractStringBuilder" "count" "I" (.int 0)) ∧ IA Z h b .byte (List.replicate 16 0)) := by
  refine Con.intro (plainFor_of_name pn_java_lang_AbstractStringBuilder) (hELs hw) ?_
  intro p e s m below meth c hh G
  refine castRun (g' := mkF m 0 #[.val (.ref a), .val (.int (16 : Int32))] []) (by first | rfl | (simp [entryFrame, mkF, argsToLocals, Value.category, maxLocals]; done)) ?_
  obtain ⟨cz, SC, hcz⟩ := id HC
  refine GoKit.aloadN G d40_0 rfl rfl (pc' := 1) rfl ?_
  refine GoKit.initObj G d40_1 (wi hw 315 rfl) (wi hw 21 rfl) (wi hw 22 rfl) rfl (by decide) (W := 0) (Nat.le_of_eq rfl) (by decide) (pc' := 4) rfl ?_
  refine GoKit.gets G d40_4 (wi hw 316 rfl) Via.refl SC (pc' := 7) rfl ?_
  refine GoKit.if_eq_f G d40_7 hcz (pc' := 10) rfl ?_
  refine GoKit.aloadN G d40_10 rfl rfl (pc' := 11) rfl ?_
  refine GoKit.iloadN G d40_11 rfl (pc' := 12) rfl ?_
  refine GoKit.newbI G d40_12 (wi hw 44 rfl) (by decide) (k := 16) (cap := 16) rfl (Nat.le_refl _) (by decide) (by decide) (by decide) (cells' := 1) (slots' := 16) rfl rfl (pc' := 14) rfl (fun h4 a1 ga1 E2 A3 => ?_)
  refine GoKit.putf G d40_14 (wi hw 317 rfl) Via.refl (O.2.1.ext E2) (O.1.ext E2) (Or.inl (wi hw 318 rfl)) (wi hw 304 rfl) (ty := (.array .byte)) (by decide) rfl rfl (List.Mem.tail _ (List.Mem.head _)) (pc' := 17) rfl (fun h6 W5 => ?_)
  have F7 := ((O.2.1.ext E2)).same W5
  refine GoKit.aloadN G d40_17 rfl rfl (pc' := 18) rfl ?_
  refine GoKit.iconst G (0 : Int32) d40_18 rfl (pc' := 19) rfl ?_
  refine GoKit.putf G d40_19 (wi hw 319 rfl) Via.refl ((O.2.2.1.ext E2).other W5 (Or.inr (slot_ne (Or.inl (wi hw 320 rfl)) (Or.inl (wi hw 318 rfl)) (by decide) (by decide : _ = some .byte) (by decide : _ = some (.array .byte))))) ((O.1.ext E2).wr W5) (Or.inl (wi hw 320 rfl)) (wi hw 304 rfl) (ty := .byte) (by decide) rfl rfl (List.Mem.tail _ (List.Mem.head _)) (pc' := 22) rfl (fun h9 W8 => ?_)
  have F10 := (((O.2.2.1.ext E2).other W5 (Or.inr (slot_ne (Or.inl (wi hw 320 rfl)) (Or.inl (wi hw 318 rfl)) (by decide) (by decide : _ = some .byte) (by decide : _ = some (.array .byte)))))).same W8
  refine GoKit.goto G d40_22 (by decide) (pc' := 38) rfl ?_
  refine GoKit.retVoid G d40_38 rfl (by decide) (by decide) ?_
  exact ⟨_, rfl, ⟨(((O.1.ext E2).wr W5).wr W8), (F7.other W8 (Or.inr (slot_ne (Or.inl (wi hw 318 rfl)) (Or.inl (wi hw 320 rfl)) (by decide) (by decide : _ = some (.array .byte)) (by decide : _ = some .byte)))), F10, (((O.2.2.2.ext E2).other W5 (Or.inr (slot_ne (Or.inl (wi hw 382 rfl)) (Or.inl (wi hw 318 rfl)) (by decide) (by decide : _ = some .int) (by decide : _ = some (.array .byte))))).other W8 (Or.inr (slot_ne (Or.inl (wi hw 382 rfl)) (Or.inl (wi hw 320 rfl)) (by decide) (by decide : _ = some .int) (by decide : _ = some .byte))))⟩, ((A3.other W5 (Ne.symm (Nat.ne_of_lt (Nat.lt_of_lt_of_le (O.2.2.2).lt (Nat.le_of_eq ga1.symm))))).other W8 (Ne.symm (Nat.ne_of_lt (Nat.lt_of_lt_of_le (O.2.2.2).lt (Nat.le_of_eq ga1.symm)))))⟩
theorem d39_0 : decode jdk_67_method_1_code 0 = .ok (.aload_n 0, 1) := by decide +kernel
theorem d39_1 : decode jdk_67_method_1_code 1 = .ok (.bipush 16, 2) := by decide +kernel
theorem d39_3 : decode jdk_67_method_1_code 3 = .ok (.invokespecial 1, 3) := by decide +kernel
theorem pd_14 : parseMethodDescriptor "(I)V" = some ⟨[.int], none⟩ := by decide +kernel
theorem d39_6 : decode jdk_67_method_1_code 6 = .ok (.return_, 1) := by decide +kernel
theorem pn_java_lang_StringBuilder : plainName "java/lang/StringBuilder" = true := by first | (simp [plainName, overriddenIn]; done) | decide +kernel
abbrev rm_con_sb : Room := { frames := 2, cells := 1, slots := 16, locals := 25 }
set_option maxRecDepth 65536 in
set_option maxHeartbeats 40000000 in
theorem con_sb (l : Launch) {Z : State} {a0 : Array Value} (hw : ∀ d ∈ tables_1, d.before a0 Z = true) {n0 : Nat} {h0 : Heap} {a : Addr} (O : Exa Z h0 a "java/lang/StringBuilder" ∧ Fld Z h0 a "java/lang/AbstractStringBuilder" "value" "[B" .null ∧ Fld Z h0 a "java/lang/AbstractStringBuilder" "coder" "B" (.int 0) ∧ Fld Z h0 a "java/lang/AbstractStringBuilder" "count" "I" (.int 0)) (HC : Cst Z) :
    Con l Z false false ELs n0 (⟨"java/lang/StringBuilder", "<init>", "()V"⟩ : MethodName) jdk_67_method_1_code 1 none rm_con_sb [] #[(.ref a)] h0 [a] (fun v h => ∃ b, v = none ∧ (Exa Z h a "java/lang/StringBuilder" ∧ Fld Z h a "java/lang/AbstractStringBuilder" "value" "[B" (.ref b) ∧ Fld Z h a "java/lang/AbstractStringBuilder" "coder" "B" (.int 0) ∧ Fld Z h a "java/lang/AbstractStringBuilder" "count" "I" (.int 0)) ∧ IA Z h b .byte (List.replicate 16 0)) := by
  refine Con.intro (plainFor_of_name pn_java_lang_StringBuilder) (hELs hw) ?_
  intro p e s m below meth c hh G
  refine castRun (g' := mkF m 0 #[.val (.ref a)] []) (by first | rfl | (simp [entryFrame, mkF, argsToLocals, Value.category, maxLocals]; done)) ?_
  obtain ⟨cz, SC, hcz⟩ := id HC
  refine GoKit.aloadN G d39_0 rfl rfl (pc' := 1) rfl ?_
  refine GoKit.bipush G (16 : Int32) d39_1 rfl (pc' := 3) rfl ?_
  refine GoKit.callSpecial G d39_3 rfl (wi hw 309 rfl) (wi hw 310 rfl) (wi hw 313 rfl) (wi hw 314 rfl) (by decide) (owc := [a]) (W := 0) (argsL := [(.int (16 : Int32))]) (rest := []) (con_asb l hw ⟨O.1, O.2.1, O.2.2.1, O.2.2.2⟩ HC) rfl (lenOf pd_14 rfl) rfl (by decide) (Nat.le_of_eq rfl) (by decide) (by decide) (by decide) (List.forall_mem_cons.mpr ⟨(List.Mem.head _), (fun _ q => nomatch q)⟩) (cells' := 1) (slots' := 16) rfl rfl (pc' := 6) rfl (fun r1 h4 q2 K3 => ?_)
  obtain ⟨b5, rfl, O6, A7⟩ := q2
  show Run _ _ _ _ _ _ _ _ _ _ _ _ _ _ _ _ _ _ _ _ _ (mkF m 6 #[.val (.ref a)] [])
  refine GoKit.retVoid G d39_6 rfl (by decide) (by decide) ?_
  exact ⟨_, rfl, ⟨O6.1, O6.2.1, O6.2.2.1, O6.2.2.2⟩, A7⟩
theorem d42_0 : decode jdk_49_method_1_code 0 = .ok (.aload_n 0, 1) := by decide +kernel
theorem d42_1 : decode jdk_49_method_1_code 1 = .ok (.aload_n 1, 1) := by decide +kernel
theorem d42_2 : decode jdk_49_method_1_code 2 = .ok (.putfield 1, 3) := by decide +kernel
theorem d42_5 : decode jdk_49_method_1_code 5 = .ok (.aload_n 0, 1) := by decide +kernel
theorem d42_6 : decode jdk_49_method_1_code 6 = .ok (.invokespecial 7, 3) := by decide +kernel
theorem d42_9 : decode jdk_49_method_1_code 9 = .ok (.aload_n 0, 1) := by decide +kernel
theorem d42_10 : decode jdk_49_method_1_code 10 = .ok (.iconst (-1), 1) := by decide +kernel
theorem d42_11 : decode jdk_49_method_1_code 11 = .ok (.putfield 13, 3) := by decide +kernel
theorem d42_14 : decode jdk_49_method_1_code 14 = .ok (.aload_n 0, 1) := by decide +kernel
theorem d42_15 : decode jdk_49_method_1_code 15 = .ok (.aload_n 0, 1) := by decide +kernel
theorem d42_16 : decode jdk_49_method_1_code 16 = .ok (.getfield 1, 3) := by decide +kernel
theorem d42_19 : decode jdk_49_method_1_code 19 = .ok (.getfield 17, 3) := by decide +kernel
theorem d42_22 : decode jdk_49_method_1_code 22 = .ok (.putfield 22, 3) := by decide +kernel
theorem d42_25 : decode jdk_49_method_1_code 25 = .ok (.return_, 1) := by decide +kernel
theorem pn_java_util_ArrayList_Itr : plainName "java/util/ArrayList$Itr" = true := by first | (simp [plainName, overriddenIn]; done) | decide +kernel
abbrev rm_con_itr : Room := { frames := 1, cells := 0, slots := 0, locals := 12 }
set_option maxRecDepth 65536 in
set_option maxHeartbeats 40000000 in
theorem con_itr (l : Launch) {Z : State} {a0 : Array Value} (hw : ∀ d ∈ tables_1, d.before a0 Z = true) {n0 : Nat} {h0 : Heap} {a x d0 : Addr} (O : Exa Z h0 a "java/util/ArrayList$Itr" ∧ Fld Z h0 a "java/util/ArrayList$Itr" "this$0" "Ljava/util/ArrayList;" .null ∧ Fld Z h0 a "java/util/ArrayList$Itr" "lastRet" "I" (.int 0) ∧ Fld Z h0 a "java/util/ArrayList$Itr" "expectedModCount" "I" (.int 0) ∧ Fld Z h0 a "java/util/ArrayList$Itr" "cursor" "I" (.int 0)) (X : Exa Z h0 x "java/util/ArrayList" ∧ Fld Z h0 x "java/util/AbstractList" "modCount" "I" (.int 0) ∧ Fld Z h0 x "java/util/ArrayList" "elementData" "[Ljava/lang/Object;" (.ref d0) ∧ Fld Z h0 x "java/util/ArrayList" "size" "I" (.int 0)) :
    Con l Z false false ELs n0 (⟨"java/util/ArrayList$Itr", "<init>", "(Ljava/util/ArrayList;)V"⟩ : MethodName) jdk_49_method_1_code 2 none rm_con_itr [] #[(.ref a), (.ref x)] h0 [a] (fun v h => v = none ∧ Exa Z h a "java/util/ArrayList$Itr" ∧ Fld Z h a "java/util/ArrayList$Itr" "this$0" "Ljava/util/ArrayList;" (.ref x) ∧ Fld Z h a "java/util/ArrayList$Itr" "lastRet" "I" (.int (-1 : Int32)) ∧ Fld Z h a "java/util/ArrayList$Itr" "expectedModCount" "I" (.int 0) ∧ Fld Z h a "java/util/ArrayList$Itr" "cursor" "I" (.int 0)) := by
  refine Con.intro (plainFor_of_name pn_java_util_ArrayList_Itr) (hELs hw) ?_
  intro p e s m below meth c hh G
  refine castRun (g' := mkF m 0 #[.val (.ref a), .val (.ref x)] []) (by first | rfl | (simp [entryFrame, mkF, argsToLocals, Value.category, maxLocals]; done)) ?_
  refine GoKit.aloadN G d42_0 rfl rfl (pc' := 1) rfl ?_
  refine GoKit.aloadN G d42_1 rfl rfl (pc' := 2) rfl ?_
  refine GoKit.putf G d42_2 (wi hw 337 rfl) Via.refl O.2.1 O.1 (Or.inr ⟨(wi hw 338 rfl), rfl, rfl⟩) (wi hw 331 rfl) (ty := (.object "java/util/ArrayList")) (by decide) rfl rfl (List.Mem.head _) (pc' := 5) rfl (fun h2 W1 => ?_)
  have F3 := (O.2.1).same W1
  refine GoKit.aloadN G d42_5 rfl rfl (pc' := 6) rfl ?_
  refine GoKit.initObj G d42_6 (wi hw 339 rfl) (wi hw 21 rfl) (wi hw 22 rfl) rfl (by decide) (W := 0) (Nat.le_of_eq rfl) (by decide) (pc' := 9) rfl ?_
  refine GoKit.aloadN G d42_9 rfl rfl (pc' := 10) rfl ?_
  refine GoKit.iconst G (-1 : Int32) d42_10 rfl (pc' := 11) rfl ?_
  refine GoKit.putf G d42_11 (wi hw 340 rfl) Via.refl (O.2.2.1.other W1 (Or.inr (slot_ne (Or.inl (wi hw 341 rfl)) (Or.inr (wi hw 338 rfl)) (by decide) (by decide : _ = some .int) (by decide : _ = some (.object "java/util/ArrayList"))))) (O.1.wr W1) (Or.inl (wi hw 341 rfl)) (wi hw 331 rfl) (ty := .int) (by decide) rfl rfl (List.Mem.head _) (pc' := 14) rfl (fun h5 W4 => ?_)
  have F6 := ((O.2.2.1.other W1 (Or.inr (slot_ne (Or.inl (wi hw 341 rfl)) (Or.inr (wi hw 338 rfl)) (by decide) (by decide : _ = some .int) (by decide : _ = some (.object "java/util/ArrayList")))))).same W4
  refine GoKit.aloadN G d42_14 rfl rfl (pc' := 15) rfl ?_
  refine GoKit.aloadN G d42_15 rfl rfl (pc' := 16) rfl ?_
  refine GoKit.getf G d42_16 (wi hw 337 rfl) Via.refl (F3.other W4 (Or.inr (slot_ne (Or.inr (wi hw 338 rfl)) (Or.inl (wi hw 341 rfl)) (by decide) (by decide : _ = some (.object "java/util/ArrayList")) (by decide : _ = some .int)))) (pc' := 19) rfl ?_
  refine GoKit.getf G d42_19 (wi hw 342 rfl) (Via.of (wi hw 61 rfl)) ((X.2.1.other W1 (Or.inl (Exa.ne X.1 O.1 (by decide)))).other W4 (Or.inl (Exa.ne X.1 O.1 (by decide)))) (pc' := 22) rfl ?_
  refine GoKit.putf G d42_22 (wi hw 343 rfl) Via.refl ((O.2.2.2.1.other W1 (Or.inr (slot_ne (Or.inl (wi hw 344 rfl)) (Or.inr (wi hw 338 rfl)) (by decide) (by decide : _ = some .int) (by decide : _ = some (.object "java/util/ArrayList"))))).other W4 (Or.inr (slot_ne (Or.inl (wi hw 344 rfl)) (Or.inl (wi hw 341 rfl)) (by decide) (by decide : _ = some .int) (by decide : _ = some .int)))) ((O.1.wr W1).wr W4) (Or.inl (wi hw 344 rfl)) (wi hw 331 rfl) (ty := .int) (by decide) rfl rfl (List.Mem.head _) (pc' := 25) rfl (fun h8 W7 => ?_)
  have F9 := (((O.2.2.2.1.other W1 (Or.inr (slot_ne (Or.inl (wi hw 344 rfl)) (Or.inr (wi hw 338 rfl)) (by decide) (by decide : _ = some .int) (by decide : _ = some (.object "java/util/ArrayList"))))).other W4 (Or.inr (slot_ne (Or.inl (wi hw 344 rfl)) (Or.inl (wi hw 341 rfl)) (by decide) (by decide : _ = some .int) (by decide : _ = some .int))))).same W7
  refine GoKit.retVoid G d42_25 rfl (by decide) (by decide) ?_
  exact ⟨rfl, ⟨(((O.1.wr W1).wr W4).wr W7), ((F3.other W4 (Or.inr (slot_ne (Or.inr (wi hw 338 rfl)) (Or.inl (wi hw 341 rfl)) (by decide) (by decide : _ = some (.object "java/util/ArrayList")) (by decide : _ = some .int)))).other W7 (Or.inr (slot_ne (Or.inr (wi hw 338 rfl)) (Or.inl (wi hw 344 rfl)) (by decide) (by decide : _ = some (.object "java/util/ArrayList")) (by decide : _ = some .int)))), (F6.other W7 (Or.inr (slot_ne (Or.inl (wi hw 341 rfl)) (Or.inl (wi hw 344 rfl)) (by decide) (by decide : _ = some .int) (by decide : _ = some .int)))), F9, (((O.2.2.2.2.other W1 (Or.inr (slot_ne (Or.inl (wi hw 353 rfl)) (Or.inr (wi hw 338 rfl)) (by decide) (by decide : _ = some .int) (by decide : _ = some (.object "java/util/ArrayList"))))).other W4 (Or.inr (slot_ne (Or.inl (wi hw 353 rfl)) (Or.inl (wi hw 341 rfl)) (by decide) (by decide : _ = some .int) (by decide : _ = some .int)))).other W7 (Or.inr (slot_ne (Or.inl (wi hw 353 rfl)) (Or.inl (wi hw 344 rfl)) (by decide) (by decide : _ = some .int) (by decide : _ = some .int))))⟩⟩
theorem d41_0 : decode jdk_38_method_55_code 0 = .ok (.new 267, 3) := by decide +kernel
theorem d41_3 : decode jdk_38_method_55_code 3 = .ok (.dup, 1) := by decide +kernel
theorem d41_4 : decode jdk_38_method_55_code 4 = .ok (.aload_n 0, 1) := by decide +kernel
theorem d41_5 : decode jdk_38_method_55_code 5 = .ok (.invokespecial 269, 3) := by decide +kernel
theorem pd_15 : parseMethodDescriptor "(Ljava/util/ArrayList;)V" = some ⟨[(.object "java/util/ArrayList")], none⟩ := by decide +kernel
theorem d41_8 : decode jdk_38_method_55_code 8 = .ok (.areturn, 1) := by decide +kernel
abbrev rm_con_aliter : Room := { frames := 2, cells := 1, slots := 4, locals := 26 }
set_option maxRecDepth 65536 in
set_option maxHeartbeats 40000000 in
theorem con_aliter (l : Launch) {Z : State} {a0 : Array Value} (hw : ∀ d ∈ tables_1, d.before a0 Z = true) {n0 : Nat} {h0 : Heap} {x d0 : Addr} (X : Exa Z h0 x "java/util/ArrayList" ∧ Fld Z h0 x "java/util/AbstractList" "modCount" "I" (.int 0) ∧ Fld Z h0 x "java/util/ArrayList" "elementData" "[Ljava/lang/Object;" (.ref d0) ∧ Fld Z h0 x "java/util/ArrayList" "size" "I" (.int 0)) :
    Con l Z false false ELs n0 (⟨"java/util/ArrayList", "iterator", "()Ljava/util/Iterator;"⟩ : MethodName) jdk_38_method_55_code 1 (some (.object "java/util/Iterator")) rm_con_aliter [] #[(.ref x)] h0 [] (fun v h => ∃ d, v = some (.ref d) ∧ Exa Z h d "java/util/ArrayList$Itr" ∧ Fld Z h d "java/util/ArrayList$Itr" "this$0" "Ljava/util/ArrayList;" (.ref x) ∧ Fld Z h d "java/util/ArrayList$Itr" "lastRet" "I" (.int (-1 : Int32)) ∧ Fld Z h d "java/util/ArrayList$Itr" "expectedModCount" "I" (.int 0) ∧ Fld Z h d "java/util/ArrayList$Itr" "cursor" "I" (.int 0)) := by
  refine Con.intro (plainFor_of_name pn_java_util_ArrayList) (hELs hw) ?_
  intro p e s m below meth c hh G
  refine castRun (g' := mkF m 0 #[.val (.ref x)] []) (by first | rfl | (simp [entryFrame, mkF, argsToLocals, Value.category, maxLocals]; done)) ?_
  refine GoKit.newobj G d41_0 (wi hw 330 rfl) (wi hw 331 rfl) (wi hw 332 rfl) (by decide) (by decide) (cells' := 1) (slots' := 4) rfl rfl (pc' := 3) rfl (fun h5 a1 ga1 E2 X3 D4 => ?_)
  have F6 : Fld Z h5 a1 "java/util/ArrayList$Itr" "this$0" "Ljava/util/ArrayList;" .null := D4 (Or.inr (wi hw 338 rfl)) (ty := (.object "java/util/ArrayList")) (by decide)
  have F7 : Fld Z h5 a1 "java/util/ArrayList$Itr" "lastRet" "I" (.int 0) := D4 (Or.inl (wi hw 341 rfl)) (ty := .int) (by decide)
  have F8 : Fld Z h5 a1 "java/util/ArrayList$Itr" "expectedModCount" "I" (.int 0) := D4 (Or.inl (wi hw 344 rfl)) (ty := .int) (by decide)
  have F9 : Fld Z h5 a1 "java/util/ArrayList$Itr" "cursor" "I" (.int 0) := D4 (Or.inl (wi hw 353 rfl)) (ty := .int) (by decide)
  refine GoKit.dup G d41_3 rfl (pc' := 4) rfl ?_
  refine GoKit.aloadN G d41_4 rfl rfl (pc' := 5) rfl ?_
  refine GoKit.callSpecial G d41_5 rfl (wi hw 333 rfl) (wi hw 334 rfl) (wi hw 332 rfl) (wi hw 336 rfl) (by decide) (owc := [a1]) (W := 1) (argsL := [(.ref x)]) (rest := [(.ref a1)]) (con_itr l hw ⟨X3, F6, F7, F8, F9⟩ ⟨(X.1.ext E2), (X.2.1.ext E2), (X.2.2.1.ext E2), (X.2.2.2.ext E2)⟩) rfl (lenOf pd_15 rfl) rfl (by decide) (Nat.le_of_eq rfl) (by decide) (by decide) (by decide) (List.forall_mem_cons.mpr ⟨(List.Mem.head _), (fun _ q => nomatch q)⟩) (cells' := 1) (slots' := 4) rfl rfl (pc' := 8) rfl (fun r10 h13 q11 K12 => ?_)
  obtain ⟨rfl, O14⟩ := q11
  show Run _ _ _ _ _ _ _ _ _ _ _ _ _ _ _ _ _ _ _ _ _ (mkF m 8 #[.val (.ref x)] [(.ref a1)])
  refine GoKit.retRef G rfl d41_8 rfl rfl rfl (by decide) (by decide) ?_
  exact ⟨_, rfl, ⟨O14.1, O14.2.1, O14.2.2.1, O14.2.2.2.1, O14.2.2.2.2⟩⟩
theorem d43_0 : decode jdk_49_method_2_code 0 = .ok (.aload_n 0, 1) := by decide +kernel
theorem d43_1 : decode jdk_49_method_2_code 1 = .ok (.getfield 25, 3) := by decide +kernel
theorem d43_4 : decode jdk_49_method_2_code 4 = .ok (.aload_n 0, 1) := by decide +kernel
theorem d43_5 : decode jdk_49_method_2_code 5 = .ok (.getfield 1, 3) := by decide +kernel
theorem d43_8 : decode jdk_49_method_2_code 8 = .ok (.getfield 28, 3) := by decide +kernel
theorem d43_11 : decode jdk_49_method_2_code 11 = .ok (.if_icmp .eq 7, 3) := by decide +kernel
theorem d43_18 : decode jdk_49_method_2_code 18 = .ok (.iconst 0, 1) := by decide +kernel
theorem d43_19 : decode jdk_49_method_2_code 19 = .ok (.ireturn, 1) := by decide +kernel
abbrev rm_con_alhn : Room := { frames := 0, cells := 0, slots := 0, locals := 0 }
set_option maxRecDepth 65536 in
set_option maxHeartbeats 40000000 in
theorem con_alhn (l : Launch) {Z : State} {a0 : Array Value} (hw : ∀ d ∈ tables_1, d.before a0 Z = true) {n0 : Nat} {h0 : Heap} {a x d0 : Addr} (O : Exa Z h0 a "java/util/ArrayList$Itr" ∧ Fld Z h0 a "java/util/ArrayList$Itr" "this$0" "Ljava/util/ArrayList;" (.ref x) ∧ Fld Z h0 a "java/util/ArrayList$Itr" "lastRet" "I" (.int (-1 : Int32)) ∧ Fld Z h0 a "java/util/ArrayList$Itr" "expectedModCount" "I" (.int 0) ∧ Fld Z h0 a "java/util/ArrayList$Itr" "cursor" "I" (.int 0)) (X : Exa Z h0 x "java/util/ArrayList" ∧ Fld Z h0 x "java/util/AbstractList" "modCount" "I" (.int 0) ∧ Fld Z h0 x "java/util/ArrayList" "elementData" "[Ljava/lang/Object;" (.ref d0) ∧ Fld Z h0 x "java/util/ArrayList" "size" "I" (.int 0)) :
    Con l Z false false ELs n0 (⟨"java/util/ArrayList$Itr", "hasNext", "()Z"⟩ : MethodName) jdk_49_method_2_code 1 (some .boolean) rm_con_alhn [] #[(.ref a)] h0 [] (fun v h => v = some (.int 0) ∧ h = h0) := by
  refine Con.intro (plainFor_of_name pn_java_util_ArrayList_Itr) (hELs hw) ?_
  intro p e s m below meth c hh G
  refine castRun (g' := mkF m 0 #[.val (.ref a)] []) (by first | rfl | (simp [entryFrame, mkF, argsToLocals, Value.category, maxLocals]; done)) ?_
  refine GoKit.aloadN G d43_0 rfl rfl (pc' := 1) rfl ?_
  refine GoKit.getf G d43_1 (wi hw 352 rfl) Via.refl O.2.2.2.2 (pc' := 4) rfl ?_
  refine GoKit.aloadN G d43_4 rfl rfl (pc' := 5) rfl ?_
  refine GoKit.getf G d43_5 (wi hw 337 rfl) Via.refl O.2.1 (pc' := 8) rfl ?_
  refine GoKit.getfN G d43_8 (wi hw 354 rfl) Via.refl X.2.2.2 (pc' := 11) rfl ?_
  refine GoKit.icmp_eq_t G d43_11 (by decide) (by decide) (pc' := 18) rfl ?_
  refine GoKit.iconst G (0 : Int32) d43_18 rfl (pc' := 19) rfl ?_
  refine GoKit.retNar G d43_19 (t := .boolean) rfl (by simp) (by decide) (by decide) ?_
  exact ⟨rfl, rfl⟩
theorem d47_0 : decode jdk_68_method_64_code 0 = .ok (.aload_n 0, 1) := by decide +kernel
theorem d47_1 : decode jdk_68_method_64_code 1 = .ok (.getfield 15, 3) := by decide +kernel
theorem d47_4 : decode jdk_68_method_64_code 4 = .ok (.areturn, 1) := by decide +kernel
abbrev rm_con_getval : Room := { frames := 0, cells := 0, slots := 0, locals := 0 }
set_option maxRecDepth 65536 in
set_option maxHeartbeats 40000000 in
theorem con_getval (l : Launch) {Z : State} {a0 : Array Value} (hw : ∀ d ∈ tables_1, d.before a0 Z = true) {n0 : Nat} {h0 : Heap} {a b : Addr} (O : Exa Z h0 a "java/lang/StringBuilder" ∧ Fld Z h0 a "java/lang/AbstractStringBuilder" "value" "[B" (.ref b) ∧ Fld Z h0 a "java/lang/AbstractStringBuilder" "coder" "B" (.int 0) ∧ Fld Z h0 a "java/lang/AbstractStringBuilder" "count" "I" (.int 0)) :
    Con l Z false false ELs n0 (⟨"java/lang/AbstractStringBuilder", "getValue", "()[B"⟩ : MethodName) jdk_68_method_64_code 1 (some (.array .byte)) rm_con_getval [] #[(.ref a)] h0 [] (fun v h => v = some (.ref b) ∧ h = h0) := by
  refine Con.intro (plainFor_of_name pn_java_lang_AbstractStringBuilder) (hELs hw) ?_
  intro p e s m below meth c hh G
  refine castRun (g' := mkF m 0 #[.val (.ref a)] []) (by first | rfl | (simp [entryFrame, mkF, argsToLocals, Value.category, maxLocals]; done)) ?_
  refine GoKit.aloadN G d47_0 rfl rfl (pc' := 1) rfl ?_
  refine GoKit.getf G d47_1 (wi hw 317 rfl) Via.refl O.2.1 (pc' := 4) rfl ?_
  refine GoKit.retRef G rfl d47_4 rfl rfl rfl (by decide) (by decide) ?_
  exact ⟨rfl, rfl⟩
theorem d49_0 : decode jdk_68_method_6_code 0 = .ok (.aload_n 0, 1) := by decide +kernel
theorem d49_1 : decode jdk_68_method_6_code 1 = .ok (.getfield 79, 3) := by decide +kernel
theorem d49_4 : decode jdk_68_method_6_code 4 = .ok (.ireturn, 1) := by decide +kernel
abbrev rm_con_asblen : Room := { frames := 0, cells := 0, slots := 0, locals := 0 }
set_option maxRecDepth 65536 in
set_option maxHeartbeats 40000000 in
theorem con_asblen (l : Launch) {Z : State} {a0 : Array Value} (hw : ∀ d ∈ tables_1, d.before a0 Z = true) {n0 : Nat} {h0 : Heap} {a b : Addr} (O : Exa Z h0 a "java/lang/StringBuilder" ∧ Fld Z h0 a "java/lang/AbstractStringBuilder" "value" "[B" (.ref b) ∧ Fld Z h0 a "java/lang/AbstractStringBuilder" "coder" "B" (.int 0) ∧ Fld Z h0 a "java/lang/AbstractStringBuilder" "count" "I" (.int 0)) :
    Con l Z false false ELs n0 (⟨"java/lang/AbstractStringBuilder", "length", "()I"⟩ : MethodName) jdk_68_method_6_code 1 (some .int) rm_con_asblen [] #[(.ref a)] h0 [] (fun v h => v = some (.int (0 : Int32))) := by
  refine Con.intro (plainFor_of_name pn_java_lang_AbstractStringBuilder) (hELs hw) ?_
  intro p e s m below meth c hh G
  refine castRun (g' := mkF m 0 #[.val (.ref a)] []) (by first | rfl | (simp [entryFrame, mkF, argsToLocals, Value.category, maxLocals]; done)) ?_
  refine GoKit.aloadN G d49_0 rfl rfl (pc' := 1) rfl ?_
  refine GoKit.getf G d49_1 (wi hw 381 rfl) Via.refl O.2.2.2 (pc' := 4) rfl ?_
  refine GoKit.retInt G d49_4 rfl (by decide) (by decide) ?_
  exact rfl
theorem d48_0 : decode jdk_67_method_93_code 0 = .ok (.aload_n 0, 1) := by decide +kernel
theorem d48_1 : decode jdk_67_method_93_code 1 = .ok (.invokespecial 343, 3) := by decide +kernel
theorem d48_4 : decode jdk_67_method_93_code 4 = .ok (.ireturn, 1) := by decide +kernel
abbrev rm_con_sblen : Room := { frames := 1, cells := 0, slots := 0, locals := 12 }
set_option maxRecDepth 65536 in
set_option maxHeartbeats 40000000 in
theorem con_sblen (l : Launch) {Z : State} {a0 : Array Value} (hw : ∀ d ∈ tables_1, d.before a0 Z = true) {n0 : Nat} {h0 : Heap} {a b : Addr} (O : Exa Z h0 a "java/lang/StringBuilder" ∧ Fld Z h0 a "java/lang/AbstractStringBuilder" "value" "[B" (.ref b) ∧ Fld Z h0 a "java/lang/AbstractStringBuilder" "coder" "B" (.int 0) ∧ Fld Z h0 a "java/lang/AbstractStringBuilder" "count" "I" (.int 0)) :
    Con l Z false false ELs n0 (⟨"java/lang/StringBuilder", "length", "()I"⟩ : MethodName) jdk_67_method_93_code 1 (some .int) rm_con_sblen [] #[(.ref a)] h0 [] (fun v h => v = some (.int (0 : Int32))) := by
  refine Con.intro (plainFor_of_name pn_java_lang_StringBuilder) (hELs hw) ?_
  intro p e s m below meth c hh G
  refine castRun (g' := mkF m 0 #[.val (.ref a)] []) (by first | rfl | (simp [entryFrame, mkF, argsToLocals, Value.category, maxLocals]; done)) ?_
  refine GoKit.aloadN G d48_0 rfl rfl (pc' := 1) rfl ?_
  refine GoKit.callSuper G d48_1 (wi hw 378 rfl) (wi hw 374 rfl) (wi hw 313 rfl) (wi hw 380 rfl) (wi hw 379 rfl) (by decide) O.1 (owc := []) (W := 0) (argsL := []) (rest := []) (con_asblen l hw ⟨O.1, O.2.1, O.2.2.1, O.2.2.2⟩) rfl (lenOf pd_9 rfl) rfl (by decide) (Nat.le_of_eq rfl) (by decide) (by decide) (by decide) (fun _ q => nomatch q) (cells' := 0) (slots' := 0) rfl rfl (pc' := 4) rfl (fun r1 h4 q2 K3 => ?_)
  obtain rfl := q2
  show Run _ _ _ _ _ _ _ _ _ _ _ _ _ _ _ _ _ _ _ _ _ (mkF m 4 #[.val (.ref a)] [(.int (0 : Int32))])
  refine GoKit.retInt G d48_4 rfl (by decide) (by decide) ?_
  exact rfl
theorem d50_0 : decode jdk_68_method_68_code 0 = .ok (.getstatic 18, 3) := by decide +kernel
theorem d50_3 : decode jdk_68_method_68_code 3 = .ok (.ifCond .eq 14, 3) := by decide +kernel
theorem d50_6 : decode jdk_68_method_68_code 6 = .ok (.aload_n 0, 1) := by decide +kernel
theorem d50_7 : decode jdk_68_method_68_code 7 = .ok (.getfield 22, 3) := by decide +kernel
theorem d50_10 : decode jdk_68_method_68_code 10 = .ok (.ifCond .ne 7, 3) := by decide +kernel
theorem d50_13 : decode jdk_68_method_68_code 13 = .ok (.iconst 1, 1) := by decide +kernel
theorem d50_14 : decode jdk_68_method_68_code 14 = .ok (.goto 4, 3) := by decide +kernel
theorem d50_18 : decode jdk_68_method_68_code 18 = .ok (.ireturn, 1) := by decide +kernel
abbrev rm_con_asblat : Room := { frames := 0, cells := 0, slots := 0, locals := 0 }
set_option maxRecDepth 65536 in
set_option maxHeartbeats 40000000 in
theorem con_asblat (l : Launch) {Z : State} {a0 : Array Value} (hw : ∀ d ∈ tables_1, d.before a0 Z = true) {n0 : Nat} {h0 : Heap} {a b : Addr} (O : Exa Z h0 a "java/lang/StringBuilder" ∧ Fld Z h0 a "java/lang/AbstractStringBuilder" "value" "[B" (.ref b) ∧ Fld Z h0 a "java/lang/AbstractStringBuilder" "coder" "B" (.int 0) ∧ Fld Z h0 a "java/lang/AbstractStringBuilder" "count" "I" (.int 0)) (HC : Cst Z) :
    Con l Z false false ELs n0 (⟨"java/lang/AbstractStringBuilder", "isLatin1", "()Z"⟩ : MethodName) jdk_68_method_68_code 1 (some .boolean) rm_con_asblat [] #[(.ref a)] h0 [] (fun v h => v = some (.int (1 : Int32)) ∧ h = h0) := by
  refine Con.intro (plainFor_of_name pn_java_lang_AbstractStringBuilder) (hELs hw) ?_
  intro p e s m below meth c hh G
  refine castRun (g' := mkF m 0 #[.val (.ref a)] []) (by first | rfl | (simp [entryFrame, mkF, argsToLocals, Value.category, maxLocals]; done)) ?_
  obtain ⟨cz, SC, hcz⟩ := id HC
  refine GoKit.gets G d50_0 (wi hw 316 rfl) Via.refl SC (pc' := 3) rfl ?_
  refine GoKit.if_eq_f G d50_3 hcz (pc' := 6) rfl ?_
  refine GoKit.aloadN G d50_6 rfl rfl (pc' := 7) rfl ?_
  refine GoKit.getf G d50_7 (wi hw 319 rfl) Via.refl O.2.2.1 (pc' := 10) rfl ?_
  refine GoKit.if_ne_f G d50_10 (by decide) (pc' := 13) rfl ?_
  refine GoKit.iconst G (1 : Int32) d50_13 rfl (pc' := 14) rfl ?_
  refine GoKit.goto G d50_14 (by decide) (pc' := 18) rfl ?_
  refine GoKit.retNar G d50_18 (t := .boolean) rfl (by simp) (by decide) (by decide) ?_
  exact ⟨rfl, rfl⟩
theorem d53_0 : decode jdk_65_method_131_code 0 = .ok (.iload_n 1, 1) := by decide +kernel
theorem d53_1 : decode jdk_65_method_131_code 1 = .ok (.iload_n 0, 1) := by decide +kernel
theorem d53_2 : decode jdk_65_method_131_code 2 = .ok (.if_icmp .ge 35, 3) := by decide +kernel
theorem d53_37 : decode jdk_65_method_131_code 37 = .ok (.return_, 1) := by decide +kernel
theorem pn_java_util_Arrays : plainName "java/util/Arrays" = true := by first | (simp [plainName, overriddenIn]; done) | decide +kernel
abbrev rm_con_chklen : Room := { frames := 0, cells := 0, slots := 0, locals := 0 }
set_option maxRecDepth 65536 in
set_option maxHeartbeats 40000000 in
theorem con_chklen (l : Launch) {Z : State} {a0 : Array Value} (hw : ∀ d ∈ tables_1, d.before a0 Z = true) {n0 : Nat} {h0 : Heap}  :
    Con l Z false false ELs n0 (⟨"java/util/Arrays", "checkLength", "(II)V"⟩ : MethodName) jdk_65_method_131_code 2 none rm_con_chklen [] #[(.int (0 : Int32)), (.int (0 : Int32))] h0 [] (fun v h => v = none ∧ h = h0) := by
  refine Con.intro (plainFor_of_name pn_java_util_Arrays) (hELs hw) ?_
  intro p e s m below meth c hh G
  refine castRun (g' := mkF m 0 #[.val (.int (0 : Int32)), .val (.int (0 : Int32))] []) (by first | rfl | (simp [entryFrame, mkF, argsToLocals, Value.category, maxLocals]; done)) ?_
  refine GoKit.iloadN G d53_0 rfl (pc' := 1) rfl ?_
  refine GoKit.iloadN G d53_1 rfl (pc' := 2) rfl ?_
  refine GoKit.icmp_ge_t G d53_2 (by decide) (by decide) (pc' := 37) rfl ?_
  refine GoKit.retVoid G d53_37 rfl (by decide) (by decide) ?_
  exact ⟨rfl, rfl⟩
theorem d52_0 : decode jdk_65_method_133_code 0 = .ok (.iload_n 1, 1) := by decide +kernel
theorem d52_1 : decode jdk_65_method_133_code 1 = .ok (.iload_n 2, 1) := by decide +kernel
theorem d52_2 : decode jdk_65_method_133_code 2 = .ok (.invokestatic 343, 3) := by decide +kernel
theorem pd_16 : parseMethodDescriptor "(II)V" = some ⟨[.int, .int], none⟩ := by decide +kernel
theorem d52_5 : decode jdk_65_method_133_code 5 = .ok (.iload_n 2, 1) := by decide +kernel
theorem d52_6 : decode jdk_65_method_133_code 6 = .ok (.iload_n 1, 1) := by decide +kernel
theorem d52_7 : decode jdk_65_method_133_code 7 = .ok (.isub, 1) := by decide +kernel
theorem d52_8 : decode jdk_65_method_133_code 8 = .ok (.istore_n 3, 1) := by decide +kernel
theorem d52_9 : decode jdk_65_method_133_code 9 = .ok (.iload_n 3, 1) := by decide +kernel
theorem d52_10 : decode jdk_65_method_133_code 10 = .ok (.newarray .byte, 2) := by decide +kernel
theorem d52_12 : decode jdk_65_method_133_code 12 = .ok (.astore 4, 2) := by decide +kernel
theorem d52_14 : decode jdk_65_method_133_code 14 = .ok (.aload_n 0, 1) := by decide +kernel
theorem d52_15 : decode jdk_65_method_133_code 15 = .ok (.iload_n 1, 1) := by decide +kernel
theorem d52_16 : decode jdk_65_method_133_code 16 = .ok (.aload 4, 2) := by decide +kernel
theorem d52_18 : decode jdk_65_method_133_code 18 = .ok (.iconst 0, 1) := by decide +kernel
theorem d52_19 : decode jdk_65_method_133_code 19 = .ok (.aload_n 0, 1) := by decide +kernel
theorem d52_20 : decode jdk_65_method_133_code 20 = .ok (.arraylength, 1) := by decide +kernel
theorem d52_21 : decode jdk_65_method_133_code 21 = .ok (.iload_n 1, 1) := by decide +kernel
theorem d52_22 : decode jdk_65_method_133_code 22 = .ok (.isub, 1) := by decide +kernel
theorem d52_23 : decode jdk_65_method_133_code 23 = .ok (.iload_n 3, 1) := by decide +kernel
theorem d52_24 : decode jdk_65_method_133_code 24 = .ok (.invokestatic 304, 3) := by decide +kernel
theorem d52_27 : decode jdk_65_method_133_code 27 = .ok (.invokestatic 150, 3) := by decide +kernel
theorem d52_30 : decode jdk_65_method_133_code 30 = .ok (.aload 4, 2) := by decide +kernel
theorem d52_32 : decode jdk_65_method_133_code 32 = .ok (.areturn, 1) := by decide +kernel
abbrev rm_con_cpB : Room := { frames := 1, cells := 1, slots := 0, locals := 18 }
set_option maxRecDepth 65536 in
set_option maxHeartbeats 40000000 in
theorem con_cpB (l : Launch) {Z : State} {a0 : Array Value} (hw : ∀ d ∈ tables_1, d.before a0 Z = true) {n0 : Nat} {h0 : Heap} {b : Addr} (A : IA Z h0 b .byte (List.replicate 16 0)) :
    Con l Z false false ELs n0 (⟨"java/util/Arrays", "copyOfRangeByte", "([BII)[B"⟩ : MethodName) jdk_65_method_133_code 5 (some (.array .byte)) rm_con_cpB [] #[(.ref b), (.int (0 : Int32)), (.int (0 : Int32))] h0 [] (fun v h => ∃ d, v = some (.ref d) ∧ IA Z h d .byte [] ∧ Exa Z h d "[B") := by
  refine Con.intro (plainFor_of_name pn_java_util_Arrays) (hELs hw) ?_
  intro p e s m below meth c hh G
  refine castRun (g' := mkF m 0 #[.val (.ref b), .val (.int (0 : Int32)), .val (.int (0 : Int32)), .unset, .unset] []) (by first | rfl | (simp [entryFrame, mkF, argsToLocals, Value.category, maxLocals]; done)) ?_
  refine GoKit.iloadN G d52_0 rfl (pc' := 1) rfl ?_
  refine GoKit.iloadN G d52_1 rfl (pc' := 2) rfl ?_
  refine GoKit.callStaticP G d52_2 (wi hw 395 rfl) (wi hw 396 rfl) (wi hw 390 rfl) (wi hw 397 rfl) (by decide) (W := 0) (argsL := [(.int (0 : Int32)), (.int (0 : Int32))]) (rest := []) (con_chklen l hw) rfl (lenOf pd_16 rfl) rfl (by decide) (Nat.le_of_eq rfl) (by decide) (by decide) (by decide) (cells' := 0) (slots' := 0) rfl rfl (pc' := 5) rfl ?_
  show Run _ _ _ _ _ _ _ _ _ _ _ _ _ _ _ _ _ _ _ _ _ (mkF m 5 #[.val (.ref b), .val (.int (0 : Int32)), .val (.int (0 : Int32)), .unset, .unset] [])
  refine GoKit.iloadN G d52_5 rfl (pc' := 6) rfl ?_
  refine GoKit.iloadN G d52_6 rfl (pc' := 7) rfl ?_
  refine GoKit.isub G d52_7 (pc' := 8) rfl (fun v1 hqv1 => ?_)
  obtain rfl : v1 = (0 : Int32) := by rw [hqv1]; rfl
  refine GoKit.istoreN G d52_8 (Ls' := #[.val (.ref b), .val (.int (0 : Int32)), .val (.int (0 : Int32)), .val (.int (0 : Int32)), .unset]) rfl (pc' := 9) rfl ?_
  refine GoKit.iloadN G d52_9 rfl (pc' := 10) rfl ?_
  refine GoKit.newbE G (k := 0) (cap := 0) d52_10 (wi hw 44 rfl) adB (by decide) (by decide) (by decide) (by decide) (by decide) (by decide) (cells' := 1) (slots' := 0) rfl rfl (pc' := 12) rfl (fun h6 a2 ga2 E3 A4 X5 => ?_)
  refine GoKit.astore G d52_12 rfl (Ls' := #[.val (.ref b), .val (.int (0 : Int32)), .val (.int (0 : Int32)), .val (.int (0 : Int32)), .val (.ref a2)]) rfl (pc' := 14) rfl ?_
  refine GoKit.aloadN G d52_14 rfl rfl (pc' := 15) rfl ?_
  refine GoKit.iloadN G d52_15 rfl (pc' := 16) rfl ?_
  refine GoKit.aload G d52_16 rfl rfl (pc' := 18) rfl ?_
  refine GoKit.iconst G (0 : Int32) d52_18 rfl (pc' := 19) rfl ?_
  refine GoKit.aloadN G d52_19 rfl rfl (pc' := 20) rfl ?_
  refine GoKit.arrlenI G d52_20 (A.ext E3) (z := (16 : Int32)) rfl (pc' := 21) rfl ?_
  refine GoKit.iloadN G d52_21 rfl (pc' := 22) rfl ?_
  refine GoKit.isub G d52_22 (pc' := 23) rfl (fun v7 hqv7 => ?_)
  obtain rfl : v7 = (16 : Int32) := by rw [hqv7]; rfl
  refine GoKit.iloadN G d52_23 rfl (pc' := 24) rfl ?_
  refine GoKit.callStaticP G d52_24 (wi hw 398 rfl) (wi hw 399 rfl) (wi hw 81 rfl) (wi hw 400 rfl) (by decide) (W := 4) (argsL := [(.int (16 : Int32)), (.int (0 : Int32))]) (rest := [(.int (0 : Int32)), (.ref a2), (.int (0 : Int32)), (.ref b)]) (con_min l hw (16 : Int32) (0 : Int32)) rfl (lenOf pd_1 rfl) rfl (by decide) (Nat.le_of_eq rfl) (by decide) (by decide) (by decide) (cells' := 1) (slots' := 0) rfl rfl (pc' := 27) rfl ?_
  show Run _ _ _ _ _ _ _ _ _ _ _ _ _ _ _ _ _ _ _ _ _ (mkF m 27 #[.val (.ref b), .val (.int (0 : Int32)), .val (.int (0 : Int32)), .val (.int (0 : Int32)), .val (.ref a2)] [(.int (min32 (16 : Int32) (0 : Int32))), (.int (0 : Int32)), (.ref a2), (.int (0 : Int32)), (.ref b)])
  rw [show min32 (16 : Int32) (0 : Int32) = 0 from rfl]
  obtain ⟨cs8, As9, -⟩ := id (A.ext E3)
  obtain ⟨cd10, Ad11, -⟩ := id A4
  refine GoKit.copy0 G d52_27 (wi hw 401 rfl) (wi hw 404 rfl) (wi hw 402 rfl) (wi hw 403 rfl) As9 Ad11 rfl (by decide) (W := 0) (Nat.le_of_eq rfl) (by decide) (pc' := 30) rfl ?_
  refine GoKit.aload G d52_30 rfl rfl (pc' := 32) rfl ?_
  refine GoKit.retRef G rfl d52_32 rfl rfl rfl (by decide) (by decide) ?_
  exact ⟨_, rfl, A4, X5⟩
theorem d51_0 : decode jdk_65_method_132_code 0 = .ok (.iload_n 1, 1) := by decide +kernel
theorem d51_1 : decode jdk_65_method_132_code 1 = .ok (.ifCond .ne 9, 3) := by decide +kernel
theorem d51_4 : decode jdk_65_method_132_code 4 = .ok (.iload_n 2, 1) := by decide +kernel
theorem d51_5 : decode jdk_65_method_132_code 5 = .ok (.aload_n 0, 1) := by decide +kernel
theorem d51_6 : decode jdk_65_method_132_code 6 = .ok (.arraylength, 1) := by decide +kernel
theorem d51_7 : decode jdk_65_method_132_code 7 = .ok (.if_icmp .eq 10, 3) := by decide +kernel
theorem d51_10 : decode jdk_65_method_132_code 10 = .ok (.aload_n 0, 1) := by decide +kernel
theorem d51_11 : decode jdk_65_method_132_code 11 = .ok (.iload_n 1, 1) := by decide +kernel
theorem d51_12 : decode jdk_65_method_132_code 12 = .ok (.iload_n 2, 1) := by decide +kernel
theorem d51_13 : decode jdk_65_method_132_code 13 = .ok (.invokestatic 339, 3) := by decide +kernel
theorem pd_17 : parseMethodDescriptor "([BII)[B" = some ⟨[(.array .byte), .int, .int], some (.array .byte)⟩ := by decide +kernel
theorem d51_16 : decode jdk_65_method_132_code 16 = .ok (.areturn, 1) := by decide +kernel
abbrev rm_con_cpR : Room := { frames := 2, cells := 1, slots := 0, locals := 34 }
set_option maxRecDepth 65536 in
set_option maxHeartbeats 40000000 in
theorem con_cpR (l : Launch) {Z : State} {a0 : Array Value} (hw : ∀ d ∈ tables_1, d.before a0 Z = true) {n0 : Nat} {h0 : Heap} {b : Addr} (A : IA Z h0 b .byte (List.replicate 16 0)) :
    Con l Z false false ELs n0 (⟨"java/util/Arrays", "copyOfRange", "([BII)[B"⟩ : MethodName) jdk_65_method_132_code 3 (some (.array .byte)) rm_con_cpR [] #[(.ref b), (.int (0 : Int32)), (.int (0 : Int32))] h0 [] (fun v h => ∃ d, v = some (.ref d) ∧ IA Z h d .byte [] ∧ Exa Z h d "[B") := by
  refine Con.intro (plainFor_of_name pn_java_util_Arrays) (hELs hw) ?_
  intro p e s m below meth c hh G
  refine castRun (g' := mkF m 0 #[.val (.ref b), .val (.int (0 : Int32)), .val (.int (0 : Int32))] []) (by first | rfl | (simp [entryFrame, mkF, argsToLocals, Value.category, maxLocals]; done)) ?_
  refine GoKit.iloadN G d51_0 rfl (pc' := 1) rfl ?_
  refine GoKit.if_ne_f G d51_1 (by decide) (pc' := 4) rfl ?_
  refine GoKit.iloadN G d51_4 rfl (pc' := 5) rfl ?_
  refine GoKit.aloadN G d51_5 rfl rfl (pc' := 6) rfl ?_
  refine GoKit.arrlenI G d51_6 A (z := (16 : Int32)) rfl (pc' := 7) rfl ?_
  refine GoKit.icmp_eq_f G d51_7 (by decide) (pc' := 10) rfl ?_
  refine GoKit.aloadN G d51_10 rfl rfl (pc' := 11) rfl ?_
  refine GoKit.iloadN G d51_11 rfl (pc' := 12) rfl ?_
  refine GoKit.iloadN G d51_12 rfl (pc' := 13) rfl ?_
  refine GoKit.callStatic G d51_13 (wi hw 392 rfl) (wi hw 393 rfl) (wi hw 390 rfl) (wi hw 394 rfl) (by decide) (owc := []) (W := 0) (argsL := [(.ref b), (.int (0 : Int32)), (.int (0 : Int32))]) (rest := []) (con_cpB l hw A) rfl (lenOf pd_17 rfl) rfl (by decide) (Nat.le_of_eq rfl) (by decide) (by decide) (by decide) (fun _ q => nomatch q) (cells' := 1) (slots' := 0) rfl rfl (pc' := 16) rfl (fun r1 h4 q2 K3 => ?_)
  obtain ⟨d5, rfl, A6, X7⟩ := q2
  show Run _ _ _ _ _ _ _ _ _ _ _ _ _ _ _ _ _ _ _ _ _ (mkF m 16 #[.val (.ref b), .val (.int (0 : Int32)), .val (.int (0 : Int32))] [(.ref d5)])
  refine GoKit.retRef G rfl d51_16 rfl rfl rfl (by decide) (by decide) ?_
  exact ⟨_, rfl, A6, X7⟩
theorem d46_0 : decode jdk_42_method_150_code 0 = .ok (.aload_n 0, 1) := by decide +kernel
theorem d46_1 : decode jdk_42_method_150_code 1 = .ok (.invokespecial 1, 3) := by decide +kernel
theorem d46_4 : decode jdk_42_method_150_code 4 = .ok (.aload_n 1, 1) := by decide +kernel
theorem d46_5 : decode jdk_42_method_150_code 5 = .ok (.invokevirtual 552, 3) := by decide +kernel
theorem pd_18 : parseMethodDescriptor "()[B" = some ⟨[], some (.array .byte)⟩ := by decide +kernel
theorem d46_8 : decode jdk_42_method_150_code 8 = .ok (.astore_n 3, 1) := by decide +kernel
theorem d46_9 : decode jdk_42_method_150_code 9 = .ok (.aload_n 1, 1) := by decide +kernel
theorem d46_10 : decode jdk_42_method_150_code 10 = .ok (.invokevirtual 549, 3) := by decide +kernel
theorem d46_13 : decode jdk_42_method_150_code 13 = .ok (.istore 4, 2) := by decide +kernel
theorem d46_15 : decode jdk_42_method_150_code 15 = .ok (.aload_n 1, 1) := by decide +kernel
theorem d46_16 : decode jdk_42_method_150_code 16 = .ok (.invokevirtual 1047, 3) := by decide +kernel
theorem d46_19 : decode jdk_42_method_150_code 19 = .ok (.ifCond .eq 22, 3) := by decide +kernel
theorem d46_22 : decode jdk_42_method_150_code 22 = .ok (.aload_n 0, 1) := by decide +kernel
theorem d46_23 : decode jdk_42_method_150_code 23 = .ok (.iconst 0, 1) := by decide +kernel
theorem d46_24 : decode jdk_42_method_150_code 24 = .ok (.putfield 15, 3) := by decide +kernel
theorem d46_27 : decode jdk_42_method_150_code 27 = .ok (.aload_n 0, 1) := by decide +kernel
theorem d46_28 : decode jdk_42_method_150_code 28 = .ok (.aload_n 3, 1) := by decide +kernel
theorem d46_29 : decode jdk_42_method_150_code 29 = .ok (.iconst 0, 1) := by decide +kernel
theorem d46_30 : decode jdk_42_method_150_code 30 = .ok (.iload 4, 2) := by decide +kernel
theorem d46_32 : decode jdk_42_method_150_code 32 = .ok (.invokestatic 54, 3) := by decide +kernel
theorem d46_35 : decode jdk_42_method_150_code 35 = .ok (.putfield 9, 3) := by decide +kernel
theorem d46_38 : decode jdk_42_method_150_code 38 = .ok (.goto 59, 3) := by decide +kernel
theorem d46_97 : decode jdk_42_method_150_code 97 = .ok (.return_, 1) := by decide +kernel
theorem pn_java_lang_String : plainName "java/lang/String" = true := by first | (simp [plainName, overriddenIn]; done) | decide +kernel
abbrev rm_con_strA : Room := { frames := 3, cells := 1, slots := 0, locals := 49 }
set_option maxRecDepth 65536 in
set_option maxHeartbeats 40000000 in
theorem con_strA (l : Launch) {Z : State} {a0 : Array Value} (hw : ∀ d ∈ tables_1, d.before a0 Z = true) {n0 : Nat} {h0 : Heap} {a : Addr} (O : Exa Z h0 a "java/lang/String" ∧ Fld Z h0 a "java/lang/String" "value" "[B" .null ∧ Fld Z h0 a "java/lang/String" "coder" "B" (.int 0)) {q0 b : Addr} (B : Exa Z h0 q0 "java/lang/StringBuilder" ∧ Fld Z h0 q0 "java/lang/AbstractStringBuilder" "value" "[B" (.ref b) ∧ Fld Z h0 q0 "java/lang/AbstractStringBuilder" "coder" "B" (.int 0) ∧ Fld Z h0 q0 "java/lang/AbstractStringBuilder" "count" "I" (.int 0)) (A : IA Z h0 b .byte (List.replicate 16 0)) (HC : Cst Z) :
    Con l Z false false ELs n0 (⟨"java/lang/String", "<init>", "(Ljava/lang/AbstractStringBuilder;Ljava/lang/Void;)V"⟩ : MethodName) jdk_42_method_150_code 5 none rm_con_strA [] #[(.ref a), (.ref q0), .null] h0 [a] (fun v h => ∃ d, v = none ∧ (Exa Z h a "java/lang/String" ∧ Fld Z h a "java/lang/String" "value" "[B" (.ref d) ∧ Fld Z h a "java/lang/String" "coder" "B" (.int 0)) ∧ IA Z h d .byte [] ∧ Exa Z h d "[B") := by
  refine Con.intro (plainFor_of_name pn_java_lang_String) (hELs hw) ?_
  intro p e s m below meth c hh G
  refine castRun (g' := mkF m 0 #[.val (.ref a), .val (.ref q0), .val .null, .unset, .unset] []) (by first | rfl | (simp [entryFrame, mkF, argsToLocals, Value.category, maxLocals]; done)) ?_
  have hnb := IA.ne A O.1 (wi hw 29 rfl)
  refine GoKit.aloadN G d46_0 rfl rfl (pc' := 1) rfl ?_
  refine GoKit.initObj G d46_1 (wi hw 38 rfl) (wi hw 21 rfl) (wi hw 22 rfl) rfl (by decide) (W := 0) (Nat.le_of_eq rfl) (by decide) (pc' := 4) rfl ?_
  refine GoKit.aloadN G d46_4 rfl rfl (pc' := 5) rfl ?_
  refine GoKit.callVirtualP G d46_5 (wi hw 367 rfl) (wi hw 368 rfl) (wi hw 370 rfl) (wi hw 369 rfl) (wi hw 313 rfl) (wi hw 371 rfl) (by decide) B.1 (W := 0) (argsL := []) (rest := []) (con_getval l hw ⟨B.1, B.2.1, B.2.2.1, B.2.2.2⟩) rfl (lenOf pd_18 rfl) rfl (by decide) (Nat.le_of_eq rfl) (by decide) (by decide) (by decide) (cells' := 0) (slots' := 0) rfl rfl (pc' := 8) rfl ?_
  show Run _ _ _ _ _ _ _ _ _ _ _ _ _ _ _ _ _ _ _ _ _ (mkF m 8 #[.val (.ref a), .val (.ref q0), .val .null, .unset, .unset] [(.ref b)])
  refine GoKit.astoreN G d46_8 rfl (Ls' := #[.val (.ref a), .val (.ref q0), .val .null, .val (.ref b), .unset]) rfl (pc' := 9) rfl ?_
  refine GoKit.aloadN G d46_9 rfl rfl (pc' := 10) rfl ?_
  refine GoKit.callVirtual G d46_10 (wi hw 372 rfl) (wi hw 373 rfl) (wi hw 375 rfl) (nfOf (wi hw 370 rfl) rfl) (wi hw 376 rfl) (wi hw 305 rfl) (wi hw 377 rfl) (by decide) B.1 (owc := []) (W := 0) (argsL := []) (rest := []) (con_sblen l hw ⟨B.1, B.2.1, B.2.2.1, B.2.2.2⟩) rfl (lenOf pd_9 rfl) rfl (by decide) (Nat.le_of_eq rfl) (by decide) (by decide) (by decide) (fun _ q => nomatch q) (cells' := 0) (slots' := 0) rfl rfl (pc' := 13) rfl (fun r1 h4 q2 K3 => ?_)
  obtain rfl := q2
  show Run _ _ _ _ _ _ _ _ _ _ _ _ _ _ _ _ _ _ _ _ _ (mkF m 13 #[.val (.ref a), .val (.ref q0), .val .null, .val (.ref b), .unset] [(.int (0 : Int32))])
  refine GoKit.istore G d46_13 (Ls' := #[.val (.ref a), .val (.ref q0), .val .null, .val (.ref b), .val (.int (0 : Int32))]) rfl (pc' := 15) rfl ?_
  refine GoKit.aloadN G d46_15 rfl rfl (pc' := 16) rfl ?_
  refine GoKit.callVirtualP G d46_16 (wi hw 383 rfl) (wi hw 384 rfl) (wi hw 386 rfl) (wi hw 385 rfl) (wi hw 313 rfl) (wi hw 387 rfl) (by decide) (B.1.keep K3) (W := 0) (argsL := []) (rest := []) (con_asblat l hw ⟨(B.1.keep K3), (B.2.1.keep K3 nin0), (B.2.2.1.keep K3 nin0), (B.2.2.2.keep K3 nin0)⟩ HC) rfl (lenOf pd_8 rfl) rfl (by decide) (Nat.le_of_eq rfl) (by decide) (by decide) (by decide) (cells' := 0) (slots' := 0) rfl rfl (pc' := 19) rfl ?_
  show Run _ _ _ _ _ _ _ _ _ _ _ _ _ _ _ _ _ _ _ _ _ (mkF m 19 #[.val (.ref a), .val (.ref q0), .val .null, .val (.ref b), .val (.int (0 : Int32))] [(.int (1 : Int32))])
  refine GoKit.if_eq_f G d46_19 (by decide) (pc' := 22) rfl ?_
  refine GoKit.aloadN G d46_22 rfl rfl (pc' := 23) rfl ?_
  refine GoKit.iconst G (0 : Int32) d46_23 rfl (pc' := 24) rfl ?_
  refine GoKit.putf G d46_24 (wi hw 51 rfl) Via.refl (O.2.2.keep K3 nin0) (O.1.keep K3) (Or.inr ⟨(wi hw 52 rfl), rfl, rfl⟩) (wi hw 29 rfl) (ty := .byte) (by decide) rfl rfl (List.Mem.head _) (pc' := 27) rfl (fun h6 W5 => ?_)
  have F7 := ((O.2.2.keep K3 nin0)).same W5
  refine GoKit.aloadN G d46_27 rfl rfl (pc' := 28) rfl ?_
  refine GoKit.aloadN G d46_28 rfl rfl (pc' := 29) rfl ?_
  refine GoKit.iconst G (0 : Int32) d46_29 rfl (pc' := 30) rfl ?_
  refine GoKit.iload G d46_30 rfl (pc' := 32) rfl ?_
  refine GoKit.callStatic G d46_32 (wi hw 388 rfl) (wi hw 389 rfl) (wi hw 390 rfl) (wi hw 391 rfl) (by decide) (owc := []) (W := 1) (argsL := [(.ref b), (.int (0 : Int32)), (.int (0 : Int32))]) (rest := [(.ref a)]) (con_cpR l hw ((A.keep K3 nin0).other W5 hnb)) rfl (lenOf pd_17 rfl) rfl (by decide) (Nat.le_of_eq rfl) (by decide) (by decide) (by decide) (fun _ q => nomatch q) (cells' := 1) (slots' := 0) rfl rfl (pc' := 35) rfl (fun r8 h11 q9 K10 => ?_)
  obtain ⟨d12, rfl, A13, X14⟩ := q9
  show Run _ _ _ _ _ _ _ _ _ _ _ _ _ _ _ _ _ _ _ _ _ (mkF m 35 #[.val (.ref a), .val (.ref q0), .val .null, .val (.ref b), .val (.int (0 : Int32))] [(.ref d12), (.ref a)])
  refine GoKit.putf G d46_35 (wi hw 53 rfl) Via.refl (((O.2.1.keep K3 nin0).other W5 (Or.inr (slot_ne (Or.inr (wi hw 54 rfl)) (Or.inr (wi hw 52 rfl)) (by decide) (by decide : _ = some (.array .byte)) (by decide : _ = some .byte)))).keep K10 nin0) (((O.1.keep K3).wr W5).keep K10) (Or.inr ⟨(wi hw 54 rfl), rfl, rfl⟩) (wi hw 29 rfl) (ty := (.array .byte)) (by decide) rfl rfl (List.Mem.head _) (pc' := 38) rfl (fun h16 W15 => ?_)
  have F17 := ((((O.2.1.keep K3 nin0).other W5 (Or.inr (slot_ne (Or.inr (wi hw 54 rfl)) (Or.inr (wi hw 52 rfl)) (by decide) (by decide : _ = some (.array .byte)) (by decide : _ = some .byte)))).keep K10 nin0)).same W15
  refine GoKit.goto G d46_38 (by decide) (pc' := 97) rfl ?_
  refine GoKit.retVoid G d46_97 rfl (by decide) (by decide) ?_
  exact ⟨_, rfl, ⟨((((O.1.keep K3).wr W5).keep K10).wr W15), F17, ((F7.keep K10 nin0).other W15 (Or.inr (slot_ne (Or.inr (wi hw 52 rfl)) (Or.inr (wi hw 54 rfl)) (by decide) (by decide : _ = some .byte) (by decide : _ = some (.array .byte)))))⟩, (A13.other W15 (Exa.ne X14 (((O.1.keep K3).wr W5).keep K10) (by decide))), (X14.wr W15)⟩
theorem d45_0 : decode jdk_42_method_53_code 0 = .ok (.aload_n 0, 1) := by decide +kernel
theorem d45_1 : decode jdk_42_method_53_code 1 = .ok (.aload_n 1, 1) := by decide +kernel
theorem d45_2 : decode jdk_42_method_53_code 2 = .ok (.aconst_null, 1) := by decide +kernel
theorem d45_3 : decode jdk_42_method_53_code 3 = .ok (.invokespecial 489, 3) := by decide +kernel
theorem pd_19 : parseMethodDescriptor "(Ljava/lang/AbstractStringBuilder;Ljava/lang/Void;)V" = some ⟨[(.object "java/lang/AbstractStringBuilder"), (.object "java/lang/Void")], none⟩ := by decide +kernel
theorem d45_6 : decode jdk_42_method_53_code 6 = .ok (.return_, 1) := by decide +kernel
abbrev rm_con_strB : Room := { frames := 4, cells := 1, slots := 0, locals := 65 }
set_option maxRecDepth 65536 in
set_option maxHeartbeats 40000000 in
theorem con_strB (l : Launch) {Z : State} {a0 : Array Value} (hw : ∀ d ∈ tables_1, d.before a0 Z = true) {n0 : Nat} {h0 : Heap} {a : Addr} (O : Exa Z h0 a "java/lang/String" ∧ Fld Z h0 a "java/lang/String" "value" "[B" .null ∧ Fld Z h0 a "java/lang/String" "coder" "B" (.int 0)) {q0 b : Addr} (B : Exa Z h0 q0 "java/lang/StringBuilder" ∧ Fld Z h0 q0 "java/lang/AbstractStringBuilder" "value" "[B" (.ref b) ∧ Fld Z h0 q0 "java/lang/AbstractStringBuilder" "coder" "B" (.int 0) ∧ Fld Z h0 q0 "java/lang/AbstractStringBuilder" "count" "I" (.int 0)) (A : IA Z h0 b .byte (List.replicate 16 0)) (HC : Cst Z) :
    Con l Z false false ELs n0 (⟨"java/lang/String", "<init>", "(Ljava/lang/StringBuilder;)V"⟩ : MethodName) jdk_42_method_53_code 2 none rm_con_strB [] #[(.ref a), (.ref q0)] h0 [a] (fun v h => ∃ d, v = none ∧ (Exa Z h a "java/lang/String" ∧ Fld Z h a "java/lang/String" "value" "[B" (.ref d) ∧ Fld Z h a "java/lang/String" "coder" "B" (.int 0)) ∧ IA Z h d .byte [] ∧ Exa Z h d "[B") := by
  refine Con.intro (plainFor_of_name pn_java_lang_String) (hELs hw) ?_
  intro p e s m below meth c hh G
  refine castRun (g' := mkF m 0 #[.val (.ref a), .val (.ref q0)] []) (by first | rfl | (simp [entryFrame, mkF, argsToLocals, Value.category, maxLocals]; done)) ?_
  have hnb := IA.ne A O.1 (wi hw 29 rfl)
  refine GoKit.aloadN G d45_0 rfl rfl (pc' := 1) rfl ?_
  refine GoKit.aloadN G d45_1 rfl rfl (pc' := 2) rfl ?_
  refine GoKit.aconstNull G d45_2 (pc' := 3) rfl ?_
  refine GoKit.callSpecial G d45_3 rfl (wi hw 364 rfl) (wi hw 365 rfl) (wi hw 30 rfl) (wi hw 366 rfl) (by decide) (owc := [a]) (W := 0) (argsL := [(.ref q0), .null]) (rest := []) (con_strA l hw ⟨O.1, O.2.1, O.2.2⟩ ⟨B.1, B.2.1, B.2.2.1, B.2.2.2⟩ A HC) rfl (lenOf pd_19 rfl) rfl (by decide) (Nat.le_of_eq rfl) (by decide) (by decide) (by decide) (List.forall_mem_cons.mpr ⟨(List.Mem.head _), (fun _ q => nomatch q)⟩) (cells' := 1) (slots' := 0) rfl rfl (pc' := 6) rfl (fun r1 h4 q2 K3 => ?_)
  obtain ⟨d5, rfl, O6, A7, X8⟩ := q2
  show Run _ _ _ _ _ _ _ _ _ _ _ _ _ _ _ _ _ _ _ _ _ (mkF m 6 #[.val (.ref a), .val (.ref q0)] [])
  refine GoKit.retVoid G d45_6 rfl (by decide) (by decide) ?_
  exact ⟨_, rfl, ⟨O6.1, O6.2.1, O6.2.2⟩, A7, X8⟩
theorem d44_0 : decode jdk_67_method_42_code 0 = .ok (.new 18, 3) := by decide +kernel
theorem d44_3 : decode jdk_67_method_42_code 3 = .ok (.dup, 1) := by decide +kernel
theorem d44_4 : decode jdk_67_method_42_code 4 = .ok (.aload_n 0, 1) := by decide +kernel
theorem d44_5 : decode jdk_67_method_42_code 5 = .ok (.invokespecial 137, 3) := by decide +kernel
theorem pd_20 : parseMethodDescriptor "(Ljava/lang/StringBuilder;)V" = some ⟨[(.object "java/lang/StringBuilder")], none⟩ := by decide +kernel
theorem d44_8 : decode jdk_67_method_42_code 8 = .ok (.areturn, 1) := by decide +kernel
abbrev rm_con_tostr : Room := { frames := 5, cells := 2, slots := 4, locals := 79 }
set_option maxRecDepth 65536 in
set_option maxHeartbeats 40000000 in
theorem con_tostr (l : Launch) {Z : State} {a0 : Array Value} (hw : ∀ d ∈ tables_1, d.before a0 Z = true) {n0 : Nat} {h0 : Heap} {q0 b : Addr} (B : Exa Z h0 q0 "java/lang/StringBuilder" ∧ Fld Z h0 q0 "java/lang/AbstractStringBuilder" "value" "[B" (.ref b) ∧ Fld Z h0 q0 "java/lang/AbstractStringBuilder" "coder" "B" (.int 0) ∧ Fld Z h0 q0 "java/lang/AbstractStringBuilder" "count" "I" (.int 0)) (A : IA Z h0 b .byte (List.replicate 16 0)) (HC : Cst Z) :
    Con l Z false false ELs n0 (⟨"java/lang/StringBuilder", "toString", "()Ljava/lang/String;"⟩ : MethodName) jdk_67_method_42_code 1 (some (.object "java/lang/String")) rm_con_tostr [] #[(.ref q0)] h0 [] (fun v h => ∃ a d, v = some (.ref a) ∧ (Exa Z h a "java/lang/String" ∧ Fld Z h a "java/lang/String" "value" "[B" (.ref d) ∧ Fld Z h a "java/lang/String" "coder" "B" (.int 0)) ∧ IA Z h d .byte [] ∧ Exa Z h d "[B") := by
  refine Con.intro (plainFor_of_name pn_java_lang_StringBuilder) (hELs hw) ?_
  intro p e s m below meth c hh G
  refine castRun (g' := mkF m 0 #[.val (.ref q0)] []) (by first | rfl | (simp [entryFrame, mkF, argsToLocals, Value.category, maxLocals]; done)) ?_
  refine GoKit.newobj G d44_0 (wi hw 360 rfl) (wi hw 29 rfl) (wi hw 30 rfl) (by decide) (by decide) (cells' := 1) (slots' := 4) rfl rfl (pc' := 3) rfl (fun h5 a1 ga1 E2 X3 D4 => ?_)
  have F6 : Fld Z h5 a1 "java/lang/String" "coder" "B" (.int 0) := D4 (Or.inr (wi hw 52 rfl)) (ty := .byte) (by decide)
  have F7 : Fld Z h5 a1 "java/lang/String" "value" "[B" .null := D4 (Or.inr (wi hw 54 rfl)) (ty := (.array .byte)) (by decide)
  refine GoKit.dup G d44_3 rfl (pc' := 4) rfl ?_
  refine GoKit.aloadN G d44_4 rfl rfl (pc' := 5) rfl ?_
  refine GoKit.callSpecial G d44_5 rfl (wi hw 361 rfl) (wi hw 362 rfl) (wi hw 30 rfl) (wi hw 363 rfl) (by decide) (owc := [a1]) (W := 1) (argsL := [(.ref q0)]) (rest := [(.ref a1)]) (con_strB l hw ⟨X3, F7, F6⟩ ⟨(B.1.ext E2), (B.2.1.ext E2), (B.2.2.1.ext E2), (B.2.2.2.ext E2)⟩ (A.ext E2) HC) rfl (lenOf pd_20 rfl) rfl (by decide) (Nat.le_of_eq rfl) (by decide) (by decide) (by decide) (List.forall_mem_cons.mpr ⟨(List.Mem.head _), (fun _ q => nomatch q)⟩) (cells' := 2) (slots' := 4) rfl rfl (pc' := 8) rfl (fun r8 h11 q9 K10 => ?_)
  obtain ⟨d12, rfl, O13, A14, X15⟩ := q9
  show Run _ _ _ _ _ _ _ _ _ _ _ _ _ _ _ _ _ _ _ _ _ (mkF m 8 #[.val (.ref q0)] [(.ref a1)])
  refine GoKit.retRef G rfl d44_8 rfl rfl rfl (by decide) (by decide) ?_
  exact ⟨_, _, rfl, ⟨O13.1, O13.2.1, O13.2.2⟩, A14, X15⟩
theorem d56_0 : decode jdk_42_method_152_code 0 = .ok (.getstatic 38, 3) := by decide +kernel
theorem d56_3 : decode jdk_42_method_152_code 3 = .ok (.ifCond .eq 10, 3) := by decide +kernel
theorem d56_6 : decode jdk_42_method_152_code 6 = .ok (.aload_n 0, 1) := by decide +kernel
theorem d56_7 : decode jdk_42_method_152_code 7 = .ok (.getfield 15, 3) := by decide +kernel
theorem d56_10 : decode jdk_42_method_152_code 10 = .ok (.goto 4, 3) := by decide +kernel
theorem d56_14 : decode jdk_42_method_152_code 14 = .ok (.ireturn, 1) := by decide +kernel
abbrev rm_con_coder : Room := { frames := 0, cells := 0, slots := 0, locals := 0 }
set_option maxRecDepth 65536 in
set_option maxHeartbeats 40000000 in
theorem con_coder (l : Launch) {Z : State} {a0 : Array Value} (hw : ∀ d ∈ tables_1, d.before a0 Z = true) {n0 : Nat} {h0 : Heap} {a b : Addr} (O : Exa Z h0 a "java/lang/String" ∧ Fld Z h0 a "java/lang/String" "value" "[B" (.ref b) ∧ Fld Z h0 a "java/lang/String" "coder" "B" (.int 0)) (A : IA Z h0 b .byte []) (X : Exa Z h0 b "[B") (HC : Cst Z) :
    Con l Z false false ELs n0 (⟨"java/lang/String", "coder", "()B"⟩ : MethodName) jdk_42_method_152_code 1 (some .byte) rm_con_coder [] #[(.ref a)] h0 [] (fun v h => v = some (.int 0) ∧ h = h0) := by
  refine Con.intro (plainFor_of_name pn_java_lang_String) (hELs hw) ?_
  intro p e s m below meth c hh G
  refine castRun (g' := mkF m 0 #[.val (.ref a)] []) (by first | rfl | (simp [entryFrame, mkF, argsToLocals, Value.category, maxLocals]; done)) ?_
  obtain ⟨cz, SC, hcz⟩ := id HC
  refine GoKit.gets G d56_0 (wi hw 39 rfl) Via.refl SC (pc' := 3) rfl ?_
  refine GoKit.if_eq_f G d56_3 hcz (pc' := 6) rfl ?_
  refine GoKit.aloadN G d56_6 rfl rfl (pc' := 7) rfl ?_
  refine GoKit.getf G d56_7 (wi hw 51 rfl) Via.refl O.2.2 (pc' := 10) rfl ?_
  refine GoKit.goto G d56_10 (by decide) (pc' := 14) rfl ?_
  refine GoKit.retNar G d56_14 (t := .byte) rfl (by simp) (by decide) (by decide) ?_
  exact ⟨rfl, rfl⟩
theorem d60_0 : decode jdk_123_method_3_code 0 = .ok (.iload_n 1, 1) := by decide +kernel
theorem d60_1 : decode jdk_123_method_3_code 1 = .ok (.iload_n 2, 1) := by decide +kernel
theorem d60_2 : decode jdk_123_method_3_code 2 = .ok (.iadd, 1) := by decide +kernel
theorem d60_3 : decode jdk_123_method_3_code 3 = .ok (.istore_n 3, 1) := by decide +kernel
theorem d60_4 : decode jdk_123_method_3_code 4 = .ok (.iload_n 1, 1) := by decide +kernel
theorem d60_5 : decode jdk_123_method_3_code 5 = .ok (.istore 4, 2) := by decide +kernel
theorem d60_7 : decode jdk_123_method_3_code 7 = .ok (.iload 4, 2) := by decide +kernel
theorem d60_9 : decode jdk_123_method_3_code 9 = .ok (.iload_n 3, 1) := by decide +kernel
theorem d60_10 : decode jdk_123_method_3_code 10 = .ok (.if_icmp .ge 21, 3) := by decide +kernel
theorem d60_31 : decode jdk_123_method_3_code 31 = .ok (.iload_n 2, 1) := by decide +kernel
theorem d60_32 : decode jdk_123_method_3_code 32 = .ok (.ireturn, 1) := by decide +kernel
theorem pn_java_lang_StringCoding : plainName "java/lang/StringCoding" = true := by first | (simp [plainName, overriddenIn]; done) | decide +kernel
abbrev rm_con_cntpos : Room := { frames := 0, cells := 0, slots := 0, locals := 0 }
set_option maxRecDepth 65536 in
set_option maxHeartbeats 40000000 in
theorem con_cntpos (l : Launch) {Z : State} {a0 : Array Value} (hw : ∀ d ∈ tables_1, d.before a0 Z = true) {n0 : Nat} {h0 : Heap} {b : Addr} :
    Con l Z false false ELs n0 (⟨"java/lang/StringCoding", "countPositives", "([BII)I"⟩ : MethodName) jdk_123_method_3_code 5 (some .int) rm_con_cntpos [] #[(.ref b), (.int (0 : Int32)), (.int (0 : Int32))] h0 [] (fun v h => v = some (.int 0) ∧ h = h0) := by
  refine Con.intro (plainFor_of_name pn_java_lang_StringCoding) (hELs hw) ?_
  intro p e s m below meth c hh G
  refine castRun (g' := mkF m 0 #[.val (.ref b), .val (.int (0 : Int32)), .val (.int (0 : Int32)), .unset, .unset] []) (by first | rfl | (simp [entryFrame, mkF, argsToLocals, Value.category, maxLocals]; done)) ?_
  refine GoKit.iloadN G d60_0 rfl (pc' := 1) rfl ?_
  refine GoKit.iloadN G d60_1 rfl (pc' := 2) rfl ?_
  refine GoKit.iadd G d60_2 (pc' := 3) rfl (fun v1 hqv1 => ?_)
  obtain rfl : v1 = (0 : Int32) := by rw [hqv1]; rfl
  refine GoKit.istoreN G d60_3 (Ls' := #[.val (.ref b), .val (.int (0 : Int32)), .val (.int (0 : Int32)), .val (.int (0 : Int32)), .unset]) rfl (pc' := 4) rfl ?_
  refine GoKit.iloadN G d60_4 rfl (pc' := 5) rfl ?_
  refine GoKit.istore G d60_5 (Ls' := #[.val (.ref b), .val (.int (0 : Int32)), .val (.int (0 : Int32)), .val (.int (0 : Int32)), .val (.int (0 : Int32))]) rfl (pc' := 7) rfl ?_
  refine GoKit.iload G d60_7 rfl (pc' := 9) rfl ?_
  refine GoKit.iloadN G d60_9 rfl (pc' := 10) rfl ?_
  refine GoKit.icmp_ge_t G d60_10 (by decide) (by decide) (pc' := 31) rfl ?_
  refine GoKit.iloadN G d60_31 rfl (pc' := 32) rfl ?_
  refine GoKit.retInt G d60_32 rfl (by decide) (by decide) ?_
  exact ⟨rfl, rfl⟩
theorem d59_0 : decode jdk_123_method_2_code 0 = .ok (.aload_n 0, 1) := by decide +kernel
theorem d59_1 : decode jdk_123_method_2_code 1 = .ok (.iload_n 1, 1) := by decide +kernel
theorem d59_2 : decode jdk_123_method_2_code 2 = .ok (.iload_n 2, 1) := by decide +kernel
theorem d59_3 : decode jdk_123_method_2_code 3 = .ok (.invokestatic 7, 3) := by decide +kernel
theorem pd_21 : parseMethodDescriptor "([BII)I" = some ⟨[(.array .byte), .int, .int], some .int⟩ := by decide +kernel
theorem d59_6 : decode jdk_123_method_2_code 6 = .ok (.iload_n 2, 1) := by decide +kernel
theorem d59_7 : decode jdk_123_method_2_code 7 = .ok (.if_icmp .eq 7, 3) := by decide +kernel
theorem d59_14 : decode jdk_123_method_2_code 14 = .ok (.iconst 0, 1) := by decide +kernel
theorem d59_15 : decode jdk_123_method_2_code 15 = .ok (.ireturn, 1) := by decide +kernel
abbrev rm_con_hasneg : Room := { frames := 1, cells := 0, slots := 0, locals := 16 }
set_option maxRecDepth 65536 in
set_option maxHeartbeats 40000000 in
theorem con_hasneg (l : Launch) {Z : State} {a0 : Array Value} (hw : ∀ d ∈ tables_1, d.before a0 Z = true) {n0 : Nat} {h0 : Heap} {b : Addr} :
    Con l Z false false ELs n0 (⟨"java/lang/StringCoding", "hasNegatives", "([BII)Z"⟩ : MethodName) jdk_123_method_2_code 3 (some .boolean) rm_con_hasneg [] #[(.ref b), (.int (0 : Int32)), (.int (0 : Int32))] h0 [] (fun v h => v = some (.int 0) ∧ h = h0) := by
  refine Con.intro (plainFor_of_name pn_java_lang_StringCoding) (hELs hw) ?_
  intro p e s m below meth c hh G
  refine castRun (g' := mkF m 0 #[.val (.ref b), .val (.int (0 : Int32)), .val (.int (0 : Int32))] []) (by first | rfl | (simp [entryFrame, mkF, argsToLocals, Value.category, maxLocals]; done)) ?_
  refine GoKit.aloadN G d59_0 rfl rfl (pc' := 1) rfl ?_
  refine GoKit.iloadN G d59_1 rfl (pc' := 2) rfl ?_
  refine GoKit.iloadN G d59_2 rfl (pc' := 3) rfl ?_
  refine GoKit.callStaticP G d59_3 (wi hw 429 rfl) (wi hw 430 rfl) (wi hw 427 rfl) (wi hw 431 rfl) (by decide) (W := 0) (argsL := [(.ref b), (.int (0 : Int32)), (.int (0 : Int32))]) (rest := []) (con_cntpos l hw) rfl (lenOf pd_21 rfl) rfl (by decide) (Nat.le_of_eq rfl) (by decide) (by decide) (by decide) (cells' := 0) (slots' := 0) rfl rfl (pc' := 6) rfl ?_
  show Run _ _ _ _ _ _ _ _ _ _ _ _ _ _ _ _ _ _ _ _ _ (mkF m 6 #[.val (.ref b), .val (.int (0 : Int32)), .val (.int (0 : Int32))] [(.int (0 : Int32))])
  refine GoKit.iloadN G d59_6 rfl (pc' := 7) rfl ?_
  refine GoKit.icmp_eq_t G d59_7 (by decide) (by decide) (pc' := 14) rfl ?_
  refine GoKit.iconst G (0 : Int32) d59_14 rfl (pc' := 15) rfl ?_
  refine GoKit.retNar G d59_15 (t := .boolean) rfl (by simp) (by decide) (by decide) ?_
  exact ⟨rfl, rfl⟩
theorem d58_0 : decode jdk_42_method_46_code 0 = .ok (.iload_n 0, 1) := by decide +kernel
theorem d58_1 : decode jdk_42_method_46_code 1 = .ok (.iconst 1, 1) := by decide +kernel
theorem d58_2 : decode jdk_42_method_46_code 2 = .ok (.if_icmp .ne 9, 3) := by decide +kernel
theorem d58_11 : decode jdk_42_method_46_code 11 = .ok (.aload_n 1, 1) := by decide +kernel
theorem d58_12 : decode jdk_42_method_46_code 12 = .ok (.iconst 0, 1) := by decide +kernel
theorem d58_13 : decode jdk_42_method_46_code 13 = .ok (.aload_n 1, 1) := by decide +kernel
theorem d58_14 : decode jdk_42_method_46_code 14 = .ok (.arraylength, 1) := by decide +kernel
theorem d58_15 : decode jdk_42_method_46_code 15 = .ok (.invokestatic 128, 3) := by decide +kernel
theorem pd_22 : parseMethodDescriptor "([BII)Z" = some ⟨[(.array .byte), .int, .int], some .boolean⟩ := by decide +kernel
theorem d58_18 : decode jdk_42_method_46_code 18 = .ok (.ifCond .ne 11, 3) := by decide +kernel
theorem d58_21 : decode jdk_42_method_46_code 21 = .ok (.aload_n 1, 1) := by decide +kernel
theorem d58_22 : decode jdk_42_method_46_code 22 = .ok (.invokevirtual 279, 3) := by decide +kernel
theorem d58_25 : decode jdk_42_method_46_code 25 = .ok (.checkcast 280, 3) := by decide +kernel
theorem d58_28 : decode jdk_42_method_46_code 28 = .ok (.areturn, 1) := by decide +kernel
abbrev rm_con_encU : Room := { frames := 2, cells := 1, slots := 0, locals := 30 }
set_option maxRecDepth 65536 in
set_option maxHeartbeats 40000000 in
theorem con_encU (l : Launch) {Z : State} {a0 : Array Value} (hw : ∀ d ∈ tables_1, d.before a0 Z = true) {n0 : Nat} {h0 : Heap} {b : Addr} (A : IA Z h0 b .byte []) (X : Exa Z h0 b "[B") :
    Con l Z false false ELs n0 (⟨"java/lang/String", "encodeUTF8", "(B[BZ)[B"⟩ : MethodName) jdk_42_method_46_code 9 (some (.array .byte)) rm_con_encU [] #[(.int (0 : Int32)), (.ref b), (.int (1 : Int32))] h0 [] (fun v h => ∃ d, v = some (.ref d) ∧ IA Z h d .byte [] ∧ Exa Z h d "[B") := by
  refine Con.intro (plainFor_of_name pn_java_lang_String) (hELs hw) ?_
  intro p e s m below meth c hh G
  refine castRun (g' := mkF m 0 #[.val (.int (0 : Int32)), .val (.ref b), .val (.int (1 : Int32)), .unset, .unset, .unset, .unset, .unset, .unset] []) (by first | rfl | (simp [entryFrame, mkF, argsToLocals, Value.category, maxLocals]; done)) ?_
  refine GoKit.iloadN G d58_0 rfl (pc' := 1) rfl ?_
  refine GoKit.iconst G (1 : Int32) d58_1 rfl (pc' := 2) rfl ?_
  refine GoKit.icmp_ne_t G d58_2 (by decide) (by decide) (pc' := 11) rfl ?_
  refine GoKit.aloadN G d58_11 rfl rfl (pc' := 12) rfl ?_
  refine GoKit.iconst G (0 : Int32) d58_12 rfl (pc' := 13) rfl ?_
  refine GoKit.aloadN G d58_13 rfl rfl (pc' := 14) rfl ?_
  refine GoKit.arrlenI G d58_14 A (z := (0 : Int32)) rfl (pc' := 15) rfl ?_
  refine GoKit.callStaticP G d58_15 (wi hw 425 rfl) (wi hw 426 rfl) (wi hw 427 rfl) (wi hw 428 rfl) (by decide) (W := 0) (argsL := [(.ref b), (.int (0 : Int32)), (.int (0 : Int32))]) (rest := []) (con_hasneg l hw) rfl (lenOf pd_22 rfl) rfl (by decide) (Nat.le_of_eq rfl) (by decide) (by decide) (by decide) (cells' := 0) (slots' := 0) rfl rfl (pc' := 18) rfl ?_
  show Run _ _ _ _ _ _ _ _ _ _ _ _ _ _ _ _ _ _ _ _ _ (mkF m 18 #[.val (.int (0 : Int32)), .val (.ref b), .val (.int (1 : Int32)), .unset, .unset, .unset, .unset, .unset, .unset] [(.int (0 : Int32))])
  refine GoKit.if_ne_f G d58_18 (by decide) (pc' := 21) rfl ?_
  refine GoKit.aloadN G d58_21 rfl rfl (pc' := 22) rfl ?_
  refine GoKit.clone0 G d58_22 (wi hw 432 rfl) (wi hw 433 rfl) (wi hw 437 rfl) (wi hw 435 rfl) (wi hw 436 rfl) (wi hw 438 rfl) A X rfl (by decide) (W := 0) (Nat.le_of_eq rfl) (by decide) (by decide) (by decide) (cells' := 1) rfl (pc' := 25) rfl (fun h5 a1 ga1 E2 A3 X4 => ?_)
  refine GoKit.castOk G d58_25 (wi hw 439 rfl) (Ins.self X4) (pc' := 28) rfl ?_
  refine GoKit.retRef G rfl d58_28 rfl rfl rfl (by decide) (by decide) ?_
  exact ⟨_, rfl, A3, X4⟩
theorem d57_0 : decode jdk_42_method_18_code 0 = .ok (.aload_n 0, 1) := by decide +kernel
theorem d57_1 : decode jdk_42_method_18_code 1 = .ok (.getstatic 86, 3) := by decide +kernel
theorem d57_4 : decode jdk_42_method_18_code 4 = .ok (.if_acmp .ne 10, 3) := by decide +kernel
theorem d57_7 : decode jdk_42_method_18_code 7 = .ok (.iload_n 1, 1) := by decide +kernel
theorem d57_8 : decode jdk_42_method_18_code 8 = .ok (.aload_n 2, 1) := by decide +kernel
theorem d57_9 : decode jdk_42_method_18_code 9 = .ok (.iconst 1, 1) := by decide +kernel
theorem d57_10 : decode jdk_42_method_18_code 10 = .ok (.invokestatic 252, 3) := by decide +kernel
theorem pd_23 : parseMethodDescriptor "(B[BZ)[B" = some ⟨[.byte, (.array .byte), .boolean], some (.array .byte)⟩ := by decide +kernel
theorem d57_13 : decode jdk_42_method_18_code 13 = .ok (.areturn, 1) := by decide +kernel
abbrev rm_con_enc : Room := { frames := 3, cells := 1, slots := 0, locals := 50 }
set_option maxRecDepth 65536 in
set_option maxHeartbeats 40000000 in
theorem con_enc (l : Launch) {Z : State} {a0 : Array Value} (hw : ∀ d ∈ tables_1, d.before a0 Z = true) {n0 : Nat} {h0 : Heap} {u8 : Addr} (SU : Sta Z Z.heap "sun/nio/cs/UTF_8" "INSTANCE" "Lsun/nio/cs/UTF_8;" (.ref u8)) {b : Addr} (A : IA Z h0 b .byte []) (X : Exa Z h0 b "[B") :
    Con l Z false false ELs n0 (⟨"java/lang/String", "encode", "(Ljava/nio/charset/Charset;B[B)[B"⟩ : MethodName) jdk_42_method_18_code 3 (some (.array .byte)) rm_con_enc [] #[(.ref u8), (.int (0 : Int32)), (.ref b)] h0 [] (fun v h => ∃ d, v = some (.ref d) ∧ IA Z h d .byte [] ∧ Exa Z h d "[B") := by
  refine Con.intro (plainFor_of_name pn_java_lang_String) (hELs hw) ?_
  intro p e s m below meth c hh G
  refine castRun (g' := mkF m 0 #[.val (.ref u8), .val (.int (0 : Int32)), .val (.ref b)] []) (by first | rfl | (simp [entryFrame, mkF, argsToLocals, Value.category, maxLocals]; done)) ?_
  refine GoKit.aloadN G d57_0 rfl rfl (pc' := 1) rfl ?_
  refine GoKit.gets G d57_1 (wi hw 420 rfl) Via.refl SU (pc' := 4) rfl ?_
  refine GoKit.acmp_ne_f G d57_4 rfl rfl rfl (pc' := 7) rfl ?_
  refine GoKit.iloadN G d57_7 rfl (pc' := 8) rfl ?_
  refine GoKit.aloadN G d57_8 rfl rfl (pc' := 9) rfl ?_
  refine GoKit.iconst G (1 : Int32) d57_9 rfl (pc' := 10) rfl ?_
  refine GoKit.callStatic G d57_10 (wi hw 422 rfl) (wi hw 423 rfl) (wi hw 30 rfl) (wi hw 424 rfl) (by decide) (owc := []) (W := 0) (argsL := [(.int (0 : Int32)), (.ref b), (.int (1 : Int32))]) (rest := []) (con_encU l hw A X) rfl (lenOf pd_23 rfl) rfl (by decide) (Nat.le_of_eq rfl) (by decide) (by decide) (by decide) (fun _ q => nomatch q) (cells' := 1) (slots' := 0) rfl rfl (pc' := 13) rfl (fun r1 h4 q2 K3 => ?_)
  obtain ⟨d5, rfl, A6, X7⟩ := q2
  show Run _ _ _ _ _ _ _ _ _ _ _ _ _ _ _ _ _ _ _ _ _ (mkF m 13 #[.val (.ref u8), .val (.int (0 : Int32)), .val (.ref b)] [(.ref d5)])
  refine GoKit.retRef G rfl d57_13 rfl rfl rfl (by decide) (by decide) ?_
  exact ⟨_, rfl, A6, X7⟩
theorem d55_0 : decode jdk_42_method_64_code 0 = .ok (.aload_n 1, 1) := by decide +kernel
theorem d55_1 : decode jdk_42_method_64_code 1 = .ok (.ifnonnull 11, 3) := by decide +kernel
theorem d55_12 : decode jdk_42_method_64_code 12 = .ok (.aload_n 1, 1) := by decide +kernel
theorem d55_13 : decode jdk_42_method_64_code 13 = .ok (.aload_n 0, 1) := by decide +kernel
theorem d55_14 : decode jdk_42_method_64_code 14 = .ok (.invokevirtual 335, 3) := by decide +kernel
theorem pd_24 : parseMethodDescriptor "()B" = some ⟨[], some .byte⟩ := by decide +kernel
theorem d55_17 : decode jdk_42_method_64_code 17 = .ok (.aload_n 0, 1) := by decide +kernel
theorem d55_18 : decode jdk_42_method_64_code 18 = .ok (.getfield 9, 3) := by decide +kernel
theorem d55_21 : decode jdk_42_method_64_code 21 = .ok (.invokestatic 535, 3) := by decide +kernel
theorem pd_25 : parseMethodDescriptor "(Ljava/nio/charset/Charset;B[B)[B" = some ⟨[(.object "java/nio/charset/Charset"), .byte, (.array .byte)], some (.array .byte)⟩ := by decide +kernel
theorem d55_24 : decode jdk_42_method_64_code 24 = .ok (.areturn, 1) := by decide +kernel
abbrev rm_con_getb : Room := { frames := 4, cells := 1, slots := 0, locals := 64 }
set_option maxRecDepth 65536 in
set_option maxHeartbeats 40000000 in
theorem con_getb (l : Launch) {Z : State} {a0 : Array Value} (hw : ∀ d ∈ tables_1, d.before a0 Z = true) {n0 : Nat} {h0 : Heap} {u8 : Addr} (SU : Sta Z Z.heap "sun/nio/cs/UTF_8" "INSTANCE" "Lsun/nio/cs/UTF_8;" (.ref u8)) {a b : Addr} (O : Exa Z h0 a "java/lang/String" ∧ Fld Z h0 a "java/lang/String" "value" "[B" (.ref b) ∧ Fld Z h0 a "java/lang/String" "coder" "B" (.int 0)) (A : IA Z h0 b .byte []) (X : Exa Z h0 b "[B") (HC : Cst Z) :
    Con l Z false false ELs n0 (⟨"java/lang/String", "getBytes", "(Ljava/nio/charset/Charset;)[B"⟩ : MethodName) jdk_42_method_64_code 2 (some (.array .byte)) rm_con_getb [] #[(.ref a), (.ref u8)] h0 [] (fun v h => ∃ d, v = some (.ref d) ∧ IA Z h d .byte [] ∧ Exa Z h d "[B") := by
  refine Con.intro (plainFor_of_name pn_java_lang_String) (hELs hw) ?_
  intro p e s m below meth c hh G
  refine castRun (g' := mkF m 0 #[.val (.ref a), .val (.ref u8)] []) (by first | rfl | (simp [entryFrame, mkF, argsToLocals, Value.category, maxLocals]; done)) ?_
  refine GoKit.aloadN G d55_0 rfl rfl (pc' := 1) rfl ?_
  refine GoKit.ifnonnull_t G d55_1 (by decide) (pc' := 12) rfl ?_
  refine GoKit.aloadN G d55_12 rfl rfl (pc' := 13) rfl ?_
  refine GoKit.aloadN G d55_13 rfl rfl (pc' := 14) rfl ?_
  refine GoKit.callVirtualP G d55_14 (wi hw 412 rfl) (wi hw 413 rfl) (wi hw 415 rfl) (wi hw 414 rfl) (wi hw 30 rfl) (wi hw 416 rfl) (by decide) O.1 (W := 1) (argsL := []) (rest := [(.ref u8)]) (con_coder l hw ⟨O.1, O.2.1, O.2.2⟩ A X HC) rfl (lenOf pd_24 rfl) rfl (by decide) (Nat.le_of_eq rfl) (by decide) (by decide) (by decide) (cells' := 0) (slots' := 0) rfl rfl (pc' := 17) rfl ?_
  show Run _ _ _ _ _ _ _ _ _ _ _ _ _ _ _ _ _ _ _ _ _ (mkF m 17 #[.val (.ref a), .val (.ref u8)] [(.int (0 : Int32)), (.ref u8)])
  refine GoKit.aloadN G d55_17 rfl rfl (pc' := 18) rfl ?_
  refine GoKit.getf G d55_18 (wi hw 53 rfl) Via.refl O.2.1 (pc' := 21) rfl ?_
  refine GoKit.callStatic G d55_21 (wi hw 417 rfl) (wi hw 418 rfl) (wi hw 30 rfl) (wi hw 419 rfl) (by decide) (owc := []) (W := 0) (argsL := [(.ref u8), (.int (0 : Int32)), (.ref b)]) (rest := []) (con_enc l hw SU A X) rfl (lenOf pd_25 rfl) rfl (by decide) (Nat.le_of_eq rfl) (by decide) (by decide) (by decide) (fun _ q => nomatch q) (cells' := 1) (slots' := 0) rfl rfl (pc' := 24) rfl (fun r1 h4 q2 K3 => ?_)
  obtain ⟨d5, rfl, A6, X7⟩ := q2
  show Run _ _ _ _ _ _ _ _ _ _ _ _ _ _ _ _ _ _ _ _ _ (mkF m 24 #[.val (.ref a), .val (.ref u8)] [(.ref d5)])
  refine GoKit.retRef G rfl d55_24 rfl rfl rfl (by decide) (by decide) ?_
  exact ⟨_, rfl, A6, X7⟩
theorem d38_0 : decode prog_7_method_2_code 0 = .ok (.new 7, 3) := by decide +kernel
theorem d38_3 : decode prog_7_method_2_code 3 = .ok (.dup, 1) := by decide +kernel
theorem d38_4 : decode prog_7_method_2_code 4 = .ok (.invokespecial 9, 3) := by decide +kernel
theorem d38_7 : decode prog_7_method_2_code 7 = .ok (.astore_n 1, 1) := by decide +kernel
theorem d38_8 : decode prog_7_method_2_code 8 = .ok (.aload_n 0, 1) := by decide +kernel
theorem d38_9 : decode prog_7_method_2_code 9 = .ok (.invokeinterface 10 1, 5) := by decide +kernel
theorem d38_14 : decode prog_7_method_2_code 14 = .ok (.astore_n 2, 1) := by decide +kernel
theorem d38_15 : decode prog_7_method_2_code 15 = .ok (.aload_n 2, 1) := by decide +kernel
theorem d38_16 : decode prog_7_method_2_code 16 = .ok (.invokeinterface 16 1, 5) := by decide +kernel
theorem d38_21 : decode prog_7_method_2_code 21 = .ok (.ifCond .eq 56, 3) := by decide +kernel
theorem d38_77 : decode prog_7_method_2_code 77 = .ok (.aload_n 1, 1) := by decide +kernel
theorem d38_78 : decode prog_7_method_2_code 78 = .ok (.invokevirtual 56, 3) := by decide +kernel
theorem pd_26 : parseMethodDescriptor "()Ljava/lang/String;" = some ⟨[], some (.object "java/lang/String")⟩ := by decide +kernel
theorem d38_81 : decode prog_7_method_2_code 81 = .ok (.getstatic 59, 3) := by decide +kernel
theorem d38_84 : decode prog_7_method_2_code 84 = .ok (.invokevirtual 65, 3) := by decide +kernel
theorem pd_27 : parseMethodDescriptor "(Ljava/nio/charset/Charset;)[B" = some ⟨[(.object "java/nio/charset/Charset")], some (.array .byte)⟩ := by decide +kernel
theorem d38_87 : decode prog_7_method_2_code 87 = .ok (.areturn, 1) := by decide +kernel
theorem pn_com_example_waymark_waymark_Fields : plainName "com/example/waymark/waymark/Fields" = true := by first | (simp [plainName, overriddenIn]; done) | decide +kernel
abbrev rm_con_fenc : Room := { frames := 6, cells := 6, slots := 28, locals := 91 }
set_option maxRecDepth 65536 in
set_option maxHeartbeats 40000000 in
theorem con_fenc (l : Launch) {Z : State} {a0 : Array Value} (hw : ∀ d ∈ tables_1, d.before a0 Z = true) {n0 : Nat} {h0 : Heap} {u8 : Addr} (SU : Sta Z Z.heap "sun/nio/cs/UTF_8" "INSTANCE" "Lsun/nio/cs/UTF_8;" (.ref u8)) (SV : Sta Z Z.heap "java/nio/charset/StandardCharsets" "UTF_8" "Ljava/nio/charset/Charset;" (.ref u8)) {x d0 : Addr} (X : Exa Z h0 x "java/util/ArrayList" ∧ Fld Z h0 x "java/util/AbstractList" "modCount" "I" (.int 0) ∧ Fld Z h0 x "java/util/ArrayList" "elementData" "[Ljava/lang/Object;" (.ref d0) ∧ Fld Z h0 x "java/util/ArrayList" "size" "I" (.int 0)) (HC : Cst Z) :
    Con l Z false false ELs n0 (⟨"com/example/waymark/waymark/Fields", "encode", "(Ljava/util/List;)[B"⟩ : MethodName) prog_7_method_2_code 4 (some (.array .byte)) rm_con_fenc [] #[(.ref x)] h0 [] (fun v h => ∃ d, v = some (.ref d) ∧ IA Z h d .byte [] ∧ Exa Z h d "[B") := by
  refine Con.intro (plainFor_of_name pn_com_example_waymark_waymark_Fields) (hELs hw) ?_
  intro p e s m below meth c hh G
  refine castRun (g' := mkF m 0 #[.val (.ref x), .unset, .unset, .unset] []) (by first | rfl | (simp [entryFrame, mkF, argsToLocals, Value.category, maxLocals]; done)) ?_
  refine GoKit.newobj G d38_0 (wi hw 303 rfl) (wi hw 304 rfl) (wi hw 305 rfl) (by decide) (by decide) (cells' := 1) (slots' := 4) rfl rfl (pc' := 3) rfl (fun h5 a1 ga1 E2 X3 D4 => ?_)
  have F6 : Fld Z h5 a1 "java/lang/AbstractStringBuilder" "value" "[B" .null := D4 (Or.inl (wi hw 318 rfl)) (ty := (.array .byte)) (by decide)
  have F7 : Fld Z h5 a1 "java/lang/AbstractStringBuilder" "coder" "B" (.int 0) := D4 (Or.inl (wi hw 320 rfl)) (ty := .byte) (by decide)
  have F8 : Fld Z h5 a1 "java/lang/AbstractStringBuilder" "count" "I" (.int 0) := D4 (Or.inl (wi hw 382 rfl)) (ty := .int) (by decide)
  refine GoKit.dup G d38_3 rfl (pc' := 4) rfl ?_
  refine GoKit.callSpecial G d38_4 rfl (wi hw 306 rfl) (wi hw 307 rfl) (wi hw 305 rfl) (wi hw 308 rfl) (by decide) (owc := [a1]) (W := 1) (argsL := []) (rest := [(.ref a1)]) (con_sb l hw ⟨X3, F6, F7, F8⟩ HC) rfl (lenOf pd_0 rfl) rfl (by decide) (Nat.le_of_eq rfl) (by decide) (by decide) (by decide) (List.forall_mem_cons.mpr ⟨(List.Mem.head _), (fun _ q => nomatch q)⟩) (cells' := 2) (slots' := 20) rfl rfl (pc' := 7) rfl (fun r9 h12 q10 K11 => ?_)
  obtain ⟨b13, rfl, O14, A15⟩ := q10
  show Run _ _ _ _ _ _ _ _ _ _ _ _ _ _ _ _ _ _ _ _ _ (mkF m 7 #[.val (.ref x), .unset, .unset, .unset] [(.ref a1)])
  refine GoKit.astoreN G d38_7 rfl (Ls' := #[.val (.ref x), .val (.ref a1), .unset, .unset]) rfl (pc' := 8) rfl ?_
  refine GoKit.aloadN G d38_8 rfl rfl (pc' := 9) rfl ?_
  refine GoKit.callFace G d38_9 (wi hw 321 rfl) (wi hw 322 rfl) (wi hw 324 rfl) (fun _ _ hZ => mv hZ (wi hw 323 rfl)) (wi hw 326 rfl) (wi hw 327 rfl) (wi hw 328 rfl) (wi hw 325 rfl) (wi hw 4 rfl) (wi hw 329 rfl) (by decide) ((X.1.ext E2).keep K11) (owc := []) (W := 0) (argsL := []) (rest := []) (con_aliter l hw ⟨((X.1.ext E2).keep K11), ((X.2.1.ext E2).keep K11 (ninS (Nat.ne_of_lt (Nat.lt_of_lt_of_le (X.2.2.2).lt (Nat.le_of_eq ga1.symm))) nin0)), ((X.2.2.1.ext E2).keep K11 (ninS (Nat.ne_of_lt (Nat.lt_of_lt_of_le (X.2.2.2).lt (Nat.le_of_eq ga1.symm))) nin0)), ((X.2.2.2.ext E2).keep K11 (ninS (Nat.ne_of_lt (Nat.lt_of_lt_of_le (X.2.2.2).lt (Nat.le_of_eq ga1.symm))) nin0))⟩) rfl (lenOf pd_7 rfl) rfl (by decide) (Nat.le_of_eq rfl) (by decide) (by decide) (by decide) (fun _ q => nomatch q) (cells' := 3) (slots' := 24) rfl rfl (pc' := 14) rfl (fun r16 h19 q17 K18 => ?_)
  obtain ⟨d20, rfl, O21⟩ := q17
  show Run _ _ _ _ _ _ _ _ _ _ _ _ _ _ _ _ _ _ _ _ _ (mkF m 14 #[.val (.ref x), .val (.ref a1), .unset, .unset] [(.ref d20)])
  refine GoKit.astoreN G d38_14 rfl (Ls' := #[.val (.ref x), .val (.ref a1), .val (.ref d20), .unset]) rfl (pc' := 15) rfl ?_
  refine GoKit.aloadN G d38_15 rfl rfl (pc' := 16) rfl ?_
  refine GoKit.callFaceP G d38_16 (wi hw 345 rfl) (wi hw 228 rfl) (wi hw 346 rfl) (fun _ _ hZ => mv hZ (wi hw 229 rfl)) (wi hw 348 rfl) (wi hw 349 rfl) (wi hw 350 rfl) (wi hw 347 rfl) (wi hw 332 rfl) (wi hw 351 rfl) (by decide) O21.1 (W := 0) (argsL := []) (rest := []) (con_alhn l hw ⟨O21.1, O21.2.1, O21.2.2.1, O21.2.2.2.1, O21.2.2.2.2⟩ ⟨(((X.1.ext E2).keep K11).keep K18), (((X.2.1.ext E2).keep K11 (ninS (Nat.ne_of_lt (Nat.lt_of_lt_of_le (X.2.2.2).lt (Nat.le_of_eq ga1.symm))) nin0)).keep K18 nin0), (((X.2.2.1.ext E2).keep K11 (ninS (Nat.ne_of_lt (Nat.lt_of_lt_of_le (X.2.2.2).lt (Nat.le_of_eq ga1.symm))) nin0)).keep K18 nin0), (((X.2.2.2.ext E2).keep K11 (ninS (Nat.ne_of_lt (Nat.lt_of_lt_of_le (X.2.2.2).lt (Nat.le_of_eq ga1.symm))) nin0)).keep K18 nin0)⟩) rfl (lenOf pd_8 rfl) rfl (by decide) (Nat.le_of_eq rfl) (by decide) (by decide) (by decide) (cells' := 3) (slots' := 24) rfl rfl (pc' := 21) rfl ?_
  show Run _ _ _ _ _ _ _ _ _ _ _ _ _ _ _ _ _ _ _ _ _ (mkF m 21 #[.val (.ref x), .val (.ref a1), .val (.ref d20), .unset] [(.int (0 : Int32))])
  refine GoKit.if_eq_t G d38_21 (by decide) (by decide) (pc' := 77) rfl ?_
  refine GoKit.aloadN G d38_77 rfl rfl (pc' := 78) rfl ?_
  refine GoKit.callVirtual G d38_78 (wi hw 355 rfl) (wi hw 356 rfl) (wi hw 358 rfl) (nface (wi hw 358 rfl)) (wi hw 357 rfl) (wi hw 305 rfl) (wi hw 359 rfl) (by decide) (O14.1.keep K18) (owc := []) (W := 0) (argsL := []) (rest := []) (con_tostr l hw ⟨(O14.1.keep K18), (O14.2.1.keep K18 nin0), (O14.2.2.1.keep K18 nin0), (O14.2.2.2.keep K18 nin0)⟩ (A15.keep K18 nin0) HC) rfl (lenOf pd_26 rfl) rfl (by decide) (Nat.le_of_eq rfl) (by decide) (by decide) (by decide) (fun _ q => nomatch q) (cells' := 5) (slots' := 28) rfl rfl (pc' := 81) rfl (fun r22 h25 q23 K24 => ?_)
  obtain ⟨a26, d27, rfl, O28, A29, X30⟩ := q23
  show Run _ _ _ _ _ _ _ _ _ _ _ _ _ _ _ _ _ _ _ _ _ (mkF m 81 #[.val (.ref x), .val (.ref a1), .val (.ref d20), .unset] [(.ref a26)])
  refine GoKit.gets G d38_81 (wi hw 405 rfl) Via.refl SV (pc' := 84) rfl ?_
  refine GoKit.callVirtual G d38_84 (wi hw 407 rfl) (wi hw 408 rfl) (wi hw 410 rfl) (nface (wi hw 410 rfl)) (wi hw 409 rfl) (wi hw 30 rfl) (wi hw 411 rfl) (by decide) O28.1 (owc := []) (W := 0) (argsL := [(.ref u8)]) (rest := []) (con_getb l hw SU ⟨O28.1, O28.2.1, O28.2.2⟩ A29 X30 HC) rfl (lenOf pd_27 rfl) rfl (by decide) (Nat.le_of_eq rfl) (by decide) (by decide) (by decide) (fun _ q => nomatch q) (cells' := 6) (slots' := 28) rfl rfl (pc' := 87) rfl (fun r31 h34 q32 K33 => ?_)
  obtain ⟨d35, rfl, A36, X37⟩ := q32
  show Run _ _ _ _ _ _ _ _ _ _ _ _ _ _ _ _ _ _ _ _ _ (mkF m 87 #[.val (.ref x), .val (.ref a1), .val (.ref d20), .unset] [(.ref d35)])
  refine GoKit.retRef G rfl d38_87 rfl rfl rfl (by decide) (by decide) ?_
  exact ⟨_, rfl, A36, X37⟩
theorem d18_0 : decode prog_24_method_1_code 0 = .ok (.aload_n 0, 1) := by decide +kernel
theorem d18_1 : decode prog_24_method_1_code 1 = .ok (.invokespecial 1, 3) := by decide +kernel
theorem d18_4 : decode prog_24_method_1_code 4 = .ok (.aload_n 0, 1) := by decide +kernel
theorem d18_5 : decode prog_24_method_1_code 5 = .ok (.aload_n 1, 1) := by decide +kernel
theorem d18_6 : decode prog_24_method_1_code 6 = .ok (.putfield 7, 3) := by decide +kernel
theorem d18_9 : decode prog_24_method_1_code 9 = .ok (.return_, 1) := by decide +kernel
theorem pn_com_example_waymark_waymark_StatCache : plainName "com/example/waymark/waymark/StatCache" = true := by first | (simp [plainName, overriddenIn]; done) | decide +kernel
abbrev rm_con_scinit : Room := { frames := 1, cells := 0, slots := 0, locals := 12 }
set_option maxRecDepth 65536 in
set_option maxHeartbeats 40000000 in
theorem con_scinit (l : Launch) {Z : State} {a0 : Array Value} (hw : ∀ d ∈ tables_1, d.before a0 Z = true) {n0 : Nat} {h0 : Heap} {a : Addr} {q0 : Addr} (O : Exa Z h0 a "com/example/waymark/waymark/StatCache" ∧ Fld Z h0 a "com/example/waymark/waymark/StatCache" "entries" "Ljava/util/Map;" .null ∧ Fld Z h0 a "com/example/waymark/waymark/StatCache" "changed" "Z" (.int 0)) :
    Con l Z false false ELs n0 (⟨"com/example/waymark/waymark/StatCache", "<init>", "(Ljava/util/Map;)V"⟩ : MethodName) prog_24_method_1_code 2 none rm_con_scinit [] #[(.ref a), (.ref q0)] h0 [a] (fun v h => v = none ∧ Exa Z h a "com/example/waymark/waymark/StatCache" ∧ Fld Z h a "com/example/waymark/waymark/StatCache" "entries" "Ljava/util/Map;" (.ref q0) ∧ Fld Z h a "com/example/waymark/waymark/StatCache" "changed" "Z" (.int 0)) := by
  refine Con.intro (plainFor_of_name pn_com_example_waymark_waymark_StatCache) (hELs hw) ?_
  intro p e s m below meth c hh G
  refine castRun (g' := mkF m 0 #[.val (.ref a), .val (.ref q0)] []) (by first | rfl | (simp [entryFrame, mkF, argsToLocals, Value.category, maxLocals]; done)) ?_
  refine GoKit.aloadN G d18_0 rfl rfl (pc' := 1) rfl ?_
  refine GoKit.initObj G d18_1 (wi hw 111 rfl) (wi hw 21 rfl) (wi hw 22 rfl) rfl (by decide) (W := 0) (Nat.le_of_eq rfl) (by decide) (pc' := 4) rfl ?_
  refine GoKit.aloadN G d18_4 rfl rfl (pc' := 5) rfl ?_
  refine GoKit.aloadN G d18_5 rfl rfl (pc' := 6) rfl ?_
  refine GoKit.putf G d18_6 (wi hw 112 rfl) Via.refl O.2.1 O.1 (Or.inr ⟨(wi hw 113 rfl), rfl, rfl⟩) (wi hw 91 rfl) (ty := (.object "java/util/Map")) (by decide) rfl rfl (List.Mem.head _) (pc' := 9) rfl (fun h2 W1 => ?_)
  have F3 := (O.2.1).same W1
  refine GoKit.retVoid G d18_9 rfl (by decide) (by decide) ?_
  exact ⟨rfl, ⟨(O.1.wr W1), F3, (O.2.2.other W1 (Or.inr (slot_ne (Or.inl (wi hw 120 rfl)) (Or.inr (wi hw 113 rfl)) (by decide) (by decide : _ = some .boolean) (by decide : _ = some (.object "java/util/Map")))))⟩⟩
theorem d15_0 : decode prog_24_method_2_code 0 = .ok (.new 8, 3) := by decide +kernel
theorem d15_3 : decode prog_24_method_2_code 3 = .ok (.dup, 1) := by decide +kernel
theorem d15_4 : decode prog_24_method_2_code 4 = .ok (.new 13, 3) := by decide +kernel
theorem d15_7 : decode prog_24_method_2_code 7 = .ok (.dup, 1) := by decide +kernel
theorem d15_8 : decode prog_24_method_2_code 8 = .ok (.invokespecial 15, 3) := by decide +kernel
theorem d15_11 : decode prog_24_method_2_code 11 = .ok (.invokespecial 16, 3) := by decide +kernel
theorem d15_14 : decode prog_24_method_2_code 14 = .ok (.areturn, 1) := by decide +kernel
abbrev rm_con_empty : Room := { frames := 3, cells := 2, slots := 10, locals := 39 }
set_option maxRecDepth 65536 in
set_option maxHeartbeats 40000000 in
theorem con_empty (l : Launch) {Z : State} {a0 : Array Value} (hw : ∀ d ∈ tables_1, d.before a0 Z = true) {n0 : Nat} {h0 : Heap}  :
    Con l Z false false ELs n0 (⟨"com/example/waymark/waymark/StatCache", "empty", "()Lcom/example/waymark/waymark/StatCache;"⟩ : MethodName) prog_24_method_2_code 0 (some (.object "com/example/waymark/waymark/StatCache")) rm_con_empty [] #[] h0 [] (fun v h => ∃ a q0, v = some (.ref a) ∧ h0.size ≤ a ∧ h0.size ≤ q0 ∧ (Exa Z h a "com/example/waymark/waymark/StatCache" ∧ Fld Z h a "com/example/waymark/waymark/StatCache" "entries" "Ljava/util/Map;" (.ref q0) ∧ Fld Z h a "com/example/waymark/waymark/StatCache" "changed" "Z" (.int 0)) ∧ Exa Z h q0 "java/util/HashMap" ∧ Fld Z h q0 "java/util/HashMap" "size" "I" (.int 0) ∧ Fld Z h q0 "java/util/HashMap" "modCount" "I" (.int 0) ∧ Fld Z h q0 "java/util/HashMap" "table" "[Ljava/util/HashMap$Node;" .null ∧ Fld Z h q0 "java/util/HashMap" "entrySet" "Ljava/util/Set;" .null ∧ Fld Z h q0 "java/util/AbstractMap" "keySet" "Ljava/util/Set;" .null) := by
  refine Con.intro (plainFor_of_name pn_com_example_waymark_waymark_StatCache) (hELs hw) ?_
  intro p e s m below meth c hh G
  refine castRun (g' := mkF m 0 #[] []) (by first | rfl | (simp [entryFrame, mkF, argsToLocals, Value.category, maxLocals]; done)) ?_
  refine GoKit.newobj G d15_0 (wi hw 90 rfl) (wi hw 91 rfl) (wi hw 88 rfl) (by decide) (by decide) (cells' := 1) (slots' := 2) rfl rfl (pc' := 3) rfl (fun h5 a1 ga1 E2 X3 D4 => ?_)
  have F6 : Fld Z h5 a1 "com/example/waymark/waymark/StatCache" "entries" "Ljava/util/Map;" .null := D4 (Or.inr (wi hw 113 rfl)) (ty := (.object "java/util/Map")) (by decide)
  have F7 : Fld Z h5 a1 "com/example/waymark/waymark/StatCache" "changed" "Z" (.int 0) := D4 (Or.inl (wi hw 120 rfl)) (ty := .boolean) (by decide)
  refine GoKit.dup G d15_3 rfl (pc' := 4) rfl ?_
  refine GoKit.newobj G d15_4 (wi hw 92 rfl) (wi hw 93 rfl) (wi hw 94 rfl) (by decide) (by decide) (cells' := 2) (slots' := 10) rfl rfl (pc' := 7) rfl (fun h12 a8 ga8 E9 X10 D11 => ?_)
  have F13 : Fld Z h12 a8 "java/util/HashMap" "loadFactor" "F" (.float 0) := D11 (Or.inr (wi hw 107 rfl)) (ty := .float) (by decide)
  have F14 : Fld Z h12 a8 "java/util/HashMap" "size" "I" (.int 0) := D11 (Or.inl (wi hw 157 rfl)) (ty := .int) (by decide)
  have F15 : Fld Z h12 a8 "java/util/HashMap" "entrySet" "Ljava/util/Set;" .null := D11 (Or.inl (wi hw 172 rfl)) (ty := (.object "java/util/Set")) (by decide)
  have F16 : Fld Z h12 a8 "java/util/HashMap" "modCount" "I" (.int 0) := D11 (Or.inl (wi hw 216 rfl)) (ty := .int) (by decide)
  have F17 : Fld Z h12 a8 "java/util/HashMap" "table" "[Ljava/util/HashMap$Node;" .null := D11 (Or.inl (wi hw 220 rfl)) (ty := (.array (.object "java/util/HashMap$Node"))) (by decide)
  have F18 : Fld Z h12 a8 "java/util/AbstractMap" "keySet" "Ljava/util/Set;" .null := D11 (Or.inl (wi hw 456 rfl)) (ty := (.object "java/util/Set")) (by decide)
  refine GoKit.dup G d15_7 rfl (pc' := 8) rfl ?_
  refine GoKit.callSpecial G d15_8 rfl (wi hw 95 rfl) (wi hw 96 rfl) (wi hw 94 rfl) (wi hw 97 rfl) (by decide) (owc := [a8]) (W := 3) (argsL := []) (rest := [(.ref a8), (.ref a1), (.ref a1)]) (con_hminit l hw ⟨X10, F14, F16, F17, F15, F18, F13⟩) rfl (lenOf pd_0 rfl) rfl (by decide) (Nat.le_of_eq rfl) (by decide) (by decide) (by decide) (List.forall_mem_cons.mpr ⟨(List.Mem.head _), (fun _ q => nomatch q)⟩) (cells' := 2) (slots' := 10) rfl rfl (pc' := 11) rfl (fun r19 h22 q20 K21 => ?_)
  obtain ⟨rfl, O23⟩ := q20
  show Run _ _ _ _ _ _ _ _ _ _ _ _ _ _ _ _ _ _ _ _ _ (mkF m 11 #[] [(.ref a8), (.ref a1), (.ref a1)])
  refine GoKit.callSpecial G d15_11 rfl (wi hw 108 rfl) (wi hw 109 rfl) (wi hw 88 rfl) (wi hw 110 rfl) (by decide) (owc := [a1]) (W := 1) (argsL := [(.ref a8)]) (rest := [(.ref a1)]) (con_scinit l hw ⟨((X3.ext E9).keep K21), ((F6.ext E9).keep K21 (ninS (Nat.ne_of_lt (Nat.lt_of_lt_of_le (F7).lt (Nat.le_of_eq ga8.symm))) nin0)), ((F7.ext E9).keep K21 (ninS (Nat.ne_of_lt (Nat.lt_of_lt_of_le (F7).lt (Nat.le_of_eq ga8.symm))) nin0))⟩) rfl (lenOf pd_10 rfl) rfl (by decide) (Nat.le_of_eq rfl) (by decide) (by decide) (by decide) (List.forall_mem_cons.mpr ⟨(List.Mem.tail _ (List.Mem.head _)), (fun _ q => nomatch q)⟩) (cells' := 2) (slots' := 10) rfl rfl (pc' := 14) rfl (fun r24 h27 q25 K26 => ?_)
  obtain ⟨rfl, O28⟩ := q25
  show Run _ _ _ _ _ _ _ _ _ _ _ _ _ _ _ _ _ _ _ _ _ (mkF m 14 #[] [(.ref a1)])
  refine GoKit.retRef G rfl d15_14 rfl rfl rfl (by decide) (by decide) ?_
  exact ⟨_, _, rfl, (Nat.le_trans (Nat.le_refl _) (Nat.le_of_eq ga1.symm)), (Nat.le_trans E2.1 (Nat.le_of_eq ga8.symm)), ⟨O28.1, O28.2.1, O28.2.2⟩, ⟨(O23.1.keep K26), (O23.2.1.keep K26 (ninS (Ne.symm (Nat.ne_of_lt (Nat.lt_of_lt_of_le (F7).lt (Nat.le_of_eq ga8.symm)))) nin0)), (O23.2.2.1.keep K26 (ninS (Ne.symm (Nat.ne_of_lt (Nat.lt_of_lt_of_le (F7).lt (Nat.le_of_eq ga8.symm)))) nin0)), (O23.2.2.2.1.keep K26 (ninS (Ne.symm (Nat.ne_of_lt (Nat.lt_of_lt_of_le (F7).lt (Nat.le_of_eq ga8.symm)))) nin0)), (O23.2.2.2.2.1.keep K26 (ninS (Ne.symm (Nat.ne_of_lt (Nat.lt_of_lt_of_le (F7).lt (Nat.le_of_eq ga8.symm)))) nin0)), (O23.2.2.2.2.2.keep K26 (ninS (Ne.symm (Nat.ne_of_lt (Nat.lt_of_lt_of_le (F7).lt (Nat.le_of_eq ga8.symm)))) nin0))⟩⟩
theorem d19_0 : decode prog_24_method_6_code 0 = .ok (.aload_n 0, 1) := by decide +kernel
theorem d19_1 : decode prog_24_method_6_code 1 = .ok (.getfield 51, 3) := by decide +kernel
theorem d19_4 : decode prog_24_method_6_code 4 = .ok (.ireturn, 1) := by decide +kernel
abbrev rm_con_chg : Room := { frames := 0, cells := 0, slots := 0, locals := 0 }
set_option maxRecDepth 65536 in
set_option maxHeartbeats 40000000 in
theorem con_chg (l : Launch) {Z : State} {a0 : Array Value} (hw : ∀ d ∈ tables_1, d.before a0 Z = true) {n0 : Nat} {h0 : Heap} {a q0 : Addr} (O : Exa Z h0 a "com/example/waymark/waymark/StatCache" ∧ Fld Z h0 a "com/example/waymark/waymark/StatCache" "entries" "Ljava/util/Map;" (.ref q0) ∧ Fld Z h0 a "com/example/waymark/waymark/StatCache" "changed" "Z" (.int 0)) :
    Con l Z false false ELs n0 (⟨"com/example/waymark/waymark/StatCache", "isChanged", "()Z"⟩ : MethodName) prog_24_method_6_code 1 (some .boolean) rm_con_chg [] #[(.ref a)] h0 [] (fun v h => v = some (.int 0) ∧ h = h0) := by
  refine Con.intro (plainFor_of_name pn_com_example_waymark_waymark_StatCache) (hELs hw) ?_
  intro p e s m below meth c hh G
  refine castRun (g' := mkF m 0 #[.val (.ref a)] []) (by first | rfl | (simp [entryFrame, mkF, argsToLocals, Value.category, maxLocals]; done)) ?_
  refine GoKit.aloadN G d19_0 rfl rfl (pc' := 1) rfl ?_
  refine GoKit.getf G d19_1 (wi hw 119 rfl) Via.refl O.2.2 (pc' := 4) rfl ?_
  refine GoKit.retNar G d19_4 (t := .boolean) rfl (by simp) (by decide) (by decide) ?_
  exact ⟨rfl, rfl⟩
theorem d20_0 : decode prog_24_method_7_code 0 = .ok (.new 73, 3) := by decide +kernel
theorem d20_3 : decode prog_24_method_7_code 3 = .ok (.dup, 1) := by decide +kernel
theorem d20_4 : decode prog_24_method_7_code 4 = .ok (.invokespecial 75, 3) := by decide +kernel
theorem d20_7 : decode prog_24_method_7_code 7 = .ok (.astore_n 1, 1) := by decide +kernel
theorem d20_8 : decode prog_24_method_7_code 8 = .ok (.new 76, 3) := by decide +kernel
theorem d20_11 : decode prog_24_method_7_code 11 = .ok (.dup, 1) := by decide +kernel
theorem d20_12 : decode prog_24_method_7_code 12 = .ok (.aload_n 0, 1) := by decide +kernel
theorem d20_13 : decode prog_24_method_7_code 13 = .ok (.getfield 7, 3) := by decide +kernel
theorem d20_16 : decode prog_24_method_7_code 16 = .ok (.invokespecial 78, 3) := by decide +kernel
theorem d20_19 : decode prog_24_method_7_code 19 = .ok (.invokevirtual 79, 3) := by decide +kernel
theorem d20_22 : decode prog_24_method_7_code 22 = .ok (.invokeinterface 82 1, 5) := by decide +kernel
theorem d20_27 : decode prog_24_method_7_code 27 = .ok (.astore_n 2, 1) := by decide +kernel
theorem d20_28 : decode prog_24_method_7_code 28 = .ok (.aload_n 2, 1) := by decide +kernel
theorem d20_29 : decode prog_24_method_7_code 29 = .ok (.invokeinterface 86 1, 5) := by decide +kernel
theorem d20_34 : decode prog_24_method_7_code 34 = .ok (.ifCond .eq 77, 3) := by decide +kernel
theorem d20_111 : decode prog_24_method_7_code 111 = .ok (.aload_n 1, 1) := by decide +kernel
theorem d20_112 : decode prog_24_method_7_code 112 = .ok (.invokestatic 133, 3) := by decide +kernel
theorem pd_28 : parseMethodDescriptor "(Ljava/util/List;)[B" = some ⟨[(.object "java/util/List")], some (.array .byte)⟩ := by decide +kernel
theorem d20_115 : decode prog_24_method_7_code 115 = .ok (.areturn, 1) := by decide +kernel
abbrev rm_con_sencN : Room := { frames := 8, cells := 12, slots := 51, locals := 108 }
set_option maxRecDepth 65536 in
set_option maxHeartbeats 40000000 in
theorem con_sencN (l : Launch) {Z : State} {a0 : Array Value} (hw : ∀ d ∈ tables_1, d.before a0 Z = true) {n0 : Nat} {h0 : Heap} {q0 : Addr} {kv : Value} (M : Exa Z h0 q0 "java/util/HashMap" ∧ Fld Z h0 q0 "java/util/HashMap" "size" "I" (.int 0) ∧ Fld Z h0 q0 "java/util/HashMap" "modCount" "I" (.int 0) ∧ Fld Z h0 q0 "java/util/HashMap" "table" "[Ljava/util/HashMap$Node;" .null ∧ Fld Z h0 q0 "java/util/HashMap" "entrySet" "Ljava/util/Set;" .null ∧ Fld Z h0 q0 "java/util/AbstractMap" "keySet" "Ljava/util/Set;" kv) {a d0 : Addr} (SD : Sta Z Z.heap "java/util/ArrayList" "DEFAULTCAPACITY_EMPTY_ELEMENTDATA" "[Ljava/lang/Object;" (.ref d0)) {u8 : Addr} (SU : Sta Z Z.heap "sun/nio/cs/UTF_8" "INSTANCE" "Lsun/nio/cs/UTF_8;" (.ref u8)) (SV : Sta Z Z.heap "java/nio/charset/StandardCharsets" "UTF_8" "Ljava/nio/charset/Charset;" (.ref u8)) (O : Exa Z h0 a "com/example/waymark/waymark/StatCache" ∧ Fld Z h0 a "com/example/waymark/waymark/StatCache" "entries" "Ljava/util/Map;" (.ref q0) ∧ Fld Z h0 a "com/example/waymark/waymark/StatCache" "changed" "Z" (.int 0)) (HC : Cst Z) :
    Con l Z false false ELs n0 (⟨"com/example/waymark/waymark/StatCache", "encode", "()[B"⟩ : MethodName) prog_24_method_7_code 5 (some (.array .byte)) rm_con_sencN [] #[(.ref a)] h0 [q0] (fun v h => ∃ x d, v = some (.ref x) ∧ IA Z h x .byte [] ∧ (Exa Z h q0 "java/util/HashMap" ∧ Fld Z h q0 "java/util/HashMap" "size" "I" (.int 0) ∧ Fld Z h q0 "java/util/HashMap" "modCount" "I" (.int 0) ∧ Fld Z h q0 "java/util/HashMap" "table" "[Ljava/util/HashMap$Node;" .null ∧ Fld Z h q0 "java/util/HashMap" "entrySet" "Ljava/util/Set;" (.ref d) ∧ Fld Z h q0 "java/util/AbstractMap" "keySet" "Ljava/util/Set;" kv) ∧ Exa Z h d "java/util/HashMap$EntrySet" ∧ Fld Z h d "java/util/HashMap$EntrySet" "this$0" "Ljava/util/HashMap;" (.ref q0)) := by
  refine Con.intro (plainFor_of_name pn_com_example_waymark_waymark_StatCache) (hELs hw) ?_
  intro p e s m below meth c hh G
  refine castRun (g' := mkF m 0 #[.val (.ref a), .unset, .unset, .unset, .unset] []) (by first | rfl | (simp [entryFrame, mkF, argsToLocals, Value.category, maxLocals]; done)) ?_
  refine GoKit.newobj G d20_0 (wi hw 126 rfl) (wi hw 3 rfl) (wi hw 4 rfl) (by decide) (by decide) (cells' := 1) (slots' := 3) rfl rfl (pc' := 3) rfl (fun h5 a1 ga1 E2 X3 D4 => ?_)
  have F6 : Fld Z h5 a1 "java/util/AbstractList" "modCount" "I" (.int 0) := D4 (Or.inl (wi hw 24 rfl)) (ty := .int) (by decide)
  have F7 : Fld Z h5 a1 "java/util/ArrayList" "elementData" "[Ljava/lang/Object;" .null := D4 (Or.inl (wi hw 27 rfl)) (ty := (.array (.object "java/lang/Object"))) (by decide)
  have F8 : Fld Z h5 a1 "java/util/ArrayList" "size" "I" (.int 0) := D4 (Or.inl (wi hw 63 rfl)) (ty := .int) (by decide)
  refine GoKit.dup G d20_3 rfl (pc' := 4) rfl ?_
  refine GoKit.callSpecial G d20_4 rfl (wi hw 127 rfl) (wi hw 6 rfl) (wi hw 4 rfl) (wi hw 7 rfl) (by decide) (owc := [a1]) (W := 1) (argsL := []) (rest := [(.ref a1)]) (con_alinit l hw SD ⟨X3, F6, F7, F8⟩) rfl (lenOf pd_0 rfl) rfl (by decide) (Nat.le_of_eq rfl) (by decide) (by decide) (by decide) (List.forall_mem_cons.mpr ⟨(List.Mem.head _), (fun _ q => nomatch q)⟩) (cells' := 1) (slots' := 3) rfl rfl (pc' := 7) rfl (fun r9 h12 q10 K11 => ?_)
  obtain ⟨rfl, O13⟩ := q10
  show Run _ _ _ _ _ _ _ _ _ _ _ _ _ _ _ _ _ _ _ _ _ (mkF m 7 #[.val (.ref a), .unset, .unset, .unset, .unset] [(.ref a1)])
  refine GoKit.astoreN G d20_7 rfl (Ls' := #[.val (.ref a), .val (.ref a1), .unset, .unset, .unset]) rfl (pc' := 8) rfl ?_
  refine GoKit.newobj G d20_8 (wi hw 128 rfl) (wi hw 129 rfl) (wi hw 130 rfl) (by decide) (by decide) (cells' := 2) (slots' := 12) rfl rfl (pc' := 11) rfl (fun h18 a14 ga14 E15 X16 D17 => ?_)
  have F19 : Fld Z h18 a14 "java/util/TreeMap" "size" "I" (.int 0) := D17 (Or.inl (wi hw 137 rfl)) (ty := .int) (by decide)
  have F20 : Fld Z h18 a14 "java/util/TreeMap" "modCount" "I" (.int 0) := D17 (Or.inl (wi hw 139 rfl)) (ty := .int) (by decide)
  have F21 : Fld Z h18 a14 "java/util/TreeMap" "comparator" "Ljava/util/Comparator;" .null := D17 (Or.inr (wi hw 141 rfl)) (ty := (.object "java/util/Comparator")) (by decide)
  have F22 : Fld Z h18 a14 "java/util/TreeMap" "entrySet" "Ljava/util/TreeMap$EntrySet;" .null := D17 (Or.inl (wi hw 242 rfl)) (ty := (.object "java/util/TreeMap$EntrySet")) (by decide)
  have F23 : Fld Z h18 a14 "java/util/TreeMap" "root" "Ljava/util/TreeMap$Entry;" .null := D17 (Or.inl (wi hw 271 rfl)) (ty := (.object "java/util/TreeMap$Entry")) (by decide)
  refine GoKit.dup G d20_11 rfl (pc' := 12) rfl ?_
  refine GoKit.aloadN G d20_12 rfl rfl (pc' := 13) rfl ?_
  refine GoKit.getf G d20_13 (wi hw 112 rfl) Via.refl (((O.2.1.ext E2).keep K11 (ninS (Nat.ne_of_lt (Nat.lt_of_lt_of_le (O.2.2).lt (Nat.le_of_eq ga1.symm))) nin0)).ext E15) (pc' := 16) rfl ?_
  refine GoKit.callSpecial G d20_16 rfl (wi hw 131 rfl) (wi hw 132 rfl) (wi hw 130 rfl) (wi hw 133 rfl) (by decide) (owc := [a14, q0]) (W := 1) (argsL := [(.ref q0)]) (rest := [(.ref a14)]) (con_tmN l hw ⟨(((M.1.ext E2).keep K11).ext E15), (((M.2.1.ext E2).keep K11 (ninS (Nat.ne_of_lt (Nat.lt_of_lt_of_le (M.2.2.2.2.2).lt (Nat.le_of_eq ga1.symm))) nin0)).ext E15), (((M.2.2.1.ext E2).keep K11 (ninS (Nat.ne_of_lt (Nat.lt_of_lt_of_le (M.2.2.2.2.2).lt (Nat.le_of_eq ga1.symm))) nin0)).ext E15), (((M.2.2.2.1.ext E2).keep K11 (ninS (Nat.ne_of_lt (Nat.lt_of_lt_of_le (M.2.2.2.2.2).lt (Nat.le_of_eq ga1.symm))) nin0)).ext E15), (((M.2.2.2.2.1.ext E2).keep K11 (ninS (Nat.ne_of_lt (Nat.lt_of_lt_of_le (M.2.2.2.2.2).lt (Nat.le_of_eq ga1.symm))) nin0)).ext E15), (((M.2.2.2.2.2.ext E2).keep K11 (ninS (Nat.ne_of_lt (Nat.lt_of_lt_of_le (M.2.2.2.2.2).lt (Nat.le_of_eq ga1.symm))) nin0)).ext E15)⟩ ⟨X16, F19, F20, F21, F22, F23⟩) rfl (lenOf pd_10 rfl) rfl (by decide) (Nat.le_of_eq rfl) (by decide) (by decide) (by decide) (List.forall_mem_cons.mpr ⟨(List.Mem.head _), (List.forall_mem_cons.mpr ⟨(List.Mem.tail _ (List.Mem.tail _ (List.Mem.head _))), (fun _ q => nomatch q)⟩)⟩) (cells' := 4) (slots' := 18) rfl rfl (pc' := 19) rfl (fun r24 h27 q25 K26 => ?_)
  obtain ⟨d28, rfl, T29, O30⟩ := q25
  show Run _ _ _ _ _ _ _ _ _ _ _ _ _ _ _ _ _ _ _ _ _ (mkF m 19 #[.val (.ref a), .val (.ref a1), .unset, .unset, .unset] [(.ref a14)])
  refine GoKit.callVirtual G d20_19 (wi hw 236 rfl) (wi hw 237 rfl) (wi hw 239 rfl) (nface (wi hw 239 rfl)) (wi hw 238 rfl) (wi hw 130 rfl) (wi hw 240 rfl) (by decide) T29.1 (owc := [a14]) (W := 0) (argsL := []) (rest := []) (con_tms l hw ⟨T29.1, T29.2.1, T29.2.2.1, T29.2.2.2.1, T29.2.2.2.2.1, T29.2.2.2.2.2⟩) rfl (lenOf pd_6 rfl) rfl (by decide) (Nat.le_of_eq rfl) (by decide) (by decide) (by decide) (List.forall_mem_cons.mpr ⟨(List.Mem.head _), (fun _ q => nomatch q)⟩) (cells' := 5) (slots' := 19) rfl rfl (pc' := 22) rfl (fun r31 h34 q32 K33 => ?_)
  obtain ⟨d35, rfl, T36, O37⟩ := q32
  show Run _ _ _ _ _ _ _ _ _ _ _ _ _ _ _ _ _ _ _ _ _ (mkF m 22 #[.val (.ref a), .val (.ref a1), .unset, .unset, .unset] [(.ref d35)])
  refine GoKit.callFace G d20_22 (wi hw 255 rfl) (wi hw 191 rfl) (wi hw 256 rfl) (fun _ _ hZ => mv hZ (wi hw 192 rfl)) (wi hw 258 rfl) (wi hw 259 rfl) (wi hw 260 rfl) (wi hw 257 rfl) (wi hw 245 rfl) (wi hw 261 rfl) (by decide) O37.1 (owc := []) (W := 0) (argsL := []) (rest := []) (con_titer l hw ⟨O37.1, O37.2⟩ ⟨T36.1, T36.2.2.1, T36.2.2.2.2.2⟩) rfl (lenOf pd_7 rfl) rfl (by decide) (Nat.le_of_eq rfl) (by decide) (by decide) (by decide) (fun _ q => nomatch q) (cells' := 6) (slots' := 23) rfl rfl (pc' := 27) rfl (fun r38 h41 q39 K40 => ?_)
  obtain ⟨d42, rfl, O43⟩ := q39
  show Run _ _ _ _ _ _ _ _ _ _ _ _ _ _ _ _ _ _ _ _ _ (mkF m 27 #[.val (.ref a), .val (.ref a1), .unset, .unset, .unset] [(.ref d42)])
  refine GoKit.astoreN G d20_27 rfl (Ls' := #[.val (.ref a), .val (.ref a1), .val (.ref d42), .unset, .unset]) rfl (pc' := 28) rfl ?_
  refine GoKit.aloadN G d20_28 rfl rfl (pc' := 29) rfl ?_
  refine GoKit.callFaceP G d20_29 (wi hw 292 rfl) (wi hw 228 rfl) (wi hw 293 rfl) (fun _ _ hZ => mv hZ (wi hw 229 rfl)) (wi hw 295 rfl) (wi hw 296 rfl) (wi hw 297 rfl) (wi hw 294 rfl) (wi hw 280 rfl) (wi hw 298 rfl) (by decide) O43.1 (W := 0) (argsL := []) (rest := []) (con_thasnext l hw O43.2.2.2.2) rfl (lenOf pd_8 rfl) rfl (by decide) (Nat.le_of_eq rfl) (by decide) (by decide) (by decide) (cells' := 6) (slots' := 23) rfl rfl (pc' := 34) rfl ?_
  show Run _ _ _ _ _ _ _ _ _ _ _ _ _ _ _ _ _ _ _ _ _ (mkF m 34 #[.val (.ref a), .val (.ref a1), .val (.ref d42), .unset, .unset] [(.int (0 : Int32))])
  refine GoKit.if_eq_t G d20_34 (by decide) (by decide) (pc' := 111) rfl ?_
  refine GoKit.aloadN G d20_111 rfl rfl (pc' := 112) rfl ?_
  refine GoKit.callStatic G d20_112 (wi hw 299 rfl) (wi hw 300 rfl) (wi hw 301 rfl) (wi hw 302 rfl) (by decide) (owc := []) (W := 0) (argsL := [(.ref a1)]) (rest := []) (con_fenc l hw SU SV ⟨((((O13.1.ext E15).keep K26).keep K33).keep K40), ((((O13.2.1.ext E15).keep K26 (ninS (Nat.ne_of_lt (Nat.lt_of_lt_of_le (O13.2.2.2).lt (Nat.le_of_eq ga14.symm))) (ninS (Ne.symm (Nat.ne_of_lt (Nat.lt_of_lt_of_le (M.2.2.2.2.2).lt (Nat.le_of_eq ga1.symm)))) nin0))).keep K33 (ninS (Nat.ne_of_lt (Nat.lt_of_lt_of_le (O13.2.2.2).lt (Nat.le_of_eq ga14.symm))) nin0)).keep K40 nin0), ((((O13.2.2.1.ext E15).keep K26 (ninS (Nat.ne_of_lt (Nat.lt_of_lt_of_le (O13.2.2.2).lt (Nat.le_of_eq ga14.symm))) (ninS (Ne.symm (Nat.ne_of_lt (Nat.lt_of_lt_of_le (M.2.2.2.2.2).lt (Nat.le_of_eq ga1.symm)))) nin0))).keep K33 (ninS (Nat.ne_of_lt (Nat.lt_of_lt_of_le (O13.2.2.2).lt (Nat.le_of_eq ga14.symm))) nin0)).keep K40 nin0), ((((O13.2.2.2.ext E15).keep K26 (ninS (Nat.ne_of_lt (Nat.lt_of_lt_of_le (O13.2.2.2).lt (Nat.le_of_eq ga14.symm))) (ninS (Ne.symm (Nat.ne_of_lt (Nat.lt_of_lt_of_le (M.2.2.2.2.2).lt (Nat.le_of_eq ga1.symm)))) nin0))).keep K33 (ninS (Nat.ne_of_lt (Nat.lt_of_lt_of_le (O13.2.2.2).lt (Nat.le_of_eq ga14.symm))) nin0)).keep K40 nin0)⟩ HC) rfl (lenOf pd_28 rfl) rfl (by decide) (Nat.le_of_eq rfl) (by decide) (by decide) (by decide) (fun _ q => nomatch q) (cells' := 12) (slots' := 51) rfl rfl (pc' := 115) rfl (fun r44 h47 q45 K46 => ?_)
  obtain ⟨d48, rfl, A49, X50⟩ := q45
  show Run _ _ _ _ _ _ _ _ _ _ _ _ _ _ _ _ _ _ _ _ _ (mkF m 115 #[.val (.ref a), .val (.ref a1), .val (.ref d42), .unset, .unset] [(.ref d48)])
  refine GoKit.retRef G rfl d20_115 rfl rfl rfl (by decide) (by decide) ?_
  exact ⟨_, _, rfl, A49, ⟨(((O30.1.1.keep K33).keep K40).keep K46), (((O30.1.2.1.keep K33 (ninS (Nat.ne_of_lt (Nat.lt_of_lt_of_le (((M.2.2.2.2.2.ext E2).keep K11 (ninS (Nat.ne_of_lt (Nat.lt_of_lt_of_le (M.2.2.2.2.2).lt (Nat.le_of_eq ga1.symm))) nin0))).lt (Nat.le_of_eq ga14.symm))) nin0)).keep K40 nin0).keep K46 nin0), (((O30.1.2.2.1.keep K33 (ninS (Nat.ne_of_lt (Nat.lt_of_lt_of_le (((M.2.2.2.2.2.ext E2).keep K11 (ninS (Nat.ne_of_lt (Nat.lt_of_lt_of_le (M.2.2.2.2.2).lt (Nat.le_of_eq ga1.symm))) nin0))).lt (Nat.le_of_eq ga14.symm))) nin0)).keep K40 nin0).keep K46 nin0), (((O30.1.2.2.2.1.keep K33 (ninS (Nat.ne_of_lt (Nat.lt_of_lt_of_le (((M.2.2.2.2.2.ext E2).keep K11 (ninS (Nat.ne_of_lt (Nat.lt_of_lt_of_le (M.2.2.2.2.2).lt (Nat.le_of_eq ga1.symm))) nin0))).lt (Nat.le_of_eq ga14.symm))) nin0)).keep K40 nin0).keep K46 nin0), (((O30.1.2.2.2.2.1.keep K33 (ninS (Nat.ne_of_lt (Nat.lt_of_lt_of_le (((M.2.2.2.2.2.ext E2).keep K11 (ninS (Nat.ne_of_lt (Nat.lt_of_lt_of_le (M.2.2.2.2.2).lt (Nat.le_of_eq ga1.symm))) nin0))).lt (Nat.le_of_eq ga14.symm))) nin0)).keep K40 nin0).keep K46 nin0), (((O30.1.2.2.2.2.2.keep K33 (ninS (Nat.ne_of_lt (Nat.lt_of_lt_of_le (((M.2.2.2.2.2.ext E2).keep K11 (ninS (Nat.ne_of_lt (Nat.lt_of_lt_of_le (M.2.2.2.2.2).lt (Nat.le_of_eq ga1.symm))) nin0))).lt (Nat.le_of_eq ga14.symm))) nin0)).keep K40 nin0).keep K46 nin0)⟩, ⟨(((O30.2.1.keep K33).keep K40).keep K46), (((O30.2.2.keep K33 (ninS (Exa.ne O30.2.1 (X16.keep K26) (by decide)) nin0)).keep K40 nin0).keep K46 nin0)⟩⟩
abbrev rm_con_sencF : Room := { frames := 7, cells := 11, slots := 50, locals := 106 }
set_option maxRecDepth 65536 in
set_option maxHeartbeats 40000000 in
theorem con_sencF (l : Launch) {Z : State} {a0 : Array Value} (hw : ∀ d ∈ tables_1, d.before a0 Z = true) {n0 : Nat} {h0 : Heap} {q0 b : Addr} {kv : Value} (M : Exa Z h0 q0 "java/util/HashMap" ∧ Fld Z h0 q0 "java/util/HashMap" "size" "I" (.int 0) ∧ Fld Z h0 q0 "java/util/HashMap" "modCount" "I" (.int 0) ∧ Fld Z h0 q0 "java/util/HashMap" "table" "[Ljava/util/HashMap$Node;" .null ∧ Fld Z h0 q0 "java/util/HashMap" "entrySet" "Ljava/util/Set;" (.ref b) ∧ Fld Z h0 q0 "java/util/AbstractMap" "keySet" "Ljava/util/Set;" kv) (S : Exa Z h0 b "java/util/HashMap$EntrySet" ∧ Fld Z h0 b "java/util/HashMap$EntrySet" "this$0" "Ljava/util/HashMap;" (.ref q0)) {a d0 : Addr} (SD : Sta Z Z.heap "java/util/ArrayList" "DEFAULTCAPACITY_EMPTY_ELEMENTDATA" "[Ljava/lang/Object;" (.ref d0)) {u8 : Addr} (SU : Sta Z Z.heap "sun/nio/cs/UTF_8" "INSTANCE" "Lsun/nio/cs/UTF_8;" (.ref u8)) (SV : Sta Z Z.heap "java/nio/charset/StandardCharsets" "UTF_8" "Ljava/nio/charset/Charset;" (.ref u8)) (O : Exa Z h0 a "com/example/waymark/waymark/StatCache" ∧ Fld Z h0 a "com/example/waymark/waymark/StatCache" "entries" "Ljava/util/Map;" (.ref q0) ∧ Fld Z h0 a "com/example/waymark/waymark/StatCache" "changed" "Z" (.int 0)) (HC : Cst Z) :
    Con l Z false false ELs n0 (⟨"com/example/waymark/waymark/StatCache", "encode", "()[B"⟩ : MethodName) prog_24_method_7_code 5 (some (.array .byte)) rm_con_sencF [] #[(.ref a)] h0 [] (fun v h => ∃ x, v = some (.ref x) ∧ IA Z h x .byte []) := by
  refine Con.intro (plainFor_of_name pn_com_example_waymark_waymark_StatCache) (hELs hw) ?_
  intro p e s m below meth c hh G
  refine castRun (g' := mkF m 0 #[.val (.ref a), .unset, .unset, .unset, .unset] []) (by first | rfl | (simp [entryFrame, mkF, argsToLocals, Value.category, maxLocals]; done)) ?_
  refine GoKit.newobj G d20_0 (wi hw 126 rfl) (wi hw 3 rfl) (wi hw 4 rfl) (by decide) (by decide) (cells' := 1) (slots' := 3) rfl rfl (pc' := 3) rfl (fun h5 a1 ga1 E2 X3 D4 => ?_)
  have F6 : Fld Z h5 a1 "java/util/AbstractList" "modCount" "I" (.int 0) := D4 (Or.inl (wi hw 24 rfl)) (ty := .int) (by decide)
  have F7 : Fld Z h5 a1 "java/util/ArrayList" "elementData" "[Ljava/lang/Object;" .null := D4 (Or.inl (wi hw 27 rfl)) (ty := (.array (.object "java/lang/Object"))) (by decide)
  have F8 : Fld Z h5 a1 "java/util/ArrayList" "size" "I" (.int 0) := D4 (Or.inl (wi hw 63 rfl)) (ty := .int) (by decide)
  refine GoKit.dup G d20_3 rfl (pc' := 4) rfl ?_
  refine GoKit.callSpecial G d20_4 rfl (wi hw 127 rfl) (wi hw 6 rfl) (wi hw 4 rfl) (wi hw 7 rfl) (by decide) (owc := [a1]) (W := 1) (argsL := []) (rest := [(.ref a1)]) (con_alinit l hw SD ⟨X3, F6, F7, F8⟩) rfl (lenOf pd_0 rfl) rfl (by decide) (Nat.le_of_eq rfl) (by decide) (by decide) (by decide) (List.forall_mem_cons.mpr ⟨(List.Mem.head _), (fun _ q => nomatch q)⟩) (cells' := 1) (slots' := 3) rfl rfl (pc' := 7) rfl (fun r9 h12 q10 K11 => ?_)
  obtain ⟨rfl, O13⟩ := q10
  show Run _ _ _ _ _ _ _ _ _ _ _ _ _ _ _ _ _ _ _ _ _ (mkF m 7 #[.val (.ref a), .unset, .unset, .unset, .unset] [(.ref a1)])
  refine GoKit.astoreN G d20_7 rfl (Ls' := #[.val (.ref a), .val (.ref a1), .unset, .unset, .unset]) rfl (pc' := 8) rfl ?_
  refine GoKit.newobj G d20_8 (wi hw 128 rfl) (wi hw 129 rfl) (wi hw 130 rfl) (by decide) (by decide) (cells' := 2) (slots' := 12) rfl rfl (pc' := 11) rfl (fun h18 a14 ga14 E15 X16 D17 => ?_)
  have F19 : Fld Z h18 a14 "java/util/TreeMap" "size" "I" (.int 0) := D17 (Or.inl (wi hw 137 rfl)) (ty := .int) (by decide)
  have F20 : Fld Z h18 a14 "java/util/TreeMap" "modCount" "I" (.int 0) := D17 (Or.inl (wi hw 139 rfl)) (ty := .int) (by decide)
  have F21 : Fld Z h18 a14 "java/util/TreeMap" "comparator" "Ljava/util/Comparator;" .null := D17 (Or.inr (wi hw 141 rfl)) (ty := (.object "java/util/Comparator")) (by decide)
  have F22 : Fld Z h18 a14 "java/util/TreeMap" "entrySet" "Ljava/util/TreeMap$EntrySet;" .null := D17 (Or.inl (wi hw 242 rfl)) (ty := (.object "java/util/TreeMap$EntrySet")) (by decide)
  have F23 : Fld Z h18 a14 "java/util/TreeMap" "root" "Ljava/util/TreeMap$Entry;" .null := D17 (Or.inl (wi hw 271 rfl)) (ty := (.object "java/util/TreeMap$Entry")) (by decide)
  refine GoKit.dup G d20_11 rfl (pc' := 12) rfl ?_
  refine GoKit.aloadN G d20_12 rfl rfl (pc' := 13) rfl ?_
  refine GoKit.getf G d20_13 (wi hw 112 rfl) Via.refl (((O.2.1.ext E2).keep K11 (ninS (Nat.ne_of_lt (Nat.lt_of_lt_of_le (O.2.2).lt (Nat.le_of_eq ga1.symm))) nin0)).ext E15) (pc' := 16) rfl ?_
  refine GoKit.callSpecial G d20_16 rfl (wi hw 131 rfl) (wi hw 132 rfl) (wi hw 130 rfl) (wi hw 133 rfl) (by decide) (owc := [a14]) (W := 1) (argsL := [(.ref q0)]) (rest := [(.ref a14)]) (con_tmF l hw ⟨(((M.1.ext E2).keep K11).ext E15), (((M.2.1.ext E2).keep K11 (ninS (Nat.ne_of_lt (Nat.lt_of_lt_of_le (M.2.2.2.2.2).lt (Nat.le_of_eq ga1.symm))) nin0)).ext E15), (((M.2.2.1.ext E2).keep K11 (ninS (Nat.ne_of_lt (Nat.lt_of_lt_of_le (M.2.2.2.2.2).lt (Nat.le_of_eq ga1.symm))) nin0)).ext E15), (((M.2.2.2.1.ext E2).keep K11 (ninS (Nat.ne_of_lt (Nat.lt_of_lt_of_le (M.2.2.2.2.2).lt (Nat.le_of_eq ga1.symm))) nin0)).ext E15), (((M.2.2.2.2.1.ext E2).keep K11 (ninS (Nat.ne_of_lt (Nat.lt_of_lt_of_le (M.2.2.2.2.2).lt (Nat.le_of_eq ga1.symm))) nin0)).ext E15), (((M.2.2.2.2.2.ext E2).keep K11 (ninS (Nat.ne_of_lt (Nat.lt_of_lt_of_le (M.2.2.2.2.2).lt (Nat.le_of_eq ga1.symm))) nin0)).ext E15)⟩ ⟨(((S.1.ext E2).keep K11).ext E15), (((S.2.ext E2).keep K11 (ninS (Nat.ne_of_lt (Nat.lt_of_lt_of_le (S.2).lt (Nat.le_of_eq ga1.symm))) nin0)).ext E15)⟩ ⟨X16, F19, F20, F21, F22, F23⟩) rfl (lenOf pd_10 rfl) rfl (by decide) (Nat.le_of_eq rfl) (by decide) (by decide) (by decide) (List.forall_mem_cons.mpr ⟨(List.Mem.head _), (fun _ q => nomatch q)⟩) (cells' := 3) (slots' := 17) rfl rfl (pc' := 19) rfl (fun r24 h27 q25 K26 => ?_)
  obtain ⟨rfl, T28⟩ := q25
  show Run _ _ _ _ _ _ _ _ _ _ _ _ _ _ _ _ _ _ _ _ _ (mkF m 19 #[.val (.ref a), .val (.ref a1), .unset, .unset, .unset] [(.ref a14)])
  refine GoKit.callVirtual G d20_19 (wi hw 236 rfl) (wi hw 237 rfl) (wi hw 239 rfl) (nface (wi hw 239 rfl)) (wi hw 238 rfl) (wi hw 130 rfl) (wi hw 240 rfl) (by decide) T28.1 (owc := [a14]) (W := 0) (argsL := []) (rest := []) (con_tms l hw ⟨T28.1, T28.2.1, T28.2.2.1, T28.2.2.2.1, T28.2.2.2.2.1, T28.2.2.2.2.2⟩) rfl (lenOf pd_6 rfl) rfl (by decide) (Nat.le_of_eq rfl) (by decide) (by decide) (by decide) (List.forall_mem_cons.mpr ⟨(List.Mem.head _), (fun _ q => nomatch q)⟩) (cells' := 4) (slots' := 18) rfl rfl (pc' := 22) rfl (fun r29 h32 q30 K31 => ?_)
  obtain ⟨d33, rfl, T34, O35⟩ := q30
  show Run _ _ _ _ _ _ _ _ _ _ _ _ _ _ _ _ _ _ _ _ _ (mkF m 22 #[.val (.ref a), .val (.ref a1), .unset, .unset, .unset] [(.ref d33)])
  refine GoKit.callFace G d20_22 (wi hw 255 rfl) (wi hw 191 rfl) (wi hw 256 rfl) (fun _ _ hZ => mv hZ (wi hw 192 rfl)) (wi hw 258 rfl) (wi hw 259 rfl) (wi hw 260 rfl) (wi hw 257 rfl) (wi hw 245 rfl) (wi hw 261 rfl) (by decide) O35.1 (owc := []) (W := 0) (argsL := []) (rest := []) (con_titer l hw ⟨O35.1, O35.2⟩ ⟨T34.1, T34.2.2.1, T34.2.2.2.2.2⟩) rfl (lenOf pd_7 rfl) rfl (by decide) (Nat.le_of_eq rfl) (by decide) (by decide) (by decide) (fun _ q => nomatch q) (cells' := 5) (slots' := 22) rfl rfl (pc' := 27) rfl (fun r36 h39 q37 K38 => ?_)
  obtain ⟨d40, rfl, O41⟩ := q37
  show Run _ _ _ _ _ _ _ _ _ _ _ _ _ _ _ _ _ _ _ _ _ (mkF m 27 #[.val (.ref a), .val (.ref a1), .unset, .unset, .unset] [(.ref d40)])
  refine GoKit.astoreN G d20_27 rfl (Ls' := #[.val (.ref a), .val (.ref a1), .val (.ref d40), .unset, .unset]) rfl (pc' := 28) rfl ?_
  refine GoKit.aloadN G d20_28 rfl rfl (pc' := 29) rfl ?_
  refine GoKit.callFaceP G d20_29 (wi hw 292 rfl) (wi hw 228 rfl) (wi hw 293 rfl) (fun _ _ hZ => mv hZ (wi hw 229 rfl)) (wi hw 295 rfl) (wi hw 296 rfl) (wi hw 297 rfl) (wi hw 294 rfl) (wi hw 280 rfl) (wi hw 298 rfl) (by decide) O41.1 (W := 0) (argsL := []) (rest := []) (con_thasnext l hw O41.2.2.2.2) rfl (lenOf pd_8 rfl) rfl (by decide) (Nat.le_of_eq rfl) (by decide) (by decide) (by decide) (cells' := 5) (slots' := 22) rfl rfl (pc' := 34) rfl ?_
  show Run _ _ _ _ _ _ _ _ _ _ _ _ _ _ _ _ _ _ _ _ _ (mkF m 34 #[.val (.ref a), .val (.ref a1), .val (.ref d40), .unset, .unset] [(.int (0 : Int32))])
  refine GoKit.if_eq_t G d20_34 (by decide) (by decide) (pc' := 111) rfl ?_
  refine GoKit.aloadN G d20_111 rfl rfl (pc' := 112) rfl ?_
  refine GoKit.callStatic G d20_112 (wi hw 299 rfl) (wi hw 300 rfl) (wi hw 301 rfl) (wi hw 302 rfl) (by decide) (owc := []) (W := 0) (argsL := [(.ref a1)]) (rest := []) (con_fenc l hw SU SV ⟨((((O13.1.ext E15).keep K26).keep K31).keep K38), ((((O13.2.1.ext E15).keep K26 (ninS (Nat.ne_of_lt (Nat.lt_of_lt_of_le (O13.2.2.2).lt (Nat.le_of_eq ga14.symm))) nin0)).keep K31 (ninS (Nat.ne_of_lt (Nat.lt_of_lt_of_le (O13.2.2.2).lt (Nat.le_of_eq ga14.symm))) nin0)).keep K38 nin0), ((((O13.2.2.1.ext E15).keep K26 (ninS (Nat.ne_of_lt (Nat.lt_of_lt_of_le (O13.2.2.2).lt (Nat.le_of_eq ga14.symm))) nin0)).keep K31 (ninS (Nat.ne_of_lt (Nat.lt_of_lt_of_le (O13.2.2.2).lt (Nat.le_of_eq ga14.symm))) nin0)).keep K38 nin0), ((((O13.2.2.2.ext E15).keep K26 (ninS (Nat.ne_of_lt (Nat.lt_of_lt_of_le (O13.2.2.2).lt (Nat.le_of_eq ga14.symm))) nin0)).keep K31 (ninS (Nat.ne_of_lt (Nat.lt_of_lt_of_le (O13.2.2.2).lt (Nat.le_of_eq ga14.symm))) nin0)).keep K38 nin0)⟩ HC) rfl (lenOf pd_28 rfl) rfl (by decide) (Nat.le_of_eq rfl) (by decide) (by decide) (by decide) (fun _ q => nomatch q) (cells' := 11) (slots' := 50) rfl rfl (pc' := 115) rfl (fun r42 h45 q43 K44 => ?_)
  obtain ⟨d46, rfl, A47, X48⟩ := q43
  show Run _ _ _ _ _ _ _ _ _ _ _ _ _ _ _ _ _ _ _ _ _ (mkF m 115 #[.val (.ref a), .val (.ref a1), .val (.ref d40), .unset, .unset] [(.ref d46)])
  refine GoKit.retRef G rfl d20_115 rfl rfl rfl (by decide) (by decide) ?_
  exact ⟨_, rfl, A47⟩
theorem d62_0 : decode jdk_69_method_24_code 0 = .ok (.aload_n 0, 1) := by decide +kernel
theorem d62_1 : decode jdk_69_method_24_code 1 = .ok (.getfield 239, 3) := by decide +kernel
theorem d62_4 : decode jdk_69_method_24_code 4 = .ok (.astore_n 1, 1) := by decide +kernel
theorem d62_5 : decode jdk_69_method_24_code 5 = .ok (.aload_n 1, 1) := by decide +kernel
theorem d62_6 : decode jdk_69_method_24_code 6 = .ok (.ifnonnull 17, 3) := by decide +kernel
theorem d62_9 : decode jdk_69_method_24_code 9 = .ok (.new 243, 3) := by decide +kernel
theorem d62_12 : decode jdk_69_method_24_code 12 = .ok (.dup, 1) := by decide +kernel
theorem d62_13 : decode jdk_69_method_24_code 13 = .ok (.aload_n 0, 1) := by decide +kernel
theorem d62_14 : decode jdk_69_method_24_code 14 = .ok (.invokespecial 245, 3) := by decide +kernel
theorem d62_17 : decode jdk_69_method_24_code 17 = .ok (.astore_n 1, 1) := by decide +kernel
theorem d62_18 : decode jdk_69_method_24_code 18 = .ok (.aload_n 0, 1) := by decide +kernel
theorem d62_19 : decode jdk_69_method_24_code 19 = .ok (.aload_n 1, 1) := by decide +kernel
theorem d62_20 : decode jdk_69_method_24_code 20 = .ok (.putfield 239, 3) := by decide +kernel
theorem d62_23 : decode jdk_69_method_24_code 23 = .ok (.aload_n 1, 1) := by decide +kernel
theorem d62_24 : decode jdk_69_method_24_code 24 = .ok (.areturn, 1) := by decide +kernel
abbrev rm_con_keyset : Room := { frames := 4, cells := 1, slots := 1, locals := 50 }
set_option maxRecDepth 65536 in
set_option maxHeartbeats 40000000 in
theorem con_keyset (l : Launch) {Z : State} {a0 : Array Value} (hw : ∀ d ∈ tables_1, d.before a0 Z = true) {n0 : Nat} {h0 : Heap} {q0 : Addr} {ev : Value} (M : Exa Z h0 q0 "java/util/HashMap" ∧ Fld Z h0 q0 "java/util/HashMap" "size" "I" (.int 0) ∧ Fld Z h0 q0 "java/util/HashMap" "modCount" "I" (.int 0) ∧ Fld Z h0 q0 "java/util/HashMap" "table" "[Ljava/util/HashMap$Node;" .null ∧ Fld Z h0 q0 "java/util/HashMap" "entrySet" "Ljava/util/Set;" ev ∧ Fld Z h0 q0 "java/util/AbstractMap" "keySet" "Ljava/util/Set;" .null) :
    Con l Z false false ELs n0 (⟨"java/util/HashMap", "keySet", "()Ljava/util/Set;"⟩ : MethodName) jdk_69_method_24_code 2 (some (.object "java/util/Set")) rm_con_keyset [] #[(.ref q0)] h0 [q0] (fun v h => ∃ d, v = some (.ref d) ∧ (Exa Z h q0 "java/util/HashMap" ∧ Fld Z h q0 "java/util/HashMap" "size" "I" (.int 0) ∧ Fld Z h q0 "java/util/HashMap" "modCount" "I" (.int 0) ∧ Fld Z h q0 "java/util/HashMap" "table" "[Ljava/util/HashMap$Node;" .null ∧ Fld Z h q0 "java/util/HashMap" "entrySet" "Ljava/util/Set;" ev ∧ Fld Z h q0 "java/util/AbstractMap" "keySet" "Ljava/util/Set;" (.ref d)) ∧ Exa Z h d "java/util/HashMap$KeySet" ∧ Fld Z h d "java/util/HashMap$KeySet" "this$0" "Ljava/util/HashMap;" (.ref q0)) := by
  refine Con.intro (plainFor_of_name pn_java_util_HashMap) (hELs hw) ?_
  intro p e s m below meth c hh G
  refine castRun (g' := mkF m 0 #[.val (.ref q0), .unset] []) (by first | rfl | (simp [entryFrame, mkF, argsToLocals, Value.category, maxLocals]; done)) ?_
  refine GoKit.aloadN G d62_0 rfl rfl (pc' := 1) rfl ?_
  refine GoKit.getf G d62_1 (wi hw 454 rfl) (Via.of (wi hw 455 rfl)) M.2.2.2.2.2 (pc' := 4) rfl ?_
  refine GoKit.astoreN G d62_4 rfl (Ls' := #[.val (.ref q0), .val .null]) rfl (pc' := 5) rfl ?_
  refine GoKit.aloadN G d62_5 rfl rfl (pc' := 6) rfl ?_
  refine GoKit.ifnonnull_f G d62_6 (pc' := 9) rfl ?_
  refine GoKit.newobj G d62_9 (wi hw 457 rfl) (wi hw 458 rfl) (wi hw 459 rfl) (by decide) (by decide) (cells' := 1) (slots' := 1) rfl rfl (pc' := 12) rfl (fun h5 a1 ga1 E2 X3 D4 => ?_)
  have F6 : Fld Z h5 a1 "java/util/HashMap$KeySet" "this$0" "Ljava/util/HashMap;" .null := D4 (Or.inr (wi hw 465 rfl)) (ty := (.object "java/util/HashMap")) (by decide)
  refine GoKit.dup G d62_12 rfl (pc' := 13) rfl ?_
  refine GoKit.aloadN G d62_13 rfl rfl (pc' := 14) rfl ?_
  refine GoKit.callSpecial G d62_14 rfl (wi hw 460 rfl) (wi hw 461 rfl) (wi hw 459 rfl) (wi hw 463 rfl) (by decide) (owc := [a1]) (W := 1) (argsL := [(.ref q0)]) (rest := [(.ref a1)]) (con_ksinit l hw ⟨X3, F6⟩) rfl (lenOf pd_5 rfl) rfl (by decide) (Nat.le_of_eq rfl) (by decide) (by decide) (by decide) (List.forall_mem_cons.mpr ⟨(List.Mem.head _), (fun _ q => nomatch q)⟩) (cells' := 1) (slots' := 1) rfl rfl (pc' := 17) rfl (fun r7 h10 q8 K9 => ?_)
  obtain ⟨rfl, O11⟩ := q8
  show Run _ _ _ _ _ _ _ _ _ _ _ _ _ _ _ _ _ _ _ _ _ (mkF m 17 #[.val (.ref q0), .val .null] [(.ref a1)])
  refine GoKit.astoreN G d62_17 rfl (Ls' := #[.val (.ref q0), .val (.ref a1)]) rfl (pc' := 18) rfl ?_
  refine GoKit.aloadN G d62_18 rfl rfl (pc' := 19) rfl ?_
  refine GoKit.aloadN G d62_19 rfl rfl (pc' := 20) rfl ?_
  refine GoKit.putf G d62_20 (wi hw 454 rfl) (Via.of (wi hw 455 rfl)) ((M.2.2.2.2.2.ext E2).keep K9 (ninS (Nat.ne_of_lt (Nat.lt_of_lt_of_le (M.2.2.2.2.2).lt (Nat.le_of_eq ga1.symm))) nin0)) ((M.1.ext E2).keep K9) (Or.inl (wi hw 456 rfl)) (wi hw 93 rfl) (ty := (.object "java/util/Set")) (by decide) rfl rfl (List.Mem.tail _ (List.Mem.head _)) (pc' := 23) rfl (fun h13 W12 => ?_)
  have F14 := (((M.2.2.2.2.2.ext E2).keep K9 (ninS (Nat.ne_of_lt (Nat.lt_of_lt_of_le (M.2.2.2.2.2).lt (Nat.le_of_eq ga1.symm))) nin0))).same W12
  refine GoKit.aloadN G d62_23 rfl rfl (pc' := 24) rfl ?_
  refine GoKit.retRef G rfl d62_24 rfl rfl rfl (by decide) (by decide) ?_
  exact ⟨_, rfl, ⟨(((M.1.ext E2).keep K9).wr W12), (((M.2.1.ext E2).keep K9 (ninS (Nat.ne_of_lt (Nat.lt_of_lt_of_le (M.2.2.2.2.2).lt (Nat.le_of_eq ga1.symm))) nin0)).other W12 (Or.inr (slot_ne (Or.inl (wi hw 157 rfl)) (Or.inl (wi hw 456 rfl)) (by decide) (by decide : _ = some .int) (by decide : _ = some (.object "java/util/Set"))))), (((M.2.2.1.ext E2).keep K9 (ninS (Nat.ne_of_lt (Nat.lt_of_lt_of_le (M.2.2.2.2.2).lt (Nat.le_of_eq ga1.symm))) nin0)).other W12 (Or.inr (slot_ne (Or.inl (wi hw 216 rfl)) (Or.inl (wi hw 456 rfl)) (by decide) (by decide : _ = some .int) (by decide : _ = some (.object "java/util/Set"))))), (((M.2.2.2.1.ext E2).keep K9 (ninS (Nat.ne_of_lt (Nat.lt_of_lt_of_le (M.2.2.2.2.2).lt (Nat.le_of_eq ga1.symm))) nin0)).other W12 (Or.inr (slot_ne (Or.inl (wi hw 220 rfl)) (Or.inl (wi hw 456 rfl)) (by decide) (by decide : _ = some (.array (.object "java/util/HashMap$Node"))) (by decide : _ = some (.object "java/util/Set"))))), (((M.2.2.2.2.1.ext E2).keep K9 (ninS (Nat.ne_of_lt (Nat.lt_of_lt_of_le (M.2.2.2.2.2).lt (Nat.le_of_eq ga1.symm))) nin0)).other W12 (Or.inr (slot_ne (Or.inl (wi hw 172 rfl)) (Or.inl (wi hw 456 rfl)) (by decide) (by decide : _ = some (.object "java/util/Set")) (by decide : _ = some (.object "java/util/Set"))))), F14⟩, ⟨(O11.1.wr W12), (O11.2.other W12 (Or.inl (Ne.symm (Nat.ne_of_lt (Nat.lt_of_lt_of_le (M.2.2.2.2.2).lt (Nat.le_of_eq ga1.symm))))))⟩⟩
theorem d65_0 : decode jdk_31_method_10_code 0 = .ok (.aload_n 0, 1) := by decide +kernel
theorem d65_1 : decode jdk_31_method_10_code 1 = .ok (.ifnonnull 11, 3) := by decide +kernel
theorem d65_12 : decode jdk_31_method_10_code 12 = .ok (.aload_n 0, 1) := by decide +kernel
theorem d65_13 : decode jdk_31_method_10_code 13 = .ok (.areturn, 1) := by decide +kernel
theorem pn_java_util_Objects : plainName "java/util/Objects" = true := by first | (simp [plainName, overriddenIn]; done) | decide +kernel
abbrev rm_con_rnn : Room := { frames := 0, cells := 0, slots := 0, locals := 0 }
set_option maxRecDepth 65536 in
set_option maxHeartbeats 40000000 in
theorem con_rnn (l : Launch) {Z : State} {a0 : Array Value} (hw : ∀ d ∈ tables_1, d.before a0 Z = true) {n0 : Nat} {h0 : Heap} {x : Addr} :
    Con l Z false false ELs n0 (⟨"java/util/Objects", "requireNonNull", "(Ljava/lang/Object;)Ljava/lang/Object;"⟩ : MethodName) jdk_31_method_10_code 1 (some (.object "java/lang/Object")) rm_con_rnn [] #[(.ref x)] h0 [] (fun v h => v = some (.ref x) ∧ h = h0) := by
  refine Con.intro (plainFor_of_name pn_java_util_Objects) (hELs hw) ?_
  intro p e s m below meth c hh G
  refine castRun (g' := mkF m 0 #[.val (.ref x)] []) (by first | rfl | (simp [entryFrame, mkF, argsToLocals, Value.category, maxLocals]; done)) ?_
  refine GoKit.aloadN G d65_0 rfl rfl (pc' := 1) rfl ?_
  refine GoKit.ifnonnull_t G d65_1 (by decide) (pc' := 12) rfl ?_
  refine GoKit.aloadN G d65_12 rfl rfl (pc' := 13) rfl ?_
  refine GoKit.retRef G rfl d65_13 rfl rfl rfl (by decide) (by decide) ?_
  exact ⟨rfl, rfl⟩
theorem d64_0 : decode jdk_22_method_14_code 0 = .ok (.aload_n 1, 1) := by decide +kernel
theorem d64_1 : decode jdk_22_method_14_code 1 = .ok (.invokestatic 85, 3) := by decide +kernel
theorem pd_29 : parseMethodDescriptor "(Ljava/lang/Object;)Ljava/lang/Object;" = some ⟨[(.object "java/lang/Object")], some (.object "java/lang/Object")⟩ := by decide +kernel
theorem d64_4 : decode jdk_22_method_14_code 4 = .ok (.pop, 1) := by decide +kernel
theorem d64_5 : decode jdk_22_method_14_code 5 = .ok (.iconst 0, 1) := by decide +kernel
theorem d64_6 : decode jdk_22_method_14_code 6 = .ok (.istore_n 2, 1) := by decide +kernel
theorem d64_7 : decode jdk_22_method_14_code 7 = .ok (.aload_n 0, 1) := by decide +kernel
theorem d64_8 : decode jdk_22_method_14_code 8 = .ok (.invokevirtual 13, 3) := by decide +kernel
theorem d64_11 : decode jdk_22_method_14_code 11 = .ok (.astore_n 3, 1) := by decide +kernel
theorem d64_12 : decode jdk_22_method_14_code 12 = .ok (.aload_n 3, 1) := by decide +kernel
theorem d64_13 : decode jdk_22_method_14_code 13 = .ok (.invokeinterface 17 1, 5) := by decide +kernel
theorem d64_18 : decode jdk_22_method_14_code 18 = .ok (.ifCond .eq 29, 3) := by decide +kernel
theorem d64_47 : decode jdk_22_method_14_code 47 = .ok (.iload_n 2, 1) := by decide +kernel
theorem d64_48 : decode jdk_22_method_14_code 48 = .ok (.ireturn, 1) := by decide +kernel
abbrev rm_con_retain : Room := { frames := 4, cells := 1, slots := 5, locals := 52 }
set_option maxRecDepth 65536 in
set_option maxHeartbeats 40000000 in
theorem con_retain (l : Launch) {Z : State} {a0 : Array Value} (hw : ∀ d ∈ tables_1, d.before a0 Z = true) {n0 : Nat} {h0 : Heap} {b q0 x : Addr} (O : Exa Z h0 b "java/util/HashMap$KeySet" ∧ Fld Z h0 b "java/util/HashMap$KeySet" "this$0" "Ljava/util/HashMap;" (.ref q0)) (M : Exa Z h0 q0 "java/util/HashMap" ∧ Fld Z h0 q0 "java/util/HashMap" "modCount" "I" (.int 0) ∧ Fld Z h0 q0 "java/util/HashMap" "table" "[Ljava/util/HashMap$Node;" .null) :
    Con l Z false false ELs n0 (⟨"java/util/AbstractCollection", "retainAll", "(Ljava/util/Collection;)Z"⟩ : MethodName) jdk_22_method_14_code 4 (some .boolean) rm_con_retain [] #[(.ref b), (.ref x)] h0 [] (fun v h => v = some (.int 0)) := by
  refine Con.intro (plainFor_of_name pn_java_util_AbstractCollection) (hELs hw) ?_
  intro p e s m below meth c hh G
  refine castRun (g' := mkF m 0 #[.val (.ref b), .val (.ref x), .unset, .unset] []) (by first | rfl | (simp [entryFrame, mkF, argsToLocals, Value.category, maxLocals]; done)) ?_
  refine GoKit.aloadN G d64_0 rfl rfl (pc' := 1) rfl ?_
  refine GoKit.callStaticP G d64_1 (wi hw 478 rfl) (wi hw 479 rfl) (wi hw 480 rfl) (wi hw 481 rfl) (by decide) (W := 0) (argsL := [(.ref x)]) (rest := []) (con_rnn l hw) rfl (lenOf pd_29 rfl) rfl (by decide) (Nat.le_of_eq rfl) (by decide) (by decide) (by decide) (cells' := 0) (slots' := 0) rfl rfl (pc' := 4) rfl ?_
  show Run _ _ _ _ _ _ _ _ _ _ _ _ _ _ _ _ _ _ _ _ _ (mkF m 4 #[.val (.ref b), .val (.ref x), .unset, .unset] [(.ref x)])
  refine GoKit.pop G d64_4 rfl (pc' := 5) rfl ?_
  refine GoKit.iconst G (0 : Int32) d64_5 rfl (pc' := 6) rfl ?_
  refine GoKit.istoreN G d64_6 (Ls' := #[.val (.ref b), .val (.ref x), .val (.int (0 : Int32)), .unset]) rfl (pc' := 7) rfl ?_
  refine GoKit.aloadN G d64_7 rfl rfl (pc' := 8) rfl ?_
  refine GoKit.callVirtual G d64_8 (wi hw 482 rfl) (wi hw 483 rfl) (wi hw 484 rfl) (nfOf (wi hw 472 rfl) rfl) (wi hw 485 rfl) (wi hw 459 rfl) (wi hw 486 rfl) (by decide) O.1 (owc := []) (W := 0) (argsL := []) (rest := []) (con_iterK l hw ⟨O.1, O.2⟩ ⟨M.1, M.2.1, M.2.2⟩) rfl (lenOf pd_7 rfl) rfl (by decide) (Nat.le_of_eq rfl) (by decide) (by decide) (by decide) (fun _ q => nomatch q) (cells' := 1) (slots' := 5) rfl rfl (pc' := 11) rfl (fun r1 h4 q2 K3 => ?_)
  obtain ⟨d5, rfl, O6⟩ := q2
  show Run _ _ _ _ _ _ _ _ _ _ _ _ _ _ _ _ _ _ _ _ _ (mkF m 11 #[.val (.ref b), .val (.ref x), .val (.int (0 : Int32)), .unset] [(.ref d5)])
  refine GoKit.astoreN G d64_11 rfl (Ls' := #[.val (.ref b), .val (.ref x), .val (.int (0 : Int32)), .val (.ref d5)]) rfl (pc' := 12) rfl ?_
  refine GoKit.aloadN G d64_12 rfl rfl (pc' := 13) rfl ?_
  refine GoKit.callFaceP G d64_13 (wi hw 501 rfl) (wi hw 228 rfl) (wi hw 502 rfl) (fun _ _ hZ => mv hZ (wi hw 229 rfl)) (wi hw 232 rfl) (wi hw 503 rfl) (wi hw 504 rfl) (wi hw 231 rfl) (wi hw 210 rfl) (wi hw 235 rfl) (by decide) O6.1 (W := 0) (argsL := []) (rest := []) (con_hasnext l hw O6.2.2.2.1) rfl (lenOf pd_8 rfl) rfl (by decide) (Nat.le_of_eq rfl) (by decide) (by decide) (by decide) (cells' := 1) (slots' := 5) rfl rfl (pc' := 18) rfl ?_
  show Run _ _ _ _ _ _ _ _ _ _ _ _ _ _ _ _ _ _ _ _ _ (mkF m 18 #[.val (.ref b), .val (.ref x), .val (.int (0 : Int32)), .val (.ref d5)] [(.int (0 : Int32))])
  refine GoKit.if_eq_t G d64_18 (by decide) (by decide) (pc' := 47) rfl ?_
  refine GoKit.iloadN G d64_47 rfl (pc' := 48) rfl ?_
  refine GoKit.retNar G d64_48 (t := .boolean) rfl (by simp) (by decide) (by decide) ?_
  exact rfl
theorem d61_0 : decode prog_24_method_5_code 0 = .ok (.aload_n 0, 1) := by decide +kernel
theorem d61_1 : decode prog_24_method_5_code 1 = .ok (.dup, 1) := by decide +kernel
theorem d61_2 : decode prog_24_method_5_code 2 = .ok (.getfield 51, 3) := by decide +kernel
theorem d61_5 : decode prog_24_method_5_code 5 = .ok (.aload_n 0, 1) := by decide +kernel
theorem d61_6 : decode prog_24_method_5_code 6 = .ok (.getfield 7, 3) := by decide +kernel
theorem d61_9 : decode prog_24_method_5_code 9 = .ok (.invokeinterface 63 1, 5) := by decide +kernel
theorem d61_14 : decode prog_24_method_5_code 14 = .ok (.aload_n 1, 1) := by decide +kernel
theorem d61_15 : decode prog_24_method_5_code 15 = .ok (.invokeinterface 67 2, 5) := by decide +kernel
theorem pd_30 : parseMethodDescriptor "(Ljava/util/Collection;)Z" = some ⟨[(.object "java/util/Collection")], some .boolean⟩ := by decide +kernel
theorem d61_20 : decode prog_24_method_5_code 20 = .ok (.ior, 1) := by decide +kernel
theorem d61_21 : decode prog_24_method_5_code 21 = .ok (.putfield 51, 3) := by decide +kernel
theorem d61_24 : decode prog_24_method_5_code 24 = .ok (.return_, 1) := by decide +kernel
abbrev rm_con_keep : Room := { frames := 5, cells := 2, slots := 6, locals := 69 }
set_option maxRecDepth 65536 in
set_option maxHeartbeats 40000000 in
theorem con_keep (l : Launch) {Z : State} {a0 : Array Value} (hw : ∀ d ∈ tables_1, d.before a0 Z = true) {n0 : Nat} {h0 : Heap} {a q0 b x : Addr} (O : Exa Z h0 a "com/example/waymark/waymark/StatCache" ∧ Fld Z h0 a "com/example/waymark/waymark/StatCache" "entries" "Ljava/util/Map;" (.ref q0) ∧ Fld Z h0 a "com/example/waymark/waymark/StatCache" "changed" "Z" (.int 0)) (M : Exa Z h0 q0 "java/util/HashMap" ∧ Fld Z h0 q0 "java/util/HashMap" "size" "I" (.int 0) ∧ Fld Z h0 q0 "java/util/HashMap" "modCount" "I" (.int 0) ∧ Fld Z h0 q0 "java/util/HashMap" "table" "[Ljava/util/HashMap$Node;" .null ∧ Fld Z h0 q0 "java/util/HashMap" "entrySet" "Ljava/util/Set;" (.ref b) ∧ Fld Z h0 q0 "java/util/AbstractMap" "keySet" "Ljava/util/Set;" .null) :
    Con l Z false false ELs n0 (⟨"com/example/waymark/waymark/StatCache", "keepOnly", "(Ljava/util/Collection;)V"⟩ : MethodName) prog_24_method_5_code 2 none rm_con_keep [] #[(.ref a), (.ref x)] h0 [a, q0] (fun v h => ∃ d, v = none ∧ (Exa Z h a "com/example/waymark/waymark/StatCache" ∧ Fld Z h a "com/example/waymark/waymark/StatCache" "entries" "Ljava/util/Map;" (.ref q0) ∧ Fld Z h a "com/example/waymark/waymark/StatCache" "changed" "Z" (.int 0)) ∧ (Exa Z h q0 "java/util/HashMap" ∧ Fld Z h q0 "java/util/HashMap" "size" "I" (.int 0) ∧ Fld Z h q0 "java/util/HashMap" "modCount" "I" (.int 0) ∧ Fld Z h q0 "java/util/HashMap" "table" "[Ljava/util/HashMap$Node;" .null ∧ Fld Z h q0 "java/util/HashMap" "entrySet" "Ljava/util/Set;" (.ref b) ∧ Fld Z h q0 "java/util/AbstractMap" "keySet" "Ljava/util/Set;" (.ref d))) := by
  refine Con.intro (plainFor_of_name pn_com_example_waymark_waymark_StatCache) (hELs hw) ?_
  intro p e s m below meth c hh G
  refine castRun (g' := mkF m 0 #[.val (.ref a), .val (.ref x)] []) (by first | rfl | (simp [entryFrame, mkF, argsToLocals, Value.category, maxLocals]; done)) ?_
  refine GoKit.aloadN G d61_0 rfl rfl (pc' := 1) rfl ?_
  refine GoKit.dup G d61_1 rfl (pc' := 2) rfl ?_
  refine GoKit.getf G d61_2 (wi hw 119 rfl) Via.refl O.2.2 (pc' := 5) rfl ?_
  refine GoKit.aloadN G d61_5 rfl rfl (pc' := 6) rfl ?_
  refine GoKit.getf G d61_6 (wi hw 112 rfl) Via.refl O.2.1 (pc' := 9) rfl ?_
  refine GoKit.callFace G d61_9 (wi hw 446 rfl) (wi hw 447 rfl) (wi hw 449 rfl) (fun _ _ hZ => mv hZ (wi hw 448 rfl)) (wi hw 451 rfl) (wi hw 452 rfl) (wi hw 154 rfl) (wi hw 450 rfl) (wi hw 94 rfl) (wi hw 453 rfl) (by decide) M.1 (owc := [q0]) (W := 2) (argsL := []) (rest := [(.int 0), (.ref a)]) (con_keyset l hw ⟨M.1, M.2.1, M.2.2.1, M.2.2.2.1, M.2.2.2.2.1, M.2.2.2.2.2⟩) rfl (lenOf pd_6 rfl) rfl (by decide) (Nat.le_of_eq rfl) (by decide) (by decide) (by decide) (List.forall_mem_cons.mpr ⟨(List.Mem.tail _ (List.Mem.head _)), (fun _ q => nomatch q)⟩) (cells' := 1) (slots' := 1) rfl rfl (pc' := 14) rfl (fun r1 h4 q2 K3 => ?_)
  obtain ⟨d5, rfl, O6, S7⟩ := q2
  show Run _ _ _ _ _ _ _ _ _ _ _ _ _ _ _ _ _ _ _ _ _ (mkF m 14 #[.val (.ref a), .val (.ref x)] [(.ref d5), (.int 0), (.ref a)])
  refine GoKit.aloadN G d61_14 rfl rfl (pc' := 15) rfl ?_
  refine GoKit.callFace G d61_15 (wi hw 469 rfl) (wi hw 470 rfl) (wi hw 472 rfl) (fun _ _ hZ => mv hZ (wi hw 471 rfl)) (wi hw 474 rfl) (wi hw 475 rfl) (wi hw 476 rfl) (wi hw 473 rfl) (wi hw 18 rfl) (wi hw 477 rfl) (by decide) S7.1 (owc := []) (W := 2) (argsL := [(.ref x)]) (rest := [(.int 0), (.ref a)]) (con_retain l hw ⟨S7.1, S7.2⟩ ⟨O6.1, O6.2.2.1, O6.2.2.2.1⟩) rfl (lenOf pd_30 rfl) rfl (by decide) (Nat.le_of_eq rfl) (by decide) (by decide) (by decide) (fun _ q => nomatch q) (cells' := 2) (slots' := 6) rfl rfl (pc' := 20) rfl (fun r8 h11 q9 K10 => ?_)
  obtain rfl := q9
  show Run _ _ _ _ _ _ _ _ _ _ _ _ _ _ _ _ _ _ _ _ _ (mkF m 20 #[.val (.ref a), .val (.ref x)] [(.int (0 : Int32)), (.int 0), (.ref a)])
  refine GoKit.ior G d61_20 (pc' := 21) rfl (fun v12 hqv12 => ?_)
  obtain rfl : v12 = 0 := by rw [hqv12]; rfl
  refine GoKit.putf G d61_21 (wi hw 119 rfl) Via.refl ((O.2.2.keep K3 (ninS (Exa.ne O.1 M.1 (by decide)) nin0)).keep K10 nin0) ((O.1.keep K3).keep K10) (Or.inl (wi hw 120 rfl)) (wi hw 91 rfl) (ty := .boolean) (by decide) rfl rfl (List.Mem.head _) (pc' := 24) rfl (fun h14 W13 => ?_)
  have F15 := (((O.2.2.keep K3 (ninS (Exa.ne O.1 M.1 (by decide)) nin0)).keep K10 nin0)).same W13
  refine GoKit.retVoid G d61_24 rfl (by decide) (by decide) ?_
  exact ⟨_, rfl, ⟨(((O.1.keep K3).keep K10).wr W13), (((O.2.1.keep K3 (ninS (Exa.ne O.1 M.1 (by decide)) nin0)).keep K10 nin0).other W13 (Or.inr (slot_ne (Or.inr (wi hw 113 rfl)) (Or.inl (wi hw 120 rfl)) (by decide) (by decide : _ = some (.object "java/util/Map")) (by decide : _ = some .boolean)))), F15⟩, ⟨((O6.1.keep K10).wr W13), ((O6.2.1.keep K10 nin0).other W13 (Or.inl (Exa.ne M.1 O.1 (by decide)))), ((O6.2.2.1.keep K10 nin0).other W13 (Or.inl (Exa.ne M.1 O.1 (by decide)))), ((O6.2.2.2.1.keep K10 nin0).other W13 (Or.inl (Exa.ne M.1 O.1 (by decide)))), ((O6.2.2.2.2.1.keep K10 nin0).other W13 (Or.inl (Exa.ne M.1 O.1 (by decide)))), ((O6.2.2.2.2.2.keep K10 nin0).other W13 (Or.inl (Exa.ne M.1 O.1 (by decide))))⟩⟩
theorem d9_0 : decode jdk_52_method_15_code 0 = .ok (.iload_n 1, 1) := by decide +kernel
theorem d9_1 : decode jdk_52_method_15_code 1 = .ok (.aload_n 0, 1) := by decide +kernel
theorem d9_2 : decode jdk_52_method_15_code 2 = .ok (.arraylength, 1) := by decide +kernel
theorem d9_3 : decode jdk_52_method_15_code 3 = .ok (.isub, 1) := by decide +kernel
theorem d9_4 : decode jdk_52_method_15_code 4 = .ok (.bipush 31, 2) := by decide +kernel
theorem d9_6 : decode jdk_52_method_15_code 6 = .ok (.iushr, 1) := by decide +kernel
theorem d9_7 : decode jdk_52_method_15_code 7 = .ok (.i2b, 1) := by decide +kernel
theorem d9_8 : decode jdk_52_method_15_code 8 = .ok (.ireturn, 1) := by decide +kernel
theorem pn_java_lang_StringUTF16 : plainName "java/lang/StringUTF16" = true := by first | (simp [plainName, overriddenIn]; done) | decide +kernel
abbrev rm_con_coderLen : Room := { frames := 0, cells := 0, slots := 0, locals := 0 }
set_option maxRecDepth 65536 in
set_option maxHeartbeats 40000000 in
theorem con_coderLen (l : Launch) {Z : State} {a0 : Array Value} (hw : ∀ d ∈ tables_1, d.before a0 Z = true) {n0 : Nat} {h0 : Heap} {d : Addr} {xs : List Int32} (A : IA Z h0 d .byte xs) :
    Con l Z false false ELs n0 (⟨"java/lang/StringUTF16", "coderFromArrayLen", "([BI)B"⟩ : MethodName) jdk_52_method_15_code 2 (some .byte) rm_con_coderLen [] #[(.ref d), (.int xs.length.toInt32)] h0 [] (fun v h => v = some (.int 0) ∧ h = h0) := by
  refine Con.intro (plainFor_of_name pn_java_lang_StringUTF16) (hELs hw) ?_
  intro p e s m below meth c hh G
  refine castRun (g' := mkF m 0 #[.val (.ref d), .val (.int xs.length.toInt32)] []) (by first | rfl | (simp [entryFrame, mkF, argsToLocals, Value.category, maxLocals]; done)) ?_
  refine GoKit.iloadN G d9_0 rfl (pc' := 1) rfl ?_
  refine GoKit.aloadN G d9_1 rfl rfl (pc' := 2) rfl ?_
  refine GoKit.arrlenI G d9_2 A (z := xs.length.toInt32) rfl (pc' := 3) rfl ?_
  refine GoKit.isub G d9_3 (pc' := 4) rfl (fun v1 hqv1 => ?_)
  refine GoKit.bipush G (31 : Int32) d9_4 rfl (pc' := 6) rfl ?_
  refine GoKit.iushr G d9_6 (pc' := 7) rfl (fun v2 hqv2 => ?_)
  refine GoKit.i2b G d9_7 (pc' := 8) rfl (fun v3 hqv3 => ?_)
  refine GoKit.retNar G d9_8 (t := .byte) rfl (by simp) (by decide) (by decide) ?_
  exact ⟨by subst_vars; rw [show (xs.length.toInt32 - xs.length.toInt32 : Int32) = 0 from Int32.sub_self _]; rfl, rfl⟩
theorem lat_le {c : Int32} (h : 0 ≤ c.toInt ∧ c.toInt < 256) : ¬ (255 : Int32) < c := by rw [Int32.lt_iff_toInt_lt]; show ¬ (255 : Int) < c.toInt; omega
theorem d8_3 : decode jdk_52_method_21_code 3 = .ok (.iload 5, 2) := by decide +kernel
theorem d8_5 : decode jdk_52_method_21_code 5 = .ok (.iload 4, 2) := by decide +kernel
theorem d8_7 : decode jdk_52_method_21_code 7 = .ok (.if_icmp .ge 37, 3) := by decide +kernel
theorem d8_44 : decode jdk_52_method_21_code 44 = .ok (.iload 4, 2) := by decide +kernel
theorem d8_46 : decode jdk_52_method_21_code 46 = .ok (.ireturn, 1) := by decide +kernel
theorem d8_10 : decode jdk_52_method_21_code 10 = .ok (.aload_n 0, 1) := by decide +kernel
theorem d8_11 : decode jdk_52_method_21_code 11 = .ok (.iload_n 1, 1) := by decide +kernel
theorem d8_12 : decode jdk_52_method_21_code 12 = .ok (.caload, 1) := by decide +kernel
theorem d8_13 : decode jdk_52_method_21_code 13 = .ok (.istore 6, 2) := by decide +kernel
theorem d8_15 : decode jdk_52_method_21_code 15 = .ok (.iload 6, 2) := by decide +kernel
theorem d8_17 : decode jdk_52_method_21_code 17 = .ok (.sipush 255, 3) := by decide +kernel
theorem d8_20 : decode jdk_52_method_21_code 20 = .ok (.if_icmp .le 6, 3) := by decide +kernel
theorem d8_26 : decode jdk_52_method_21_code 26 = .ok (.aload_n 2, 1) := by decide +kernel
theorem d8_27 : decode jdk_52_method_21_code 27 = .ok (.iload_n 3, 1) := by decide +kernel
theorem d8_28 : decode jdk_52_method_21_code 28 = .ok (.iload 6, 2) := by decide +kernel
theorem d8_30 : decode jdk_52_method_21_code 30 = .ok (.i2b, 1) := by decide +kernel
theorem d8_31 : decode jdk_52_method_21_code 31 = .ok (.bastore, 1) := by decide +kernel
theorem d8_32 : decode jdk_52_method_21_code 32 = .ok (.iinc 1 1, 3) := by decide +kernel
theorem d8_35 : decode jdk_52_method_21_code 35 = .ok (.iinc 3 1, 3) := by decide +kernel
theorem d8_38 : decode jdk_52_method_21_code 38 = .ok (.iinc 5 1, 3) := by decide +kernel
theorem d8_41 : decode jdk_52_method_21_code 41 = .ok (.goto (-38), 3) := by decide +kernel
theorem d8_0 : decode jdk_52_method_21_code 0 = .ok (.iconst 0, 1) := by decide +kernel
theorem d8_1 : decode jdk_52_method_21_code 1 = .ok (.istore 5, 2) := by decide +kernel
abbrev rm_con_compress5 : Room := { frames := 0, cells := 0, slots := 0, locals := 0 }
set_option maxRecDepth 65536 in
set_option maxHeartbeats 40000000 in
theorem con_compress5 (l : Launch) {Z : State} {a0 : Array Value} (hw : ∀ d ∈ tables_1, d.before a0 Z = true) {n0 : Nat} {h0 : Heap} {b d : Addr} {cs : List Int32} (A : IA Z h0 b .char cs) (D : IA Z h0 d .byte (List.replicate cs.length 0)) (hlat : ∀ c ∈ cs, 0 ≤ c.toInt ∧ c.toInt < 256) :
    Con l Z false false ELs n0 (⟨"java/lang/StringUTF16", "compress", "([CI[BII)I"⟩ : MethodName) jdk_52_method_21_code 7 (some .int) rm_con_compress5 [] #[(.ref b), (.int 0), (.ref d), (.int 0), (.int cs.length.toInt32)] h0 [d] (fun v h => v = some (.int cs.length.toInt32) ∧ IA Z h d .byte (cs.map fun c => c.toInt8.toInt32)) := by
  refine Con.intro (plainFor_of_name pn_java_lang_StringUTF16) (hELs hw) ?_
  intro p e s m below meth c hh G
  refine castRun (g' := mkF m 0 #[.val (.ref b), .val (.int 0), .val (.ref d), .val (.int 0), .val (.int cs.length.toInt32), .unset, .unset] []) (by first | rfl | (simp [entryFrame, mkF, argsToLocals, Value.category, maxLocals]; done)) ?_
  have hl := A.len
  have loop : ∀ (k i : Nat) (h : Heap) (sl : Slot), i + k = cs.length → IA Z h b .char cs → IA Z h d .byte ((cs.take i).map (fun c => c.toInt8.toInt32) ++ List.replicate k 0) → (sl = .unset ∨ ∃ w, sl = .val w ∧ w.category = 1) →
      Run p l e rm_con_compress5 s m #[.ref b, .int 0, .ref d, .int 0, .int cs.length.toInt32] below meth c Z false false ELs n0 [d] (fun v h => v = some (.int cs.length.toInt32) ∧ IA Z h d .byte (cs.map fun c => c.toInt8.toInt32)) h [d] 0 0 (mkF m 3 #[.val (.ref b), .val (.int i.toInt32), .val (.ref d), .val (.int i.toInt32), .val (.int cs.length.toInt32), .val (.int i.toInt32), sl] []) := by
    intro k; induction k with
    | zero =>
      intro i h sl hik A D hsl
      have hi : i = cs.length := by omega
      subst hi
      refine GoKit.iload G d8_3 rfl (pc' := 5) rfl ?_
      refine GoKit.iload G d8_5 rfl (pc' := 7) rfl ?_
      refine GoKit.icmp_ge_t G d8_7 Int32.lt_irrefl (by decide) (pc' := 44) rfl ?_
      refine GoKit.iload G d8_44 rfl (pc' := 46) rfl ?_
      refine GoKit.retInt G d8_46 rfl (by decide) (by decide) ?_
      exact ⟨rfl, by simpa using D⟩
    | succ k ih =>
      intro i h sl hik A D hsl
      have hi : i < cs.length := by omega
      obtain ⟨ch, hch⟩ : ∃ ch, cs[i]? = some ch := ⟨cs[i], List.getElem?_eq_getElem hi⟩
      have hcl := hlat ch (List.mem_of_getElem? hch)
      refine GoKit.iload G d8_3 rfl (pc' := 5) rfl ?_
      refine GoKit.iload G d8_5 rfl (pc' := 7) rfl ?_
      refine GoKit.icmp_ge_f G d8_7 ((toI_lt (by omega) (by omega)).mpr hi) (pc' := 10) rfl ?_
      refine GoKit.aloadN G d8_10 rfl rfl (pc' := 11) rfl ?_
      refine GoKit.iloadN G d8_11 rfl (pc' := 12) rfl ?_
      refine GoKit.caloadI G d8_12 A (i := i) (toI_clamp (by omega)) (toI_nn (by omega)) hch (pc' := 13) rfl ?_
      refine GoKit.istore G d8_13 (Ls' := #[.val (.ref b), .val (.int i.toInt32), .val (.ref d), .val (.int i.toInt32), .val (.int cs.length.toInt32), .val (.int i.toInt32), .val (.int ch)]) (XS.store1 rfl hsl rfl) (pc' := 15) rfl ?_
      refine GoKit.iload G d8_15 rfl (pc' := 17) rfl ?_
      refine GoKit.sipush G (255 : Int32) d8_17 rfl (pc' := 20) rfl ?_
      refine GoKit.icmp_le_t G d8_20 (lat_le hcl) (by decide) (pc' := 26) rfl ?_
      refine GoKit.aloadN G d8_26 rfl rfl (pc' := 27) rfl ?_
      refine GoKit.iloadN G d8_27 rfl (pc' := 28) rfl ?_
      refine GoKit.iload G d8_28 rfl (pc' := 30) rfl ?_
      refine GoKit.i2b G d8_30 (pc' := 31) rfl (fun v1 hqv1 => ?_)
      refine GoKit.bastI G d8_31 D (i := i) (toI_clamp (by omega)) (toI_nn (by omega)) (by simp; omega) (x' := ch.toInt8.toInt32) (by rw [hqv1]; exact lo8_nar _) (List.Mem.head _) (pc' := 32) rfl (fun h' W' D' => ?_)
      rw [set_fill _ cs i k ch hch] at D'
      refine GoKit.iinc G (1 : Int32) d8_32 rfl rfl (Ls' := #[.val (.ref b), .val (.int (i.toInt32 + (1 : Int32))), .val (.ref d), .val (.int i.toInt32), .val (.int cs.length.toInt32), .val (.int i.toInt32), .val (.int ch)]) rfl (pc' := 35) rfl ?_
      generalize hqv2 : (i.toInt32 + (1 : Int32)) = v2
      refine GoKit.iinc G (1 : Int32) d8_35 rfl rfl (Ls' := #[.val (.ref b), .val (.int v2), .val (.ref d), .val (.int (i.toInt32 + (1 : Int32))), .val (.int cs.length.toInt32), .val (.int i.toInt32), .val (.int ch)]) rfl (pc' := 38) rfl ?_
      generalize hqv3 : (i.toInt32 + (1 : Int32)) = v3
      refine GoKit.iinc G (1 : Int32) d8_38 rfl rfl (Ls' := #[.val (.ref b), .val (.int v2), .val (.ref d), .val (.int v3), .val (.int cs.length.toInt32), .val (.int (i.toInt32 + (1 : Int32))), .val (.int ch)]) rfl (pc' := 41) rfl ?_
      generalize hqv4 : (i.toInt32 + (1 : Int32)) = v4
      refine GoKit.goto G d8_41 (by decide) (pc' := 3) rfl ?_
      rw [toI_succ] at hqv2; subst hqv2
      rw [toI_succ] at hqv3; subst hqv3
      rw [toI_succ] at hqv4; subst hqv4
      exact ih (i + 1) h' (.val (.int ch)) (by omega) (A.other W' (IA.neTy A D (by decide))) D' (Or.inr ⟨_, rfl, rfl⟩)
  refine GoKit.iconst G (0 : Int32) d8_0 rfl (pc' := 1) rfl ?_
  refine GoKit.istore G d8_1 (Ls' := #[.val (.ref b), .val (.int (0 : Int32)), .val (.ref d), .val (.int (0 : Int32)), .val (.int cs.length.toInt32), .val (.int (0 : Int32)), .unset]) rfl (pc' := 3) rfl ?_
  exact loop cs.length 0 h0 .unset (by omega) A (by simpa using D) (Or.inl rfl)
theorem d7_0 : decode jdk_52_method_16_code 0 = .ok (.iload_n 2, 1) := by decide +kernel
theorem d7_1 : decode jdk_52_method_16_code 1 = .ok (.newarray .byte, 2) := by decide +kernel
theorem d7_3 : decode jdk_52_method_16_code 3 = .ok (.astore_n 3, 1) := by decide +kernel
theorem d7_4 : decode jdk_52_method_16_code 4 = .ok (.aload_n 0, 1) := by decide +kernel
theorem d7_5 : decode jdk_52_method_16_code 5 = .ok (.iload_n 1, 1) := by decide +kernel
theorem d7_6 : decode jdk_52_method_16_code 6 = .ok (.aload_n 3, 1) := by decide +kernel
theorem d7_7 : decode jdk_52_method_16_code 7 = .ok (.iconst 0, 1) := by decide +kernel
theorem d7_8 : decode jdk_52_method_16_code 8 = .ok (.iload_n 2, 1) := by decide +kernel
theorem d7_9 : decode jdk_52_method_16_code 9 = .ok (.invokestatic 115, 3) := by decide +kernel
theorem pd_31 : parseMethodDescriptor "([CI[BII)I" = some ⟨[(.array .char), .int, (.array .byte), .int, .int], some .int⟩ := by decide +kernel
theorem d7_12 : decode jdk_52_method_16_code 12 = .ok (.istore 4, 2) := by decide +kernel
theorem d7_14 : decode jdk_52_method_16_code 14 = .ok (.iload 4, 2) := by decide +kernel
theorem d7_16 : decode jdk_52_method_16_code 16 = .ok (.iload_n 2, 1) := by decide +kernel
theorem d7_17 : decode jdk_52_method_16_code 17 = .ok (.if_icmp .eq 40, 3) := by decide +kernel
theorem d7_57 : decode jdk_52_method_16_code 57 = .ok (.aload_n 3, 1) := by decide +kernel
theorem d7_58 : decode jdk_52_method_16_code 58 = .ok (.areturn, 1) := by decide +kernel
abbrev rm_con_compress3 : Room := { frames := 1, cells := 1, slots := 4, locals := 18 }
set_option maxRecDepth 65536 in
set_option maxHeartbeats 40000000 in
theorem con_compress3 (l : Launch) {Z : State} {a0 : Array Value} (hw : ∀ d ∈ tables_1, d.before a0 Z = true) {n0 : Nat} {h0 : Heap} {b : Addr} {cs : List Int32} (A : IA Z h0 b .char cs) (hcap : cs.length ≤ 4) (hlat : ∀ c ∈ cs, 0 ≤ c.toInt ∧ c.toInt < 256) :
    Con l Z false false ELs n0 (⟨"java/lang/StringUTF16", "compress", "([CII)[B"⟩ : MethodName) jdk_52_method_16_code 6 (some (.array .byte)) rm_con_compress3 [] #[(.ref b), (.int 0), (.int cs.length.toInt32)] h0 [] (fun v h => ∃ d, v = some (.ref d) ∧ IA Z h d .byte (cs.map fun c => c.toInt8.toInt32)) := by
  refine Con.intro (plainFor_of_name pn_java_lang_StringUTF16) (hELs hw) ?_
  intro p e s m below meth c hh G
  refine castRun (g' := mkF m 0 #[.val (.ref b), .val (.int 0), .val (.int cs.length.toInt32), .unset, .unset, .unset] []) (by first | rfl | (simp [entryFrame, mkF, argsToLocals, Value.category, maxLocals]; done)) ?_
  have hl := A.len
  refine GoKit.iloadN G d7_0 rfl (pc' := 1) rfl ?_
  refine GoKit.newbI G d7_1 (wi hw 44 rfl) (toI_nn hl) (k := cs.length) (cap := 4) (toI_clamp hl) hcap (by decide) (by decide) (by decide) (cells' := 1) (slots' := 4) rfl rfl (pc' := 3) rfl (fun h4 a1 ga1 E2 A3 => ?_)
  refine GoKit.astoreN G d7_3 rfl (Ls' := #[.val (.ref b), .val (.int 0), .val (.int cs.length.toInt32), .val (.ref a1), .unset, .unset]) rfl (pc' := 4) rfl ?_
  refine GoKit.aloadN G d7_4 rfl rfl (pc' := 5) rfl ?_
  refine GoKit.iloadN G d7_5 rfl (pc' := 6) rfl ?_
  refine GoKit.aloadN G d7_6 rfl rfl (pc' := 7) rfl ?_
  refine GoKit.iconst G (0 : Int32) d7_7 rfl (pc' := 8) rfl ?_
  refine GoKit.iloadN G d7_8 rfl (pc' := 9) rfl ?_
  refine GoKit.callStatic G d7_9 (wi hw 45 rfl) (wi hw 46 rfl) (wi hw 42 rfl) (wi hw 47 rfl) (by decide) (owc := [a1]) (W := 0) (argsL := [(.ref b), (.int 0), (.ref a1), (.int (0 : Int32)), (.int cs.length.toInt32)]) (rest := []) (con_compress5 l hw (A.ext E2) A3 hlat) rfl (lenOf pd_31 rfl) rfl (by decide) (Nat.le_of_eq rfl) (by decide) (by decide) (by decide) (List.forall_mem_cons.mpr ⟨(List.Mem.head _), (fun _ q => nomatch q)⟩) (cells' := 1) (slots' := 4) rfl rfl (pc' := 12) rfl (fun r5 h8 q6 K7 => ?_)
  obtain ⟨rfl, A9⟩ := q6
  show Run _ _ _ _ _ _ _ _ _ _ _ _ _ _ _ _ _ _ _ _ _ (mkF m 12 #[.val (.ref b), .val (.int 0), .val (.int cs.length.toInt32), .val (.ref a1), .unset, .unset] [(.int cs.length.toInt32)])
  refine GoKit.istore G d7_12 (Ls' := #[.val (.ref b), .val (.int 0), .val (.int cs.length.toInt32), .val (.ref a1), .val (.int cs.length.toInt32), .unset]) rfl (pc' := 14) rfl ?_
  refine GoKit.iload G d7_14 rfl (pc' := 16) rfl ?_
  refine GoKit.iloadN G d7_16 rfl (pc' := 17) rfl ?_
  refine GoKit.icmp_eq_t G d7_17 rfl (by decide) (pc' := 57) rfl ?_
  refine GoKit.aloadN G d7_57 rfl rfl (pc' := 58) rfl ?_
  refine GoKit.retRef G rfl d7_58 rfl rfl rfl (by decide) (by decide) ?_
  exact ⟨_, rfl, A9⟩
theorem d6_0 : decode jdk_42_method_149_code 0 = .ok (.aload_n 0, 1) := by decide +kernel
theorem d6_1 : decode jdk_42_method_149_code 1 = .ok (.invokespecial 1, 3) := by decide +kernel
theorem d6_4 : decode jdk_42_method_149_code 4 = .ok (.iload_n 3, 1) := by decide +kernel
theorem d6_5 : decode jdk_42_method_149_code 5 = .ok (.ifCond .ne 22, 3) := by decide +kernel
theorem d6_27 : decode jdk_42_method_149_code 27 = .ok (.getstatic 38, 3) := by decide +kernel
theorem d6_30 : decode jdk_42_method_149_code 30 = .ok (.ifCond .eq 28, 3) := by decide +kernel
theorem d6_33 : decode jdk_42_method_149_code 33 = .ok (.aload_n 1, 1) := by decide +kernel
theorem d6_34 : decode jdk_42_method_149_code 34 = .ok (.iload_n 2, 1) := by decide +kernel
theorem d6_35 : decode jdk_42_method_149_code 35 = .ok (.iload_n 3, 1) := by decide +kernel
theorem d6_36 : decode jdk_42_method_149_code 36 = .ok (.invokestatic 177, 3) := by decide +kernel
theorem pd_32 : parseMethodDescriptor "([CII)[B" = some ⟨[(.array .char), .int, .int], some (.array .byte)⟩ := by decide +kernel
theorem d6_39 : decode jdk_42_method_149_code 39 = .ok (.astore 5, 2) := by decide +kernel
theorem d6_41 : decode jdk_42_method_149_code 41 = .ok (.aload_n 0, 1) := by decide +kernel
theorem d6_42 : decode jdk_42_method_149_code 42 = .ok (.aload 5, 2) := by decide +kernel
theorem d6_44 : decode jdk_42_method_149_code 44 = .ok (.iload_n 3, 1) := by decide +kernel
theorem d6_45 : decode jdk_42_method_149_code 45 = .ok (.invokestatic 47, 3) := by decide +kernel
theorem pd_33 : parseMethodDescriptor "([BI)B" = some ⟨[(.array .byte), .int], some .byte⟩ := by decide +kernel
theorem d6_48 : decode jdk_42_method_149_code 48 = .ok (.putfield 15, 3) := by decide +kernel
theorem d6_51 : decode jdk_42_method_149_code 51 = .ok (.aload_n 0, 1) := by decide +kernel
theorem d6_52 : decode jdk_42_method_149_code 52 = .ok (.aload 5, 2) := by decide +kernel
theorem d6_54 : decode jdk_42_method_149_code 54 = .ok (.putfield 9, 3) := by decide +kernel
theorem d6_57 : decode jdk_42_method_149_code 57 = .ok (.return_, 1) := by decide +kernel
abbrev rm_con_strInit4 : Room := { frames := 2, cells := 1, slots := 4, locals := 35 }
set_option maxRecDepth 65536 in
set_option maxHeartbeats 40000000 in
theorem con_strInit4 (l : Launch) {Z : State} {a0 : Array Value} (hw : ∀ d ∈ tables_1, d.before a0 Z = true) {n0 : Nat} {h0 : Heap} {a b : Addr} {cs : List Int32} (E : Exa Z h0 a "java/lang/String") (FV : Fld Z h0 a "java/lang/String" "value" "[B" .null) (FC : Fld Z h0 a "java/lang/String" "coder" "B" (.int 0)) (A : IA Z h0 b .char cs) (hcap : cs.length ≤ 4) (hlat : ∀ c ∈ cs, 0 ≤ c.toInt ∧ c.toInt < 256) (hne : cs ≠ []) (HC : Cst Z) :
    Con l Z false false ELs n0 (⟨"java/lang/String", "<init>", "([CIILjava/lang/Void;)V"⟩ : MethodName) jdk_42_method_149_code 6 none rm_con_strInit4 [] #[(.ref a), (.ref b), (.int 0), (.int cs.length.toInt32), .null] h0 [a] (fun v h => v = none ∧ Lat Z h a cs) := by
  refine Con.intro (plainFor_of_name pn_java_lang_String) (hELs hw) ?_
  intro p e s m below meth c hh G
  refine castRun (g' := mkF m 0 #[.val (.ref a), .val (.ref b), .val (.int 0), .val (.int cs.length.toInt32), .val .null, .unset] []) (by first | rfl | (simp [entryFrame, mkF, argsToLocals, Value.category, maxLocals]; done)) ?_
  obtain ⟨cz, SC, hcz⟩ := HC
  have hl := A.len
  have hz : ¬ cs.length.toInt32 = 0 := fun q => hne (List.length_eq_zero_iff.mp ((toI_eq (k := 0) hl (by decide)).mp q))
  refine GoKit.aloadN G d6_0 rfl rfl (pc' := 1) rfl ?_
  refine GoKit.initObj G d6_1 (wi hw 38 rfl) (wi hw 21 rfl) (wi hw 22 rfl) rfl (by decide) (W := 0) (Nat.le_of_eq rfl) (by decide) (pc' := 4) rfl ?_
  refine GoKit.iloadN G d6_4 rfl (pc' := 5) rfl ?_
  refine GoKit.if_ne_t G d6_5 hz (by decide) (pc' := 27) rfl ?_
  refine GoKit.gets G d6_27 (wi hw 39 rfl) Via.refl SC (pc' := 30) rfl ?_
  refine GoKit.if_eq_f G d6_30 hcz (pc' := 33) rfl ?_
  refine GoKit.aloadN G d6_33 rfl rfl (pc' := 34) rfl ?_
  refine GoKit.iloadN G d6_34 rfl (pc' := 35) rfl ?_
  refine GoKit.iloadN G d6_35 rfl (pc' := 36) rfl ?_
  refine GoKit.callStatic G d6_36 (wi hw 40 rfl) (wi hw 41 rfl) (wi hw 42 rfl) (wi hw 43 rfl) (by decide) (owc := []) (W := 0) (argsL := [(.ref b), (.int 0), (.int cs.length.toInt32)]) (rest := []) (con_compress3 l hw A hcap hlat) rfl (lenOf pd_32 rfl) rfl (by decide) (Nat.le_of_eq rfl) (by decide) (by decide) (by decide) (fun _ q => nomatch q) (cells' := 1) (slots' := 4) rfl rfl (pc' := 39) rfl (fun r1 h4 q2 K3 => ?_)
  obtain ⟨d5, rfl, A6⟩ := q2
  have ne7 := IA.ne A6 (E.keep K3) (wi hw 29 rfl)
  show Run _ _ _ _ _ _ _ _ _ _ _ _ _ _ _ _ _ _ _ _ _ (mkF m 39 #[.val (.ref a), .val (.ref b), .val (.int 0), .val (.int cs.length.toInt32), .val .null, .unset] [(.ref d5)])
  refine GoKit.astore G d6_39 rfl (Ls' := #[.val (.ref a), .val (.ref b), .val (.int 0), .val (.int cs.length.toInt32), .val .null, .val (.ref d5)]) rfl (pc' := 41) rfl ?_
  refine GoKit.aloadN G d6_41 rfl rfl (pc' := 42) rfl ?_
  refine GoKit.aload G d6_42 rfl rfl (pc' := 44) rfl ?_
  refine GoKit.iloadN G d6_44 rfl (pc' := 45) rfl ?_
  refine GoKit.callStaticP G d6_45 (wi hw 48 rfl) (wi hw 49 rfl) (wi hw 42 rfl) (wi hw 50 rfl) (by decide) (W := 1) (argsL := [(.ref d5), (.int cs.length.toInt32)]) (rest := [(.ref a)]) ((by simpa using con_coderLen l hw A6)) rfl (lenOf pd_33 rfl) rfl (by decide) (Nat.le_of_eq rfl) (by decide) (by decide) (by decide) (cells' := 1) (slots' := 4) rfl rfl (pc' := 48) rfl ?_
  show Run _ _ _ _ _ _ _ _ _ _ _ _ _ _ _ _ _ _ _ _ _ (mkF m 48 #[.val (.ref a), .val (.ref b), .val (.int 0), .val (.int cs.length.toInt32), .val .null, .val (.ref d5)] [(.int 0), (.ref a)])
  refine GoKit.putf G d6_48 (wi hw 51 rfl) Via.refl (FC.keep K3 nin0) (E.keep K3) (Or.inr ⟨(wi hw 52 rfl), rfl, rfl⟩) (wi hw 29 rfl) (ty := .byte) (by decide) rfl rfl (List.Mem.head _) (pc' := 51) rfl (fun h9 W8 => ?_)
  have F10 := ((FC.keep K3 nin0)).same W8
  refine GoKit.aloadN G d6_51 rfl rfl (pc' := 52) rfl ?_
  refine GoKit.aload G d6_52 rfl rfl (pc' := 54) rfl ?_
  refine GoKit.putf G d6_54 (wi hw 53 rfl) Via.refl ((FV.keep K3 nin0).other W8 (Or.inr (slot_ne (Or.inr (wi hw 54 rfl)) (Or.inr (wi hw 52 rfl)) (by decide) (by decide : _ = some (.array .byte)) (by decide : _ = some .byte)))) ((E.keep K3).wr W8) (Or.inr ⟨(wi hw 54 rfl), rfl, rfl⟩) (wi hw 29 rfl) (ty := (.array .byte)) (by decide) rfl rfl (List.Mem.head _) (pc' := 57) rfl (fun h12 W11 => ?_)
  have F13 := (((FV.keep K3 nin0).other W8 (Or.inr (slot_ne (Or.inr (wi hw 54 rfl)) (Or.inr (wi hw 52 rfl)) (by decide) (by decide : _ = some (.array .byte)) (by decide : _ = some .byte))))).same W11
  refine GoKit.retVoid G d6_57 rfl (by decide) (by decide) ?_
  exact ⟨rfl, (((E.keep K3).wr W8).wr W11), ⟨d5, F13, (F10.other W11 (Or.inr (slot_ne (Or.inr (wi hw 52 rfl)) (Or.inr (wi hw 54 rfl)) (by decide) (by decide : _ = some .byte) (by decide : _ = some (.array .byte))))), ((A6.other W8 ne7).other W11 ne7)⟩, hlat⟩
theorem d5_0 : decode jdk_42_method_3_code 0 = .ok (.aload_n 0, 1) := by decide +kernel
theorem d5_1 : decode jdk_42_method_3_code 1 = .ok (.aload_n 1, 1) := by decide +kernel
theorem d5_2 : decode jdk_42_method_3_code 2 = .ok (.iconst 0, 1) := by decide +kernel
theorem d5_3 : decode jdk_42_method_3_code 3 = .ok (.aload_n 1, 1) := by decide +kernel
theorem d5_4 : decode jdk_42_method_3_code 4 = .ok (.arraylength, 1) := by decide +kernel
theorem d5_5 : decode jdk_42_method_3_code 5 = .ok (.aconst_null, 1) := by decide +kernel
theorem d5_6 : decode jdk_42_method_3_code 6 = .ok (.invokespecial 27, 3) := by decide +kernel
theorem pd_34 : parseMethodDescriptor "([CIILjava/lang/Void;)V" = some ⟨[(.array .char), .int, .int, (.object "java/lang/Void")], none⟩ := by decide +kernel
theorem d5_9 : decode jdk_42_method_3_code 9 = .ok (.return_, 1) := by decide +kernel
abbrev rm_con_strInit : Room := { frames := 3, cells := 1, slots := 4, locals := 52 }
set_option maxRecDepth 65536 in
set_option maxHeartbeats 40000000 in
theorem con_strInit (l : Launch) {Z : State} {a0 : Array Value} (hw : ∀ d ∈ tables_1, d.before a0 Z = true) {n0 : Nat} {h0 : Heap} {a b : Addr} {cs : List Int32} (E : Exa Z h0 a "java/lang/String") (FV : Fld Z h0 a "java/lang/String" "value" "[B" .null) (FC : Fld Z h0 a "java/lang/String" "coder" "B" (.int 0)) (A : IA Z h0 b .char cs) (hcap : cs.length ≤ 4) (hlat : ∀ c ∈ cs, 0 ≤ c.toInt ∧ c.toInt < 256) (hne : cs ≠ []) (HC : Cst Z) :
    Con l Z false false ELs n0 (⟨"java/lang/String", "<init>", "([C)V"⟩ : MethodName) jdk_42_method_3_code 2 none rm_con_strInit [] #[(.ref a), (.ref b)] h0 [a] (fun v h => v = none ∧ Lat Z h a cs) := by
  refine Con.intro (plainFor_of_name pn_java_lang_String) (hELs hw) ?_
  intro p e s m below meth c hh G
  refine castRun (g' := mkF m 0 #[.val (.ref a), .val (.ref b)] []) (by first | rfl | (simp [entryFrame, mkF, argsToLocals, Value.category, maxLocals]; done)) ?_
  refine GoKit.aloadN G d5_0 rfl rfl (pc' := 1) rfl ?_
  refine GoKit.aloadN G d5_1 rfl rfl (pc' := 2) rfl ?_
  refine GoKit.iconst G (0 : Int32) d5_2 rfl (pc' := 3) rfl ?_
  refine GoKit.aloadN G d5_3 rfl rfl (pc' := 4) rfl ?_
  refine GoKit.arrlenI G d5_4 A (z := cs.length.toInt32) rfl (pc' := 5) rfl ?_
  refine GoKit.aconstNull G d5_5 (pc' := 6) rfl ?_
  refine GoKit.callSpecial G d5_6 rfl (wi hw 34 rfl) (wi hw 35 rfl) (wi hw 30 rfl) (wi hw 37 rfl) (by decide) (owc := [a]) (W := 0) (argsL := [(.ref b), (.int (0 : Int32)), (.int cs.length.toInt32), .null]) (rest := []) (con_strInit4 l hw E FV FC A hcap hlat hne HC) rfl (lenOf pd_34 rfl) rfl (by decide) (Nat.le_of_eq rfl) (by decide) (by decide) (by decide) (List.forall_mem_cons.mpr ⟨(List.Mem.head _), (fun _ q => nomatch q)⟩) (cells' := 1) (slots' := 4) rfl rfl (pc' := 9) rfl (fun r1 h4 q2 K3 => ?_)
  obtain ⟨rfl, S5⟩ := q2
  show Run _ _ _ _ _ _ _ _ _ _ _ _ _ _ _ _ _ _ _ _ _ (mkF m 9 #[.val (.ref a), .val (.ref b)] [])
  refine GoKit.retVoid G d5_9 rfl (by decide) (by decide) ?_
  exact ⟨rfl, S5⟩
theorem cases3 {v : Int32} (h : 0 ≤ v.toInt ∧ v.toInt < 3) : v = 0 ∨ v = 1 ∨ v = 2 := by
  have h2 : v.toInt = 0 ∨ v.toInt = 1 ∨ v.toInt = 2 := by omega
  rcases h2 with h2 | h2 | h2
  · exact Or.inl (Int32.toInt_inj.mp h2)
  · exact Or.inr (Or.inl (Int32.toInt_inj.mp h2))
  · exact Or.inr (Or.inr (Int32.toInt_inj.mp h2))
theorem pd_35 : parseMethodDescriptor "()Lcom/example/waymark/waymark/StatCache;" = some ⟨[], some (.object "com/example/waymark/waymark/StatCache")⟩ := by decide +kernel
theorem pd_36 : parseMethodDescriptor "(Ljava/util/Collection;)V" = some ⟨[(.object "java/util/Collection")], none⟩ := by decide +kernel
theorem pd_37 : parseMethodDescriptor "([C)V" = some ⟨[(.array .char)], none⟩ := by decide +kernel
theorem pd_38 : parseMethodDescriptor "(Ljava/lang/Object;)Z" = some ⟨[(.object "java/lang/Object")], some .boolean⟩ := by decide +kernel
theorem pn_com_example_waymark_waymark_StatCacheEmptyPinLaw : plainName "com/example/waymark/waymark/StatCacheEmptyPinLaw" = true := by first | (simp [plainName, overriddenIn]; done) | decide +kernel
set_option maxRecDepth 65536 in
set_option maxHeartbeats 40000000 in
theorem con_law (l : Launch) {Z : State} {a0 : Array Value} (hw : ∀ d ∈ tables_1, d.before a0 Z = true) {n0 : Nat} {h0 : Heap} (p0 p1 p2 p3 : Int32) {d0 : Addr} {cl0 : Cell} (SD : Sta Z Z.heap "java/util/ArrayList" "DEFAULTCAPACITY_EMPTY_ELEMENTDATA" "[Ljava/lang/Object;" (.ref d0)) (A0 : Arr Z Z.heap d0 cl0 (.object "java/lang/Object")) (hz0 : cl0.slots.size = 0) {u8 : Addr} (SU : Sta Z Z.heap "sun/nio/cs/UTF_8" "INSTANCE" "Lsun/nio/cs/UTF_8;" (.ref u8)) (SV : Sta Z Z.heap "java/nio/charset/StandardCharsets" "UTF_8" "Ljava/nio/charset/Charset;" (.ref u8)) (HC : Cst Z) :
    Con l Z false false ELs n0 x code maxLocals ret room_1 tables_1 #[(.int p0), (.int p1), (.int p2), (.int p3)] h0 [] (fun v h => v = some (.int 1)) := by
  refine Con.intro (plainFor_of_name pn_com_example_waymark_waymark_StatCacheEmptyPinLaw) (hELs hw) ?_
  intro p e s m below meth c hh G
  refine castRun (g' := mkF m 0 #[.val (.int p0), .val (.int p1), .val (.int p2), .val (.int p3), .unset, .unset, .unset, .unset, .unset, .unset, .unset, .unset, .unset] []) (by first | rfl | (simp [entryFrame, mkF, argsToLocals, Value.category, maxLocals]; done)) ?_
  refine Run.n0le (fun hn0 => ?_)
  have J : ∀ (h : Heap) (j4 j5 j7 : Addr) (n6 : Int32), h0.size ≤ h.size → Run p l e room_1 s m #[.int p0, .int p1, .int p2, .int p3] below meth c Z false false ELs n0 [] (fun v h => v = some (.int 1)) h [] 8 40 (mkF m 120 #[.val (.int p0), .val (.int p1), .val (.int p2), .val (.int p3), .val (.ref j4), .val (.ref j5), .val (.int n6), .val (.ref j7), .unset, .unset, .unset, .unset, .unset] []) := by
    intro h j4 j5 j7 n6 hle
    refine GoKit.callStatic G at_120 (wi hw 86 rfl) (wi hw 87 rfl) (wi hw 88 rfl) (wi hw 89 rfl) (by decide) (owc := []) (W := 0) (argsL := []) (rest := []) (con_empty l hw) rfl (lenOf pd_35 rfl) rfl (by decide) (Nat.le_of_eq rfl) (by decide) (by decide) (by decide) (fun _ q => nomatch q) (cells' := 10) (slots' := 50) rfl rfl (pc' := 123) rfl (fun r1 h4 q2 K3 => ?_)
    obtain ⟨a5, q6, rfl, le7, le8, O9, M10⟩ := q2
    have le11 : h0.size ≤ a5 := Nat.le_trans (Nat.le_trans hle (Nat.le_refl _)) le7
    refine Run.claim rfl O9.1.lt (Nat.le_trans hn0 le11) (by rw [hh]; exact le11) ?_
    have le12 : h0.size ≤ q6 := Nat.le_trans (Nat.le_trans hle (Nat.le_refl _)) le8
    refine Run.claim rfl M10.1.lt (Nat.le_trans hn0 le12) (by rw [hh]; exact le12) ?_
    show Run _ _ _ _ _ _ _ _ _ _ _ _ _ _ _ _ _ _ _ _ _ (mkF m 123 #[.val (.int p0), .val (.int p1), .val (.int p2), .val (.int p3), .val (.ref j4), .val (.ref j5), .val (.int n6), .val (.ref j7), .unset, .unset, .unset, .unset, .unset] [(.ref a5)])
    refine GoKit.astore G at_123 rfl (Ls' := #[.val (.int p0), .val (.int p1), .val (.int p2), .val (.int p3), .val (.ref j4), .val (.ref j5), .val (.int n6), .val (.ref j7), .val (.ref a5), .unset, .unset, .unset, .unset]) rfl (pc' := 125) rfl ?_
    refine GoKit.aload G at_125 rfl rfl (pc' := 127) rfl ?_
    refine GoKit.callVirtualP G at_127 (wi hw 114 rfl) (wi hw 115 rfl) (wi hw 117 rfl) (wi hw 116 rfl) (wi hw 88 rfl) (wi hw 118 rfl) (by decide) O9.1 (W := 0) (argsL := []) (rest := []) (con_chg l hw ⟨O9.1, O9.2.1, O9.2.2⟩) rfl (lenOf pd_8 rfl) rfl (by decide) (Nat.le_of_eq rfl) (by decide) (by decide) (by decide) (cells' := 10) (slots' := 50) rfl rfl (pc' := 130) rfl ?_
    show Run _ _ _ _ _ _ _ _ _ _ _ _ _ _ _ _ _ _ _ _ _ (mkF m 130 #[.val (.int p0), .val (.int p1), .val (.int p2), .val (.int p3), .val (.ref j4), .val (.ref j5), .val (.int n6), .val (.ref j7), .val (.ref a5), .unset, .unset, .unset, .unset] [(.int (0 : Int32))])
    refine GoKit.if_ne_f G at_130 (by decide) (pc' := 133) rfl ?_
    refine GoKit.iconst G (1 : Int32) at_133 rfl (pc' := 134) rfl ?_
    refine GoKit.goto G at_134 (by decide) (pc' := 138) rfl ?_
    refine GoKit.istore G at_138 (Ls' := #[.val (.int p0), .val (.int p1), .val (.int p2), .val (.int p3), .val (.ref j4), .val (.ref j5), .val (.int n6), .val (.ref j7), .val (.ref a5), .val (.int (1 : Int32)), .unset, .unset, .unset]) rfl (pc' := 140) rfl ?_
    refine GoKit.aload G at_140 rfl rfl (pc' := 142) rfl ?_
    refine GoKit.callVirtual G at_142 (wi hw 121 rfl) (wi hw 122 rfl) (wi hw 124 rfl) (nface (wi hw 124 rfl)) (wi hw 123 rfl) (wi hw 88 rfl) (wi hw 125 rfl) (by decide) O9.1 (owc := [q6]) (W := 0) (argsL := []) (rest := []) (con_sencN l hw ⟨M10.1, M10.2.1, M10.2.2.1, M10.2.2.2.1, M10.2.2.2.2.1, M10.2.2.2.2.2⟩ SD SU SV ⟨O9.1, O9.2.1, O9.2.2⟩ HC) rfl (lenOf pd_18 rfl) rfl (by decide) (Nat.le_of_eq rfl) (by decide) (by decide) (by decide) (List.forall_mem_cons.mpr ⟨(List.Mem.head _), (fun _ q => nomatch q)⟩) (cells' := 22) (slots' := 101) rfl rfl (pc' := 145) rfl (fun r13 h16 q14 K15 => ?_)
    obtain ⟨x17, d18, rfl, A19, O20⟩ := q14
    show Run _ _ _ _ _ _ _ _ _ _ _ _ _ _ _ _ _ _ _ _ _ (mkF m 145 #[.val (.int p0), .val (.int p1), .val (.int p2), .val (.int p3), .val (.ref j4), .val (.ref j5), .val (.int n6), .val (.ref j7), .val (.ref a5), .val (.int (1 : Int32)), .unset, .unset, .unset] [(.ref x17)])
    refine GoKit.astore G at_145 rfl (Ls' := #[.val (.int p0), .val (.int p1), .val (.int p2), .val (.int p3), .val (.ref j4), .val (.ref j5), .val (.int n6), .val (.ref j7), .val (.ref a5), .val (.int (1 : Int32)), .val (.ref x17), .unset, .unset]) rfl (pc' := 147) rfl ?_
    refine GoKit.iload G at_147 rfl (pc' := 149) rfl ?_
    refine GoKit.if_eq_f G at_149 (by decide) (pc' := 152) rfl ?_
    refine GoKit.aload G at_152 rfl rfl (pc' := 154) rfl ?_
    refine GoKit.arrlenI G at_154 A19 (z := (0 : Int32)) rfl (pc' := 155) rfl ?_
    refine GoKit.if_ne_f G at_155 (by decide) (pc' := 158) rfl ?_
    refine GoKit.iconst G (1 : Int32) at_158 rfl (pc' := 159) rfl ?_
    refine GoKit.goto G at_159 (by decide) (pc' := 163) rfl ?_
    refine GoKit.istore G at_163 (Ls' := #[.val (.int p0), .val (.int p1), .val (.int p2), .val (.int p3), .val (.ref j4), .val (.ref j5), .val (.int n6), .val (.ref j7), .val (.ref a5), .val (.int (1 : Int32)), .val (.ref x17), .unset, .unset]) rfl (pc' := 165) rfl ?_
    refine GoKit.aload G at_165 rfl rfl (pc' := 167) rfl ?_
    refine GoKit.aload G at_167 rfl rfl (pc' := 169) rfl ?_
    refine GoKit.callVirtual G at_169 (wi hw 441 rfl) (wi hw 442 rfl) (wi hw 444 rfl) (nface (wi hw 444 rfl)) (wi hw 443 rfl) (wi hw 88 rfl) (wi hw 445 rfl) (by decide) (O9.1.keep K15) (owc := [a5, q6]) (W := 0) (argsL := [(.ref j7)]) (rest := []) (con_keep l hw ⟨(O9.1.keep K15), (O9.2.1.keep K15 (ninS (Exa.ne O9.1 M10.1 (by decide)) nin0)), (O9.2.2.keep K15 (ninS (Exa.ne O9.1 M10.1 (by decide)) nin0))⟩ ⟨O20.1.1, O20.1.2.1, O20.1.2.2.1, O20.1.2.2.2.1, O20.1.2.2.2.2.1, O20.1.2.2.2.2.2⟩) rfl (lenOf pd_36 rfl) rfl (by decide) (Nat.le_of_eq rfl) (by decide) (by decide) (by decide) (List.forall_mem_cons.mpr ⟨(List.Mem.tail _ (List.Mem.head _)), (List.forall_mem_cons.mpr ⟨(List.Mem.head _), (fun _ q => nomatch q)⟩)⟩) (cells' := 24) (slots' := 107) rfl rfl (pc' := 172) rfl (fun r21 h24 q22 K23 => ?_)
    obtain ⟨d25, rfl, O26, M27⟩ := q22
    show Run _ _ _ _ _ _ _ _ _ _ _ _ _ _ _ _ _ _ _ _ _ (mkF m 172 #[.val (.int p0), .val (.int p1), .val (.int p2), .val (.int p3), .val (.ref j4), .val (.ref j5), .val (.int n6), .val (.ref j7), .val (.ref a5), .val (.int (1 : Int32)), .val (.ref x17), .unset, .unset] [])
    refine GoKit.iload G at_172 rfl (pc' := 174) rfl ?_
    refine GoKit.if_eq_f G at_174 (by decide) (pc' := 177) rfl ?_
    refine GoKit.aload G at_177 rfl rfl (pc' := 179) rfl ?_
    refine GoKit.callVirtualP G at_179 (wi hw 114 rfl) (wi hw 115 rfl) (wi hw 117 rfl) (wi hw 116 rfl) (wi hw 88 rfl) (wi hw 118 rfl) (by decide) O26.1 (W := 0) (argsL := []) (rest := []) (con_chg l hw ⟨O26.1, O26.2.1, O26.2.2⟩) rfl (lenOf pd_8 rfl) rfl (by decide) (Nat.le_of_eq rfl) (by decide) (by decide) (by decide) (cells' := 24) (slots' := 107) rfl rfl (pc' := 182) rfl ?_
    show Run _ _ _ _ _ _ _ _ _ _ _ _ _ _ _ _ _ _ _ _ _ (mkF m 182 #[.val (.int p0), .val (.int p1), .val (.int p2), .val (.int p3), .val (.ref j4), .val (.ref j5), .val (.int n6), .val (.ref j7), .val (.ref a5), .val (.int (1 : Int32)), .val (.ref x17), .unset, .unset] [(.int (0 : Int32))])
    refine GoKit.if_ne_f G at_182 (by decide) (pc' := 185) rfl ?_
    refine GoKit.iconst G (1 : Int32) at_185 rfl (pc' := 186) rfl ?_
    refine GoKit.goto G at_186 (by decide) (pc' := 190) rfl ?_
    refine GoKit.istore G at_190 (Ls' := #[.val (.int p0), .val (.int p1), .val (.int p2), .val (.int p3), .val (.ref j4), .val (.ref j5), .val (.int n6), .val (.ref j7), .val (.ref a5), .val (.int (1 : Int32)), .val (.ref x17), .unset, .unset]) rfl (pc' := 192) rfl ?_
    refine GoKit.aload G at_192 rfl rfl (pc' := 194) rfl ?_
    refine GoKit.callVirtual G at_194 (wi hw 121 rfl) (wi hw 122 rfl) (wi hw 124 rfl) (nface (wi hw 124 rfl)) (wi hw 123 rfl) (wi hw 88 rfl) (wi hw 125 rfl) (by decide) O26.1 (owc := []) (W := 0) (argsL := []) (rest := []) (con_sencF l hw ⟨M27.1, M27.2.1, M27.2.2.1, M27.2.2.2.1, M27.2.2.2.2.1, M27.2.2.2.2.2⟩ ⟨(O20.2.1.keep K23), (O20.2.2.keep K23 (ninS (Exa.ne O20.2.1 (O9.1.keep K15) (by decide)) (ninS (Exa.ne O20.2.1 (M10.1.keep K15) (by decide)) nin0)))⟩ SD SU SV ⟨O26.1, O26.2.1, O26.2.2⟩ HC) rfl (lenOf pd_18 rfl) rfl (by decide) (Nat.le_of_eq rfl) (by decide) (by decide) (by decide) (fun _ q => nomatch q) (cells' := 35) (slots' := 157) rfl rfl (pc' := 197) rfl (fun r28 h31 q29 K30 => ?_)
    obtain ⟨x32, rfl, A33⟩ := q29
    show Run _ _ _ _ _ _ _ _ _ _ _ _ _ _ _ _ _ _ _ _ _ (mkF m 197 #[.val (.int p0), .val (.int p1), .val (.int p2), .val (.int p3), .val (.ref j4), .val (.ref j5), .val (.int n6), .val (.ref j7), .val (.ref a5), .val (.int (1 : Int32)), .val (.ref x17), .unset, .unset] [(.ref x32)])
    refine GoKit.astore G at_197 rfl (Ls' := #[.val (.int p0), .val (.int p1), .val (.int p2), .val (.int p3), .val (.ref j4), .val (.ref j5), .val (.int n6), .val (.ref j7), .val (.ref a5), .val (.int (1 : Int32)), .val (.ref x17), .val (.ref x32), .unset]) rfl (pc' := 199) rfl ?_
    refine GoKit.iload G at_199 rfl (pc' := 201) rfl ?_
    refine GoKit.if_eq_f G at_201 (by decide) (pc' := 204) rfl ?_
    refine GoKit.aload G at_204 rfl rfl (pc' := 206) rfl ?_
    refine GoKit.arrlenI G at_206 A33 (z := (0 : Int32)) rfl (pc' := 207) rfl ?_
    refine GoKit.if_ne_f G at_207 (by decide) (pc' := 210) rfl ?_
    refine GoKit.iconst G (1 : Int32) at_210 rfl (pc' := 211) rfl ?_
    refine GoKit.goto G at_211 (by decide) (pc' := 215) rfl ?_
    refine GoKit.istore G at_215 (Ls' := #[.val (.int p0), .val (.int p1), .val (.int p2), .val (.int p3), .val (.ref j4), .val (.ref j5), .val (.int n6), .val (.ref j7), .val (.ref a5), .val (.int (1 : Int32)), .val (.ref x17), .val (.ref x32), .unset]) rfl (pc' := 217) rfl ?_
    refine GoKit.callStatic G at_217 (wi hw 86 rfl) (wi hw 87 rfl) (wi hw 88 rfl) (wi hw 89 rfl) (by decide) (owc := []) (W := 0) (argsL := []) (rest := []) (con_empty l hw) rfl (lenOf pd_35 rfl) rfl (by decide) (Nat.le_of_eq rfl) (by decide) (by decide) (by decide) (fun _ q => nomatch q) (cells' := 37) (slots' := 167) rfl rfl (pc' := 220) rfl (fun r34 h37 q35 K36 => ?_)
    obtain ⟨a38, q39, rfl, le40, le41, O42, M43⟩ := q35
    have le44 : h0.size ≤ a38 := Nat.le_trans (Nat.le_trans hle (Nat.le_trans (Nat.le_trans (Nat.le_trans K3.1 K15.1) K23.1) K30.1)) le40
    refine Run.claim rfl O42.1.lt (Nat.le_trans hn0 le44) (by rw [hh]; exact le44) ?_
    have le45 : h0.size ≤ q39 := Nat.le_trans (Nat.le_trans hle (Nat.le_trans (Nat.le_trans (Nat.le_trans K3.1 K15.1) K23.1) K30.1)) le41
    refine Run.claim rfl M43.1.lt (Nat.le_trans hn0 le45) (by rw [hh]; exact le45) ?_
    show Run _ _ _ _ _ _ _ _ _ _ _ _ _ _ _ _ _ _ _ _ _ (mkF m 220 #[.val (.int p0), .val (.int p1), .val (.int p2), .val (.int p3), .val (.ref j4), .val (.ref j5), .val (.int n6), .val (.ref j7), .val (.ref a5), .val (.int (1 : Int32)), .val (.ref x17), .val (.ref x32), .unset] [(.ref a38)])
    refine GoKit.astore G at_220 rfl (Ls' := #[.val (.int p0), .val (.int p1), .val (.int p2), .val (.int p3), .val (.ref j4), .val (.ref j5), .val (.int n6), .val (.ref j7), .val (.ref a5), .val (.int (1 : Int32)), .val (.ref x17), .val (.ref x32), .val (.ref a38)]) rfl (pc' := 222) rfl ?_
    refine GoKit.iload G at_222 rfl (pc' := 224) rfl ?_
    refine GoKit.if_eq_f G at_224 (by decide) (pc' := 227) rfl ?_
    refine GoKit.aload G at_227 rfl rfl (pc' := 229) rfl ?_
    refine GoKit.aload G at_229 rfl rfl (pc' := 231) rfl ?_
    refine GoKit.acmp_eq_f G at_231 rfl rfl (fun q => (Ne.symm (Nat.ne_of_lt (Nat.lt_of_lt_of_le ((O26.2.2.keep K30 nin0)).lt le40))) (Value.ref.inj q)) (pc' := 234) rfl ?_
    refine GoKit.aload G at_234 rfl rfl (pc' := 236) rfl ?_
    refine GoKit.callVirtualP G at_236 (wi hw 114 rfl) (wi hw 115 rfl) (wi hw 117 rfl) (wi hw 116 rfl) (wi hw 88 rfl) (wi hw 118 rfl) (by decide) O42.1 (W := 0) (argsL := []) (rest := []) (con_chg l hw ⟨O42.1, O42.2.1, O42.2.2⟩) rfl (lenOf pd_8 rfl) rfl (by decide) (Nat.le_of_eq rfl) (by decide) (by decide) (by decide) (cells' := 37) (slots' := 167) rfl rfl (pc' := 239) rfl ?_
    show Run _ _ _ _ _ _ _ _ _ _ _ _ _ _ _ _ _ _ _ _ _ (mkF m 239 #[.val (.int p0), .val (.int p1), .val (.int p2), .val (.int p3), .val (.ref j4), .val (.ref j5), .val (.int n6), .val (.ref j7), .val (.ref a5), .val (.int (1 : Int32)), .val (.ref x17), .val (.ref x32), .val (.ref a38)] [(.int (0 : Int32))])
    refine GoKit.if_ne_f G at_239 (by decide) (pc' := 242) rfl ?_
    refine GoKit.iconst G (1 : Int32) at_242 rfl (pc' := 243) rfl ?_
    refine GoKit.goto G at_243 (by decide) (pc' := 247) rfl ?_
    refine GoKit.istore G at_247 (Ls' := #[.val (.int p0), .val (.int p1), .val (.int p2), .val (.int p3), .val (.ref j4), .val (.ref j5), .val (.int n6), .val (.ref j7), .val (.ref a5), .val (.int (1 : Int32)), .val (.ref x17), .val (.ref x32), .val (.ref a38)]) rfl (pc' := 249) rfl ?_
    refine GoKit.iload G at_249 rfl (pc' := 251) rfl ?_
    refine GoKit.retNar G at_251 (t := .boolean) rfl (by simp) (by decide) (by decide) ?_
    exact rfl
  refine GoKit.iconst G (2 : Int32) at_0 rfl (pc' := 1) rfl ?_
  refine GoKit.newcI G at_1 (wi hw 0 rfl) (by decide) (k := 2) (cap := 2) rfl (Nat.le_refl _) (by decide) (by decide) (by decide) (cells' := 1) (slots' := 2) rfl rfl (pc' := 3) rfl (fun h49 a46 ga46 E47 A48 => ?_)
  refine GoKit.dup G at_3 rfl (pc' := 4) rfl ?_
  refine GoKit.iconst G (0 : Int32) at_4 rfl (pc' := 5) rfl ?_
  refine GoKit.iloadN G at_5 rfl (pc' := 6) rfl ?_
  refine GoKit.sipush G (255 : Int32) at_6 rfl (pc' := 9) rfl ?_
  refine GoKit.iand G at_9 (pc' := 10) rfl (fun v50 hqv50 => ?_)
  refine GoKit.i2c G at_10 (pc' := 11) rfl (fun v51 hqv51 => ?_)
  have l52 := ch8 _ _ _ hqv50 hqv51
  have c53 : nar .char v51 = v51 := by rw [hqv51]; exact nar_i2c _
  refine GoKit.castI G at_11 A48 (i := 0) rfl (by decide) (Nat.le_of_ble_eq_true rfl) c53 (List.Mem.head _) (pc' := 12) rfl (fun h56 W54 A55 => ?_)
  change IA Z h56 a46 .char [v51, 0] at A55
  refine GoKit.dup G at_12 rfl (pc' := 13) rfl ?_
  refine GoKit.iconst G (1 : Int32) at_13 rfl (pc' := 14) rfl ?_
  refine GoKit.iloadN G at_14 rfl (pc' := 15) rfl ?_
  refine GoKit.bipush G (8 : Int32) at_15 rfl (pc' := 17) rfl ?_
  refine GoKit.iushr G at_17 (pc' := 18) rfl (fun v57 hqv57 => ?_)
  refine GoKit.sipush G (255 : Int32) at_18 rfl (pc' := 21) rfl ?_
  refine GoKit.iand G at_21 (pc' := 22) rfl (fun v58 hqv58 => ?_)
  refine GoKit.i2c G at_22 (pc' := 23) rfl (fun v59 hqv59 => ?_)
  have l60 := ch8 _ _ _ hqv58 hqv59
  have c61 : nar .char v59 = v59 := by rw [hqv59]; exact nar_i2c _
  refine GoKit.castI G at_23 A55 (i := 1) rfl (by decide) (Nat.le_of_ble_eq_true rfl) c61 (List.Mem.head _) (pc' := 24) rfl (fun h64 W62 A63 => ?_)
  change IA Z h64 a46 .char [v51, v59] at A63
  refine GoKit.astore G at_24 rfl (Ls' := #[.val (.int p0), .val (.int p1), .val (.int p2), .val (.int p3), .val (.ref a46), .unset, .unset, .unset, .unset, .unset, .unset, .unset, .unset]) rfl (pc' := 26) rfl ?_
  refine GoKit.iconst G (3 : Int32) at_26 rfl (pc' := 27) rfl ?_
  refine GoKit.newcI G at_27 (wi hw 0 rfl) (by decide) (k := 3) (cap := 3) rfl (Nat.le_refl _) (by decide) (by decide) (by decide) (cells' := 2) (slots' := 5) rfl rfl (pc' := 29) rfl (fun h68 a65 ga65 E66 A67 => ?_)
  refine GoKit.dup G at_29 rfl (pc' := 30) rfl ?_
  refine GoKit.iconst G (0 : Int32) at_30 rfl (pc' := 31) rfl ?_
  refine GoKit.iloadN G at_31 rfl (pc' := 32) rfl ?_
  refine GoKit.sipush G (255 : Int32) at_32 rfl (pc' := 35) rfl ?_
  refine GoKit.iand G at_35 (pc' := 36) rfl (fun v69 hqv69 => ?_)
  refine GoKit.i2c G at_36 (pc' := 37) rfl (fun v70 hqv70 => ?_)
  have l71 := ch8 _ _ _ hqv69 hqv70
  have c72 : nar .char v70 = v70 := by rw [hqv70]; exact nar_i2c _
  refine GoKit.castI G at_37 A67 (i := 0) rfl (by decide) (Nat.le_of_ble_eq_true rfl) c72 (List.Mem.head _) (pc' := 38) rfl (fun h75 W73 A74 => ?_)
  change IA Z h75 a65 .char [v70, 0, 0] at A74
  refine GoKit.dup G at_38 rfl (pc' := 39) rfl ?_
  refine GoKit.iconst G (1 : Int32) at_39 rfl (pc' := 40) rfl ?_
  refine GoKit.iloadN G at_40 rfl (pc' := 41) rfl ?_
  refine GoKit.bipush G (8 : Int32) at_41 rfl (pc' := 43) rfl ?_
  refine GoKit.iushr G at_43 (pc' := 44) rfl (fun v76 hqv76 => ?_)
  refine GoKit.sipush G (255 : Int32) at_44 rfl (pc' := 47) rfl ?_
  refine GoKit.iand G at_47 (pc' := 48) rfl (fun v77 hqv77 => ?_)
  refine GoKit.i2c G at_48 (pc' := 49) rfl (fun v78 hqv78 => ?_)
  have l79 := ch8 _ _ _ hqv77 hqv78
  have c80 : nar .char v78 = v78 := by rw [hqv78]; exact nar_i2c _
  refine GoKit.castI G at_49 A74 (i := 1) rfl (by decide) (Nat.le_of_ble_eq_true rfl) c80 (List.Mem.head _) (pc' := 50) rfl (fun h83 W81 A82 => ?_)
  change IA Z h83 a65 .char [v70, v78, 0] at A82
  refine GoKit.dup G at_50 rfl (pc' := 51) rfl ?_
  refine GoKit.iconst G (2 : Int32) at_51 rfl (pc' := 52) rfl ?_
  refine GoKit.iloadN G at_52 rfl (pc' := 53) rfl ?_
  refine GoKit.sipush G (255 : Int32) at_53 rfl (pc' := 56) rfl ?_
  refine GoKit.iand G at_56 (pc' := 57) rfl (fun v84 hqv84 => ?_)
  refine GoKit.i2c G at_57 (pc' := 58) rfl (fun v85 hqv85 => ?_)
  have l86 := ch8 _ _ _ hqv84 hqv85
  have c87 : nar .char v85 = v85 := by rw [hqv85]; exact nar_i2c _
  refine GoKit.castI G at_58 A82 (i := 2) rfl (by decide) (Nat.le_of_ble_eq_true rfl) c87 (List.Mem.head _) (pc' := 59) rfl (fun h90 W88 A89 => ?_)
  change IA Z h90 a65 .char [v70, v78, v85] at A89
  refine GoKit.astore G at_59 rfl (Ls' := #[.val (.int p0), .val (.int p1), .val (.int p2), .val (.int p3), .val (.ref a46), .val (.ref a65), .unset, .unset, .unset, .unset, .unset, .unset, .unset]) rfl (pc' := 61) rfl ?_
  refine GoKit.iloadN G at_61 rfl (pc' := 62) rfl ?_
  refine GoKit.ldcInt G at_62 (wi hw 1 rfl) (pc' := 64) rfl ?_
  refine GoKit.iand G at_64 (pc' := 65) rfl (fun v91 hqv91 => ?_)
  refine GoKit.iconst G (3 : Int32) at_65 rfl (pc' := 66) rfl ?_
  refine GoKit.irem G at_66 (by decide) (pc' := 67) rfl (fun v92 hqv92 => ?_)
  rcases cases3 (v := v92) (and31_rem hqv91 hqv92 (by decide)) with rfl | rfl | rfl
  · refine GoKit.istore G at_67 (Ls' := #[.val (.int p0), .val (.int p1), .val (.int p2), .val (.int p3), .val (.ref a46), .val (.ref a65), .val (.int (0 : Int32)), .unset, .unset, .unset, .unset, .unset, .unset]) rfl (pc' := 69) rfl ?_
    refine GoKit.newobj G at_69 (wi hw 2 rfl) (wi hw 3 rfl) (wi hw 4 rfl) (by decide) (by decide) (cells' := 3) (slots' := 8) rfl rfl (pc' := 72) rfl (fun h97 a93 ga93 E94 X95 D96 => ?_)
    have F98 : Fld Z h97 a93 "java/util/AbstractList" "modCount" "I" (.int 0) := D96 (Or.inl (wi hw 24 rfl)) (ty := .int) (by decide)
    have F99 : Fld Z h97 a93 "java/util/ArrayList" "elementData" "[Ljava/lang/Object;" .null := D96 (Or.inl (wi hw 27 rfl)) (ty := (.array (.object "java/lang/Object"))) (by decide)
    have F100 : Fld Z h97 a93 "java/util/ArrayList" "size" "I" (.int 0) := D96 (Or.inl (wi hw 63 rfl)) (ty := .int) (by decide)
    refine GoKit.dup G at_72 rfl (pc' := 73) rfl ?_
    refine GoKit.callSpecial G at_73 rfl (wi hw 5 rfl) (wi hw 6 rfl) (wi hw 4 rfl) (wi hw 7 rfl) (by decide) (owc := [a93]) (W := 1) (argsL := []) (rest := [(.ref a93)]) (con_alinit l hw SD ⟨X95, F98, F99, F100⟩) rfl (lenOf pd_0 rfl) rfl (by decide) (Nat.le_of_eq rfl) (by decide) (by decide) (by decide) (List.forall_mem_cons.mpr ⟨(List.Mem.head _), (fun _ q => nomatch q)⟩) (cells' := 3) (slots' := 8) rfl rfl (pc' := 76) rfl (fun r101 h104 q102 K103 => ?_)
    obtain ⟨rfl, O105⟩ := q102
    show Run _ _ _ _ _ _ _ _ _ _ _ _ _ _ _ _ _ _ _ _ _ (mkF m 76 #[.val (.int p0), .val (.int p1), .val (.int p2), .val (.int p3), .val (.ref a46), .val (.ref a65), .val (.int (0 : Int32)), .unset, .unset, .unset, .unset, .unset, .unset] [(.ref a93)])
    refine GoKit.astore G at_76 rfl (Ls' := #[.val (.int p0), .val (.int p1), .val (.int p2), .val (.int p3), .val (.ref a46), .val (.ref a65), .val (.int (0 : Int32)), .val (.ref a93), .unset, .unset, .unset, .unset, .unset]) rfl (pc' := 78) rfl ?_
    refine GoKit.iload G at_78 rfl (pc' := 80) rfl ?_
    refine GoKit.iconst G (1 : Int32) at_80 rfl (pc' := 81) rfl ?_
    refine GoKit.icmp_lt_t G at_81 (by decide) (by decide) (pc' := 99) rfl ?_
    refine GoKit.iload G at_99 rfl (pc' := 101) rfl ?_
    refine GoKit.iconst G (2 : Int32) at_101 rfl (pc' := 102) rfl ?_
    refine GoKit.icmp_lt_t G at_102 (by decide) (by decide) (pc' := 120) rfl ?_
    refine Run.mono (cells' := 8) (slots' := 40) (by decide) (by decide) ?_
    refine Run.owless (ow' := []) (fun _ q => nomatch q) ?_
    exact J _ _ _ _ _ (Nat.le_trans (Nat.le_trans (Nat.le_trans (Nat.le_trans (Nat.le_trans (Nat.le_trans (Nat.le_trans (Nat.le_trans E47.1 (wr_size W54)) (wr_size W62)) E66.1) (wr_size W73)) (wr_size W81)) (wr_size W88)) E94.1) K103.1)
  · refine GoKit.istore G at_67 (Ls' := #[.val (.int p0), .val (.int p1), .val (.int p2), .val (.int p3), .val (.ref a46), .val (.ref a65), .val (.int (1 : Int32)), .unset, .unset, .unset, .unset, .unset, .unset]) rfl (pc' := 69) rfl ?_
    refine GoKit.newobj G at_69 (wi hw 2 rfl) (wi hw 3 rfl) (wi hw 4 rfl) (by decide) (by decide) (cells' := 3) (slots' := 8) rfl rfl (pc' := 72) rfl (fun h110 a106 ga106 E107 X108 D109 => ?_)
    have F111 : Fld Z h110 a106 "java/util/AbstractList" "modCount" "I" (.int 0) := D109 (Or.inl (wi hw 24 rfl)) (ty := .int) (by decide)
    have F112 : Fld Z h110 a106 "java/util/ArrayList" "elementData" "[Ljava/lang/Object;" .null := D109 (Or.inl (wi hw 27 rfl)) (ty := (.array (.object "java/lang/Object"))) (by decide)
    have F113 : Fld Z h110 a106 "java/util/ArrayList" "size" "I" (.int 0) := D109 (Or.inl (wi hw 63 rfl)) (ty := .int) (by decide)
    refine GoKit.dup G at_72 rfl (pc' := 73) rfl ?_
    refine GoKit.callSpecial G at_73 rfl (wi hw 5 rfl) (wi hw 6 rfl) (wi hw 4 rfl) (wi hw 7 rfl) (by decide) (owc := [a106]) (W := 1) (argsL := []) (rest := [(.ref a106)]) (con_alinit l hw SD ⟨X108, F111, F112, F113⟩) rfl (lenOf pd_0 rfl) rfl (by decide) (Nat.le_of_eq rfl) (by decide) (by decide) (by decide) (List.forall_mem_cons.mpr ⟨(List.Mem.head _), (fun _ q => nomatch q)⟩) (cells' := 3) (slots' := 8) rfl rfl (pc' := 76) rfl (fun r114 h117 q115 K116 => ?_)
    obtain ⟨rfl, O118⟩ := q115
    show Run _ _ _ _ _ _ _ _ _ _ _ _ _ _ _ _ _ _ _ _ _ (mkF m 76 #[.val (.int p0), .val (.int p1), .val (.int p2), .val (.int p3), .val (.ref a46), .val (.ref a65), .val (.int (1 : Int32)), .unset, .unset, .unset, .unset, .unset, .unset] [(.ref a106)])
    refine GoKit.astore G at_76 rfl (Ls' := #[.val (.int p0), .val (.int p1), .val (.int p2), .val (.int p3), .val (.ref a46), .val (.ref a65), .val (.int (1 : Int32)), .val (.ref a106), .unset, .unset, .unset, .unset, .unset]) rfl (pc' := 78) rfl ?_
    refine GoKit.iload G at_78 rfl (pc' := 80) rfl ?_
    refine GoKit.iconst G (1 : Int32) at_80 rfl (pc' := 81) rfl ?_
    refine GoKit.icmp_lt_f G at_81 (by decide) (pc' := 84) rfl ?_
    refine GoKit.aload G at_84 rfl rfl (pc' := 86) rfl ?_
    refine GoKit.newobj G at_86 (wi hw 28 rfl) (wi hw 29 rfl) (wi hw 30 rfl) (by decide) (by decide) (cells' := 4) (slots' := 12) rfl rfl (pc' := 89) rfl (fun h123 a119 ga119 E120 X121 D122 => ?_)
    have F124 : Fld Z h123 a119 "java/lang/String" "coder" "B" (.int 0) := D122 (Or.inr (wi hw 52 rfl)) (ty := .byte) (by decide)
    have F125 : Fld Z h123 a119 "java/lang/String" "value" "[B" .null := D122 (Or.inr (wi hw 54 rfl)) (ty := (.array .byte)) (by decide)
    refine GoKit.dup G at_89 rfl (pc' := 90) rfl ?_
    refine GoKit.aload G at_90 rfl rfl (pc' := 92) rfl ?_
    have hl126 : ∀ c ∈ ([v51, v59] : List Int32), 0 ≤ c.toInt ∧ c.toInt < 256 := by
      intro c hc
      simp only [List.mem_cons, List.not_mem_nil, or_false] at hc
      rcases hc with hc | hc
      · rw [hc]; exact l52
      · rw [hc]; exact l60
    refine GoKit.callSpecial G at_92 rfl (wi hw 31 rfl) (wi hw 32 rfl) (wi hw 30 rfl) (wi hw 33 rfl) (by decide) (owc := [a119]) (W := 2) (argsL := [(.ref a46)]) (rest := [(.ref a119), (.ref a106)]) (con_strInit l hw X121 F125 F124 (((((((A63.ext E66).other W73 (Nat.ne_of_lt (Nat.lt_of_lt_of_le (A63).lt (Nat.le_of_eq ga65.symm)))).other W81 (Nat.ne_of_lt (Nat.lt_of_lt_of_le (A63).lt (Nat.le_of_eq ga65.symm)))).other W88 (Nat.ne_of_lt (Nat.lt_of_lt_of_le (A63).lt (Nat.le_of_eq ga65.symm)))).ext E107).keep K116 (ninS (Nat.ne_of_lt (Nat.lt_of_lt_of_le (((((A63.ext E66).other W73 (Nat.ne_of_lt (Nat.lt_of_lt_of_le (A63).lt (Nat.le_of_eq ga65.symm)))).other W81 (Nat.ne_of_lt (Nat.lt_of_lt_of_le (A63).lt (Nat.le_of_eq ga65.symm)))).other W88 (Nat.ne_of_lt (Nat.lt_of_lt_of_le (A63).lt (Nat.le_of_eq ga65.symm))))).lt (Nat.le_of_eq ga106.symm))) nin0)).ext E120) (Nat.le_of_ble_eq_true rfl) hl126 (by simp) HC) rfl (lenOf pd_37 rfl) rfl (by decide) (Nat.le_of_eq rfl) (by decide) (by decide) (by decide) (List.forall_mem_cons.mpr ⟨(List.Mem.head _), (fun _ q => nomatch q)⟩) (cells' := 5) (slots' := 16) rfl rfl (pc' := 95) rfl (fun r127 h130 q128 K129 => ?_)
    obtain ⟨rfl, S131⟩ := q128
    show Run _ _ _ _ _ _ _ _ _ _ _ _ _ _ _ _ _ _ _ _ _ (mkF m 95 #[.val (.int p0), .val (.int p1), .val (.int p2), .val (.int p3), .val (.ref a46), .val (.ref a65), .val (.int (1 : Int32)), .val (.ref a106), .unset, .unset, .unset, .unset, .unset] [(.ref a119), (.ref a106)])
    refine GoKit.callVirtual G at_95 (wi hw 55 rfl) (wi hw 56 rfl) (wi hw 58 rfl) (nface (wi hw 58 rfl)) (wi hw 57 rfl) (wi hw 4 rfl) (wi hw 59 rfl) (by decide) ((O118.1.ext E120).keep K129) (owc := [a106]) (W := 0) (argsL := [(.ref a119)]) (rest := []) (con_add l hw SD A0 hz0 ⟨((O118.1.ext E120).keep K129), ((O118.2.1.ext E120).keep K129 (ninS (Nat.ne_of_lt (Nat.lt_of_lt_of_le (O118.2.2.2).lt (Nat.le_of_eq ga119.symm))) nin0)), ((O118.2.2.1.ext E120).keep K129 (ninS (Nat.ne_of_lt (Nat.lt_of_lt_of_le (O118.2.2.2).lt (Nat.le_of_eq ga119.symm))) nin0)), ((O118.2.2.2.ext E120).keep K129 (ninS (Nat.ne_of_lt (Nat.lt_of_lt_of_le (O118.2.2.2).lt (Nat.le_of_eq ga119.symm))) nin0))⟩ (X121.keep K129)) rfl (lenOf pd_38 rfl) rfl (by decide) (Nat.le_of_eq rfl) (by decide) (by decide) (by decide) (List.forall_mem_cons.mpr ⟨(List.Mem.tail _ (List.Mem.head _)), (fun _ q => nomatch q)⟩) (cells' := 6) (slots' := 26) rfl rfl (pc' := 98) rfl (fun r132 h135 q133 K134 => ?_)
    obtain ⟨d136, rfl, le137, A138, O139⟩ := q133
    have le140 : h0.size ≤ d136 := Nat.le_trans (Nat.le_trans (Nat.le_trans (Nat.le_trans (Nat.le_trans (Nat.le_trans (Nat.le_trans (Nat.le_trans (Nat.le_trans (Nat.le_trans (Nat.le_trans E47.1 (wr_size W54)) (wr_size W62)) E66.1) (wr_size W73)) (wr_size W81)) (wr_size W88)) E107.1) K116.1) E120.1) K129.1) le137
    refine Run.claim rfl A138.lt (Nat.le_trans hn0 le140) (by rw [hh]; exact le140) ?_
    show Run _ _ _ _ _ _ _ _ _ _ _ _ _ _ _ _ _ _ _ _ _ (mkF m 98 #[.val (.int p0), .val (.int p1), .val (.int p2), .val (.int p3), .val (.ref a46), .val (.ref a65), .val (.int (1 : Int32)), .val (.ref a106), .unset, .unset, .unset, .unset, .unset] [(.int (1 : Int32))])
    refine GoKit.pop G at_98 rfl (pc' := 99) rfl ?_
    refine GoKit.iload G at_99 rfl (pc' := 101) rfl ?_
    refine GoKit.iconst G (2 : Int32) at_101 rfl (pc' := 102) rfl ?_
    refine GoKit.icmp_lt_t G at_102 (by decide) (by decide) (pc' := 120) rfl ?_
    refine Run.mono (cells' := 8) (slots' := 40) (by decide) (by decide) ?_
    refine Run.owless (ow' := []) (fun _ q => nomatch q) ?_
    exact J _ _ _ _ _ (Nat.le_trans (Nat.le_trans (Nat.le_trans (Nat.le_trans (Nat.le_trans (Nat.le_trans (Nat.le_trans (Nat.le_trans (Nat.le_trans (Nat.le_trans (Nat.le_trans E47.1 (wr_size W54)) (wr_size W62)) E66.1) (wr_size W73)) (wr_size W81)) (wr_size W88)) E107.1) K116.1) E120.1) K129.1) K134.1)
  · refine GoKit.istore G at_67 (Ls' := #[.val (.int p0), .val (.int p1), .val (.int p2), .val (.int p3), .val (.ref a46), .val (.ref a65), .val (.int (2 : Int32)), .unset, .unset, .unset, .unset, .unset, .unset]) rfl (pc' := 69) rfl ?_
    refine GoKit.newobj G at_69 (wi hw 2 rfl) (wi hw 3 rfl) (wi hw 4 rfl) (by decide) (by decide) (cells' := 3) (slots' := 8) rfl rfl (pc' := 72) rfl (fun h145 a141 ga141 E142 X143 D144 => ?_)
    have F146 : Fld Z h145 a141 "java/util/AbstractList" "modCount" "I" (.int 0) := D144 (Or.inl (wi hw 24 rfl)) (ty := .int) (by decide)
    have F147 : Fld Z h145 a141 "java/util/ArrayList" "elementData" "[Ljava/lang/Object;" .null := D144 (Or.inl (wi hw 27 rfl)) (ty := (.array (.object "java/lang/Object"))) (by decide)
    have F148 : Fld Z h145 a141 "java/util/ArrayList" "size" "I" (.int 0) := D144 (Or.inl (wi hw 63 rfl)) (ty := .int) (by decide)
    refine GoKit.dup G at_72 rfl (pc' := 73) rfl ?_
    refine GoKit.callSpecial G at_73 rfl (wi hw 5 rfl) (wi hw 6 rfl) (wi hw 4 rfl) (wi hw 7 rfl) (by decide) (owc := [a141]) (W := 1) (argsL := []) (rest := [(.ref a141)]) (con_alinit l hw SD ⟨X143, F146, F147, F148⟩) rfl (lenOf pd_0 rfl) rfl (by decide) (Nat.le_of_eq rfl) (by decide) (by decide) (by decide) (List.forall_mem_cons.mpr ⟨(List.Mem.head _), (fun _ q => nomatch q)⟩) (cells' := 3) (slots' := 8) rfl rfl (pc' := 76) rfl (fun r149 h152 q150 K151 => ?_)
    obtain ⟨rfl, O153⟩ := q150
    show Run _ _ _ _ _ _ _ _ _ _ _ _ _ _ _ _ _ _ _ _ _ (mkF m 76 #[.val (.int p0), .val (.int p1), .val (.int p2), .val (.int p3), .val (.ref a46), .val (.ref a65), .val (.int (2 : Int32)), .unset, .unset, .unset, .unset, .unset, .unset] [(.ref a141)])
    refine GoKit.astore G at_76 rfl (Ls' := #[.val (.int p0), .val (.int p1), .val (.int p2), .val (.int p3), .val (.ref a46), .val (.ref a65), .val (.int (2 : Int32)), .val (.ref a141), .unset, .unset, .unset, .unset, .unset]) rfl (pc' := 78) rfl ?_
    refine GoKit.iload G at_78 rfl (pc' := 80) rfl ?_
    refine GoKit.iconst G (1 : Int32) at_80 rfl (pc' := 81) rfl ?_
    refine GoKit.icmp_lt_f G at_81 (by decide) (pc' := 84) rfl ?_
    refine GoKit.aload G at_84 rfl rfl (pc' := 86) rfl ?_
    refine GoKit.newobj G at_86 (wi hw 28 rfl) (wi hw 29 rfl) (wi hw 30 rfl) (by decide) (by decide) (cells' := 4) (slots' := 12) rfl rfl (pc' := 89) rfl (fun h158 a154 ga154 E155 X156 D157 => ?_)
    have F159 : Fld Z h158 a154 "java/lang/String" "coder" "B" (.int 0) := D157 (Or.inr (wi hw 52 rfl)) (ty := .byte) (by decide)
    have F160 : Fld Z h158 a154 "java/lang/String" "value" "[B" .null := D157 (Or.inr (wi hw 54 rfl)) (ty := (.array .byte)) (by decide)
    refine GoKit.dup G at_89 rfl (pc' := 90) rfl ?_
    refine GoKit.aload G at_90 rfl rfl (pc' := 92) rfl ?_
    have hl161 : ∀ c ∈ ([v51, v59] : List Int32), 0 ≤ c.toInt ∧ c.toInt < 256 := by
      intro c hc
      simp only [List.mem_cons, List.not_mem_nil, or_false] at hc
      rcases hc with hc | hc
      · rw [hc]; exact l52
      · rw [hc]; exact l60
    refine GoKit.callSpecial G at_92 rfl (wi hw 31 rfl) (wi hw 32 rfl) (wi hw 30 rfl) (wi hw 33 rfl) (by decide) (owc := [a154]) (W := 2) (argsL := [(.ref a46)]) (rest := [(.ref a154), (.ref a141)]) (con_strInit l hw X156 F160 F159 (((((((A63.ext E66).other W73 (Nat.ne_of_lt (Nat.lt_of_lt_of_le (A63).lt (Nat.le_of_eq ga65.symm)))).other W81 (Nat.ne_of_lt (Nat.lt_of_lt_of_le (A63).lt (Nat.le_of_eq ga65.symm)))).other W88 (Nat.ne_of_lt (Nat.lt_of_lt_of_le (A63).lt (Nat.le_of_eq ga65.symm)))).ext E142).keep K151 (ninS (Nat.ne_of_lt (Nat.lt_of_lt_of_le (((((A63.ext E66).other W73 (Nat.ne_of_lt (Nat.lt_of_lt_of_le (A63).lt (Nat.le_of_eq ga65.symm)))).other W81 (Nat.ne_of_lt (Nat.lt_of_lt_of_le (A63).lt (Nat.le_of_eq ga65.symm)))).other W88 (Nat.ne_of_lt (Nat.lt_of_lt_of_le (A63).lt (Nat.le_of_eq ga65.symm))))).lt (Nat.le_of_eq ga141.symm))) nin0)).ext E155) (Nat.le_of_ble_eq_true rfl) hl161 (by simp) HC) rfl (lenOf pd_37 rfl) rfl (by decide) (Nat.le_of_eq rfl) (by decide) (by decide) (by decide) (List.forall_mem_cons.mpr ⟨(List.Mem.head _), (fun _ q => nomatch q)⟩) (cells' := 5) (slots' := 16) rfl rfl (pc' := 95) rfl (fun r162 h165 q163 K164 => ?_)
    obtain ⟨rfl, S166⟩ := q163
    show Run _ _ _ _ _ _ _ _ _ _ _ _ _ _ _ _ _ _ _ _ _ (mkF m 95 #[.val (.int p0), .val (.int p1), .val (.int p2), .val (.int p3), .val (.ref a46), .val (.ref a65), .val (.int (2 : Int32)), .val (.ref a141), .unset, .unset, .unset, .unset, .unset] [(.ref a154), (.ref a141)])
    refine GoKit.callVirtual G at_95 (wi hw 55 rfl) (wi hw 56 rfl) (wi hw 58 rfl) (nface (wi hw 58 rfl)) (wi hw 57 rfl) (wi hw 4 rfl) (wi hw 59 rfl) (by decide) ((O153.1.ext E155).keep K164) (owc := [a141]) (W := 0) (argsL := [(.ref a154)]) (rest := []) (con_add l hw SD A0 hz0 ⟨((O153.1.ext E155).keep K164), ((O153.2.1.ext E155).keep K164 (ninS (Nat.ne_of_lt (Nat.lt_of_lt_of_le (O153.2.2.2).lt (Nat.le_of_eq ga154.symm))) nin0)), ((O153.2.2.1.ext E155).keep K164 (ninS (Nat.ne_of_lt (Nat.lt_of_lt_of_le (O153.2.2.2).lt (Nat.le_of_eq ga154.symm))) nin0)), ((O153.2.2.2.ext E155).keep K164 (ninS (Nat.ne_of_lt (Nat.lt_of_lt_of_le (O153.2.2.2).lt (Nat.le_of_eq ga154.symm))) nin0))⟩ (X156.keep K164)) rfl (lenOf pd_38 rfl) rfl (by decide) (Nat.le_of_eq rfl) (by decide) (by decide) (by decide) (List.forall_mem_cons.mpr ⟨(List.Mem.tail _ (List.Mem.head _)), (fun _ q => nomatch q)⟩) (cells' := 6) (slots' := 26) rfl rfl (pc' := 98) rfl (fun r167 h170 q168 K169 => ?_)
    obtain ⟨d171, rfl, le172, A173, O174⟩ := q168
    have le175 : h0.size ≤ d171 := Nat.le_trans (Nat.le_trans (Nat.le_trans (Nat.le_trans (Nat.le_trans (Nat.le_trans (Nat.le_trans (Nat.le_trans (Nat.le_trans (Nat.le_trans (Nat.le_trans E47.1 (wr_size W54)) (wr_size W62)) E66.1) (wr_size W73)) (wr_size W81)) (wr_size W88)) E142.1) K151.1) E155.1) K164.1) le172
    refine Run.claim rfl A173.lt (Nat.le_trans hn0 le175) (by rw [hh]; exact le175) ?_
    show Run _ _ _ _ _ _ _ _ _ _ _ _ _ _ _ _ _ _ _ _ _ (mkF m 98 #[.val (.int p0), .val (.int p1), .val (.int p2), .val (.int p3), .val (.ref a46), .val (.ref a65), .val (.int (2 : Int32)), .val (.ref a141), .unset, .unset, .unset, .unset, .unset] [(.int (1 : Int32))])
    refine GoKit.pop G at_98 rfl (pc' := 99) rfl ?_
    refine GoKit.iload G at_99 rfl (pc' := 101) rfl ?_
    refine GoKit.iconst G (2 : Int32) at_101 rfl (pc' := 102) rfl ?_
    refine GoKit.icmp_lt_f G at_102 (by decide) (pc' := 105) rfl ?_
    refine GoKit.aload G at_105 rfl rfl (pc' := 107) rfl ?_
    refine GoKit.newobj G at_107 (wi hw 28 rfl) (wi hw 29 rfl) (wi hw 30 rfl) (by decide) (by decide) (cells' := 7) (slots' := 30) rfl rfl (pc' := 110) rfl (fun h180 a176 ga176 E177 X178 D179 => ?_)
    have F181 : Fld Z h180 a176 "java/lang/String" "coder" "B" (.int 0) := D179 (Or.inr (wi hw 52 rfl)) (ty := .byte) (by decide)
    have F182 : Fld Z h180 a176 "java/lang/String" "value" "[B" .null := D179 (Or.inr (wi hw 54 rfl)) (ty := (.array .byte)) (by decide)
    refine GoKit.dup G at_110 rfl (pc' := 111) rfl ?_
    refine GoKit.aload G at_111 rfl rfl (pc' := 113) rfl ?_
    have hl183 : ∀ c ∈ ([v70, v78, v85] : List Int32), 0 ≤ c.toInt ∧ c.toInt < 256 := by
      intro c hc
      simp only [List.mem_cons, List.not_mem_nil, or_false] at hc
      rcases hc with hc | hc | hc
      · rw [hc]; exact l71
      · rw [hc]; exact l79
      · rw [hc]; exact l86
    refine GoKit.callSpecial G at_113 rfl (wi hw 31 rfl) (wi hw 32 rfl) (wi hw 30 rfl) (wi hw 33 rfl) (by decide) (owc := [a176]) (W := 2) (argsL := [(.ref a65)]) (rest := [(.ref a176), (.ref a141)]) (con_strInit l hw X178 F182 F181 ((((((A89.ext E142).keep K151 (ninS (Nat.ne_of_lt (Nat.lt_of_lt_of_le (A89).lt (Nat.le_of_eq ga141.symm))) nin0)).ext E155).keep K164 (ninS (Nat.ne_of_lt (Nat.lt_of_lt_of_le (((A89.ext E142).keep K151 (ninS (Nat.ne_of_lt (Nat.lt_of_lt_of_le (A89).lt (Nat.le_of_eq ga141.symm))) nin0))).lt (Nat.le_of_eq ga154.symm))) nin0)).keep K169 (ninS (Nat.ne_of_lt (Nat.lt_of_lt_of_le (A89).lt (Nat.le_of_eq ga141.symm))) nin0)).ext E177) (Nat.le_of_ble_eq_true rfl) hl183 (by simp) HC) rfl (lenOf pd_37 rfl) rfl (by decide) (Nat.le_of_eq rfl) (by decide) (by decide) (by decide) (List.forall_mem_cons.mpr ⟨(List.Mem.head _), (fun _ q => nomatch q)⟩) (cells' := 8) (slots' := 34) rfl rfl (pc' := 116) rfl (fun r184 h187 q185 K186 => ?_)
    obtain ⟨rfl, S188⟩ := q185
    show Run _ _ _ _ _ _ _ _ _ _ _ _ _ _ _ _ _ _ _ _ _ (mkF m 116 #[.val (.int p0), .val (.int p1), .val (.int p2), .val (.int p3), .val (.ref a46), .val (.ref a65), .val (.int (2 : Int32)), .val (.ref a141), .unset, .unset, .unset, .unset, .unset] [(.ref a176), (.ref a141)])
    refine GoKit.callVirtual G at_116 (wi hw 55 rfl) (wi hw 56 rfl) (wi hw 58 rfl) (nface (wi hw 58 rfl)) (wi hw 57 rfl) (wi hw 4 rfl) (wi hw 59 rfl) (by decide) ((O174.1.ext E177).keep K186) (owc := [a141, d171]) (W := 0) (argsL := [(.ref a176)]) (rest := []) (con_addF l hw ⟨((O174.1.ext E177).keep K186), ((O174.2.1.ext E177).keep K186 (ninS (Nat.ne_of_lt (Nat.lt_of_lt_of_le (O174.2.2.2).lt (Nat.le_of_eq ga176.symm))) nin0)), ((O174.2.2.1.ext E177).keep K186 (ninS (Nat.ne_of_lt (Nat.lt_of_lt_of_le (O174.2.2.2).lt (Nat.le_of_eq ga176.symm))) nin0)), ((O174.2.2.2.ext E177).keep K186 (ninS (Nat.ne_of_lt (Nat.lt_of_lt_of_le (O174.2.2.2).lt (Nat.le_of_eq ga176.symm))) nin0))⟩ ((A173.ext E177).keep K186 (ninS (Nat.ne_of_lt (Nat.lt_of_lt_of_le (A173).lt (Nat.le_of_eq ga176.symm))) nin0)) (Nat.ne_of_lt (Nat.lt_of_lt_of_le (((O153.2.2.2.ext E155).keep K164 (ninS (Nat.ne_of_lt (Nat.lt_of_lt_of_le (O153.2.2.2).lt (Nat.le_of_eq ga154.symm))) nin0))).lt le172)) (X178.keep K186) (Ne.symm (Nat.ne_of_lt (Nat.lt_of_lt_of_le (A173).lt (Nat.le_of_eq ga176.symm))))) rfl (lenOf pd_38 rfl) rfl (by decide) (Nat.le_of_eq rfl) (by decide) (by decide) (by decide) (List.forall_mem_cons.mpr ⟨(List.Mem.tail _ (List.Mem.tail _ (List.Mem.tail _ (List.Mem.head _)))), (List.forall_mem_cons.mpr ⟨(List.Mem.tail _ (List.Mem.head _)), (fun _ q => nomatch q)⟩)⟩) (cells' := 8) (slots' := 34) rfl rfl (pc' := 119) rfl (fun r189 h192 q190 K191 => ?_)
    obtain rfl := q190
    show Run _ _ _ _ _ _ _ _ _ _ _ _ _ _ _ _ _ _ _ _ _ (mkF m 119 #[.val (.int p0), .val (.int p1), .val (.int p2), .val (.int p3), .val (.ref a46), .val (.ref a65), .val (.int (2 : Int32)), .val (.ref a141), .unset, .unset, .unset, .unset, .unset] [(.int (1 : Int32))])
    refine GoKit.pop G at_119 rfl (pc' := 120) rfl ?_
    refine Run.mono (cells' := 8) (slots' := 40) (by decide) (by decide) ?_
    refine Run.owless (ow' := []) (fun _ q => nomatch q) ?_
    exact J _ _ _ _ _ (Nat.le_trans (Nat.le_trans (Nat.le_trans (Nat.le_trans (Nat.le_trans (Nat.le_trans (Nat.le_trans (Nat.le_trans (Nat.le_trans (Nat.le_trans (Nat.le_trans (Nat.le_trans (Nat.le_trans (Nat.le_trans E47.1 (wr_size W54)) (wr_size W62)) E66.1) (wr_size W73)) (wr_size W81)) (wr_size W88)) E142.1) K151.1) E155.1) K164.1) K169.1) E177.1) K186.1) K191.1)
theorem size_start {args : Array Value} {s : State} {V : Term} {b : Addr} {cl : Cell} {ty : FieldType} {n : Int32} (hV : V.eval args s none [] s = some (.ref b)) (A : Arr s s.heap b cl ty) (h : (Term.length V).eval args s none [] s = some (.int n)) : cl.slots.size = n.toNatClampNeg ∧ cl.slots.size < 2 ^ 31 := by
  have ha := A.fin (Vm.Alike.refl _)
  by_cases hl : cl.slots.size < 2 ^ 31
  · rw [len_f hV ha hl] at h
    have q : cl.slots.size.toInt32 = n := by simpa using h
    subst q
    exact ⟨(toI_clamp hl).symm, hl⟩
  · simp [Term.eval, hV, ha, hl] at h
theorem eqv_r2 {Z : State} {args : Array Value} {X F : Term} {m : Addr} (hX : X.eval args Z none [] Z = some (.ref m)) (h : (Jvm.Cond.eq X F).value args Z none Z [] = some true) : F.eval args Z none [] Z = some (.ref m) := by
  cases ex : F.eval args Z none [] Z with
  | none => simp [Cond.value, ex, hX] at h
  | some x => cases x <;> simp_all [Cond.value]
set_option maxRecDepth 65536 in
set_option maxHeartbeats 40000000 in
theorem comes_1 {Post : Tables → Env → Array Value → State → Outcome → State → Prop} (hpost : ∀ tb e args s v u, (limb_1_1.after args s (.returned v) u = true ∧ limb_1_2.after args s (.returned v) u = true ∧ True) → FrameEnd s (.returned v) u (Jvm.fieldLocs frame_1_writes args s ++ Jvm.arrayLocs frame_1_arrays args s ++ Jvm.staticLocs frame_1_statics s) 88 384 → Post tb e args s (.returned v) u) :
    ArmFor flags0 classFile x code maxLocals ret World_1 tables_1 room_1 Calls_1 rest_1 Pre_1 Post := by
  intro l hfl _ _ p e ha hc hk s m args below hf hA hF happ hP
  obtain ⟨hcalls, hrest, hpre⟩ := hP
  obtain ⟨-, -, -, hnamed, -, -, -, hat⟩ := (Spec.applies_iff hf).mp happ
  obtain ⟨hg, hn⟩ := and_e (Cond.before_iff.mp (show (Jvm.Cond.and given_1 narrow_1).before args s = true from hpre))
  obtain ⟨gc, g0⟩ := and_e hg
  obtain ⟨t0, g1⟩ := and_e g0
  obtain ⟨t1, g2⟩ := and_e g1
  obtain ⟨t2, g3⟩ := and_e g2
  have t3 := g3
  obtain ⟨w0, w1, w2, w3, rfl⟩ : ∃ w0 w1 w2 w3 : Value, args = #[w0, w1, w2, w3] := by
    have hs : args.size = 4 := by simpa [Cond.value, given_1] using gc
    obtain ⟨L⟩ := args
    match L, hs with
    | [w0, w1, w2, w3], _ => exact ⟨w0, w1, w2, w3, rfl⟩
  have hw := fun d (hd : d ∈ tables_1) => atoms_spec (ws := Jvm.Cond.code x code maxLocals ret :: tables_1) hat d (List.mem_cons_of_mem _ hd)
  have hfit : Fit s := fun {y c} hc i hi => by
    obtain ⟨ha, rfl⟩ := Array.getElem?_eq_some_iff.mp hc
    have q := List.all_eq_true.mp ((Array.all_eq_true_iff_forall_mem.mp hF) _ (Array.getElem_mem ha)) i (List.mem_range.mpr hi)
    simpa [Array.getElem?_eq_getElem hi] using q
  obtain ⟨hsets, hown0⟩ := atoms_of _ (rest_1_c_eq ▸ (show rest_1_c.before _ s = true from hrest))
  obtain ⟨i0, ei0⟩ := is_v t0
  obtain rfl : w0 = (.int i0) := Option.some.inj ei0
  obtain ⟨i1, ei1⟩ := is_v t1
  obtain rfl : w1 = (.int i1) := Option.some.inj ei1
  obtain ⟨i2, ei2⟩ := is_v t2
  obtain rfl : w2 = (.int i2) := Option.some.inj ei2
  obtain ⟨i3, ei3⟩ := is_v t3
  obtain rfl : w3 = (.int i3) := Option.some.inj ei3
  have HC : Cst s := by
    obtain ⟨cz, ecz⟩ := is_v (Cond.before_iff.mp (hsets _ (List.mem_of_getElem? (i := 10) rfl)))
    refine ⟨cz, Sta.start ecz (Or.inl (hsets _ (List.mem_of_getElem? (i := 9) rfl))), fun q => ?_⟩
    have := Cond.before_iff.mp (hsets _ (List.mem_of_getElem? (i := 11) rfl))
    subst q
    simp [Cond.value, ecz, Term.int_eval] at this
  have ha0 := Cond.before_iff.mp (hsets _ (List.mem_of_getElem? (i := 6) rfl))
  obtain ⟨d0, ed0⟩ := arr_v ha0
  obtain ⟨cl0, A0⟩ := Arr.start ed0 ha0
  have SD := Sta.start ed0 (Or.inr ⟨(wi hw 4 rfl), (hsets _ (List.mem_of_getElem? (i := 2) rfl))⟩)
  have hz0 := (size_start ed0 A0 (eqv_i (Term.int_eval 0) (Cond.before_iff.mp (hsets _ (List.mem_of_getElem? (i := 8) rfl))))).1
  have hx8 := Cond.before_iff.mp (hsets _ (List.mem_of_getElem? (i := 23) rfl))
  obtain ⟨u8, _, _, _, eu8, -⟩ := Cond.exactly_spec (Cond.before_iff.mpr hx8)
  have SV := Sta.start eu8 (Or.inl (hsets _ (List.mem_of_getElem? (i := 19) rfl)))
  have SU := Sta.start (eqv_r2 eu8 (Cond.before_iff.mp (hsets _ (List.mem_of_getElem? (i := 22) rfl)))) (Or.inl (hsets _ (List.mem_of_getElem? (i := 21) rfl)))
  have hCH : CHv s ELs s.vm s.heap := fun _ hp => nomatch hp
  obtain ⟨n, o, h1, h2, h3, v, L, rfl, rfl, N, -, -, hE, hWd, -⟩ := (con_law l hw i0 i1 i2 i3 SD A0 hz0 SU SV HC) p e ha hc hk s m _ below hf ((Spec.applies_iff_loose hf).mp happ).1 ⟨rfl, State.Warmed39.refl s, rfl, Old.start s, hCH, all0⟩ trivial
  rcases hWd with hWd | hWd
  · cases hWd
  exact ⟨n, _, h1, h2, h3, hpost _ _ _ _ _ _ ⟨Cond.after_iff.mpr rfl, Cond.after_iff.mpr (eq_i res_at (Term.int_eval (1)) rfl), trivial⟩ ⟨hE.1, hWd, (hE.2.2.2.sift fun y hy => Or.inr (N y hy)).mono (by decide) (by decide)⟩⟩
theorem main_1_1 : Claimed_1_1 := comes_1 fun _ _ _ _ _ _ h hF => ⟨h.1, hF⟩
theorem main_1_2 : Claimed_1_2 := comes_1 fun _ _ _ _ _ _ h hF => ⟨h.2.1, hF⟩
end Jvm.Pilot.@@N@@
namespace Jvm.Pilot.@@N@@
open Jvm Jvm.ClassFile Sem Op Lib Jvm.Free Jvm.Stand Jvm.Pilot.@@N@@.Jvm.D
/-! MADE BY PROGRAM (witnessworld.py) out of the Statement's table words and the real class files: 62 classes; the members and pool entries that the words name. The judged class is class 1, her method 1. -/
namespace start1
open Jvm.ClassFile
def u (s : String) : CpInfo := .utf8 (stringToUtf16 s)
/-- a pool by its gaps: so many unusable entries, then the entry; so many at the end -/
def gap : Nat → List CpInfo → List CpInfo
  | 0, r => r
  | n + 1, r => .unusable :: gap n r
def poolList (es : List (Nat × CpInfo)) (last : Nat) : List CpInfo := es.foldr (fun e r => gap e.1 (e.2 :: r)) (gap last [])
def pool (es : List (Nat × CpInfo)) (last : Nat) : Array CpInfo := ⟨poolList es last⟩
def fileOf (pool : Array CpInfo) (this : Nat) (attrs : Array Attribute := #[]) (ms : Array MethodInfo := #[]) (fl : Nat := 33) (sup : Nat := 0) (ifs : Array Nat := #[]) (fds : Array FieldInfo := #[]) : ClassFile where
  minorVersion := 0
  majorVersion := 65
  constantPool := pool
  accessFlags := fl
  thisClass := this
  superClass := sup
  interfaces := ifs
  fields := fds
  methods := ms
  attributes := attrs
def plain (name : String) (sup : Option ClassId) : Class where
  name := name
  kind := .ordinary
  loader := none
  accessFlags := 33
  super := sup
  interfaces := #[]
  cf := none
  fields := #[]
  methods := #[]
  instanceTypes := #[]
  staticTypes := #[]
  resolved := #[]
  callSites := []
  init := .initialized
  statics := none
  mirror := none

def pool0 : Array CpInfo := pool [(5, u "<init>"), (0, u "()V"), (1, .class_ 10), (1, u "java/lang/Object"), (85, u "clone"), (0, u "()Ljava/lang/Object;")] 26

def k0c0 : Code := { maxStack := 0, maxLocals := 1, code := object_method_1_code, exceptionTable := #[], attributes := #[] }
def k0m0 : Method := { name := "<init>", desc := "()V", sig := { parameters := [], returnType := none }, accessFlags := 1, code := some k0c0 }
def k0m1 : Method := { name := "clone", desc := "()Ljava/lang/Object;", sig := { parameters := [], returnType := some (.object "java/lang/Object") }, accessFlags := 260, code := none }
/-- java/lang/Object -/
def k0 : Class := { plain "java/lang/Object" none with
  accessFlags := 33
  interfaces := #[]
  cf := some (fileOf pool0 8 #[] #[{ accessFlags := 1, nameIndex := 5, descriptorIndex := 6, attributes := #[] }, { accessFlags := 260, nameIndex := 96, descriptorIndex := 97, attributes := #[] }] 33 0 #[] #[])
  fields := #[]
  methods := #[k0m0, k0m1]
  instanceTypes := #[]
  staticTypes := #[]
  resolved := Array.replicate 124 none
  statics := none }

def pool1 : Array CpInfo := pool [(2, .class_ 4), (0, .nameAndType 5 6), (0, u "java/lang/Object"), (0, u "<init>"), (0, u "()V"), (0, .integer 2147483647), (0, .class_ 9), (0, u "java/util/ArrayList"), (0, .methodref 8 3), (0, .class_ 12), (0, u "java/lang/String"), (0, .methodref 11 14), (0, .nameAndType 5 15), (0, u "([C)V"), (0, .methodref 8 17), (0, .nameAndType 18 19), (0, u "add"), (0, u "(Ljava/lang/Object;)Z"), (0, .methodref 21 22), (0, .class_ 23), (0, .nameAndType 24 25), (0, u "com/example/waymark/waymark/StatCache"), (0, u "empty"), (0, u "()Lcom/example/waymark/waymark/StatCache;"), (0, .methodref 21 27), (0, .nameAndType 28 29), (0, u "isChanged"), (0, u "()Z"), (0, .methodref 21 31), (0, .nameAndType 32 33), (0, u "encode"), (0, u "()[B"), (0, .methodref 21 35), (0, .nameAndType 36 37), (0, u "keepOnly"), (0, u "(Ljava/util/Collection;)V"), (0, .class_ 39), (0, u "com/example/waymark/waymark/StatCacheEmptyPinLaw"), (2, u "law"), (0, u "(IIII)Z")] 7

def k1m0 : Method := { name := "<init>", desc := "()V", sig := { parameters := [], returnType := none }, accessFlags := 2, code := none }
def k1c1 : Code := { maxStack := 5, maxLocals := 13, code := code, exceptionTable := #[], attributes := #[] }
def k1m1 : Method := { name := "law", desc := "(IIII)Z", sig := { parameters := [.int, .int, .int, .int], returnType := some .boolean }, accessFlags := 9, code := some k1c1 }
/-- com/example/waymark/waymark/StatCacheEmptyPinLaw -/
def k1 : Class := { plain "com/example/waymark/waymark/StatCacheEmptyPinLaw" (some 0) with
  accessFlags := 49
  interfaces := #[]
  cf := some (fileOf pool1 38 #[] #[{ accessFlags := 2, nameIndex := 5, descriptorIndex := 6, attributes := #[] }, { accessFlags := 9, nameIndex := 42, descriptorIndex := 43, attributes := #[] }] 49 2 #[] #[])
  fields := #[]
  methods := #[k1m0, k1m1]
  instanceTypes := #[]
  staticTypes := #[]
  resolved := Array.replicate 51 none
  statics := none }

def pool2 : Array CpInfo := pool [(8, .class_ 10), (1, u "java/lang/Iterable"), (24, .class_ 36), (0, u "java/lang/Object")] 25

/-- java/lang/Iterable -/
def k2 : Class := { plain "java/lang/Iterable" (some 0) with
  accessFlags := 1537
  interfaces := #[]
  cf := some (fileOf pool2 8 #[] #[] 1537 35 #[] #[])
  fields := #[]
  methods := #[]
  instanceTypes := #[]
  staticTypes := #[]
  resolved := Array.replicate 62 none
  statics := none }

def pool3 : Array CpInfo := pool [(10, .class_ 12), (1, u "java/util/Collection"), (47, .class_ 61), (0, u "java/lang/Object"), (0, .class_ 63), (0, u "java/lang/Iterable")] 51

/-- java/util/Collection -/
def k3 : Class := { plain "java/util/Collection" (some 0) with
  accessFlags := 1537
  interfaces := #[2]
  cf := some (fileOf pool3 10 #[] #[] 1537 60 #[62] #[])
  fields := #[]
  methods := #[]
  instanceTypes := #[]
  staticTypes := #[]
  resolved := Array.replicate 115 none
  statics := none }

def pool4 : Array CpInfo := pool [(1, .methodref 2 3), (0, .class_ 4), (0, .nameAndType 5 6), (0, u "java/lang/Object"), (0, u "<init>"), (0, u "()V"), (1, .class_ 10), (1, u "java/util/AbstractCollection"), (2, .methodref 8 14), (0, .nameAndType 15 16), (0, u "iterator"), (0, u "()Ljava/util/Iterator;"), (0, .interfaceMethodref 18 19), (0, .class_ 20), (0, .nameAndType 21 22), (0, u "java/util/Iterator"), (0, u "hasNext"), (0, u "()Z"), (54, .class_ 78), (0, u "java/util/Collection"), (6, .methodref 86 87), (0, .class_ 88), (0, .nameAndType 89 90), (0, u "java/util/Objects"), (0, u "requireNonNull"), (0, u "(Ljava/lang/Object;)Ljava/lang/Object;"), (51, u "(Ljava/util/Collection;)Z"), (10, u "retainAll")] 6

def k4c0 : Code := { maxStack := 1, maxLocals := 1, code := jdk_22_method_1_code, exceptionTable := #[], attributes := #[] }
def k4m0 : Method := { name := "<init>", desc := "()V", sig := { parameters := [], returnType := none }, accessFlags := 4, code := some k4c0 }
def k4m1 : Method := { name := "iterator", desc := "()Ljava/util/Iterator;", sig := { parameters := [], returnType := some (.object "java/util/Iterator") }, accessFlags := 1025, code := none }
def k4c2 : Code := { maxStack := 2, maxLocals := 4, code := jdk_22_method_14_code, exceptionTable := #[], attributes := #[] }
def k4m2 : Method := { name := "retainAll", desc := "(Ljava/util/Collection;)Z", sig := { parameters := [(.object "java/util/Collection")], returnType := some .boolean }, accessFlags := 1, code := some k4c2 }
/-- java/util/AbstractCollection -/
def k4 : Class := { plain "java/util/AbstractCollection" (some 0) with
  accessFlags := 1057
  interfaces := #[3]
  cf := some (fileOf pool4 8 #[] #[{ accessFlags := 4, nameIndex := 5, descriptorIndex := 6, attributes := #[] }, { accessFlags := 1025, nameIndex := 15, descriptorIndex := 16, attributes := #[] }, { accessFlags := 1, nameIndex := 153, descriptorIndex := 142, attributes := #[] }] 1057 2 #[77] #[])
  fields := #[]
  methods := #[k4m0, k4m1, k4m2]
  instanceTypes := #[]
  staticTypes := #[]
  resolved := Array.replicate 160 none
  statics := none }

def pool5 : Array CpInfo := pool [(8, .class_ 10), (1, u "java/util/SequencedCollection"), (15, .class_ 27), (0, u "java/lang/Object"), (0, .class_ 29), (0, u "java/util/Collection")] 27

/-- java/util/SequencedCollection -/
def k5 : Class := { plain "java/util/SequencedCollection" (some 0) with
  accessFlags := 1537
  interfaces := #[3]
  cf := some (fileOf pool5 8 #[] #[] 1537 26 #[28] #[])
  fields := #[]
  methods := #[]
  instanceTypes := #[]
  staticTypes := #[]
  resolved := Array.replicate 57 none
  statics := none }

def pool6 : Array CpInfo := pool [(8, .class_ 10), (1, u "java/util/List"), (49, u "add"), (3, u "(Ljava/lang/Object;)Z"), (38, .class_ 104), (0, u "java/lang/Object"), (15, .class_ 121), (0, u "java/util/SequencedCollection"), (1, u "iterator"), (0, u "()Ljava/util/Iterator;")] 126

def k6m0 : Method := { name := "iterator", desc := "()Ljava/util/Iterator;", sig := { parameters := [], returnType := some (.object "java/util/Iterator") }, accessFlags := 1025, code := none }
def k6m1 : Method := { name := "add", desc := "(Ljava/lang/Object;)Z", sig := { parameters := [(.object "java/lang/Object")], returnType := some .boolean }, accessFlags := 1025, code := none }
/-- java/util/List -/
def k6 : Class := { plain "java/util/List" (some 0) with
  accessFlags := 1537
  interfaces := #[5]
  cf := some (fileOf pool6 8 #[] #[{ accessFlags := 1025, nameIndex := 123, descriptorIndex := 124, attributes := #[] }, { accessFlags := 1025, nameIndex := 60, descriptorIndex := 64, attributes := #[] }] 1537 103 #[120] #[])
  fields := #[]
  methods := #[k6m0, k6m1]
  instanceTypes := #[]
  staticTypes := #[]
  resolved := Array.replicate 251 none
  statics := none }

def pool7 : Array CpInfo := pool [(1, .methodref 2 3), (0, .class_ 4), (0, .nameAndType 5 6), (0, u "java/util/AbstractCollection"), (0, u "<init>"), (0, u "()V"), (0, .fieldref 8 9), (0, .class_ 10), (0, .nameAndType 11 12), (0, u "java/util/AbstractList"), (0, u "modCount"), (0, u "I"), (64, .class_ 78), (0, u "java/util/AbstractList$Itr"), (3, .class_ 83), (0, u "java/util/AbstractList$ListItr"), (9, .class_ 94), (0, u "java/util/AbstractList$RandomAccessSubList"), (3, .class_ 99), (0, u "java/util/AbstractList$SubList"), (33, .class_ 134), (0, u "java/util/List"), (73, .class_ 209), (0, u "java/util/AbstractList$SubList$1"), (0, .class_ 211), (0, u "java/util/AbstractList$RandomAccessSpliterator")] 6

def k7c0 : Code := { maxStack := 2, maxLocals := 1, code := jdk_39_method_1_code, exceptionTable := #[], attributes := #[] }
def k7m0 : Method := { name := "<init>", desc := "()V", sig := { parameters := [], returnType := none }, accessFlags := 4, code := some k7c0 }
/-- java/util/AbstractList -/
def k7 : Class := { plain "java/util/AbstractList" (some 4) with
  accessFlags := 1057
  interfaces := #[6]
  cf := some (fileOf pool7 8 #[.nestMembers #[93, 98, 208, 210, 82, 77]] #[{ accessFlags := 4, nameIndex := 5, descriptorIndex := 6, attributes := #[] }] 1057 2 #[133] #[{ accessFlags := 132, nameIndex := 11, descriptorIndex := 12, attributes := #[] }])
  fields := #[{ name := "modCount", type := .int, accessFlags := 132, slot := 0, constantValue := 0 }]
  methods := #[k7m0]
  instanceTypes := #[.int]
  staticTypes := #[]
  resolved := Array.replicate 218 none
  statics := none }

def pool8 : Array CpInfo := pool [(1, .class_ 2), (0, u "java/util/RandomAccess"), (0, .class_ 4), (0, u "java/lang/Object")] 2

/-- java/util/RandomAccess -/
def k8 : Class := { plain "java/util/RandomAccess" (some 0) with
  accessFlags := 1537
  interfaces := #[]
  cf := some (fileOf pool8 1 #[] #[] 1537 3 #[] #[])
  fields := #[]
  methods := #[]
  instanceTypes := #[]
  staticTypes := #[]
  resolved := Array.replicate 7 none
  statics := none }

def pool9 : Array CpInfo := pool [(1, .class_ 2), (0, u "java/lang/Cloneable"), (0, .class_ 4), (0, u "java/lang/Object")] 2

/-- java/lang/Cloneable -/
def k9 : Class := { plain "java/lang/Cloneable" (some 0) with
  accessFlags := 1537
  interfaces := #[]
  cf := some (fileOf pool9 1 #[] #[] 1537 3 #[] #[])
  fields := #[]
  methods := #[]
  instanceTypes := #[]
  staticTypes := #[]
  resolved := Array.replicate 7 none
  statics := none }

def pool10 : Array CpInfo := pool [(1, .class_ 2), (0, u "java/io/Serializable"), (0, .class_ 4), (0, u "java/lang/Object")] 2

/-- java/io/Serializable -/
def k10 : Class := { plain "java/io/Serializable" (some 0) with
  accessFlags := 1537
  interfaces := #[]
  cf := some (fileOf pool10 1 #[] #[] 1537 3 #[] #[])
  fields := #[]
  methods := #[]
  instanceTypes := #[]
  staticTypes := #[]
  resolved := Array.replicate 7 none
  statics := none }

def pool11 : Array CpInfo := pool [(1, .methodref 2 3), (0, .class_ 4), (0, .nameAndType 5 6), (0, u "java/util/AbstractList"), (0, u "<init>"), (0, u "()V"), (0, .class_ 8), (0, u "java/lang/Object"), (0, .fieldref 10 11), (0, .class_ 12), (0, .nameAndType 13 14), (0, u "java/util/ArrayList"), (0, u "elementData"), (0, u "[Ljava/lang/Object;"), (2, u "EMPTY_ELEMENTDATA"), (21, .fieldref 10 40), (0, .nameAndType 41 14), (0, u "DEFAULTCAPACITY_EMPTY_ELEMENTDATA"), (5, u "()[Ljava/lang/Object;"), (0, .fieldref 10 49), (0, .nameAndType 50 51), (0, u "size"), (0, u "I"), (11, .fieldref 10 64), (0, .nameAndType 65 51), (0, u "modCount"), (3, .methodref 10 70), (0, .nameAndType 71 72), (0, u "grow"), (0, u "(I)[Ljava/lang/Object;"), (6, .methodref 80 81), (0, .class_ 82), (0, .nameAndType 83 84), (0, u "java/lang/Math"), (0, u "max"), (0, u "(II)I"), (11, u "(Ljava/lang/Object;)Z"), (32, .methodref 10 130), (0, .nameAndType 71 47), (0, .methodref 10 132), (0, .nameAndType 133 134), (0, u "add"), (0, u "(Ljava/lang/Object;[Ljava/lang/Object;I)V"), (13, .class_ 149), (0, u "java/util/List"), (16, u "iterator"), (0, u "()Ljava/util/Iterator;"), (94, .class_ 263), (0, u "java/util/ArrayList$ListItr"), (3, .class_ 268), (0, u "java/util/ArrayList$Itr"), (0, .methodref 267 270), (0, .nameAndType 5 271), (0, u "(Ljava/util/ArrayList;)V"), (4, .class_ 277), (0, u "java/util/ArrayList$SubList"), (12, .class_ 291), (0, u "java/util/ArrayList$ArrayListSpliterator"), (37, .class_ 330), (0, u "java/util/RandomAccess"), (0, .class_ 332), (0, u "java/lang/Cloneable"), (0, .class_ 334), (0, u "java/io/Serializable"), (0, u "serialVersionUID"), (0, u "J"), (3, u "DEFAULT_CAPACITY"), (159, .class_ 501), (0, u "java/util/ArrayList$SubList$2"), (0, .class_ 503), (0, u "java/util/ArrayList$SubList$1")] 5

def k11c0 : Code := { maxStack := 2, maxLocals := 1, code := jdk_38_method_2_code, exceptionTable := #[], attributes := #[] }
def k11m0 : Method := { name := "<init>", desc := "()V", sig := { parameters := [], returnType := none }, accessFlags := 1, code := some k11c0 }
def k11c1 : Code := { maxStack := 4, maxLocals := 4, code := jdk_38_method_6_code, exceptionTable := #[], attributes := #[] }
def k11m1 : Method := { name := "grow", desc := "(I)[Ljava/lang/Object;", sig := { parameters := [.int], returnType := some (.array (.object "java/lang/Object")) }, accessFlags := 2, code := some k11c1 }
def k11c2 : Code := { maxStack := 3, maxLocals := 1, code := jdk_38_method_7_code, exceptionTable := #[], attributes := #[] }
def k11m2 : Method := { name := "grow", desc := "()[Ljava/lang/Object;", sig := { parameters := [], returnType := some (.array (.object "java/lang/Object")) }, accessFlags := 2, code := some k11c2 }
def k11c3 : Code := { maxStack := 3, maxLocals := 4, code := jdk_38_method_24_code, exceptionTable := #[], attributes := #[] }
def k11m3 : Method := { name := "add", desc := "(Ljava/lang/Object;[Ljava/lang/Object;I)V", sig := { parameters := [(.object "java/lang/Object"), (.array (.object "java/lang/Object")), .int], returnType := none }, accessFlags := 2, code := some k11c3 }
def k11c4 : Code := { maxStack := 4, maxLocals := 2, code := jdk_38_method_25_code, exceptionTable := #[], attributes := #[] }
def k11m4 : Method := { name := "add", desc := "(Ljava/lang/Object;)Z", sig := { parameters := [(.object "java/lang/Object")], returnType := some .boolean }, accessFlags := 1, code := some k11c4 }
def k11c5 : Code := { maxStack := 3, maxLocals := 1, code := jdk_38_method_55_code, exceptionTable := #[], attributes := #[] }
def k11m5 : Method := { name := "iterator", desc := "()Ljava/util/Iterator;", sig := { parameters := [], returnType := some (.object "java/util/Iterator") }, accessFlags := 1, code := some k11c5 }
/-- java/util/ArrayList -/
def k11 : Class := { plain "java/util/ArrayList" (some 7) with
  accessFlags := 33
  interfaces := #[6, 8, 9, 10]
  cf := some (fileOf pool11 10 #[.nestMembers #[290, 276, 500, 502, 262, 267]] #[{ accessFlags := 1, nameIndex := 5, descriptorIndex := 6, attributes := #[] }, { accessFlags := 2, nameIndex := 71, descriptorIndex := 72, attributes := #[] }, { accessFlags := 2, nameIndex := 71, descriptorIndex := 47, attributes := #[] }, { accessFlags := 2, nameIndex := 133, descriptorIndex := 134, attributes := #[] }, { accessFlags := 1, nameIndex := 133, descriptorIndex := 96, attributes := #[] }, { accessFlags := 1, nameIndex := 166, descriptorIndex := 167, attributes := #[] }] 33 2 #[148, 329, 331, 333] #[{ accessFlags := 26, nameIndex := 335, descriptorIndex := 336, attributes := #[] }, { accessFlags := 26, nameIndex := 340, descriptorIndex := 51, attributes := #[] }, { accessFlags := 26, nameIndex := 17, descriptorIndex := 14, attributes := #[] }, { accessFlags := 26, nameIndex := 41, descriptorIndex := 14, attributes := #[] }, { accessFlags := 128, nameIndex := 13, descriptorIndex := 14, attributes := #[] }, { accessFlags := 2, nameIndex := 50, descriptorIndex := 51, attributes := #[] }])
  fields := #[{ name := "serialVersionUID", type := .long, accessFlags := 26, slot := 0, constantValue := 0 }, { name := "DEFAULT_CAPACITY", type := .int, accessFlags := 26, slot := 1, constantValue := 0 }, { name := "EMPTY_ELEMENTDATA", type := (.array (.object "java/lang/Object")), accessFlags := 26, slot := 2, constantValue := 0 }, { name := "DEFAULTCAPACITY_EMPTY_ELEMENTDATA", type := (.array (.object "java/lang/Object")), accessFlags := 26, slot := 3, constantValue := 0 }, { name := "elementData", type := (.array (.object "java/lang/Object")), accessFlags := 128, slot := 1, constantValue := 0 }, { name := "size", type := .int, accessFlags := 2, slot := 2, constantValue := 0 }]
  methods := #[k11m0, k11m1, k11m2, k11m3, k11m4, k11m5]
  instanceTypes := #[.int, (.array (.object "java/lang/Object")), .int]
  staticTypes := #[.long, .int, (.array (.object "java/lang/Object")), (.array (.object "java/lang/Object"))]
  resolved := Array.replicate 509 none
  statics := some 0 }

def pool12 : Array CpInfo := pool [(1, .class_ 2), (0, u "java/lang/Comparable"), (0, .class_ 4), (0, u "java/lang/Object")] 7

/-- java/lang/Comparable -/
def k12 : Class := { plain "java/lang/Comparable" (some 0) with
  accessFlags := 1537
  interfaces := #[]
  cf := some (fileOf pool12 1 #[] #[] 1537 3 #[] #[])
  fields := #[]
  methods := #[]
  instanceTypes := #[]
  staticTypes := #[]
  resolved := Array.replicate 12 none
  statics := none }

def pool13 : Array CpInfo := pool [(2, .class_ 4), (1, u "java/lang/CharSequence"), (42, .class_ 48), (0, u "java/lang/CharSequence$1CodePointIterator"), (10, .class_ 60), (0, u "java/lang/CharSequence$1CharIterator"), (5, .class_ 67), (0, u "java/lang/Object")] 63

/-- java/lang/CharSequence -/
def k13 : Class := { plain "java/lang/CharSequence" (some 0) with
  accessFlags := 1537
  interfaces := #[]
  cf := some (fileOf pool13 2 #[.nestMembers #[47, 59]] #[] 1537 66 #[] #[])
  fields := #[]
  methods := #[]
  instanceTypes := #[]
  staticTypes := #[]
  resolved := Array.replicate 131 none
  statics := none }

def pool14 : Array CpInfo := pool [(1, .class_ 2), (0, u "java/lang/constant/Constable"), (0, .class_ 4), (0, u "java/lang/Object")] 6

/-- java/lang/constant/Constable -/
def k14 : Class := { plain "java/lang/constant/Constable" (some 0) with
  accessFlags := 1537
  interfaces := #[]
  cf := some (fileOf pool14 1 #[] #[] 1537 3 #[] #[])
  fields := #[]
  methods := #[]
  instanceTypes := #[]
  staticTypes := #[]
  resolved := Array.replicate 11 none
  statics := none }

def pool15 : Array CpInfo := pool [(1, .class_ 2), (0, u "java/lang/constant/ConstantDesc"), (0, .class_ 4), (0, u "java/lang/Object")] 32

/-- java/lang/constant/ConstantDesc -/
def k15 : Class := { plain "java/lang/constant/ConstantDesc" (some 0) with
  accessFlags := 1537
  interfaces := #[]
  cf := some (fileOf pool15 1 #[] #[] 1537 3 #[] #[])
  fields := #[]
  methods := #[]
  instanceTypes := #[]
  staticTypes := #[]
  resolved := Array.replicate 37 none
  statics := none }

def pool16 : Array CpInfo := pool [(1, .methodref 2 3), (0, .class_ 4), (0, .nameAndType 5 6), (0, u "java/lang/Object"), (0, u "<init>"), (0, u "()V"), (2, .fieldref 10 11), (0, .class_ 12), (0, .nameAndType 13 14), (0, u "java/lang/String"), (0, u "value"), (0, u "[B"), (0, .fieldref 10 16), (0, .nameAndType 17 18), (0, u "coder"), (0, u "B"), (2, u "hash"), (0, u "I"), (2, u "hashIsZero"), (0, u "Z"), (0, .methodref 10 28), (0, .nameAndType 5 29), (0, u "([CIILjava/lang/Void;)V"), (8, .fieldref 10 39), (0, .nameAndType 40 26), (0, u "COMPACT_STRINGS"), (1, .class_ 44), (1, u "java/lang/StringUTF16"), (0, u "compress"), (1, .methodref 42 48), (0, .nameAndType 49 50), (0, u "coderFromArrayLen"), (0, u "([BI)B"), (3, .methodref 55 56), (0, .class_ 57), (0, .nameAndType 58 59), (0, u "java/util/Arrays"), (0, u "copyOfRange"), (0, u "([BII)[B"), (26, .fieldref 87 88), (0, .class_ 89), (0, .nameAndType 90 91), (0, u "sun/nio/cs/UTF_8"), (0, u "INSTANCE"), (0, u "Lsun/nio/cs/UTF_8;"), (1, .class_ 95), (1, u "java/lang/StringCoding"), (32, .methodref 93 129), (0, .nameAndType 130 131), (0, u "hasNegatives"), (0, u "([BII)Z"), (10, u "()Z"), (34, .methodref 42 178), (0, .nameAndType 45 179), (0, u "([CII)[B"), (72, .methodref 10 253), (0, .nameAndType 254 255), (0, u "encodeUTF8"), (0, u "(B[BZ)[B"), (23, .methodref 280 281), (0, .class_ 14), (0, .nameAndType 282 283), (0, u "clone"), (0, u "()Ljava/lang/Object;"), (33, u "encode"), (16, u "()I"), (0, .methodref 10 336), (0, .nameAndType 17 337), (0, u "()B"), (2, u "()[B"), (148, .methodref 10 490), (0, .nameAndType 5 491), (0, u "(Ljava/lang/AbstractStringBuilder;Ljava/lang/Void;)V"), (1, .nameAndType 494 142), (0, u "isLatin1"), (11, .nameAndType 507 334), (0, u "length"), (24, u "getBytes"), (2, .methodref 10 536), (0, .nameAndType 317 537), (0, u "(Ljava/nio/charset/Charset;B[B)[B"), (11, .methodref 550 506), (0, .class_ 551), (0, u "java/lang/AbstractStringBuilder"), (0, .methodref 550 553), (0, .nameAndType 554 340), (0, u "getValue"), (20, .class_ 576), (0, u "java/lang/CharSequence"), (22, u "CASE_INSENSITIVE_ORDER"), (0, u "Ljava/util/Comparator;"), (409, u "([C)V"), (36, .methodref 550 493), (53, u "serialPersistentFields"), (0, u "[Ljava/io/ObjectStreamField;"), (0, .class_ 1104), (0, u "java/lang/String$CaseInsensitiveComparator"), (1, .class_ 1107), (0, u "java/io/Serializable"), (0, .class_ 1109), (0, u "java/lang/Comparable"), (0, .class_ 1111), (0, u "java/lang/constant/Constable"), (0, .class_ 1113), (0, u "java/lang/constant/ConstantDesc"), (2, u "serialVersionUID"), (0, u "J"), (3, u "REPL"), (0, u "C"), (2, u "LATIN1"), (1, u "UTF16"), (105, u "(Ljava/lang/StringBuilder;)V"), (11, u "(Ljava/nio/charset/Charset;)[B")] 205

def k16m0 : Method := { name := "<init>", desc := "()V", sig := { parameters := [], returnType := none }, accessFlags := 1, code := none }
def k16c1 : Code := { maxStack := 5, maxLocals := 2, code := jdk_42_method_3_code, exceptionTable := #[], attributes := #[] }
def k16m1 : Method := { name := "<init>", desc := "([C)V", sig := { parameters := [(.array .char)], returnType := none }, accessFlags := 1, code := some k16c1 }
def k16c2 : Code := { maxStack := 4, maxLocals := 3, code := jdk_42_method_18_code, exceptionTable := #[], attributes := #[] }
def k16m2 : Method := { name := "encode", desc := "(Ljava/nio/charset/Charset;B[B)[B", sig := { parameters := [(.object "java/nio/charset/Charset"), .byte, (.array .byte)], returnType := some (.array .byte) }, accessFlags := 10, code := some k16c2 }
def k16c3 : Code := { maxStack := 5, maxLocals := 9, code := jdk_42_method_46_code, exceptionTable := #[], attributes := #[] }
def k16m3 : Method := { name := "encodeUTF8", desc := "(B[BZ)[B", sig := { parameters := [.byte, (.array .byte), .boolean], returnType := some (.array .byte) }, accessFlags := 10, code := some k16c3 }
def k16c4 : Code := { maxStack := 3, maxLocals := 2, code := jdk_42_method_53_code, exceptionTable := #[], attributes := #[] }
def k16m4 : Method := { name := "<init>", desc := "(Ljava/lang/StringBuilder;)V", sig := { parameters := [(.object "java/lang/StringBuilder")], returnType := none }, accessFlags := 1, code := some k16c4 }
def k16c5 : Code := { maxStack := 3, maxLocals := 2, code := jdk_42_method_64_code, exceptionTable := #[], attributes := #[] }
def k16m5 : Method := { name := "getBytes", desc := "(Ljava/nio/charset/Charset;)[B", sig := { parameters := [(.object "java/nio/charset/Charset")], returnType := some (.array .byte) }, accessFlags := 1, code := some k16c5 }
def k16c6 : Code := { maxStack := 4, maxLocals := 6, code := jdk_42_method_149_code, exceptionTable := #[], attributes := #[] }
def k16m6 : Method := { name := "<init>", desc := "([CIILjava/lang/Void;)V", sig := { parameters := [(.array .char), .int, .int, (.object "java/lang/Void")], returnType := none }, accessFlags := 2, code := some k16c6 }
def k16c7 : Code := { maxStack := 5, maxLocals := 5, code := jdk_42_method_150_code, exceptionTable := #[], attributes := #[] }
def k16m7 : Method := { name := "<init>", desc := "(Ljava/lang/AbstractStringBuilder;Ljava/lang/Void;)V", sig := { parameters := [(.object "java/lang/AbstractStringBuilder"), (.object "java/lang/Void")], returnType := none }, accessFlags := 0, code := some k16c7 }
def k16c8 : Code := { maxStack := 1, maxLocals := 1, code := jdk_42_method_152_code, exceptionTable := #[], attributes := #[] }
def k16m8 : Method := { name := "coder", desc := "()B", sig := { parameters := [], returnType := some .byte }, accessFlags := 0, code := some k16c8 }
/-- java/lang/String -/
def k16 : Class := { plain "java/lang/String" (some 0) with
  accessFlags := 49
  interfaces := #[10, 12, 13, 14, 15]
  cf := some (fileOf pool16 10 #[.nestMembers #[1103]] #[{ accessFlags := 1, nameIndex := 5, descriptorIndex := 6, attributes := #[] }, { accessFlags := 1, nameIndex := 5, descriptorIndex := 1010, attributes := #[] }, { accessFlags := 10, nameIndex := 317, descriptorIndex := 537, attributes := #[] }, { accessFlags := 10, nameIndex := 254, descriptorIndex := 255, attributes := #[] }, { accessFlags := 1, nameIndex := 5, descriptorIndex := 1233, attributes := #[] }, { accessFlags := 1, nameIndex := 532, descriptorIndex := 1245, attributes := #[] }, { accessFlags := 2, nameIndex := 5, descriptorIndex := 29, attributes := #[] }, { accessFlags := 0, nameIndex := 5, descriptorIndex := 491, attributes := #[] }, { accessFlags := 0, nameIndex := 17, descriptorIndex := 337, attributes := #[] }] 49 2 #[1106, 1108, 575, 1110, 1112] #[{ accessFlags := 18, nameIndex := 13, descriptorIndex := 14, attributes := #[] }, { accessFlags := 18, nameIndex := 17, descriptorIndex := 18, attributes := #[] }, { accessFlags := 2, nameIndex := 21, descriptorIndex := 22, attributes := #[] }, { accessFlags := 2, nameIndex := 25, descriptorIndex := 26, attributes := #[] }, { accessFlags := 26, nameIndex := 1116, descriptorIndex := 1117, attributes := #[] }, { accessFlags := 24, nameIndex := 40, descriptorIndex := 26, attributes := #[] }, { accessFlags := 26, nameIndex := 1101, descriptorIndex := 1102, attributes := #[] }, { accessFlags := 26, nameIndex := 1121, descriptorIndex := 1122, attributes := #[] }, { accessFlags := 25, nameIndex := 599, descriptorIndex := 600, attributes := #[] }, { accessFlags := 24, nameIndex := 1125, descriptorIndex := 18, attributes := #[] }, { accessFlags := 24, nameIndex := 1127, descriptorIndex := 18, attributes := #[] }])
  fields := #[{ name := "value", type := (.array .byte), accessFlags := 18, slot := 0, constantValue := 0 }, { name := "coder", type := .byte, accessFlags := 18, slot := 1, constantValue := 0 }, { name := "hash", type := .int, accessFlags := 2, slot := 2, constantValue := 0 }, { name := "hashIsZero", type := .boolean, accessFlags := 2, slot := 3, constantValue := 0 }, { name := "serialVersionUID", type := .long, accessFlags := 26, slot := 0, constantValue := 0 }, { name := "COMPACT_STRINGS", type := .boolean, accessFlags := 24, slot := 1, constantValue := 0 }, { name := "serialPersistentFields", type := (.array (.object "java/io/ObjectStreamField")), accessFlags := 26, slot := 2, constantValue := 0 }, { name := "REPL", type := .char, accessFlags := 26, slot := 3, constantValue := 0 }, { name := "CASE_INSENSITIVE_ORDER", type := (.object "java/util/Comparator"), accessFlags := 25, slot := 4, constantValue := 0 }, { name := "LATIN1", type := .byte, accessFlags := 24, slot := 5, constantValue := 0 }, { name := "UTF16", type := .byte, accessFlags := 24, slot := 6, constantValue := 0 }]
  methods := #[k16m0, k16m1, k16m2, k16m3, k16m4, k16m5, k16m6, k16m7, k16m8]
  instanceTypes := #[(.array .byte), .byte, .int, .boolean]
  staticTypes := #[.long, .boolean, (.array (.object "java/io/ObjectStreamField")), .char, (.object "java/util/Comparator"), .byte, .byte]
  resolved := Array.replicate 1451 none
  statics := some 1 }

def pool17 : Array CpInfo := pool [(6, .class_ 8), (1, u "java/lang/Object"), (0, u "<init>"), (0, u "()V"), (1, .class_ 14), (1, u "java/lang/StringUTF16"), (31, u "$assertionsDisabled"), (0, u "Z"), (13, u "HI_BYTE_SHIFT"), (0, u "I"), (2, u "LO_BYTE_SHIFT"), (49, .methodref 12 116), (0, .nameAndType 117 118), (0, u "compress"), (0, u "([CI[BII)I"), (3, u "([CII)[B"), (138, u "coderFromArrayLen"), (0, u "([BI)B"), (106, .class_ 371), (1, u "java/lang/StringUTF16$LinesSpliterator"), (58, u "MAX_LENGTH"), (196, .class_ 628), (0, u "java/lang/StringUTF16$CodePointsSpliterator"), (0, .class_ 630), (0, u "java/lang/StringUTF16$CharsSpliterator")] 4

def k17m0 : Method := { name := "<init>", desc := "()V", sig := { parameters := [], returnType := none }, accessFlags := 0, code := none }
def k17c1 : Code := { maxStack := 2, maxLocals := 2, code := jdk_52_method_15_code, exceptionTable := #[], attributes := #[] }
def k17m1 : Method := { name := "coderFromArrayLen", desc := "([BI)B", sig := { parameters := [(.array .byte), .int], returnType := some .byte }, accessFlags := 8, code := some k17c1 }
def k17c2 : Code := { maxStack := 5, maxLocals := 6, code := jdk_52_method_16_code, exceptionTable := #[], attributes := #[] }
def k17m2 : Method := { name := "compress", desc := "([CII)[B", sig := { parameters := [(.array .char), .int, .int], returnType := some (.array .byte) }, accessFlags := 9, code := some k17c2 }
def k17c3 : Code := { maxStack := 3, maxLocals := 7, code := jdk_52_method_21_code, exceptionTable := #[], attributes := #[] }
def k17m3 : Method := { name := "compress", desc := "([CI[BII)I", sig := { parameters := [(.array .char), .int, (.array .byte), .int, .int], returnType := some .int }, accessFlags := 9, code := some k17c3 }
/-- java/lang/StringUTF16 -/
def k17 : Class := { plain "java/lang/StringUTF16" (some 0) with
  accessFlags := 48
  interfaces := #[]
  cf := some (fileOf pool17 12 #[.nestMembers #[627, 629, 369]] #[{ accessFlags := 0, nameIndex := 9, descriptorIndex := 10, attributes := #[] }, { accessFlags := 8, nameIndex := 261, descriptorIndex := 262, attributes := #[] }, { accessFlags := 9, nameIndex := 117, descriptorIndex := 122, attributes := #[] }, { accessFlags := 9, nameIndex := 117, descriptorIndex := 118, attributes := #[] }] 48 6 #[] #[{ accessFlags := 26, nameIndex := 61, descriptorIndex := 62, attributes := #[] }, { accessFlags := 26, nameIndex := 65, descriptorIndex := 62, attributes := #[] }, { accessFlags := 24, nameIndex := 430, descriptorIndex := 62, attributes := #[] }, { accessFlags := 4120, nameIndex := 46, descriptorIndex := 47, attributes := #[] }])
  fields := #[{ name := "HI_BYTE_SHIFT", type := .int, accessFlags := 26, slot := 0, constantValue := 0 }, { name := "LO_BYTE_SHIFT", type := .int, accessFlags := 26, slot := 1, constantValue := 0 }, { name := "MAX_LENGTH", type := .int, accessFlags := 24, slot := 2, constantValue := 0 }, { name := "$assertionsDisabled", type := .boolean, accessFlags := 4120, slot := 3, constantValue := 0 }]
  methods := #[k17m0, k17m1, k17m2, k17m3]
  instanceTypes := #[]
  staticTypes := #[.int, .int, .int, .boolean]
  resolved := Array.replicate 635 none
  statics := none }

def pool18 : Array CpInfo := pool [(1, .class_ 2), (0, u "java/lang/Math"), (1, .class_ 6), (1, u "java/lang/Object"), (0, u "<init>"), (0, u "()V"), (89, .class_ 100), (1, u "java/lang/Math$RandomNumberGeneratorHolder"), (71, u "negativeZeroFloatBits"), (0, u "J"), (2, u "negativeZeroDoubleBits"), (21, u "max"), (2, u "min"), (43, u "$assertionsDisabled"), (0, u "Z"), (88, u "(II)I"), (2, u "twoToTheDoubleScaleDown"), (0, u "D"), (4, u "twoToTheDoubleScaleUp"), (9, u "E"), (3, u "PI"), (2, u "TAU"), (2, u "DEGREES_TO_RADIANS"), (0, u "RADIANS_TO_DEGREES")] 94

def k18m0 : Method := { name := "<init>", desc := "()V", sig := { parameters := [], returnType := none }, accessFlags := 2, code := none }
def k18c1 : Code := { maxStack := 2, maxLocals := 2, code := jdk_29_method_65_code, exceptionTable := #[], attributes := #[] }
def k18m1 : Method := { name := "max", desc := "(II)I", sig := { parameters := [.int, .int], returnType := some .int }, accessFlags := 9, code := some k18c1 }
def k18c2 : Code := { maxStack := 2, maxLocals := 2, code := jdk_29_method_69_code, exceptionTable := #[], attributes := #[] }
def k18m2 : Method := { name := "min", desc := "(II)I", sig := { parameters := [.int, .int], returnType := some .int }, accessFlags := 9, code := some k18c2 }
/-- java/lang/Math -/
def k18 : Class := { plain "java/lang/Math" (some 0) with
  accessFlags := 49
  interfaces := #[]
  cf := some (fileOf pool18 1 #[.nestMembers #[98]] #[{ accessFlags := 2, nameIndex := 7, descriptorIndex := 8, attributes := #[] }, { accessFlags := 9, nameIndex := 198, descriptorIndex := 335, attributes := #[] }, { accessFlags := 9, nameIndex := 201, descriptorIndex := 335, attributes := #[] }] 49 4 #[] #[{ accessFlags := 25, nameIndex := 354, descriptorIndex := 339, attributes := #[] }, { accessFlags := 25, nameIndex := 358, descriptorIndex := 339, attributes := #[] }, { accessFlags := 25, nameIndex := 361, descriptorIndex := 339, attributes := #[] }, { accessFlags := 26, nameIndex := 364, descriptorIndex := 339, attributes := #[] }, { accessFlags := 26, nameIndex := 365, descriptorIndex := 339, attributes := #[] }, { accessFlags := 26, nameIndex := 172, descriptorIndex := 173, attributes := #[] }, { accessFlags := 26, nameIndex := 176, descriptorIndex := 173, attributes := #[] }, { accessFlags := 8, nameIndex := 344, descriptorIndex := 339, attributes := #[] }, { accessFlags := 8, nameIndex := 338, descriptorIndex := 339, attributes := #[] }, { accessFlags := 4120, nameIndex := 245, descriptorIndex := 246, attributes := #[] }])
  fields := #[{ name := "E", type := .double, accessFlags := 25, slot := 0, constantValue := 0 }, { name := "PI", type := .double, accessFlags := 25, slot := 1, constantValue := 0 }, { name := "TAU", type := .double, accessFlags := 25, slot := 2, constantValue := 0 }, { name := "DEGREES_TO_RADIANS", type := .double, accessFlags := 26, slot := 3, constantValue := 0 }, { name := "RADIANS_TO_DEGREES", type := .double, accessFlags := 26, slot := 4, constantValue := 0 }, { name := "negativeZeroFloatBits", type := .long, accessFlags := 26, slot := 5, constantValue := 0 }, { name := "negativeZeroDoubleBits", type := .long, accessFlags := 26, slot := 6, constantValue := 0 }, { name := "twoToTheDoubleScaleUp", type := .double, accessFlags := 8, slot := 7, constantValue := 0 }, { name := "twoToTheDoubleScaleDown", type := .double, accessFlags := 8, slot := 8, constantValue := 0 }, { name := "$assertionsDisabled", type := .boolean, accessFlags := 4120, slot := 9, constantValue := 0 }]
  methods := #[k18m0, k18m1, k18m2]
  instanceTypes := #[]
  staticTypes := #[.double, .double, .double, .double, .double, .long, .long, .double, .double, .boolean]
  resolved := Array.replicate 460 none
  statics := none }

def pool19 : Array CpInfo := pool [(1, .methodref 2 3), (0, .class_ 4), (0, .nameAndType 5 6), (0, u "java/lang/Object"), (0, u "<init>"), (0, u "()V"), (0, .fieldref 8 9), (0, .class_ 10), (0, .nameAndType 11 12), (0, u "com/example/waymark/waymark/StatCache"), (0, u "entries"), (0, u "Ljava/util/Map;"), (0, .class_ 14), (0, u "java/util/HashMap"), (0, .methodref 13 3), (0, .methodref 8 17), (0, .nameAndType 5 18), (0, u "(Ljava/util/Map;)V"), (1, .class_ 22), (1, u "java/util/Map"), (2, .class_ 26), (0, u "com/example/waymark/waymark/StatCache$Entry"), (24, .fieldref 8 52), (0, .nameAndType 53 54), (0, u "changed"), (0, u "Z"), (7, u "(Ljava/lang/Object;)Z"), (0, .interfaceMethodref 20 64), (0, .nameAndType 65 66), (0, u "keySet"), (0, u "()Ljava/util/Set;"), (0, .interfaceMethodref 68 69), (0, .class_ 70), (0, .nameAndType 71 72), (0, u "java/util/Set"), (0, u "retainAll"), (0, u "(Ljava/util/Collection;)Z"), (0, .class_ 74), (0, u "java/util/ArrayList"), (0, .methodref 73 3), (0, .class_ 77), (0, u "java/util/TreeMap"), (0, .methodref 76 17), (0, .methodref 76 80), (0, .nameAndType 81 66), (0, u "entrySet"), (0, .interfaceMethodref 68 83), (0, .nameAndType 84 85), (0, u "iterator"), (0, u "()Ljava/util/Iterator;"), (0, .interfaceMethodref 87 88), (0, .class_ 89), (0, .nameAndType 90 91), (0, u "java/util/Iterator"), (0, u "hasNext"), (0, u "()Z"), (36, .interfaceMethodref 129 130), (0, .class_ 131), (0, .nameAndType 132 62), (0, u "java/util/List"), (0, u "add"), (0, .methodref 134 135), (0, .class_ 136), (0, .nameAndType 137 138), (0, u "com/example/waymark/waymark/Fields"), (0, u "encode"), (0, u "(Ljava/util/List;)[B"), (56, u "FILE"), (0, u "Ljava/lang/String;"), (6, u "empty"), (0, u "()Lcom/example/waymark/waymark/StatCache;"), (4, u "keepOnly"), (0, u "(Ljava/util/Collection;)V"), (1, u "isChanged"), (0, u "()[B")] 30

def k19c0 : Code := { maxStack := 2, maxLocals := 2, code := prog_24_method_1_code, exceptionTable := #[], attributes := #[] }
def k19m0 : Method := { name := "<init>", desc := "(Ljava/util/Map;)V", sig := { parameters := [(.object "java/util/Map")], returnType := none }, accessFlags := 2, code := some k19c0 }
def k19c1 : Code := { maxStack := 4, maxLocals := 0, code := prog_24_method_2_code, exceptionTable := #[], attributes := #[] }
def k19m1 : Method := { name := "empty", desc := "()Lcom/example/waymark/waymark/StatCache;", sig := { parameters := [], returnType := some (.object "com/example/waymark/waymark/StatCache") }, accessFlags := 8, code := some k19c1 }
def k19c2 : Code := { maxStack := 4, maxLocals := 2, code := prog_24_method_5_code, exceptionTable := #[], attributes := #[] }
def k19m2 : Method := { name := "keepOnly", desc := "(Ljava/util/Collection;)V", sig := { parameters := [(.object "java/util/Collection")], returnType := none }, accessFlags := 0, code := some k19c2 }
def k19c3 : Code := { maxStack := 1, maxLocals := 1, code := prog_24_method_6_code, exceptionTable := #[], attributes := #[] }
def k19m3 : Method := { name := "isChanged", desc := "()Z", sig := { parameters := [], returnType := some .boolean }, accessFlags := 0, code := some k19c3 }
def k19c4 : Code := { maxStack := 11, maxLocals := 5, code := prog_24_method_7_code, exceptionTable := #[], attributes := #[] }
def k19m4 : Method := { name := "encode", desc := "()[B", sig := { parameters := [], returnType := some (.array .byte) }, accessFlags := 0, code := some k19c4 }
/-- com/example/waymark/waymark/StatCache -/
def k19 : Class := { plain "com/example/waymark/waymark/StatCache" (some 0) with
  accessFlags := 48
  interfaces := #[]
  cf := some (fileOf pool19 8 #[.nestMembers #[25]] #[{ accessFlags := 2, nameIndex := 5, descriptorIndex := 18, attributes := #[] }, { accessFlags := 8, nameIndex := 203, descriptorIndex := 204, attributes := #[] }, { accessFlags := 0, nameIndex := 209, descriptorIndex := 210, attributes := #[] }, { accessFlags := 0, nameIndex := 212, descriptorIndex := 91, attributes := #[] }, { accessFlags := 0, nameIndex := 137, descriptorIndex := 213, attributes := #[] }] 48 2 #[] #[{ accessFlags := 26, nameIndex := 195, descriptorIndex := 196, attributes := #[] }, { accessFlags := 18, nameIndex := 11, descriptorIndex := 12, attributes := #[] }, { accessFlags := 2, nameIndex := 53, descriptorIndex := 54, attributes := #[] }])
  fields := #[{ name := "FILE", type := (.object "java/lang/String"), accessFlags := 26, slot := 0, constantValue := 0 }, { name := "entries", type := (.object "java/util/Map"), accessFlags := 18, slot := 0, constantValue := 0 }, { name := "changed", type := .boolean, accessFlags := 2, slot := 1, constantValue := 0 }]
  methods := #[k19m0, k19m1, k19m2, k19m3, k19m4]
  instanceTypes := #[(.object "java/util/Map"), .boolean]
  staticTypes := #[(.object "java/lang/String")]
  resolved := Array.replicate 244 none
  statics := none }

def pool20 : Array CpInfo := pool [(2, .class_ 4), (1, u "java/util/Map"), (13, u "entrySet"), (0, u "()Ljava/util/Set;"), (16, .class_ 37), (0, u "java/util/Map$Entry"), (55, .class_ 94), (0, u "java/lang/Object"), (25, u "size"), (0, u "()I"), (9, u "keySet")] 131

def k20m0 : Method := { name := "size", desc := "()I", sig := { parameters := [], returnType := some .int }, accessFlags := 1025, code := none }
def k20m1 : Method := { name := "keySet", desc := "()Ljava/util/Set;", sig := { parameters := [], returnType := some (.object "java/util/Set") }, accessFlags := 1025, code := none }
def k20m2 : Method := { name := "entrySet", desc := "()Ljava/util/Set;", sig := { parameters := [], returnType := some (.object "java/util/Set") }, accessFlags := 1025, code := none }
/-- java/util/Map -/
def k20 : Class := { plain "java/util/Map" (some 0) with
  accessFlags := 1537
  interfaces := #[]
  cf := some (fileOf pool20 2 #[.nestMembers #[36]] #[{ accessFlags := 1025, nameIndex := 120, descriptorIndex := 121, attributes := #[] }, { accessFlags := 1025, nameIndex := 131, descriptorIndex := 19, attributes := #[] }, { accessFlags := 1025, nameIndex := 18, descriptorIndex := 19, attributes := #[] }] 1537 93 #[] #[])
  fields := #[]
  methods := #[k20m0, k20m1, k20m2]
  instanceTypes := #[]
  staticTypes := #[]
  resolved := Array.replicate 263 none
  statics := none }

def pool21 : Array CpInfo := pool [(1, .methodref 2 3), (0, .class_ 4), (0, .nameAndType 5 6), (0, u "java/lang/Object"), (0, u "<init>"), (0, u "()V"), (1, .class_ 10), (0, .nameAndType 11 12), (0, u "java/util/AbstractMap"), (0, u "entrySet"), (0, u "()Ljava/util/Set;"), (1, .class_ 16), (1, u "java/util/Set"), (3, .interfaceMethodref 14 21), (0, .nameAndType 22 23), (0, u "iterator"), (0, u "()Ljava/util/Iterator;"), (0, .interfaceMethodref 25 26), (0, .class_ 27), (0, .nameAndType 28 29), (0, u "java/util/Iterator"), (0, u "hasNext"), (0, u "()Z"), (22, .interfaceMethodref 53 9), (0, .class_ 54), (0, u "java/util/Map"), (9, u "keySet"), (0, u "Ljava/util/Set;"), (0, .class_ 67), (0, u "java/util/AbstractMap$1"), (5, u "values"), (0, u "Ljava/util/Collection;"), (0, .class_ 76), (0, u "java/util/AbstractMap$2"), (65, u "putAll"), (0, u "(Ljava/util/Map;)V"), (37, .class_ 182), (0, u "java/util/AbstractMap$ViewCollection"), (0, .class_ 184), (0, u "java/util/AbstractMap$SimpleImmutableEntry"), (0, .class_ 186), (0, u "java/util/AbstractMap$SimpleEntry"), (0, .class_ 188), (0, u "java/util/AbstractMap$2$1"), (0, .class_ 190), (0, u "java/util/AbstractMap$1$1")] 5

def k21c0 : Code := { maxStack := 1, maxLocals := 1, code := jdk_71_method_1_code, exceptionTable := #[], attributes := #[] }
def k21m0 : Method := { name := "<init>", desc := "()V", sig := { parameters := [], returnType := none }, accessFlags := 4, code := some k21c0 }
def k21c1 : Code := { maxStack := 3, maxLocals := 4, code := jdk_71_method_9_code, exceptionTable := #[], attributes := #[] }
def k21m1 : Method := { name := "putAll", desc := "(Ljava/util/Map;)V", sig := { parameters := [(.object "java/util/Map")], returnType := none }, accessFlags := 1, code := some k21c1 }
/-- java/util/AbstractMap -/
def k21 : Class := { plain "java/util/AbstractMap" (some 0) with
  accessFlags := 1057
  interfaces := #[20]
  cf := some (fileOf pool21 8 #[.nestMembers #[181, 183, 185, 75, 187, 66, 189]] #[{ accessFlags := 4, nameIndex := 5, descriptorIndex := 6, attributes := #[] }, { accessFlags := 1, nameIndex := 142, descriptorIndex := 143, attributes := #[] }] 1057 2 #[53] #[{ accessFlags := 128, nameIndex := 64, descriptorIndex := 65, attributes := #[] }, { accessFlags := 128, nameIndex := 73, descriptorIndex := 74, attributes := #[] }])
  fields := #[{ name := "keySet", type := (.object "java/util/Set"), accessFlags := 128, slot := 0, constantValue := 0 }, { name := "values", type := (.object "java/util/Collection"), accessFlags := 128, slot := 1, constantValue := 0 }]
  methods := #[k21m0, k21m1]
  instanceTypes := #[(.object "java/util/Set"), (.object "java/util/Collection")]
  staticTypes := #[]
  resolved := Array.replicate 196 none
  statics := none }

def pool22 : Array CpInfo := pool [(6, u "()I"), (33, .class_ 41), (0, u "java/util/HashMap"), (1, .methodref 44 45), (0, .class_ 46), (0, .nameAndType 47 48), (0, u "java/util/AbstractMap"), (0, u "<init>"), (0, u "()V"), (32, .fieldref 40 82), (0, .nameAndType 83 84), (0, u "loadFactor"), (0, u "F"), (5, u "threshold"), (0, u "I"), (0, .float 1061158912), (8, .class_ 103), (1, u "java/util/Map"), (0, u "size"), (2, u "table"), (0, u "[Ljava/util/HashMap$Node;"), (14, u "entrySet"), (0, u "()Ljava/util/Set;"), (31, .fieldref 40 157), (0, .nameAndType 104 91), (5, .class_ 165), (1, u "java/util/HashMap$Node"), (14, .class_ 181), (0, u "java/util/HashMap$TreeNode"), (22, u "modCount"), (34, .fieldref 40 240), (0, .nameAndType 241 242), (0, u "keySet"), (0, u "Ljava/util/Set;"), (0, .class_ 244), (0, u "java/util/HashMap$KeySet"), (0, .methodref 243 246), (0, .nameAndType 47 247), (0, u "(Ljava/util/HashMap;)V"), (15, .class_ 264), (0, u "java/util/HashMap$Values"), (1, .fieldref 40 267), (0, .nameAndType 123 242), (0, .class_ 269), (0, u "java/util/HashMap$EntrySet"), (0, .methodref 268 246), (75, .class_ 348), (1, u "java/util/HashMap$UnsafeHolder"), (43, .class_ 393), (0, u "java/lang/Cloneable"), (0, .class_ 395), (0, u "java/io/Serializable"), (0, u "serialVersionUID"), (0, u "J"), (3, u "DEFAULT_INITIAL_CAPACITY"), (1, u "MAXIMUM_CAPACITY"), (0, u "DEFAULT_LOAD_FACTOR"), (0, u "TREEIFY_THRESHOLD"), (1, u "UNTREEIFY_THRESHOLD"), (1, u "MIN_TREEIFY_CAPACITY"), (186, .class_ 597), (0, u "java/util/HashMap$EntrySpliterator"), (0, .class_ 599), (0, u "java/util/HashMap$ValueSpliterator"), (0, .class_ 601), (0, u "java/util/HashMap$KeySpliterator"), (0, .class_ 603), (0, u "java/util/HashMap$HashMapSpliterator"), (0, .class_ 605), (0, u "java/util/HashMap$EntryIterator"), (0, .class_ 607), (0, u "java/util/HashMap$ValueIterator"), (0, .class_ 609), (0, u "java/util/HashMap$KeyIterator"), (0, .class_ 611), (0, u "java/util/HashMap$HashIterator")] 17

def k22c0 : Code := { maxStack := 2, maxLocals := 1, code := jdk_69_method_7_code, exceptionTable := #[], attributes := #[] }
def k22m0 : Method := { name := "<init>", desc := "()V", sig := { parameters := [], returnType := none }, accessFlags := 1, code := some k22c0 }
def k22c1 : Code := { maxStack := 1, maxLocals := 1, code := jdk_69_method_10_code, exceptionTable := #[], attributes := #[] }
def k22m1 : Method := { name := "size", desc := "()I", sig := { parameters := [], returnType := some .int }, accessFlags := 1, code := some k22c1 }
def k22c2 : Code := { maxStack := 3, maxLocals := 2, code := jdk_69_method_24_code, exceptionTable := #[], attributes := #[] }
def k22m2 : Method := { name := "keySet", desc := "()Ljava/util/Set;", sig := { parameters := [], returnType := some (.object "java/util/Set") }, accessFlags := 1, code := some k22c2 }
def k22c3 : Code := { maxStack := 4, maxLocals := 2, code := jdk_69_method_29_code, exceptionTable := #[], attributes := #[] }
def k22m3 : Method := { name := "entrySet", desc := "()Ljava/util/Set;", sig := { parameters := [], returnType := some (.object "java/util/Set") }, accessFlags := 1, code := some k22c3 }
/-- java/util/HashMap -/
def k22 : Class := { plain "java/util/HashMap" (some 21) with
  accessFlags := 33
  interfaces := #[20, 9, 10]
  cf := some (fileOf pool22 40 #[.nestMembers #[180, 596, 598, 600, 602, 604, 606, 608, 610, 346, 268, 263, 243, 163]] #[{ accessFlags := 1, nameIndex := 47, descriptorIndex := 48, attributes := #[] }, { accessFlags := 1, nameIndex := 104, descriptorIndex := 6, attributes := #[] }, { accessFlags := 1, nameIndex := 241, descriptorIndex := 124, attributes := #[] }, { accessFlags := 1, nameIndex := 123, descriptorIndex := 124, attributes := #[] }] 33 44 #[101, 392, 394] #[{ accessFlags := 26, nameIndex := 396, descriptorIndex := 397, attributes := #[] }, { accessFlags := 24, nameIndex := 401, descriptorIndex := 91, attributes := #[] }, { accessFlags := 24, nameIndex := 403, descriptorIndex := 91, attributes := #[] }, { accessFlags := 24, nameIndex := 404, descriptorIndex := 84, attributes := #[] }, { accessFlags := 24, nameIndex := 405, descriptorIndex := 91, attributes := #[] }, { accessFlags := 24, nameIndex := 407, descriptorIndex := 91, attributes := #[] }, { accessFlags := 24, nameIndex := 409, descriptorIndex := 91, attributes := #[] }, { accessFlags := 128, nameIndex := 107, descriptorIndex := 108, attributes := #[] }, { accessFlags := 128, nameIndex := 123, descriptorIndex := 242, attributes := #[] }, { accessFlags := 128, nameIndex := 104, descriptorIndex := 91, attributes := #[] }, { accessFlags := 128, nameIndex := 204, descriptorIndex := 91, attributes := #[] }, { accessFlags := 0, nameIndex := 90, descriptorIndex := 91, attributes := #[] }, { accessFlags := 16, nameIndex := 83, descriptorIndex := 84, attributes := #[] }])
  fields := #[{ name := "serialVersionUID", type := .long, accessFlags := 26, slot := 0, constantValue := 0 }, { name := "DEFAULT_INITIAL_CAPACITY", type := .int, accessFlags := 24, slot := 1, constantValue := 0 }, { name := "MAXIMUM_CAPACITY", type := .int, accessFlags := 24, slot := 2, constantValue := 0 }, { name := "DEFAULT_LOAD_FACTOR", type := .float, accessFlags := 24, slot := 3, constantValue := 0 }, { name := "TREEIFY_THRESHOLD", type := .int, accessFlags := 24, slot := 4, constantValue := 0 }, { name := "UNTREEIFY_THRESHOLD", type := .int, accessFlags := 24, slot := 5, constantValue := 0 }, { name := "MIN_TREEIFY_CAPACITY", type := .int, accessFlags := 24, slot := 6, constantValue := 0 }, { name := "table", type := (.array (.object "java/util/HashMap$Node")), accessFlags := 128, slot := 2, constantValue := 0 }, { name := "entrySet", type := (.object "java/util/Set"), accessFlags := 128, slot := 3, constantValue := 0 }, { name := "size", type := .int, accessFlags := 128, slot := 4, constantValue := 0 }, { name := "modCount", type := .int, accessFlags := 128, slot := 5, constantValue := 0 }, { name := "threshold", type := .int, accessFlags := 0, slot := 6, constantValue := 0 }, { name := "loadFactor", type := .float, accessFlags := 16, slot := 7, constantValue := 0 }]
  methods := #[k22m0, k22m1, k22m2, k22m3]
  instanceTypes := #[(.object "java/util/Set"), (.object "java/util/Collection"), (.array (.object "java/util/HashMap$Node")), (.object "java/util/Set"), .int, .int, .int, .float]
  staticTypes := #[.long, .int, .int, .float, .int, .int, .int]
  resolved := Array.replicate 629 none
  statics := none }

def pool23 : Array CpInfo := pool [(2, .class_ 4), (1, u "java/util/SequencedMap"), (38, .class_ 44), (0, u "java/util/SequencedMap$1SeqKeySet"), (3, .class_ 49), (0, u "java/util/SequencedMap$1SeqValues"), (1, .class_ 52), (0, u "java/util/SequencedMap$1SeqEntrySet"), (1, .class_ 55), (0, u "java/lang/Object"), (0, .class_ 57), (0, u "java/util/Map")] 48

/-- java/util/SequencedMap -/
def k23 : Class := { plain "java/util/SequencedMap" (some 0) with
  accessFlags := 1537
  interfaces := #[20]
  cf := some (fileOf pool23 2 #[.nestMembers #[51, 48, 43]] #[] 1537 54 #[56] #[])
  fields := #[]
  methods := #[]
  instanceTypes := #[]
  staticTypes := #[]
  resolved := Array.replicate 106 none
  statics := none }

def pool24 : Array CpInfo := pool [(14, .class_ 16), (1, u "java/util/SortedMap"), (2, .class_ 20), (0, u "java/lang/Object"), (0, .class_ 22), (0, u "java/util/SequencedMap")] 50

/-- java/util/SortedMap -/
def k24 : Class := { plain "java/util/SortedMap" (some 0) with
  accessFlags := 1537
  interfaces := #[23]
  cf := some (fileOf pool24 14 #[] #[] 1537 19 #[21] #[])
  fields := #[]
  methods := #[]
  instanceTypes := #[]
  staticTypes := #[]
  resolved := Array.replicate 73 none
  statics := none }

def pool25 : Array CpInfo := pool [(2, .class_ 4), (1, u "java/util/NavigableMap"), (5, .class_ 11), (0, u "java/lang/Object"), (0, .class_ 13), (0, u "java/util/SortedMap")] 53

/-- java/util/NavigableMap -/
def k25 : Class := { plain "java/util/NavigableMap" (some 0) with
  accessFlags := 1537
  interfaces := #[24]
  cf := some (fileOf pool25 2 #[] #[] 1537 10 #[12] #[])
  fields := #[]
  methods := #[]
  instanceTypes := #[]
  staticTypes := #[]
  resolved := Array.replicate 67 none
  statics := none }

def pool26 : Array CpInfo := pool [(1, .methodref 2 3), (0, .class_ 4), (0, .nameAndType 5 6), (0, u "java/util/AbstractMap"), (0, u "<init>"), (0, u "()V"), (0, .fieldref 8 9), (0, .class_ 10), (0, .nameAndType 11 12), (0, u "java/util/TreeMap"), (0, u "size"), (0, u "I"), (0, .fieldref 8 14), (0, .nameAndType 15 12), (0, u "modCount"), (0, .fieldref 8 17), (0, .nameAndType 18 19), (0, u "comparator"), (0, u "Ljava/util/Comparator;"), (0, .methodref 8 21), (0, .nameAndType 22 23), (0, u "putAll"), (0, u "(Ljava/util/Map;)V"), (6, .nameAndType 11 31), (0, u "()I"), (2, u "entrySet"), (0, u "()Ljava/util/Set;"), (20, u "getFirstEntry"), (0, u "()Ljava/util/TreeMap$Entry;"), (1, .class_ 61), (1, u "java/util/TreeMap$Entry"), (1, u "Ljava/lang/Object;"), (18, .interfaceMethodref 83 30), (0, .class_ 84), (0, u "java/util/Map"), (6, .methodref 2 21), (9, .fieldref 8 102), (0, .nameAndType 103 104), (0, u "root"), (0, u "Ljava/util/TreeMap$Entry;"), (83, .fieldref 8 189), (0, .nameAndType 34 190), (0, u "Ljava/util/TreeMap$EntrySet;"), (2, u "navigableKeySet"), (0, u "Ljava/util/TreeMap$KeySet;"), (2, u "descendingMap"), (0, u "Ljava/util/NavigableMap;"), (23, .class_ 223), (0, u "java/util/TreeMap$KeySet"), (7, .class_ 232), (0, u "java/util/NavigableMap"), (4, .class_ 238), (0, u "java/util/TreeMap$Values"), (1, .nameAndType 5 241), (0, u "(Ljava/util/TreeMap;)V"), (0, .class_ 243), (0, u "java/util/TreeMap$EntrySet"), (0, .methodref 242 240), (0, .class_ 246), (0, u "java/util/TreeMap$DescendingSubMap"), (3, .class_ 251), (0, u "java/util/TreeMap$AscendingSubMap"), (17, .class_ 270), (0, u "java/util/TreeMap$KeyIterator"), (3, .class_ 275), (0, u "java/util/TreeMap$DescendingKeyIterator"), (17, u "Z"), (94, .class_ 389), (0, u "java/util/TreeMap$NavigableSubMap"), (1, .class_ 392), (0, u "java/util/TreeMap$KeySpliterator"), (3, .class_ 397), (0, u "java/util/TreeMap$DescendingKeySpliterator"), (4, u "UNBOUNDED"), (0, .class_ 404), (0, u "java/lang/Cloneable"), (0, .class_ 406), (0, u "java/io/Serializable"), (6, u "RED"), (2, u "BLACK"), (1, u "serialVersionUID"), (0, u "J"), (214, .class_ 635), (0, u "java/util/TreeMap$EntrySpliterator"), (0, .class_ 637), (0, u "java/util/TreeMap$ValueSpliterator"), (0, .class_ 639), (0, u "java/util/TreeMap$TreeMapSpliterator"), (0, .class_ 641), (0, u "java/util/TreeMap$SubMap"), (0, .class_ 643), (0, u "java/util/TreeMap$DescendingSubMap$DescendingEntrySetView"), (0, .class_ 645), (0, u "java/util/TreeMap$AscendingSubMap$AscendingEntrySetView"), (0, .class_ 647), (0, u "java/util/TreeMap$NavigableSubMap$DescendingSubMapKeyIterator"), (0, .class_ 649), (0, u "java/util/TreeMap$NavigableSubMap$SubMapKeyIterator"), (0, .class_ 651), (0, u "java/util/TreeMap$NavigableSubMap$DescendingSubMapEntryIterator"), (0, .class_ 653), (0, u "java/util/TreeMap$NavigableSubMap$SubMapEntryIterator"), (0, .class_ 655), (0, u "java/util/TreeMap$NavigableSubMap$SubMapIterator"), (0, .class_ 657), (0, u "java/util/TreeMap$NavigableSubMap$EntrySetView"), (0, .class_ 659), (0, u "java/util/TreeMap$ValueIterator"), (0, .class_ 661), (0, u "java/util/TreeMap$EntryIterator"), (0, .class_ 663), (0, u "java/util/TreeMap$PrivateEntryIterator")] 28

def k26m0 : Method := { name := "<init>", desc := "()V", sig := { parameters := [], returnType := none }, accessFlags := 1, code := none }
def k26c1 : Code := { maxStack := 2, maxLocals := 2, code := jdk_2729_method_3_code, exceptionTable := #[], attributes := #[] }
def k26m1 : Method := { name := "<init>", desc := "(Ljava/util/Map;)V", sig := { parameters := [(.object "java/util/Map")], returnType := none }, accessFlags := 1, code := some k26c1 }
def k26c2 : Code := { maxStack := 5, maxLocals := 4, code := jdk_2729_method_14_code, exceptionTable := #[{ startPc := 54, endPc := 72, handlerPc := 75, catchType := 46 }, { startPc := 54, endPc := 72, handlerPc := 75, catchType := 48 }], attributes := #[] }
def k26m2 : Method := { name := "putAll", desc := "(Ljava/util/Map;)V", sig := { parameters := [(.object "java/util/Map")], returnType := none }, accessFlags := 1, code := some k26c2 }
def k26c3 : Code := { maxStack := 4, maxLocals := 2, code := jdk_2729_method_53_code, exceptionTable := #[], attributes := #[] }
def k26m3 : Method := { name := "entrySet", desc := "()Ljava/util/Set;", sig := { parameters := [], returnType := some (.object "java/util/Set") }, accessFlags := 1, code := some k26c3 }
def k26c4 : Code := { maxStack := 1, maxLocals := 2, code := jdk_2729_method_72_code, exceptionTable := #[], attributes := #[] }
def k26m4 : Method := { name := "getFirstEntry", desc := "()Ljava/util/TreeMap$Entry;", sig := { parameters := [], returnType := some (.object "java/util/TreeMap$Entry") }, accessFlags := 16, code := some k26c4 }
/-- java/util/TreeMap -/
def k26 : Class := { plain "java/util/TreeMap" (some 21) with
  accessFlags := 33
  interfaces := #[25, 9, 10]
  cf := some (fileOf pool26 8 #[.nestMembers #[634, 636, 396, 391, 638, 59, 640, 245, 642, 250, 644, 388, 646, 648, 650, 652, 654, 656, 274, 269, 658, 660, 662, 222, 242, 237]] #[{ accessFlags := 1, nameIndex := 5, descriptorIndex := 6, attributes := #[] }, { accessFlags := 1, nameIndex := 5, descriptorIndex := 23, attributes := #[] }, { accessFlags := 1, nameIndex := 22, descriptorIndex := 23, attributes := #[] }, { accessFlags := 1, nameIndex := 34, descriptorIndex := 35, attributes := #[] }, { accessFlags := 16, nameIndex := 56, descriptorIndex := 57, attributes := #[] }] 33 2 #[231, 403, 405] #[{ accessFlags := 18, nameIndex := 18, descriptorIndex := 19, attributes := #[] }, { accessFlags := 130, nameIndex := 103, descriptorIndex := 104, attributes := #[] }, { accessFlags := 130, nameIndex := 11, descriptorIndex := 12, attributes := #[] }, { accessFlags := 130, nameIndex := 15, descriptorIndex := 12, attributes := #[] }, { accessFlags := 130, nameIndex := 34, descriptorIndex := 190, attributes := #[] }, { accessFlags := 130, nameIndex := 193, descriptorIndex := 194, attributes := #[] }, { accessFlags := 130, nameIndex := 197, descriptorIndex := 198, attributes := #[] }, { accessFlags := 26, nameIndex := 402, descriptorIndex := 63, attributes := #[] }, { accessFlags := 26, nameIndex := 413, descriptorIndex := 293, attributes := #[] }, { accessFlags := 26, nameIndex := 416, descriptorIndex := 293, attributes := #[] }, { accessFlags := 26, nameIndex := 418, descriptorIndex := 419, attributes := #[] }])
  fields := #[{ name := "comparator", type := (.object "java/util/Comparator"), accessFlags := 18, slot := 2, constantValue := 0 }, { name := "root", type := (.object "java/util/TreeMap$Entry"), accessFlags := 130, slot := 3, constantValue := 0 }, { name := "size", type := .int, accessFlags := 130, slot := 4, constantValue := 0 }, { name := "modCount", type := .int, accessFlags := 130, slot := 5, constantValue := 0 }, { name := "entrySet", type := (.object "java/util/TreeMap$EntrySet"), accessFlags := 130, slot := 6, constantValue := 0 }, { name := "navigableKeySet", type := (.object "java/util/TreeMap$KeySet"), accessFlags := 130, slot := 7, constantValue := 0 }, { name := "descendingMap", type := (.object "java/util/NavigableMap"), accessFlags := 130, slot := 8, constantValue := 0 }, { name := "UNBOUNDED", type := (.object "java/lang/Object"), accessFlags := 26, slot := 0, constantValue := 0 }, { name := "RED", type := .boolean, accessFlags := 26, slot := 1, constantValue := 0 }, { name := "BLACK", type := .boolean, accessFlags := 26, slot := 2, constantValue := 0 }, { name := "serialVersionUID", type := .long, accessFlags := 26, slot := 3, constantValue := 0 }]
  methods := #[k26m0, k26m1, k26m2, k26m3, k26m4]
  instanceTypes := #[(.object "java/util/Set"), (.object "java/util/Collection"), (.object "java/util/Comparator"), (.object "java/util/TreeMap$Entry"), .int, .int, (.object "java/util/TreeMap$EntrySet"), (.object "java/util/TreeMap$KeySet"), (.object "java/util/NavigableMap")]
  staticTypes := #[(.object "java/lang/Object"), .boolean, .boolean, .long]
  resolved := Array.replicate 692 none
  statics := none }

def pool27 : Array CpInfo := pool [(26, .class_ 27), (0, u "java/lang/Object"), (5, .class_ 34), (0, u "java/util/Set"), (1, .class_ 38), (1, u "java/util/Collection"), (22, u "iterator"), (0, u "()Ljava/util/Iterator;"), (8, u "(Ljava/util/Collection;)Z"), (3, u "retainAll")] 68

def k27m0 : Method := { name := "iterator", desc := "()Ljava/util/Iterator;", sig := { parameters := [], returnType := some (.object "java/util/Iterator") }, accessFlags := 1025, code := none }
def k27m1 : Method := { name := "retainAll", desc := "(Ljava/util/Collection;)Z", sig := { parameters := [(.object "java/util/Collection")], returnType := some .boolean }, accessFlags := 1025, code := none }
/-- java/util/Set -/
def k27 : Class := { plain "java/util/Set" (some 0) with
  accessFlags := 1537
  interfaces := #[3]
  cf := some (fileOf pool27 33 #[] #[{ accessFlags := 1025, nameIndex := 61, descriptorIndex := 62, attributes := #[] }, { accessFlags := 1025, nameIndex := 75, descriptorIndex := 71, attributes := #[] }] 1537 26 #[36] #[])
  fields := #[]
  methods := #[k27m0, k27m1]
  instanceTypes := #[]
  staticTypes := #[]
  resolved := Array.replicate 144 none
  statics := none }

def pool28 : Array CpInfo := pool [(1, .methodref 2 3), (0, .class_ 4), (0, .nameAndType 5 6), (0, u "java/util/AbstractCollection"), (0, u "<init>"), (0, u "()V"), (0, .class_ 8), (0, u "java/util/Set"), (7, .class_ 17), (0, u "java/util/AbstractSet")] 78

def k28c0 : Code := { maxStack := 1, maxLocals := 1, code := jdk_91_method_1_code, exceptionTable := #[], attributes := #[] }
def k28m0 : Method := { name := "<init>", desc := "()V", sig := { parameters := [], returnType := none }, accessFlags := 4, code := some k28c0 }
/-- java/util/AbstractSet -/
def k28 : Class := { plain "java/util/AbstractSet" (some 4) with
  accessFlags := 1057
  interfaces := #[27]
  cf := some (fileOf pool28 16 #[] #[{ accessFlags := 4, nameIndex := 5, descriptorIndex := 6, attributes := #[] }] 1057 2 #[7] #[])
  fields := #[]
  methods := #[k28m0]
  instanceTypes := #[]
  staticTypes := #[]
  resolved := Array.replicate 96 none
  statics := none }

def pool29 : Array CpInfo := pool [(1, .fieldref 2 3), (0, .class_ 4), (0, .nameAndType 5 6), (0, u "java/util/HashMap$EntrySet"), (0, u "this$0"), (0, u "Ljava/util/HashMap;"), (0, .methodref 8 9), (0, .class_ 10), (0, .nameAndType 11 12), (0, u "java/util/AbstractSet"), (0, u "<init>"), (0, u "()V"), (1, .class_ 16), (1, u "java/util/HashMap"), (5, .class_ 23), (0, u "java/util/HashMap$EntryIterator"), (0, .methodref 22 25), (0, .nameAndType 11 26), (0, u "(Ljava/util/HashMap;)V"), (64, u "iterator"), (0, u "()Ljava/util/Iterator;")] 41

def k29c0 : Code := { maxStack := 2, maxLocals := 2, code := jdk_111_method_1_code, exceptionTable := #[], attributes := #[] }
def k29m0 : Method := { name := "<init>", desc := "(Ljava/util/HashMap;)V", sig := { parameters := [(.object "java/util/HashMap")], returnType := none }, accessFlags := 0, code := some k29c0 }
def k29c1 : Code := { maxStack := 3, maxLocals := 1, code := jdk_111_method_4_code, exceptionTable := #[], attributes := #[] }
def k29m1 : Method := { name := "iterator", desc := "()Ljava/util/Iterator;", sig := { parameters := [], returnType := some (.object "java/util/Iterator") }, accessFlags := 17, code := some k29c1 }
/-- java/util/HashMap$EntrySet -/
def k29 : Class := { plain "java/util/HashMap$EntrySet" (some 28) with
  accessFlags := 48
  interfaces := #[]
  cf := some (fileOf pool29 2 #[.nestHost 14] #[{ accessFlags := 0, nameIndex := 11, descriptorIndex := 26, attributes := #[] }, { accessFlags := 17, nameIndex := 91, descriptorIndex := 92, attributes := #[] }] 48 8 #[] #[{ accessFlags := 4112, nameIndex := 5, descriptorIndex := 6, attributes := #[] }])
  fields := #[{ name := "this$0", type := (.object "java/util/HashMap"), accessFlags := 4112, slot := 0, constantValue := 0 }]
  methods := #[k29m0, k29m1]
  instanceTypes := #[(.object "java/util/HashMap")]
  staticTypes := #[]
  resolved := Array.replicate 134 none
  statics := none }

def pool30 : Array CpInfo := pool [(1, .fieldref 2 3), (0, .class_ 4), (0, .nameAndType 5 6), (0, u "java/util/HashMap$HashIterator"), (0, u "this$0"), (0, u "Ljava/util/HashMap;"), (0, .methodref 8 9), (0, .class_ 10), (0, .nameAndType 11 12), (0, u "java/lang/Object"), (0, u "<init>"), (0, u "()V"), (0, .fieldref 14 15), (0, .class_ 16), (0, .nameAndType 17 18), (0, u "java/util/HashMap"), (0, u "modCount"), (0, u "I"), (0, .fieldref 2 20), (0, .nameAndType 21 18), (0, u "expectedModCount"), (0, .fieldref 14 23), (0, .nameAndType 24 25), (0, u "table"), (0, u "[Ljava/util/HashMap$Node;"), (0, .fieldref 2 27), (0, .nameAndType 28 29), (0, u "next"), (0, u "Ljava/util/HashMap$Node;"), (0, .fieldref 2 31), (0, .nameAndType 32 29), (0, u "current"), (0, .fieldref 2 34), (0, .nameAndType 35 18), (0, u "index"), (28, u "(Ljava/util/HashMap;)V"), (12, u "hasNext"), (0, u "()Z")] 12

def k30c0 : Code := { maxStack := 6, maxLocals := 3, code := jdk_99_method_1_code, exceptionTable := #[], attributes := #[] }
def k30m0 : Method := { name := "<init>", desc := "(Ljava/util/HashMap;)V", sig := { parameters := [(.object "java/util/HashMap")], returnType := none }, accessFlags := 0, code := some k30c0 }
def k30c1 : Code := { maxStack := 1, maxLocals := 1, code := jdk_99_method_2_code, exceptionTable := #[], attributes := #[] }
def k30m1 : Method := { name := "hasNext", desc := "()Z", sig := { parameters := [], returnType := some .boolean }, accessFlags := 17, code := some k30c1 }
/-- java/util/HashMap$HashIterator -/
def k30 : Class := { plain "java/util/HashMap$HashIterator" (some 0) with
  accessFlags := 1056
  interfaces := #[]
  cf := some (fileOf pool30 2 #[.nestHost 14] #[{ accessFlags := 0, nameIndex := 11, descriptorIndex := 64, attributes := #[] }, { accessFlags := 17, nameIndex := 77, descriptorIndex := 78, attributes := #[] }] 1056 8 #[] #[{ accessFlags := 0, nameIndex := 28, descriptorIndex := 29, attributes := #[] }, { accessFlags := 0, nameIndex := 32, descriptorIndex := 29, attributes := #[] }, { accessFlags := 0, nameIndex := 21, descriptorIndex := 18, attributes := #[] }, { accessFlags := 0, nameIndex := 35, descriptorIndex := 18, attributes := #[] }, { accessFlags := 4112, nameIndex := 5, descriptorIndex := 6, attributes := #[] }])
  fields := #[{ name := "next", type := (.object "java/util/HashMap$Node"), accessFlags := 0, slot := 0, constantValue := 0 }, { name := "current", type := (.object "java/util/HashMap$Node"), accessFlags := 0, slot := 1, constantValue := 0 }, { name := "expectedModCount", type := .int, accessFlags := 0, slot := 2, constantValue := 0 }, { name := "index", type := .int, accessFlags := 0, slot := 3, constantValue := 0 }, { name := "this$0", type := (.object "java/util/HashMap"), accessFlags := 4112, slot := 4, constantValue := 0 }]
  methods := #[k30m0, k30m1]
  instanceTypes := #[(.object "java/util/HashMap$Node"), (.object "java/util/HashMap$Node"), .int, .int, (.object "java/util/HashMap")]
  staticTypes := #[]
  resolved := Array.replicate 91 none
  statics := none }

def pool31 : Array CpInfo := pool [(16, .class_ 18), (1, u "java/util/Iterator"), (0, u "hasNext"), (0, u "()Z"), (10, .class_ 32), (0, u "java/lang/Object")] 20

def k31m0 : Method := { name := "hasNext", desc := "()Z", sig := { parameters := [], returnType := some .boolean }, accessFlags := 1025, code := none }
/-- java/util/Iterator -/
def k31 : Class := { plain "java/util/Iterator" (some 0) with
  accessFlags := 1537
  interfaces := #[]
  cf := some (fileOf pool31 16 #[] #[{ accessFlags := 1025, nameIndex := 19, descriptorIndex := 20, attributes := #[] }] 1537 31 #[] #[])
  fields := #[]
  methods := #[k31m0]
  instanceTypes := #[]
  staticTypes := #[]
  resolved := Array.replicate 53 none
  statics := none }

def pool32 : Array CpInfo := pool [(1, .methodref 2 3), (0, .class_ 4), (0, .nameAndType 5 6), (0, u "java/util/HashMap$HashIterator"), (0, u "<init>"), (0, u "(Ljava/util/HashMap;)V"), (1, .class_ 10), (1, u "java/util/HashMap$EntryIterator"), (6, .class_ 18), (0, u "java/util/Iterator"), (17, .class_ 37), (0, u "java/util/HashMap")] 11

def k32c0 : Code := { maxStack := 2, maxLocals := 2, code := jdk_142_method_1_code, exceptionTable := #[], attributes := #[] }
def k32m0 : Method := { name := "<init>", desc := "(Ljava/util/HashMap;)V", sig := { parameters := [(.object "java/util/HashMap")], returnType := none }, accessFlags := 0, code := some k32c0 }
/-- java/util/HashMap$EntryIterator -/
def k32 : Class := { plain "java/util/HashMap$EntryIterator" (some 30) with
  accessFlags := 48
  interfaces := #[31]
  cf := some (fileOf pool32 8 #[.nestHost 36] #[{ accessFlags := 0, nameIndex := 5, descriptorIndex := 6, attributes := #[] }] 48 2 #[17] #[])
  fields := #[]
  methods := #[k32m0]
  instanceTypes := #[(.object "java/util/HashMap$Node"), (.object "java/util/HashMap$Node"), .int, .int, (.object "java/util/HashMap")]
  staticTypes := #[]
  resolved := Array.replicate 49 none
  statics := none }

def pool33 : Array CpInfo := pool [(1, .fieldref 2 3), (0, .class_ 4), (0, .nameAndType 5 6), (0, u "java/util/TreeMap$EntrySet"), (0, u "this$0"), (0, u "Ljava/util/TreeMap;"), (0, .methodref 8 9), (0, .class_ 10), (0, .nameAndType 11 12), (0, u "java/util/AbstractSet"), (0, u "<init>"), (0, u "()V"), (0, .class_ 14), (0, u "java/util/TreeMap$EntryIterator"), (0, .methodref 16 17), (0, .class_ 18), (0, .nameAndType 19 20), (0, u "java/util/TreeMap"), (0, u "getFirstEntry"), (0, u "()Ljava/util/TreeMap$Entry;"), (0, .methodref 13 22), (0, .nameAndType 11 23), (0, u "(Ljava/util/TreeMap;Ljava/util/TreeMap$Entry;)V"), (36, u "(Ljava/util/TreeMap;)V"), (8, u "iterator"), (0, u "()Ljava/util/Iterator;")] 31

def k33c0 : Code := { maxStack := 2, maxLocals := 2, code := jdk_2738_method_1_code, exceptionTable := #[], attributes := #[] }
def k33m0 : Method := { name := "<init>", desc := "(Ljava/util/TreeMap;)V", sig := { parameters := [(.object "java/util/TreeMap")], returnType := none }, accessFlags := 0, code := some k33c0 }
def k33c1 : Code := { maxStack := 4, maxLocals := 1, code := jdk_2738_method_2_code, exceptionTable := #[], attributes := #[] }
def k33m1 : Method := { name := "iterator", desc := "()Ljava/util/Iterator;", sig := { parameters := [], returnType := some (.object "java/util/Iterator") }, accessFlags := 1, code := some k33c1 }
/-- java/util/TreeMap$EntrySet -/
def k33 : Class := { plain "java/util/TreeMap$EntrySet" (some 28) with
  accessFlags := 32
  interfaces := #[]
  cf := some (fileOf pool33 2 #[.nestHost 16] #[{ accessFlags := 0, nameIndex := 11, descriptorIndex := 60, attributes := #[] }, { accessFlags := 1, nameIndex := 69, descriptorIndex := 70, attributes := #[] }] 32 8 #[] #[{ accessFlags := 4112, nameIndex := 5, descriptorIndex := 6, attributes := #[] }])
  fields := #[{ name := "this$0", type := (.object "java/util/TreeMap"), accessFlags := 4112, slot := 0, constantValue := 0 }]
  methods := #[k33m0, k33m1]
  instanceTypes := #[(.object "java/util/TreeMap")]
  staticTypes := #[]
  resolved := Array.replicate 102 none
  statics := none }

def pool34 : Array CpInfo := pool [(1, .fieldref 2 3), (0, .class_ 4), (0, .nameAndType 5 6), (0, u "java/util/TreeMap$PrivateEntryIterator"), (0, u "this$0"), (0, u "Ljava/util/TreeMap;"), (0, .methodref 8 9), (0, .class_ 10), (0, .nameAndType 11 12), (0, u "java/lang/Object"), (0, u "<init>"), (0, u "()V"), (0, .fieldref 14 15), (0, .class_ 16), (0, .nameAndType 17 18), (0, u "java/util/TreeMap"), (0, u "modCount"), (0, u "I"), (0, .fieldref 2 20), (0, .nameAndType 21 18), (0, u "expectedModCount"), (0, .fieldref 2 23), (0, .nameAndType 24 25), (0, u "lastReturned"), (0, u "Ljava/util/TreeMap$Entry;"), (0, .fieldref 2 27), (0, .nameAndType 28 25), (0, u "next"), (28, .class_ 58), (0, u "java/util/Iterator"), (2, u "(Ljava/util/TreeMap;Ljava/util/TreeMap$Entry;)V"), (10, u "hasNext"), (0, u "()Z")] 14

def k34c0 : Code := { maxStack := 2, maxLocals := 3, code := jdk_2750_method_1_code, exceptionTable := #[], attributes := #[] }
def k34m0 : Method := { name := "<init>", desc := "(Ljava/util/TreeMap;Ljava/util/TreeMap$Entry;)V", sig := { parameters := [(.object "java/util/TreeMap"), (.object "java/util/TreeMap$Entry")], returnType := none }, accessFlags := 0, code := some k34c0 }
def k34c1 : Code := { maxStack := 1, maxLocals := 1, code := jdk_2750_method_2_code, exceptionTable := #[], attributes := #[] }
def k34m1 : Method := { name := "hasNext", desc := "()Z", sig := { parameters := [], returnType := some .boolean }, accessFlags := 17, code := some k34c1 }
/-- java/util/TreeMap$PrivateEntryIterator -/
def k34 : Class := { plain "java/util/TreeMap$PrivateEntryIterator" (some 0) with
  accessFlags := 1056
  interfaces := #[31]
  cf := some (fileOf pool34 2 #[.nestHost 14] #[{ accessFlags := 0, nameIndex := 11, descriptorIndex := 61, attributes := #[] }, { accessFlags := 17, nameIndex := 72, descriptorIndex := 73, attributes := #[] }] 1056 8 #[57] #[{ accessFlags := 0, nameIndex := 28, descriptorIndex := 25, attributes := #[] }, { accessFlags := 0, nameIndex := 24, descriptorIndex := 25, attributes := #[] }, { accessFlags := 0, nameIndex := 21, descriptorIndex := 18, attributes := #[] }, { accessFlags := 4112, nameIndex := 5, descriptorIndex := 6, attributes := #[] }])
  fields := #[{ name := "next", type := (.object "java/util/TreeMap$Entry"), accessFlags := 0, slot := 0, constantValue := 0 }, { name := "lastReturned", type := (.object "java/util/TreeMap$Entry"), accessFlags := 0, slot := 1, constantValue := 0 }, { name := "expectedModCount", type := .int, accessFlags := 0, slot := 2, constantValue := 0 }, { name := "this$0", type := (.object "java/util/TreeMap"), accessFlags := 4112, slot := 3, constantValue := 0 }]
  methods := #[k34m0, k34m1]
  instanceTypes := #[(.object "java/util/TreeMap$Entry"), (.object "java/util/TreeMap$Entry"), .int, (.object "java/util/TreeMap")]
  staticTypes := #[]
  resolved := (Array.replicate 88 none).set! 13 (some (.field 26 3))
  statics := none }

def pool35 : Array CpInfo := pool [(1, .methodref 2 3), (0, .class_ 4), (0, .nameAndType 5 6), (0, u "java/util/TreeMap$PrivateEntryIterator"), (0, u "<init>"), (0, u "(Ljava/util/TreeMap;Ljava/util/TreeMap$Entry;)V"), (1, .class_ 10), (1, u "java/util/TreeMap$EntryIterator"), (27, .class_ 39), (0, u "java/util/TreeMap")] 10

def k35c0 : Code := { maxStack := 3, maxLocals := 3, code := jdk_2737_method_1_code, exceptionTable := #[], attributes := #[] }
def k35m0 : Method := { name := "<init>", desc := "(Ljava/util/TreeMap;Ljava/util/TreeMap$Entry;)V", sig := { parameters := [(.object "java/util/TreeMap"), (.object "java/util/TreeMap$Entry")], returnType := none }, accessFlags := 0, code := some k35c0 }
/-- java/util/TreeMap$EntryIterator -/
def k35 : Class := { plain "java/util/TreeMap$EntryIterator" (some 34) with
  accessFlags := 48
  interfaces := #[]
  cf := some (fileOf pool35 8 #[.nestHost 38] #[{ accessFlags := 0, nameIndex := 5, descriptorIndex := 6, attributes := #[] }] 48 2 #[] #[])
  fields := #[]
  methods := #[k35m0]
  instanceTypes := #[(.object "java/util/TreeMap$Entry"), (.object "java/util/TreeMap$Entry"), .int, (.object "java/util/TreeMap")]
  staticTypes := #[]
  resolved := Array.replicate 50 none
  statics := none }

def pool36 : Array CpInfo := pool [(2, .class_ 4), (0, .nameAndType 5 6), (0, u "java/lang/Object"), (0, u "<init>"), (0, u "()V"), (0, .class_ 8), (0, u "java/lang/StringBuilder"), (0, .methodref 7 3), (0, .interfaceMethodref 11 12), (0, .class_ 13), (0, .nameAndType 14 15), (0, u "java/util/List"), (0, u "iterator"), (0, u "()Ljava/util/Iterator;"), (0, .interfaceMethodref 17 18), (0, .class_ 19), (0, .nameAndType 20 21), (0, u "java/util/Iterator"), (0, u "hasNext"), (0, u "()Z"), (4, .class_ 27), (0, u "com/example/waymark/waymark/Fields$Field"), (3, u "()Ljava/lang/String;"), (15, .class_ 49), (1, u "java/lang/String"), (6, .methodref 7 57), (0, .nameAndType 58 31), (0, u "toString"), (0, .fieldref 60 61), (0, .class_ 62), (0, .nameAndType 63 64), (0, u "java/nio/charset/StandardCharsets"), (0, u "UTF_8"), (0, u "Ljava/nio/charset/Charset;"), (0, .methodref 47 66), (0, .nameAndType 67 68), (0, u "getBytes"), (0, u "(Ljava/nio/charset/Charset;)[B"), (62, .class_ 132), (0, u "com/example/waymark/waymark/Fields"), (2, u "encode"), (0, u "(Ljava/util/List;)[B"), (15, .class_ 153), (0, u "com/example/waymark/waymark/Fields$Reader")] 22

def k36m0 : Method := { name := "<init>", desc := "()V", sig := { parameters := [], returnType := none }, accessFlags := 2, code := none }
def k36c1 : Code := { maxStack := 4, maxLocals := 4, code := prog_7_method_2_code, exceptionTable := #[], attributes := #[] }
def k36m1 : Method := { name := "encode", desc := "(Ljava/util/List;)[B", sig := { parameters := [(.object "java/util/List")], returnType := some (.array .byte) }, accessFlags := 8, code := some k36c1 }
/-- com/example/waymark/waymark/Fields -/
def k36 : Class := { plain "com/example/waymark/waymark/Fields" (some 0) with
  accessFlags := 48
  interfaces := #[]
  cf := some (fileOf pool36 131 #[.nestMembers #[152, 26]] #[{ accessFlags := 2, nameIndex := 5, descriptorIndex := 6, attributes := #[] }, { accessFlags := 8, nameIndex := 135, descriptorIndex := 136, attributes := #[] }] 48 2 #[] #[])
  fields := #[]
  methods := #[k36m0, k36m1]
  instanceTypes := #[]
  staticTypes := #[]
  resolved := Array.replicate 176 none
  statics := none }

def pool37 : Array CpInfo := pool [(1, .class_ 2), (0, u "java/lang/Appendable"), (0, .class_ 4), (0, u "java/lang/Object")] 9

/-- java/lang/Appendable -/
def k37 : Class := { plain "java/lang/Appendable" (some 0) with
  accessFlags := 1537
  interfaces := #[]
  cf := some (fileOf pool37 1 #[] #[] 1537 3 #[] #[])
  fields := #[]
  methods := #[]
  instanceTypes := #[]
  staticTypes := #[]
  resolved := Array.replicate 14 none
  statics := none }

def pool38 : Array CpInfo := pool [(1, .class_ 2), (0, u "java/lang/String"), (0, .methodref 4 5), (0, .class_ 6), (0, .nameAndType 7 8), (0, u "java/lang/Object"), (0, u "<init>"), (0, u "()V"), (1, .class_ 12), (1, u "java/lang/AbstractStringBuilder"), (0, u "EMPTYVALUE"), (0, u "[B"), (0, .fieldref 10 16), (0, .nameAndType 17 14), (0, u "value"), (0, .fieldref 1 19), (0, .nameAndType 20 21), (0, u "COMPACT_STRINGS"), (0, u "Z"), (0, .fieldref 10 23), (0, .nameAndType 24 25), (0, u "coder"), (0, u "B"), (8, u "length"), (0, u "()I"), (12, .class_ 49), (0, u "java/lang/CharSequence"), (25, u "maybeLatin1"), (3, .fieldref 10 80), (0, .nameAndType 81 82), (0, u "count"), (0, u "I"), (2, u "isLatin1"), (0, u "()Z"), (16, u "(I)V"), (299, u "()[B"), (40, .class_ 445), (0, u "java/lang/Appendable"), (106, u "getValue")] 56

def k38m0 : Method := { name := "<init>", desc := "()V", sig := { parameters := [], returnType := none }, accessFlags := 0, code := none }
def k38c1 : Code := { maxStack := 2, maxLocals := 2, code := jdk_68_method_2_code, exceptionTable := #[], attributes := #[] }
def k38m1 : Method := { name := "<init>", desc := "(I)V", sig := { parameters := [.int], returnType := none }, accessFlags := 0, code := some k38c1 }
def k38c2 : Code := { maxStack := 1, maxLocals := 1, code := jdk_68_method_6_code, exceptionTable := #[], attributes := #[] }
def k38m2 : Method := { name := "length", desc := "()I", sig := { parameters := [], returnType := some .int }, accessFlags := 1, code := some k38c2 }
def k38c3 : Code := { maxStack := 1, maxLocals := 1, code := jdk_68_method_64_code, exceptionTable := #[], attributes := #[] }
def k38m3 : Method := { name := "getValue", desc := "()[B", sig := { parameters := [], returnType := some (.array .byte) }, accessFlags := 16, code := some k38c3 }
def k38c4 : Code := { maxStack := 1, maxLocals := 1, code := jdk_68_method_68_code, exceptionTable := #[], attributes := #[] }
def k38m4 : Method := { name := "isLatin1", desc := "()Z", sig := { parameters := [], returnType := some .boolean }, accessFlags := 16, code := some k38c4 }
/-- java/lang/AbstractStringBuilder -/
def k38 : Class := { plain "java/lang/AbstractStringBuilder" (some 0) with
  accessFlags := 1056
  interfaces := #[37, 13]
  cf := some (fileOf pool38 10 #[] #[{ accessFlags := 0, nameIndex := 7, descriptorIndex := 8, attributes := #[] }, { accessFlags := 0, nameIndex := 7, descriptorIndex := 103, attributes := #[] }, { accessFlags := 1, nameIndex := 34, descriptorIndex := 35, attributes := #[] }, { accessFlags := 16, nameIndex := 552, descriptorIndex := 403, attributes := #[] }, { accessFlags := 16, nameIndex := 85, descriptorIndex := 86, attributes := #[] }] 1056 4 #[444, 48] #[{ accessFlags := 0, nameIndex := 17, descriptorIndex := 14, attributes := #[] }, { accessFlags := 0, nameIndex := 24, descriptorIndex := 25, attributes := #[] }, { accessFlags := 0, nameIndex := 75, descriptorIndex := 21, attributes := #[] }, { accessFlags := 0, nameIndex := 81, descriptorIndex := 82, attributes := #[] }, { accessFlags := 26, nameIndex := 13, descriptorIndex := 14, attributes := #[] }])
  fields := #[{ name := "value", type := (.array .byte), accessFlags := 0, slot := 0, constantValue := 0 }, { name := "coder", type := .byte, accessFlags := 0, slot := 1, constantValue := 0 }, { name := "maybeLatin1", type := .boolean, accessFlags := 0, slot := 2, constantValue := 0 }, { name := "count", type := .int, accessFlags := 0, slot := 3, constantValue := 0 }, { name := "EMPTYVALUE", type := (.array .byte), accessFlags := 26, slot := 0, constantValue := 0 }]
  methods := #[k38m0, k38m1, k38m2, k38m3, k38m4]
  instanceTypes := #[(.array .byte), .byte, .boolean, .int]
  staticTypes := #[(.array .byte)]
  resolved := Array.replicate 609 none
  statics := none }

def pool39 : Array CpInfo := pool [(1, .methodref 2 3), (0, .class_ 4), (0, .nameAndType 5 6), (0, u "java/lang/AbstractStringBuilder"), (0, u "<init>"), (0, u "(I)V"), (11, .class_ 20), (1, u "java/lang/String"), (3, .class_ 26), (1, u "java/lang/StringBuilder"), (110, .methodref 18 138), (0, .nameAndType 5 139), (0, u "(Ljava/lang/StringBuilder;)V"), (5, u "()V"), (10, u "()I"), (186, .methodref 2 344), (0, .nameAndType 345 156), (0, u "length"), (3, .class_ 350), (0, u "java/lang/Appendable"), (0, .class_ 352), (0, u "java/io/Serializable"), (0, .class_ 354), (0, u "java/lang/Comparable"), (0, .class_ 356), (0, u "java/lang/CharSequence"), (0, u "serialVersionUID"), (0, u "J"), (40, u "toString"), (0, u "()Ljava/lang/String;")] 21

def k39c0 : Code := { maxStack := 2, maxLocals := 1, code := jdk_67_method_1_code, exceptionTable := #[], attributes := #[] }
def k39m0 : Method := { name := "<init>", desc := "()V", sig := { parameters := [], returnType := none }, accessFlags := 1, code := some k39c0 }
def k39c1 : Code := { maxStack := 3, maxLocals := 1, code := jdk_67_method_42_code, exceptionTable := #[], attributes := #[] }
def k39m1 : Method := { name := "toString", desc := "()Ljava/lang/String;", sig := { parameters := [], returnType := some (.object "java/lang/String") }, accessFlags := 1, code := some k39c1 }
def k39c2 : Code := { maxStack := 1, maxLocals := 1, code := jdk_67_method_93_code, exceptionTable := #[], attributes := #[] }
def k39m2 : Method := { name := "length", desc := "()I", sig := { parameters := [], returnType := some .int }, accessFlags := 4161, code := some k39c2 }
/-- java/lang/StringBuilder -/
def k39 : Class := { plain "java/lang/StringBuilder" (some 38) with
  accessFlags := 49
  interfaces := #[37, 10, 12, 13]
  cf := some (fileOf pool39 24 #[] #[{ accessFlags := 1, nameIndex := 5, descriptorIndex := 145, attributes := #[] }, { accessFlags := 1, nameIndex := 399, descriptorIndex := 400, attributes := #[] }, { accessFlags := 4161, nameIndex := 345, descriptorIndex := 156, attributes := #[] }] 49 2 #[349, 351, 353, 355] #[{ accessFlags := 24, nameIndex := 357, descriptorIndex := 358, attributes := #[] }])
  fields := #[{ name := "serialVersionUID", type := .long, accessFlags := 24, slot := 0, constantValue := 0 }]
  methods := #[k39m0, k39m1, k39m2]
  instanceTypes := #[(.array .byte), .byte, .boolean, .int]
  staticTypes := #[.long]
  resolved := Array.replicate 422 none
  statics := none }

def pool40 : Array CpInfo := pool [(1, .fieldref 2 3), (0, .class_ 4), (0, .nameAndType 5 6), (0, u "java/util/ArrayList$Itr"), (0, u "this$0"), (0, u "Ljava/util/ArrayList;"), (0, .methodref 8 9), (0, .class_ 10), (0, .nameAndType 11 12), (0, u "java/lang/Object"), (0, u "<init>"), (0, u "()V"), (0, .fieldref 2 14), (0, .nameAndType 15 16), (0, u "lastRet"), (0, u "I"), (0, .fieldref 18 19), (0, .class_ 20), (0, .nameAndType 21 16), (0, u "java/util/ArrayList"), (0, u "modCount"), (0, .fieldref 2 23), (0, .nameAndType 24 16), (0, u "expectedModCount"), (0, .fieldref 2 26), (0, .nameAndType 27 16), (0, u "cursor"), (0, .fieldref 18 29), (0, .nameAndType 30 16), (0, u "size"), (38, .class_ 70), (0, u "java/util/Iterator"), (0, u "(Ljava/util/ArrayList;)V"), (8, u "hasNext"), (0, u "()Z")] 22

def k40c0 : Code := { maxStack := 2, maxLocals := 2, code := jdk_49_method_1_code, exceptionTable := #[], attributes := #[] }
def k40m0 : Method := { name := "<init>", desc := "(Ljava/util/ArrayList;)V", sig := { parameters := [(.object "java/util/ArrayList")], returnType := none }, accessFlags := 0, code := some k40c0 }
def k40c1 : Code := { maxStack := 2, maxLocals := 1, code := jdk_49_method_2_code, exceptionTable := #[], attributes := #[] }
def k40m1 : Method := { name := "hasNext", desc := "()Z", sig := { parameters := [], returnType := some .boolean }, accessFlags := 1, code := some k40c1 }
/-- java/util/ArrayList$Itr -/
def k40 : Class := { plain "java/util/ArrayList$Itr" (some 0) with
  accessFlags := 32
  interfaces := #[31]
  cf := some (fileOf pool40 2 #[.nestHost 18] #[{ accessFlags := 0, nameIndex := 11, descriptorIndex := 71, attributes := #[] }, { accessFlags := 1, nameIndex := 80, descriptorIndex := 81, attributes := #[] }] 32 8 #[69] #[{ accessFlags := 0, nameIndex := 27, descriptorIndex := 16, attributes := #[] }, { accessFlags := 0, nameIndex := 15, descriptorIndex := 16, attributes := #[] }, { accessFlags := 0, nameIndex := 24, descriptorIndex := 16, attributes := #[] }, { accessFlags := 4112, nameIndex := 5, descriptorIndex := 6, attributes := #[] }])
  fields := #[{ name := "cursor", type := .int, accessFlags := 0, slot := 0, constantValue := 0 }, { name := "lastRet", type := .int, accessFlags := 0, slot := 1, constantValue := 0 }, { name := "expectedModCount", type := .int, accessFlags := 0, slot := 2, constantValue := 0 }, { name := "this$0", type := (.object "java/util/ArrayList"), accessFlags := 4112, slot := 3, constantValue := 0 }]
  methods := #[k40m0, k40m1]
  instanceTypes := #[.int, .int, .int, (.object "java/util/ArrayList")]
  staticTypes := #[]
  resolved := Array.replicate 104 none
  statics := none }

def pool41 : Array CpInfo := pool [(2, .class_ 4), (1, u "java/lang/Object"), (0, u "<init>"), (0, u "()V"), (7, .class_ 16), (1, u "java/util/Arrays"), (57, .class_ 76), (1, u "java/util/Arrays$NaturalOrder"), (36, .class_ 115), (1, u "java/util/Arrays$LegacyMergeSort"), (1, u "Z"), (21, u "copyOfRange"), (10, .methodref 151 152), (0, .class_ 153), (0, .nameAndType 154 155), (0, u "java/lang/System"), (0, u "arraycopy"), (0, u "(Ljava/lang/Object;ILjava/lang/Object;II)V"), (148, .methodref 305 306), (0, .class_ 307), (0, .nameAndType 308 309), (0, u "java/lang/Math"), (0, u "min"), (0, u "(II)I"), (29, .methodref 14 340), (0, .nameAndType 341 342), (0, u "copyOfRangeByte"), (0, u "([BII)[B"), (0, .methodref 14 344), (0, .nameAndType 345 346), (0, u "checkLength"), (0, u "(II)V"), (28, .class_ 376), (0, u "java/util/Arrays$ArrayList"), (68, u "$assertionsDisabled"), (269, u "MIN_ARRAY_SORT_GRAN"), (0, u "I"), (2, u "INSERTIONSORT_THRESHOLD"), (255, .class_ 976), (0, u "java/util/Arrays$ArrayItr")] 52

def k41m0 : Method := { name := "<init>", desc := "()V", sig := { parameters := [], returnType := none }, accessFlags := 2, code := none }
def k41c1 : Code := { maxStack := 4, maxLocals := 2, code := jdk_65_method_131_code, exceptionTable := #[], attributes := #[] }
def k41m1 : Method := { name := "checkLength", desc := "(II)V", sig := { parameters := [.int, .int], returnType := none }, accessFlags := 10, code := some k41c1 }
def k41c2 : Code := { maxStack := 3, maxLocals := 3, code := jdk_65_method_132_code, exceptionTable := #[], attributes := #[] }
def k41m2 : Method := { name := "copyOfRange", desc := "([BII)[B", sig := { parameters := [(.array .byte), .int, .int], returnType := some (.array .byte) }, accessFlags := 9, code := some k41c2 }
def k41c3 : Code := { maxStack := 6, maxLocals := 5, code := jdk_65_method_133_code, exceptionTable := #[], attributes := #[] }
def k41m3 : Method := { name := "copyOfRangeByte", desc := "([BII)[B", sig := { parameters := [(.array .byte), .int, .int], returnType := some (.array .byte) }, accessFlags := 10, code := some k41c3 }
/-- java/util/Arrays -/
def k41 : Class := { plain "java/util/Arrays" (some 0) with
  accessFlags := 49
  interfaces := #[]
  cf := some (fileOf pool41 14 #[.nestMembers #[975, 375, 113, 74]] #[{ accessFlags := 2, nameIndex := 5, descriptorIndex := 6, attributes := #[] }, { accessFlags := 10, nameIndex := 345, descriptorIndex := 346, attributes := #[] }, { accessFlags := 9, nameIndex := 139, descriptorIndex := 342, attributes := #[] }, { accessFlags := 10, nameIndex := 341, descriptorIndex := 342, attributes := #[] }] 49 2 #[] #[{ accessFlags := 26, nameIndex := 715, descriptorIndex := 716, attributes := #[] }, { accessFlags := 26, nameIndex := 719, descriptorIndex := 716, attributes := #[] }, { accessFlags := 4120, nameIndex := 445, descriptorIndex := 117, attributes := #[] }])
  fields := #[{ name := "MIN_ARRAY_SORT_GRAN", type := .int, accessFlags := 26, slot := 0, constantValue := 0 }, { name := "INSERTIONSORT_THRESHOLD", type := .int, accessFlags := 26, slot := 1, constantValue := 0 }, { name := "$assertionsDisabled", type := .boolean, accessFlags := 4120, slot := 2, constantValue := 0 }]
  methods := #[k41m0, k41m1, k41m2, k41m3]
  instanceTypes := #[]
  staticTypes := #[.int, .int, .boolean]
  resolved := Array.replicate 1029 none
  statics := none }

def pool42 : Array CpInfo := pool [(2, .class_ 4), (1, u "java/lang/Object"), (0, u "<init>"), (0, u "()V"), (1, .class_ 10), (1, u "java/lang/System"), (0, u "allowSecurityManager"), (0, u "I"), (16, u "cons"), (0, u "Ljava/io/Console;"), (77, .class_ 110), (1, u "java/lang/System$CallersHolder"), (43, u "initialErrStream"), (0, u "Ljava/io/PrintStream;"), (19, u "security"), (0, u "Ljava/lang/SecurityManager;"), (31, .class_ 209), (0, u "java/lang/System$1"), (7, u "props"), (0, u "Ljava/util/Properties;"), (2, u "lineSeparator"), (0, u "Ljava/lang/String;"), (96, .class_ 321), (1, u "java/lang/System$LoggerFinder"), (5, .class_ 328), (0, u "java/lang/System$Logger"), (67, u "err"), (2, u "out"), (91, u "notSupportedJnuEncoding"), (15, u "in"), (17, u "initialIn"), (0, u "Ljava/io/InputStream;"), (35, u "bootLayer"), (0, u "Ljava/lang/ModuleLayer;"), (99, .class_ 664), (0, u "java/lang/System$2"), (9, u "NEVER"), (2, u "MAYBE"), (49, u "arraycopy"), (0, u "(Ljava/lang/Object;ILjava/lang/Object;II)V"), (72, .class_ 802), (0, u "java/lang/System$Logger$Level")] 31

def k42m0 : Method := { name := "<init>", desc := "()V", sig := { parameters := [], returnType := none }, accessFlags := 2, code := none }
def k42m1 : Method := { name := "arraycopy", desc := "(Ljava/lang/Object;ILjava/lang/Object;II)V", sig := { parameters := [(.object "java/lang/Object"), .int, (.object "java/lang/Object"), .int, .int], returnType := none }, accessFlags := 265, code := none }
/-- java/lang/System -/
def k42 : Class := { plain "java/lang/System" (some 0) with
  accessFlags := 49
  interfaces := #[]
  cf := some (fileOf pool42 8 #[.nestMembers #[319, 327, 801, 108, 663, 208]] #[{ accessFlags := 2, nameIndex := 5, descriptorIndex := 6, attributes := #[] }, { accessFlags := 265, nameIndex := 727, descriptorIndex := 728, attributes := #[] }] 49 2 #[] #[{ accessFlags := 25, nameIndex := 507, descriptorIndex := 526, attributes := #[] }, { accessFlags := 25, nameIndex := 399, descriptorIndex := 155, attributes := #[] }, { accessFlags := 25, nameIndex := 396, descriptorIndex := 155, attributes := #[] }, { accessFlags := 10, nameIndex := 525, descriptorIndex := 526, attributes := #[] }, { accessFlags := 26, nameIndex := 674, descriptorIndex := 12, attributes := #[] }, { accessFlags := 26, nameIndex := 677, descriptorIndex := 12, attributes := #[] }, { accessFlags := 10, nameIndex := 11, descriptorIndex := 12, attributes := #[] }, { accessFlags := 74, nameIndex := 175, descriptorIndex := 176, attributes := #[] }, { accessFlags := 10, nameIndex := 491, descriptorIndex := 222, attributes := #[] }, { accessFlags := 74, nameIndex := 29, descriptorIndex := 30, attributes := #[] }, { accessFlags := 74, nameIndex := 154, descriptorIndex := 155, attributes := #[] }, { accessFlags := 10, nameIndex := 217, descriptorIndex := 218, attributes := #[] }, { accessFlags := 10, nameIndex := 221, descriptorIndex := 222, attributes := #[] }, { accessFlags := 8, nameIndex := 562, descriptorIndex := 563, attributes := #[] }])
  fields := #[{ name := "in", type := (.object "java/io/InputStream"), accessFlags := 25, slot := 0, constantValue := 0 }, { name := "out", type := (.object "java/io/PrintStream"), accessFlags := 25, slot := 1, constantValue := 0 }, { name := "err", type := (.object "java/io/PrintStream"), accessFlags := 25, slot := 2, constantValue := 0 }, { name := "initialIn", type := (.object "java/io/InputStream"), accessFlags := 10, slot := 3, constantValue := 0 }, { name := "NEVER", type := .int, accessFlags := 26, slot := 4, constantValue := 0 }, { name := "MAYBE", type := .int, accessFlags := 26, slot := 5, constantValue := 0 }, { name := "allowSecurityManager", type := .int, accessFlags := 10, slot := 6, constantValue := 0 }, { name := "security", type := (.object "java/lang/SecurityManager"), accessFlags := 74, slot := 7, constantValue := 0 }, { name := "notSupportedJnuEncoding", type := (.object "java/lang/String"), accessFlags := 10, slot := 8, constantValue := 0 }, { name := "cons", type := (.object "java/io/Console"), accessFlags := 74, slot := 9, constantValue := 0 }, { name := "initialErrStream", type := (.object "java/io/PrintStream"), accessFlags := 74, slot := 10, constantValue := 0 }, { name := "props", type := (.object "java/util/Properties"), accessFlags := 10, slot := 11, constantValue := 0 }, { name := "lineSeparator", type := (.object "java/lang/String"), accessFlags := 10, slot := 12, constantValue := 0 }, { name := "bootLayer", type := (.object "java/lang/ModuleLayer"), accessFlags := 8, slot := 13, constantValue := 0 }]
  methods := #[k42m0, k42m1]
  instanceTypes := #[]
  staticTypes := #[(.object "java/io/InputStream"), (.object "java/io/PrintStream"), (.object "java/io/PrintStream"), (.object "java/io/InputStream"), .int, .int, .int, (.object "java/lang/SecurityManager"), (.object "java/lang/String"), (.object "java/io/Console"), (.object "java/io/PrintStream"), (.object "java/util/Properties"), (.object "java/lang/String"), (.object "java/lang/ModuleLayer")]
  resolved := Array.replicate 834 none
  statics := none }

def pool43 : Array CpInfo := pool [(2, .class_ 4), (1, u "java/lang/Object"), (0, u "<init>"), (0, u "()V"), (14, .class_ 23), (1, u "java/nio/charset/StandardCharsets"), (0, u "US_ASCII"), (0, u "Ljava/nio/charset/Charset;"), (7, u "ISO_8859_1"), (7, u "UTF_8"), (5, u "UTF_16BE"), (5, u "UTF_16LE"), (5, u "UTF_16")] 8

def k43m0 : Method := { name := "<init>", desc := "()V", sig := { parameters := [], returnType := none }, accessFlags := 2, code := none }
/-- java/nio/charset/StandardCharsets -/
def k43 : Class := { plain "java/nio/charset/StandardCharsets" (some 0) with
  accessFlags := 49
  interfaces := #[]
  cf := some (fileOf pool43 21 #[] #[{ accessFlags := 2, nameIndex := 5, descriptorIndex := 6, attributes := #[] }] 49 2 #[] #[{ accessFlags := 25, nameIndex := 24, descriptorIndex := 25, attributes := #[] }, { accessFlags := 25, nameIndex := 33, descriptorIndex := 25, attributes := #[] }, { accessFlags := 25, nameIndex := 41, descriptorIndex := 25, attributes := #[] }, { accessFlags := 25, nameIndex := 47, descriptorIndex := 25, attributes := #[] }, { accessFlags := 25, nameIndex := 53, descriptorIndex := 25, attributes := #[] }, { accessFlags := 25, nameIndex := 59, descriptorIndex := 25, attributes := #[] }])
  fields := #[{ name := "US_ASCII", type := (.object "java/nio/charset/Charset"), accessFlags := 25, slot := 0, constantValue := 0 }, { name := "ISO_8859_1", type := (.object "java/nio/charset/Charset"), accessFlags := 25, slot := 1, constantValue := 0 }, { name := "UTF_8", type := (.object "java/nio/charset/Charset"), accessFlags := 25, slot := 2, constantValue := 0 }, { name := "UTF_16BE", type := (.object "java/nio/charset/Charset"), accessFlags := 25, slot := 3, constantValue := 0 }, { name := "UTF_16LE", type := (.object "java/nio/charset/Charset"), accessFlags := 25, slot := 4, constantValue := 0 }, { name := "UTF_16", type := (.object "java/nio/charset/Charset"), accessFlags := 25, slot := 5, constantValue := 0 }]
  methods := #[k43m0]
  instanceTypes := #[]
  staticTypes := #[(.object "java/nio/charset/Charset"), (.object "java/nio/charset/Charset"), (.object "java/nio/charset/Charset"), (.object "java/nio/charset/Charset"), (.object "java/nio/charset/Charset"), (.object "java/nio/charset/Charset")]
  resolved := Array.replicate 68 none
  statics := some 2 }

def pool44 : Array CpInfo := pool [(18, .class_ 20), (1, u "java/nio/charset/Charset"), (0, u "cache1"), (0, u "[Ljava/lang/Object;"), (2, u "cache2"), (0, .class_ 27), (0, u "java/lang/Object"), (0, .class_ 29), (0, u "java/nio/charset/Charset$1"), (4, .class_ 36), (1, u "java/nio/charset/Charset$ThreadTrackHolder"), (21, .class_ 59), (0, u "java/nio/charset/Charset$2"), (11, .class_ 73), (1, u "java/nio/charset/Charset$ExtendedProviderHolder"), (22, u "standardProvider"), (0, u "Ljava/nio/charset/spi/CharsetProvider;"), (29, u "name"), (7, .class_ 136), (0, u "java/nio/charset/Charset$3"), (5, u "defaultCharset"), (0, u "Ljava/nio/charset/Charset;"), (14, u "zeroAliases"), (0, u "[Ljava/lang/String;"), (29, u "Ljava/lang/String;"), (2, u "aliases"), (2, u "aliasSet"), (0, u "Ljava/util/Set;"), (82, .class_ 280), (0, u "java/lang/Comparable"), (84, .class_ 366), (0, u "java/nio/charset/Charset$ExtendedProviderHolder$1")] 3

/-- java/nio/charset/Charset -/
def k44 : Class := { plain "java/nio/charset/Charset" (some 0) with
  accessFlags := 1057
  interfaces := #[12]
  cf := some (fileOf pool44 18 #[.nestMembers #[71, 365, 34, 135, 58, 28]] #[] 1057 26 #[279] #[{ accessFlags := 26, nameIndex := 96, descriptorIndex := 97, attributes := #[] }, { accessFlags := 26, nameIndex := 158, descriptorIndex := 159, attributes := #[] }, { accessFlags := 74, nameIndex := 21, descriptorIndex := 22, attributes := #[] }, { accessFlags := 74, nameIndex := 25, descriptorIndex := 22, attributes := #[] }, { accessFlags := 10, nameIndex := 142, descriptorIndex := 143, attributes := #[] }, { accessFlags := 18, nameIndex := 127, descriptorIndex := 189, attributes := #[] }, { accessFlags := 18, nameIndex := 192, descriptorIndex := 159, attributes := #[] }, { accessFlags := 2, nameIndex := 195, descriptorIndex := 196, attributes := #[] }])
  fields := #[{ name := "standardProvider", type := (.object "java/nio/charset/spi/CharsetProvider"), accessFlags := 26, slot := 0, constantValue := 0 }, { name := "zeroAliases", type := (.array (.object "java/lang/String")), accessFlags := 26, slot := 1, constantValue := 0 }, { name := "cache1", type := (.array (.object "java/lang/Object")), accessFlags := 74, slot := 2, constantValue := 0 }, { name := "cache2", type := (.array (.object "java/lang/Object")), accessFlags := 74, slot := 3, constantValue := 0 }, { name := "defaultCharset", type := (.object "java/nio/charset/Charset"), accessFlags := 10, slot := 4, constantValue := 0 }, { name := "name", type := (.object "java/lang/String"), accessFlags := 18, slot := 0, constantValue := 0 }, { name := "aliases", type := (.array (.object "java/lang/String")), accessFlags := 18, slot := 1, constantValue := 0 }, { name := "aliasSet", type := (.object "java/util/Set"), accessFlags := 2, slot := 2, constantValue := 0 }]
  methods := #[]
  instanceTypes := #[(.object "java/lang/String"), (.array (.object "java/lang/String")), (.object "java/util/Set")]
  staticTypes := #[(.object "java/nio/charset/spi/CharsetProvider"), (.array (.object "java/lang/String")), (.array (.object "java/lang/Object")), (.array (.object "java/lang/Object")), (.object "java/nio/charset/Charset")]
  resolved := Array.replicate 370 none
  statics := none }

def pool45 : Array CpInfo := pool [(1, .class_ 2), (0, u "sun/nio/cs/HistoricallyNamedCharset"), (0, .class_ 4), (0, u "java/lang/Object")] 4

/-- sun/nio/cs/HistoricallyNamedCharset -/
def k45 : Class := { plain "sun/nio/cs/HistoricallyNamedCharset" (some 0) with
  accessFlags := 1537
  interfaces := #[]
  cf := some (fileOf pool45 1 #[] #[] 1537 3 #[] #[])
  fields := #[]
  methods := #[]
  instanceTypes := #[]
  staticTypes := #[]
  resolved := Array.replicate 9 none
  statics := none }

def pool46 : Array CpInfo := pool [(2, .class_ 4), (1, u "java/nio/charset/Charset"), (130, .class_ 136), (0, u "sun/nio/cs/Unicode"), (0, .class_ 138), (0, u "sun/nio/cs/HistoricallyNamedCharset")] 15

/-- sun/nio/cs/Unicode -/
def k46 : Class := { plain "sun/nio/cs/Unicode" (some 44) with
  accessFlags := 1056
  interfaces := #[45]
  cf := some (fileOf pool46 135 #[] #[] 1056 2 #[137] #[])
  fields := #[]
  methods := #[]
  instanceTypes := #[(.object "java/lang/String"), (.array (.object "java/lang/String")), (.object "java/util/Set")]
  staticTypes := #[]
  resolved := Array.replicate 154 none
  statics := none }

def pool47 : Array CpInfo := pool [(10, .class_ 12), (1, u "sun/nio/cs/Unicode"), (0, u "<init>"), (3, .class_ 18), (0, u "sun/nio/cs/UTF_8$Decoder"), (3, .class_ 23), (0, u "sun/nio/cs/UTF_8$Encoder"), (15, .class_ 40), (0, u "sun/nio/cs/UTF_8"), (2, u "()V"), (2, u "INSTANCE"), (0, u "Lsun/nio/cs/UTF_8;"), (8, u "JLA"), (0, u "Ljdk/internal/access/JavaLangAccess;")] 26

def k47m0 : Method := { name := "<init>", desc := "()V", sig := { parameters := [], returnType := none }, accessFlags := 1, code := none }
/-- sun/nio/cs/UTF_8 -/
def k47 : Class := { plain "sun/nio/cs/UTF_8" (some 46) with
  accessFlags := 49
  interfaces := #[]
  cf := some (fileOf pool47 39 #[.nestMembers #[22, 17]] #[{ accessFlags := 1, nameIndex := 13, descriptorIndex := 43, attributes := #[] }] 49 10 #[] #[{ accessFlags := 25, nameIndex := 46, descriptorIndex := 47, attributes := #[] }, { accessFlags := 26, nameIndex := 56, descriptorIndex := 57, attributes := #[] }])
  fields := #[{ name := "INSTANCE", type := (.object "sun/nio/cs/UTF_8"), accessFlags := 25, slot := 0, constantValue := 0 }, { name := "JLA", type := (.object "jdk/internal/access/JavaLangAccess"), accessFlags := 26, slot := 1, constantValue := 0 }]
  methods := #[k47m0]
  instanceTypes := #[(.object "java/lang/String"), (.array (.object "java/lang/String")), (.object "java/util/Set")]
  staticTypes := #[(.object "sun/nio/cs/UTF_8"), (.object "jdk/internal/access/JavaLangAccess")]
  resolved := Array.replicate 84 none
  statics := some 3 }

def pool48 : Array CpInfo := pool [(2, .class_ 4), (1, u "java/lang/Object"), (0, u "<init>"), (0, u "()V"), (0, .methodref 8 9), (0, .class_ 10), (0, .nameAndType 11 12), (0, u "java/lang/StringCoding"), (0, u "countPositives"), (0, u "([BII)I"), (11, u "hasNegatives"), (0, u "([BII)Z")] 23

def k48m0 : Method := { name := "<init>", desc := "()V", sig := { parameters := [], returnType := none }, accessFlags := 2, code := none }
def k48c1 : Code := { maxStack := 3, maxLocals := 3, code := jdk_123_method_2_code, exceptionTable := #[], attributes := #[] }
def k48m1 : Method := { name := "hasNegatives", desc := "([BII)Z", sig := { parameters := [(.array .byte), .int, .int], returnType := some .boolean }, accessFlags := 9, code := some k48c1 }
def k48c2 : Code := { maxStack := 2, maxLocals := 5, code := jdk_123_method_3_code, exceptionTable := #[], attributes := #[] }
def k48m2 : Method := { name := "countPositives", desc := "([BII)I", sig := { parameters := [(.array .byte), .int, .int], returnType := some .int }, accessFlags := 9, code := some k48c2 }
/-- java/lang/StringCoding -/
def k48 : Class := { plain "java/lang/StringCoding" (some 0) with
  accessFlags := 32
  interfaces := #[]
  cf := some (fileOf pool48 8 #[] #[{ accessFlags := 2, nameIndex := 5, descriptorIndex := 6, attributes := #[] }, { accessFlags := 9, nameIndex := 24, descriptorIndex := 25, attributes := #[] }, { accessFlags := 9, nameIndex := 11, descriptorIndex := 12, attributes := #[] }] 32 2 #[] #[])
  fields := #[]
  methods := #[k48m0, k48m1, k48m2]
  instanceTypes := #[]
  staticTypes := #[]
  resolved := Array.replicate 49 none
  statics := none }

def pool49 : Array CpInfo := pool [(1, .fieldref 2 3), (0, .class_ 4), (0, .nameAndType 5 6), (0, u "java/util/HashMap$KeySet"), (0, u "this$0"), (0, u "Ljava/util/HashMap;"), (0, .methodref 8 9), (0, .class_ 10), (0, .nameAndType 11 12), (0, u "java/util/AbstractSet"), (0, u "<init>"), (0, u "()V"), (1, .class_ 16), (1, u "java/util/HashMap"), (5, .class_ 23), (0, u "java/util/HashMap$KeyIterator"), (0, .methodref 22 25), (0, .nameAndType 11 26), (0, u "(Ljava/util/HashMap;)V"), (64, u "iterator"), (0, u "()Ljava/util/Iterator;")] 36

def k49c0 : Code := { maxStack := 2, maxLocals := 2, code := jdk_97_method_1_code, exceptionTable := #[], attributes := #[] }
def k49m0 : Method := { name := "<init>", desc := "(Ljava/util/HashMap;)V", sig := { parameters := [(.object "java/util/HashMap")], returnType := none }, accessFlags := 0, code := some k49c0 }
def k49c1 : Code := { maxStack := 3, maxLocals := 1, code := jdk_97_method_4_code, exceptionTable := #[], attributes := #[] }
def k49m1 : Method := { name := "iterator", desc := "()Ljava/util/Iterator;", sig := { parameters := [], returnType := some (.object "java/util/Iterator") }, accessFlags := 17, code := some k49c1 }
/-- java/util/HashMap$KeySet -/
def k49 : Class := { plain "java/util/HashMap$KeySet" (some 28) with
  accessFlags := 48
  interfaces := #[]
  cf := some (fileOf pool49 2 #[.nestHost 14] #[{ accessFlags := 0, nameIndex := 11, descriptorIndex := 26, attributes := #[] }, { accessFlags := 17, nameIndex := 91, descriptorIndex := 92, attributes := #[] }] 48 8 #[] #[{ accessFlags := 4112, nameIndex := 5, descriptorIndex := 6, attributes := #[] }])
  fields := #[{ name := "this$0", type := (.object "java/util/HashMap"), accessFlags := 4112, slot := 0, constantValue := 0 }]
  methods := #[k49m0, k49m1]
  instanceTypes := #[(.object "java/util/HashMap")]
  staticTypes := #[]
  resolved := Array.replicate 129 none
  statics := none }

def pool50 : Array CpInfo := pool [(2, .class_ 4), (1, u "java/lang/Object"), (0, u "<init>"), (0, u "()V"), (35, .class_ 44), (1, u "java/util/Objects"), (0, u "requireNonNull"), (0, u "(Ljava/lang/Object;)Ljava/lang/Object;")] 137

def k50m0 : Method := { name := "<init>", desc := "()V", sig := { parameters := [], returnType := none }, accessFlags := 2, code := none }
def k50c1 : Code := { maxStack := 2, maxLocals := 1, code := jdk_31_method_10_code, exceptionTable := #[], attributes := #[] }
def k50m1 : Method := { name := "requireNonNull", desc := "(Ljava/lang/Object;)Ljava/lang/Object;", sig := { parameters := [(.object "java/lang/Object")], returnType := some (.object "java/lang/Object") }, accessFlags := 9, code := some k50c1 }
/-- java/util/Objects -/
def k50 : Class := { plain "java/util/Objects" (some 0) with
  accessFlags := 49
  interfaces := #[]
  cf := some (fileOf pool50 42 #[] #[{ accessFlags := 2, nameIndex := 5, descriptorIndex := 6, attributes := #[] }, { accessFlags := 9, nameIndex := 45, descriptorIndex := 46, attributes := #[] }] 49 2 #[] #[])
  fields := #[]
  methods := #[k50m0, k50m1]
  instanceTypes := #[]
  staticTypes := #[]
  resolved := Array.replicate 184 none
  statics := none }

def pool51 : Array CpInfo := pool [(1, .methodref 2 3), (0, .class_ 4), (0, .nameAndType 5 6), (0, u "java/util/HashMap$HashIterator"), (0, u "<init>"), (0, u "(Ljava/util/HashMap;)V"), (1, .class_ 10), (1, u "java/util/HashMap$KeyIterator"), (8, .class_ 20), (0, u "java/util/Iterator"), (18, .class_ 40), (0, u "java/util/HashMap")] 4

def k51c0 : Code := { maxStack := 2, maxLocals := 2, code := jdk_98_method_1_code, exceptionTable := #[], attributes := #[] }
def k51m0 : Method := { name := "<init>", desc := "(Ljava/util/HashMap;)V", sig := { parameters := [(.object "java/util/HashMap")], returnType := none }, accessFlags := 0, code := some k51c0 }
/-- java/util/HashMap$KeyIterator -/
def k51 : Class := { plain "java/util/HashMap$KeyIterator" (some 30) with
  accessFlags := 48
  interfaces := #[31]
  cf := some (fileOf pool51 8 #[.nestHost 39] #[{ accessFlags := 0, nameIndex := 5, descriptorIndex := 6, attributes := #[] }] 48 2 #[19] #[])
  fields := #[]
  methods := #[k51m0]
  instanceTypes := #[(.object "java/util/HashMap$Node"), (.object "java/util/HashMap$Node"), .int, .int, (.object "java/util/HashMap")]
  staticTypes := #[]
  resolved := Array.replicate 45 none
  statics := none }

def pool52 : Array CpInfo := pool [(4, .class_ 6), (1, u "java/lang/Object"), (0, u "<init>"), (0, u "()V"), (5, .class_ 16), (1, u "java/lang/StringLatin1"), (104, u "$assertionsDisabled"), (0, u "Z"), (98, .class_ 223), (1, u "java/lang/StringLatin1$LinesSpliterator"), (166, .class_ 391), (0, u "java/lang/StringLatin1$CharsSpliterator")] 3

def k52m0 : Method := { name := "<init>", desc := "()V", sig := { parameters := [], returnType := none }, accessFlags := 0, code := none }
/-- java/lang/StringLatin1 -/
def k52 : Class := { plain "java/lang/StringLatin1" (some 0) with
  accessFlags := 48
  interfaces := #[]
  cf := some (fileOf pool52 14 #[.nestMembers #[390, 221]] #[{ accessFlags := 0, nameIndex := 7, descriptorIndex := 8, attributes := #[] }] 48 4 #[] #[{ accessFlags := 4120, nameIndex := 121, descriptorIndex := 122, attributes := #[] }])
  fields := #[{ name := "$assertionsDisabled", type := .boolean, accessFlags := 4120, slot := 0, constantValue := 0 }]
  methods := #[k52m0]
  instanceTypes := #[]
  staticTypes := #[.boolean]
  resolved := Array.replicate 395 none
  statics := none }

def pool53 : Array CpInfo := pool [(2, .class_ 4), (1, u "java/lang/Object"), (0, u "<init>"), (0, u "()V"), (17, .class_ 26), (1, u "jdk/internal/util/Preconditions"), (28, .class_ 56), (0, u "jdk/internal/util/Preconditions$4"), (57, .class_ 115), (0, u "jdk/internal/util/Preconditions$1"), (7, u "SIOOBE_FORMATTER"), (0, u "Ljava/util/function/BiFunction;"), (0, .class_ 126), (0, u "jdk/internal/util/Preconditions$2"), (3, u "AIOOBE_FORMATTER"), (0, .class_ 132), (0, u "jdk/internal/util/Preconditions$3"), (3, u "IOOBE_FORMATTER")] 57

def k53m0 : Method := { name := "<init>", desc := "()V", sig := { parameters := [], returnType := none }, accessFlags := 1, code := none }
/-- jdk/internal/util/Preconditions -/
def k53 : Class := { plain "jdk/internal/util/Preconditions" (some 0) with
  accessFlags := 33
  interfaces := #[]
  cf := some (fileOf pool53 24 #[.nestMembers #[55, 131, 125, 114]] #[{ accessFlags := 1, nameIndex := 5, descriptorIndex := 6, attributes := #[] }] 33 2 #[] #[{ accessFlags := 25, nameIndex := 123, descriptorIndex := 124, attributes := #[] }, { accessFlags := 25, nameIndex := 130, descriptorIndex := 124, attributes := #[] }, { accessFlags := 25, nameIndex := 136, descriptorIndex := 124, attributes := #[] }])
  fields := #[{ name := "SIOOBE_FORMATTER", type := (.object "java/util/function/BiFunction"), accessFlags := 25, slot := 0, constantValue := 0 }, { name := "AIOOBE_FORMATTER", type := (.object "java/util/function/BiFunction"), accessFlags := 25, slot := 1, constantValue := 0 }, { name := "IOOBE_FORMATTER", type := (.object "java/util/function/BiFunction"), accessFlags := 25, slot := 2, constantValue := 0 }]
  methods := #[k53m0]
  instanceTypes := #[]
  staticTypes := #[(.object "java/util/function/BiFunction"), (.object "java/util/function/BiFunction"), (.object "java/util/function/BiFunction")]
  resolved := Array.replicate 194 none
  statics := some 4 }

def pool54 : Array CpInfo := pool [(9, u "<init>"), (6, .class_ 18), (1, u "java/lang/Object"), (0, u "()V"), (1, .class_ 23), (1, u "jdk/internal/util/ArraysSupport"), (0, u "LOG2_ARRAY_LONG_INDEX_SCALE"), (0, u "I"), (2, u "U"), (0, u "Ljdk/internal/misc/Unsafe;"), (8, u "BIG_ENDIAN"), (0, u "Z"), (8, u "LOG2_BYTE_BIT_SIZE"), (4, u "LOG2_ARRAY_INT_INDEX_SCALE"), (54, u "JLA"), (0, u "Ljdk/internal/access/JavaLangAccess;"), (11, u "LOG2_ARRAY_BOOLEAN_INDEX_SCALE"), (9, u "LOG2_ARRAY_BYTE_INDEX_SCALE"), (5, u "LOG2_ARRAY_CHAR_INDEX_SCALE"), (5, u "LOG2_ARRAY_SHORT_INDEX_SCALE"), (18, u "LOG2_ARRAY_FLOAT_INDEX_SCALE"), (24, u "LOG2_ARRAY_DOUBLE_INDEX_SCALE"), (89, u "T_BOOLEAN"), (2, u "T_CHAR"), (1, u "T_FLOAT"), (1, u "T_DOUBLE"), (1, u "T_BYTE"), (1, u "T_SHORT"), (1, u "T_INT"), (1, u "T_LONG"), (1, u "SOFT_MAX_ARRAY_LENGTH")] 83

def k54m0 : Method := { name := "<init>", desc := "()V", sig := { parameters := [], returnType := none }, accessFlags := 2, code := none }
/-- jdk/internal/util/ArraysSupport -/
def k54 : Class := { plain "jdk/internal/util/ArraysSupport" (some 0) with
  accessFlags := 33
  interfaces := #[]
  cf := some (fileOf pool54 21 #[] #[{ accessFlags := 2, nameIndex := 9, descriptorIndex := 19, attributes := #[] }] 33 16 #[] #[{ accessFlags := 24, nameIndex := 28, descriptorIndex := 29, attributes := #[] }, { accessFlags := 26, nameIndex := 38, descriptorIndex := 39, attributes := #[] }, { accessFlags := 25, nameIndex := 121, descriptorIndex := 25, attributes := #[] }, { accessFlags := 25, nameIndex := 131, descriptorIndex := 25, attributes := #[] }, { accessFlags := 25, nameIndex := 137, descriptorIndex := 25, attributes := #[] }, { accessFlags := 25, nameIndex := 143, descriptorIndex := 25, attributes := #[] }, { accessFlags := 25, nameIndex := 53, descriptorIndex := 25, attributes := #[] }, { accessFlags := 25, nameIndex := 24, descriptorIndex := 25, attributes := #[] }, { accessFlags := 25, nameIndex := 162, descriptorIndex := 25, attributes := #[] }, { accessFlags := 25, nameIndex := 187, descriptorIndex := 25, attributes := #[] }, { accessFlags := 26, nameIndex := 48, descriptorIndex := 25, attributes := #[] }, { accessFlags := 25, nameIndex := 277, descriptorIndex := 25, attributes := #[] }, { accessFlags := 25, nameIndex := 280, descriptorIndex := 25, attributes := #[] }, { accessFlags := 25, nameIndex := 282, descriptorIndex := 25, attributes := #[] }, { accessFlags := 25, nameIndex := 284, descriptorIndex := 25, attributes := #[] }, { accessFlags := 25, nameIndex := 286, descriptorIndex := 25, attributes := #[] }, { accessFlags := 25, nameIndex := 288, descriptorIndex := 25, attributes := #[] }, { accessFlags := 25, nameIndex := 290, descriptorIndex := 25, attributes := #[] }, { accessFlags := 25, nameIndex := 292, descriptorIndex := 25, attributes := #[] }, { accessFlags := 26, nameIndex := 108, descriptorIndex := 109, attributes := #[] }, { accessFlags := 25, nameIndex := 294, descriptorIndex := 25, attributes := #[] }])
  fields := #[{ name := "U", type := (.object "jdk/internal/misc/Unsafe"), accessFlags := 24, slot := 0, constantValue := 0 }, { name := "BIG_ENDIAN", type := .boolean, accessFlags := 26, slot := 1, constantValue := 0 }, { name := "LOG2_ARRAY_BOOLEAN_INDEX_SCALE", type := .int, accessFlags := 25, slot := 2, constantValue := 0 }, { name := "LOG2_ARRAY_BYTE_INDEX_SCALE", type := .int, accessFlags := 25, slot := 3, constantValue := 0 }, { name := "LOG2_ARRAY_CHAR_INDEX_SCALE", type := .int, accessFlags := 25, slot := 4, constantValue := 0 }, { name := "LOG2_ARRAY_SHORT_INDEX_SCALE", type := .int, accessFlags := 25, slot := 5, constantValue := 0 }, { name := "LOG2_ARRAY_INT_INDEX_SCALE", type := .int, accessFlags := 25, slot := 6, constantValue := 0 }, { name := "LOG2_ARRAY_LONG_INDEX_SCALE", type := .int, accessFlags := 25, slot := 7, constantValue := 0 }, { name := "LOG2_ARRAY_FLOAT_INDEX_SCALE", type := .int, accessFlags := 25, slot := 8, constantValue := 0 }, { name := "LOG2_ARRAY_DOUBLE_INDEX_SCALE", type := .int, accessFlags := 25, slot := 9, constantValue := 0 }, { name := "LOG2_BYTE_BIT_SIZE", type := .int, accessFlags := 26, slot := 10, constantValue := 0 }, { name := "T_BOOLEAN", type := .int, accessFlags := 25, slot := 11, constantValue := 0 }, { name := "T_CHAR", type := .int, accessFlags := 25, slot := 12, constantValue := 0 }, { name := "T_FLOAT", type := .int, accessFlags := 25, slot := 13, constantValue := 0 }, { name := "T_DOUBLE", type := .int, accessFlags := 25, slot := 14, constantValue := 0 }, { name := "T_BYTE", type := .int, accessFlags := 25, slot := 15, constantValue := 0 }, { name := "T_SHORT", type := .int, accessFlags := 25, slot := 16, constantValue := 0 }, { name := "T_INT", type := .int, accessFlags := 25, slot := 17, constantValue := 0 }, { name := "T_LONG", type := .int, accessFlags := 25, slot := 18, constantValue := 0 }, { name := "JLA", type := (.object "jdk/internal/access/JavaLangAccess"), accessFlags := 26, slot := 19, constantValue := 0 }, { name := "SOFT_MAX_ARRAY_LENGTH", type := .int, accessFlags := 25, slot := 20, constantValue := 0 }]
  methods := #[k54m0]
  instanceTypes := #[]
  staticTypes := #[(.object "jdk/internal/misc/Unsafe"), .boolean, .int, .int, .int, .int, .int, .int, .int, .int, .int, .int, .int, .int, .int, .int, .int, .int, .int, (.object "jdk/internal/access/JavaLangAccess"), .int]
  resolved := Array.replicate 378 none
  statics := none }

/-- the primitive byte -/
def k55 : Class := { plain "byte" none with kind := .primitive 'B', accessFlags := 0x411 }
/-- [B -/
def k56 : Class := { plain "[B" (some 0) with kind := .array 55 .byte, interfaces := #[9, 10], accessFlags := 1041 }

/-- the primitive char -/
def k57 : Class := { plain "char" none with kind := .primitive 'C', accessFlags := 0x411 }
/-- [C -/
def k58 : Class := { plain "[C" (some 0) with kind := .array 57 .char, interfaces := #[9, 10], accessFlags := 1041 }

/-- the primitive int -/
def k59 : Class := { plain "int" none with kind := .primitive 'I', accessFlags := 0x411 }
/-- [I -/
def k60 : Class := { plain "[I" (some 0) with kind := .array 59 .int, interfaces := #[9, 10], accessFlags := 1041 }

/-- [Ljava/lang/Object; -/
def k61 : Class := { plain "[Ljava/lang/Object;" (some 0) with kind := .array 0 (.object "java/lang/Object"), interfaces := #[9, 10], accessFlags := 1041 }

def heap : Heap := #[{ cls := 11, slots := #[.long 0, .int 0, .ref 5, .ref 6], vm := .statics 11 },
  { cls := 16, slots := #[.long 0, .int 1, .null, .int 0, .null, .int 0, .int 0], vm := .statics 16 },
  { cls := 43, slots := #[.null, .null, .ref 7, .null, .null, .null], vm := .statics 43 },
  { cls := 47, slots := #[.ref 7, .null], vm := .statics 47 },
  { cls := 53, slots := #[.null, .null, .null], vm := .statics 53 },
  { cls := 61, slots := #[], vm := .none },
  { cls := 61, slots := #[], vm := .none },
  { cls := 47, slots := #[.null, .null, .null], vm := .none }]
def classes : Array Class := #[k0, k1, k2, k3, k4, k5, k6, k7, k8, k9, k10, k11, k12, k13, k14, k15, k16, k17, k18, k19, k20, k21, k22, k23, k24, k25, k26, k27, k28, k29, k30, k31, k32, k33, k34, k35, k36, k37, k38, k39, k40, k41, k42, k43, k44, k45, k46, k47, k48, k49, k50, k51, k52, k53, k54, k55, k56, k57, k58, k59, k60, k61]
def interned : List (Array UInt16 × Addr) := []
def slotsUsed : Nat := 25
def theMethod : MethodId := ⟨1, 1⟩
def args0 : Array Value := #[.int 5, .int 7, .int 3, .int 2]
def aboutOver (below : List Frame) : State where
  vm := { classes := classes, interned := interned.toArray }
  heap := heap
  slotsUsed := slotsUsed
  threads := #[{ frames := .invoking theMethod args0 :: below }]
def below0 : List Frame := [.native { method := ⟨0, 0⟩, args := #[] }]
def about1 : State := aboutOver below0
def p0 : Program := .bare "" "" ""
def e0 : Env := launch0.env 0 0 0
theorem w_frames : about1.frames = Frame.invoking theMethod args0 :: below0 := rfl
set_option maxRecDepth 65536 in
theorem w_args : argsFit about1.vm theMethod args0 = true := by decide +kernel
set_option maxRecDepth 65536 in
theorem w_heap : heapFits about1 = true := by decide +kernel
set_option maxRecDepth 65536 in
theorem w_runnable : about1.curStatus? = some .runnable := by decide +kernel
set_option maxRecDepth 65536 in
theorem w_alone : about1.alone = true := by decide +kernel
set_option maxRecDepth 65536 in
theorem w_named : about1.methodNamed? x = some theMethod := by decide +kernel
set_option maxRecDepth 65536 in
theorem w_hears : about1.hears theMethod below0 = true := by decide +kernel
set_option maxRecDepth 65536 in
theorem w_ripe : about1.ripe theMethod args0 below0 = true := by decide +kernel
theorem w_running : about1.status = .running := rfl
set_option maxRecDepth 65536 in
theorem w_room : about1.hasRoom e0.platform room_1 = true :=
  launch0.hasRoom_least _ room_1 (by decide +kernel) (by decide +kernel) (by decide +kernel) (by decide +kernel) (by decide +kernel) (by decide +kernel)
theorem allAtoms_all (ts : List Jvm.Cond) (a : Array Jvm.Value) (st : Jvm.State) : (allAtoms ts).before a st = ts.all (fun c => c.before a st) := by
  induction ts with
  | nil => rfl
  | cons c t ih =>
    show (Jvm.Cond.and c (allAtoms t)).before a st = _
    rw [Jvm.Cond.before_and, ih, List.all_cons]
def words1 : List Jvm.Cond := Jvm.Cond.code x code maxLocals ret :: tables_1
/-- a 'code' word, met by the world's own term for the bytes: nothing is compared byte by byte -/
theorem code_word {y : MethodName} {bytes : ByteArray} {mx : Nat} {rt : Option FieldType} {a : Array Value} {s : State} {m : MethodId} {meth : Method} {c : Code} (h1 : s.methodNamed? y = some m) (h2 : s.vm.method? m = some meth) (h3 : meth.code = some c) (h4 : c.code = bytes)
    (h5 : (c.maxLocals == mx && c.exceptionTable.isEmpty && decide (c.maxStack ≤ mostOperands) && decide (meth.sig.returnType = rt) && !meth.locks && decide (parseMethodDescriptor y.desc = some meth.sig)) = true) : (Jvm.Cond.code y bytes mx rt).before a s = true := by
  simp only [Bool.and_eq_true, beq_iff_eq, Bool.not_eq_true', decide_eq_true_eq] at h5
  obtain ⟨⟨⟨⟨⟨g1, g2⟩, g3⟩, g4⟩, g5⟩, g6⟩ := h5
  simp [Cond.before, Cond.holds, Cond.value, h1, h2, h3, h4, g1, g2, g3, g4, g5, g6]
def isCode : Jvm.Cond → Bool
  | .code _ _ _ _ => true
  | _ => false
theorem all_split {L : List Jvm.Cond} {P : Jvm.Cond → Bool} (h1 : L.all (fun c => isCode c || P c) = true) (h2 : ∀ c ∈ L.filter isCode, P c = true) : L.all P = true := by
  refine List.all_eq_true.mpr fun c hc => ?_
  have h := List.all_eq_true.mp h1 c hc
  rcases Bool.eq_false_or_eq_true (isCode c) with hi | hi
  · exact h2 c (List.mem_filter.mpr ⟨hc, hi⟩)
  · simpa [hi] using h
set_option maxRecDepth 65536 in
theorem w_c0 : (Jvm.Cond.code x code maxLocals ret).before args0 about1 = true := code_word (m := ⟨1, 1⟩) (meth := k1m1) (c := k1c1) (by decide +kernel) rfl rfl rfl (by decide +kernel)
set_option maxRecDepth 65536 in
theorem w_c1 : (Jvm.Cond.code ({ cls := "java/util/ArrayList", name := "<init>", desc := "()V" } : Jvm.MethodName) jdk_38_method_2_code (1 : Nat) (Option.none : Option Jvm.ClassFile.FieldType)).before args0 about1 = true := code_word (m := ⟨11, 0⟩) (meth := k11m0) (c := k11c0) (by decide +kernel) rfl rfl rfl (by decide +kernel)
set_option maxRecDepth 65536 in
theorem w_c2 : (Jvm.Cond.code ({ cls := "java/util/AbstractList", name := "<init>", desc := "()V" } : Jvm.MethodName) jdk_39_method_1_code (1 : Nat) (Option.none : Option Jvm.ClassFile.FieldType)).before args0 about1 = true := code_word (m := ⟨7, 0⟩) (meth := k7m0) (c := k7c0) (by decide +kernel) rfl rfl rfl (by decide +kernel)
set_option maxRecDepth 65536 in
theorem w_c3 : (Jvm.Cond.code ({ cls := "java/util/AbstractCollection", name := "<init>", desc := "()V" } : Jvm.MethodName) jdk_22_method_1_code (1 : Nat) (Option.none : Option Jvm.ClassFile.FieldType)).before args0 about1 = true := code_word (m := ⟨4, 0⟩) (meth := k4m0) (c := k4c0) (by decide +kernel) rfl rfl rfl (by decide +kernel)
set_option maxRecDepth 65536 in
theorem w_c4 : (Jvm.Cond.code ({ cls := "java/lang/Object", name := "<init>", desc := "()V" } : Jvm.MethodName) object_method_1_code (1 : Nat) (Option.none : Option Jvm.ClassFile.FieldType)).before args0 about1 = true := code_word (m := ⟨0, 0⟩) (meth := k0m0) (c := k0c0) (by decide +kernel) rfl rfl rfl (by decide +kernel)
set_option maxRecDepth 65536 in
theorem w_c5 : (Jvm.Cond.code ({ cls := "java/lang/String", name := "<init>", desc := "([C)V" } : Jvm.MethodName) jdk_42_method_3_code (2 : Nat) (Option.none : Option Jvm.ClassFile.FieldType)).before args0 about1 = true := code_word (m := ⟨16, 1⟩) (meth := k16m1) (c := k16c1) (by decide +kernel) rfl rfl rfl (by decide +kernel)
set_option maxRecDepth 65536 in
theorem w_c6 : (Jvm.Cond.code ({ cls := "java/lang/String", name := "<init>", desc := "([CIILjava/lang/Void;)V" } : Jvm.MethodName) jdk_42_method_149_code (6 : Nat) (Option.none : Option Jvm.ClassFile.FieldType)).before args0 about1 = true := code_word (m := ⟨16, 6⟩) (meth := k16m6) (c := k16c6) (by decide +kernel) rfl rfl rfl (by decide +kernel)
set_option maxRecDepth 65536 in
theorem w_c7 : (Jvm.Cond.code ({ cls := "java/lang/StringUTF16", name := "compress", desc := "([CII)[B" } : Jvm.MethodName) jdk_52_method_16_code (6 : Nat) (Option.some (Jvm.ClassFile.FieldType.array Jvm.ClassFile.FieldType.byte))).before args0 about1 = true := code_word (m := ⟨17, 2⟩) (meth := k17m2) (c := k17c2) (by decide +kernel) rfl rfl rfl (by decide +kernel)
set_option maxRecDepth 65536 in
theorem w_c8 : (Jvm.Cond.code ({ cls := "java/lang/StringUTF16", name := "compress", desc := "([CI[BII)I" } : Jvm.MethodName) jdk_52_method_21_code (7 : Nat) (Option.some Jvm.ClassFile.FieldType.int)).before args0 about1 = true := code_word (m := ⟨17, 3⟩) (meth := k17m3) (c := k17c3) (by decide +kernel) rfl rfl rfl (by decide +kernel)
set_option maxRecDepth 65536 in
theorem w_c9 : (Jvm.Cond.code ({ cls := "java/lang/StringUTF16", name := "coderFromArrayLen", desc := "([BI)B" } : Jvm.MethodName) jdk_52_method_15_code (2 : Nat) (Option.some Jvm.ClassFile.FieldType.byte)).before args0 about1 = true := code_word (m := ⟨17, 1⟩) (meth := k17m1) (c := k17c1) (by decide +kernel) rfl rfl rfl (by decide +kernel)
set_option maxRecDepth 65536 in
theorem w_c10 : (Jvm.Cond.code ({ cls := "java/util/ArrayList", name := "add", desc := "(Ljava/lang/Object;)Z" } : Jvm.MethodName) jdk_38_method_25_code (2 : Nat) (Option.some Jvm.ClassFile.FieldType.boolean)).before args0 about1 = true := code_word (m := ⟨11, 4⟩) (meth := k11m4) (c := k11c4) (by decide +kernel) rfl rfl rfl (by decide +kernel)
set_option maxRecDepth 65536 in
theorem w_c11 : (Jvm.Cond.code ({ cls := "java/util/ArrayList", name := "add", desc := "(Ljava/lang/Object;[Ljava/lang/Object;I)V" } : Jvm.MethodName) jdk_38_method_24_code (4 : Nat) (Option.none : Option Jvm.ClassFile.FieldType)).before args0 about1 = true := code_word (m := ⟨11, 3⟩) (meth := k11m3) (c := k11c3) (by decide +kernel) rfl rfl rfl (by decide +kernel)
set_option maxRecDepth 65536 in
theorem w_c12 : (Jvm.Cond.code ({ cls := "java/util/ArrayList", name := "grow", desc := "()[Ljava/lang/Object;" } : Jvm.MethodName) jdk_38_method_7_code (1 : Nat) (Option.some (Jvm.ClassFile.FieldType.array (Jvm.ClassFile.FieldType.object "java/lang/Object")))).before args0 about1 = true := code_word (m := ⟨11, 2⟩) (meth := k11m2) (c := k11c2) (by decide +kernel) rfl rfl rfl (by decide +kernel)
set_option maxRecDepth 65536 in
theorem w_c13 : (Jvm.Cond.code ({ cls := "java/util/ArrayList", name := "grow", desc := "(I)[Ljava/lang/Object;" } : Jvm.MethodName) jdk_38_method_6_code (4 : Nat) (Option.some (Jvm.ClassFile.FieldType.array (Jvm.ClassFile.FieldType.object "java/lang/Object")))).before args0 about1 = true := code_word (m := ⟨11, 1⟩) (meth := k11m1) (c := k11c1) (by decide +kernel) rfl rfl rfl (by decide +kernel)
set_option maxRecDepth 65536 in
theorem w_c14 : (Jvm.Cond.code ({ cls := "java/lang/Math", name := "max", desc := "(II)I" } : Jvm.MethodName) jdk_29_method_65_code (2 : Nat) (Option.some Jvm.ClassFile.FieldType.int)).before args0 about1 = true := code_word (m := ⟨18, 1⟩) (meth := k18m1) (c := k18c1) (by decide +kernel) rfl rfl rfl (by decide +kernel)
set_option maxRecDepth 65536 in
theorem w_c15 : (Jvm.Cond.code ({ cls := "com/example/waymark/waymark/StatCache", name := "empty", desc := "()Lcom/example/waymark/waymark/StatCache;" } : Jvm.MethodName) prog_24_method_2_code (0 : Nat) (Option.some (Jvm.ClassFile.FieldType.object "com/example/waymark/waymark/StatCache"))).before args0 about1 = true := code_word (m := ⟨19, 1⟩) (meth := k19m1) (c := k19c1) (by decide +kernel) rfl rfl rfl (by decide +kernel)
set_option maxRecDepth 65536 in
theorem w_c16 : (Jvm.Cond.code ({ cls := "java/util/HashMap", name := "<init>", desc := "()V" } : Jvm.MethodName) jdk_69_method_7_code (1 : Nat) (Option.none : Option Jvm.ClassFile.FieldType)).before args0 about1 = true := code_word (m := ⟨22, 0⟩) (meth := k22m0) (c := k22c0) (by decide +kernel) rfl rfl rfl (by decide +kernel)
set_option maxRecDepth 65536 in
theorem w_c17 : (Jvm.Cond.code ({ cls := "java/util/AbstractMap", name := "<init>", desc := "()V" } : Jvm.MethodName) jdk_71_method_1_code (1 : Nat) (Option.none : Option Jvm.ClassFile.FieldType)).before args0 about1 = true := code_word (m := ⟨21, 0⟩) (meth := k21m0) (c := k21c0) (by decide +kernel) rfl rfl rfl (by decide +kernel)
set_option maxRecDepth 65536 in
theorem w_c18 : (Jvm.Cond.code ({ cls := "com/example/waymark/waymark/StatCache", name := "<init>", desc := "(Ljava/util/Map;)V" } : Jvm.MethodName) prog_24_method_1_code (2 : Nat) (Option.none : Option Jvm.ClassFile.FieldType)).before args0 about1 = true := code_word (m := ⟨19, 0⟩) (meth := k19m0) (c := k19c0) (by decide +kernel) rfl rfl rfl (by decide +kernel)
set_option maxRecDepth 65536 in
theorem w_c19 : (Jvm.Cond.code ({ cls := "com/example/waymark/waymark/StatCache", name := "isChanged", desc := "()Z" } : Jvm.MethodName) prog_24_method_6_code (1 : Nat) (Option.some Jvm.ClassFile.FieldType.boolean)).before args0 about1 = true := code_word (m := ⟨19, 3⟩) (meth := k19m3) (c := k19c3) (by decide +kernel) rfl rfl rfl (by decide +kernel)
set_option maxRecDepth 65536 in
theorem w_c20 : (Jvm.Cond.code ({ cls := "com/example/waymark/waymark/StatCache", name := "encode", desc := "()[B" } : Jvm.MethodName) prog_24_method_7_code (5 : Nat) (Option.some (Jvm.ClassFile.FieldType.array Jvm.ClassFile.FieldType.byte))).before args0 about1 = true := code_word (m := ⟨19, 4⟩) (meth := k19m4) (c := k19c4) (by decide +kernel) rfl rfl rfl (by decide +kernel)
set_option maxRecDepth 65536 in
theorem w_c21 : (Jvm.Cond.code ({ cls := "java/util/TreeMap", name := "<init>", desc := "(Ljava/util/Map;)V" } : Jvm.MethodName) jdk_2729_method_3_code (2 : Nat) (Option.none : Option Jvm.ClassFile.FieldType)).before args0 about1 = true := code_word (m := ⟨26, 1⟩) (meth := k26m1) (c := k26c1) (by decide +kernel) rfl rfl rfl (by decide +kernel)
set_option maxRecDepth 65536 in
theorem w_c22 : (Jvm.Cond.code ({ cls := "java/util/HashMap", name := "size", desc := "()I" } : Jvm.MethodName) jdk_69_method_10_code (1 : Nat) (Option.some Jvm.ClassFile.FieldType.int)).before args0 about1 = true := code_word (m := ⟨22, 1⟩) (meth := k22m1) (c := k22c1) (by decide +kernel) rfl rfl rfl (by decide +kernel)
set_option maxRecDepth 65536 in
theorem w_c23 : (Jvm.Cond.code ({ cls := "java/util/AbstractMap", name := "putAll", desc := "(Ljava/util/Map;)V" } : Jvm.MethodName) jdk_71_method_9_code (4 : Nat) (Option.none : Option Jvm.ClassFile.FieldType)).before args0 about1 = true := code_word (m := ⟨21, 1⟩) (meth := k21m1) (c := k21c1) (by decide +kernel) rfl rfl rfl (by decide +kernel)
set_option maxRecDepth 65536 in
theorem w_c24 : (Jvm.Cond.code ({ cls := "java/util/HashMap", name := "entrySet", desc := "()Ljava/util/Set;" } : Jvm.MethodName) jdk_69_method_29_code (2 : Nat) (Option.some (Jvm.ClassFile.FieldType.object "java/util/Set"))).before args0 about1 = true := code_word (m := ⟨22, 3⟩) (meth := k22m3) (c := k22c3) (by decide +kernel) rfl rfl rfl (by decide +kernel)
set_option maxRecDepth 65536 in
theorem w_c25 : (Jvm.Cond.code ({ cls := "java/util/HashMap$EntrySet", name := "<init>", desc := "(Ljava/util/HashMap;)V" } : Jvm.MethodName) jdk_111_method_1_code (2 : Nat) (Option.none : Option Jvm.ClassFile.FieldType)).before args0 about1 = true := code_word (m := ⟨29, 0⟩) (meth := k29m0) (c := k29c0) (by decide +kernel) rfl rfl rfl (by decide +kernel)
set_option maxRecDepth 65536 in
theorem w_c26 : (Jvm.Cond.code ({ cls := "java/util/AbstractSet", name := "<init>", desc := "()V" } : Jvm.MethodName) jdk_91_method_1_code (1 : Nat) (Option.none : Option Jvm.ClassFile.FieldType)).before args0 about1 = true := code_word (m := ⟨28, 0⟩) (meth := k28m0) (c := k28c0) (by decide +kernel) rfl rfl rfl (by decide +kernel)
set_option maxRecDepth 65536 in
theorem w_c27 : (Jvm.Cond.code ({ cls := "java/util/HashMap$EntrySet", name := "iterator", desc := "()Ljava/util/Iterator;" } : Jvm.MethodName) jdk_111_method_4_code (1 : Nat) (Option.some (Jvm.ClassFile.FieldType.object "java/util/Iterator"))).before args0 about1 = true := code_word (m := ⟨29, 1⟩) (meth := k29m1) (c := k29c1) (by decide +kernel) rfl rfl rfl (by decide +kernel)
set_option maxRecDepth 65536 in
theorem w_c28 : (Jvm.Cond.code ({ cls := "java/util/HashMap$EntryIterator", name := "<init>", desc := "(Ljava/util/HashMap;)V" } : Jvm.MethodName) jdk_142_method_1_code (2 : Nat) (Option.none : Option Jvm.ClassFile.FieldType)).before args0 about1 = true := code_word (m := ⟨32, 0⟩) (meth := k32m0) (c := k32c0) (by decide +kernel) rfl rfl rfl (by decide +kernel)
set_option maxRecDepth 65536 in
theorem w_c29 : (Jvm.Cond.code ({ cls := "java/util/HashMap$HashIterator", name := "<init>", desc := "(Ljava/util/HashMap;)V" } : Jvm.MethodName) jdk_99_method_1_code (3 : Nat) (Option.none : Option Jvm.ClassFile.FieldType)).before args0 about1 = true := code_word (m := ⟨30, 0⟩) (meth := k30m0) (c := k30c0) (by decide +kernel) rfl rfl rfl (by decide +kernel)
set_option maxRecDepth 65536 in
theorem w_c30 : (Jvm.Cond.code ({ cls := "java/util/HashMap$HashIterator", name := "hasNext", desc := "()Z" } : Jvm.MethodName) jdk_99_method_2_code (1 : Nat) (Option.some Jvm.ClassFile.FieldType.boolean)).before args0 about1 = true := code_word (m := ⟨30, 1⟩) (meth := k30m1) (c := k30c1) (by decide +kernel) rfl rfl rfl (by decide +kernel)
set_option maxRecDepth 65536 in
theorem w_c31 : (Jvm.Cond.code ({ cls := "java/util/TreeMap", name := "entrySet", desc := "()Ljava/util/Set;" } : Jvm.MethodName) jdk_2729_method_53_code (2 : Nat) (Option.some (Jvm.ClassFile.FieldType.object "java/util/Set"))).before args0 about1 = true := code_word (m := ⟨26, 3⟩) (meth := k26m3) (c := k26c3) (by decide +kernel) rfl rfl rfl (by decide +kernel)
set_option maxRecDepth 65536 in
theorem w_c32 : (Jvm.Cond.code ({ cls := "java/util/TreeMap$EntrySet", name := "<init>", desc := "(Ljava/util/TreeMap;)V" } : Jvm.MethodName) jdk_2738_method_1_code (2 : Nat) (Option.none : Option Jvm.ClassFile.FieldType)).before args0 about1 = true := code_word (m := ⟨33, 0⟩) (meth := k33m0) (c := k33c0) (by decide +kernel) rfl rfl rfl (by decide +kernel)
set_option maxRecDepth 65536 in
theorem w_c33 : (Jvm.Cond.code ({ cls := "java/util/TreeMap$EntrySet", name := "iterator", desc := "()Ljava/util/Iterator;" } : Jvm.MethodName) jdk_2738_method_2_code (1 : Nat) (Option.some (Jvm.ClassFile.FieldType.object "java/util/Iterator"))).before args0 about1 = true := code_word (m := ⟨33, 1⟩) (meth := k33m1) (c := k33c1) (by decide +kernel) rfl rfl rfl (by decide +kernel)
set_option maxRecDepth 65536 in
theorem w_c34 : (Jvm.Cond.code ({ cls := "java/util/TreeMap", name := "getFirstEntry", desc := "()Ljava/util/TreeMap$Entry;" } : Jvm.MethodName) jdk_2729_method_72_code (2 : Nat) (Option.some (Jvm.ClassFile.FieldType.object "java/util/TreeMap$Entry"))).before args0 about1 = true := code_word (m := ⟨26, 4⟩) (meth := k26m4) (c := k26c4) (by decide +kernel) rfl rfl rfl (by decide +kernel)
set_option maxRecDepth 65536 in
theorem w_c35 : (Jvm.Cond.code ({ cls := "java/util/TreeMap$EntryIterator", name := "<init>", desc := "(Ljava/util/TreeMap;Ljava/util/TreeMap$Entry;)V" } : Jvm.MethodName) jdk_2737_method_1_code (3 : Nat) (Option.none : Option Jvm.ClassFile.FieldType)).before args0 about1 = true := code_word (m := ⟨35, 0⟩) (meth := k35m0) (c := k35c0) (by decide +kernel) rfl rfl rfl (by decide +kernel)
set_option maxRecDepth 65536 in
theorem w_c36 : (Jvm.Cond.code ({ cls := "java/util/TreeMap$PrivateEntryIterator", name := "<init>", desc := "(Ljava/util/TreeMap;Ljava/util/TreeMap$Entry;)V" } : Jvm.MethodName) jdk_2750_method_1_code (3 : Nat) (Option.none : Option Jvm.ClassFile.FieldType)).before args0 about1 = true := code_word (m := ⟨34, 0⟩) (meth := k34m0) (c := k34c0) (by decide +kernel) rfl rfl rfl (by decide +kernel)
set_option maxRecDepth 65536 in
theorem w_c37 : (Jvm.Cond.code ({ cls := "java/util/TreeMap$PrivateEntryIterator", name := "hasNext", desc := "()Z" } : Jvm.MethodName) jdk_2750_method_2_code (1 : Nat) (Option.some Jvm.ClassFile.FieldType.boolean)).before args0 about1 = true := code_word (m := ⟨34, 1⟩) (meth := k34m1) (c := k34c1) (by decide +kernel) rfl rfl rfl (by decide +kernel)
set_option maxRecDepth 65536 in
theorem w_c38 : (Jvm.Cond.code ({ cls := "com/example/waymark/waymark/Fields", name := "encode", desc := "(Ljava/util/List;)[B" } : Jvm.MethodName) prog_7_method_2_code (4 : Nat) (Option.some (Jvm.ClassFile.FieldType.array Jvm.ClassFile.FieldType.byte))).before args0 about1 = true := code_word (m := ⟨36, 1⟩) (meth := k36m1) (c := k36c1) (by decide +kernel) rfl rfl rfl (by decide +kernel)
set_option maxRecDepth 65536 in
theorem w_c39 : (Jvm.Cond.code ({ cls := "java/lang/StringBuilder", name := "<init>", desc := "()V" } : Jvm.MethodName) jdk_67_method_1_code (1 : Nat) (Option.none : Option Jvm.ClassFile.FieldType)).before args0 about1 = true := code_word (m := ⟨39, 0⟩) (meth := k39m0) (c := k39c0) (by decide +kernel) rfl rfl rfl (by decide +kernel)
set_option maxRecDepth 65536 in
theorem w_c40 : (Jvm.Cond.code ({ cls := "java/lang/AbstractStringBuilder", name := "<init>", desc := "(I)V" } : Jvm.MethodName) jdk_68_method_2_code (2 : Nat) (Option.none : Option Jvm.ClassFile.FieldType)).before args0 about1 = true := code_word (m := ⟨38, 1⟩) (meth := k38m1) (c := k38c1) (by decide +kernel) rfl rfl rfl (by decide +kernel)
set_option maxRecDepth 65536 in
theorem w_c41 : (Jvm.Cond.code ({ cls := "java/util/ArrayList", name := "iterator", desc := "()Ljava/util/Iterator;" } : Jvm.MethodName) jdk_38_method_55_code (1 : Nat) (Option.some (Jvm.ClassFile.FieldType.object "java/util/Iterator"))).before args0 about1 = true := code_word (m := ⟨11, 5⟩) (meth := k11m5) (c := k11c5) (by decide +kernel) rfl rfl rfl (by decide +kernel)
set_option maxRecDepth 65536 in
theorem w_c42 : (Jvm.Cond.code ({ cls := "java/util/ArrayList$Itr", name := "<init>", desc := "(Ljava/util/ArrayList;)V" } : Jvm.MethodName) jdk_49_method_1_code (2 : Nat) (Option.none : Option Jvm.ClassFile.FieldType)).before args0 about1 = true := code_word (m := ⟨40, 0⟩) (meth := k40m0) (c := k40c0) (by decide +kernel) rfl rfl rfl (by decide +kernel)
set_option maxRecDepth 65536 in
theorem w_c43 : (Jvm.Cond.code ({ cls := "java/util/ArrayList$Itr", name := "hasNext", desc := "()Z" } : Jvm.MethodName) jdk_49_method_2_code (1 : Nat) (Option.some Jvm.ClassFile.FieldType.boolean)).before args0 about1 = true := code_word (m := ⟨40, 1⟩) (meth := k40m1) (c := k40c1) (by decide +kernel) rfl rfl rfl (by decide +kernel)
set_option maxRecDepth 65536 in
theorem w_c44 : (Jvm.Cond.code ({ cls := "java/lang/StringBuilder", name := "toString", desc := "()Ljava/lang/String;" } : Jvm.MethodName) jdk_67_method_42_code (1 : Nat) (Option.some (Jvm.ClassFile.FieldType.object "java/lang/String"))).before args0 about1 = true := code_word (m := ⟨39, 1⟩) (meth := k39m1) (c := k39c1) (by decide +kernel) rfl rfl rfl (by decide +kernel)
set_option maxRecDepth 65536 in
theorem w_c45 : (Jvm.Cond.code ({ cls := "java/lang/String", name := "<init>", desc := "(Ljava/lang/StringBuilder;)V" } : Jvm.MethodName) jdk_42_method_53_code (2 : Nat) (Option.none : Option Jvm.ClassFile.FieldType)).before args0 about1 = true := code_word (m := ⟨16, 4⟩) (meth := k16m4) (c := k16c4) (by decide +kernel) rfl rfl rfl (by decide +kernel)
set_option maxRecDepth 65536 in
theorem w_c46 : (Jvm.Cond.code ({ cls := "java/lang/String", name := "<init>", desc := "(Ljava/lang/AbstractStringBuilder;Ljava/lang/Void;)V" } : Jvm.MethodName) jdk_42_method_150_code (5 : Nat) (Option.none : Option Jvm.ClassFile.FieldType)).before args0 about1 = true := code_word (m := ⟨16, 7⟩) (meth := k16m7) (c := k16c7) (by decide +kernel) rfl rfl rfl (by decide +kernel)
set_option maxRecDepth 65536 in
theorem w_c47 : (Jvm.Cond.code ({ cls := "java/lang/AbstractStringBuilder", name := "getValue", desc := "()[B" } : Jvm.MethodName) jdk_68_method_64_code (1 : Nat) (Option.some (Jvm.ClassFile.FieldType.array Jvm.ClassFile.FieldType.byte))).before args0 about1 = true := code_word (m := ⟨38, 3⟩) (meth := k38m3) (c := k38c3) (by decide +kernel) rfl rfl rfl (by decide +kernel)
set_option maxRecDepth 65536 in
theorem w_c48 : (Jvm.Cond.code ({ cls := "java/lang/StringBuilder", name := "length", desc := "()I" } : Jvm.MethodName) jdk_67_method_93_code (1 : Nat) (Option.some Jvm.ClassFile.FieldType.int)).before args0 about1 = true := code_word (m := ⟨39, 2⟩) (meth := k39m2) (c := k39c2) (by decide +kernel) rfl rfl rfl (by decide +kernel)
set_option maxRecDepth 65536 in
theorem w_c49 : (Jvm.Cond.code ({ cls := "java/lang/AbstractStringBuilder", name := "length", desc := "()I" } : Jvm.MethodName) jdk_68_method_6_code (1 : Nat) (Option.some Jvm.ClassFile.FieldType.int)).before args0 about1 = true := code_word (m := ⟨38, 2⟩) (meth := k38m2) (c := k38c2) (by decide +kernel) rfl rfl rfl (by decide +kernel)
set_option maxRecDepth 65536 in
theorem w_c50 : (Jvm.Cond.code ({ cls := "java/lang/AbstractStringBuilder", name := "isLatin1", desc := "()Z" } : Jvm.MethodName) jdk_68_method_68_code (1 : Nat) (Option.some Jvm.ClassFile.FieldType.boolean)).before args0 about1 = true := code_word (m := ⟨38, 4⟩) (meth := k38m4) (c := k38c4) (by decide +kernel) rfl rfl rfl (by decide +kernel)
set_option maxRecDepth 65536 in
theorem w_c51 : (Jvm.Cond.code ({ cls := "java/util/Arrays", name := "copyOfRange", desc := "([BII)[B" } : Jvm.MethodName) jdk_65_method_132_code (3 : Nat) (Option.some (Jvm.ClassFile.FieldType.array Jvm.ClassFile.FieldType.byte))).before args0 about1 = true := code_word (m := ⟨41, 2⟩) (meth := k41m2) (c := k41c2) (by decide +kernel) rfl rfl rfl (by decide +kernel)
set_option maxRecDepth 65536 in
theorem w_c52 : (Jvm.Cond.code ({ cls := "java/util/Arrays", name := "copyOfRangeByte", desc := "([BII)[B" } : Jvm.MethodName) jdk_65_method_133_code (5 : Nat) (Option.some (Jvm.ClassFile.FieldType.array Jvm.ClassFile.FieldType.byte))).before args0 about1 = true := code_word (m := ⟨41, 3⟩) (meth := k41m3) (c := k41c3) (by decide +kernel) rfl rfl rfl (by decide +kernel)
set_option maxRecDepth 65536 in
theorem w_c53 : (Jvm.Cond.code ({ cls := "java/util/Arrays", name := "checkLength", desc := "(II)V" } : Jvm.MethodName) jdk_65_method_131_code (2 : Nat) (Option.none : Option Jvm.ClassFile.FieldType)).before args0 about1 = true := code_word (m := ⟨41, 1⟩) (meth := k41m1) (c := k41c1) (by decide +kernel) rfl rfl rfl (by decide +kernel)
set_option maxRecDepth 65536 in
theorem w_c54 : (Jvm.Cond.code ({ cls := "java/lang/Math", name := "min", desc := "(II)I" } : Jvm.MethodName) jdk_29_method_69_code (2 : Nat) (Option.some Jvm.ClassFile.FieldType.int)).before args0 about1 = true := code_word (m := ⟨18, 2⟩) (meth := k18m2) (c := k18c2) (by decide +kernel) rfl rfl rfl (by decide +kernel)
set_option maxRecDepth 65536 in
theorem w_c55 : (Jvm.Cond.code ({ cls := "java/lang/String", name := "getBytes", desc := "(Ljava/nio/charset/Charset;)[B" } : Jvm.MethodName) jdk_42_method_64_code (2 : Nat) (Option.some (Jvm.ClassFile.FieldType.array Jvm.ClassFile.FieldType.byte))).before args0 about1 = true := code_word (m := ⟨16, 5⟩) (meth := k16m5) (c := k16c5) (by decide +kernel) rfl rfl rfl (by decide +kernel)
set_option maxRecDepth 65536 in
theorem w_c56 : (Jvm.Cond.code ({ cls := "java/lang/String", name := "coder", desc := "()B" } : Jvm.MethodName) jdk_42_method_152_code (1 : Nat) (Option.some Jvm.ClassFile.FieldType.byte)).before args0 about1 = true := code_word (m := ⟨16, 8⟩) (meth := k16m8) (c := k16c8) (by decide +kernel) rfl rfl rfl (by decide +kernel)
set_option maxRecDepth 65536 in
theorem w_c57 : (Jvm.Cond.code ({ cls := "java/lang/String", name := "encode", desc := "(Ljava/nio/charset/Charset;B[B)[B" } : Jvm.MethodName) jdk_42_method_18_code (3 : Nat) (Option.some (Jvm.ClassFile.FieldType.array Jvm.ClassFile.FieldType.byte))).before args0 about1 = true := code_word (m := ⟨16, 2⟩) (meth := k16m2) (c := k16c2) (by decide +kernel) rfl rfl rfl (by decide +kernel)
set_option maxRecDepth 65536 in
theorem w_c58 : (Jvm.Cond.code ({ cls := "java/lang/String", name := "encodeUTF8", desc := "(B[BZ)[B" } : Jvm.MethodName) jdk_42_method_46_code (9 : Nat) (Option.some (Jvm.ClassFile.FieldType.array Jvm.ClassFile.FieldType.byte))).before args0 about1 = true := code_word (m := ⟨16, 3⟩) (meth := k16m3) (c := k16c3) (by decide +kernel) rfl rfl rfl (by decide +kernel)
set_option maxRecDepth 65536 in
theorem w_c59 : (Jvm.Cond.code ({ cls := "java/lang/StringCoding", name := "hasNegatives", desc := "([BII)Z" } : Jvm.MethodName) jdk_123_method_2_code (3 : Nat) (Option.some Jvm.ClassFile.FieldType.boolean)).before args0 about1 = true := code_word (m := ⟨48, 1⟩) (meth := k48m1) (c := k48c1) (by decide +kernel) rfl rfl rfl (by decide +kernel)
set_option maxRecDepth 65536 in
theorem w_c60 : (Jvm.Cond.code ({ cls := "java/lang/StringCoding", name := "countPositives", desc := "([BII)I" } : Jvm.MethodName) jdk_123_method_3_code (5 : Nat) (Option.some Jvm.ClassFile.FieldType.int)).before args0 about1 = true := code_word (m := ⟨48, 2⟩) (meth := k48m2) (c := k48c2) (by decide +kernel) rfl rfl rfl (by decide +kernel)
set_option maxRecDepth 65536 in
theorem w_c61 : (Jvm.Cond.code ({ cls := "com/example/waymark/waymark/StatCache", name := "keepOnly", desc := "(Ljava/util/Collection;)V" } : Jvm.MethodName) prog_24_method_5_code (2 : Nat) (Option.none : Option Jvm.ClassFile.FieldType)).before args0 about1 = true := code_word (m := ⟨19, 2⟩) (meth := k19m2) (c := k19c2) (by decide +kernel) rfl rfl rfl (by decide +kernel)
set_option maxRecDepth 65536 in
theorem w_c62 : (Jvm.Cond.code ({ cls := "java/util/HashMap", name := "keySet", desc := "()Ljava/util/Set;" } : Jvm.MethodName) jdk_69_method_24_code (2 : Nat) (Option.some (Jvm.ClassFile.FieldType.object "java/util/Set"))).before args0 about1 = true := code_word (m := ⟨22, 2⟩) (meth := k22m2) (c := k22c2) (by decide +kernel) rfl rfl rfl (by decide +kernel)
set_option maxRecDepth 65536 in
theorem w_c63 : (Jvm.Cond.code ({ cls := "java/util/HashMap$KeySet", name := "<init>", desc := "(Ljava/util/HashMap;)V" } : Jvm.MethodName) jdk_97_method_1_code (2 : Nat) (Option.none : Option Jvm.ClassFile.FieldType)).before args0 about1 = true := code_word (m := ⟨49, 0⟩) (meth := k49m0) (c := k49c0) (by decide +kernel) rfl rfl rfl (by decide +kernel)
set_option maxRecDepth 65536 in
theorem w_c64 : (Jvm.Cond.code ({ cls := "java/util/AbstractCollection", name := "retainAll", desc := "(Ljava/util/Collection;)Z" } : Jvm.MethodName) jdk_22_method_14_code (4 : Nat) (Option.some Jvm.ClassFile.FieldType.boolean)).before args0 about1 = true := code_word (m := ⟨4, 2⟩) (meth := k4m2) (c := k4c2) (by decide +kernel) rfl rfl rfl (by decide +kernel)
set_option maxRecDepth 65536 in
theorem w_c65 : (Jvm.Cond.code ({ cls := "java/util/Objects", name := "requireNonNull", desc := "(Ljava/lang/Object;)Ljava/lang/Object;" } : Jvm.MethodName) jdk_31_method_10_code (1 : Nat) (Option.some (Jvm.ClassFile.FieldType.object "java/lang/Object"))).before args0 about1 = true := code_word (m := ⟨50, 1⟩) (meth := k50m1) (c := k50c1) (by decide +kernel) rfl rfl rfl (by decide +kernel)
set_option maxRecDepth 65536 in
theorem w_c66 : (Jvm.Cond.code ({ cls := "java/util/HashMap$KeySet", name := "iterator", desc := "()Ljava/util/Iterator;" } : Jvm.MethodName) jdk_97_method_4_code (1 : Nat) (Option.some (Jvm.ClassFile.FieldType.object "java/util/Iterator"))).before args0 about1 = true := code_word (m := ⟨49, 1⟩) (meth := k49m1) (c := k49c1) (by decide +kernel) rfl rfl rfl (by decide +kernel)
set_option maxRecDepth 65536 in
theorem w_c67 : (Jvm.Cond.code ({ cls := "java/util/HashMap$KeyIterator", name := "<init>", desc := "(Ljava/util/HashMap;)V" } : Jvm.MethodName) jdk_98_method_1_code (2 : Nat) (Option.none : Option Jvm.ClassFile.FieldType)).before args0 about1 = true := code_word (m := ⟨51, 0⟩) (meth := k51m0) (c := k51c0) (by decide +kernel) rfl rfl rfl (by decide +kernel)
def codes1 : List Jvm.Cond := [Jvm.Cond.code x code maxLocals ret, Jvm.Cond.code ({ cls := "java/util/ArrayList", name := "<init>", desc := "()V" } : Jvm.MethodName) jdk_38_method_2_code (1 : Nat) (Option.none : Option Jvm.ClassFile.FieldType), Jvm.Cond.code ({ cls := "java/util/AbstractList", name := "<init>", desc := "()V" } : Jvm.MethodName) jdk_39_method_1_code (1 : Nat) (Option.none : Option Jvm.ClassFile.FieldType), Jvm.Cond.code ({ cls := "java/util/AbstractCollection", name := "<init>", desc := "()V" } : Jvm.MethodName) jdk_22_method_1_code (1 : Nat) (Option.none : Option Jvm.ClassFile.FieldType), Jvm.Cond.code ({ cls := "java/lang/Object", name := "<init>", desc := "()V" } : Jvm.MethodName) object_method_1_code (1 : Nat) (Option.none : Option Jvm.ClassFile.FieldType), Jvm.Cond.code ({ cls := "java/lang/String", name := "<init>", desc := "([C)V" } : Jvm.MethodName) jdk_42_method_3_code (2 : Nat) (Option.none : Option Jvm.ClassFile.FieldType), Jvm.Cond.code ({ cls := "java/lang/String", name := "<init>", desc := "([CIILjava/lang/Void;)V" } : Jvm.MethodName) jdk_42_method_149_code (6 : Nat) (Option.none : Option Jvm.ClassFile.FieldType), Jvm.Cond.code ({ cls := "java/lang/StringUTF16", name := "compress", desc := "([CII)[B" } : Jvm.MethodName) jdk_52_method_16_code (6 : Nat) (Option.some (Jvm.ClassFile.FieldType.array Jvm.ClassFile.FieldType.byte)), Jvm.Cond.code ({ cls := "java/lang/StringUTF16", name := "compress", desc := "([CI[BII)I" } : Jvm.MethodName) jdk_52_method_21_code (7 : Nat) (Option.some Jvm.ClassFile.FieldType.int), Jvm.Cond.code ({ cls := "java/lang/StringUTF16", name := "coderFromArrayLen", desc := "([BI)B" } : Jvm.MethodName) jdk_52_method_15_code (2 : Nat) (Option.some Jvm.ClassFile.FieldType.byte), Jvm.Cond.code ({ cls := "java/util/ArrayList", name := "add", desc := "(Ljava/lang/Object;)Z" } : Jvm.MethodName) jdk_38_method_25_code (2 : Nat) (Option.some Jvm.ClassFile.FieldType.boolean), Jvm.Cond.code ({ cls := "java/util/ArrayList", name := "add", desc := "(Ljava/lang/Object;[Ljava/lang/Object;I)V" } : Jvm.MethodName) jdk_38_method_24_code (4 : Nat) (Option.none : Option Jvm.ClassFile.FieldType), Jvm.Cond.code ({ cls := "java/util/ArrayList", name := "grow", desc := "()[Ljava/lang/Object;" } : Jvm.MethodName) jdk_38_method_7_code (1 : Nat) (Option.some (Jvm.ClassFile.FieldType.array (Jvm.ClassFile.FieldType.object "java/lang/Object"))), Jvm.Cond.code ({ cls := "java/util/ArrayList", name := "grow", desc := "(I)[Ljava/lang/Object;" } : Jvm.MethodName) jdk_38_method_6_code (4 : Nat) (Option.some (Jvm.ClassFile.FieldType.array (Jvm.ClassFile.FieldType.object "java/lang/Object"))), Jvm.Cond.code ({ cls := "java/lang/Math", name := "max", desc := "(II)I" } : Jvm.MethodName) jdk_29_method_65_code (2 : Nat) (Option.some Jvm.ClassFile.FieldType.int), Jvm.Cond.code ({ cls := "com/example/waymark/waymark/StatCache", name := "empty", desc := "()Lcom/example/waymark/waymark/StatCache;" } : Jvm.MethodName) prog_24_method_2_code (0 : Nat) (Option.some (Jvm.ClassFile.FieldType.object "com/example/waymark/waymark/StatCache")), Jvm.Cond.code ({ cls := "java/util/HashMap", name := "<init>", desc := "()V" } : Jvm.MethodName) jdk_69_method_7_code (1 : Nat) (Option.none : Option Jvm.ClassFile.FieldType), Jvm.Cond.code ({ cls := "java/util/AbstractMap", name := "<init>", desc := "()V" } : Jvm.MethodName) jdk_71_method_1_code (1 : Nat) (Option.none : Option Jvm.ClassFile.FieldType), Jvm.Cond.code ({ cls := "com/example/waymark/waymark/StatCache", name := "<init>", desc := "(Ljava/util/Map;)V" } : Jvm.MethodName) prog_24_method_1_code (2 : Nat) (Option.none : Option Jvm.ClassFile.FieldType), Jvm.Cond.code ({ cls := "com/example/waymark/waymark/StatCache", name := "isChanged", desc := "()Z" } : Jvm.MethodName) prog_24_method_6_code (1 : Nat) (Option.some Jvm.ClassFile.FieldType.boolean), Jvm.Cond.code ({ cls := "com/example/waymark/waymark/StatCache", name := "encode", desc := "()[B" } : Jvm.MethodName) prog_24_method_7_code (5 : Nat) (Option.some (Jvm.ClassFile.FieldType.array Jvm.ClassFile.FieldType.byte)), Jvm.Cond.code ({ cls := "java/util/TreeMap", name := "<init>", desc := "(Ljava/util/Map;)V" } : Jvm.MethodName) jdk_2729_method_3_code (2 : Nat) (Option.none : Option Jvm.ClassFile.FieldType), Jvm.Cond.code ({ cls := "java/util/HashMap", name := "size", desc := "()I" } : Jvm.MethodName) jdk_69_method_10_code (1 : Nat) (Option.some Jvm.ClassFile.FieldType.int), Jvm.Cond.code ({ cls := "java/util/AbstractMap", name := "putAll", desc := "(Ljava/util/Map;)V" } : Jvm.MethodName) jdk_71_method_9_code (4 : Nat) (Option.none : Option Jvm.ClassFile.FieldType), Jvm.Cond.code ({ cls := "java/util/HashMap", name := "entrySet", desc := "()Ljava/util/Set;" } : Jvm.MethodName) jdk_69_method_29_code (2 : Nat) (Option.some (Jvm.ClassFile.FieldType.object "java/util/Set")), Jvm.Cond.code ({ cls := "java/util/HashMap$EntrySet", name := "<init>", desc := "(Ljava/util/HashMap;)V" } : Jvm.MethodName) jdk_111_method_1_code (2 : Nat) (Option.none : Option Jvm.ClassFile.FieldType), Jvm.Cond.code ({ cls := "java/util/AbstractSet", name := "<init>", desc := "()V" } : Jvm.MethodName) jdk_91_method_1_code (1 : Nat) (Option.none : Option Jvm.ClassFile.FieldType), Jvm.Cond.code ({ cls := "java/util/HashMap$EntrySet", name := "iterator", desc := "()Ljava/util/Iterator;" } : Jvm.MethodName) jdk_111_method_4_code (1 : Nat) (Option.some (Jvm.ClassFile.FieldType.object "java/util/Iterator")), Jvm.Cond.code ({ cls := "java/util/HashMap$EntryIterator", name := "<init>", desc := "(Ljava/util/HashMap;)V" } : Jvm.MethodName) jdk_142_method_1_code (2 : Nat) (Option.none : Option Jvm.ClassFile.FieldType), Jvm.Cond.code ({ cls := "java/util/HashMap$HashIterator", name := "<init>", desc := "(Ljava/util/HashMap;)V" } : Jvm.MethodName) jdk_99_method_1_code (3 : Nat) (Option.none : Option Jvm.ClassFile.FieldType), Jvm.Cond.code ({ cls := "java/util/HashMap$HashIterator", name := "hasNext", desc := "()Z" } : Jvm.MethodName) jdk_99_method_2_code (1 : Nat) (Option.some Jvm.ClassFile.FieldType.boolean), Jvm.Cond.code ({ cls := "java/util/TreeMap", name := "entrySet", desc := "()Ljava/util/Set;" } : Jvm.MethodName) jdk_2729_method_53_code (2 : Nat) (Option.some (Jvm.ClassFile.FieldType.object "java/util/Set")), Jvm.Cond.code ({ cls := "java/util/TreeMap$EntrySet", name := "<init>", desc := "(Ljava/util/TreeMap;)V" } : Jvm.MethodName) jdk_2738_method_1_code (2 : Nat) (Option.none : Option Jvm.ClassFile.FieldType), Jvm.Cond.code ({ cls := "java/util/TreeMap$EntrySet", name := "iterator", desc := "()Ljava/util/Iterator;" } : Jvm.MethodName) jdk_2738_method_2_code (1 : Nat) (Option.some (Jvm.ClassFile.FieldType.object "java/util/Iterator")), Jvm.Cond.code ({ cls := "java/util/TreeMap", name := "getFirstEntry", desc := "()Ljava/util/TreeMap$Entry;" } : Jvm.MethodName) jdk_2729_method_72_code (2 : Nat) (Option.some (Jvm.ClassFile.FieldType.object "java/util/TreeMap$Entry")), Jvm.Cond.code ({ cls := "java/util/TreeMap$EntryIterator", name := "<init>", desc := "(Ljava/util/TreeMap;Ljava/util/TreeMap$Entry;)V" } : Jvm.MethodName) jdk_2737_method_1_code (3 : Nat) (Option.none : Option Jvm.ClassFile.FieldType), Jvm.Cond.code ({ cls := "java/util/TreeMap$PrivateEntryIterator", name := "<init>", desc := "(Ljava/util/TreeMap;Ljava/util/TreeMap$Entry;)V" } : Jvm.MethodName) jdk_2750_method_1_code (3 : Nat) (Option.none : Option Jvm.ClassFile.FieldType), Jvm.Cond.code ({ cls := "java/util/TreeMap$PrivateEntryIterator", name := "hasNext", desc := "()Z" } : Jvm.MethodName) jdk_2750_method_2_code (1 : Nat) (Option.some Jvm.ClassFile.FieldType.boolean), Jvm.Cond.code ({ cls := "com/example/waymark/waymark/Fields", name := "encode", desc := "(Ljava/util/List;)[B" } : Jvm.MethodName) prog_7_method_2_code (4 : Nat) (Option.some (Jvm.ClassFile.FieldType.array Jvm.ClassFile.FieldType.byte)), Jvm.Cond.code ({ cls := "java/lang/StringBuilder", name := "<init>", desc := "()V" } : Jvm.MethodName) jdk_67_method_1_code (1 : Nat) (Option.none : Option Jvm.ClassFile.FieldType), Jvm.Cond.code ({ cls := "java/lang/AbstractStringBuilder", name := "<init>", desc := "(I)V" } : Jvm.MethodName) jdk_68_method_2_code (2 : Nat) (Option.none : Option Jvm.ClassFile.FieldType), Jvm.Cond.code ({ cls := "java/util/ArrayList", name := "iterator", desc := "()Ljava/util/Iterator;" } : Jvm.MethodName) jdk_38_method_55_code (1 : Nat) (Option.some (Jvm.ClassFile.FieldType.object "java/util/Iterator")), Jvm.Cond.code ({ cls := "java/util/ArrayList$Itr", name := "<init>", desc := "(Ljava/util/ArrayList;)V" } : Jvm.MethodName) jdk_49_method_1_code (2 : Nat) (Option.none : Option Jvm.ClassFile.FieldType), Jvm.Cond.code ({ cls := "java/util/ArrayList$Itr", name := "hasNext", desc := "()Z" } : Jvm.MethodName) jdk_49_method_2_code (1 : Nat) (Option.some Jvm.ClassFile.FieldType.boolean), Jvm.Cond.code ({ cls := "java/lang/StringBuilder", name := "toString", desc := "()Ljava/lang/String;" } : Jvm.MethodName) jdk_67_method_42_code (1 : Nat) (Option.some (Jvm.ClassFile.FieldType.object "java/lang/String")), Jvm.Cond.code ({ cls := "java/lang/String", name := "<init>", desc := "(Ljava/lang/StringBuilder;)V" } : Jvm.MethodName) jdk_42_method_53_code (2 : Nat) (Option.none : Option Jvm.ClassFile.FieldType), Jvm.Cond.code ({ cls := "java/lang/String", name := "<init>", desc := "(Ljava/lang/AbstractStringBuilder;Ljava/lang/Void;)V" } : Jvm.MethodName) jdk_42_method_150_code (5 : Nat) (Option.none : Option Jvm.ClassFile.FieldType), Jvm.Cond.code ({ cls := "java/lang/AbstractStringBuilder", name := "getValue", desc := "()[B" } : Jvm.MethodName) jdk_68_method_64_code (1 : Nat) (Option.some (Jvm.ClassFile.FieldType.array Jvm.ClassFile.FieldType.byte)), Jvm.Cond.code ({ cls := "java/lang/StringBuilder", name := "length", desc := "()I" } : Jvm.MethodName) jdk_67_method_93_code (1 : Nat) (Option.some Jvm.ClassFile.FieldType.int), Jvm.Cond.code ({ cls := "java/lang/AbstractStringBuilder", name := "length", desc := "()I" } : Jvm.MethodName) jdk_68_method_6_code (1 : Nat) (Option.some Jvm.ClassFile.FieldType.int), Jvm.Cond.code ({ cls := "java/lang/AbstractStringBuilder", name := "isLatin1", desc := "()Z" } : Jvm.MethodName) jdk_68_method_68_code (1 : Nat) (Option.some Jvm.ClassFile.FieldType.boolean), Jvm.Cond.code ({ cls := "java/util/Arrays", name := "copyOfRange", desc := "([BII)[B" } : Jvm.MethodName) jdk_65_method_132_code (3 : Nat) (Option.some (Jvm.ClassFile.FieldType.array Jvm.ClassFile.FieldType.byte)), Jvm.Cond.code ({ cls := "java/util/Arrays", name := "copyOfRangeByte", desc := "([BII)[B" } : Jvm.MethodName) jdk_65_method_133_code (5 : Nat) (Option.some (Jvm.ClassFile.FieldType.array Jvm.ClassFile.FieldType.byte)), Jvm.Cond.code ({ cls := "java/util/Arrays", name := "checkLength", desc := "(II)V" } : Jvm.MethodName) jdk_65_method_131_code (2 : Nat) (Option.none : Option Jvm.ClassFile.FieldType), Jvm.Cond.code ({ cls := "java/lang/Math", name := "min", desc := "(II)I" } : Jvm.MethodName) jdk_29_method_69_code (2 : Nat) (Option.some Jvm.ClassFile.FieldType.int), Jvm.Cond.code ({ cls := "java/lang/String", name := "getBytes", desc := "(Ljava/nio/charset/Charset;)[B" } : Jvm.MethodName) jdk_42_method_64_code (2 : Nat) (Option.some (Jvm.ClassFile.FieldType.array Jvm.ClassFile.FieldType.byte)), Jvm.Cond.code ({ cls := "java/lang/String", name := "coder", desc := "()B" } : Jvm.MethodName) jdk_42_method_152_code (1 : Nat) (Option.some Jvm.ClassFile.FieldType.byte), Jvm.Cond.code ({ cls := "java/lang/String", name := "encode", desc := "(Ljava/nio/charset/Charset;B[B)[B" } : Jvm.MethodName) jdk_42_method_18_code (3 : Nat) (Option.some (Jvm.ClassFile.FieldType.array Jvm.ClassFile.FieldType.byte)), Jvm.Cond.code ({ cls := "java/lang/String", name := "encodeUTF8", desc := "(B[BZ)[B" } : Jvm.MethodName) jdk_42_method_46_code (9 : Nat) (Option.some (Jvm.ClassFile.FieldType.array Jvm.ClassFile.FieldType.byte)), Jvm.Cond.code ({ cls := "java/lang/StringCoding", name := "hasNegatives", desc := "([BII)Z" } : Jvm.MethodName) jdk_123_method_2_code (3 : Nat) (Option.some Jvm.ClassFile.FieldType.boolean), Jvm.Cond.code ({ cls := "java/lang/StringCoding", name := "countPositives", desc := "([BII)I" } : Jvm.MethodName) jdk_123_method_3_code (5 : Nat) (Option.some Jvm.ClassFile.FieldType.int), Jvm.Cond.code ({ cls := "com/example/waymark/waymark/StatCache", name := "keepOnly", desc := "(Ljava/util/Collection;)V" } : Jvm.MethodName) prog_24_method_5_code (2 : Nat) (Option.none : Option Jvm.ClassFile.FieldType), Jvm.Cond.code ({ cls := "java/util/HashMap", name := "keySet", desc := "()Ljava/util/Set;" } : Jvm.MethodName) jdk_69_method_24_code (2 : Nat) (Option.some (Jvm.ClassFile.FieldType.object "java/util/Set")), Jvm.Cond.code ({ cls := "java/util/HashMap$KeySet", name := "<init>", desc := "(Ljava/util/HashMap;)V" } : Jvm.MethodName) jdk_97_method_1_code (2 : Nat) (Option.none : Option Jvm.ClassFile.FieldType), Jvm.Cond.code ({ cls := "java/util/AbstractCollection", name := "retainAll", desc := "(Ljava/util/Collection;)Z" } : Jvm.MethodName) jdk_22_method_14_code (4 : Nat) (Option.some Jvm.ClassFile.FieldType.boolean), Jvm.Cond.code ({ cls := "java/util/Objects", name := "requireNonNull", desc := "(Ljava/lang/Object;)Ljava/lang/Object;" } : Jvm.MethodName) jdk_31_method_10_code (1 : Nat) (Option.some (Jvm.ClassFile.FieldType.object "java/lang/Object")), Jvm.Cond.code ({ cls := "java/util/HashMap$KeySet", name := "iterator", desc := "()Ljava/util/Iterator;" } : Jvm.MethodName) jdk_97_method_4_code (1 : Nat) (Option.some (Jvm.ClassFile.FieldType.object "java/util/Iterator")), Jvm.Cond.code ({ cls := "java/util/HashMap$KeyIterator", name := "<init>", desc := "(Ljava/util/HashMap;)V" } : Jvm.MethodName) jdk_98_method_1_code (2 : Nat) (Option.none : Option Jvm.ClassFile.FieldType)]
set_option maxRecDepth 65536 in
theorem codes_eq : words1.filter isCode = codes1 := rfl
theorem w_codes : ∀ c ∈ words1.filter isCode, c.before args0 about1 = true := by
  rw [codes_eq]
  intro c hc
  simp only [codes1, List.mem_cons, List.not_mem_nil, or_false] at hc
  rcases hc with rfl | rfl | rfl | rfl | rfl | rfl | rfl | rfl | rfl | rfl | rfl | rfl | rfl | rfl | rfl | rfl | rfl | rfl | rfl | rfl | rfl | rfl | rfl | rfl | rfl | rfl | rfl | rfl | rfl | rfl | rfl | rfl | rfl | rfl | rfl | rfl | rfl | rfl | rfl | rfl | rfl | rfl | rfl | rfl | rfl | rfl | rfl | rfl | rfl | rfl | rfl | rfl | rfl | rfl | rfl | rfl | rfl | rfl | rfl | rfl | rfl | rfl | rfl | rfl | rfl | rfl | rfl | rfl
  · exact w_c0
  · exact w_c1
  · exact w_c2
  · exact w_c3
  · exact w_c4
  · exact w_c5
  · exact w_c6
  · exact w_c7
  · exact w_c8
  · exact w_c9
  · exact w_c10
  · exact w_c11
  · exact w_c12
  · exact w_c13
  · exact w_c14
  · exact w_c15
  · exact w_c16
  · exact w_c17
  · exact w_c18
  · exact w_c19
  · exact w_c20
  · exact w_c21
  · exact w_c22
  · exact w_c23
  · exact w_c24
  · exact w_c25
  · exact w_c26
  · exact w_c27
  · exact w_c28
  · exact w_c29
  · exact w_c30
  · exact w_c31
  · exact w_c32
  · exact w_c33
  · exact w_c34
  · exact w_c35
  · exact w_c36
  · exact w_c37
  · exact w_c38
  · exact w_c39
  · exact w_c40
  · exact w_c41
  · exact w_c42
  · exact w_c43
  · exact w_c44
  · exact w_c45
  · exact w_c46
  · exact w_c47
  · exact w_c48
  · exact w_c49
  · exact w_c50
  · exact w_c51
  · exact w_c52
  · exact w_c53
  · exact w_c54
  · exact w_c55
  · exact w_c56
  · exact w_c57
  · exact w_c58
  · exact w_c59
  · exact w_c60
  · exact w_c61
  · exact w_c62
  · exact w_c63
  · exact w_c64
  · exact w_c65
  · exact w_c66
  · exact w_c67
set_option maxRecDepth 65536 in
theorem w_t1 : (words1.take 24).all (fun c => isCode c || c.before args0 about1) = true := by decide +kernel
set_option maxRecDepth 65536 in
theorem w_t2 : ((words1.drop 24).take 24).all (fun c => isCode c || c.before args0 about1) = true := by decide +kernel
set_option maxRecDepth 65536 in
theorem w_t3 : (((words1.drop 24).drop 24).take 24).all (fun c => isCode c || c.before args0 about1) = true := by decide +kernel
set_option maxRecDepth 65536 in
theorem w_t4 : ((((words1.drop 24).drop 24).drop 24).take 24).all (fun c => isCode c || c.before args0 about1) = true := by decide +kernel
set_option maxRecDepth 65536 in
theorem w_t5 : (((((words1.drop 24).drop 24).drop 24).drop 24).take 24).all (fun c => isCode c || c.before args0 about1) = true := by decide +kernel
set_option maxRecDepth 65536 in
theorem w_t6 : ((((((words1.drop 24).drop 24).drop 24).drop 24).drop 24).take 24).all (fun c => isCode c || c.before args0 about1) = true := by decide +kernel
set_option maxRecDepth 65536 in
theorem w_t7 : (((((((words1.drop 24).drop 24).drop 24).drop 24).drop 24).drop 24).take 24).all (fun c => isCode c || c.before args0 about1) = true := by decide +kernel
set_option maxRecDepth 65536 in
theorem w_t8 : ((((((((words1.drop 24).drop 24).drop 24).drop 24).drop 24).drop 24).drop 24).take 24).all (fun c => isCode c || c.before args0 about1) = true := by decide +kernel
set_option maxRecDepth 65536 in
theorem w_t9 : (((((((((words1.drop 24).drop 24).drop 24).drop 24).drop 24).drop 24).drop 24).drop 24).take 24).all (fun c => isCode c || c.before args0 about1) = true := by decide +kernel
set_option maxRecDepth 65536 in
theorem w_t10 : ((((((((((words1.drop 24).drop 24).drop 24).drop 24).drop 24).drop 24).drop 24).drop 24).drop 24).take 24).all (fun c => isCode c || c.before args0 about1) = true := by decide +kernel
set_option maxRecDepth 65536 in
theorem w_t11 : (((((((((((words1.drop 24).drop 24).drop 24).drop 24).drop 24).drop 24).drop 24).drop 24).drop 24).drop 24).take 24).all (fun c => isCode c || c.before args0 about1) = true := by decide +kernel
set_option maxRecDepth 65536 in
theorem w_t12 : ((((((((((((words1.drop 24).drop 24).drop 24).drop 24).drop 24).drop 24).drop 24).drop 24).drop 24).drop 24).drop 24).take 24).all (fun c => isCode c || c.before args0 about1) = true := by decide +kernel
set_option maxRecDepth 65536 in
theorem w_t13 : (((((((((((((words1.drop 24).drop 24).drop 24).drop 24).drop 24).drop 24).drop 24).drop 24).drop 24).drop 24).drop 24).drop 24).take 24).all (fun c => isCode c || c.before args0 about1) = true := by decide +kernel
set_option maxRecDepth 65536 in
theorem w_t14 : ((((((((((((((words1.drop 24).drop 24).drop 24).drop 24).drop 24).drop 24).drop 24).drop 24).drop 24).drop 24).drop 24).drop 24).drop 24).take 24).all (fun c => isCode c || c.before args0 about1) = true := by decide +kernel
set_option maxRecDepth 65536 in
theorem w_t15 : (((((((((((((((words1.drop 24).drop 24).drop 24).drop 24).drop 24).drop 24).drop 24).drop 24).drop 24).drop 24).drop 24).drop 24).drop 24).drop 24).take 24).all (fun c => isCode c || c.before args0 about1) = true := by decide +kernel
set_option maxRecDepth 65536 in
theorem w_t16 : ((((((((((((((((words1.drop 24).drop 24).drop 24).drop 24).drop 24).drop 24).drop 24).drop 24).drop 24).drop 24).drop 24).drop 24).drop 24).drop 24).drop 24).take 24).all (fun c => isCode c || c.before args0 about1) = true := by decide +kernel
set_option maxRecDepth 65536 in
theorem w_t17 : (((((((((((((((((words1.drop 24).drop 24).drop 24).drop 24).drop 24).drop 24).drop 24).drop 24).drop 24).drop 24).drop 24).drop 24).drop 24).drop 24).drop 24).drop 24).take 24).all (fun c => isCode c || c.before args0 about1) = true := by decide +kernel
set_option maxRecDepth 65536 in
theorem w_t18 : ((((((((((((((((((words1.drop 24).drop 24).drop 24).drop 24).drop 24).drop 24).drop 24).drop 24).drop 24).drop 24).drop 24).drop 24).drop 24).drop 24).drop 24).drop 24).drop 24).take 24).all (fun c => isCode c || c.before args0 about1) = true := by decide +kernel
set_option maxRecDepth 65536 in
theorem w_t19 : (((((((((((((((((((words1.drop 24).drop 24).drop 24).drop 24).drop 24).drop 24).drop 24).drop 24).drop 24).drop 24).drop 24).drop 24).drop 24).drop 24).drop 24).drop 24).drop 24).drop 24).take 24).all (fun c => isCode c || c.before args0 about1) = true := by decide +kernel
set_option maxRecDepth 65536 in
theorem w_t20 : ((((((((((((((((((((words1.drop 24).drop 24).drop 24).drop 24).drop 24).drop 24).drop 24).drop 24).drop 24).drop 24).drop 24).drop 24).drop 24).drop 24).drop 24).drop 24).drop 24).drop 24).drop 24).take 24).all (fun c => isCode c || c.before args0 about1) = true := by decide +kernel
set_option maxRecDepth 65536 in
theorem w_t21 : (((((((((((((((((((((words1.drop 24).drop 24).drop 24).drop 24).drop 24).drop 24).drop 24).drop 24).drop 24).drop 24).drop 24).drop 24).drop 24).drop 24).drop 24).drop 24).drop 24).drop 24).drop 24).drop 24).take 24).all (fun c => isCode c || c.before args0 about1) = true := by decide +kernel
set_option maxRecDepth 65536 in
theorem w_t22 : (((((((((((((((((((((words1.drop 24).drop 24).drop 24).drop 24).drop 24).drop 24).drop 24).drop 24).drop 24).drop 24).drop 24).drop 24).drop 24).drop 24).drop 24).drop 24).drop 24).drop 24).drop 24).drop 24).drop 24).all (fun c => isCode c || c.before args0 about1) = true := by decide +kernel
theorem w_tables : (allAtoms (Jvm.Cond.code x code maxLocals ret :: tables_1)).before args0 about1 = true := by
  rw [allAtoms_all]
  show words1.all (fun c => c.before args0 about1) = true
  refine all_split ?_ w_codes
  rw [← List.take_append_drop 24 words1, List.all_append, w_t1, ← List.take_append_drop 24 (words1.drop 24), List.all_append, w_t2, ← List.take_append_drop 24 ((words1.drop 24).drop 24), List.all_append, w_t3, ← List.take_append_drop 24 (((words1.drop 24).drop 24).drop 24), List.all_append, w_t4, ← List.take_append_drop 24 ((((words1.drop 24).drop 24).drop 24).drop 24), List.all_append, w_t5, ← List.take_append_drop 24 (((((words1.drop 24).drop 24).drop 24).drop 24).drop 24), List.all_append, w_t6, ← List.take_append_drop 24 ((((((words1.drop 24).drop 24).drop 24).drop 24).drop 24).drop 24), List.all_append, w_t7, ← List.take_append_drop 24 (((((((words1.drop 24).drop 24).drop 24).drop 24).drop 24).drop 24).drop 24), List.all_append, w_t8, ← List.take_append_drop 24 ((((((((words1.drop 24).drop 24).drop 24).drop 24).drop 24).drop 24).drop 24).drop 24), List.all_append, w_t9, ← List.take_append_drop 24 (((((((((words1.drop 24).drop 24).drop 24).drop 24).drop 24).drop 24).drop 24).drop 24).drop 24), List.all_append, w_t10, ← List.take_append_drop 24 ((((((((((words1.drop 24).drop 24).drop 24).drop 24).drop 24).drop 24).drop 24).drop 24).drop 24).drop 24), List.all_append, w_t11, ← List.take_append_drop 24 (((((((((((words1.drop 24).drop 24).drop 24).drop 24).drop 24).drop 24).drop 24).drop 24).drop 24).drop 24).drop 24), List.all_append, w_t12, ← List.take_append_drop 24 ((((((((((((words1.drop 24).drop 24).drop 24).drop 24).drop 24).drop 24).drop 24).drop 24).drop 24).drop 24).drop 24).drop 24), List.all_append, w_t13, ← List.take_append_drop 24 (((((((((((((words1.drop 24).drop 24).drop 24).drop 24).drop 24).drop 24).drop 24).drop 24).drop 24).drop 24).drop 24).drop 24).drop 24), List.all_append, w_t14, ← List.take_append_drop 24 ((((((((((((((words1.drop 24).drop 24).drop 24).drop 24).drop 24).drop 24).drop 24).drop 24).drop 24).drop 24).drop 24).drop 24).drop 24).drop 24), List.all_append, w_t15, ← List.take_append_drop 24 (((((((((((((((words1.drop 24).drop 24).drop 24).drop 24).drop 24).drop 24).drop 24).drop 24).drop 24).drop 24).drop 24).drop 24).drop 24).drop 24).drop 24), List.all_append, w_t16, ← List.take_append_drop 24 ((((((((((((((((words1.drop 24).drop 24).drop 24).drop 24).drop 24).drop 24).drop 24).drop 24).drop 24).drop 24).drop 24).drop 24).drop 24).drop 24).drop 24).drop 24), List.all_append, w_t17, ← List.take_append_drop 24 (((((((((((((((((words1.drop 24).drop 24).drop 24).drop 24).drop 24).drop 24).drop 24).drop 24).drop 24).drop 24).drop 24).drop 24).drop 24).drop 24).drop 24).drop 24).drop 24), List.all_append, w_t18, ← List.take_append_drop 24 ((((((((((((((((((words1.drop 24).drop 24).drop 24).drop 24).drop 24).drop 24).drop 24).drop 24).drop 24).drop 24).drop 24).drop 24).drop 24).drop 24).drop 24).drop 24).drop 24).drop 24), List.all_append, w_t19, ← List.take_append_drop 24 (((((((((((((((((((words1.drop 24).drop 24).drop 24).drop 24).drop 24).drop 24).drop 24).drop 24).drop 24).drop 24).drop 24).drop 24).drop 24).drop 24).drop 24).drop 24).drop 24).drop 24).drop 24), List.all_append, w_t20, ← List.take_append_drop 24 ((((((((((((((((((((words1.drop 24).drop 24).drop 24).drop 24).drop 24).drop 24).drop 24).drop 24).drop 24).drop 24).drop 24).drop 24).drop 24).drop 24).drop 24).drop 24).drop 24).drop 24).drop 24).drop 24), List.all_append, w_t21, w_t22]
  rfl
set_option maxRecDepth 65536 in
theorem w_rest : rest_1_c.before args0 about1 = true := by decide +kernel
set_option maxRecDepth 65536 in
theorem w_case : (Jvm.Cond.and given_1 narrow_1).before args0 about1 = true := by decide +kernel
theorem w_applies : (headSpec (Jvm.Cond.code x code maxLocals ret :: tables_1) room_1).applies x e0.platform about1 = true :=
  (Spec.applies_iff w_frames).mpr ⟨w_running, w_runnable, w_alone, w_named, w_hears, w_ripe, w_room, w_tables⟩
theorem atStart : AtStart classFile x code maxLocals ret World_1 tables_1 room_1 Calls_1 rest_1 Pre_1 launch0 p0 e0 about1 theMethod args0 below0 :=
  ⟨lists_1, trivial, launch0.admits_env _ _ _, launch0.least_env, fairChoices_fair.cas, fairChoices_fair.clock, w_frames, w_args, w_heap, w_applies, trivial, w_rest, w_case⟩
end start1
theorem witness_1 : WitnessClaimed_1 := ⟨start1.p0, start1.e0, start1.about1, start1.theMethod, start1.args0, start1.below0, start1.atStart⟩
end Jvm.Pilot.@@N@@
