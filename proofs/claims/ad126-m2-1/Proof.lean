import JvmDerived
import JvmDerived.Pilot.@@N@@Statement
import JvmDerived.Pilot.@@N@@Code
set_option linter.unusedVariables false
set_option linter.unusedSimpArgs false

namespace Jvm.GoKit
open Jvm Jvm.ClassFile Sem Op Lib Jvm.Free Jvm.Stand Jvm.LawKit Jvm.RoadKit Bundle
/-- what goes with a Stand over the re-based start -/
def Hid (s Z : State) (wd : Bool) (EL : List (String × Nat)) (n0 : Nat) (ow0 ow : List Addr) (T : State) (locs : List Loc) (vm0 : Vm) (k0 : Nat) (h : Heap) : Prop :=
  s.Since vm0 k0 ∧ k0 ≤ h.size ∧ Z.Warmed39 vm0 ∧ T.heap = h ∧ Fr n0 locs ∧ CHr Z EL s.vm s.heap vm0 h ∧ Keep s.heap h ow0 ∧ Old Z n0 h ∧ (∀ x ∈ ow, Safe Z EL vm0 h x ∧ x < h.size ∧ n0 ≤ x ∧ (x ∈ ow0 ∨ s.heap.size ≤ x)) ∧ (wd = true ∨ s.WarmedH vm0)
/-- what a body leaves -/
def FinS (s Z : State) (wd ro : Bool) (EL : List (String × Nat)) (n0 : Nat) (ow0 : List Addr) (R : Room) (Q : Option Value → Heap → Prop) (o : Outcome) (t : State) : Prop :=
  ∃ v L, o = .returned v ∧ Q v t.heap ∧ Fr n0 L ∧ CHr Z EL s.vm s.heap t.vm t.heap ∧ Keep s.heap t.heap ow0 ∧ ReturnedEndW s o t L R.cells R.slots ∧ (wd = true ∨ s.WarmedH t.vm) ∧ (ro = true → ∀ d, v = some (.ref d) → Safe Z EL t.vm t.heap d ∧ d < t.heap.size ∧ n0 ≤ d ∧ s.heap.size ≤ d)
/-- from wherever the walk stands with heap h at the frame g, the run ends in Q -/
def Run (p : Program) (l : Launch) (e : Env) (R : Room) (s : State) (m : MethodId) (args : Array Value) (below : List Frame) (meth : Method) (c : Code) (Z : State) (wd ro : Bool) (EL : List (String × Nat)) (n0 : Nat) (ow0 : List Addr) (Q : Option Value → Heap → Prop)
    (h : Heap) (ow : List Addr) (cells slots : Nat) (g : JFrame) : Prop :=
  ∀ (T : State) (locs : List Loc) (vm0 : Vm) (k0 : Nat), Stand p l e R (s.setVm vm0) m args below meth c T locs cells slots → Hid s Z wd EL n0 ow0 ow T locs vm0 k0 h →
    ∃ s₂ o, Steps p.tables e below (T.setTop g) s₂ ∧ s₂.status = .running ∧ Ended s₂ below o ∧ FinS s Z wd ro EL n0 ow0 R Q o s₂
/-- a method's contract -/
def Con (l : Launch) (Z : State) (wd ro : Bool) (EL : List (String × Nat)) (n0 : Nat) (y : MethodName) (bytes : ByteArray) (maxL : Nat) (ret : Option FieldType) (rm : Room) (ws : List Jvm.Cond) (as' : Array Value) (h0 : Heap) (ow : List Addr) (Q : Option Value → Heap → Prop) : Prop :=
  MetFree l y (head1 (Jvm.Cond.code y bytes maxL ret :: ws) rm) (fun a U => a = as' ∧ Z.Warmed39 U.vm ∧ U.heap = h0 ∧ Old Z n0 h0 ∧ CHv Z EL U.vm h0 ∧ ∀ x ∈ ow, Safe Z EL U.vm h0 x ∧ x < h0.size ∧ n0 ≤ x) (fun _ _ _ _ _ => True) (fun _ U o U' => FinS U Z wd ro EL n0 ow rm Q o U')
/-- what stays of a body -/
def Gd (p : Program) (s : State) (m : MethodId) (meth : Method) (c : Code) (y : MethodName) (bytes : ByteArray) (maxL : Nat) (ret : Option FieldType) (Z : State) (a0 : Array Value) (EL : List (String × Nat)) : Prop :=
  p.tables.exec = Jvm.exec ∧ c.code = bytes ∧ c.maxLocals = maxL ∧ s.vm.findClass y.cls = some m.cls ∧ meth.sig.returnType = ret ∧ meth.name = y.name ∧ meth.locks = false ∧ EW Z a0 EL
section
variable {p : Program} {l : Launch} {e : Env} {R : Room} {s : State} {m : MethodId} {args : Array Value} {below : List Frame} {meth : Method} {c : Code} {Z : State} {wd ro : Bool} {EL : List (String × Nat)} {n0 : Nat} {ow0 : List Addr} {Q : Option Value → Heap → Prop}
variable {h : Heap} {ow : List Addr} {cells slots cells' slots' : Nat} {pc pc' : Nat} {Ls Ls' : Array Slot} {st rest : List Value} {y : MethodName} {bytes : ByteArray} {maxL : Nat} {ret : Option FieldType} {a0 : Array Value}
theorem Con.intro {ws : List Jvm.Cond} {as' : Array Value} (hx : plainFor y = true) (hEL : EW Z a0 EL)
    (body : ∀ (p : Program) (e : Env) (s : State) (m : MethodId) (below : List Frame) (meth : Method) (c : Code), s.heap = h → Gd p s m meth c y bytes maxL ret Z a0 EL → Run p l e R s m as' below meth c Z wd ro EL n0 ow Q h ow 0 0 (entryFrame m as' maxL)) :
    Con l Z wd ro EL n0 y bytes maxL ret R ws as' h ow Q := by
  refine MetFree.of_bodySF hx hisR ?_
  intro p e s m args below meth c s₁ Bd hml0 hP hK
  obtain ⟨rfl, hZ, hh, hO, hC, hS⟩ := hP
  have e0 : s₁.heap = h := by rw [← hh, Bd.state]; rfl
  have X0 : Stand p l e R s m args below meth c s₁ [] 0 0 := Stand.of_body Bd
  refine body p e s m below meth c hh ⟨Bd.exec, Bd.bytes, hml0, findClass_of_methodNamed Bd.named, Bd.returns, (name_of_methodNamed Bd.named Bd.method).1, Bd.notSynchronized, hEL⟩ s₁ [] s.vm h.size X0 ?_
  have hc : CHr Z EL s.vm s.heap s.vm h := by rw [hh]; exact CHr.refl hC
  refine ⟨(State.WarmedH.refl s).since _, Nat.le_refl _, hZ, e0, Fr.nil _, hc, by rw [hh]; exact Keep.refl _ _, hO, fun x hx => ⟨(hS x hx).1, (hS x hx).2.1, (hS x hx).2.2, Or.inl hx⟩, Or.inr (State.WarmedH.refl s)⟩
theorem Run.stp {g g' : JFrame} (stp : ∀ (T : State) (locs : List Loc) (vm0 : Vm) (k0 : Nat), Stand p l e R (s.setVm vm0) m args below meth c T locs cells slots → Hid s Z wd EL n0 ow0 ow T locs vm0 k0 h → ∀ t, Steps p.tables e below (T.setTop g') t → Steps p.tables e below (T.setTop g) t)
    (K : Run p l e R s m args below meth c Z wd ro EL n0 ow0 Q h ow cells slots g') : Run p l e R s m args below meth c Z wd ro EL n0 ow0 Q h ow cells slots g := fun T locs vm0 k0 X H => by
  obtain ⟨s₂, o, a, b⟩ := K T locs vm0 k0 X H
  exact ⟨s₂, o, stp T locs vm0 k0 X H _ a, b⟩
theorem Run.mov {g g' : JFrame} (stp : ∀ (T : State) (locs : List Loc) (vm0 : Vm) (k0 : Nat), Stand p l e R (s.setVm vm0) m args below meth c T locs cells slots → Hid s Z wd EL n0 ow0 ow T locs vm0 k0 h →
      ∃ T', Stand p l e R (s.setVm vm0) m args below meth c T' locs cells slots ∧ T'.heap = h ∧ ∀ t, Steps p.tables e below (T'.setTop g') t → Steps p.tables e below (T.setTop g) t)
    (K : Run p l e R s m args below meth c Z wd ro EL n0 ow0 Q h ow cells slots g') : Run p l e R s m args below meth c Z wd ro EL n0 ow0 Q h ow cells slots g := fun T locs vm0 k0 X H => by
  obtain ⟨T', X', eT, st⟩ := stp T locs vm0 k0 X H
  obtain ⟨i1, i2, i3, -, i5⟩ := H
  obtain ⟨s₂, o, a, b⟩ := K T' locs vm0 k0 X' ⟨i1, i2, i3, eT, i5⟩
  exact ⟨s₂, o, st _ a, b⟩
theorem Run.mono {g : JFrame} {cells' slots' : Nat} (hc : cells ≤ cells') (hs : slots ≤ slots') (K : Run p l e R s m args below meth c Z wd ro EL n0 ow0 Q h ow cells' slots' g) : Run p l e R s m args below meth c Z wd ro EL n0 ow0 Q h ow cells slots g := fun T locs vm0 k0 X H => K T locs vm0 k0 (X.mono hc hs) H
theorem Run.owless {g : JFrame} {ow' : List Addr} (hs : ∀ x ∈ ow', x ∈ ow) (K : Run p l e R s m args below meth c Z wd ro EL n0 ow0 Q h ow' cells slots g) : Run p l e R s m args below meth c Z wd ro EL n0 ow0 Q h ow cells slots g := fun T locs vm0 k0 X H => by
  obtain ⟨i1, i2, i3, i4, i5, i6, i7, i8, i9, i10⟩ := H
  exact K T locs vm0 k0 X ⟨i1, i2, i3, i4, i5, i6, i7, i8, fun x q => i9 x (hs x q), i10⟩
/-- what is known at every point -/
theorem Run.know {g : JFrame} (K : Ext Z.heap h → Keep s.heap h ow0 → (∀ x ∈ ow, x < h.size ∧ n0 ≤ x ∧ (x ∈ ow0 ∨ s.heap.size ≤ x)) → Run p l e R s m args below meth c Z wd ro EL n0 ow0 Q h ow cells slots g) : Run p l e R s m args below meth c Z wd ro EL n0 ow0 Q h ow cells slots g := fun T locs vm0 k0 X H =>
  K H.2.2.2.2.2.2.2.1.2 H.2.2.2.2.2.2.1 (fun x q => (H.2.2.2.2.2.2.2.2.1 x q).2) T locs vm0 k0 X H
theorem Gd.own (G : Gd p s m meth c y bytes maxL ret Z a0 EL) {vm0 : Vm} {k0 : Nat} (hS : s.Since vm0 k0) : vm0.findClass y.cls = some m.cls := (hS.1.alike.findClass _ _).trans G.2.2.2.1
theorem Gd.hb (G : Gd p s m meth c y bytes maxL ret Z a0 EL) {pc : Nat} {r : Except ClassFile.DecodeError (ClassFile.Instr × Nat)} (h2 : ClassFile.decode bytes pc = r) : ClassFile.decode c.code pc = r := Jvm.hb G.2.1 h2
theorem Hid.cell {T : State} {locs : List Loc} {vm0 : Vm} {k0 : Nat} {a : Addr} {cl : Cell} {ty : FieldType} (H : Hid s Z wd EL n0 ow0 ow T locs vm0 k0 h) (A : Arr Z h a cl ty) : T.heap[a]? = some cl := by
  rw [H.2.2.2.1]; exact A.1
theorem Hid.arr {T : State} {locs : List Loc} {vm0 : Vm} {k0 : Nat} {a : Addr} {cl : Cell} {ty : FieldType} (H : Hid s Z wd EL n0 ow0 ow T locs vm0 k0 h) (A : Arr Z h a cl ty) : (s.setVm vm0).isArrayOf cl ty := State.isArrayOf_alike (T := s.setVm vm0) H.2.2.1.alike A.2.1
/-- a write at a place that is ours -/
theorem Hid.wr {T T' : State} {locs : List Loc} {vm0 : Vm} {k0 sl : Nat} {h' : Heap} {a : Addr} {v : Value} (H : Hid s Z wd EL n0 ow0 ow T locs vm0 k0 h) (W : Wr h h' a sl v) (ha : a ∈ ow) (eT : T'.heap = h') : Hid s Z wd EL n0 ow0 ow T' (locs ++ [⟨a, sl⟩]) vm0 k0 h' := by
  obtain ⟨i1, i2, i3, i4, i5, i6, i7, i8, i9, i10⟩ := H
  obtain ⟨S, q1, q2, q3⟩ := i9 a ha
  have hsz : h'.size = h.size := W.size
  refine ⟨i1, by rw [hsz]; exact i2, i3, eT, i5.app (fun y hy => by cases List.mem_singleton.mp hy; exact q2), i6.trans (CHr.wr W S i6.1), i7.wr W q3, i8.wr W q2, fun x hx => ?_, i10⟩
  obtain ⟨S', r1, r2, r3⟩ := i9 x hx
  exact ⟨Safe.wr W S i6.1 S', by rw [hsz]; exact r1, r2, r3⟩
theorem instNAt {T : State} {locs : List Loc} {vm0 : Vm} (X : Stand p l e R (s.setVm vm0) m args below meth c T locs cells slots) (hx : p.tables.exec = Jvm.exec) (hZ : Z.Warmed39 vm0) {own K D : String} {index : Nat} (hown : vm0.findClass own = some m.cls) (w : (Jvm.Cond.classLink own index K).before a0 Z = true) (eT : T.heap = h) {a : Addr} (F : Ins Z h a K false) (E : Exa Z h a D)
    {g : JFrame} (hg : g.method = m) {rest : List Value} (hs : g.stack = .ref a :: rest) (hd : decode c.code g.pc = .ok (.instanceof index, 3)) : ∃ T', Stand p l e R (s.setVm vm0) m args below meth c T' locs cells slots ∧ T'.heap = h ∧ ∀ target, Steps p.tables e below (T'.setTop { g with pc := g.pc + 3, stack := .int 0 :: rest }) target → Steps p.tables e below (T.setTop g) target := by
  obtain ⟨cell, cT, h1, h2, h3⟩ := F
  obtain ⟨cell', k, e1, -, e3, e4, -⟩ := E
  cases h1.symm.trans e1
  obtain ⟨k', q, -⟩ := hZ.alike.2.2 _ _ e3
  obtain ⟨vm', X', st⟩ := Sym.instanceofNoAt X hx hown (mv (s := s.setVm vm0) hZ w) (by rw [eT]; exact h1) e4 q (by show vm0.findClass K = _; rw [hZ.alike.findClass]; exact h2) (by show vm0.assignable _ _ = _; rw [hZ.alike.assignable]; simpa [e4] using h3) hg hs hd
  exact ⟨_, X', eT, st⟩
/-- a new cell -/
theorem Hid.ext {T T' : State} {locs : List Loc} {vm0 : Vm} {k0 : Nat} {h' : Heap} (H : Hid s Z wd EL n0 ow0 ow T locs vm0 k0 h) (E : Ext h h') (hlt : h.size < h'.size) (eT : T'.heap = h') : Hid s Z wd EL n0 ow0 (h.size :: ow) T' locs vm0 k0 h' := by
  obtain ⟨i1, i2, i3, i4, i5, i6, i7, i8, i9, i10⟩ := H
  refine ⟨i1, Nat.le_trans i2 E.1, i3, eT, i5, i6.trans (CHr.ext E i6.1), i7.ext E, i8.ext E, fun x hx => ?_, i10⟩
  rcases List.mem_cons.mp hx with rfl | hx
  · exact ⟨(Safe.new (Nat.le_refl _)).ext E i6.1, hlt, i8.1 ▸ i8.2.1, Or.inr i7.1⟩
  · obtain ⟨S', r1, r2, r3⟩ := i9 x hx
    exact ⟨S'.ext E i6.1, Nat.lt_of_lt_of_le r1 E.1, r2, r3⟩
theorem aloadN (G : Gd p s m meth c y bytes maxL ret Z a0 EL) {k : Fin 4} {v : Value} (hd : decode bytes pc = .ok (.aload_n k, 1)) (hl : Ls[k.val]? = some (.val v)) (hv : v.isRef = true) (hp : pc + 1 = pc') (K : Run p l e R s m args below meth c Z wd ro EL n0 ow0 Q h ow cells slots (mkF m pc' Ls (v :: st))) : Run p l e R s m args below meth c Z wd ro EL n0 ow0 Q h ow cells slots (mkF m pc Ls st) := by
  subst hp
  exact Run.stp (fun T locs vm0 k0 X H t k => XS.aloadN X.here G.1 rfl (G.hb hd) hl hv k) K
theorem aload (G : Gd p s m meth c y bytes maxL ret Z a0 EL) {k : Nat} {v : Value} (hd : decode bytes pc = .ok (.aload k, 2)) (hl : Ls[k]? = some (.val v)) (hv : v.isRef = true) (hp : pc + 2 = pc') (K : Run p l e R s m args below meth c Z wd ro EL n0 ow0 Q h ow cells slots (mkF m pc' Ls (v :: st))) : Run p l e R s m args below meth c Z wd ro EL n0 ow0 Q h ow cells slots (mkF m pc Ls st) := by
  subst hp
  exact Run.stp (fun T locs vm0 k0 X H t k => XS.aload X.here G.1 rfl (G.hb hd) hl hv k) K
theorem iloadN (G : Gd p s m meth c y bytes maxL ret Z a0 EL) {k : Fin 4} {v : Int32} (hd : decode bytes pc = .ok (.iload_n k, 1)) (hl : Ls[k.val]? = some (.val (.int v))) (hp : pc + 1 = pc') (K : Run p l e R s m args below meth c Z wd ro EL n0 ow0 Q h ow cells slots (mkF m pc' Ls (.int v :: st))) : Run p l e R s m args below meth c Z wd ro EL n0 ow0 Q h ow cells slots (mkF m pc Ls st) := by
  subst hp
  exact Run.stp (fun T locs vm0 k0 X H t k => XS.iloadN X.here G.1 rfl (G.hb hd) hl k) K
theorem iload (G : Gd p s m meth c y bytes maxL ret Z a0 EL) {k : Nat} {v : Int32} (hd : decode bytes pc = .ok (.iload k, 2)) (hl : Ls[k]? = some (.val (.int v))) (hp : pc + 2 = pc') (K : Run p l e R s m args below meth c Z wd ro EL n0 ow0 Q h ow cells slots (mkF m pc' Ls (.int v :: st))) : Run p l e R s m args below meth c Z wd ro EL n0 ow0 Q h ow cells slots (mkF m pc Ls st) := by
  subst hp
  exact Run.stp (fun T locs vm0 k0 X H t k => XS.iload X.here G.1 rfl (G.hb hd) hl k) K
theorem iconst (G : Gd p s m meth c y bytes maxL ret Z a0 EL) {i : Int} (v : Int32) (hd : decode bytes pc = .ok (.iconst i, 1)) (hv : Int32.ofInt i = v) (hp : pc + 1 = pc') (K : Run p l e R s m args below meth c Z wd ro EL n0 ow0 Q h ow cells slots (mkF m pc' Ls (.int v :: st))) : Run p l e R s m args below meth c Z wd ro EL n0 ow0 Q h ow cells slots (mkF m pc Ls st) := by
  subst hp
  exact Run.stp (fun T locs vm0 k0 X H t k => XT.iconstV X.here G.1 rfl v (G.hb hd) hv k) K
theorem bipush (G : Gd p s m meth c y bytes maxL ret Z a0 EL) {i : Int} (v : Int32) (hd : decode bytes pc = .ok (.bipush i, 2)) (hv : (Int8.ofInt i).toInt32 = v) (hp : pc + 2 = pc') (K : Run p l e R s m args below meth c Z wd ro EL n0 ow0 Q h ow cells slots (mkF m pc' Ls (.int v :: st))) : Run p l e R s m args below meth c Z wd ro EL n0 ow0 Q h ow cells slots (mkF m pc Ls st) := by
  subst hp
  exact Run.stp (fun T locs vm0 k0 X H t k => XT.bipushV X.here G.1 rfl v (G.hb hd) hv k) K
theorem sipush (G : Gd p s m meth c y bytes maxL ret Z a0 EL) {i : Int} (v : Int32) (hd : decode bytes pc = .ok (.sipush i, 3)) (hv : (Int16.ofInt i).toInt32 = v) (hp : pc + 3 = pc') (K : Run p l e R s m args below meth c Z wd ro EL n0 ow0 Q h ow cells slots (mkF m pc' Ls (.int v :: st))) : Run p l e R s m args below meth c Z wd ro EL n0 ow0 Q h ow cells slots (mkF m pc Ls st) := by
  subst hp
  exact Run.stp (fun T locs vm0 k0 X H t k => XT.sipushV X.here G.1 rfl v (G.hb hd) hv k) K
theorem aconstNull (G : Gd p s m meth c y bytes maxL ret Z a0 EL)  (hd : decode bytes pc = .ok (.aconst_null, 1))  (hp : pc + 1 = pc') (K : Run p l e R s m args below meth c Z wd ro EL n0 ow0 Q h ow cells slots (mkF m pc' Ls (.null :: st))) : Run p l e R s m args below meth c Z wd ro EL n0 ow0 Q h ow cells slots (mkF m pc Ls st) := by
  subst hp
  exact Run.stp (fun T locs vm0 k0 X H t k => XS.aconstNull X.here G.1 rfl (G.hb hd) k) K
theorem dup (G : Gd p s m meth c y bytes maxL ret Z a0 EL) {v : Value} (hd : decode bytes pc = .ok (.dup, 1)) (hv : v.category = 1) (hp : pc + 1 = pc') (K : Run p l e R s m args below meth c Z wd ro EL n0 ow0 Q h ow cells slots (mkF m pc' Ls (v :: v :: rest))) : Run p l e R s m args below meth c Z wd ro EL n0 ow0 Q h ow cells slots (mkF m pc Ls (v :: rest)) := by
  subst hp
  exact Run.stp (fun T locs vm0 k0 X H t k => XS.dup X.here G.1 rfl (G.hb hd) rfl hv k) K
theorem pop (G : Gd p s m meth c y bytes maxL ret Z a0 EL) {v : Value} (hd : decode bytes pc = .ok (.pop, 1)) (hv : v.category = 1) (hp : pc + 1 = pc') (K : Run p l e R s m args below meth c Z wd ro EL n0 ow0 Q h ow cells slots (mkF m pc' Ls rest)) : Run p l e R s m args below meth c Z wd ro EL n0 ow0 Q h ow cells slots (mkF m pc Ls (v :: rest)) := by
  subst hp
  exact Run.stp (fun T locs vm0 k0 X H t k => XT.pop X.here G.1 rfl (G.hb hd) rfl hv k) K
theorem dupX1 (G : Gd p s m meth c y bytes maxL ret Z a0 EL) {v w : Value} (hd : decode bytes pc = .ok (.dup_x1, 1)) (hv : v.category = 1) (hw : w.category = 1) (hp : pc + 1 = pc') (K : Run p l e R s m args below meth c Z wd ro EL n0 ow0 Q h ow cells slots (mkF m pc' Ls (v :: w :: v :: rest))) : Run p l e R s m args below meth c Z wd ro EL n0 ow0 Q h ow cells slots (mkF m pc Ls (v :: w :: rest)) := by
  subst hp
  exact Run.stp (fun T locs vm0 k0 X H t k => XT.dupX1 X.here G.1 rfl (G.hb hd) rfl hv hw k) K
theorem istoreN (G : Gd p s m meth c y bytes maxL ret Z a0 EL) {k : Fin 4} {x : Int32} (hd : decode bytes pc = .ok (.istore_n k, 1)) (hl : storeLocals Ls k.val (.int x) = some Ls') (hp : pc + 1 = pc') (K : Run p l e R s m args below meth c Z wd ro EL n0 ow0 Q h ow cells slots (mkF m pc' Ls' rest)) : Run p l e R s m args below meth c Z wd ro EL n0 ow0 Q h ow cells slots (mkF m pc Ls (.int x :: rest)) := by
  subst hp
  exact Run.stp (fun T locs vm0 k0 X H t k => XS.istoreN X.here G.1 rfl (G.hb hd) rfl hl k) K
theorem istore (G : Gd p s m meth c y bytes maxL ret Z a0 EL) {k : Nat} {x : Int32} (hd : decode bytes pc = .ok (.istore k, 2)) (hl : storeLocals Ls k (.int x) = some Ls') (hp : pc + 2 = pc') (K : Run p l e R s m args below meth c Z wd ro EL n0 ow0 Q h ow cells slots (mkF m pc' Ls' rest)) : Run p l e R s m args below meth c Z wd ro EL n0 ow0 Q h ow cells slots (mkF m pc Ls (.int x :: rest)) := by
  subst hp
  exact Run.stp (fun T locs vm0 k0 X H t k => XS.istore X.here G.1 rfl (G.hb hd) rfl hl k) K
theorem astoreN (G : Gd p s m meth c y bytes maxL ret Z a0 EL) {k : Fin 4} {x : Value} (hd : decode bytes pc = .ok (.astore_n k, 1)) (hv : x.isRef = true) (hl : storeLocals Ls k.val x = some Ls') (hp : pc + 1 = pc') (K : Run p l e R s m args below meth c Z wd ro EL n0 ow0 Q h ow cells slots (mkF m pc' Ls' rest)) : Run p l e R s m args below meth c Z wd ro EL n0 ow0 Q h ow cells slots (mkF m pc Ls (x :: rest)) := by
  subst hp
  exact Run.stp (fun T locs vm0 k0 X H t k => XS.astoreN X.here G.1 rfl (G.hb hd) rfl hv hl k) K
theorem astore (G : Gd p s m meth c y bytes maxL ret Z a0 EL) {k : Nat} {x : Value} (hd : decode bytes pc = .ok (.astore k, 2)) (hv : x.isRef = true) (hl : storeLocals Ls k x = some Ls') (hp : pc + 2 = pc') (K : Run p l e R s m args below meth c Z wd ro EL n0 ow0 Q h ow cells slots (mkF m pc' Ls' rest)) : Run p l e R s m args below meth c Z wd ro EL n0 ow0 Q h ow cells slots (mkF m pc Ls (x :: rest)) := by
  subst hp
  exact Run.stp (fun T locs vm0 k0 X H t k => XS.astore X.here G.1 rfl (G.hb hd) rfl hv hl k) K
theorem iinc (G : Gd p s m meth c y bytes maxL ret Z a0 EL) {k : Nat} {i : Int} {x : Int32} (v : Int32) (hd : decode bytes pc = .ok (.iinc k i, 3)) (hv : Int32.ofInt i = v) (hl : Ls[k]? = some (.val (.int x))) (hl' : storeLocals Ls k (.int (x + v)) = some Ls') (hp : pc + 3 = pc') (K : Run p l e R s m args below meth c Z wd ro EL n0 ow0 Q h ow cells slots (mkF m pc' Ls' st)) : Run p l e R s m args below meth c Z wd ro EL n0 ow0 Q h ow cells slots (mkF m pc Ls st) := by
  subst hp
  exact Run.stp (fun T locs vm0 k0 X H t k => XT.iincV X.here G.1 rfl v (G.hb hd) hv hl hl' k) K
theorem iadd (G : Gd p s m meth c y bytes maxL ret Z a0 EL) {x z : Int32} (hd : decode bytes pc = .ok (.iadd, 1))  (hp : pc + 1 = pc') (K : ∀ v : Int32, v = x + z → Run p l e R s m args below meth c Z wd ro EL n0 ow0 Q h ow cells slots (mkF m pc' Ls (.int v :: rest))) : Run p l e R s m args below meth c Z wd ro EL n0 ow0 Q h ow cells slots (mkF m pc Ls (.int z :: .int x :: rest)) := by
  subst hp
  exact Run.stp (fun T locs vm0 k0 X H t k => XS.iadd X.here G.1 rfl (G.hb hd) rfl k) (K _ rfl)
theorem isub (G : Gd p s m meth c y bytes maxL ret Z a0 EL) {x z : Int32} (hd : decode bytes pc = .ok (.isub, 1))  (hp : pc + 1 = pc') (K : ∀ v : Int32, v = x - z → Run p l e R s m args below meth c Z wd ro EL n0 ow0 Q h ow cells slots (mkF m pc' Ls (.int v :: rest))) : Run p l e R s m args below meth c Z wd ro EL n0 ow0 Q h ow cells slots (mkF m pc Ls (.int z :: .int x :: rest)) := by
  subst hp
  exact Run.stp (fun T locs vm0 k0 X H t k => XS.isub X.here G.1 rfl (G.hb hd) rfl k) (K _ rfl)
theorem iand (G : Gd p s m meth c y bytes maxL ret Z a0 EL) {x z : Int32} (hd : decode bytes pc = .ok (.iand, 1))  (hp : pc + 1 = pc') (K : ∀ v : Int32, v = x &&& z → Run p l e R s m args below meth c Z wd ro EL n0 ow0 Q h ow cells slots (mkF m pc' Ls (.int v :: rest))) : Run p l e R s m args below meth c Z wd ro EL n0 ow0 Q h ow cells slots (mkF m pc Ls (.int z :: .int x :: rest)) := by
  subst hp
  exact Run.stp (fun T locs vm0 k0 X H t k => XS.iand X.here G.1 rfl (G.hb hd) rfl k) (K _ rfl)
theorem imul (G : Gd p s m meth c y bytes maxL ret Z a0 EL) {x z : Int32} (hd : decode bytes pc = .ok (.imul, 1))  (hp : pc + 1 = pc') (K : ∀ v : Int32, v = x * z → Run p l e R s m args below meth c Z wd ro EL n0 ow0 Q h ow cells slots (mkF m pc' Ls (.int v :: rest))) : Run p l e R s m args below meth c Z wd ro EL n0 ow0 Q h ow cells slots (mkF m pc Ls (.int z :: .int x :: rest)) := by
  subst hp
  exact Run.stp (fun T locs vm0 k0 X H t k => XS.imul X.here G.1 rfl (G.hb hd) rfl k) (K _ rfl)
theorem ior (G : Gd p s m meth c y bytes maxL ret Z a0 EL) {x z : Int32} (hd : decode bytes pc = .ok (.ior, 1))  (hp : pc + 1 = pc') (K : ∀ v : Int32, v = x ||| z → Run p l e R s m args below meth c Z wd ro EL n0 ow0 Q h ow cells slots (mkF m pc' Ls (.int v :: rest))) : Run p l e R s m args below meth c Z wd ro EL n0 ow0 Q h ow cells slots (mkF m pc Ls (.int z :: .int x :: rest)) := by
  subst hp
  exact Run.stp (fun T locs vm0 k0 X H t k => XT.ior X.here G.1 rfl (G.hb hd) rfl k) (K _ rfl)
theorem ixor (G : Gd p s m meth c y bytes maxL ret Z a0 EL) {x z : Int32} (hd : decode bytes pc = .ok (.ixor, 1))  (hp : pc + 1 = pc') (K : ∀ v : Int32, v = x ^^^ z → Run p l e R s m args below meth c Z wd ro EL n0 ow0 Q h ow cells slots (mkF m pc' Ls (.int v :: rest))) : Run p l e R s m args below meth c Z wd ro EL n0 ow0 Q h ow cells slots (mkF m pc Ls (.int z :: .int x :: rest)) := by
  subst hp
  exact Run.stp (fun T locs vm0 k0 X H t k => XT.ixor X.here G.1 rfl (G.hb hd) rfl k) (K _ rfl)
theorem irem (G : Gd p s m meth c y bytes maxL ret Z a0 EL) {x z : Int32} (hd : decode bytes pc = .ok (.irem, 1)) (hz : z ≠ 0) (hp : pc + 1 = pc') (K : ∀ v : Int32, v = x % z → Run p l e R s m args below meth c Z wd ro EL n0 ow0 Q h ow cells slots (mkF m pc' Ls (.int v :: rest))) : Run p l e R s m args below meth c Z wd ro EL n0 ow0 Q h ow cells slots (mkF m pc Ls (.int z :: .int x :: rest)) := by
  subst hp
  exact Run.stp (fun T locs vm0 k0 X H t k => iremM X G.1 rfl (G.hb hd) rfl hz k) (K _ rfl)
theorem ineg (G : Gd p s m meth c y bytes maxL ret Z a0 EL) {x : Int32} (hd : decode bytes pc = .ok (.ineg, 1)) (hp : pc + 1 = pc') (K : ∀ v : Int32, v = -x → Run p l e R s m args below meth c Z wd ro EL n0 ow0 Q h ow cells slots (mkF m pc' Ls (.int v :: rest))) : Run p l e R s m args below meth c Z wd ro EL n0 ow0 Q h ow cells slots (mkF m pc Ls (.int x :: rest)) := by
  subst hp
  exact Run.stp (fun T locs vm0 k0 X H t k => XS.ineg X.here G.1 rfl (G.hb hd) rfl k) (K _ rfl)
theorem i2c (G : Gd p s m meth c y bytes maxL ret Z a0 EL) {x : Int32} (hd : decode bytes pc = .ok (.i2c, 1)) (hp : pc + 1 = pc') (K : ∀ v : Int32, v = x.toUInt32.toUInt16.toUInt32.toInt32 → Run p l e R s m args below meth c Z wd ro EL n0 ow0 Q h ow cells slots (mkF m pc' Ls (.int v :: rest))) : Run p l e R s m args below meth c Z wd ro EL n0 ow0 Q h ow cells slots (mkF m pc Ls (.int x :: rest)) := by
  subst hp
  exact Run.stp (fun T locs vm0 k0 X H t k => XT.i2c X.here G.1 rfl (G.hb hd) rfl k) (K _ rfl)
theorem i2b (G : Gd p s m meth c y bytes maxL ret Z a0 EL) {x : Int32} (hd : decode bytes pc = .ok (.i2b, 1)) (hp : pc + 1 = pc') (K : ∀ v : Int32, v = x.toInt8.toInt32 → Run p l e R s m args below meth c Z wd ro EL n0 ow0 Q h ow cells slots (mkF m pc' Ls (.int v :: rest))) : Run p l e R s m args below meth c Z wd ro EL n0 ow0 Q h ow cells slots (mkF m pc Ls (.int x :: rest)) := by
  subst hp
  exact Run.stp (fun T locs vm0 k0 X H t k => XT.i2b X.here G.1 rfl (G.hb hd) rfl k) (K _ rfl)
theorem ishl (G : Gd p s m meth c y bytes maxL ret Z a0 EL) {x z : Int32} (hd : decode bytes pc = .ok (.ishl, 1))  (hp : pc + 1 = pc') (K : ∀ v : Int32, v = x <<< (z &&& 31) → Run p l e R s m args below meth c Z wd ro EL n0 ow0 Q h ow cells slots (mkF m pc' Ls (.int v :: rest))) : Run p l e R s m args below meth c Z wd ro EL n0 ow0 Q h ow cells slots (mkF m pc Ls (.int z :: .int x :: rest)) := by
  subst hp
  exact Run.stp (fun T locs vm0 k0 X H t k => XT.ishl X.here G.1 rfl (G.hb hd) rfl k) (K _ rfl)
theorem ishr (G : Gd p s m meth c y bytes maxL ret Z a0 EL) {x z : Int32} (hd : decode bytes pc = .ok (.ishr, 1))  (hp : pc + 1 = pc') (K : ∀ v : Int32, v = x >>> (z &&& 31) → Run p l e R s m args below meth c Z wd ro EL n0 ow0 Q h ow cells slots (mkF m pc' Ls (.int v :: rest))) : Run p l e R s m args below meth c Z wd ro EL n0 ow0 Q h ow cells slots (mkF m pc Ls (.int z :: .int x :: rest)) := by
  subst hp
  exact Run.stp (fun T locs vm0 k0 X H t k => XT.ishr X.here G.1 rfl (G.hb hd) rfl k) (K _ rfl)
theorem iushr (G : Gd p s m meth c y bytes maxL ret Z a0 EL) {x z : Int32} (hd : decode bytes pc = .ok (.iushr, 1))  (hp : pc + 1 = pc') (K : ∀ v : Int32, v = (x.toUInt32 >>> (z &&& 31).toUInt32).toInt32 → Run p l e R s m args below meth c Z wd ro EL n0 ow0 Q h ow cells slots (mkF m pc' Ls (.int v :: rest))) : Run p l e R s m args below meth c Z wd ro EL n0 ow0 Q h ow cells slots (mkF m pc Ls (.int z :: .int x :: rest)) := by
  subst hp
  exact Run.stp (fun T locs vm0 k0 X H t k => XT.iushr X.here G.1 rfl (G.hb hd) rfl k) (K _ rfl)
theorem goto (G : Gd p s m meth c y bytes maxL ret Z a0 EL) {o : Int} (hd : decode bytes pc = .ok (.goto o, 3)) (ho : 0 ≤ (pc : Int) + o) (hp : ((pc : Int) + o).toNat = pc') (K : Run p l e R s m args below meth c Z wd ro EL n0 ow0 Q h ow cells slots (mkF m pc' Ls st)) : Run p l e R s m args below meth c Z wd ro EL n0 ow0 Q h ow cells slots (mkF m pc Ls st) :=
  Run.stp (fun T locs vm0 k0 X H t k => XS.goto X.here G.1 rfl rfl (G.hb hd) ho hp k) K
theorem icmp_eq_t (G : Gd p s m meth c y bytes maxL ret Z a0 EL) {o : Int} {x z : Int32} (hd : decode bytes pc = .ok (.if_icmp .eq o, 3)) (hc : x = z) (ho : 0 ≤ (pc : Int) + o) (hp : ((pc : Int) + o).toNat = pc') (K : Run p l e R s m args below meth c Z wd ro EL n0 ow0 Q h ow cells slots (mkF m pc' Ls rest)) : Run p l e R s m args below meth c Z wd ro EL n0 ow0 Q h ow cells slots (mkF m pc Ls (.int z :: .int x :: rest)) :=
  Run.stp (fun T locs vm0 k0 X H t k => XS.icmpYes X.here G.1 rfl rfl (G.hb hd) rfl (XT.ii_eq_t hc) ho hp k) K
theorem icmp_eq_f (G : Gd p s m meth c y bytes maxL ret Z a0 EL) {o : Int} {x z : Int32} (hd : decode bytes pc = .ok (.if_icmp .eq o, 3)) (hc : ¬ x = z) (hp : pc + 3 = pc') (K : Run p l e R s m args below meth c Z wd ro EL n0 ow0 Q h ow cells slots (mkF m pc' Ls rest)) : Run p l e R s m args below meth c Z wd ro EL n0 ow0 Q h ow cells slots (mkF m pc Ls (.int z :: .int x :: rest)) := by
  subst hp
  exact Run.stp (fun T locs vm0 k0 X H t k => XS.icmpNo X.here G.1 rfl (G.hb hd) rfl (XT.ii_eq_f hc) k) K
theorem icmp_eq (G : Gd p s m meth c y bytes maxL ret Z a0 EL) {o : Int} {x z : Int32} {pt pf : Nat} (hd : decode bytes pc = .ok (.if_icmp .eq o, 3)) (ho : 0 ≤ (pc : Int) + o) (hp : ((pc : Int) + o).toNat = pt) (hq : pc + 3 = pf) (K1 : (x = z) → Run p l e R s m args below meth c Z wd ro EL n0 ow0 Q h ow cells slots (mkF m pt Ls rest)) (K2 : (¬ x = z) → Run p l e R s m args below meth c Z wd ro EL n0 ow0 Q h ow cells slots (mkF m pf Ls rest)) : Run p l e R s m args below meth c Z wd ro EL n0 ow0 Q h ow cells slots (mkF m pc Ls (.int z :: .int x :: rest)) := by
  by_cases q : x = z
  · exact icmp_eq_t G hd q ho hp (K1 q)
  · exact icmp_eq_f G hd q hq (K2 q)
theorem icmp_ne_t (G : Gd p s m meth c y bytes maxL ret Z a0 EL) {o : Int} {x z : Int32} (hd : decode bytes pc = .ok (.if_icmp .ne o, 3)) (hc : ¬ x = z) (ho : 0 ≤ (pc : Int) + o) (hp : ((pc : Int) + o).toNat = pc') (K : Run p l e R s m args below meth c Z wd ro EL n0 ow0 Q h ow cells slots (mkF m pc' Ls rest)) : Run p l e R s m args below meth c Z wd ro EL n0 ow0 Q h ow cells slots (mkF m pc Ls (.int z :: .int x :: rest)) :=
  Run.stp (fun T locs vm0 k0 X H t k => XS.icmpYes X.here G.1 rfl rfl (G.hb hd) rfl (XT.ii_ne_t hc) ho hp k) K
theorem icmp_ne_f (G : Gd p s m meth c y bytes maxL ret Z a0 EL) {o : Int} {x z : Int32} (hd : decode bytes pc = .ok (.if_icmp .ne o, 3)) (hc : x = z) (hp : pc + 3 = pc') (K : Run p l e R s m args below meth c Z wd ro EL n0 ow0 Q h ow cells slots (mkF m pc' Ls rest)) : Run p l e R s m args below meth c Z wd ro EL n0 ow0 Q h ow cells slots (mkF m pc Ls (.int z :: .int x :: rest)) := by
  subst hp
  exact Run.stp (fun T locs vm0 k0 X H t k => XS.icmpNo X.here G.1 rfl (G.hb hd) rfl (XT.ii_ne_f hc) k) K
theorem icmp_ne (G : Gd p s m meth c y bytes maxL ret Z a0 EL) {o : Int} {x z : Int32} {pt pf : Nat} (hd : decode bytes pc = .ok (.if_icmp .ne o, 3)) (ho : 0 ≤ (pc : Int) + o) (hp : ((pc : Int) + o).toNat = pt) (hq : pc + 3 = pf) (K1 : (¬ x = z) → Run p l e R s m args below meth c Z wd ro EL n0 ow0 Q h ow cells slots (mkF m pt Ls rest)) (K2 : (x = z) → Run p l e R s m args below meth c Z wd ro EL n0 ow0 Q h ow cells slots (mkF m pf Ls rest)) : Run p l e R s m args below meth c Z wd ro EL n0 ow0 Q h ow cells slots (mkF m pc Ls (.int z :: .int x :: rest)) := by
  by_cases q : x = z
  · exact icmp_ne_f G hd q hq (K2 q)
  · exact icmp_ne_t G hd q ho hp (K1 q)
theorem icmp_lt_t (G : Gd p s m meth c y bytes maxL ret Z a0 EL) {o : Int} {x z : Int32} (hd : decode bytes pc = .ok (.if_icmp .lt o, 3)) (hc : x < z) (ho : 0 ≤ (pc : Int) + o) (hp : ((pc : Int) + o).toNat = pc') (K : Run p l e R s m args below meth c Z wd ro EL n0 ow0 Q h ow cells slots (mkF m pc' Ls rest)) : Run p l e R s m args below meth c Z wd ro EL n0 ow0 Q h ow cells slots (mkF m pc Ls (.int z :: .int x :: rest)) :=
  Run.stp (fun T locs vm0 k0 X H t k => XS.icmpYes X.here G.1 rfl rfl (G.hb hd) rfl (XT.ii_lt_t hc) ho hp k) K
theorem icmp_lt_f (G : Gd p s m meth c y bytes maxL ret Z a0 EL) {o : Int} {x z : Int32} (hd : decode bytes pc = .ok (.if_icmp .lt o, 3)) (hc : ¬ x < z) (hp : pc + 3 = pc') (K : Run p l e R s m args below meth c Z wd ro EL n0 ow0 Q h ow cells slots (mkF m pc' Ls rest)) : Run p l e R s m args below meth c Z wd ro EL n0 ow0 Q h ow cells slots (mkF m pc Ls (.int z :: .int x :: rest)) := by
  subst hp
  exact Run.stp (fun T locs vm0 k0 X H t k => XS.icmpNo X.here G.1 rfl (G.hb hd) rfl (XT.ii_lt_f hc) k) K
theorem icmp_lt (G : Gd p s m meth c y bytes maxL ret Z a0 EL) {o : Int} {x z : Int32} {pt pf : Nat} (hd : decode bytes pc = .ok (.if_icmp .lt o, 3)) (ho : 0 ≤ (pc : Int) + o) (hp : ((pc : Int) + o).toNat = pt) (hq : pc + 3 = pf) (K1 : (x < z) → Run p l e R s m args below meth c Z wd ro EL n0 ow0 Q h ow cells slots (mkF m pt Ls rest)) (K2 : (¬ x < z) → Run p l e R s m args below meth c Z wd ro EL n0 ow0 Q h ow cells slots (mkF m pf Ls rest)) : Run p l e R s m args below meth c Z wd ro EL n0 ow0 Q h ow cells slots (mkF m pc Ls (.int z :: .int x :: rest)) := by
  by_cases q : x < z
  · exact icmp_lt_t G hd q ho hp (K1 q)
  · exact icmp_lt_f G hd q hq (K2 q)
theorem icmp_ge_t (G : Gd p s m meth c y bytes maxL ret Z a0 EL) {o : Int} {x z : Int32} (hd : decode bytes pc = .ok (.if_icmp .ge o, 3)) (hc : ¬ x < z) (ho : 0 ≤ (pc : Int) + o) (hp : ((pc : Int) + o).toNat = pc') (K : Run p l e R s m args below meth c Z wd ro EL n0 ow0 Q h ow cells slots (mkF m pc' Ls rest)) : Run p l e R s m args below meth c Z wd ro EL n0 ow0 Q h ow cells slots (mkF m pc Ls (.int z :: .int x :: rest)) :=
  Run.stp (fun T locs vm0 k0 X H t k => XS.icmpYes X.here G.1 rfl rfl (G.hb hd) rfl (XT.ii_ge_t hc) ho hp k) K
theorem icmp_ge_f (G : Gd p s m meth c y bytes maxL ret Z a0 EL) {o : Int} {x z : Int32} (hd : decode bytes pc = .ok (.if_icmp .ge o, 3)) (hc : x < z) (hp : pc + 3 = pc') (K : Run p l e R s m args below meth c Z wd ro EL n0 ow0 Q h ow cells slots (mkF m pc' Ls rest)) : Run p l e R s m args below meth c Z wd ro EL n0 ow0 Q h ow cells slots (mkF m pc Ls (.int z :: .int x :: rest)) := by
  subst hp
  exact Run.stp (fun T locs vm0 k0 X H t k => XS.icmpNo X.here G.1 rfl (G.hb hd) rfl (XT.ii_ge_f hc) k) K
theorem icmp_ge (G : Gd p s m meth c y bytes maxL ret Z a0 EL) {o : Int} {x z : Int32} {pt pf : Nat} (hd : decode bytes pc = .ok (.if_icmp .ge o, 3)) (ho : 0 ≤ (pc : Int) + o) (hp : ((pc : Int) + o).toNat = pt) (hq : pc + 3 = pf) (K1 : (¬ x < z) → Run p l e R s m args below meth c Z wd ro EL n0 ow0 Q h ow cells slots (mkF m pt Ls rest)) (K2 : (x < z) → Run p l e R s m args below meth c Z wd ro EL n0 ow0 Q h ow cells slots (mkF m pf Ls rest)) : Run p l e R s m args below meth c Z wd ro EL n0 ow0 Q h ow cells slots (mkF m pc Ls (.int z :: .int x :: rest)) := by
  by_cases q : x < z
  · exact icmp_ge_f G hd q hq (K2 q)
  · exact icmp_ge_t G hd q ho hp (K1 q)
theorem icmp_gt_t (G : Gd p s m meth c y bytes maxL ret Z a0 EL) {o : Int} {x z : Int32} (hd : decode bytes pc = .ok (.if_icmp .gt o, 3)) (hc : z < x) (ho : 0 ≤ (pc : Int) + o) (hp : ((pc : Int) + o).toNat = pc') (K : Run p l e R s m args below meth c Z wd ro EL n0 ow0 Q h ow cells slots (mkF m pc' Ls rest)) : Run p l e R s m args below meth c Z wd ro EL n0 ow0 Q h ow cells slots (mkF m pc Ls (.int z :: .int x :: rest)) :=
  Run.stp (fun T locs vm0 k0 X H t k => XS.icmpYes X.here G.1 rfl rfl (G.hb hd) rfl (XT.ii_gt_t hc) ho hp k) K
theorem icmp_gt_f (G : Gd p s m meth c y bytes maxL ret Z a0 EL) {o : Int} {x z : Int32} (hd : decode bytes pc = .ok (.if_icmp .gt o, 3)) (hc : ¬ z < x) (hp : pc + 3 = pc') (K : Run p l e R s m args below meth c Z wd ro EL n0 ow0 Q h ow cells slots (mkF m pc' Ls rest)) : Run p l e R s m args below meth c Z wd ro EL n0 ow0 Q h ow cells slots (mkF m pc Ls (.int z :: .int x :: rest)) := by
  subst hp
  exact Run.stp (fun T locs vm0 k0 X H t k => XS.icmpNo X.here G.1 rfl (G.hb hd) rfl (XT.ii_gt_f hc) k) K
theorem icmp_gt (G : Gd p s m meth c y bytes maxL ret Z a0 EL) {o : Int} {x z : Int32} {pt pf : Nat} (hd : decode bytes pc = .ok (.if_icmp .gt o, 3)) (ho : 0 ≤ (pc : Int) + o) (hp : ((pc : Int) + o).toNat = pt) (hq : pc + 3 = pf) (K1 : (z < x) → Run p l e R s m args below meth c Z wd ro EL n0 ow0 Q h ow cells slots (mkF m pt Ls rest)) (K2 : (¬ z < x) → Run p l e R s m args below meth c Z wd ro EL n0 ow0 Q h ow cells slots (mkF m pf Ls rest)) : Run p l e R s m args below meth c Z wd ro EL n0 ow0 Q h ow cells slots (mkF m pc Ls (.int z :: .int x :: rest)) := by
  by_cases q : z < x
  · exact icmp_gt_t G hd q ho hp (K1 q)
  · exact icmp_gt_f G hd q hq (K2 q)
theorem icmp_le_t (G : Gd p s m meth c y bytes maxL ret Z a0 EL) {o : Int} {x z : Int32} (hd : decode bytes pc = .ok (.if_icmp .le o, 3)) (hc : ¬ z < x) (ho : 0 ≤ (pc : Int) + o) (hp : ((pc : Int) + o).toNat = pc') (K : Run p l e R s m args below meth c Z wd ro EL n0 ow0 Q h ow cells slots (mkF m pc' Ls rest)) : Run p l e R s m args below meth c Z wd ro EL n0 ow0 Q h ow cells slots (mkF m pc Ls (.int z :: .int x :: rest)) :=
  Run.stp (fun T locs vm0 k0 X H t k => XS.icmpYes X.here G.1 rfl rfl (G.hb hd) rfl (XT.ii_le_t hc) ho hp k) K
theorem icmp_le_f (G : Gd p s m meth c y bytes maxL ret Z a0 EL) {o : Int} {x z : Int32} (hd : decode bytes pc = .ok (.if_icmp .le o, 3)) (hc : z < x) (hp : pc + 3 = pc') (K : Run p l e R s m args below meth c Z wd ro EL n0 ow0 Q h ow cells slots (mkF m pc' Ls rest)) : Run p l e R s m args below meth c Z wd ro EL n0 ow0 Q h ow cells slots (mkF m pc Ls (.int z :: .int x :: rest)) := by
  subst hp
  exact Run.stp (fun T locs vm0 k0 X H t k => XS.icmpNo X.here G.1 rfl (G.hb hd) rfl (XT.ii_le_f hc) k) K
theorem icmp_le (G : Gd p s m meth c y bytes maxL ret Z a0 EL) {o : Int} {x z : Int32} {pt pf : Nat} (hd : decode bytes pc = .ok (.if_icmp .le o, 3)) (ho : 0 ≤ (pc : Int) + o) (hp : ((pc : Int) + o).toNat = pt) (hq : pc + 3 = pf) (K1 : (¬ z < x) → Run p l e R s m args below meth c Z wd ro EL n0 ow0 Q h ow cells slots (mkF m pt Ls rest)) (K2 : (z < x) → Run p l e R s m args below meth c Z wd ro EL n0 ow0 Q h ow cells slots (mkF m pf Ls rest)) : Run p l e R s m args below meth c Z wd ro EL n0 ow0 Q h ow cells slots (mkF m pc Ls (.int z :: .int x :: rest)) := by
  by_cases q : z < x
  · exact icmp_le_f G hd q hq (K2 q)
  · exact icmp_le_t G hd q ho hp (K1 q)
theorem if_eq_t (G : Gd p s m meth c y bytes maxL ret Z a0 EL) {o : Int} {x : Int32} (hd : decode bytes pc = .ok (.ifCond .eq o, 3)) (hc : x = 0) (ho : 0 ≤ (pc : Int) + o) (hp : ((pc : Int) + o).toNat = pc') (K : Run p l e R s m args below meth c Z wd ro EL n0 ow0 Q h ow cells slots (mkF m pc' Ls rest)) : Run p l e R s m args below meth c Z wd ro EL n0 ow0 Q h ow cells slots (mkF m pc Ls (.int x :: rest)) :=
  Run.stp (fun T locs vm0 k0 X H t k => XS.ifYes X.here G.1 rfl rfl (G.hb hd) rfl (XT.i0_eq_t hc) ho hp k) K
theorem if_eq_f (G : Gd p s m meth c y bytes maxL ret Z a0 EL) {o : Int} {x : Int32} (hd : decode bytes pc = .ok (.ifCond .eq o, 3)) (hc : ¬ x = 0) (hp : pc + 3 = pc') (K : Run p l e R s m args below meth c Z wd ro EL n0 ow0 Q h ow cells slots (mkF m pc' Ls rest)) : Run p l e R s m args below meth c Z wd ro EL n0 ow0 Q h ow cells slots (mkF m pc Ls (.int x :: rest)) := by
  subst hp
  exact Run.stp (fun T locs vm0 k0 X H t k => XS.ifNo X.here G.1 rfl (G.hb hd) rfl (XT.i0_eq_f hc) k) K
theorem if_eq (G : Gd p s m meth c y bytes maxL ret Z a0 EL) {o : Int} {x : Int32} {pt pf : Nat} (hd : decode bytes pc = .ok (.ifCond .eq o, 3)) (ho : 0 ≤ (pc : Int) + o) (hp : ((pc : Int) + o).toNat = pt) (hq : pc + 3 = pf) (K1 : (x = 0) → Run p l e R s m args below meth c Z wd ro EL n0 ow0 Q h ow cells slots (mkF m pt Ls rest)) (K2 : (¬ x = 0) → Run p l e R s m args below meth c Z wd ro EL n0 ow0 Q h ow cells slots (mkF m pf Ls rest)) : Run p l e R s m args below meth c Z wd ro EL n0 ow0 Q h ow cells slots (mkF m pc Ls (.int x :: rest)) := by
  by_cases q : x = 0
  · exact if_eq_t G hd q ho hp (K1 q)
  · exact if_eq_f G hd q hq (K2 q)
theorem if_ne_t (G : Gd p s m meth c y bytes maxL ret Z a0 EL) {o : Int} {x : Int32} (hd : decode bytes pc = .ok (.ifCond .ne o, 3)) (hc : ¬ x = 0) (ho : 0 ≤ (pc : Int) + o) (hp : ((pc : Int) + o).toNat = pc') (K : Run p l e R s m args below meth c Z wd ro EL n0 ow0 Q h ow cells slots (mkF m pc' Ls rest)) : Run p l e R s m args below meth c Z wd ro EL n0 ow0 Q h ow cells slots (mkF m pc Ls (.int x :: rest)) :=
  Run.stp (fun T locs vm0 k0 X H t k => XS.ifYes X.here G.1 rfl rfl (G.hb hd) rfl (XT.i0_ne_t hc) ho hp k) K
theorem if_ne_f (G : Gd p s m meth c y bytes maxL ret Z a0 EL) {o : Int} {x : Int32} (hd : decode bytes pc = .ok (.ifCond .ne o, 3)) (hc : x = 0) (hp : pc + 3 = pc') (K : Run p l e R s m args below meth c Z wd ro EL n0 ow0 Q h ow cells slots (mkF m pc' Ls rest)) : Run p l e R s m args below meth c Z wd ro EL n0 ow0 Q h ow cells slots (mkF m pc Ls (.int x :: rest)) := by
  subst hp
  exact Run.stp (fun T locs vm0 k0 X H t k => XS.ifNo X.here G.1 rfl (G.hb hd) rfl (XT.i0_ne_f hc) k) K
theorem if_ne (G : Gd p s m meth c y bytes maxL ret Z a0 EL) {o : Int} {x : Int32} {pt pf : Nat} (hd : decode bytes pc = .ok (.ifCond .ne o, 3)) (ho : 0 ≤ (pc : Int) + o) (hp : ((pc : Int) + o).toNat = pt) (hq : pc + 3 = pf) (K1 : (¬ x = 0) → Run p l e R s m args below meth c Z wd ro EL n0 ow0 Q h ow cells slots (mkF m pt Ls rest)) (K2 : (x = 0) → Run p l e R s m args below meth c Z wd ro EL n0 ow0 Q h ow cells slots (mkF m pf Ls rest)) : Run p l e R s m args below meth c Z wd ro EL n0 ow0 Q h ow cells slots (mkF m pc Ls (.int x :: rest)) := by
  by_cases q : x = 0
  · exact if_ne_f G hd q hq (K2 q)
  · exact if_ne_t G hd q ho hp (K1 q)
theorem if_lt_t (G : Gd p s m meth c y bytes maxL ret Z a0 EL) {o : Int} {x : Int32} (hd : decode bytes pc = .ok (.ifCond .lt o, 3)) (hc : x < 0) (ho : 0 ≤ (pc : Int) + o) (hp : ((pc : Int) + o).toNat = pc') (K : Run p l e R s m args below meth c Z wd ro EL n0 ow0 Q h ow cells slots (mkF m pc' Ls rest)) : Run p l e R s m args below meth c Z wd ro EL n0 ow0 Q h ow cells slots (mkF m pc Ls (.int x :: rest)) :=
  Run.stp (fun T locs vm0 k0 X H t k => XS.ifYes X.here G.1 rfl rfl (G.hb hd) rfl (XT.i0_lt_t hc) ho hp k) K
theorem if_lt_f (G : Gd p s m meth c y bytes maxL ret Z a0 EL) {o : Int} {x : Int32} (hd : decode bytes pc = .ok (.ifCond .lt o, 3)) (hc : ¬ x < 0) (hp : pc + 3 = pc') (K : Run p l e R s m args below meth c Z wd ro EL n0 ow0 Q h ow cells slots (mkF m pc' Ls rest)) : Run p l e R s m args below meth c Z wd ro EL n0 ow0 Q h ow cells slots (mkF m pc Ls (.int x :: rest)) := by
  subst hp
  exact Run.stp (fun T locs vm0 k0 X H t k => XS.ifNo X.here G.1 rfl (G.hb hd) rfl (XT.i0_lt_f hc) k) K
theorem if_lt (G : Gd p s m meth c y bytes maxL ret Z a0 EL) {o : Int} {x : Int32} {pt pf : Nat} (hd : decode bytes pc = .ok (.ifCond .lt o, 3)) (ho : 0 ≤ (pc : Int) + o) (hp : ((pc : Int) + o).toNat = pt) (hq : pc + 3 = pf) (K1 : (x < 0) → Run p l e R s m args below meth c Z wd ro EL n0 ow0 Q h ow cells slots (mkF m pt Ls rest)) (K2 : (¬ x < 0) → Run p l e R s m args below meth c Z wd ro EL n0 ow0 Q h ow cells slots (mkF m pf Ls rest)) : Run p l e R s m args below meth c Z wd ro EL n0 ow0 Q h ow cells slots (mkF m pc Ls (.int x :: rest)) := by
  by_cases q : x < 0
  · exact if_lt_t G hd q ho hp (K1 q)
  · exact if_lt_f G hd q hq (K2 q)
theorem if_ge_t (G : Gd p s m meth c y bytes maxL ret Z a0 EL) {o : Int} {x : Int32} (hd : decode bytes pc = .ok (.ifCond .ge o, 3)) (hc : ¬ x < 0) (ho : 0 ≤ (pc : Int) + o) (hp : ((pc : Int) + o).toNat = pc') (K : Run p l e R s m args below meth c Z wd ro EL n0 ow0 Q h ow cells slots (mkF m pc' Ls rest)) : Run p l e R s m args below meth c Z wd ro EL n0 ow0 Q h ow cells slots (mkF m pc Ls (.int x :: rest)) :=
  Run.stp (fun T locs vm0 k0 X H t k => XS.ifYes X.here G.1 rfl rfl (G.hb hd) rfl (XT.i0_ge_t hc) ho hp k) K
theorem if_ge_f (G : Gd p s m meth c y bytes maxL ret Z a0 EL) {o : Int} {x : Int32} (hd : decode bytes pc = .ok (.ifCond .ge o, 3)) (hc : x < 0) (hp : pc + 3 = pc') (K : Run p l e R s m args below meth c Z wd ro EL n0 ow0 Q h ow cells slots (mkF m pc' Ls rest)) : Run p l e R s m args below meth c Z wd ro EL n0 ow0 Q h ow cells slots (mkF m pc Ls (.int x :: rest)) := by
  subst hp
  exact Run.stp (fun T locs vm0 k0 X H t k => XS.ifNo X.here G.1 rfl (G.hb hd) rfl (XT.i0_ge_f hc) k) K
theorem if_ge (G : Gd p s m meth c y bytes maxL ret Z a0 EL) {o : Int} {x : Int32} {pt pf : Nat} (hd : decode bytes pc = .ok (.ifCond .ge o, 3)) (ho : 0 ≤ (pc : Int) + o) (hp : ((pc : Int) + o).toNat = pt) (hq : pc + 3 = pf) (K1 : (¬ x < 0) → Run p l e R s m args below meth c Z wd ro EL n0 ow0 Q h ow cells slots (mkF m pt Ls rest)) (K2 : (x < 0) → Run p l e R s m args below meth c Z wd ro EL n0 ow0 Q h ow cells slots (mkF m pf Ls rest)) : Run p l e R s m args below meth c Z wd ro EL n0 ow0 Q h ow cells slots (mkF m pc Ls (.int x :: rest)) := by
  by_cases q : x < 0
  · exact if_ge_f G hd q hq (K2 q)
  · exact if_ge_t G hd q ho hp (K1 q)
theorem if_gt_t (G : Gd p s m meth c y bytes maxL ret Z a0 EL) {o : Int} {x : Int32} (hd : decode bytes pc = .ok (.ifCond .gt o, 3)) (hc : 0 < x) (ho : 0 ≤ (pc : Int) + o) (hp : ((pc : Int) + o).toNat = pc') (K : Run p l e R s m args below meth c Z wd ro EL n0 ow0 Q h ow cells slots (mkF m pc' Ls rest)) : Run p l e R s m args below meth c Z wd ro EL n0 ow0 Q h ow cells slots (mkF m pc Ls (.int x :: rest)) :=
  Run.stp (fun T locs vm0 k0 X H t k => XS.ifYes X.here G.1 rfl rfl (G.hb hd) rfl (XT.i0_gt_t hc) ho hp k) K
theorem if_gt_f (G : Gd p s m meth c y bytes maxL ret Z a0 EL) {o : Int} {x : Int32} (hd : decode bytes pc = .ok (.ifCond .gt o, 3)) (hc : ¬ 0 < x) (hp : pc + 3 = pc') (K : Run p l e R s m args below meth c Z wd ro EL n0 ow0 Q h ow cells slots (mkF m pc' Ls rest)) : Run p l e R s m args below meth c Z wd ro EL n0 ow0 Q h ow cells slots (mkF m pc Ls (.int x :: rest)) := by
  subst hp
  exact Run.stp (fun T locs vm0 k0 X H t k => XS.ifNo X.here G.1 rfl (G.hb hd) rfl (XT.i0_gt_f hc) k) K
theorem if_gt (G : Gd p s m meth c y bytes maxL ret Z a0 EL) {o : Int} {x : Int32} {pt pf : Nat} (hd : decode bytes pc = .ok (.ifCond .gt o, 3)) (ho : 0 ≤ (pc : Int) + o) (hp : ((pc : Int) + o).toNat = pt) (hq : pc + 3 = pf) (K1 : (0 < x) → Run p l e R s m args below meth c Z wd ro EL n0 ow0 Q h ow cells slots (mkF m pt Ls rest)) (K2 : (¬ 0 < x) → Run p l e R s m args below meth c Z wd ro EL n0 ow0 Q h ow cells slots (mkF m pf Ls rest)) : Run p l e R s m args below meth c Z wd ro EL n0 ow0 Q h ow cells slots (mkF m pc Ls (.int x :: rest)) := by
  by_cases q : 0 < x
  · exact if_gt_t G hd q ho hp (K1 q)
  · exact if_gt_f G hd q hq (K2 q)
theorem if_le_t (G : Gd p s m meth c y bytes maxL ret Z a0 EL) {o : Int} {x : Int32} (hd : decode bytes pc = .ok (.ifCond .le o, 3)) (hc : ¬ 0 < x) (ho : 0 ≤ (pc : Int) + o) (hp : ((pc : Int) + o).toNat = pc') (K : Run p l e R s m args below meth c Z wd ro EL n0 ow0 Q h ow cells slots (mkF m pc' Ls rest)) : Run p l e R s m args below meth c Z wd ro EL n0 ow0 Q h ow cells slots (mkF m pc Ls (.int x :: rest)) :=
  Run.stp (fun T locs vm0 k0 X H t k => XS.ifYes X.here G.1 rfl rfl (G.hb hd) rfl (XT.i0_le_t hc) ho hp k) K
theorem if_le_f (G : Gd p s m meth c y bytes maxL ret Z a0 EL) {o : Int} {x : Int32} (hd : decode bytes pc = .ok (.ifCond .le o, 3)) (hc : 0 < x) (hp : pc + 3 = pc') (K : Run p l e R s m args below meth c Z wd ro EL n0 ow0 Q h ow cells slots (mkF m pc' Ls rest)) : Run p l e R s m args below meth c Z wd ro EL n0 ow0 Q h ow cells slots (mkF m pc Ls (.int x :: rest)) := by
  subst hp
  exact Run.stp (fun T locs vm0 k0 X H t k => XS.ifNo X.here G.1 rfl (G.hb hd) rfl (XT.i0_le_f hc) k) K
theorem if_le (G : Gd p s m meth c y bytes maxL ret Z a0 EL) {o : Int} {x : Int32} {pt pf : Nat} (hd : decode bytes pc = .ok (.ifCond .le o, 3)) (ho : 0 ≤ (pc : Int) + o) (hp : ((pc : Int) + o).toNat = pt) (hq : pc + 3 = pf) (K1 : (¬ 0 < x) → Run p l e R s m args below meth c Z wd ro EL n0 ow0 Q h ow cells slots (mkF m pt Ls rest)) (K2 : (0 < x) → Run p l e R s m args below meth c Z wd ro EL n0 ow0 Q h ow cells slots (mkF m pf Ls rest)) : Run p l e R s m args below meth c Z wd ro EL n0 ow0 Q h ow cells slots (mkF m pc Ls (.int x :: rest)) := by
  by_cases q : 0 < x
  · exact if_le_f G hd q hq (K2 q)
  · exact if_le_t G hd q ho hp (K1 q)
theorem ifnull_t (G : Gd p s m meth c y bytes maxL ret Z a0 EL) {o : Int} (hd : decode bytes pc = .ok (.ifnull o, 3)) (ho : 0 ≤ (pc : Int) + o) (hp : ((pc : Int) + o).toNat = pc') (K : Run p l e R s m args below meth c Z wd ro EL n0 ow0 Q h ow cells slots (mkF m pc' Ls rest)) : Run p l e R s m args below meth c Z wd ro EL n0 ow0 Q h ow cells slots (mkF m pc Ls (.null :: rest)) :=
  Run.stp (fun T locs vm0 k0 X H t k => XS.ifnullYes X.here G.1 rfl rfl (G.hb hd) rfl ho hp k) K
theorem ifnull_f (G : Gd p s m meth c y bytes maxL ret Z a0 EL) {o : Int} {b : Addr} (hd : decode bytes pc = .ok (.ifnull o, 3)) (hp : pc + 3 = pc') (K : Run p l e R s m args below meth c Z wd ro EL n0 ow0 Q h ow cells slots (mkF m pc' Ls rest)) : Run p l e R s m args below meth c Z wd ro EL n0 ow0 Q h ow cells slots (mkF m pc Ls (.ref b :: rest)) := by
  subst hp
  exact Run.stp (fun T locs vm0 k0 X H t k => XS.ifnullNo X.here G.1 rfl (G.hb hd) rfl k) K
theorem ifnonnull_t (G : Gd p s m meth c y bytes maxL ret Z a0 EL) {o : Int} {b : Addr} (hd : decode bytes pc = .ok (.ifnonnull o, 3)) (ho : 0 ≤ (pc : Int) + o) (hp : ((pc : Int) + o).toNat = pc') (K : Run p l e R s m args below meth c Z wd ro EL n0 ow0 Q h ow cells slots (mkF m pc' Ls rest)) : Run p l e R s m args below meth c Z wd ro EL n0 ow0 Q h ow cells slots (mkF m pc Ls (.ref b :: rest)) :=
  Run.stp (fun T locs vm0 k0 X H t k => XT.ifnonnullYes X.here G.1 rfl rfl (G.hb hd) rfl ho hp k) K
theorem ifnonnull_f (G : Gd p s m meth c y bytes maxL ret Z a0 EL) {o : Int} (hd : decode bytes pc = .ok (.ifnonnull o, 3)) (hp : pc + 3 = pc') (K : Run p l e R s m args below meth c Z wd ro EL n0 ow0 Q h ow cells slots (mkF m pc' Ls rest)) : Run p l e R s m args below meth c Z wd ro EL n0 ow0 Q h ow cells slots (mkF m pc Ls (.null :: rest)) := by
  subst hp
  exact Run.stp (fun T locs vm0 k0 X H t k => XT.ifnonnullNo X.here G.1 rfl (G.hb hd) rfl k) K
theorem acmp_eq_t (G : Gd p s m meth c y bytes maxL ret Z a0 EL) {o : Int} {v w : Value} (hd : decode bytes pc = .ok (.if_acmp .eq o, 3)) (hv : v.isRef = true) (hw : w.isRef = true) (hc : v = w) (ho : 0 ≤ (pc : Int) + o) (hp : ((pc : Int) + o).toNat = pc') (K : Run p l e R s m args below meth c Z wd ro EL n0 ow0 Q h ow cells slots (mkF m pc' Ls rest)) : Run p l e R s m args below meth c Z wd ro EL n0 ow0 Q h ow cells slots (mkF m pc Ls (w :: v :: rest)) :=
  Run.stp (fun T locs vm0 k0 X H t k => XT.acmpYes X.here G.1 rfl rfl (G.hb hd) rfl hv hw (XT.aa_eq_t hc) ho hp k) K
theorem acmp_eq_f (G : Gd p s m meth c y bytes maxL ret Z a0 EL) {o : Int} {v w : Value} (hd : decode bytes pc = .ok (.if_acmp .eq o, 3)) (hv : v.isRef = true) (hw : w.isRef = true) (hc : ¬ v = w) (hp : pc + 3 = pc') (K : Run p l e R s m args below meth c Z wd ro EL n0 ow0 Q h ow cells slots (mkF m pc' Ls rest)) : Run p l e R s m args below meth c Z wd ro EL n0 ow0 Q h ow cells slots (mkF m pc Ls (w :: v :: rest)) := by
  subst hp
  exact Run.stp (fun T locs vm0 k0 X H t k => XT.acmpNo X.here G.1 rfl (G.hb hd) rfl hv hw (XT.aa_eq_f hc) k) K
theorem acmp_ne_t (G : Gd p s m meth c y bytes maxL ret Z a0 EL) {o : Int} {v w : Value} (hd : decode bytes pc = .ok (.if_acmp .ne o, 3)) (hv : v.isRef = true) (hw : w.isRef = true) (hc : ¬ v = w) (ho : 0 ≤ (pc : Int) + o) (hp : ((pc : Int) + o).toNat = pc') (K : Run p l e R s m args below meth c Z wd ro EL n0 ow0 Q h ow cells slots (mkF m pc' Ls rest)) : Run p l e R s m args below meth c Z wd ro EL n0 ow0 Q h ow cells slots (mkF m pc Ls (w :: v :: rest)) :=
  Run.stp (fun T locs vm0 k0 X H t k => XT.acmpYes X.here G.1 rfl rfl (G.hb hd) rfl hv hw (XT.aa_ne_t hc) ho hp k) K
theorem acmp_ne_f (G : Gd p s m meth c y bytes maxL ret Z a0 EL) {o : Int} {v w : Value} (hd : decode bytes pc = .ok (.if_acmp .ne o, 3)) (hv : v.isRef = true) (hw : w.isRef = true) (hc : v = w) (hp : pc + 3 = pc') (K : Run p l e R s m args below meth c Z wd ro EL n0 ow0 Q h ow cells slots (mkF m pc' Ls rest)) : Run p l e R s m args below meth c Z wd ro EL n0 ow0 Q h ow cells slots (mkF m pc Ls (w :: v :: rest)) := by
  subst hp
  exact Run.stp (fun T locs vm0 k0 X H t k => XT.acmpNo X.here G.1 rfl (G.hb hd) rfl hv hw (XT.aa_ne_f hc) k) K
theorem ldcInt (G : Gd p s m meth c y bytes maxL ret Z a0 EL) {idx : Nat} {v : Int32} (hd : decode bytes pc = .ok (.ldc idx, 2)) (w : (Jvm.Cond.constant y.cls idx v).before a0 Z = true) (hp : pc + 2 = pc') (K : Run p l e R s m args below meth c Z wd ro EL n0 ow0 Q h ow cells slots (mkF m pc' Ls (.int v :: st))) : Run p l e R s m args below meth c Z wd ro EL n0 ow0 Q h ow cells slots (mkF m pc Ls st) := by
  subst hp
  exact Run.stp (fun T locs vm0 k0 X H t k => X.ldcI G.1 (G.own H.1) (mv (s := s.setVm vm0) H.2.2.1 w) rfl (G.hb hd) k) K
theorem getf (G : Gd p s m meth c y bytes maxL ret Z a0 EL) {idx : Nat} {R0 O n d : String} {a : Addr} {v : Value} (hd : decode bytes pc = .ok (.getfield idx, 3)) (w : (Jvm.Cond.fieldLink y.cls idx R0 n d).before a0 Z = true) (via : Via Z R0 O n d) (F : Fld Z h a O n d v) (hp : pc + 3 = pc') (K : Run p l e R s m args below meth c Z wd ro EL n0 ow0 Q h ow cells slots (mkF m pc' Ls (v :: rest))) : Run p l e R s m args below meth c Z wd ro EL n0 ow0 Q h ow cells slots (mkF m pc Ls (.ref a :: rest)) := by
  subst hp
  exact Run.mov (fun T locs vm0 k0 X H => getF X G.1 H.2.2.1 (host := "") (G.own H.1) (Or.inl w) via H.2.2.2.1 F rfl rfl (G.hb hd)) K
theorem gets (G : Gd p s m meth c y bytes maxL ret Z a0 EL) {idx : Nat} {R0 O n d : String} {v : Value} (hd : decode bytes pc = .ok (.getstatic idx, 3)) (w : (Jvm.Cond.fieldLink y.cls idx R0 n d).before a0 Z = true) (via : Via Z R0 O n d) (F : Sta Z Z.heap O n d v) (hp : pc + 3 = pc') (K : Run p l e R s m args below meth c Z wd ro EL n0 ow0 Q h ow cells slots (mkF m pc' Ls (v :: st))) : Run p l e R s m args below meth c Z wd ro EL n0 ow0 Q h ow cells slots (mkF m pc Ls st) := by
  subst hp
  exact Run.mov (fun T locs vm0 k0 X H => getS X G.1 H.2.2.1 (host := "") (G.own H.1) w via H.2.2.2.1 (F.ext H.2.2.2.2.2.2.2.1.2) rfl (G.hb hd)) K
theorem putf (G : Gd p s m meth c y bytes maxL ret Z a0 EL) {idx kk : Nat} {R0 O n d C : String} {a : Addr} {v old : Value} {ty : FieldType} (hd : decode bytes pc = .ok (.putfield idx, 3)) (w : (Jvm.Cond.fieldLink y.cls idx R0 n d).before a0 Z = true) (via : Via Z R0 O n d) (F : Fld Z h a O n d old) (E : Exa Z h a C) (L : (Jvm.Cond.lays C O n d).before a0 Z = true ∨ ((Jvm.Cond.laysFinal C O n d).before a0 Z = true ∧ y.cls = O ∧ y.name = "<init>")) (wi : (Jvm.Cond.instantiable C kk).before a0 Z = true) (hty : parseFieldDescriptor d = some ty) (hn : narrow ty v = v) (hf : fits ty v = true) (ha : a ∈ ow) (hp : pc + 3 = pc')
    (K : ∀ h', Wr h h' a (RoadKit.slotOf Z O n d) v → Run p l e R s m args below meth c Z wd ro EL n0 ow0 Q h' ow cells slots (mkF m pc' Ls rest)) : Run p l e R s m args below meth c Z wd ro EL n0 ow0 Q h ow cells slots (mkF m pc Ls (v :: .ref a :: rest)) := by
  subst hp
  intro T locs vm0 k0 X H
  obtain ⟨T', h', X', eT, W, st⟩ := putF X G.1 H.2.2.1 (host := "") (G.own H.1) (Or.inl w) via H.2.2.2.1 F E (L.imp id fun q => ⟨q.1, q.2.1, G.2.2.2.2.2.1.trans q.2.2⟩) wi hty hn hf (g := mkF m pc Ls (v :: .ref a :: rest)) rfl rfl (G.hb hd)
  obtain ⟨s₂, o, q, r⟩ := K h' W T' _ vm0 k0 X' (H.wr W ha eT)
  exact ⟨s₂, o, st _ q, r⟩
theorem castOk (G : Gd p s m meth c y bytes maxL ret Z a0 EL) {idx : Nat} {C : String} {a : Addr} (hd : decode bytes pc = .ok (.checkcast idx, 3)) (w : (Jvm.Cond.classLink y.cls idx C).before a0 Z = true) (F : Ins Z h a C true) (hp : pc + 3 = pc') (K : Run p l e R s m args below meth c Z wd ro EL n0 ow0 Q h ow cells slots (mkF m pc' Ls (.ref a :: rest))) : Run p l e R s m args below meth c Z wd ro EL n0 ow0 Q h ow cells slots (mkF m pc Ls (.ref a :: rest)) := by
  subst hp
  exact Run.mov (fun T locs vm0 k0 X H => castY X G.1 H.2.2.1 (G.own H.1) w H.2.2.2.1 F rfl rfl (G.hb hd)) K
theorem instYes (G : Gd p s m meth c y bytes maxL ret Z a0 EL) {idx : Nat} {C : String} {a : Addr} (hd : decode bytes pc = .ok (.instanceof idx, 3)) (w : (Jvm.Cond.classLink y.cls idx C).before a0 Z = true) (F : Ins Z h a C true) (hp : pc + 3 = pc') (K : Run p l e R s m args below meth c Z wd ro EL n0 ow0 Q h ow cells slots (mkF m pc' Ls (.int 1 :: rest))) : Run p l e R s m args below meth c Z wd ro EL n0 ow0 Q h ow cells slots (mkF m pc Ls (.ref a :: rest)) := by
  subst hp
  exact Run.mov (fun T locs vm0 k0 X H => instY X G.1 H.2.2.1 (G.own H.1) w H.2.2.2.1 F rfl rfl (G.hb hd)) K
theorem instNo (G : Gd p s m meth c y bytes maxL ret Z a0 EL) {idx : Nat} {C D : String} {a : Addr} (hd : decode bytes pc = .ok (.instanceof idx, 3)) (w : (Jvm.Cond.classLink y.cls idx C).before a0 Z = true) (F : Ins Z h a C false) (E : Exa Z h a D) (hp : pc + 3 = pc') (K : Run p l e R s m args below meth c Z wd ro EL n0 ow0 Q h ow cells slots (mkF m pc' Ls (.int 0 :: rest))) : Run p l e R s m args below meth c Z wd ro EL n0 ow0 Q h ow cells slots (mkF m pc Ls (.ref a :: rest)) := by
  subst hp
  exact Run.mov (fun T locs vm0 k0 X H => instNAt X G.1 H.2.2.1 (G.own H.1) w H.2.2.2.1 F E rfl rfl (G.hb hd)) K
theorem arrlen (G : Gd p s m meth c y bytes maxL ret Z a0 EL) {a : Addr} {cl : Cell} {ty : FieldType} (hd : decode bytes pc = .ok (.arraylength, 1)) (A : Arr Z h a cl ty) (hp : pc + 1 = pc') (K : Run p l e R s m args below meth c Z wd ro EL n0 ow0 Q h ow cells slots (mkF m pc' Ls (.int cl.slots.size.toInt32 :: rest))) : Run p l e R s m args below meth c Z wd ro EL n0 ow0 Q h ow cells slots (mkF m pc Ls (.ref a :: rest)) := by
  subst hp
  exact Run.stp (fun T locs vm0 k0 X H t k => X.arraylength G.1 (H.cell A) (H.arr A) (g := mkF m pc Ls (.ref a :: rest)) rfl rfl (G.hb hd) t k) K
theorem caload (G : Gd p s m meth c y bytes maxL ret Z a0 EL) {a : Addr} {cl : Cell} {j : Int32} {v : Value} (hd : decode bytes pc = .ok (.caload, 1)) (A : Arr Z h a cl .char) (hj : ¬ (j < 0 ∨ cl.slots.size ≤ j.toNatClampNeg)) (hv : cl.slots[j.toNatClampNeg]? = some v) (hp : pc + 1 = pc') (K : Run p l e R s m args below meth c Z wd ro EL n0 ow0 Q h ow cells slots (mkF m pc' Ls (v :: rest))) : Run p l e R s m args below meth c Z wd ro EL n0 ow0 Q h ow cells slots (mkF m pc Ls (.int j :: .ref a :: rest)) := by
  subst hp
  exact Run.stp (fun T locs vm0 k0 X H t k => X.caload G.1 (H.cell A) (H.arr A) A.2.2 hj hv (g := mkF m pc Ls (.int j :: .ref a :: rest)) rfl rfl (G.hb hd) t k) K
theorem baload (G : Gd p s m meth c y bytes maxL ret Z a0 EL) {a : Addr} {cl : Cell} {j : Int32} {v : Value} (hd : decode bytes pc = .ok (.baload, 1)) (A : Arr Z h a cl .byte) (hj : ¬ (j < 0 ∨ cl.slots.size ≤ j.toNatClampNeg)) (hv : cl.slots[j.toNatClampNeg]? = some v) (hp : pc + 1 = pc') (K : Run p l e R s m args below meth c Z wd ro EL n0 ow0 Q h ow cells slots (mkF m pc' Ls (v :: rest))) : Run p l e R s m args below meth c Z wd ro EL n0 ow0 Q h ow cells slots (mkF m pc Ls (.int j :: .ref a :: rest)) := by
  subst hp
  exact Run.stp (fun T locs vm0 k0 X H t k => X.baloadBytes G.1 (H.cell A) (H.arr A) A.2.2 hj hv (g := mkF m pc Ls (.int j :: .ref a :: rest)) rfl rfl (G.hb hd) t k) K
theorem iaload (G : Gd p s m meth c y bytes maxL ret Z a0 EL) {a : Addr} {cl : Cell} {j : Int32} {v : Value} (hd : decode bytes pc = .ok (.iaload, 1)) (A : Arr Z h a cl .int) (hj : ¬ (j < 0 ∨ cl.slots.size ≤ j.toNatClampNeg)) (hv : cl.slots[j.toNatClampNeg]? = some v) (hp : pc + 1 = pc') (K : Run p l e R s m args below meth c Z wd ro EL n0 ow0 Q h ow cells slots (mkF m pc' Ls (v :: rest))) : Run p l e R s m args below meth c Z wd ro EL n0 ow0 Q h ow cells slots (mkF m pc Ls (.int j :: .ref a :: rest)) := by
  subst hp
  exact Run.stp (fun T locs vm0 k0 X H t k => X.iaload G.1 (H.cell A) (H.arr A) A.2.2 hj hv (g := mkF m pc Ls (.int j :: .ref a :: rest)) rfl rfl (G.hb hd) t k) K
theorem aaload (G : Gd p s m meth c y bytes maxL ret Z a0 EL) {a : Addr} {cl : Cell} {j : Int32} {v : Value} {ty : FieldType} (hd : decode bytes pc = .ok (.aaload, 1)) (A : Arr Z h a cl ty) (hty : ty.isReference = true) (hj : ¬ (j < 0 ∨ cl.slots.size ≤ j.toNatClampNeg)) (hv : cl.slots[j.toNatClampNeg]? = some v) (hp : pc + 1 = pc') (K : Run p l e R s m args below meth c Z wd ro EL n0 ow0 Q h ow cells slots (mkF m pc' Ls (v :: rest))) : Run p l e R s m args below meth c Z wd ro EL n0 ow0 Q h ow cells slots (mkF m pc Ls (.int j :: .ref a :: rest)) := by
  subst hp
  exact Run.stp (fun T locs vm0 k0 X H t k => X.aaload G.1 (H.cell A) (H.arr A) hty A.2.2 hj hv (g := mkF m pc Ls (.int j :: .ref a :: rest)) rfl rfl (G.hb hd) t k) K
theorem castore (G : Gd p s m meth c y bytes maxL ret Z a0 EL) {a : Addr} {cl : Cell} {j x : Int32} (hd : decode bytes pc = .ok (.castore, 1)) (A : Arr Z h a cl .char) (hj : ¬ (j < 0 ∨ cl.slots.size ≤ j.toNatClampNeg)) (ha : a ∈ ow) (hp : pc + 1 = pc') (K : ∀ h', Wr h h' a j.toNatClampNeg (.int (nar .char x)) → Run p l e R s m args below meth c Z wd ro EL n0 ow0 Q h' ow cells slots (mkF m pc' Ls rest)) : Run p l e R s m args below meth c Z wd ro EL n0 ow0 Q h ow cells slots (mkF m pc Ls (.int x :: .int j :: .ref a :: rest)) := by
  subst hp
  intro T locs vm0 k0 X H
  obtain ⟨T', h', X', eT, W, st⟩ := stC X G.1 H.2.2.1 H.2.2.2.1 A hj (g := mkF m pc Ls (.int x :: .int j :: .ref a :: rest)) rfl rfl (G.hb hd)
  obtain ⟨s₂, o, q, r⟩ := K h' W T' _ vm0 k0 X' (H.wr W ha eT)
  exact ⟨s₂, o, st _ q, r⟩
theorem bastore (G : Gd p s m meth c y bytes maxL ret Z a0 EL) {a : Addr} {cl : Cell} {j x : Int32} (hd : decode bytes pc = .ok (.bastore, 1)) (A : Arr Z h a cl .byte) (hj : ¬ (j < 0 ∨ cl.slots.size ≤ j.toNatClampNeg)) (ha : a ∈ ow) (hp : pc + 1 = pc') (K : ∀ h', Wr h h' a j.toNatClampNeg (.int (nar .byte x)) → Run p l e R s m args below meth c Z wd ro EL n0 ow0 Q h' ow cells slots (mkF m pc' Ls rest)) : Run p l e R s m args below meth c Z wd ro EL n0 ow0 Q h ow cells slots (mkF m pc Ls (.int x :: .int j :: .ref a :: rest)) := by
  subst hp
  intro T locs vm0 k0 X H
  obtain ⟨T', h', X', eT, W, st⟩ := stB X G.1 H.2.2.1 H.2.2.2.1 A hj (g := mkF m pc Ls (.int x :: .int j :: .ref a :: rest)) rfl rfl (G.hb hd)
  obtain ⟨s₂, o, q, r⟩ := K h' W T' _ vm0 k0 X' (H.wr W ha eT)
  exact ⟨s₂, o, st _ q, r⟩
theorem newarr (G : Gd p s m meth c y bytes maxL ret Z a0 EL) {aty : ArrayType} {n : Int32} {cap : Nat} (hd : decode bytes pc = .ok (.newarray aty, 2)) (w : (Jvm.Cond.arrayClass (newarray.typeOf aty)).before a0 Z = true) (hn : ¬ n < 0) (hcap : n.toNatClampNeg ≤ cap) (hb : cap * 8 ≤ 536870912) (hc : cells + 1 ≤ R.cells) (hl : slots + cap ≤ R.slots) (hc' : cells + 1 = cells') (hs' : slots + cap = slots') (hp : pc + 2 = pc')
    (K : ∀ (h' : Heap) (cA : ClassId) (a : Addr), a = h.size → Ext h h' → Arr Z h' a (newA cA (newarray.typeOf aty) n) (newarray.typeOf aty) → Run p l e R s m args below meth c Z wd ro EL n0 ow0 Q h' (a :: ow) cells' slots' (mkF m pc' Ls (.ref a :: rest))) : Run p l e R s m args below meth c Z wd ro EL n0 ow0 Q h ow cells slots (mkF m pc Ls (.int n :: rest)) := by
  subst hp hc' hs'
  intro T locs vm0 k0 X H
  obtain ⟨T', h', cA, X', eT, E, A, st⟩ := newP X G.1 H.2.2.1 w H.2.2.2.1 (g := mkF m pc Ls (.int n :: rest)) rfl (G.hb hd) rfl hn hcap hb hc hl
  obtain ⟨s₂, o, q, r⟩ := K h' cA h.size rfl E A T' _ vm0 k0 X' (H.ext E A.lt eT)
  exact ⟨s₂, o, st _ q, r⟩
theorem newobj (G : Gd p s m meth c y bytes maxL ret Z a0 EL) {idx n : Nat} {C : String} (hd : decode bytes pc = .ok (.new idx, 3)) (w : (Jvm.Cond.classLink y.cls idx C).before a0 Z = true) (wi : (Jvm.Cond.instantiable C n).before a0 Z = true) (wz : (Jvm.Cond.initialized C).before a0 Z = true) (hc : cells + 1 ≤ R.cells) (hl : slots + n ≤ R.slots) (hc' : cells + 1 = cells') (hs' : slots + n = slots') (hp : pc + 3 = pc')
    (K : ∀ (h' : Heap) (a : Addr), a = h.size → Ext h h' → Exa Z h' a C → (∀ {O nm d : String} {ty : FieldType}, Laid Z a0 C O nm d → parseFieldDescriptor d = some ty → Fld Z h' a O nm d (defaultValue ty)) → Run p l e R s m args below meth c Z wd ro EL n0 ow0 Q h' (a :: ow) cells' slots' (mkF m pc' Ls (.ref a :: st))) : Run p l e R s m args below meth c Z wd ro EL n0 ow0 Q h ow cells slots (mkF m pc Ls st) := by
  subst hp hc' hs'
  intro T locs vm0 k0 X H
  obtain ⟨T', h', X', eT, E, A, D, -, st⟩ := newO X G.1 H.2.2.1 (G.own H.1) w wi wz H.2.2.2.1 (g := mkF m pc Ls st) rfl (G.hb hd) hc hl
  obtain ⟨s₂, o, q, r⟩ := K h' h.size rfl E A D T' _ vm0 k0 X' (H.ext E A.lt eT)
  exact ⟨s₂, o, st _ q, r⟩
theorem initObj (G : Gd p s m meth c y bytes maxL ret Z a0 EL) {idx : Nat} {a : Addr} {W : Nat} (hd : decode bytes pc = .ok (.invokespecial idx, 3)) (w1 : (Jvm.Cond.methodLink y.cls idx Lib.objectInit).before a0 Z = true) (w2 : (Jvm.Cond.instanceMethod Lib.objectInit).before a0 Z = true) (w3 : (Jvm.Cond.code Lib.objectInit ⟨#[0xb1]⟩ 1 none).before a0 Z = true) (hsz : Ls.size = maxL) (hf : 1 ≤ R.frames) (hW : (rest.map fun v => v.category).sum ≤ W) (hl : W + 12 ≤ R.locals) (hp : pc + 3 = pc') (K : Run p l e R s m args below meth c Z wd ro EL n0 ow0 Q h ow cells slots (mkF m pc' Ls rest)) : Run p l e R s m args below meth c Z wd ro EL n0 ow0 Q h ow cells slots (mkF m pc Ls (.ref a :: rest)) := by
  subst hp
  exact Run.mov (fun T locs vm0 k0 X H => initO X G.1 H.2.2.1 (G.own H.1) w1 w2 w3 H.2.2.2.1 rfl (hsz.trans G.2.2.1.symm) rfl (G.hb hd) hf (by show 2 * 0 + _ ≤ W; omega) hl) K
theorem instNull (G : Gd p s m meth c y bytes maxL ret Z a0 EL) {idx : Nat} (hd : decode bytes pc = .ok (.instanceof idx, 3)) (hp : pc + 3 = pc') (K : Run p l e R s m args below meth c Z wd ro EL n0 ow0 Q h ow cells slots (mkF m pc' Ls (.int 0 :: rest))) : Run p l e R s m args below meth c Z wd ro EL n0 ow0 Q h ow cells slots (mkF m pc Ls (.null :: rest)) := by
  subst hp
  exact Run.stp (fun T locs vm0 k0 X H t k => X.instanceofNull G.1 (g := mkF m pc Ls (.null :: rest)) rfl rfl (G.hb hd) t k) K
theorem cloneArr (G : Gd p s m meth c y bytes maxL ret Z a0 EL) {idx cap W : Nat} {ad : String} {a : Addr} {cl : Cell} {ty : FieldType} (hd : decode bytes pc = .ok (.invokevirtual idx, 3)) (w1 : (Jvm.Cond.methodLink y.cls idx ⟨ad, "clone", "()Ljava/lang/Object;"⟩).before a0 Z = true) (w2 : (Jvm.Cond.sameMethod ad "java/lang/Object" "clone" "()Ljava/lang/Object;").before a0 Z = true) (w3 : (Jvm.Cond.native ⟨"java/lang/Object", "clone", "()Ljava/lang/Object;"⟩).before a0 Z = true) (w4 : (Jvm.Cond.instanceMethod ⟨"java/lang/Object", "clone", "()Ljava/lang/Object;"⟩).before a0 Z = true) (w5 : (Jvm.Cond.selects ad ⟨ad, "clone", "()Ljava/lang/Object;"⟩ ⟨"java/lang/Object", "clone", "()Ljava/lang/Object;"⟩).before a0 Z = true) (w6 : (Jvm.Cond.castable ad "java/lang/Cloneable").before a0 Z = true)
    (A : Arr Z h a cl ty) (E : Exa Z h a ad) (F : FitC Z cl) (hsz : Ls.size = maxL) (hf : 1 ≤ R.frames) (hW : (rest.map fun v => v.category).sum ≤ W) (hl : W + 14 ≤ R.locals) (hcap : cl.slots.size ≤ cap) (hc : cells + 1 ≤ R.cells) (hsl : slots + cap ≤ R.slots) (hc' : cells + 1 = cells') (hs' : slots + cap = slots') (hp : pc + 3 = pc')
    (K : ∀ (h' : Heap) (a' : Addr), a' = h.size → Ext h h' → Arr Z h' a' (cloneOf cl) ty → Exa Z h' a' ad → Run p l e R s m args below meth c Z wd ro EL n0 ow0 Q h' (a' :: ow) cells' slots' (mkF m pc' Ls (.ref a' :: rest))) : Run p l e R s m args below meth c Z wd ro EL n0 ow0 Q h ow cells slots (mkF m pc Ls (.ref a :: rest)) := by
  subst hp hc' hs'
  intro T locs vm0 k0 X H
  obtain ⟨T', h', X', eT, Ex, A', E', st⟩ := cloneA X G.1 H.2.2.1 (G.own H.1) w1 w2 w3 w4 w5 w6 H.2.2.2.1 A E F (g := mkF m pc Ls (.ref a :: rest)) rfl (hsz.trans G.2.2.1.symm) rfl (G.hb hd) hf (W := W) (by show 2 * 0 + _ ≤ W; omega) hl hcap hc hsl
  obtain ⟨s₂, o, q, r⟩ := K h' h.size rfl Ex A' E' T' _ vm0 k0 X' (H.ext Ex A'.lt eT)
  exact ⟨s₂, o, st _ q, r⟩
theorem ldcStr (G : Gd p s m meth c y bytes maxL ret Z a0 EL) {idx n : Nat} {text : String} {vs : List Value} {z : Int32} (hd : decode bytes pc = .ok (.ldc idx, 2)) (hwd : wd = true) (w : (Jvm.Cond.stringLink y.cls idx text).before a0 Z = true) (wS : ∀ a ∈ Bundle.stringAtoms, a.before a0 Z = true) (hmem : (y.cls, idx) ∈ EL)
    (ht : (∀ c ∈ text.toList, c.toNat < 256) ∧ text.toList.map (fun c => Value.int (Jvm.Lit.byteI c.toNat.toUInt16)) = vs) (hz : ¬ z < 0) (hl : z.toNatClampNeg = vs.length) (hn : 4 * text.toList.length ≤ n) (hbig : n ≤ 536870912) (hc : cells + 2 ≤ R.cells) (hl' : slots + (n + 4) ≤ R.slots) (hc' : cells + 2 = cells') (hs' : slots + (n + 4) = slots') (hp : pc + 2 = pc')
    (K : ∀ (a b : Addr) (k : ClassId) (h' : Heap), Ext h h' → Exa Z h' a "java/lang/String" → Fld Z h' a "java/lang/String" "coder" "B" (.int 0) → Fld Z h' a "java/lang/String" "value" "[B" (.ref b) → Arv Z h' b k .byte z vs (.int 0) → (∀ x ∈ ow, x ≠ a ∧ x ≠ b) → Run p l e R s m args below meth c Z wd ro EL n0 ow0 Q h' ow cells' slots' (mkF m pc' Ls (.ref a :: st))) : Run p l e R s m args below meth c Z wd ro EL n0 ow0 Q h ow cells slots (mkF m pc Ls st) := by
  subst hp hc' hs'
  intro T locs vm0 k0 X H
  obtain ⟨i1, i2, i3, i4, i5, i6, i7, i8, i9, i10⟩ := H
  obtain ⟨a, T', h', k1, b, k, X', eT, E, hS, hk, hW, -, q1, q2, q3, q4, -, -, hC, -, hne, st⟩ := ldcCH X G.1 i3 (G.own i1) w wS i4 i1 i2 G.2.2.2.2.2.2.2 hmem i6.1 ht hz hl (g := mkF m pc Ls st) rfl (G.hb hd) hn hbig hc hl'
  have hsafe : ∀ x ∈ ow, Safe Z EL T'.vm h' x := fun x hx => hC.safe (i9 x hx).2.1 (i9 x hx).1
  obtain ⟨s₂, o, q, r⟩ := K a b k h' E q1 q2 q3 q4 (fun x hx => hne x (hsafe x hx)) T' locs T'.vm k1 X' ⟨hS, hk, hW, eT, i5, i6.trans hC, i7.ext E, i8.ext E, fun x hx => ⟨hsafe x hx, Nat.lt_of_lt_of_le (i9 x hx).2.1 E.1, (i9 x hx).2.2⟩, Or.inl hwd⟩
  exact ⟨s₂, o, st _ q, r⟩
theorem ldcOpaque (G : Gd p s m meth c y bytes maxL ret Z a0 EL) {idx n : Nat} {text : String} (hd : decode bytes pc = .ok (.ldc idx, 2)) (hwd : wd = true) (w : (Jvm.Cond.stringLink y.cls idx text).before a0 Z = true) (wS : ∀ a ∈ Bundle.stringAtoms, a.before a0 Z = true)
    (hn : 4 * text.toList.length ≤ n) (hbig : n ≤ 536870912) (hc : cells + 2 ≤ R.cells) (hl' : slots + (n + 4) ≤ R.slots) (hc' : cells + 2 = cells') (hs' : slots + (n + 4) = slots') (hp : pc + 2 = pc')
    (K : ∀ (a : Addr) (h' : Heap), Ext h h' → Run p l e R s m args below meth c Z wd ro EL n0 ow0 Q h' ow cells' slots' (mkF m pc' Ls (.ref a :: st))) : Run p l e R s m args below meth c Z wd ro EL n0 ow0 Q h ow cells slots (mkF m pc Ls st) := by
  subst hp hc' hs'
  intro T locs vm0 k0 X H
  obtain ⟨i1, i2, i3, i4, i5, i6, i7, i8, i9, i10⟩ := H
  obtain ⟨a, T', h', k1, X', eT, E, hS, hk, hW, -, hC, -, st⟩ := ldcOH X G.1 i3 (G.own i1) w wS i4 i1 i2 G.2.2.2.2.2.2.2 i6.1 (g := mkF m pc Ls st) rfl (G.hb hd) hn hbig hc hl'
  have hsafe : ∀ x ∈ ow, Safe Z EL T'.vm h' x := fun x hx => hC.safe (i9 x hx).2.1 (i9 x hx).1
  obtain ⟨s₂, o, q, r⟩ := K a h' E T' locs T'.vm k1 X' ⟨hS, hk, hW, eT, i5, i6.trans hC, i7.ext E, i8.ext E, fun x hx => ⟨hsafe x hx, Nat.lt_of_lt_of_le (i9 x hx).2.1 E.1, (i9 x hx).2.2⟩, Or.inl hwd⟩
  exact ⟨s₂, o, st _ q, r⟩
theorem fin (G : Gd p s m meth c y bytes maxL ret Z a0 EL) {v : Option Value} {g : JFrame} (hro : ro = true → ∀ d, v = some (.ref d) → d ∈ ow ∧ d ∉ ow0) (hv : ret = none → v = none) (hc : cells ≤ R.cells) (hs : slots ≤ R.slots) (q : Q v h)
    (stp : ∀ (T : State) (locs : List Loc) (vm0 : Vm) (k0 : Nat) (fs : List Frame), Stand p l e R (s.setVm vm0) m args below meth c T locs cells slots → (∀ (f : JFrame) (acts : List Action), f.method = m → f.locked = none → f.entered = [] → (doReturn e (T.setTop f) acts v).1 = T.setFrames fs) → Steps p.tables e below (T.setTop g) (T.setFrames fs)) : Run p l e R s m args below meth c Z wd ro EL n0 ow0 Q h ow cells slots g := by
  intro T locs vm0 k0 X H
  obtain ⟨i1, i2, i3, i4, i5, i6, i7, i8, i9, i10⟩ := H
  obtain ⟨fs, hr, hrun, hended, hW⟩ := X.leaveW i1 (by rw [i4]; exact i2) (v := v) (fun h => hv (G.2.2.2.2.1.symm.trans h)) G.2.2.2.2.2.2.1
  have hT : (T.setFrames fs).heap = h := i4
  have hA := CHv.at X i3 G.2.2.2.2.2.2.2 i6.1
  refine ⟨_, _, stp T locs vm0 k0 fs X hr, hrun, hended, v, locs, rfl, by rw [hT]; exact q, i5, by rw [hT]; exact i6.trans hA, by rw [hT]; exact i7, ⟨hW.1, hW.2.1, hW.2.2.1, hW.2.2.2.mono hc hs⟩, i10.imp id (fun w => State.WarmedH.trans (t := s.setVm vm0) w X.warmed), fun hr d hd => ?_⟩
  obtain ⟨q1, q2⟩ := hro hr d hd
  obtain ⟨w1, w2, w3, w4⟩ := i9 d q1
  rw [hT]
  exact ⟨hA.safe w2 w1, w2, w3, w4.elim (fun z => absurd z q2) id⟩
theorem retInt (G : Gd p s m meth c y bytes maxL ret Z a0 EL) {z : Int32} (hd : decode bytes pc = .ok (.ireturn, 1)) (hret : ret = some .int) (hc : cells ≤ R.cells) (hs : slots ≤ R.slots) (q : Q (some (.int z)) h) : Run p l e R s m args below meth c Z wd ro EL n0 ow0 Q h ow cells slots (mkF m pc Ls (.int z :: rest)) :=
  fin G (fun _ d z => by cases z) (fun h => by rw [hret] at h; cases h) hc hs q fun T locs vm0 k0 fs X hr => retOut X G.1 (G.2.2.2.2.1.trans hret) rfl (Or.inl ⟨rfl, Or.inl rfl, z, rfl⟩) (G.hb hd) hr
theorem retNar (G : Gd p s m meth c y bytes maxL ret Z a0 EL) {z : Int32} {t : FieldType} (hd : decode bytes pc = .ok (.ireturn, 1)) (hret : ret = some t) (ht : t = .boolean ∨ t = .byte ∨ t = .char ∨ t = .short) (hc : cells ≤ R.cells) (hs : slots ≤ R.slots) (q : Q (some (.int (nar t z))) h) : Run p l e R s m args below meth c Z wd ro EL n0 ow0 Q h ow cells slots (mkF m pc Ls (.int z :: rest)) :=
  fin G (fun _ d z => by cases z) (fun h => by rw [hret] at h; cases h) hc hs q fun T locs vm0 k0 fs X hr => retN X G.1 (G.2.2.2.2.1.trans hret) ht (G.hb hd) hr
theorem retRef (G : Gd p s m meth c y bytes maxL ret Z a0 EL) {v : Value} {t : FieldType} (hro : ro = false) (hd : decode bytes pc = .ok (.areturn, 1)) (hret : ret = some t) (ht : t.isReference = true) (hv : v.isRef = true) (hc : cells ≤ R.cells) (hs : slots ≤ R.slots) (q : Q (some v) h) : Run p l e R s m args below meth c Z wd ro EL n0 ow0 Q h ow cells slots (mkF m pc Ls (v :: rest)) :=
  fin G (fun z => by rw [hro] at z; cases z) (fun h => by rw [hret] at h; cases h) hc hs q fun T locs vm0 k0 fs X hr => retOut X G.1 (G.2.2.2.2.1.trans hret) (by cases t <;> cases v <;> first | rfl | (simp [Value.isRef, FieldType.isReference] at hv ht)) (Or.inr (Or.inr (Or.inr (Or.inr ⟨rfl, ht, hv⟩)))) (G.hb hd) hr
theorem retOwn (G : Gd p s m meth c y bytes maxL ret Z a0 EL) {a : Addr} {t : FieldType} (ha : a ∈ ow) (hn : a ∉ ow0) (hd : decode bytes pc = .ok (.areturn, 1)) (hret : ret = some t) (ht : t.isReference = true) (hc : cells ≤ R.cells) (hs : slots ≤ R.slots) (q : Q (some (.ref a)) h) : Run p l e R s m args below meth c Z wd ro EL n0 ow0 Q h ow cells slots (mkF m pc Ls (.ref a :: rest)) :=
  fin G (fun _ d z => by cases z; exact ⟨ha, hn⟩) (fun h => by rw [hret] at h; cases h) hc hs q fun T locs vm0 k0 fs X hr => retOut X G.1 (G.2.2.2.2.1.trans hret) (by cases t <;> first | rfl | (simp [FieldType.isReference] at ht)) (Or.inr (Or.inr (Or.inr (Or.inr ⟨rfl, ht, rfl⟩)))) (G.hb hd) hr
theorem retVoid (G : Gd p s m meth c y bytes maxL ret Z a0 EL) (hd : decode bytes pc = .ok (.return_, 1)) (hret : ret = none) (hc : cells ≤ R.cells) (hs : slots ≤ R.slots) (q : Q none h) : Run p l e R s m args below meth c Z wd ro EL n0 ow0 Q h ow cells slots (mkF m pc Ls []) :=
  fin G (fun _ d z => by cases z) (fun _ => rfl) hc hs q fun T locs vm0 k0 fs X hr => X.returnOut G.1 (G.2.2.2.2.1.trans hret) (G.hb hd) hr
/-- a callee's contract pays the call -/
theorem backG {y' : MethodName} {bytes' : ByteArray} {maxL' : Nat} {ret' : Option FieldType} {rm : Room} {len W : Nat} {as' : Array Value} {owc : List Addr} {Q' : Option Value → Heap → Prop} {ro' : Bool} {vm0 : Vm}
    (C : Con l Z wd ro' EL n0 y' bytes' maxL' ret' rm [] as' h owc Q') (hZ : Z.Warmed39 vm0) (wc : (Jvm.Cond.code y' bytes' maxL' ret').before a0 Z = true) (wz : (Jvm.Cond.initialized y'.cls).before a0 Z = true) (hf : rm.frames + 1 ≤ R.frames) (hl : W + (maxL' + 11) + rm.locals ≤ R.locals) (hEL : EW Z a0 EL) (H : CHv Z EL vm0 h) (hO : Old Z n0 h) (hS : ∀ x ∈ owc, Safe Z EL vm0 h x ∧ x < h.size ∧ n0 ≤ x) :
    BackS l R p e below (s.setVm vm0) args y' len W (fun A a => a = as' ∧ A.U.heap = h ∧ A.cells + rm.cells ≤ R.cells ∧ A.slots + rm.slots ≤ R.slots)
      (fun A _ v B => ∃ L, Q' v B.U.heap ∧ Fr n0 L ∧ Keep h B.U.heap owc ∧ B.locs = A.locs ++ L ∧ B.cells = A.cells + rm.cells ∧ B.slots = A.slots + rm.slots ∧ CHr Z EL vm0 h B.U.vm B.U.heap ∧ (wd = true ∨ (s.setVm vm0).WarmedH B.U.vm) ∧ (ro' = true → ∀ d, v = some (.ref d) → Safe Z EL B.U.vm B.U.heap d ∧ d < B.U.heap.size ∧ n0 ≤ d ∧ h.size ≤ d)) :=
  BackS.of_freeW (bytes := bytes') (maxL := maxL') (ret := ret') (E := fun _ first o t L k n => k = rm.cells ∧ n = rm.slots ∧ (∃ v, o = .returned v ∧ Q' v t.heap) ∧ Fr n0 L ∧ Keep first.heap t.heap owc ∧ CHr Z EL first.vm first.heap t.vm t.heap ∧ (wd = true ∨ first.WarmedH t.vm) ∧ (ro' = true → ∀ v d, o = .returned v → v = some (.ref d) → Safe Z EL t.vm t.heap d ∧ d < t.heap.size ∧ n0 ≤ d ∧ first.heap.size ≤ d)) C hf hl
    (fun m meth c A a Y hp => have hU : Z.Warmed39 A.U.vm := wtrans (s := s.setVm vm0) hZ Y.warmed
      ⟨by show (Cond.and _ .tt).before a A.U = true; rw [Cond.before_and, mv hU wc]; rfl, mv hU wc, mv hU wz, hp.2.2.1, hp.2.2.2⟩)
    (fun m meth c A a g mk Y hp => ⟨hp.1, wtrans (s := s.setVm vm0) hZ Y.warmed, hp.2.1, hO, (CHv.at Y hZ hEL H).1, fun x hx => ⟨(CHv.at Y hZ hEL H).safe (hS x hx).2.1 (hS x hx).1, (hS x hx).2⟩⟩) (fun _ _ _ _ _ _ _ _ _ => trivial)
    (fun _ _ _ _ ⟨v, L, h1, h2, h3, h4, h5, h6, h7, h8⟩ => ⟨L, _, _, h6, rfl, rfl, ⟨v, h1, h2⟩, h3, h5, h4, h7, fun hr w d e1 e2 => h8 hr d (by rw [h1] at e1; cases e1; exact e2)⟩)
    (fun m meth c A a g mk v t L k n Y hp _ _ ⟨e1, e2, ⟨v', e3, e4⟩, e5, e6, e7, e8, e9⟩ => by
      cases e3; subst e1 e2
      have hh : (A.U.calling g mk a).heap = h := hp.2.1
      rw [hh] at e6 e7 e9
      exact ⟨L, e4, e5, e6, rfl, rfl, rfl, (CHv.at Y hZ hEL H).trans e7, e8.imp id (fun w => State.WarmedH.trans (t := A.U) Y.warmed w), fun hr d hd => e9 hr v d rfl hd⟩)
theorem Hid.call {T T' : State} {locs L : List Loc} {vm0 : Vm} {k0 : Nat} {owc : List Addr} (H : Hid s Z wd EL n0 ow0 ow T locs vm0 k0 h) (how : ∀ x ∈ owc, x ∈ ow) (hS : (s.setVm vm0).Since T'.vm T'.heap.size) (N : Fr n0 L) (K : Keep h T'.heap owc) (hC : CHr Z EL vm0 h T'.vm T'.heap) (hw : wd = true ∨ (s.setVm vm0).WarmedH T'.vm) :
    Hid s Z wd EL n0 ow0 ow T' (locs ++ L) T'.vm T'.heap.size T'.heap := by
  obtain ⟨i1, i2, i3, i4, i5, i6, i7, i8, i9, i10⟩ := H
  refine ⟨i1.trans hS (Nat.le_trans i2 K.1), Nat.le_refl _, State.Warmed39.trans (t := s.setVm vm0) i3 hS.1, rfl, i5.app N, i6.trans hC, i7.trans K (fun x hx => (i9 x (how x hx)).2.2.2), i8.keep K (fun x hx => (i9 x (how x hx)).2.2.1), fun x hx => ⟨hC.safe (i9 x hx).2.1 (i9 x hx).1, Nat.lt_of_lt_of_le (i9 x hx).2.1 K.1, (i9 x hx).2.2⟩, ?_⟩
  rcases hw with hw | hw
  · exact Or.inl hw
  · exact i10.imp id fun w => State.WarmedH.trans (t := s.setVm vm0) w hw
theorem Hid.own {T : State} {locs : List Loc} {vm0 : Vm} {k0 : Nat} {d : Addr} (H : Hid s Z wd EL n0 ow0 ow T locs vm0 k0 h) (q : Safe Z EL vm0 h d ∧ d < h.size ∧ n0 ≤ d ∧ (d ∈ ow0 ∨ s.heap.size ≤ d)) : Hid s Z wd EL n0 ow0 (d :: ow) T locs vm0 k0 h := by
  obtain ⟨i1, i2, i3, i4, i5, i6, i7, i8, i9, i10⟩ := H
  refine ⟨i1, i2, i3, i4, i5, i6, i7, i8, fun x hx => ?_, i10⟩
  rcases List.mem_cons.mp hx with rfl | hx
  · exact q
  · exact i9 x hx
theorem callStatic (G : Gd p s m meth c y bytes maxL ret Z a0 EL) {idx : Nat} {y' : MethodName} {bytes' : ByteArray} {maxL' : Nat} {ret' : Option FieldType} {rm : Room} {W : Nat} {argsL : List Value} {owc : List Addr} {Q' : Option Value → Heap → Prop} {ro' : Bool} (hd : decode bytes pc = .ok (.invokestatic idx, 3))
    (w1 : (Jvm.Cond.methodLink y.cls idx y').before a0 Z = true) (w2 : (Jvm.Cond.static y').before a0 Z = true) (w3 : (Jvm.Cond.initialized y'.cls).before a0 Z = true) (w4 : (Jvm.Cond.code y' bytes' maxL' ret').before a0 Z = true) (hy : y'.cls ≠ "java/lang/invoke/MethodHandle" ∧ y'.cls ≠ "java/lang/invoke/VarHandle")
    (C : Con l Z wd ro' EL n0 y' bytes' maxL' ret' rm [] argsL.toArray h owc Q') (hst : st = argsL.reverse ++ rest) (hlen : ∀ sig, parseMethodDescriptor y'.desc = some sig → argsL.length = sig.parameters.length) (hsz : Ls.size = maxL) (hfr : rm.frames + 1 ≤ R.frames) (hW : (rest.map fun v => v.category).sum ≤ W) (hlo : W + (maxL' + 11) + rm.locals ≤ R.locals) (hc : cells + rm.cells ≤ R.cells) (hs : slots + rm.slots ≤ R.slots) (how : ∀ x ∈ owc, x ∈ ow) (hc' : cells + rm.cells = cells') (hs' : slots + rm.slots = slots') (hp : pc + 3 = pc')
    (K : ∀ (v : Option Value) (h' : Heap), Q' v h' → Keep h h' owc → Run p l e R s m args below meth c Z wd ro EL n0 ow0 Q h' ow cells' slots' (mkF m pc' Ls (v.toList ++ rest))) : Run p l e R s m args below meth c Z wd ro EL n0 ow0 Q h ow cells slots (mkF m pc Ls st) := by
  subst hp hst hc' hs'
  intro T locs vm0 k0 X H
  have hZ := H.2.2.1
  obtain ⟨v, vm₁, B, -, X', hS, -, ⟨L, q1, q2, q3, q4, q5, q6, q7, q8, q9⟩, stp⟩ := callSS X G.1 (bytes := bytes') (maxL := maxL') (ret := ret') (G.own H.1) (mv (s := s.setVm vm0) hZ w1) (mv (s := s.setVm vm0) hZ w2) (mv (s := s.setVm vm0) hZ w3) (mv (s := s.setVm vm0) hZ w4) hy
    (backG C hZ w4 w3 hfr hlo G.2.2.2.2.2.2.2 H.2.2.2.2.2.1.1 H.2.2.2.2.2.2.2.1 (fun x hx => ⟨(H.2.2.2.2.2.2.2.2.1 x (how x hx)).1, (H.2.2.2.2.2.2.2.2.1 x (how x hx)).2.1, (H.2.2.2.2.2.2.2.2.1 x (how x hx)).2.2.1⟩)) (g := mkF m pc Ls (argsL.reverse ++ rest)) rfl (hsz.trans G.2.2.1.symm) hlen rfl (by show 2 * 0 + _ ≤ W; omega) (G.hb hd) (fun _ _ => ⟨rfl, H.2.2.2.1, hc, hs⟩)
  obtain ⟨T', Lc, kc, nc⟩ := B
  dsimp only [Pt.U, Pt.locs, Pt.cells, Pt.slots] at X' q1 q3 q4 q5 q6 q7 q8 q9 hS stp
  subst q4 q5 q6
  obtain ⟨s₂, o, q, r⟩ := K v T'.heap q1 q3 T' (locs ++ L) T'.vm T'.heap.size X' (H.call how hS q2 q3 q7 q8)
  exact ⟨s₂, o, stp.trans q, r⟩
theorem callStaticO (G : Gd p s m meth c y bytes maxL ret Z a0 EL) {idx : Nat} {y' : MethodName} {bytes' : ByteArray} {maxL' : Nat} {ret' : Option FieldType} {rm : Room} {W : Nat} {argsL : List Value} {owc : List Addr} {Q' : Option Value → Heap → Prop} (hd : decode bytes pc = .ok (.invokestatic idx, 3))
    (w1 : (Jvm.Cond.methodLink y.cls idx y').before a0 Z = true) (w2 : (Jvm.Cond.static y').before a0 Z = true) (w3 : (Jvm.Cond.initialized y'.cls).before a0 Z = true) (w4 : (Jvm.Cond.code y' bytes' maxL' ret').before a0 Z = true) (hy : y'.cls ≠ "java/lang/invoke/MethodHandle" ∧ y'.cls ≠ "java/lang/invoke/VarHandle")
    (C : Con l Z wd true EL n0 y' bytes' maxL' ret' rm [] argsL.toArray h owc Q') (hst : st = argsL.reverse ++ rest) (hlen : ∀ sig, parseMethodDescriptor y'.desc = some sig → argsL.length = sig.parameters.length) (hsz : Ls.size = maxL) (hfr : rm.frames + 1 ≤ R.frames) (hW : (rest.map fun v => v.category).sum ≤ W) (hlo : W + (maxL' + 11) + rm.locals ≤ R.locals) (hc : cells + rm.cells ≤ R.cells) (hs : slots + rm.slots ≤ R.slots) (how : ∀ x ∈ owc, x ∈ ow) (hc' : cells + rm.cells = cells') (hs' : slots + rm.slots = slots') (hp : pc + 3 = pc')
    (hq : ∀ v h', Q' v h' → ∃ d, v = some (.ref d)) (K : ∀ (d : Addr) (h' : Heap), Q' (some (.ref d)) h' → Keep h h' owc → h.size ≤ d → Run p l e R s m args below meth c Z wd ro EL n0 ow0 Q h' (d :: ow) cells' slots' (mkF m pc' Ls (.ref d :: rest))) : Run p l e R s m args below meth c Z wd ro EL n0 ow0 Q h ow cells slots (mkF m pc Ls st) := by
  subst hp hst hc' hs'
  intro T locs vm0 k0 X H
  have hZ := H.2.2.1
  obtain ⟨v, vm₁, B, -, X', hS, -, ⟨L, q1, q2, q3, q4, q5, q6, q7, q8, q9⟩, stp⟩ := callSS X G.1 (bytes := bytes') (maxL := maxL') (ret := ret') (G.own H.1) (mv (s := s.setVm vm0) hZ w1) (mv (s := s.setVm vm0) hZ w2) (mv (s := s.setVm vm0) hZ w3) (mv (s := s.setVm vm0) hZ w4) hy
    (backG C hZ w4 w3 hfr hlo G.2.2.2.2.2.2.2 H.2.2.2.2.2.1.1 H.2.2.2.2.2.2.2.1 (fun x hx => ⟨(H.2.2.2.2.2.2.2.2.1 x (how x hx)).1, (H.2.2.2.2.2.2.2.2.1 x (how x hx)).2.1, (H.2.2.2.2.2.2.2.2.1 x (how x hx)).2.2.1⟩)) (g := mkF m pc Ls (argsL.reverse ++ rest)) rfl (hsz.trans G.2.2.1.symm) hlen rfl (by show 2 * 0 + _ ≤ W; omega) (G.hb hd) (fun _ _ => ⟨rfl, H.2.2.2.1, hc, hs⟩)
  obtain ⟨T', Lc, kc, nc⟩ := B
  dsimp only [Pt.U, Pt.locs, Pt.cells, Pt.slots] at X' q1 q3 q4 q5 q6 q7 q8 q9 hS stp
  subst q4 q5 q6
  obtain ⟨d, rfl⟩ := hq _ _ q1
  obtain ⟨o1, o2, o3, o4⟩ := q9 rfl d rfl
  obtain ⟨s₂, o, q, r⟩ := K d T'.heap q1 q3 o4 T' (locs ++ L) T'.vm T'.heap.size X' ((H.call how hS q2 q3 q7 q8).own ⟨o1, o2, o3, Or.inr (Nat.le_trans H.2.2.2.2.2.2.1.1 o4)⟩)
  exact ⟨s₂, o, stp.trans q, r⟩
theorem callSpecial (G : Gd p s m meth c y bytes maxL ret Z a0 EL) {idx : Nat} {y' : MethodName} {bytes' : ByteArray} {maxL' : Nat} {rm : Room} {W : Nat} {a : Addr} {argsL : List Value} {owc : List Addr} {Q' : Option Value → Heap → Prop} {ro' : Bool} (hd : decode bytes pc = .ok (.invokespecial idx, 3)) (hn : y'.name = "<init>")
    (w1 : (Jvm.Cond.methodLink y.cls idx y').before a0 Z = true) (w2 : (Jvm.Cond.instanceMethod y').before a0 Z = true) (w3 : (Jvm.Cond.initialized y'.cls).before a0 Z = true) (w4 : (Jvm.Cond.code y' bytes' maxL' none).before a0 Z = true) (hy : y'.cls ≠ "java/lang/invoke/MethodHandle" ∧ y'.cls ≠ "java/lang/invoke/VarHandle")
    (C : Con l Z wd ro' EL n0 y' bytes' maxL' none rm [] (.ref a :: argsL).toArray h owc Q') (hst : st = argsL.reverse ++ .ref a :: rest) (hlen : ∀ sig, parseMethodDescriptor y'.desc = some sig → argsL.length = sig.parameters.length) (hsz : Ls.size = maxL) (hfr : rm.frames + 1 ≤ R.frames) (hW : (rest.map fun v => v.category).sum ≤ W) (hlo : W + (maxL' + 11) + rm.locals ≤ R.locals) (hc : cells + rm.cells ≤ R.cells) (hs : slots + rm.slots ≤ R.slots) (how : ∀ x ∈ owc, x ∈ ow) (hc' : cells + rm.cells = cells') (hs' : slots + rm.slots = slots') (hp : pc + 3 = pc')
    (K : ∀ (v : Option Value) (h' : Heap), Q' v h' → Keep h h' owc → Run p l e R s m args below meth c Z wd ro EL n0 ow0 Q h' ow cells' slots' (mkF m pc' Ls (v.toList ++ rest))) : Run p l e R s m args below meth c Z wd ro EL n0 ow0 Q h ow cells slots (mkF m pc Ls st) := by
  subst hp hst hc' hs'
  intro T locs vm0 k0 X H
  have hZ := H.2.2.1
  obtain ⟨v, vm₁, B, -, X', hS, -, ⟨L, q1, q2, q3, q4, q5, q6, q7, q8, q9⟩, stp⟩ := X.specialBackS G.1 (bytes := bytes') (maxL := maxL') hn (G.own H.1) (mv (s := s.setVm vm0) hZ w1) (mv (s := s.setVm vm0) hZ w2) (mv (s := s.setVm vm0) hZ w4) hy
    (backG C hZ w4 w3 hfr hlo G.2.2.2.2.2.2.2 H.2.2.2.2.2.1.1 H.2.2.2.2.2.2.2.1 (fun x hx => ⟨(H.2.2.2.2.2.2.2.2.1 x (how x hx)).1, (H.2.2.2.2.2.2.2.2.1 x (how x hx)).2.1, (H.2.2.2.2.2.2.2.2.1 x (how x hx)).2.2.1⟩)) (g := mkF m pc Ls (argsL.reverse ++ .ref a :: rest)) rfl (hsz.trans G.2.2.1.symm) (Steps.refl _) hlen rfl (by show 2 * 0 + _ ≤ W; omega) (G.hb hd) (fun _ _ => ⟨rfl, H.2.2.2.1, hc, hs⟩)
  obtain ⟨T', Lc, kc, nc⟩ := B
  dsimp only [Pt.U, Pt.locs, Pt.cells, Pt.slots] at X' q1 q3 q4 q5 q6 q7 q8 q9 hS stp
  subst q4 q5 q6
  obtain ⟨s₂, o, q, r⟩ := K v T'.heap q1 q3 T' (locs ++ L) T'.vm T'.heap.size X' (H.call how hS q2 q3 q7 q8)
  exact ⟨s₂, o, stp.trans q, r⟩
theorem callVirtual (G : Gd p s m meth c y bytes maxL ret Z a0 EL) {idx : Nat} {y' z' : MethodName} {D : String} {bytes' : ByteArray} {maxL' : Nat} {ret' : Option FieldType} {rm : Room} {W : Nat} {a : Addr} {argsL : List Value} {owc : List Addr} {Q' : Option Value → Heap → Prop} {ro' : Bool} (hd : decode bytes pc = .ok (.invokevirtual idx, 3))
    (w1 : (Jvm.Cond.methodLink y.cls idx y').before a0 Z = true) (w2 : (Jvm.Cond.declares y').before a0 Z = true) (w3 : (Jvm.Cond.selects D y' z').before a0 Z = true) (hnf : ∀ (s : State), Z.Warmed39 s.vm → NotFace s y') (w4 : (Jvm.Cond.instanceMethod z').before a0 Z = true) (w5 : (Jvm.Cond.initialized z'.cls).before a0 Z = true) (w6 : (Jvm.Cond.code z' bytes' maxL' ret').before a0 Z = true) (hy : y'.cls ≠ "java/lang/invoke/MethodHandle" ∧ y'.cls ≠ "java/lang/invoke/VarHandle")
    (E : Exa Z h a D) (C : Con l Z wd ro' EL n0 z' bytes' maxL' ret' rm [] (.ref a :: argsL).toArray h owc Q') (hst : st = argsL.reverse ++ .ref a :: rest) (hlen : ∀ sig, parseMethodDescriptor y'.desc = some sig → argsL.length = sig.parameters.length) (hsz : Ls.size = maxL) (hfr : rm.frames + 1 ≤ R.frames) (hW : (rest.map fun v => v.category).sum ≤ W) (hlo : W + (maxL' + 11) + rm.locals ≤ R.locals) (hc : cells + rm.cells ≤ R.cells) (hs : slots + rm.slots ≤ R.slots) (how : ∀ x ∈ owc, x ∈ ow) (hc' : cells + rm.cells = cells') (hs' : slots + rm.slots = slots') (hp : pc + 3 = pc')
    (K : ∀ (v : Option Value) (h' : Heap), Q' v h' → Keep h h' owc → Run p l e R s m args below meth c Z wd ro EL n0 ow0 Q h' ow cells' slots' (mkF m pc' Ls (v.toList ++ rest))) : Run p l e R s m args below meth c Z wd ro EL n0 ow0 Q h ow cells slots (mkF m pc Ls st) := by
  subst hp hst hc' hs'
  intro T locs vm0 k0 X H
  have hZ := H.2.2.1
  obtain ⟨cq, kq, r1, -, r3⟩ := isOf (s := s.setVm vm0) (T := T) hZ H.2.2.2.1 E
  obtain ⟨v, vm₁, B, -, X', hS, -, ⟨L, q1, q2, q3, q4, q5, q6, q7, q8, q9⟩, stp⟩ := X.virtualBackS G.1 (G.own H.1) (mv (s := s.setVm vm0) hZ w1) (mv (s := s.setVm vm0) hZ w2) (hnf (s.setVm vm0) hZ) (mv (s := s.setVm vm0) hZ w3) (mv (s := s.setVm vm0) hZ w4) hy
    (backG C hZ w6 w5 hfr hlo G.2.2.2.2.2.2.2 H.2.2.2.2.2.1.1 H.2.2.2.2.2.2.2.1 (fun x hx => ⟨(H.2.2.2.2.2.2.2.2.1 x (how x hx)).1, (H.2.2.2.2.2.2.2.2.1 x (how x hx)).2.1, (H.2.2.2.2.2.2.2.2.1 x (how x hx)).2.2.1⟩)) r1 r3 (g := mkF m pc Ls (argsL.reverse ++ .ref a :: rest)) rfl (hsz.trans G.2.2.1.symm) (Steps.refl _) hlen rfl (by show 2 * 0 + _ ≤ W; omega) (G.hb hd) (fun _ _ => ⟨rfl, H.2.2.2.1, hc, hs⟩)
  obtain ⟨T', Lc, kc, nc⟩ := B
  dsimp only [Pt.U, Pt.locs, Pt.cells, Pt.slots] at X' q1 q3 q4 q5 q6 q7 q8 q9 hS stp
  subst q4 q5 q6
  obtain ⟨s₂, o, q, r⟩ := K v T'.heap q1 q3 T' (locs ++ L) T'.vm T'.heap.size X' (H.call how hS q2 q3 q7 q8)
  exact ⟨s₂, o, stp.trans q, r⟩
theorem callFace (G : Gd p s m meth c y bytes maxL ret Z a0 EL) {idx count : Nat} {y' z' : MethodName} {D : String} {bytes' : ByteArray} {maxL' : Nat} {ret' : Option FieldType} {rm : Room} {W : Nat} {a : Addr} {argsL : List Value} {owc : List Addr} {Q' : Option Value → Heap → Prop} {ro' : Bool} (hd : decode bytes pc = .ok (.invokeinterface idx count, 5))
    (w1 : (Jvm.Cond.methodLink y.cls idx y').before a0 Z = true) (w2 : (Jvm.Cond.declares y').before a0 Z = true) (w3 : (Jvm.Cond.selects D y' z').before a0 Z = true) (wf : ∀ (a1 : Array Value) (s : State), Z.Warmed39 s.vm → (Jvm.Cond.interfaceMethod y'.cls y'.cls y'.name y'.desc).before a1 s = true) (wp : (Jvm.Cond.publicMethod z').before a0 Z = true) (wu : (Jvm.Cond.unhidden D y'.name y'.desc).before a0 Z = true) (wk : (Jvm.Cond.castable D y'.cls).before a0 Z = true) (w4 : (Jvm.Cond.instanceMethod z').before a0 Z = true) (w5 : (Jvm.Cond.initialized z'.cls).before a0 Z = true) (w6 : (Jvm.Cond.code z' bytes' maxL' ret').before a0 Z = true) (hy : y'.cls ≠ "java/lang/invoke/MethodHandle" ∧ y'.cls ≠ "java/lang/invoke/VarHandle")
    (E : Exa Z h a D) (C : Con l Z wd ro' EL n0 z' bytes' maxL' ret' rm [] (.ref a :: argsL).toArray h owc Q') (hst : st = argsL.reverse ++ .ref a :: rest) (hlen : ∀ sig, parseMethodDescriptor y'.desc = some sig → argsL.length = sig.parameters.length) (hsz : Ls.size = maxL) (hfr : rm.frames + 1 ≤ R.frames) (hW : (rest.map fun v => v.category).sum ≤ W) (hlo : W + (maxL' + 11) + rm.locals ≤ R.locals) (hc : cells + rm.cells ≤ R.cells) (hs : slots + rm.slots ≤ R.slots) (how : ∀ x ∈ owc, x ∈ ow) (hc' : cells + rm.cells = cells') (hs' : slots + rm.slots = slots') (hp : pc + 5 = pc')
    (K : ∀ (v : Option Value) (h' : Heap), Q' v h' → Keep h h' owc → Run p l e R s m args below meth c Z wd ro EL n0 ow0 Q h' ow cells' slots' (mkF m pc' Ls (v.toList ++ rest))) : Run p l e R s m args below meth c Z wd ro EL n0 ow0 Q h ow cells slots (mkF m pc Ls st) := by
  subst hp hst hc' hs'
  intro T locs vm0 k0 X H
  have hZ := H.2.2.1
  obtain ⟨cq, kq, r1, r2, r3⟩ := isOf (s := s.setVm vm0) (T := T) hZ H.2.2.2.1 E
  obtain ⟨v, vm₁, B, -, X', hS, -, ⟨L, q1, q2, q3, q4, q5, q6, q7, q8, q9⟩, stp⟩ := X.interfaceBackS G.1 (G.own H.1) (mv (s := s.setVm vm0) hZ w1) (mv (s := s.setVm vm0) hZ w2) (wf _ (s.setVm vm0) hZ) (mv (s := s.setVm vm0) hZ w3) (mv (s := s.setVm vm0) hZ w4) (mv (s := s.setVm vm0) hZ wp) (mv (s := s.setVm vm0) hZ wu) (mv (s := s.setVm vm0) hZ wk) hy
    (backG C hZ w6 w5 hfr hlo G.2.2.2.2.2.2.2 H.2.2.2.2.2.1.1 H.2.2.2.2.2.2.2.1 (fun x hx => ⟨(H.2.2.2.2.2.2.2.2.1 x (how x hx)).1, (H.2.2.2.2.2.2.2.2.1 x (how x hx)).2.1, (H.2.2.2.2.2.2.2.2.1 x (how x hx)).2.2.1⟩)) r1 r2 r3 (g := mkF m pc Ls (argsL.reverse ++ .ref a :: rest)) rfl (hsz.trans G.2.2.1.symm) (Steps.refl _) hlen rfl (by show 2 * 0 + _ ≤ W; omega) (G.hb hd) (fun _ _ => ⟨rfl, H.2.2.2.1, hc, hs⟩)
  obtain ⟨T', Lc, kc, nc⟩ := B
  dsimp only [Pt.U, Pt.locs, Pt.cells, Pt.slots] at X' q1 q3 q4 q5 q6 q7 q8 q9 hS stp
  subst q4 q5 q6
  obtain ⟨s₂, o, q, r⟩ := K v T'.heap q1 q3 T' (locs ++ L) T'.vm T'.heap.size X' (H.call how hS q2 q3 q7 q8)
  exact ⟨s₂, o, stp.trans q, r⟩
theorem nface {y' : MethodName} {D : String} (w3 : (Jvm.Cond.selects D y' y').before a0 Z = true) : ∀ (s : State), Z.Warmed39 s.vm → NotFace s y' := fun s hZ => notFace_of_selects (args := #[]) (mv (s := s) hZ w3)
end
end Jvm.GoKit


namespace Jvm.GoKit
open Jvm Jvm.ClassFile Sem Op Lib Jvm.Free Jvm.Stand Jvm.LawKit Jvm.RoadKit Bundle
theorem wi {L : List Jvm.Cond} {a0 : Array Value} {Z : State} (hw : ∀ d ∈ L, d.before a0 Z = true) (i : Nat) {d : Jvm.Cond} (h : L[i]? = some d) : d.before a0 Z = true := hw _ (List.mem_of_getElem? h)
/-- an array of chars or bytes, with its values -/
def IA (Z : State) (h : Heap) (b : Addr) (ty : FieldType) (xs : List Int32) : Prop := ∃ cl : Cell, Arr Z h b cl ty ∧ cl.slots = (xs.map Value.int).toArray ∧ xs.length < 2 ^ 31
section
variable {p : Program} {l : Launch} {e : Env} {R : Room} {s : State} {m : MethodId} {args : Array Value} {below : List Frame} {meth : Method} {c : Code} {Z : State} {wd ro ro' : Bool} {EL : List (String × Nat)} {n0 : Nat} {ow0 : List Addr} {Q : Option Value → Heap → Prop}
variable {h h' : Heap} {ow : List Addr} {cells slots cells' slots' : Nat} {pc pc' : Nat} {Ls Ls' : Array Slot} {st rest : List Value} {y : MethodName} {bytes : ByteArray} {maxL : Nat} {ret : Option FieldType} {a0 : Array Value}
variable {a b : Addr} {ty : FieldType} {xs : List Int32} {i : Nat} {x x' z j : Int32} {ws : List Addr} {sl : Nat} {v : Value}
theorem IA.lt (A : IA Z h b ty xs) : b < h.size := by obtain ⟨cl, A, -⟩ := A; exact A.lt
theorem IA.ext (A : IA Z h b ty xs) (E : Ext h h') : IA Z h' b ty xs := by obtain ⟨cl, A, r⟩ := A; exact ⟨cl, A.ext E, r⟩
theorem IA.other (A : IA Z h b ty xs) (W : Wr h h' a sl v) (q : b ≠ a) : IA Z h' b ty xs := by obtain ⟨cl, A, r⟩ := A; exact ⟨cl, A.other W q, r⟩
theorem IA.keep (A : IA Z h b ty xs) (K : Keep h h' ws) (q : b ∉ ws) : IA Z h' b ty xs := by obtain ⟨cl, A, r⟩ := A; exact ⟨cl, ⟨K.2.1 b cl A.1 q, A.2⟩, r⟩
theorem IA.new {cA : ClassId} {n : Int32} {k : Nat} (A : Arr Z h a (newA cA ty n) ty) (hk : n.toNatClampNeg = k) (hd : defaultValue ty = .int 0) : IA Z h a ty (List.replicate k 0) := by
  refine ⟨_, A, ?_, ?_⟩
  · subst hk; simp [newA, hd]
  · rw [List.length_replicate, ← hk]
    have := n.toInt_lt
    simp only [Int32.toNatClampNeg]; omega
theorem idx_ok {cl : Cell} {j : Int32} {i n : Nat} (hs : cl.slots.size = n) (hj : j.toNatClampNeg = i) (hj0 : ¬ j < 0) (hi : i < n) : ¬ (j < 0 ∨ cl.slots.size ≤ j.toNatClampNeg) := by
  rintro (q | q)
  · exact hj0 q
  · omega
theorem IA.set (A : IA Z h a ty xs) (W : Wr h h' a i (.int x)) (hi : i < xs.length) : IA Z h' a ty (xs.set i x) := by
  obtain ⟨cl, A, e, hl⟩ := A
  refine ⟨_, A.same W, ?_, by simpa using hl⟩
  simp only [Cell.setSlot]
  rw [e, ← Array.toList_inj]
  simp [List.map_set]
theorem castI (G : Gd p s m meth c y bytes maxL ret Z a0 EL) (hd : decode bytes pc = .ok (.castore, 1)) (A : IA Z h a .char xs) (hj : j.toNatClampNeg = i) (hj0 : ¬ j < 0) (hi : i < xs.length) (hx : nar .char x = x') (ha : a ∈ ow) (hp : pc + 1 = pc')
    (K : ∀ h', Wr h h' a i (.int x') → IA Z h' a .char (xs.set i x') → Run p l e R s m args below meth c Z wd ro EL n0 ow0 Q h' ow cells slots (mkF m pc' Ls rest)) : Run p l e R s m args below meth c Z wd ro EL n0 ow0 Q h ow cells slots (mkF m pc Ls (.int x :: .int j :: .ref a :: rest)) := by
  obtain ⟨cl, A1, e1, hl⟩ := id A
  refine castore G hd A1 (idx_ok (by rw [e1]; simp) hj hj0 hi) ha hp fun h' W => ?_
  rw [hj, hx] at W
  exact K h' W (A.set W hi)
theorem bastI (G : Gd p s m meth c y bytes maxL ret Z a0 EL) (hd : decode bytes pc = .ok (.bastore, 1)) (A : IA Z h a .byte xs) (hj : j.toNatClampNeg = i) (hj0 : ¬ j < 0) (hi : i < xs.length) (hx : nar .byte x = x') (ha : a ∈ ow) (hp : pc + 1 = pc')
    (K : ∀ h', Wr h h' a i (.int x') → IA Z h' a .byte (xs.set i x') → Run p l e R s m args below meth c Z wd ro EL n0 ow0 Q h' ow cells slots (mkF m pc' Ls rest)) : Run p l e R s m args below meth c Z wd ro EL n0 ow0 Q h ow cells slots (mkF m pc Ls (.int x :: .int j :: .ref a :: rest)) := by
  obtain ⟨cl, A1, e1, hl⟩ := id A
  refine bastore G hd A1 (idx_ok (by rw [e1]; simp) hj hj0 hi) ha hp fun h' W => ?_
  rw [hj, hx] at W
  exact K h' W (A.set W hi)
theorem caloadI (G : Gd p s m meth c y bytes maxL ret Z a0 EL) (hd : decode bytes pc = .ok (.caload, 1)) (A : IA Z h a .char xs) (hj : j.toNatClampNeg = i) (hj0 : ¬ j < 0) (hv : xs[i]? = some x) (hp : pc + 1 = pc') (K : Run p l e R s m args below meth c Z wd ro EL n0 ow0 Q h ow cells slots (mkF m pc' Ls (.int x :: rest))) : Run p l e R s m args below meth c Z wd ro EL n0 ow0 Q h ow cells slots (mkF m pc Ls (.int j :: .ref a :: rest)) := by
  obtain ⟨cl, A1, e1, hl⟩ := A
  have hi := (List.getElem?_eq_some_iff.mp hv).1
  exact caload G hd A1 (idx_ok (by rw [e1]; simp) hj hj0 hi) (by rw [e1, hj]; simp [hv]) hp K
theorem baloadI (G : Gd p s m meth c y bytes maxL ret Z a0 EL) (hd : decode bytes pc = .ok (.baload, 1)) (A : IA Z h a .byte xs) (hj : j.toNatClampNeg = i) (hj0 : ¬ j < 0) (hv : xs[i]? = some x) (hp : pc + 1 = pc') (K : Run p l e R s m args below meth c Z wd ro EL n0 ow0 Q h ow cells slots (mkF m pc' Ls (.int x :: rest))) : Run p l e R s m args below meth c Z wd ro EL n0 ow0 Q h ow cells slots (mkF m pc Ls (.int j :: .ref a :: rest)) := by
  obtain ⟨cl, A1, e1, hl⟩ := A
  have hi := (List.getElem?_eq_some_iff.mp hv).1
  exact baload G hd A1 (idx_ok (by rw [e1]; simp) hj hj0 hi) (by rw [e1, hj]; simp [hv]) hp K
theorem arrlenI (G : Gd p s m meth c y bytes maxL ret Z a0 EL) (hd : decode bytes pc = .ok (.arraylength, 1)) (A : IA Z h a ty xs) (hz : xs.length.toInt32 = z) (hp : pc + 1 = pc') (K : Run p l e R s m args below meth c Z wd ro EL n0 ow0 Q h ow cells slots (mkF m pc' Ls (.int z :: rest))) : Run p l e R s m args below meth c Z wd ro EL n0 ow0 Q h ow cells slots (mkF m pc Ls (.ref a :: rest)) := by
  obtain ⟨cl, A1, e1, hl⟩ := A
  refine arrlen G hd A1 hp ?_
  rw [e1, List.size_toArray, List.length_map, hz]
  exact K
theorem newcI (G : Gd p s m meth c y bytes maxL ret Z a0 EL) {n : Int32} {k cap : Nat} (hd : decode bytes pc = .ok (.newarray .char, 2)) (w : (Jvm.Cond.arrayClass .char).before a0 Z = true) (hn : ¬ n < 0) (hk : n.toNatClampNeg = k) (hcap : k ≤ cap) (hb : cap * 8 ≤ 536870912) (hc : cells + 1 ≤ R.cells) (hl : slots + cap ≤ R.slots) (hc' : cells + 1 = cells') (hs' : slots + cap = slots') (hp : pc + 2 = pc')
    (K : ∀ (h' : Heap) (a : Addr), a = h.size → Ext h h' → IA Z h' a .char (List.replicate k 0) → Run p l e R s m args below meth c Z wd ro EL n0 ow0 Q h' (a :: ow) cells' slots' (mkF m pc' Ls (.ref a :: rest))) : Run p l e R s m args below meth c Z wd ro EL n0 ow0 Q h ow cells slots (mkF m pc Ls (.int n :: rest)) :=
  newarr G hd w hn (hk ▸ hcap) hb hc hl hc' hs' hp fun h' cA a g E A => K h' a g E (IA.new A hk rfl)
theorem newbI (G : Gd p s m meth c y bytes maxL ret Z a0 EL) {n : Int32} {k cap : Nat} (hd : decode bytes pc = .ok (.newarray .byte, 2)) (w : (Jvm.Cond.arrayClass .byte).before a0 Z = true) (hn : ¬ n < 0) (hk : n.toNatClampNeg = k) (hcap : k ≤ cap) (hb : cap * 8 ≤ 536870912) (hc : cells + 1 ≤ R.cells) (hl : slots + cap ≤ R.slots) (hc' : cells + 1 = cells') (hs' : slots + cap = slots') (hp : pc + 2 = pc')
    (K : ∀ (h' : Heap) (a : Addr), a = h.size → Ext h h' → IA Z h' a .byte (List.replicate k 0) → Run p l e R s m args below meth c Z wd ro EL n0 ow0 Q h' (a :: ow) cells' slots' (mkF m pc' Ls (.ref a :: rest))) : Run p l e R s m args below meth c Z wd ro EL n0 ow0 Q h ow cells slots (mkF m pc Ls (.int n :: rest)) :=
  newarr G hd w hn (hk ▸ hcap) hb hc hl hc' hs' hp fun h' cA a g E A => K h' a g E (IA.new A hk rfl)
/-- calls of a callee that leaves the heap as it was -/
theorem callStaticP (G : Gd p s m meth c y bytes maxL ret Z a0 EL) {idx : Nat} {y' : MethodName} {bytes' : ByteArray} {maxL' : Nat} {ret' : Option FieldType} {rm : Room} {W : Nat} {argsL : List Value} {r : Option Value} (hd : decode bytes pc = .ok (.invokestatic idx, 3))
    (w1 : (Jvm.Cond.methodLink y.cls idx y').before a0 Z = true) (w2 : (Jvm.Cond.static y').before a0 Z = true) (w3 : (Jvm.Cond.initialized y'.cls).before a0 Z = true) (w4 : (Jvm.Cond.code y' bytes' maxL' ret').before a0 Z = true) (hy : y'.cls ≠ "java/lang/invoke/MethodHandle" ∧ y'.cls ≠ "java/lang/invoke/VarHandle")
    (C : Con l Z wd ro' EL n0 y' bytes' maxL' ret' rm [] argsL.toArray h [] (fun v h' => v = r ∧ h' = h)) (hst : st = argsL.reverse ++ rest) (hlen : ∀ sig, parseMethodDescriptor y'.desc = some sig → argsL.length = sig.parameters.length) (hsz : Ls.size = maxL) (hfr : rm.frames + 1 ≤ R.frames) (hW : (rest.map fun v => v.category).sum ≤ W) (hlo : W + (maxL' + 11) + rm.locals ≤ R.locals) (hc : cells + rm.cells ≤ R.cells) (hs : slots + rm.slots ≤ R.slots) (hc' : cells + rm.cells = cells') (hs' : slots + rm.slots = slots') (hp : pc + 3 = pc')
    (K : Run p l e R s m args below meth c Z wd ro EL n0 ow0 Q h ow cells' slots' (mkF m pc' Ls (r.toList ++ rest))) : Run p l e R s m args below meth c Z wd ro EL n0 ow0 Q h ow cells slots (mkF m pc Ls st) :=
  callStatic G hd w1 w2 w3 w4 hy C hst hlen hsz hfr hW hlo hc hs (fun _ q => nomatch q) hc' hs' hp fun v h' q _ => by rw [q.1, q.2]; exact K
theorem callVirtualP (G : Gd p s m meth c y bytes maxL ret Z a0 EL) {idx : Nat} {y' : MethodName} {D : String} {bytes' : ByteArray} {maxL' : Nat} {ret' : Option FieldType} {rm : Room} {W : Nat} {a : Addr} {argsL : List Value} {r : Option Value} (hd : decode bytes pc = .ok (.invokevirtual idx, 3))
    (w1 : (Jvm.Cond.methodLink y.cls idx y').before a0 Z = true) (w2 : (Jvm.Cond.declares y').before a0 Z = true) (w3 : (Jvm.Cond.selects D y' y').before a0 Z = true) (w4 : (Jvm.Cond.instanceMethod y').before a0 Z = true) (w5 : (Jvm.Cond.initialized y'.cls).before a0 Z = true) (w6 : (Jvm.Cond.code y' bytes' maxL' ret').before a0 Z = true) (hy : y'.cls ≠ "java/lang/invoke/MethodHandle" ∧ y'.cls ≠ "java/lang/invoke/VarHandle")
    (E : Exa Z h a D) (C : Con l Z wd ro' EL n0 y' bytes' maxL' ret' rm [] (.ref a :: argsL).toArray h [] (fun v h' => v = r ∧ h' = h)) (hst : st = argsL.reverse ++ .ref a :: rest) (hlen : ∀ sig, parseMethodDescriptor y'.desc = some sig → argsL.length = sig.parameters.length) (hsz : Ls.size = maxL) (hfr : rm.frames + 1 ≤ R.frames) (hW : (rest.map fun v => v.category).sum ≤ W) (hlo : W + (maxL' + 11) + rm.locals ≤ R.locals) (hc : cells + rm.cells ≤ R.cells) (hs : slots + rm.slots ≤ R.slots) (hc' : cells + rm.cells = cells') (hs' : slots + rm.slots = slots') (hp : pc + 3 = pc')
    (K : Run p l e R s m args below meth c Z wd ro EL n0 ow0 Q h ow cells' slots' (mkF m pc' Ls (r.toList ++ rest))) : Run p l e R s m args below meth c Z wd ro EL n0 ow0 Q h ow cells slots (mkF m pc Ls st) :=
  callVirtual G hd w1 w2 w3 (nface w3) w4 w5 w6 hy E C hst hlen hsz hfr hW hlo hc hs (fun _ q => nomatch q) hc' hs' hp fun v h' q _ => by rw [q.1, q.2]; exact K
theorem callFaceP (G : Gd p s m meth c y bytes maxL ret Z a0 EL) {idx count : Nat} {y' z' : MethodName} {D : String} {bytes' : ByteArray} {maxL' : Nat} {ret' : Option FieldType} {rm : Room} {W : Nat} {a : Addr} {argsL : List Value} {r : Option Value} (hd : decode bytes pc = .ok (.invokeinterface idx count, 5))
    (w1 : (Jvm.Cond.methodLink y.cls idx y').before a0 Z = true) (w2 : (Jvm.Cond.declares y').before a0 Z = true) (w3 : (Jvm.Cond.selects D y' z').before a0 Z = true) (wf : ∀ (a1 : Array Value) (s : State), Z.Warmed39 s.vm → (Jvm.Cond.interfaceMethod y'.cls y'.cls y'.name y'.desc).before a1 s = true) (wp : (Jvm.Cond.publicMethod z').before a0 Z = true) (wu : (Jvm.Cond.unhidden D y'.name y'.desc).before a0 Z = true) (wk : (Jvm.Cond.castable D y'.cls).before a0 Z = true) (w4 : (Jvm.Cond.instanceMethod z').before a0 Z = true) (w5 : (Jvm.Cond.initialized z'.cls).before a0 Z = true) (w6 : (Jvm.Cond.code z' bytes' maxL' ret').before a0 Z = true) (hy : y'.cls ≠ "java/lang/invoke/MethodHandle" ∧ y'.cls ≠ "java/lang/invoke/VarHandle")
    (E : Exa Z h a D) (C : Con l Z wd ro' EL n0 z' bytes' maxL' ret' rm [] (.ref a :: argsL).toArray h [] (fun v h' => v = r ∧ h' = h)) (hst : st = argsL.reverse ++ .ref a :: rest) (hlen : ∀ sig, parseMethodDescriptor y'.desc = some sig → argsL.length = sig.parameters.length) (hsz : Ls.size = maxL) (hfr : rm.frames + 1 ≤ R.frames) (hW : (rest.map fun v => v.category).sum ≤ W) (hlo : W + (maxL' + 11) + rm.locals ≤ R.locals) (hc : cells + rm.cells ≤ R.cells) (hs : slots + rm.slots ≤ R.slots) (hc' : cells + rm.cells = cells') (hs' : slots + rm.slots = slots') (hp : pc + 5 = pc')
    (K : Run p l e R s m args below meth c Z wd ro EL n0 ow0 Q h ow cells' slots' (mkF m pc' Ls (r.toList ++ rest))) : Run p l e R s m args below meth c Z wd ro EL n0 ow0 Q h ow cells slots (mkF m pc Ls st) :=
  callFace G hd w1 w2 w3 wf wp wu wk w4 w5 w6 hy E C hst hlen hsz hfr hW hlo hc hs (fun _ q => nomatch q) hc' hs' hp fun v h' q _ => by rw [q.1, q.2]; exact K
/-- a Latin-1 String of known chars -/
def Lat (Z : State) (h : Heap) (a : Addr) (cs : List Int32) : Prop := Exa Z h a "java/lang/String" ∧ (∃ b, Fld Z h a "java/lang/String" "value" "[B" (.ref b) ∧ Fld Z h a "java/lang/String" "coder" "B" (.int 0) ∧ IA Z h b .byte (cs.map fun c => c.toInt8.toInt32)) ∧ ∀ c ∈ cs, 0 ≤ c.toInt ∧ c.toInt < 256
theorem Lat.ext {cs : List Int32} (S : Lat Z h a cs) (E : Ext h h') : Lat Z h' a cs := by
  obtain ⟨S1, ⟨b, S2, S3, S4⟩, S5⟩ := S
  exact ⟨S1.ext E, ⟨b, S2.ext E, S3.ext E, S4.ext E⟩, S5⟩
theorem Lat.keep {cs : List Int32} (S : Lat Z h a cs) (K : Keep h h' []) : Lat Z h' a cs := by
  obtain ⟨S1, ⟨b, S2, S3, S4⟩, S5⟩ := S
  exact ⟨S1.keep K, ⟨b, S2.keep K nin0, S3.keep K nin0, S4.keep K nin0⟩, S5⟩
theorem Lat.lt {cs : List Int32} (S : Lat Z h a cs) : a < h.size := S.1.lt
theorem IA.ne {n : Nat} {C : String} (A : IA Z h b ty xs) (E : Exa Z h a C) (wi : (Jvm.Cond.instantiable C n).before a0 Z = true) : b ≠ a := by obtain ⟨cl, A, -⟩ := A; exact (ne_arr E wi A).symm
theorem IA.neTy {ty' : FieldType} {ys : List Int32} (A : IA Z h b ty xs) (B : IA Z h a ty' ys) (hn : ty ≠ ty') : b ≠ a := fun q => by
  subst q
  obtain ⟨c1, A, -⟩ := A
  obtain ⟨c2, B, -⟩ := B
  cases A.1.symm.trans B.1
  obtain ⟨-, k1, e1, p1, r1⟩ := A.2.1
  obtain ⟨-, k2, e2, p2, r2⟩ := B.2.1
  cases e1.symm.trans e2
  have := r1.symm.trans r2
  injection this with _ q
  exact hn q
theorem IA.len (A : IA Z h b ty xs) : xs.length < 2 ^ 31 := by obtain ⟨-, -, -, h⟩ := A; exact h
theorem Lat.wrI {cs : List Int32} {n : Nat} (S : Lat Z h a cs) (W : Wr h h' b sl v) (A : IA Z h b ty xs) (ht : ty ≠ .byte) (wi : (Jvm.Cond.instantiable "java/lang/String" n).before a0 Z = true) : Lat Z h' a cs := by
  obtain ⟨E, ⟨d, V, C, B⟩, l⟩ := S
  have n1 : a ≠ b := fun q => IA.ne A E wi q.symm
  exact ⟨E.wr W, ⟨d, V.other W (Or.inl n1), C.other W (Or.inl n1), B.other W (IA.neTy B A (fun q => ht q.symm))⟩, l⟩
theorem con_mono {y' : MethodName} {bytes' : ByteArray} {maxL' : Nat} {ret' : Option FieldType} {rm : Room} {ws : List Jvm.Cond} {as' : Array Value} {owc : List Addr} {Q1 Q2 : Option Value → Heap → Prop} (C : Con l Z wd ro EL n0 y' bytes' maxL' ret' rm ws as' h owc Q1) (q : ∀ v h', Q1 v h' → Q2 v h') : Con l Z wd ro EL n0 y' bytes' maxL' ret' rm ws as' h owc Q2 := by
  intro p e a1 a2 a3 s m args below a4 a5 a6 a7
  obtain ⟨n, o, b1, b2, b3, v, L, b4, b5, b6⟩ := C p e a1 a2 a3 s m args below a4 a5 a6 a7
  exact ⟨n, o, b1, b2, b3, v, L, b4, q _ _ b5, b6⟩
theorem castRun {g g' : JFrame} (q : g = g') (K : Run p l e R s m args below meth c Z wd ro EL n0 ow0 Q h ow cells slots g') : Run p l e R s m args below meth c Z wd ro EL n0 ow0 Q h ow cells slots g := q ▸ K
theorem toI_toInt {i : Nat} (h : i < 2 ^ 31) : i.toInt32.toInt = i := len_toInt h
theorem toI_clamp {i : Nat} (h : i < 2 ^ 31) : i.toInt32.toNatClampNeg = i := by simp only [Int32.toNatClampNeg, toI_toInt h]; rfl
theorem toI_nn {i : Nat} (h : i < 2 ^ 31) : ¬ i.toInt32 < 0 := by
  rw [Int32.lt_iff_toInt_lt, toI_toInt h]; show ¬ (i : Int) < 0; omega
theorem toI_lt {i k : Nat} (h : i < 2 ^ 31) (h' : k < 2 ^ 31) : i.toInt32 < k.toInt32 ↔ i < k := by
  rw [Int32.lt_iff_toInt_lt, toI_toInt h, toI_toInt h']; omega
theorem toI_succ (i : Nat) : i.toInt32 + 1 = (i + 1).toInt32 := by
  apply Int32.toBitVec_inj.mp
  simp [Nat.toInt32, BitVec.ofNat_add]
theorem toI_eq {i k : Nat} (h : i < 2 ^ 31) (h' : k < 2 ^ 31) : i.toInt32 = k.toInt32 ↔ i = k := by
  refine ⟨fun q => ?_, fun q => by rw [q]⟩
  have := congrArg Int32.toInt q
  rw [toI_toInt h, toI_toInt h'] at this; omega
theorem lo8_nar (c : Int32) : nar .byte (c.toInt8.toInt32) = c.toInt8.toInt32 := by simp [nar]
theorem nar_i2c (x : Int32) : nar .char (x.toUInt32.toUInt16.toUInt32.toInt32) = x.toUInt32.toUInt16.toUInt32.toInt32 := by simp only [nar, UInt32.toUInt32_toInt32, UInt16.toUInt16_toUInt32]
theorem set_fill (f : Int32 → Int32) (cs : List Int32) (i k : Nat) (c : Int32) (hc : cs[i]? = some c) : (((cs.take i).map f) ++ List.replicate (k + 1) 0).set i (f c) = ((cs.take (i + 1)).map f) ++ List.replicate k 0 := by
  have hi := (List.getElem?_eq_some_iff.mp hc).1
  have hl : ((cs.take i).map f).length = i := by simp; omega
  rw [List.set_append_right _ _ (by omega), hl, Nat.sub_self, List.replicate_succ, List.set_cons_zero, List.take_add_one, hc]
  simp
theorem and_rng (x m : Int32) (M : Nat) (hm : m.toBitVec.toNat = M) (hM : M < 2 ^ 31) : 0 ≤ (x &&& m).toInt ∧ (x &&& m).toInt ≤ M := by
  have h : (x &&& m).toBitVec.toNat ≤ M := by
    show (x.toBitVec &&& m.toBitVec).toNat ≤ M
    rw [BitVec.toNat_and, ← hm]; exact Nat.and_le_right
  have e : (x &&& m).toInt = ((x &&& m).toBitVec.toNat : Int) := by
    show (x &&& m).toBitVec.toInt = _
    rw [BitVec.toInt_eq_toNat_cond]; rw [if_pos (by omega)]
  omega
theorem and255_rng (x : Int32) : 0 ≤ (x &&& 255).toInt ∧ (x &&& 255).toInt < 256 := by
  have := and_rng x 255 255 rfl (by decide); omega
theorem ch8 (x v w : Int32) (h1 : v = x &&& 255) (h2 : w = v.toUInt32.toUInt16.toUInt32.toInt32) : 0 ≤ w.toInt ∧ w.toInt < 256 := by
  subst h1 h2; rw [i2c_mask]; exact and255_rng x
theorem bool_ok {z : Int32} (h : z = 0 ∨ z = 1) : narrow .boolean (.int z) = .int z ∧ fits .boolean (.int z) = true ∧ nar .boolean z = z := by
  rcases h with rfl | rfl <;> exact ⟨rfl, rfl, rfl⟩
theorem ref_ok {v : Value} (C : String) (h : v.isRef = true) : narrow (.object C) v = v ∧ fits (.object C) v = true := by
  rcases ref_cases h with rfl | ⟨r, rfl⟩ <;> exact ⟨rfl, rfl⟩
theorem rem_rng (x m : Int32) (hx : 0 ≤ x.toInt) (hm : 0 < m.toInt) : 0 ≤ (x % m).toInt ∧ (x % m).toInt < m.toInt := by
  rw [Int32.toInt_mod, Int.tmod_eq_emod_of_nonneg hx]
  exact ⟨Int.emod_nonneg _ (by omega), Int.emod_lt_of_pos _ hm⟩
theorem and31_rem {x v w m : Int32} (h1 : v = x &&& 2147483647) (h2 : w = v % m) (hm : 0 < m.toInt) : 0 ≤ w.toInt ∧ w.toInt < m.toInt := by
  subst h1 h2; exact rem_rng _ _ (and_rng x 2147483647 2147483647 rfl (by decide)).1 hm
/-- compact strings are on -/
def Cst (Z : State) : Prop := ∃ cz : Int32, Sta Z Z.heap "java/lang/String" "COMPACT_STRINGS" "Z" (.int cz) ∧ cz ≠ 0
theorem keepExt (K : Keep h h' []) : Ext h h' := ⟨K.1, fun x c q => K.2.1 x c q nin0⟩
theorem extKeep (E : Ext h h') : Keep h h' [] := (Keep.refl h []).ext E
end
end Jvm.GoKit

namespace Jvm.Pilot.@@N@@
open Jvm Jvm.ClassFile Sem Op Lib Jvm.Free Jvm.Stand Jvm.LawKit Jvm.RoadKit Jvm.GoKit Bundle Jvm.Pilot.@@N@@.Jvm.D
abbrev ELs : List (String × Nat) := consts_1
theorem hELs {Z : State} {a0 : Array Value} (hw : ∀ d ∈ tables_1, d.before a0 Z = true) : EW Z a0 ELs := EW.cons (wi hw 20 rfl) (by decide +kernel) (EW.nil)
theorem wS {Z : State} {a0 : Array Value} (hw : ∀ d ∈ tables_1, d.before a0 Z = true) : ∀ a ∈ Bundle.stringAtoms, a.before a0 Z = true := by
  intro d hd
  simp only [Bundle.stringAtoms, List.mem_cons, List.not_mem_nil, or_false] at hd
  rcases hd with rfl | rfl | rfl | rfl | rfl | rfl | rfl
  · exact (wi hw 9 rfl)
  · exact (wi hw 8 rfl)
  · exact (wi hw 21 rfl)
  · exact (wi hw 22 rfl)
  · exact (wi hw 23 rfl)
  · exact (wi hw 24 rfl)
  · exact (wi hw 25 rfl)
theorem iaLit {Z : State} {h : Heap} {b : Addr} {k : ClassId} {z : Int32} {vs : List Value} {cs : List Int32} (A : Arv Z h b k .byte z vs (.int 0)) (hz : z.toNatClampNeg = cs.length) (hv : vs = cs.map fun c => Value.int c.toInt8.toInt32) : IA Z h b .byte (cs.map fun c => c.toInt8.toInt32) := by
  obtain ⟨c, A1, -, e, hn, H, -⟩ := A
  refine ⟨c, A1, ?_, ?_⟩
  · apply Array.ext_getElem?
    intro i
    by_cases hi : i < c.slots.size
    · rw [H i hi, hv]
      have : i < cs.length := by omega
      simp [this]
    · rw [Array.getElem?_eq_none (by omega), Array.getElem?_eq_none (by simp; omega)]
  · rw [List.length_map, ← hz]
    have := z.toInt_lt
    simp only [Int32.toNatClampNeg]; omega
theorem latLit {Z : State} {h : Heap} {a b : Addr} {k : ClassId} {z : Int32} {vs : List Value} {cs : List Int32} (X : Exa Z h a "java/lang/String") (FC : Fld Z h a "java/lang/String" "coder" "B" (.int 0)) (FV : Fld Z h a "java/lang/String" "value" "[B" (.ref b)) (A : Arv Z h b k .byte z vs (.int 0)) (hz : z.toNatClampNeg = cs.length) (hv : vs = cs.map fun c => Value.int c.toInt8.toInt32) (hl : ∀ c ∈ cs, 0 ≤ c.toInt ∧ c.toInt < 256) : Lat Z h a cs :=
  ⟨X, ⟨b, FV, FC, iaLit A hz hv⟩, hl⟩
theorem sh0 (x : Int32) : x >>> ((0 : Int32) &&& 31) = x := by rw [show ((0 : Int32) &&& 31) = 0 from rfl]; exact Int32.shiftRight_zero
theorem d10_0 : decode jdk_52_method_15_code 0 = .ok (.iload_n 1, 1) := by decide +kernel
theorem d10_1 : decode jdk_52_method_15_code 1 = .ok (.aload_n 0, 1) := by decide +kernel
theorem d10_2 : decode jdk_52_method_15_code 2 = .ok (.arraylength, 1) := by decide +kernel
theorem d10_3 : decode jdk_52_method_15_code 3 = .ok (.isub, 1) := by decide +kernel
theorem d10_4 : decode jdk_52_method_15_code 4 = .ok (.bipush 31, 2) := by decide +kernel
theorem d10_6 : decode jdk_52_method_15_code 6 = .ok (.iushr, 1) := by decide +kernel
theorem d10_7 : decode jdk_52_method_15_code 7 = .ok (.i2b, 1) := by decide +kernel
theorem d10_8 : decode jdk_52_method_15_code 8 = .ok (.ireturn, 1) := by decide +kernel
theorem pn_java_lang_StringUTF16 : plainName "java/lang/StringUTF16" = true := by first | (simp [plainName, overriddenIn]; done) | decide +kernel
abbrev rm_con_coderLen : Room := { frames := 0, cells := 0, slots := 0, locals := 0 }
set_option maxRecDepth 65536 in
set_option maxHeartbeats 40000000 in
theorem con_coderLen (l : Launch) {Z : State} {a0 : Array Value} (hw : ∀ d ∈ tables_1, d.before a0 Z = true) {n0 : Nat} {h0 : Heap} {d : Addr} {xs : List Int32} (A : IA Z h0 d .byte xs) :
    Con l Z true false ELs n0 (⟨"java/lang/StringUTF16", "coderFromArrayLen", "([BI)B"⟩ : MethodName) jdk_52_method_15_code 2 (some .byte) rm_con_coderLen [] #[(.ref d), (.int xs.length.toInt32)] h0 [] (fun v h => v = some (.int 0) ∧ h = h0) := by
  refine Con.intro (plainFor_of_name pn_java_lang_StringUTF16) (hELs hw) ?_
  intro p e s m below meth c hh G
  refine castRun (g' := mkF m 0 #[.val (.ref d), .val (.int xs.length.toInt32)] []) (by first | rfl | (simp [entryFrame, mkF, argsToLocals, Value.category, maxLocals]; done)) ?_
  refine GoKit.iloadN G d10_0 rfl (pc' := 1) rfl ?_
  refine GoKit.aloadN G d10_1 rfl rfl (pc' := 2) rfl ?_
  refine GoKit.arrlenI G d10_2 A (z := xs.length.toInt32) rfl (pc' := 3) rfl ?_
  refine GoKit.isub G d10_3 (pc' := 4) rfl (fun v1 hqv1 => ?_)
  refine GoKit.bipush G (31 : Int32) d10_4 rfl (pc' := 6) rfl ?_
  refine GoKit.iushr G d10_6 (pc' := 7) rfl (fun v2 hqv2 => ?_)
  refine GoKit.i2b G d10_7 (pc' := 8) rfl (fun v3 hqv3 => ?_)
  refine GoKit.retNar G d10_8 (t := .byte) rfl (by simp) (by decide) (by decide) ?_
  exact ⟨by subst_vars; rw [show (xs.length.toInt32 - xs.length.toInt32 : Int32) = 0 from Int32.sub_self _]; rfl, rfl⟩
theorem lat_le {c : Int32} (h : 0 ≤ c.toInt ∧ c.toInt < 256) : ¬ (255 : Int32) < c := by rw [Int32.lt_iff_toInt_lt]; show ¬ (255 : Int) < c.toInt; omega
theorem d9_3 : decode jdk_52_method_21_code 3 = .ok (.iload 5, 2) := by decide +kernel
theorem d9_5 : decode jdk_52_method_21_code 5 = .ok (.iload 4, 2) := by decide +kernel
theorem d9_7 : decode jdk_52_method_21_code 7 = .ok (.if_icmp .ge 37, 3) := by decide +kernel
theorem d9_44 : decode jdk_52_method_21_code 44 = .ok (.iload 4, 2) := by decide +kernel
theorem d9_46 : decode jdk_52_method_21_code 46 = .ok (.ireturn, 1) := by decide +kernel
theorem d9_10 : decode jdk_52_method_21_code 10 = .ok (.aload_n 0, 1) := by decide +kernel
theorem d9_11 : decode jdk_52_method_21_code 11 = .ok (.iload_n 1, 1) := by decide +kernel
theorem d9_12 : decode jdk_52_method_21_code 12 = .ok (.caload, 1) := by decide +kernel
theorem d9_13 : decode jdk_52_method_21_code 13 = .ok (.istore 6, 2) := by decide +kernel
theorem d9_15 : decode jdk_52_method_21_code 15 = .ok (.iload 6, 2) := by decide +kernel
theorem d9_17 : decode jdk_52_method_21_code 17 = .ok (.sipush 255, 3) := by decide +kernel
theorem d9_20 : decode jdk_52_method_21_code 20 = .ok (.if_icmp .le 6, 3) := by decide +kernel
theorem d9_26 : decode jdk_52_method_21_code 26 = .ok (.aload_n 2, 1) := by decide +kernel
theorem d9_27 : decode jdk_52_method_21_code 27 = .ok (.iload_n 3, 1) := by decide +kernel
theorem d9_28 : decode jdk_52_method_21_code 28 = .ok (.iload 6, 2) := by decide +kernel
theorem d9_30 : decode jdk_52_method_21_code 30 = .ok (.i2b, 1) := by decide +kernel
theorem d9_31 : decode jdk_52_method_21_code 31 = .ok (.bastore, 1) := by decide +kernel
theorem d9_32 : decode jdk_52_method_21_code 32 = .ok (.iinc 1 1, 3) := by decide +kernel
theorem d9_35 : decode jdk_52_method_21_code 35 = .ok (.iinc 3 1, 3) := by decide +kernel
theorem d9_38 : decode jdk_52_method_21_code 38 = .ok (.iinc 5 1, 3) := by decide +kernel
theorem d9_41 : decode jdk_52_method_21_code 41 = .ok (.goto (-38), 3) := by decide +kernel
theorem d9_0 : decode jdk_52_method_21_code 0 = .ok (.iconst 0, 1) := by decide +kernel
theorem d9_1 : decode jdk_52_method_21_code 1 = .ok (.istore 5, 2) := by decide +kernel
abbrev rm_con_compress5 : Room := { frames := 0, cells := 0, slots := 0, locals := 0 }
set_option maxRecDepth 65536 in
set_option maxHeartbeats 40000000 in
theorem con_compress5 (l : Launch) {Z : State} {a0 : Array Value} (hw : ∀ d ∈ tables_1, d.before a0 Z = true) {n0 : Nat} {h0 : Heap} {b d : Addr} {cs : List Int32} (A : IA Z h0 b .char cs) (D : IA Z h0 d .byte (List.replicate cs.length 0)) (hlat : ∀ c ∈ cs, 0 ≤ c.toInt ∧ c.toInt < 256) :
    Con l Z true false ELs n0 (⟨"java/lang/StringUTF16", "compress", "([CI[BII)I"⟩ : MethodName) jdk_52_method_21_code 7 (some .int) rm_con_compress5 [] #[(.ref b), (.int 0), (.ref d), (.int 0), (.int cs.length.toInt32)] h0 [d] (fun v h => v = some (.int cs.length.toInt32) ∧ IA Z h d .byte (cs.map fun c => c.toInt8.toInt32)) := by
  refine Con.intro (plainFor_of_name pn_java_lang_StringUTF16) (hELs hw) ?_
  intro p e s m below meth c hh G
  refine castRun (g' := mkF m 0 #[.val (.ref b), .val (.int 0), .val (.ref d), .val (.int 0), .val (.int cs.length.toInt32), .unset, .unset] []) (by first | rfl | (simp [entryFrame, mkF, argsToLocals, Value.category, maxLocals]; done)) ?_
  have hl := A.len
  have loop : ∀ (k i : Nat) (h : Heap) (sl : Slot), i + k = cs.length → IA Z h b .char cs → IA Z h d .byte ((cs.take i).map (fun c => c.toInt8.toInt32) ++ List.replicate k 0) → (sl = .unset ∨ ∃ w, sl = .val w ∧ w.category = 1) →
      Run p l e rm_con_compress5 s m #[.ref b, .int 0, .ref d, .int 0, .int cs.length.toInt32] below meth c Z true false ELs n0 [d] (fun v h => v = some (.int cs.length.toInt32) ∧ IA Z h d .byte (cs.map fun c => c.toInt8.toInt32)) h [d] 0 0 (mkF m 3 #[.val (.ref b), .val (.int i.toInt32), .val (.ref d), .val (.int i.toInt32), .val (.int cs.length.toInt32), .val (.int i.toInt32), sl] []) := by
    intro k; induction k with
    | zero =>
      intro i h sl hik A D hsl
      have hi : i = cs.length := by omega
      subst hi
      refine GoKit.iload G d9_3 rfl (pc' := 5) rfl ?_
      refine GoKit.iload G d9_5 rfl (pc' := 7) rfl ?_
      refine GoKit.icmp_ge_t G d9_7 Int32.lt_irrefl (by decide) (pc' := 44) rfl ?_
      refine GoKit.iload G d9_44 rfl (pc' := 46) rfl ?_
      refine GoKit.retInt G d9_46 rfl (by decide) (by decide) ?_
      exact ⟨rfl, by simpa using D⟩
    | succ k ih =>
      intro i h sl hik A D hsl
      have hi : i < cs.length := by omega
      obtain ⟨ch, hch⟩ : ∃ ch, cs[i]? = some ch := ⟨cs[i], List.getElem?_eq_getElem hi⟩
      have hcl := hlat ch (List.mem_of_getElem? hch)
      refine GoKit.iload G d9_3 rfl (pc' := 5) rfl ?_
      refine GoKit.iload G d9_5 rfl (pc' := 7) rfl ?_
      refine GoKit.icmp_ge_f G d9_7 ((toI_lt (by omega) (by omega)).mpr hi) (pc' := 10) rfl ?_
      refine GoKit.aloadN G d9_10 rfl rfl (pc' := 11) rfl ?_
      refine GoKit.iloadN G d9_11 rfl (pc' := 12) rfl ?_
      refine GoKit.caloadI G d9_12 A (i := i) (toI_clamp (by omega)) (toI_nn (by omega)) hch (pc' := 13) rfl ?_
      refine GoKit.istore G d9_13 (Ls' := #[.val (.ref b), .val (.int i.toInt32), .val (.ref d), .val (.int i.toInt32), .val (.int cs.length.toInt32), .val (.int i.toInt32), .val (.int ch)]) (XS.store1 rfl hsl rfl) (pc' := 15) rfl ?_
      refine GoKit.iload G d9_15 rfl (pc' := 17) rfl ?_
      refine GoKit.sipush G (255 : Int32) d9_17 rfl (pc' := 20) rfl ?_
      refine GoKit.icmp_le_t G d9_20 (lat_le hcl) (by decide) (pc' := 26) rfl ?_
      refine GoKit.aloadN G d9_26 rfl rfl (pc' := 27) rfl ?_
      refine GoKit.iloadN G d9_27 rfl (pc' := 28) rfl ?_
      refine GoKit.iload G d9_28 rfl (pc' := 30) rfl ?_
      refine GoKit.i2b G d9_30 (pc' := 31) rfl (fun v1 hqv1 => ?_)
      refine GoKit.bastI G d9_31 D (i := i) (toI_clamp (by omega)) (toI_nn (by omega)) (by simp; omega) (x' := ch.toInt8.toInt32) (by rw [hqv1]; exact lo8_nar _) (List.Mem.head _) (pc' := 32) rfl (fun h' W' D' => ?_)
      rw [set_fill _ cs i k ch hch] at D'
      refine GoKit.iinc G (1 : Int32) d9_32 rfl rfl (Ls' := #[.val (.ref b), .val (.int (i.toInt32 + (1 : Int32))), .val (.ref d), .val (.int i.toInt32), .val (.int cs.length.toInt32), .val (.int i.toInt32), .val (.int ch)]) rfl (pc' := 35) rfl ?_
      generalize hqv2 : (i.toInt32 + (1 : Int32)) = v2
      refine GoKit.iinc G (1 : Int32) d9_35 rfl rfl (Ls' := #[.val (.ref b), .val (.int v2), .val (.ref d), .val (.int (i.toInt32 + (1 : Int32))), .val (.int cs.length.toInt32), .val (.int i.toInt32), .val (.int ch)]) rfl (pc' := 38) rfl ?_
      generalize hqv3 : (i.toInt32 + (1 : Int32)) = v3
      refine GoKit.iinc G (1 : Int32) d9_38 rfl rfl (Ls' := #[.val (.ref b), .val (.int v2), .val (.ref d), .val (.int v3), .val (.int cs.length.toInt32), .val (.int (i.toInt32 + (1 : Int32))), .val (.int ch)]) rfl (pc' := 41) rfl ?_
      generalize hqv4 : (i.toInt32 + (1 : Int32)) = v4
      refine GoKit.goto G d9_41 (by decide) (pc' := 3) rfl ?_
      rw [toI_succ] at hqv2; subst hqv2
      rw [toI_succ] at hqv3; subst hqv3
      rw [toI_succ] at hqv4; subst hqv4
      exact ih (i + 1) h' (.val (.int ch)) (by omega) (A.other W' (IA.neTy A D (by decide))) D' (Or.inr ⟨_, rfl, rfl⟩)
  refine GoKit.iconst G (0 : Int32) d9_0 rfl (pc' := 1) rfl ?_
  refine GoKit.istore G d9_1 (Ls' := #[.val (.ref b), .val (.int (0 : Int32)), .val (.ref d), .val (.int (0 : Int32)), .val (.int cs.length.toInt32), .val (.int (0 : Int32)), .unset]) rfl (pc' := 3) rfl ?_
  exact loop cs.length 0 h0 .unset (by omega) A (by simpa using D) (Or.inl rfl)
theorem d8_0 : decode jdk_52_method_16_code 0 = .ok (.iload_n 2, 1) := by decide +kernel
theorem d8_1 : decode jdk_52_method_16_code 1 = .ok (.newarray .byte, 2) := by decide +kernel
theorem d8_3 : decode jdk_52_method_16_code 3 = .ok (.astore_n 3, 1) := by decide +kernel
theorem d8_4 : decode jdk_52_method_16_code 4 = .ok (.aload_n 0, 1) := by decide +kernel
theorem d8_5 : decode jdk_52_method_16_code 5 = .ok (.iload_n 1, 1) := by decide +kernel
theorem d8_6 : decode jdk_52_method_16_code 6 = .ok (.aload_n 3, 1) := by decide +kernel
theorem d8_7 : decode jdk_52_method_16_code 7 = .ok (.iconst 0, 1) := by decide +kernel
theorem d8_8 : decode jdk_52_method_16_code 8 = .ok (.iload_n 2, 1) := by decide +kernel
theorem d8_9 : decode jdk_52_method_16_code 9 = .ok (.invokestatic 115, 3) := by decide +kernel
theorem pd_0 : parseMethodDescriptor "([CI[BII)I" = some ⟨[(.array .char), .int, (.array .byte), .int, .int], some .int⟩ := by decide +kernel
theorem d8_12 : decode jdk_52_method_16_code 12 = .ok (.istore 4, 2) := by decide +kernel
theorem d8_14 : decode jdk_52_method_16_code 14 = .ok (.iload 4, 2) := by decide +kernel
theorem d8_16 : decode jdk_52_method_16_code 16 = .ok (.iload_n 2, 1) := by decide +kernel
theorem d8_17 : decode jdk_52_method_16_code 17 = .ok (.if_icmp .eq 40, 3) := by decide +kernel
theorem d8_57 : decode jdk_52_method_16_code 57 = .ok (.aload_n 3, 1) := by decide +kernel
theorem d8_58 : decode jdk_52_method_16_code 58 = .ok (.areturn, 1) := by decide +kernel
abbrev rm_con_compress3 : Room := { frames := 1, cells := 1, slots := 41, locals := 18 }
set_option maxRecDepth 65536 in
set_option maxHeartbeats 40000000 in
theorem con_compress3 (l : Launch) {Z : State} {a0 : Array Value} (hw : ∀ d ∈ tables_1, d.before a0 Z = true) {n0 : Nat} {h0 : Heap} {b : Addr} {cs : List Int32} (A : IA Z h0 b .char cs) (hcap : cs.length ≤ 41) (hlat : ∀ c ∈ cs, 0 ≤ c.toInt ∧ c.toInt < 256) :
    Con l Z true false ELs n0 (⟨"java/lang/StringUTF16", "compress", "([CII)[B"⟩ : MethodName) jdk_52_method_16_code 6 (some (.array .byte)) rm_con_compress3 [] #[(.ref b), (.int 0), (.int cs.length.toInt32)] h0 [] (fun v h => ∃ d, v = some (.ref d) ∧ IA Z h d .byte (cs.map fun c => c.toInt8.toInt32)) := by
  refine Con.intro (plainFor_of_name pn_java_lang_StringUTF16) (hELs hw) ?_
  intro p e s m below meth c hh G
  refine castRun (g' := mkF m 0 #[.val (.ref b), .val (.int 0), .val (.int cs.length.toInt32), .unset, .unset, .unset] []) (by first | rfl | (simp [entryFrame, mkF, argsToLocals, Value.category, maxLocals]; done)) ?_
  have hl := A.len
  refine GoKit.iloadN G d8_0 rfl (pc' := 1) rfl ?_
  refine GoKit.newbI G d8_1 (wi hw 21 rfl) (toI_nn hl) (k := cs.length) (cap := 41) (toI_clamp hl) hcap (by decide) (by decide) (by decide) (cells' := 1) (slots' := 41) rfl rfl (pc' := 3) rfl (fun h4 a1 ga1 E2 A3 => ?_)
  refine GoKit.astoreN G d8_3 rfl (Ls' := #[.val (.ref b), .val (.int 0), .val (.int cs.length.toInt32), .val (.ref a1), .unset, .unset]) rfl (pc' := 4) rfl ?_
  refine GoKit.aloadN G d8_4 rfl rfl (pc' := 5) rfl ?_
  refine GoKit.iloadN G d8_5 rfl (pc' := 6) rfl ?_
  refine GoKit.aloadN G d8_6 rfl rfl (pc' := 7) rfl ?_
  refine GoKit.iconst G (0 : Int32) d8_7 rfl (pc' := 8) rfl ?_
  refine GoKit.iloadN G d8_8 rfl (pc' := 9) rfl ?_
  refine GoKit.callStatic G d8_9 (wi hw 45 rfl) (wi hw 46 rfl) (wi hw 43 rfl) (wi hw 47 rfl) (by decide) (owc := [a1]) (W := 0) (argsL := [(.ref b), (.int 0), (.ref a1), (.int (0 : Int32)), (.int cs.length.toInt32)]) (rest := []) (con_compress5 l hw (A.ext E2) A3 hlat) rfl (lenOf pd_0 rfl) rfl (by decide) (Nat.le_of_eq rfl) (by decide) (by decide) (by decide) (by intro x hx; simp only [List.mem_cons, List.not_mem_nil, or_false] at hx ⊢; simp [hx]) (cells' := 1) (slots' := 41) rfl rfl (pc' := 12) rfl (fun r5 h8 q6 K7 => ?_)
  obtain ⟨rfl, A9⟩ := q6
  show Run _ _ _ _ _ _ _ _ _ _ _ _ _ _ _ _ _ _ _ _ _ (mkF m 12 #[.val (.ref b), .val (.int 0), .val (.int cs.length.toInt32), .val (.ref a1), .unset, .unset] [(.int cs.length.toInt32)])
  refine GoKit.istore G d8_12 (Ls' := #[.val (.ref b), .val (.int 0), .val (.int cs.length.toInt32), .val (.ref a1), .val (.int cs.length.toInt32), .unset]) rfl (pc' := 14) rfl ?_
  refine GoKit.iload G d8_14 rfl (pc' := 16) rfl ?_
  refine GoKit.iloadN G d8_16 rfl (pc' := 17) rfl ?_
  refine GoKit.icmp_eq_t G d8_17 rfl (by decide) (pc' := 57) rfl ?_
  refine GoKit.aloadN G d8_57 rfl rfl (pc' := 58) rfl ?_
  refine GoKit.retRef G rfl d8_58 rfl rfl rfl (by decide) (by decide) ?_
  exact ⟨_, rfl, A9⟩
theorem d3_0 : decode jdk_42_method_149_code 0 = .ok (.aload_n 0, 1) := by decide +kernel
theorem d3_1 : decode jdk_42_method_149_code 1 = .ok (.invokespecial 1, 3) := by decide +kernel
theorem d3_4 : decode jdk_42_method_149_code 4 = .ok (.iload_n 3, 1) := by decide +kernel
theorem d3_5 : decode jdk_42_method_149_code 5 = .ok (.ifCond .ne 22, 3) := by decide +kernel
theorem d3_27 : decode jdk_42_method_149_code 27 = .ok (.getstatic 38, 3) := by decide +kernel
theorem d3_30 : decode jdk_42_method_149_code 30 = .ok (.ifCond .eq 28, 3) := by decide +kernel
theorem d3_33 : decode jdk_42_method_149_code 33 = .ok (.aload_n 1, 1) := by decide +kernel
theorem d3_34 : decode jdk_42_method_149_code 34 = .ok (.iload_n 2, 1) := by decide +kernel
theorem d3_35 : decode jdk_42_method_149_code 35 = .ok (.iload_n 3, 1) := by decide +kernel
theorem d3_36 : decode jdk_42_method_149_code 36 = .ok (.invokestatic 177, 3) := by decide +kernel
theorem pd_1 : parseMethodDescriptor "([CII)[B" = some ⟨[(.array .char), .int, .int], some (.array .byte)⟩ := by decide +kernel
theorem d3_39 : decode jdk_42_method_149_code 39 = .ok (.astore 5, 2) := by decide +kernel
theorem d3_41 : decode jdk_42_method_149_code 41 = .ok (.aload_n 0, 1) := by decide +kernel
theorem d3_42 : decode jdk_42_method_149_code 42 = .ok (.aload 5, 2) := by decide +kernel
theorem d3_44 : decode jdk_42_method_149_code 44 = .ok (.iload_n 3, 1) := by decide +kernel
theorem d3_45 : decode jdk_42_method_149_code 45 = .ok (.invokestatic 47, 3) := by decide +kernel
theorem pd_2 : parseMethodDescriptor "([BI)B" = some ⟨[(.array .byte), .int], some .byte⟩ := by decide +kernel
theorem d3_48 : decode jdk_42_method_149_code 48 = .ok (.putfield 15, 3) := by decide +kernel
theorem d3_51 : decode jdk_42_method_149_code 51 = .ok (.aload_n 0, 1) := by decide +kernel
theorem d3_52 : decode jdk_42_method_149_code 52 = .ok (.aload 5, 2) := by decide +kernel
theorem d3_54 : decode jdk_42_method_149_code 54 = .ok (.putfield 9, 3) := by decide +kernel
theorem d3_57 : decode jdk_42_method_149_code 57 = .ok (.return_, 1) := by decide +kernel
theorem pn_java_lang_String : plainName "java/lang/String" = true := by first | (simp [plainName, overriddenIn]; done) | decide +kernel
abbrev rm_con_strInit4 : Room := { frames := 2, cells := 1, slots := 41, locals := 35 }
set_option maxRecDepth 65536 in
set_option maxHeartbeats 40000000 in
theorem con_strInit4 (l : Launch) {Z : State} {a0 : Array Value} (hw : ∀ d ∈ tables_1, d.before a0 Z = true) {n0 : Nat} {h0 : Heap} {a b : Addr} {cs : List Int32} (E : Exa Z h0 a "java/lang/String") (FV : Fld Z h0 a "java/lang/String" "value" "[B" .null) (FC : Fld Z h0 a "java/lang/String" "coder" "B" (.int 0)) (A : IA Z h0 b .char cs) (hcap : cs.length ≤ 41) (hlat : ∀ c ∈ cs, 0 ≤ c.toInt ∧ c.toInt < 256) (hne : cs ≠ []) (HC : Cst Z) :
    Con l Z true false ELs n0 (⟨"java/lang/String", "<init>", "([CIILjava/lang/Void;)V"⟩ : MethodName) jdk_42_method_149_code 6 none rm_con_strInit4 [] #[(.ref a), (.ref b), (.int 0), (.int cs.length.toInt32), .null] h0 [a] (fun v h => v = none ∧ Lat Z h a cs) := by
  refine Con.intro (plainFor_of_name pn_java_lang_String) (hELs hw) ?_
  intro p e s m below meth c hh G
  refine castRun (g' := mkF m 0 #[.val (.ref a), .val (.ref b), .val (.int 0), .val (.int cs.length.toInt32), .val .null, .unset] []) (by first | rfl | (simp [entryFrame, mkF, argsToLocals, Value.category, maxLocals]; done)) ?_
  obtain ⟨cz, SC, hcz⟩ := HC
  have hl := A.len
  have hz : ¬ cs.length.toInt32 = 0 := fun q => hne (List.length_eq_zero_iff.mp ((toI_eq (k := 0) hl (by decide)).mp q))
  refine GoKit.aloadN G d3_0 rfl rfl (pc' := 1) rfl ?_
  refine GoKit.initObj G d3_1 (wi hw 17 rfl) (wi hw 18 rfl) (wi hw 19 rfl) rfl (by decide) (W := 0) (Nat.le_of_eq rfl) (by decide) (pc' := 4) rfl ?_
  refine GoKit.iloadN G d3_4 rfl (pc' := 5) rfl ?_
  refine GoKit.if_ne_t G d3_5 hz (by decide) (pc' := 27) rfl ?_
  refine GoKit.gets G d3_27 (wi hw 40 rfl) Via.refl SC (pc' := 30) rfl ?_
  refine GoKit.if_eq_f G d3_30 hcz (pc' := 33) rfl ?_
  refine GoKit.aloadN G d3_33 rfl rfl (pc' := 34) rfl ?_
  refine GoKit.iloadN G d3_34 rfl (pc' := 35) rfl ?_
  refine GoKit.iloadN G d3_35 rfl (pc' := 36) rfl ?_
  refine GoKit.callStatic G d3_36 (wi hw 41 rfl) (wi hw 42 rfl) (wi hw 43 rfl) (wi hw 44 rfl) (by decide) (owc := []) (W := 0) (argsL := [(.ref b), (.int 0), (.int cs.length.toInt32)]) (rest := []) (con_compress3 l hw A hcap hlat) rfl (lenOf pd_1 rfl) rfl (by decide) (Nat.le_of_eq rfl) (by decide) (by decide) (by decide) (fun _ q => nomatch q) (cells' := 1) (slots' := 41) rfl rfl (pc' := 39) rfl (fun r1 h4 q2 K3 => ?_)
  obtain ⟨d5, rfl, A6⟩ := q2
  have ne7 := IA.ne A6 (E.keep K3) (wi hw 8 rfl)
  show Run _ _ _ _ _ _ _ _ _ _ _ _ _ _ _ _ _ _ _ _ _ (mkF m 39 #[.val (.ref a), .val (.ref b), .val (.int 0), .val (.int cs.length.toInt32), .val .null, .unset] [(.ref d5)])
  refine GoKit.astore G d3_39 rfl (Ls' := #[.val (.ref a), .val (.ref b), .val (.int 0), .val (.int cs.length.toInt32), .val .null, .val (.ref d5)]) rfl (pc' := 41) rfl ?_
  refine GoKit.aloadN G d3_41 rfl rfl (pc' := 42) rfl ?_
  refine GoKit.aload G d3_42 rfl rfl (pc' := 44) rfl ?_
  refine GoKit.iloadN G d3_44 rfl (pc' := 45) rfl ?_
  refine GoKit.callStaticP G d3_45 (wi hw 48 rfl) (wi hw 49 rfl) (wi hw 43 rfl) (wi hw 50 rfl) (by decide) (W := 1) (argsL := [(.ref d5), (.int cs.length.toInt32)]) (rest := [(.ref a)]) ((by simpa using con_coderLen l hw A6)) rfl (lenOf pd_2 rfl) rfl (by decide) (Nat.le_of_eq rfl) (by decide) (by decide) (by decide) (cells' := 1) (slots' := 41) rfl rfl (pc' := 48) rfl ?_
  show Run _ _ _ _ _ _ _ _ _ _ _ _ _ _ _ _ _ _ _ _ _ (mkF m 48 #[.val (.ref a), .val (.ref b), .val (.int 0), .val (.int cs.length.toInt32), .val .null, .val (.ref d5)] [(.int 0), (.ref a)])
  refine GoKit.putf G d3_48 (wi hw 27 rfl) Via.refl (FC.keep K3 nin0) (E.keep K3) (Or.inr ⟨(wi hw 23 rfl), rfl, rfl⟩) (wi hw 8 rfl) (ty := .byte) (by decide) rfl rfl (List.Mem.head _) (pc' := 51) rfl (fun h9 W8 => ?_)
  have F10 := ((FC.keep K3 nin0)).same W8
  refine GoKit.aloadN G d3_51 rfl rfl (pc' := 52) rfl ?_
  refine GoKit.aload G d3_52 rfl rfl (pc' := 54) rfl ?_
  refine GoKit.putf G d3_54 (wi hw 26 rfl) Via.refl ((FV.keep K3 nin0).other W8 (Or.inr (slot_ne (Or.inr (wi hw 22 rfl)) (Or.inr (wi hw 23 rfl)) (by decide) (by decide : _ = some (.array .byte)) (by decide : _ = some .byte)))) ((E.keep K3).wr W8) (Or.inr ⟨(wi hw 22 rfl), rfl, rfl⟩) (wi hw 8 rfl) (ty := (.array .byte)) (by decide) rfl rfl (List.Mem.head _) (pc' := 57) rfl (fun h12 W11 => ?_)
  have F13 := (((FV.keep K3 nin0).other W8 (Or.inr (slot_ne (Or.inr (wi hw 22 rfl)) (Or.inr (wi hw 23 rfl)) (by decide) (by decide : _ = some (.array .byte)) (by decide : _ = some .byte))))).same W11
  refine GoKit.retVoid G d3_57 rfl (by decide) (by decide) ?_
  exact ⟨rfl, (((E.keep K3).wr W8).wr W11), ⟨d5, F13, (F10.other W11 (Or.inr (slot_ne (Or.inr (wi hw 23 rfl)) (Or.inr (wi hw 22 rfl)) (by decide) (by decide : _ = some .byte) (by decide : _ = some (.array .byte))))), ((A6.other W8 ne7).other W11 ne7)⟩, hlat⟩
theorem d2_0 : decode jdk_42_method_3_code 0 = .ok (.aload_n 0, 1) := by decide +kernel
theorem d2_1 : decode jdk_42_method_3_code 1 = .ok (.aload_n 1, 1) := by decide +kernel
theorem d2_2 : decode jdk_42_method_3_code 2 = .ok (.iconst 0, 1) := by decide +kernel
theorem d2_3 : decode jdk_42_method_3_code 3 = .ok (.aload_n 1, 1) := by decide +kernel
theorem d2_4 : decode jdk_42_method_3_code 4 = .ok (.arraylength, 1) := by decide +kernel
theorem d2_5 : decode jdk_42_method_3_code 5 = .ok (.aconst_null, 1) := by decide +kernel
theorem d2_6 : decode jdk_42_method_3_code 6 = .ok (.invokespecial 27, 3) := by decide +kernel
theorem pd_3 : parseMethodDescriptor "([CIILjava/lang/Void;)V" = some ⟨[(.array .char), .int, .int, (.object "java/lang/Void")], none⟩ := by decide +kernel
theorem d2_9 : decode jdk_42_method_3_code 9 = .ok (.return_, 1) := by decide +kernel
abbrev rm_con_strInit : Room := { frames := 5, cells := 2, slots := 123, locals := 74 }
set_option maxRecDepth 65536 in
set_option maxHeartbeats 40000000 in
theorem con_strInit (l : Launch) {Z : State} {a0 : Array Value} (hw : ∀ d ∈ tables_1, d.before a0 Z = true) {n0 : Nat} {h0 : Heap} {a b : Addr} {cs : List Int32} (E : Exa Z h0 a "java/lang/String") (FV : Fld Z h0 a "java/lang/String" "value" "[B" .null) (FC : Fld Z h0 a "java/lang/String" "coder" "B" (.int 0)) (A : IA Z h0 b .char cs) (hcap : cs.length ≤ 41) (hlat : ∀ c ∈ cs, 0 ≤ c.toInt ∧ c.toInt < 256) (hne : cs ≠ []) (HC : Cst Z) :
    Con l Z true false ELs n0 (⟨"java/lang/String", "<init>", "([C)V"⟩ : MethodName) jdk_42_method_3_code 2 none rm_con_strInit [] #[(.ref a), (.ref b)] h0 [a] (fun v h => v = none ∧ Lat Z h a cs) := by
  refine Con.intro (plainFor_of_name pn_java_lang_String) (hELs hw) ?_
  intro p e s m below meth c hh G
  refine castRun (g' := mkF m 0 #[.val (.ref a), .val (.ref b)] []) (by first | rfl | (simp [entryFrame, mkF, argsToLocals, Value.category, maxLocals]; done)) ?_
  refine GoKit.aloadN G d2_0 rfl rfl (pc' := 1) rfl ?_
  refine GoKit.aloadN G d2_1 rfl rfl (pc' := 2) rfl ?_
  refine GoKit.iconst G (0 : Int32) d2_2 rfl (pc' := 3) rfl ?_
  refine GoKit.aloadN G d2_3 rfl rfl (pc' := 4) rfl ?_
  refine GoKit.arrlenI G d2_4 A (z := cs.length.toInt32) rfl (pc' := 5) rfl ?_
  refine GoKit.aconstNull G d2_5 (pc' := 6) rfl ?_
  refine GoKit.callSpecial G d2_6 rfl (wi hw 13 rfl) (wi hw 14 rfl) (wi hw 9 rfl) (wi hw 16 rfl) (by decide) (owc := [a]) (W := 0) (argsL := [(.ref b), (.int (0 : Int32)), (.int cs.length.toInt32), .null]) (rest := []) (con_strInit4 l hw E FV FC A hcap hlat hne HC) rfl (lenOf pd_3 rfl) rfl (by decide) (Nat.le_of_eq rfl) (by decide) (by decide) (by decide) (by intro x hx; simp only [List.mem_cons, List.not_mem_nil, or_false] at hx ⊢; simp [hx]) (cells' := 1) (slots' := 41) rfl rfl (pc' := 9) rfl (fun r1 h4 q2 K3 => ?_)
  obtain ⟨rfl, S5⟩ := q2
  show Run _ _ _ _ _ _ _ _ _ _ _ _ _ _ _ _ _ _ _ _ _ (mkF m 9 #[.val (.ref a), .val (.ref b)] [])
  refine GoKit.retVoid G d2_9 rfl (by decide) (by decide) ?_
  exact ⟨rfl, S5⟩
def b0 (c : Int32) : Int32 := c.toInt8.toInt32
def b1 (c : Int32) : Int32 := (c >>> ((8 : Int32) &&& 31)).toInt8.toInt32
def u16 : List Int32 → List Int32
  | [] => []
  | c :: cs => b0 c :: b1 c :: u16 cs
theorem u16_len : ∀ cs, (u16 cs).length = 2 * cs.length
  | [] => rfl
  | c :: cs => by simp only [u16, List.length_cons, u16_len cs]; omega
theorem u16_app : ∀ cs ds, u16 (cs ++ ds) = u16 cs ++ u16 ds
  | [], ds => rfl
  | c :: cs, ds => by simp only [List.cons_append, u16, u16_app cs ds]
theorem u16_get0 : ∀ (cs : List Int32) (i : Nat) (c : Int32), cs[i]? = some c → (u16 cs)[2 * i]? = some (b0 c) ∧ (u16 cs)[2 * i + 1]? = some (b1 c)
  | [], i, c, h => by cases h
  | d :: cs, 0, c, h => by
    have e : d = c := by simpa using h
    subst e; exact ⟨rfl, rfl⟩
  | d :: cs, i + 1, c, h => by
    have := u16_get0 cs i c (by simpa using h)
    rw [show 2 * (i + 1) = 2 * i + 1 + 1 from by omega]
    simpa [u16] using this
theorem u16_set (cs : List Int32) (i k : Nat) (c : Int32) (hc : cs[i]? = some c) : ((u16 (cs.take i) ++ List.replicate (2 * (k + 1)) 0).set (2 * i) (b0 c)).set (2 * i + 1) (b1 c) = u16 (cs.take (i + 1)) ++ List.replicate (2 * k) 0 := by
  have hi := (List.getElem?_eq_some_iff.mp hc).1
  have hl : (u16 (cs.take i)).length = 2 * i := by rw [u16_len]; simp; omega
  rw [List.take_add_one, hc, u16_app, List.set_append_right _ _ (by omega), List.set_append_right _ _ (by omega), hl, show 2 * i - 2 * i = 0 from by omega, show 2 * i + 1 - 2 * i = 1 from by omega, show 2 * (k + 1) = 2 * k + 1 + 1 from by omega, List.replicate_succ, List.replicate_succ]
  simp [u16]
theorem shl1 {i : Nat} (h : i < 2 ^ 30) : i.toInt32 <<< ((1 : Int32) &&& 31) = (2 * i).toInt32 := by
  apply Int32.toBitVec_inj.mp
  show (BitVec.ofNat 32 i) <<< (1 : Nat) = BitVec.ofNat 32 (2 * i)
  apply BitVec.eq_of_toNat_eq
  simp [BitVec.toNat_shiftLeft, Nat.shiftLeft_eq]
  omega
theorem shr1 {i : Nat} (h : i < 2 ^ 30) : (2 * i).toInt32 >>> ((1 : Int32) &&& 31) = i.toInt32 := by
  apply Int32.toBitVec_inj.mp
  show (BitVec.ofNat 32 (2 * i)).sshiftRight (1 : Nat) = BitVec.ofNat 32 i
  rw [BitVec.sshiftRight_eq_of_msb_false (by rw [BitVec.msb_eq_false_iff_two_mul_lt]; simp; omega)]
  apply BitVec.eq_of_toNat_eq
  simp [BitVec.toNat_ushiftRight, Nat.shiftRight_eq_div_pow]
  omega
theorem sx8 (x : BitVec 8) : (x.signExtend 32) &&& 255#32 = x.setWidth 32 := by
  revert x; decide +kernel
theorem u16_bv (c : BitVec 32) (h : c.toNat < 65536) : ((((((c.setWidth 8).signExtend 32) &&& 255#32) <<< 0) ||| (((((c.sshiftRight 8).setWidth 8).signExtend 32) &&& 255#32) <<< 8)).setWidth 16).setWidth 32 = c := by
  rw [sx8, sx8, BitVec.sshiftRight_eq_of_msb_false (by rw [BitVec.msb_eq_false_iff_two_mul_lt]; omega)]
  apply BitVec.eq_of_toNat_eq
  simp only [BitVec.toNat_setWidth, BitVec.toNat_or, BitVec.toNat_shiftLeft, BitVec.toNat_ushiftRight, Nat.shiftRight_eq_div_pow]
  generalize c.toNat = n at h
  have e1 : (n % 2 ^ 8 % 2 ^ 32) <<< 0 % 2 ^ 32 = n % 256 := by rw [Nat.shiftLeft_zero]; omega
  have e2 : (n / 2 ^ 8 % 2 ^ 8 % 2 ^ 32) <<< 8 % 2 ^ 32 = (n / 256) <<< 8 := by rw [Nat.shiftLeft_eq, Nat.shiftLeft_eq]; omega
  rw [e1, e2, Nat.or_comm, ← Nat.shiftLeft_add_eq_or_of_lt (by omega : n % 256 < 2 ^ 8), Nat.shiftLeft_eq]
  omega
theorem toNat16 {c : Int32} (h : 0 ≤ c.toInt ∧ c.toInt < 65536) : c.toBitVec.toNat < 65536 := by
  have h1 : c.toBitVec.toInt = c.toInt := rfl
  have h2 := BitVec.toInt_eq_toNat_cond c.toBitVec
  have := c.toBitVec.isLt
  split at h2 <;> omega
theorem sl0 (x : Int32) : (x <<< ((0 : Int32) &&& 31)).toBitVec = x.toBitVec <<< 0 := rfl
theorem sl8 (x : Int32) : (x <<< ((8 : Int32) &&& 31)).toBitVec = x.toBitVec <<< 8 := rfl
theorem sr8 (x : Int32) : (x >>> ((8 : Int32) &&& 31)).toBitVec = x.toBitVec.sshiftRight 8 := rfl
theorem u16_back {c : Int32} (h : 0 ≤ c.toInt ∧ c.toInt < 65536) : nar .char ((((b0 c &&& 255) <<< ((0 : Int32) &&& 31)) ||| ((b1 c &&& 255) <<< ((8 : Int32) &&& 31))).toUInt32.toUInt16.toUInt32.toInt32) = c := by
  have e := u16_bv c.toBitVec (toNat16 h)
  have n16 : ∀ x : Int32, nar .char (x.toUInt32.toUInt16.toUInt32.toInt32) = x.toUInt32.toUInt16.toUInt32.toInt32 := fun x => by simp only [nar, UInt32.toUInt32_toInt32, UInt16.toUInt16_toUInt32]
  rw [n16]
  apply Int32.toBitVec_inj.mp
  show ((((b0 c &&& 255) <<< ((0 : Int32) &&& 31)).toBitVec ||| ((b1 c &&& 255) <<< ((8 : Int32) &&& 31)).toBitVec).setWidth 16).setWidth 32 = c.toBitVec
  rw [sl0, sl8]
  show (((((((c.toBitVec).signExtend 8).signExtend 32) &&& 255#32) <<< 0) ||| (((((c >>> ((8 : Int32) &&& 31)).toBitVec.signExtend 8).signExtend 32) &&& 255#32) <<< 8)).setWidth 16).setWidth 32 = c.toBitVec
  rw [sr8, BitVec.signExtend_eq_setWidth_of_le _ (by decide : 8 ≤ 32), BitVec.signExtend_eq_setWidth_of_le _ (by decide : 8 ≤ 32)]
  exact e
theorem nar16 {c : Int32} (h : 0 ≤ c.toInt ∧ c.toInt < 65536) : nar .char c = c := by
  apply Int32.toBitVec_inj.mp
  have e := toNat16 h
  show ((c.toBitVec.setWidth 16).setWidth 32) = c.toBitVec
  apply BitVec.eq_of_toNat_eq
  simp
  omega
theorem coderU {n : Nat} (h1 : 0 < n) (h2 : n < 2 ^ 30) : nar .byte (((n.toInt32 - (2 * n).toInt32).toUInt32 >>> ((31 : Int32) &&& 31).toUInt32).toInt32.toInt8.toInt32) = 1 := by
  have e : (n.toInt32 - (2 * n).toInt32).toUInt32 >>> ((31 : Int32) &&& 31).toUInt32 = 1 := by
    apply UInt32.toBitVec_inj.mp
    show ((BitVec.ofNat 32 n) - (BitVec.ofNat 32 (2 * n))) >>> (31 : Nat) = 1#32
    apply BitVec.eq_of_toNat_eq
    rw [BitVec.toNat_ushiftRight, Nat.shiftRight_eq_div_pow, BitVec.toNat_sub]
    simp
    omega
  rw [e]; rfl
def U16 (Z : State) (h : Heap) (a : Addr) (cs : List Int32) : Prop := Exa Z h a "java/lang/String" ∧ (∃ b, Fld Z h a "java/lang/String" "value" "[B" (.ref b) ∧ Fld Z h a "java/lang/String" "coder" "B" (.int 1) ∧ IA Z h b .byte (u16 cs)) ∧ (∀ c ∈ cs, 0 ≤ c.toInt ∧ c.toInt < 65536) ∧ cs.length < 2 ^ 29
def Str (Z : State) (h : Heap) (a : Addr) (cs : List Int32) : Prop := Lat Z h a cs ∨ U16 Z h a cs
theorem str_keep {Z : State} {h h' : Heap} {a : Addr} {cs : List Int32} (S : Str Z h a cs) (K : Keep h h' []) : Str Z h' a cs := by
  rcases S with S | ⟨E, ⟨b, V, C, A⟩, l⟩
  · exact Or.inl (S.keep K)
  · exact Or.inr ⟨E.keep K, ⟨b, V.keep K nin0, C.keep K nin0, A.keep K nin0⟩, l⟩
theorem str_exa {Z : State} {h : Heap} {a : Addr} {cs : List Int32} (S : Str Z h a cs) : Exa Z h a "java/lang/String" := by
  rcases S with S | S
  · exact S.1
  · exact S.1
theorem str_len {Z : State} {h : Heap} {a : Addr} {cs : List Int32} (S : Str Z h a cs) : cs.length < 2 ^ 31 := by
  rcases S with ⟨-, ⟨b, -, -, A⟩, -⟩ | ⟨-, -, -, l⟩
  · have := A.len; simpa using this
  · omega
theorem str_ch {Z : State} {h : Heap} {a : Addr} {cs : List Int32} (S : Str Z h a cs) : ∀ c ∈ cs, 0 ≤ c.toInt ∧ c.toInt < 65536 := by
  rcases S with ⟨-, -, l⟩ | ⟨-, -, l, -⟩
  · intro c hc; have := l c hc; omega
  · exact l
theorem first_big : ∀ {cs : List Int32}, (∀ c ∈ cs, 0 ≤ c.toInt ∧ c.toInt < 65536) → ¬ (∀ c ∈ cs, 0 ≤ c.toInt ∧ c.toInt < 256) → ∃ (i : Nat) (c : Int32), cs[i]? = some c ∧ 255 < c.toInt ∧ ∀ j, j < i → ∀ d, cs[j]? = some d → 0 ≤ d.toInt ∧ d.toInt < 256
  | [], _, h => absurd (fun _ q => nomatch q) h
  | c :: cs, h1, h2 => by
    by_cases q : c.toInt < 256
    · obtain ⟨i, d, e1, e2, e3⟩ := first_big (cs := cs) (fun x hx => h1 x (List.Mem.tail _ hx)) (fun r => h2 fun x hx => by
        rcases List.mem_cons.mp hx with rfl | hx
        · exact ⟨(h1 _ (List.Mem.head _)).1, q⟩
        · exact r x hx)
      refine ⟨i + 1, d, by simpa using e1, e2, fun j hj x hx => ?_⟩
      cases j with
      | zero =>
        have : c = x := by simpa using hx
        subst this
        exact ⟨(h1 _ (List.Mem.head _)).1, q⟩
      | succ j => exact e3 j (by omega) x (by simpa using hx)
    · exact ⟨0, c, rfl, by omega, fun j hj => absurd hj (Nat.not_lt_zero j)⟩
def Ust (Z : State) : Prop := Sta Z Z.heap "java/lang/StringUTF16" "$assertionsDisabled" "Z" (.int 1) ∧ Sta Z Z.heap "java/lang/StringUTF16" "HI_BYTE_SHIFT" "I" (.int 0) ∧ Sta Z Z.heap "java/lang/StringUTF16" "LO_BYTE_SHIFT" "I" (.int 8)
theorem d20_0 : decode jdk_52_method_3_code 0 = .ok (.iload_n 0, 1) := by decide +kernel
theorem d20_1 : decode jdk_52_method_3_code 1 = .ok (.ifCond .ge 11, 3) := by decide +kernel
theorem d20_12 : decode jdk_52_method_3_code 12 = .ok (.iload_n 0, 1) := by decide +kernel
theorem d20_13 : decode jdk_52_method_3_code 13 = .ok (.ldc 20, 2) := by decide +kernel
theorem d20_15 : decode jdk_52_method_3_code 15 = .ok (.if_icmp .lt 40, 3) := by decide +kernel
theorem d20_55 : decode jdk_52_method_3_code 55 = .ok (.iload_n 0, 1) := by decide +kernel
theorem d20_56 : decode jdk_52_method_3_code 56 = .ok (.iconst 1, 1) := by decide +kernel
theorem d20_57 : decode jdk_52_method_3_code 57 = .ok (.ishl, 1) := by decide +kernel
theorem d20_58 : decode jdk_52_method_3_code 58 = .ok (.ireturn, 1) := by decide +kernel
abbrev rm_con_nbl : Room := { frames := 0, cells := 0, slots := 0, locals := 0 }
set_option maxRecDepth 65536 in
set_option maxHeartbeats 40000000 in
theorem con_nbl (l : Launch) {Z : State} {a0 : Array Value} (hw : ∀ d ∈ tables_1, d.before a0 Z = true) {n0 : Nat} {h0 : Heap} {n : Nat} (hn : n < 2 ^ 29) :
    Con l Z true false ELs n0 (⟨"java/lang/StringUTF16", "newBytesLength", "(I)I"⟩ : MethodName) jdk_52_method_3_code 1 (some .int) rm_con_nbl [] #[(.int n.toInt32)] h0 [] (fun v h => v = some (.int (2 * n).toInt32) ∧ h = h0) := by
  refine Con.intro (plainFor_of_name pn_java_lang_StringUTF16) (hELs hw) ?_
  intro p e s m below meth c hh G
  refine castRun (g' := mkF m 0 #[.val (.int n.toInt32)] []) (by first | rfl | (simp [entryFrame, mkF, argsToLocals, Value.category, maxLocals]; done)) ?_
  refine GoKit.iloadN G d20_0 rfl (pc' := 1) rfl ?_
  refine GoKit.if_ge_t G d20_1 (toI_nn (by omega)) (by decide) (pc' := 12) rfl ?_
  refine GoKit.iloadN G d20_12 rfl (pc' := 13) rfl ?_
  refine GoKit.ldcInt G d20_13 (wi hw 92 rfl) (pc' := 15) rfl ?_
  refine GoKit.icmp_lt_t G d20_15 ((toI_lt (k := 1073741823) (by omega) (by omega)).mpr (by omega)) (by decide) (pc' := 55) rfl ?_
  refine GoKit.iloadN G d20_55 rfl (pc' := 56) rfl ?_
  refine GoKit.iconst G (1 : Int32) d20_56 rfl (pc' := 57) rfl ?_
  refine GoKit.ishl G d20_57 (pc' := 58) rfl (fun v1 hqv1 => ?_)
  obtain rfl : v1 = (2 * n).toInt32 := by rw [hqv1]; exact shl1 (by omega)
  refine GoKit.retInt G d20_58 rfl (by decide) (by decide) ?_
  exact ⟨rfl, rfl⟩
theorem d19_0 : decode jdk_52_method_2_code 0 = .ok (.iload_n 0, 1) := by decide +kernel
theorem d19_1 : decode jdk_52_method_2_code 1 = .ok (.invokestatic 11, 3) := by decide +kernel
theorem pd_4 : parseMethodDescriptor "(I)I" = some ⟨[.int], some .int⟩ := by decide +kernel
theorem d19_4 : decode jdk_52_method_2_code 4 = .ok (.newarray .byte, 2) := by decide +kernel
theorem d19_6 : decode jdk_52_method_2_code 6 = .ok (.areturn, 1) := by decide +kernel
abbrev rm_con_nbf : Room := { frames := 1, cells := 1, slots := 82, locals := 12 }
set_option maxRecDepth 65536 in
set_option maxHeartbeats 40000000 in
theorem con_nbf (l : Launch) {Z : State} {a0 : Array Value} (hw : ∀ d ∈ tables_1, d.before a0 Z = true) {n0 : Nat} {h0 : Heap} {n : Nat} (hn : n ≤ 41) :
    Con l Z true true ELs n0 (⟨"java/lang/StringUTF16", "newBytesFor", "(I)[B"⟩ : MethodName) jdk_52_method_2_code 1 (some (.array .byte)) rm_con_nbf [] #[(.int n.toInt32)] h0 [] (fun v h => ∃ d, v = some (.ref d) ∧ IA Z h d .byte (List.replicate (2 * n) 0)) := by
  refine Con.intro (plainFor_of_name pn_java_lang_StringUTF16) (hELs hw) ?_
  intro p e s m below meth c hh G
  refine castRun (g' := mkF m 0 #[.val (.int n.toInt32)] []) (by first | rfl | (simp [entryFrame, mkF, argsToLocals, Value.category, maxLocals]; done)) ?_
  refine GoKit.iloadN G d19_0 rfl (pc' := 1) rfl ?_
  refine GoKit.callStaticP G d19_1 (wi hw 89 rfl) (wi hw 90 rfl) (wi hw 43 rfl) (wi hw 91 rfl) (by decide) (W := 0) (argsL := [(.int n.toInt32)]) (rest := []) (con_nbl l hw (by omega)) rfl (lenOf pd_4 rfl) rfl (by decide) (Nat.le_of_eq rfl) (by decide) (by decide) (by decide) (cells' := 0) (slots' := 0) rfl rfl (pc' := 4) rfl ?_
  show Run _ _ _ _ _ _ _ _ _ _ _ _ _ _ _ _ _ _ _ _ _ (mkF m 4 #[.val (.int n.toInt32)] [(.int (2 * n).toInt32)])
  refine GoKit.newbI G d19_4 (wi hw 21 rfl) (toI_nn (by omega)) (k := 2 * n) (cap := 82) (toI_clamp (by omega)) (by omega) (by decide) (by decide) (by decide) (cells' := 1) (slots' := 82) rfl rfl (pc' := 6) rfl (fun h4 a1 ga1 E2 A3 => ?_)
  refine GoKit.retOwn G (List.Mem.head _) (fun q => nomatch q) d19_6 rfl rfl (by decide) (by decide) ?_
  exact ⟨_, rfl, A3⟩
theorem d21_0 : decode jdk_52_method_4_code 0 = .ok (.getstatic 44, 3) := by decide +kernel
theorem d21_3 : decode jdk_52_method_4_code 3 = .ok (.ifCond .ne 25, 3) := by decide +kernel
theorem d21_28 : decode jdk_52_method_4_code 28 = .ok (.iload_n 1, 1) := by decide +kernel
theorem d21_29 : decode jdk_52_method_4_code 29 = .ok (.iconst 1, 1) := by decide +kernel
theorem d21_30 : decode jdk_52_method_4_code 30 = .ok (.ishl, 1) := by decide +kernel
theorem d21_31 : decode jdk_52_method_4_code 31 = .ok (.istore_n 1, 1) := by decide +kernel
theorem d21_32 : decode jdk_52_method_4_code 32 = .ok (.aload_n 0, 1) := by decide +kernel
theorem d21_33 : decode jdk_52_method_4_code 33 = .ok (.iload_n 1, 1) := by decide +kernel
theorem d21_34 : decode jdk_52_method_4_code 34 = .ok (.iinc 1 1, 3) := by decide +kernel
theorem d21_37 : decode jdk_52_method_4_code 37 = .ok (.iload_n 2, 1) := by decide +kernel
theorem d21_38 : decode jdk_52_method_4_code 38 = .ok (.getstatic 59, 3) := by decide +kernel
theorem d21_41 : decode jdk_52_method_4_code 41 = .ok (.ishr, 1) := by decide +kernel
theorem d21_42 : decode jdk_52_method_4_code 42 = .ok (.i2b, 1) := by decide +kernel
theorem d21_43 : decode jdk_52_method_4_code 43 = .ok (.bastore, 1) := by decide +kernel
theorem d21_44 : decode jdk_52_method_4_code 44 = .ok (.aload_n 0, 1) := by decide +kernel
theorem d21_45 : decode jdk_52_method_4_code 45 = .ok (.iload_n 1, 1) := by decide +kernel
theorem d21_46 : decode jdk_52_method_4_code 46 = .ok (.iload_n 2, 1) := by decide +kernel
theorem d21_47 : decode jdk_52_method_4_code 47 = .ok (.getstatic 63, 3) := by decide +kernel
theorem d21_50 : decode jdk_52_method_4_code 50 = .ok (.ishr, 1) := by decide +kernel
theorem d21_51 : decode jdk_52_method_4_code 51 = .ok (.i2b, 1) := by decide +kernel
theorem d21_52 : decode jdk_52_method_4_code 52 = .ok (.bastore, 1) := by decide +kernel
theorem d21_53 : decode jdk_52_method_4_code 53 = .ok (.return_, 1) := by decide +kernel
abbrev rm_con_putChar : Room := { frames := 0, cells := 0, slots := 0, locals := 0 }
set_option maxRecDepth 65536 in
set_option maxHeartbeats 40000000 in
theorem con_putChar (l : Launch) {Z : State} {a0 : Array Value} (hw : ∀ d ∈ tables_1, d.before a0 Z = true) {n0 : Nat} {h0 : Heap} {b : Addr} {ys : List Int32} {i : Nat} {c1 : Int32} (A : IA Z h0 b .byte ys) (hi : 2 * i + 1 < ys.length) (HU : Ust Z) :
    Con l Z true false ELs n0 (⟨"java/lang/StringUTF16", "putChar", "([BII)V"⟩ : MethodName) jdk_52_method_4_code 3 none rm_con_putChar [] #[(.ref b), (.int i.toInt32), (.int c1)] h0 [b] (fun v h => v = none ∧ IA Z h b .byte ((ys.set (2 * i) (b0 c1)).set (2 * i + 1) (b1 c1))) := by
  refine Con.intro (plainFor_of_name pn_java_lang_StringUTF16) (hELs hw) ?_
  intro p e s m below meth c hh G
  refine castRun (g' := mkF m 0 #[.val (.ref b), .val (.int i.toInt32), .val (.int c1)] []) (by first | rfl | (simp [entryFrame, mkF, argsToLocals, Value.category, maxLocals]; done)) ?_
  have hl := A.len
  refine GoKit.gets G d21_0 (wi hw 96 rfl) Via.refl HU.1 (pc' := 3) rfl ?_
  refine GoKit.if_ne_t G d21_3 (by decide) (by decide) (pc' := 28) rfl ?_
  refine GoKit.iloadN G d21_28 rfl (pc' := 29) rfl ?_
  refine GoKit.iconst G (1 : Int32) d21_29 rfl (pc' := 30) rfl ?_
  refine GoKit.ishl G d21_30 (pc' := 31) rfl (fun v1 hqv1 => ?_)
  obtain rfl : v1 = (2 * i).toInt32 := by rw [hqv1]; exact shl1 (by omega)
  refine GoKit.istoreN G d21_31 (Ls' := #[.val (.ref b), .val (.int (2 * i).toInt32), .val (.int c1)]) rfl (pc' := 32) rfl ?_
  refine GoKit.aloadN G d21_32 rfl rfl (pc' := 33) rfl ?_
  refine GoKit.iloadN G d21_33 rfl (pc' := 34) rfl ?_
  refine GoKit.iinc G (1 : Int32) d21_34 rfl rfl (Ls' := #[.val (.ref b), .val (.int ((2 * i).toInt32 + (1 : Int32))), .val (.int c1)]) rfl (pc' := 37) rfl ?_
  generalize hqv2 : ((2 * i).toInt32 + (1 : Int32)) = v2
  rw [toI_succ] at hqv2; subst hqv2
  refine GoKit.iloadN G d21_37 rfl (pc' := 38) rfl ?_
  refine GoKit.gets G d21_38 (wi hw 97 rfl) Via.refl HU.2.1 (pc' := 41) rfl ?_
  refine GoKit.ishr G d21_41 (pc' := 42) rfl (fun v3 hqv3 => ?_)
  refine GoKit.i2b G d21_42 (pc' := 43) rfl (fun v4 hqv4 => ?_)
  refine GoKit.bastI G d21_43 A (i := 2 * i) (toI_clamp (by omega)) (toI_nn (by omega)) (by omega) (x' := b0 c1) (by subst_vars; rw [sh0]; first | rfl | exact lo8_nar _) (List.Mem.head _) (pc' := 44) rfl (fun h7 W5 A6 => ?_)
  refine GoKit.aloadN G d21_44 rfl rfl (pc' := 45) rfl ?_
  refine GoKit.iloadN G d21_45 rfl (pc' := 46) rfl ?_
  refine GoKit.iloadN G d21_46 rfl (pc' := 47) rfl ?_
  refine GoKit.gets G d21_47 (wi hw 98 rfl) Via.refl HU.2.2 (pc' := 50) rfl ?_
  refine GoKit.ishr G d21_50 (pc' := 51) rfl (fun v8 hqv8 => ?_)
  refine GoKit.i2b G d21_51 (pc' := 52) rfl (fun v9 hqv9 => ?_)
  refine GoKit.bastI G d21_52 A6 (i := 2 * i + 1) (toI_clamp (by omega)) (toI_nn (by omega)) (by rw [List.length_set]; omega) (x' := b1 c1) (by subst_vars; rw [show ((c1 >>> ((8 : Int32) &&& 31)).toInt8.toInt32) = b1 c1 from rfl]; first | rfl | exact lo8_nar _) (List.Mem.head _) (pc' := 53) rfl (fun h12 W10 A11 => ?_)
  refine GoKit.retVoid G d21_53 rfl (by decide) (by decide) ?_
  exact ⟨rfl, A11⟩
theorem d22_0 : decode jdk_52_method_5_code 0 = .ok (.getstatic 44, 3) := by decide +kernel
theorem d22_3 : decode jdk_52_method_5_code 3 = .ok (.ifCond .ne 25, 3) := by decide +kernel
theorem d22_28 : decode jdk_52_method_5_code 28 = .ok (.iload_n 1, 1) := by decide +kernel
theorem d22_29 : decode jdk_52_method_5_code 29 = .ok (.iconst 1, 1) := by decide +kernel
theorem d22_30 : decode jdk_52_method_5_code 30 = .ok (.ishl, 1) := by decide +kernel
theorem d22_31 : decode jdk_52_method_5_code 31 = .ok (.istore_n 1, 1) := by decide +kernel
theorem d22_32 : decode jdk_52_method_5_code 32 = .ok (.aload_n 0, 1) := by decide +kernel
theorem d22_33 : decode jdk_52_method_5_code 33 = .ok (.iload_n 1, 1) := by decide +kernel
theorem d22_34 : decode jdk_52_method_5_code 34 = .ok (.iinc 1 1, 3) := by decide +kernel
theorem d22_37 : decode jdk_52_method_5_code 37 = .ok (.baload, 1) := by decide +kernel
theorem d22_38 : decode jdk_52_method_5_code 38 = .ok (.sipush 255, 3) := by decide +kernel
theorem d22_41 : decode jdk_52_method_5_code 41 = .ok (.iand, 1) := by decide +kernel
theorem d22_42 : decode jdk_52_method_5_code 42 = .ok (.getstatic 59, 3) := by decide +kernel
theorem d22_45 : decode jdk_52_method_5_code 45 = .ok (.ishl, 1) := by decide +kernel
theorem d22_46 : decode jdk_52_method_5_code 46 = .ok (.aload_n 0, 1) := by decide +kernel
theorem d22_47 : decode jdk_52_method_5_code 47 = .ok (.iload_n 1, 1) := by decide +kernel
theorem d22_48 : decode jdk_52_method_5_code 48 = .ok (.baload, 1) := by decide +kernel
theorem d22_49 : decode jdk_52_method_5_code 49 = .ok (.sipush 255, 3) := by decide +kernel
theorem d22_52 : decode jdk_52_method_5_code 52 = .ok (.iand, 1) := by decide +kernel
theorem d22_53 : decode jdk_52_method_5_code 53 = .ok (.getstatic 63, 3) := by decide +kernel
theorem d22_56 : decode jdk_52_method_5_code 56 = .ok (.ishl, 1) := by decide +kernel
theorem d22_57 : decode jdk_52_method_5_code 57 = .ok (.ior, 1) := by decide +kernel
theorem d22_58 : decode jdk_52_method_5_code 58 = .ok (.i2c, 1) := by decide +kernel
theorem d22_59 : decode jdk_52_method_5_code 59 = .ok (.ireturn, 1) := by decide +kernel
abbrev rm_con_getChar : Room := { frames := 0, cells := 0, slots := 0, locals := 0 }
set_option maxRecDepth 65536 in
set_option maxHeartbeats 40000000 in
theorem con_getChar (l : Launch) {Z : State} {a0 : Array Value} (hw : ∀ d ∈ tables_1, d.before a0 Z = true) {n0 : Nat} {h0 : Heap} {b : Addr} {cs : List Int32} {i : Nat} {ch : Int32} (A : IA Z h0 b .byte (u16 cs)) (hi : cs[i]? = some ch) (hch : ∀ c ∈ cs, 0 ≤ c.toInt ∧ c.toInt < 65536) (HU : Ust Z) :
    Con l Z true false ELs n0 (⟨"java/lang/StringUTF16", "getChar", "([BI)C"⟩ : MethodName) jdk_52_method_5_code 2 (some .char) rm_con_getChar [] #[(.ref b), (.int i.toInt32)] h0 [] (fun v h => v = some (.int ch) ∧ h = h0) := by
  refine Con.intro (plainFor_of_name pn_java_lang_StringUTF16) (hELs hw) ?_
  intro p e s m below meth c hh G
  refine castRun (g' := mkF m 0 #[.val (.ref b), .val (.int i.toInt32)] []) (by first | rfl | (simp [entryFrame, mkF, argsToLocals, Value.category, maxLocals]; done)) ?_
  have hl := A.len
  rw [u16_len] at hl
  have hil := (List.getElem?_eq_some_iff.mp hi).1
  obtain ⟨g0, g1⟩ := u16_get0 cs i ch hi
  refine GoKit.gets G d22_0 (wi hw 96 rfl) Via.refl HU.1 (pc' := 3) rfl ?_
  refine GoKit.if_ne_t G d22_3 (by decide) (by decide) (pc' := 28) rfl ?_
  refine GoKit.iloadN G d22_28 rfl (pc' := 29) rfl ?_
  refine GoKit.iconst G (1 : Int32) d22_29 rfl (pc' := 30) rfl ?_
  refine GoKit.ishl G d22_30 (pc' := 31) rfl (fun v1 hqv1 => ?_)
  obtain rfl : v1 = (2 * i).toInt32 := by rw [hqv1]; exact shl1 (by omega)
  refine GoKit.istoreN G d22_31 (Ls' := #[.val (.ref b), .val (.int (2 * i).toInt32)]) rfl (pc' := 32) rfl ?_
  refine GoKit.aloadN G d22_32 rfl rfl (pc' := 33) rfl ?_
  refine GoKit.iloadN G d22_33 rfl (pc' := 34) rfl ?_
  refine GoKit.iinc G (1 : Int32) d22_34 rfl rfl (Ls' := #[.val (.ref b), .val (.int ((2 * i).toInt32 + (1 : Int32)))]) rfl (pc' := 37) rfl ?_
  generalize hqv2 : ((2 * i).toInt32 + (1 : Int32)) = v2
  rw [toI_succ] at hqv2; subst hqv2
  refine GoKit.baloadI G d22_37 A (i := 2 * i) (toI_clamp (by omega)) (toI_nn (by omega)) (x := b0 ch) g0 (pc' := 38) rfl ?_
  refine GoKit.sipush G (255 : Int32) d22_38 rfl (pc' := 41) rfl ?_
  refine GoKit.iand G d22_41 (pc' := 42) rfl (fun v3 hqv3 => ?_)
  refine GoKit.gets G d22_42 (wi hw 97 rfl) Via.refl HU.2.1 (pc' := 45) rfl ?_
  refine GoKit.ishl G d22_45 (pc' := 46) rfl (fun v4 hqv4 => ?_)
  refine GoKit.aloadN G d22_46 rfl rfl (pc' := 47) rfl ?_
  refine GoKit.iloadN G d22_47 rfl (pc' := 48) rfl ?_
  refine GoKit.baloadI G d22_48 A (i := 2 * i + 1) (toI_clamp (by omega)) (toI_nn (by omega)) (x := b1 ch) g1 (pc' := 49) rfl ?_
  refine GoKit.sipush G (255 : Int32) d22_49 rfl (pc' := 52) rfl ?_
  refine GoKit.iand G d22_52 (pc' := 53) rfl (fun v5 hqv5 => ?_)
  refine GoKit.gets G d22_53 (wi hw 98 rfl) Via.refl HU.2.2 (pc' := 56) rfl ?_
  refine GoKit.ishl G d22_56 (pc' := 57) rfl (fun v6 hqv6 => ?_)
  refine GoKit.ior G d22_57 (pc' := 58) rfl (fun v7 hqv7 => ?_)
  refine GoKit.i2c G d22_58 (pc' := 59) rfl (fun v8 hqv8 => ?_)
  have c9 : nar .char v8 = v8 := by rw [hqv8]; exact nar_i2c _
  refine GoKit.retNar G d22_59 (t := .char) rfl (by simp) (by decide) (by decide) ?_
  exact ⟨by subst_vars; rw [u16_back (hch ch (List.mem_of_getElem? hi))], rfl⟩
theorem d18_8 : decode jdk_52_method_14_code 8 = .ok (.iload 4, 2) := by decide +kernel
theorem d18_10 : decode jdk_52_method_14_code 10 = .ok (.iload_n 2, 1) := by decide +kernel
theorem d18_11 : decode jdk_52_method_14_code 11 = .ok (.if_icmp .ge 21, 3) := by decide +kernel
theorem d18_32 : decode jdk_52_method_14_code 32 = .ok (.aload_n 3, 1) := by decide +kernel
theorem d18_33 : decode jdk_52_method_14_code 33 = .ok (.areturn, 1) := by decide +kernel
theorem d18_14 : decode jdk_52_method_14_code 14 = .ok (.aload_n 3, 1) := by decide +kernel
theorem d18_15 : decode jdk_52_method_14_code 15 = .ok (.iload 4, 2) := by decide +kernel
theorem d18_17 : decode jdk_52_method_14_code 17 = .ok (.aload_n 0, 1) := by decide +kernel
theorem d18_18 : decode jdk_52_method_14_code 18 = .ok (.iload_n 1, 1) := by decide +kernel
theorem d18_19 : decode jdk_52_method_14_code 19 = .ok (.caload, 1) := by decide +kernel
theorem d18_20 : decode jdk_52_method_14_code 20 = .ok (.invokestatic 111, 3) := by decide +kernel
theorem pd_5 : parseMethodDescriptor "([BII)V" = some ⟨[(.array .byte), .int, .int], none⟩ := by decide +kernel
theorem d18_23 : decode jdk_52_method_14_code 23 = .ok (.iinc 1 1, 3) := by decide +kernel
theorem d18_26 : decode jdk_52_method_14_code 26 = .ok (.iinc 4 1, 3) := by decide +kernel
theorem d18_29 : decode jdk_52_method_14_code 29 = .ok (.goto (-21), 3) := by decide +kernel
theorem d18_0 : decode jdk_52_method_14_code 0 = .ok (.iload_n 2, 1) := by decide +kernel
theorem d18_1 : decode jdk_52_method_14_code 1 = .ok (.invokestatic 107, 3) := by decide +kernel
theorem pd_6 : parseMethodDescriptor "(I)[B" = some ⟨[.int], some (.array .byte)⟩ := by decide +kernel
theorem d18_4 : decode jdk_52_method_14_code 4 = .ok (.astore_n 3, 1) := by decide +kernel
theorem d18_5 : decode jdk_52_method_14_code 5 = .ok (.iconst 0, 1) := by decide +kernel
theorem d18_6 : decode jdk_52_method_14_code 6 = .ok (.istore 4, 2) := by decide +kernel
abbrev rm_con_toBytesU : Room := { frames := 2, cells := 1, slots := 82, locals := 24 }
set_option maxRecDepth 65536 in
set_option maxHeartbeats 40000000 in
theorem con_toBytesU (l : Launch) {Z : State} {a0 : Array Value} (hw : ∀ d ∈ tables_1, d.before a0 Z = true) {n0 : Nat} {h0 : Heap} {b : Addr} {cs : List Int32} (A : IA Z h0 b .char cs) (hcap : cs.length ≤ 41) (HU : Ust Z) :
    Con l Z true false ELs n0 (⟨"java/lang/StringUTF16", "toBytes", "([CII)[B"⟩ : MethodName) jdk_52_method_14_code 5 (some (.array .byte)) rm_con_toBytesU [] #[(.ref b), (.int 0), (.int cs.length.toInt32)] h0 [] (fun v h => ∃ d, v = some (.ref d) ∧ IA Z h d .byte (u16 cs)) := by
  refine Con.intro (plainFor_of_name pn_java_lang_StringUTF16) (hELs hw) ?_
  intro p e s m below meth c hh G
  refine castRun (g' := mkF m 0 #[.val (.ref b), .val (.int 0), .val (.int cs.length.toInt32), .unset, .unset] []) (by first | rfl | (simp [entryFrame, mkF, argsToLocals, Value.category, maxLocals]; done)) ?_
  have hl := A.len
  have loop : ∀ (k i : Nat) (d : Addr) (h : Heap), i + k = cs.length → IA Z h b .char cs → IA Z h d .byte (u16 (cs.take i) ++ List.replicate (2 * k) 0) →
      Run p l e rm_con_toBytesU s m #[.ref b, .int 0, .int cs.length.toInt32] below meth c Z true false ELs n0 [] (fun v h => ∃ d, v = some (.ref d) ∧ IA Z h d .byte (u16 cs)) h [d] 1 82 (mkF m 8 #[.val (.ref b), .val (.int i.toInt32), .val (.int cs.length.toInt32), .val (.ref d), .val (.int i.toInt32)] []) := by
    intro k; induction k with
    | zero =>
      intro i d h hik A D
      have hi : i = cs.length := by omega
      subst hi
      refine GoKit.iload G d18_8 rfl (pc' := 10) rfl ?_
      refine GoKit.iloadN G d18_10 rfl (pc' := 11) rfl ?_
      refine GoKit.icmp_ge_t G d18_11 Int32.lt_irrefl (by decide) (pc' := 32) rfl ?_
      refine GoKit.aloadN G d18_32 rfl rfl (pc' := 33) rfl ?_
      refine GoKit.retRef G rfl d18_33 rfl rfl rfl (by decide) (by decide) ?_
      exact ⟨_, rfl, by simpa using D⟩
    | succ k ih =>
      intro i d h hik A D
      have hi : i < cs.length := by omega
      obtain ⟨ch, hc⟩ : ∃ ch, cs[i]? = some ch := ⟨cs[i], List.getElem?_eq_getElem hi⟩
      have hdl : (u16 (cs.take i) ++ List.replicate (2 * (k + 1)) 0).length = 2 * cs.length := by rw [List.length_append, u16_len, List.length_replicate, List.length_take]; omega
      refine GoKit.iload G d18_8 rfl (pc' := 10) rfl ?_
      refine GoKit.iloadN G d18_10 rfl (pc' := 11) rfl ?_
      refine GoKit.icmp_ge_f G d18_11 ((toI_lt (by omega) (by omega)).mpr hi) (pc' := 14) rfl ?_
      refine GoKit.aloadN G d18_14 rfl rfl (pc' := 15) rfl ?_
      refine GoKit.iload G d18_15 rfl (pc' := 17) rfl ?_
      refine GoKit.aloadN G d18_17 rfl rfl (pc' := 18) rfl ?_
      refine GoKit.iloadN G d18_18 rfl (pc' := 19) rfl ?_
      refine GoKit.caloadI G d18_19 A (i := i) (toI_clamp (by omega)) (toI_nn (by omega)) hc (pc' := 20) rfl ?_
      refine GoKit.callStatic G d18_20 (wi hw 93 rfl) (wi hw 94 rfl) (wi hw 43 rfl) (wi hw 95 rfl) (by decide) (owc := [d]) (W := 0) (argsL := [(.ref d), (.int i.toInt32), (.int ch)]) (rest := []) (con_putChar l hw D (by omega) HU) rfl (lenOf pd_5 rfl) rfl (by decide) (Nat.le_of_eq rfl) (by decide) (by decide) (by decide) (by intro x hx; simp only [List.mem_cons, List.not_mem_nil, or_false] at hx ⊢; simp [hx]) (cells' := 1) (slots' := 82) rfl rfl (pc' := 23) rfl (fun r1 h4 q2 K3 => ?_)
      obtain ⟨rfl, A5⟩ := q2
      rw [u16_set cs i k ch hc] at A5
      show Run _ _ _ _ _ _ _ _ _ _ _ _ _ _ _ _ _ _ _ _ _ (mkF m 23 #[.val (.ref b), .val (.int i.toInt32), .val (.int cs.length.toInt32), .val (.ref d), .val (.int i.toInt32)] [])
      refine GoKit.iinc G (1 : Int32) d18_23 rfl rfl (Ls' := #[.val (.ref b), .val (.int (i.toInt32 + (1 : Int32))), .val (.int cs.length.toInt32), .val (.ref d), .val (.int i.toInt32)]) rfl (pc' := 26) rfl ?_
      generalize hqv6 : (i.toInt32 + (1 : Int32)) = v6
      refine GoKit.iinc G (1 : Int32) d18_26 rfl rfl (Ls' := #[.val (.ref b), .val (.int v6), .val (.int cs.length.toInt32), .val (.ref d), .val (.int (i.toInt32 + (1 : Int32)))]) rfl (pc' := 29) rfl ?_
      generalize hqv7 : (i.toInt32 + (1 : Int32)) = v7
      refine GoKit.goto G d18_29 (by decide) (pc' := 8) rfl ?_
      rw [toI_succ] at hqv6; subst hqv6
      rw [toI_succ] at hqv7; subst hqv7
      exact ih (i + 1) d h4 (by omega) (A.keep K3 (ninS (IA.neTy A D (by decide)) nin0)) A5
  refine GoKit.iloadN G d18_0 rfl (pc' := 1) rfl ?_
  refine GoKit.callStaticO G d18_1 (wi hw 86 rfl) (wi hw 87 rfl) (wi hw 43 rfl) (wi hw 88 rfl) (by decide) (owc := []) (W := 0) (argsL := [(.int cs.length.toInt32)]) (rest := []) (con_nbf l hw hcap) rfl (lenOf pd_6 rfl) rfl (by decide) (Nat.le_of_eq rfl) (by decide) (by decide) (by decide) (fun _ q => nomatch q) (cells' := 1) (slots' := 82) rfl rfl (pc' := 4) rfl (fun _ _ ⟨d, e, _⟩ => ⟨d, e⟩) (fun d12 h11 q9 K10 le13 => ?_)
  obtain ⟨_, e15, A14⟩ := q9
  cases e15
  show Run _ _ _ _ _ _ _ _ _ _ _ _ _ _ _ _ _ _ _ _ _ (mkF m 4 #[.val (.ref b), .val (.int (0 : Int32)), .val (.int cs.length.toInt32), .unset, .unset] [(.ref d12)])
  refine GoKit.astoreN G d18_4 rfl (Ls' := #[.val (.ref b), .val (.int (0 : Int32)), .val (.int cs.length.toInt32), .val (.ref d12), .unset]) rfl (pc' := 5) rfl ?_
  refine GoKit.iconst G (0 : Int32) d18_5 rfl (pc' := 6) rfl ?_
  refine GoKit.istore G d18_6 (Ls' := #[.val (.ref b), .val (.int (0 : Int32)), .val (.int cs.length.toInt32), .val (.ref d12), .val (.int (0 : Int32))]) rfl (pc' := 8) rfl ?_
  exact loop cs.length 0 d12 h11 (by omega) (A.keep K10 nin0) (by simpa [u16] using A14)
theorem big_lt {c : Int32} (h : 255 < c.toInt) : (255 : Int32) < c := by rw [Int32.lt_iff_toInt_lt]; exact h
theorem d9_23 : decode jdk_52_method_21_code 23 = .ok (.iload 5, 2) := by decide +kernel
theorem d9_25 : decode jdk_52_method_21_code 25 = .ok (.ireturn, 1) := by decide +kernel
abbrev rm_con_compress5U : Room := { frames := 0, cells := 0, slots := 0, locals := 0 }
set_option maxRecDepth 65536 in
set_option maxHeartbeats 40000000 in
theorem con_compress5U (l : Launch) {Z : State} {a0 : Array Value} (hw : ∀ d ∈ tables_1, d.before a0 Z = true) {n0 : Nat} {h0 : Heap} {b d : Addr} {cs : List Int32} (A : IA Z h0 b .char cs) (D : IA Z h0 d .byte (List.replicate cs.length 0)) {i0 : Nat} {c0 : Int32} (hi0 : cs[i0]? = some c0) (hb0 : 255 < c0.toInt) (hlow : ∀ j, j < i0 → ∀ d, cs[j]? = some d → 0 ≤ d.toInt ∧ d.toInt < 256) :
    Con l Z true false ELs n0 (⟨"java/lang/StringUTF16", "compress", "([CI[BII)I"⟩ : MethodName) jdk_52_method_21_code 7 (some .int) rm_con_compress5U [] #[(.ref b), (.int 0), (.ref d), (.int 0), (.int cs.length.toInt32)] h0 [d] (fun v h => v = some (.int i0.toInt32)) := by
  refine Con.intro (plainFor_of_name pn_java_lang_StringUTF16) (hELs hw) ?_
  intro p e s m below meth c hh G
  refine castRun (g' := mkF m 0 #[.val (.ref b), .val (.int 0), .val (.ref d), .val (.int 0), .val (.int cs.length.toInt32), .unset, .unset] []) (by first | rfl | (simp [entryFrame, mkF, argsToLocals, Value.category, maxLocals]; done)) ?_
  have hl := A.len
  have hil := (List.getElem?_eq_some_iff.mp hi0).1
  have loop : ∀ (k i : Nat) (h : Heap) (ys : List Int32) (sl : Slot), i + k = i0 → IA Z h b .char cs → IA Z h d .byte ys → ys.length = cs.length → (sl = .unset ∨ ∃ w, sl = .val w ∧ w.category = 1) →
      Run p l e rm_con_compress5U s m #[.ref b, .int 0, .ref d, .int 0, .int cs.length.toInt32] below meth c Z true false ELs n0 [d] (fun v h => v = some (.int i0.toInt32)) h [d] 0 0 (mkF m 3 #[.val (.ref b), .val (.int i.toInt32), .val (.ref d), .val (.int i.toInt32), .val (.int cs.length.toInt32), .val (.int i.toInt32), sl] []) := by
    intro k; induction k with
    | zero =>
      intro i h ys sl hik A D hys hsl
      have e0 : i = i0 := by omega
      subst e0
      refine GoKit.iload G d9_3 rfl (pc' := 5) rfl ?_
      refine GoKit.iload G d9_5 rfl (pc' := 7) rfl ?_
      refine GoKit.icmp_ge_f G d9_7 ((toI_lt (by omega) (by omega)).mpr hil) (pc' := 10) rfl ?_
      refine GoKit.aloadN G d9_10 rfl rfl (pc' := 11) rfl ?_
      refine GoKit.iloadN G d9_11 rfl (pc' := 12) rfl ?_
      refine GoKit.caloadI G d9_12 A (i := i) (toI_clamp (by omega)) (toI_nn (by omega)) hi0 (pc' := 13) rfl ?_
      refine GoKit.istore G d9_13 (Ls' := #[.val (.ref b), .val (.int i.toInt32), .val (.ref d), .val (.int i.toInt32), .val (.int cs.length.toInt32), .val (.int i.toInt32), .val (.int c0)]) (XS.store1 rfl hsl rfl) (pc' := 15) rfl ?_
      refine GoKit.iload G d9_15 rfl (pc' := 17) rfl ?_
      refine GoKit.sipush G (255 : Int32) d9_17 rfl (pc' := 20) rfl ?_
      refine GoKit.icmp_le_f G d9_20 (big_lt hb0) (pc' := 23) rfl ?_
      refine GoKit.iload G d9_23 rfl (pc' := 25) rfl ?_
      refine GoKit.retInt G d9_25 rfl (by decide) (by decide) ?_
      exact rfl
    | succ k ih =>
      intro i h ys sl hik A D hys hsl
      obtain ⟨ch, hc⟩ : ∃ ch, cs[i]? = some ch := ⟨cs[i]'(by omega), List.getElem?_eq_getElem (by omega)⟩
      have hcl := hlow i (by omega) ch hc
      refine GoKit.iload G d9_3 rfl (pc' := 5) rfl ?_
      refine GoKit.iload G d9_5 rfl (pc' := 7) rfl ?_
      refine GoKit.icmp_ge_f G d9_7 ((toI_lt (by omega) (by omega)).mpr (by omega)) (pc' := 10) rfl ?_
      refine GoKit.aloadN G d9_10 rfl rfl (pc' := 11) rfl ?_
      refine GoKit.iloadN G d9_11 rfl (pc' := 12) rfl ?_
      refine GoKit.caloadI G d9_12 A (i := i) (toI_clamp (by omega)) (toI_nn (by omega)) hc (pc' := 13) rfl ?_
      refine GoKit.istore G d9_13 (Ls' := #[.val (.ref b), .val (.int i.toInt32), .val (.ref d), .val (.int i.toInt32), .val (.int cs.length.toInt32), .val (.int i.toInt32), .val (.int ch)]) (XS.store1 rfl hsl rfl) (pc' := 15) rfl ?_
      refine GoKit.iload G d9_15 rfl (pc' := 17) rfl ?_
      refine GoKit.sipush G (255 : Int32) d9_17 rfl (pc' := 20) rfl ?_
      refine GoKit.icmp_le_t G d9_20 (lat_le hcl) (by decide) (pc' := 26) rfl ?_
      refine GoKit.aloadN G d9_26 rfl rfl (pc' := 27) rfl ?_
      refine GoKit.iloadN G d9_27 rfl (pc' := 28) rfl ?_
      refine GoKit.iload G d9_28 rfl (pc' := 30) rfl ?_
      refine GoKit.i2b G d9_30 (pc' := 31) rfl (fun v1 hqv1 => ?_)
      refine GoKit.bastI G d9_31 D (i := i) (toI_clamp (by omega)) (toI_nn (by omega)) (by omega) (x' := ch.toInt8.toInt32) (by rw [hqv1]; exact lo8_nar _) (List.Mem.head _) (pc' := 32) rfl (fun h' W' D' => ?_)
      refine GoKit.iinc G (1 : Int32) d9_32 rfl rfl (Ls' := #[.val (.ref b), .val (.int (i.toInt32 + (1 : Int32))), .val (.ref d), .val (.int i.toInt32), .val (.int cs.length.toInt32), .val (.int i.toInt32), .val (.int ch)]) rfl (pc' := 35) rfl ?_
      generalize hqv2 : (i.toInt32 + (1 : Int32)) = v2
      refine GoKit.iinc G (1 : Int32) d9_35 rfl rfl (Ls' := #[.val (.ref b), .val (.int v2), .val (.ref d), .val (.int (i.toInt32 + (1 : Int32))), .val (.int cs.length.toInt32), .val (.int i.toInt32), .val (.int ch)]) rfl (pc' := 38) rfl ?_
      generalize hqv3 : (i.toInt32 + (1 : Int32)) = v3
      refine GoKit.iinc G (1 : Int32) d9_38 rfl rfl (Ls' := #[.val (.ref b), .val (.int v2), .val (.ref d), .val (.int v3), .val (.int cs.length.toInt32), .val (.int (i.toInt32 + (1 : Int32))), .val (.int ch)]) rfl (pc' := 41) rfl ?_
      generalize hqv4 : (i.toInt32 + (1 : Int32)) = v4
      refine GoKit.goto G d9_41 (by decide) (pc' := 3) rfl ?_
      rw [toI_succ] at hqv2; subst hqv2
      rw [toI_succ] at hqv3; subst hqv3
      rw [toI_succ] at hqv4; subst hqv4
      exact ih (i + 1) h' _ (.val (.int ch)) (by omega) (A.other W' (IA.neTy A D (by decide))) D' (by rw [List.length_set]; exact hys) (Or.inr ⟨_, rfl, rfl⟩)
  refine GoKit.iconst G (0 : Int32) d9_0 rfl (pc' := 1) rfl ?_
  refine GoKit.istore G d9_1 (Ls' := #[.val (.ref b), .val (.int (0 : Int32)), .val (.ref d), .val (.int (0 : Int32)), .val (.int cs.length.toInt32), .val (.int (0 : Int32)), .unset]) rfl (pc' := 3) rfl ?_
  exact loop i0 0 h0 _ .unset (by omega) A D (by simp) (Or.inl rfl)
theorem d8_20 : decode jdk_52_method_16_code 20 = .ok (.aload_n 0, 1) := by decide +kernel
theorem d8_21 : decode jdk_52_method_16_code 21 = .ok (.iload_n 1, 1) := by decide +kernel
theorem d8_22 : decode jdk_52_method_16_code 22 = .ok (.iload_n 2, 1) := by decide +kernel
theorem d8_23 : decode jdk_52_method_16_code 23 = .ok (.invokestatic 119, 3) := by decide +kernel
theorem d8_26 : decode jdk_52_method_16_code 26 = .ok (.astore 5, 2) := by decide +kernel
theorem d8_28 : decode jdk_52_method_16_code 28 = .ok (.aload 5, 2) := by decide +kernel
theorem d8_30 : decode jdk_52_method_16_code 30 = .ok (.iload 4, 2) := by decide +kernel
theorem d8_32 : decode jdk_52_method_16_code 32 = .ok (.invokestatic 71, 3) := by decide +kernel
theorem pd_7 : parseMethodDescriptor "([BI)C" = some ⟨[(.array .byte), .int], some .char⟩ := by decide +kernel
theorem d8_35 : decode jdk_52_method_16_code 35 = .ok (.sipush 255, 3) := by decide +kernel
theorem d8_38 : decode jdk_52_method_16_code 38 = .ok (.if_icmp .gt 16, 3) := by decide +kernel
theorem d8_54 : decode jdk_52_method_16_code 54 = .ok (.aload 5, 2) := by decide +kernel
theorem d8_56 : decode jdk_52_method_16_code 56 = .ok (.areturn, 1) := by decide +kernel
abbrev rm_con_compress3U : Room := { frames := 3, cells := 2, slots := 123, locals := 40 }
set_option maxRecDepth 65536 in
set_option maxHeartbeats 40000000 in
theorem con_compress3U (l : Launch) {Z : State} {a0 : Array Value} (hw : ∀ d ∈ tables_1, d.before a0 Z = true) {n0 : Nat} {h0 : Heap} {b : Addr} {cs : List Int32} (A : IA Z h0 b .char cs) (hcap : cs.length ≤ 41) (hch : ∀ c ∈ cs, 0 ≤ c.toInt ∧ c.toInt < 65536) {i0 : Nat} {c0 : Int32} (hi0 : cs[i0]? = some c0) (hb0 : 255 < c0.toInt) (hlow : ∀ j, j < i0 → ∀ d, cs[j]? = some d → 0 ≤ d.toInt ∧ d.toInt < 256) (HU : Ust Z) :
    Con l Z true false ELs n0 (⟨"java/lang/StringUTF16", "compress", "([CII)[B"⟩ : MethodName) jdk_52_method_16_code 6 (some (.array .byte)) rm_con_compress3U [] #[(.ref b), (.int 0), (.int cs.length.toInt32)] h0 [] (fun v h => ∃ d, v = some (.ref d) ∧ IA Z h d .byte (u16 cs)) := by
  refine Con.intro (plainFor_of_name pn_java_lang_StringUTF16) (hELs hw) ?_
  intro p e s m below meth c hh G
  refine castRun (g' := mkF m 0 #[.val (.ref b), .val (.int 0), .val (.int cs.length.toInt32), .unset, .unset, .unset] []) (by first | rfl | (simp [entryFrame, mkF, argsToLocals, Value.category, maxLocals]; done)) ?_
  have hl := A.len
  have hil := (List.getElem?_eq_some_iff.mp hi0).1
  refine GoKit.iloadN G d8_0 rfl (pc' := 1) rfl ?_
  refine GoKit.newbI G d8_1 (wi hw 21 rfl) (toI_nn hl) (k := cs.length) (cap := 41) (toI_clamp hl) hcap (by decide) (by decide) (by decide) (cells' := 1) (slots' := 41) rfl rfl (pc' := 3) rfl (fun h4 a1 ga1 E2 A3 => ?_)
  refine GoKit.astoreN G d8_3 rfl (Ls' := #[.val (.ref b), .val (.int 0), .val (.int cs.length.toInt32), .val (.ref a1), .unset, .unset]) rfl (pc' := 4) rfl ?_
  refine GoKit.aloadN G d8_4 rfl rfl (pc' := 5) rfl ?_
  refine GoKit.iloadN G d8_5 rfl (pc' := 6) rfl ?_
  refine GoKit.aloadN G d8_6 rfl rfl (pc' := 7) rfl ?_
  refine GoKit.iconst G (0 : Int32) d8_7 rfl (pc' := 8) rfl ?_
  refine GoKit.iloadN G d8_8 rfl (pc' := 9) rfl ?_
  refine GoKit.callStatic G d8_9 (wi hw 45 rfl) (wi hw 46 rfl) (wi hw 43 rfl) (wi hw 47 rfl) (by decide) (owc := [a1]) (W := 0) (argsL := [(.ref b), (.int 0), (.ref a1), (.int (0 : Int32)), (.int cs.length.toInt32)]) (rest := []) (con_compress5U l hw (A.ext E2) A3 hi0 hb0 hlow) rfl (lenOf pd_0 rfl) rfl (by decide) (Nat.le_of_eq rfl) (by decide) (by decide) (by decide) (by intro x hx; simp only [List.mem_cons, List.not_mem_nil, or_false] at hx ⊢; simp [hx]) (cells' := 1) (slots' := 41) rfl rfl (pc' := 12) rfl (fun r5 h8 q6 K7 => ?_)
  obtain rfl := q6
  show Run _ _ _ _ _ _ _ _ _ _ _ _ _ _ _ _ _ _ _ _ _ (mkF m 12 #[.val (.ref b), .val (.int 0), .val (.int cs.length.toInt32), .val (.ref a1), .unset, .unset] [(.int i0.toInt32)])
  refine GoKit.istore G d8_12 (Ls' := #[.val (.ref b), .val (.int 0), .val (.int cs.length.toInt32), .val (.ref a1), .val (.int i0.toInt32), .unset]) rfl (pc' := 14) rfl ?_
  refine GoKit.iload G d8_14 rfl (pc' := 16) rfl ?_
  refine GoKit.iloadN G d8_16 rfl (pc' := 17) rfl ?_
  refine GoKit.icmp_eq_f G d8_17 (fun q => Nat.ne_of_lt hil ((toI_eq (by omega) hl).mp q)) (pc' := 20) rfl ?_
  refine GoKit.aloadN G d8_20 rfl rfl (pc' := 21) rfl ?_
  refine GoKit.iloadN G d8_21 rfl (pc' := 22) rfl ?_
  refine GoKit.iloadN G d8_22 rfl (pc' := 23) rfl ?_
  refine GoKit.callStatic G d8_23 (wi hw 83 rfl) (wi hw 84 rfl) (wi hw 43 rfl) (wi hw 85 rfl) (by decide) (owc := []) (W := 0) (argsL := [(.ref b), (.int 0), (.int cs.length.toInt32)]) (rest := []) (con_toBytesU l hw ((A.ext E2).keep K7 (ninS (Nat.ne_of_lt (Nat.lt_of_lt_of_le (A).lt (Nat.le_of_eq ga1.symm))) nin0)) hcap HU) rfl (lenOf pd_1 rfl) rfl (by decide) (Nat.le_of_eq rfl) (by decide) (by decide) (by decide) (fun _ q => nomatch q) (cells' := 2) (slots' := 123) rfl rfl (pc' := 26) rfl (fun r9 h12 q10 K11 => ?_)
  obtain ⟨d13, rfl, A14⟩ := q10
  show Run _ _ _ _ _ _ _ _ _ _ _ _ _ _ _ _ _ _ _ _ _ (mkF m 26 #[.val (.ref b), .val (.int 0), .val (.int cs.length.toInt32), .val (.ref a1), .val (.int i0.toInt32), .unset] [(.ref d13)])
  refine GoKit.astore G d8_26 rfl (Ls' := #[.val (.ref b), .val (.int 0), .val (.int cs.length.toInt32), .val (.ref a1), .val (.int i0.toInt32), .val (.ref d13)]) rfl (pc' := 28) rfl ?_
  refine GoKit.aload G d8_28 rfl rfl (pc' := 30) rfl ?_
  refine GoKit.iload G d8_30 rfl (pc' := 32) rfl ?_
  refine GoKit.callStaticP G d8_32 (wi hw 99 rfl) (wi hw 100 rfl) (wi hw 43 rfl) (wi hw 101 rfl) (by decide) (W := 0) (argsL := [(.ref d13), (.int i0.toInt32)]) (rest := []) (con_getChar l hw A14 hi0 hch HU) rfl (lenOf pd_7 rfl) rfl (by decide) (Nat.le_of_eq rfl) (by decide) (by decide) (by decide) (cells' := 2) (slots' := 123) rfl rfl (pc' := 35) rfl ?_
  show Run _ _ _ _ _ _ _ _ _ _ _ _ _ _ _ _ _ _ _ _ _ (mkF m 35 #[.val (.ref b), .val (.int 0), .val (.int cs.length.toInt32), .val (.ref a1), .val (.int i0.toInt32), .val (.ref d13)] [(.int c0)])
  refine GoKit.sipush G (255 : Int32) d8_35 rfl (pc' := 38) rfl ?_
  refine GoKit.icmp_gt_t G d8_38 (big_lt hb0) (by decide) (pc' := 54) rfl ?_
  refine GoKit.aload G d8_54 rfl rfl (pc' := 56) rfl ?_
  refine GoKit.retRef G rfl d8_56 rfl rfl rfl (by decide) (by decide) ?_
  exact ⟨_, rfl, A14⟩
abbrev rm_con_coderLenU : Room := { frames := 0, cells := 0, slots := 0, locals := 0 }
set_option maxRecDepth 65536 in
set_option maxHeartbeats 40000000 in
theorem con_coderLenU (l : Launch) {Z : State} {a0 : Array Value} (hw : ∀ d ∈ tables_1, d.before a0 Z = true) {n0 : Nat} {h0 : Heap} {d : Addr} {cs : List Int32} (A : IA Z h0 d .byte (u16 cs)) (hn : 0 < cs.length) (hl : cs.length < 2 ^ 30) :
    Con l Z true false ELs n0 (⟨"java/lang/StringUTF16", "coderFromArrayLen", "([BI)B"⟩ : MethodName) jdk_52_method_15_code 2 (some .byte) rm_con_coderLenU [] #[(.ref d), (.int cs.length.toInt32)] h0 [] (fun v h => v = some (.int 1) ∧ h = h0) := by
  refine Con.intro (plainFor_of_name pn_java_lang_StringUTF16) (hELs hw) ?_
  intro p e s m below meth c hh G
  refine castRun (g' := mkF m 0 #[.val (.ref d), .val (.int cs.length.toInt32)] []) (by first | rfl | (simp [entryFrame, mkF, argsToLocals, Value.category, maxLocals]; done)) ?_
  refine GoKit.iloadN G d10_0 rfl (pc' := 1) rfl ?_
  refine GoKit.aloadN G d10_1 rfl rfl (pc' := 2) rfl ?_
  refine GoKit.arrlenI G d10_2 A (z := (2 * cs.length).toInt32) (by rw [u16_len]) (pc' := 3) rfl ?_
  refine GoKit.isub G d10_3 (pc' := 4) rfl (fun v1 hqv1 => ?_)
  refine GoKit.bipush G (31 : Int32) d10_4 rfl (pc' := 6) rfl ?_
  refine GoKit.iushr G d10_6 (pc' := 7) rfl (fun v2 hqv2 => ?_)
  refine GoKit.i2b G d10_7 (pc' := 8) rfl (fun v3 hqv3 => ?_)
  refine GoKit.retNar G d10_8 (t := .byte) rfl (by simp) (by decide) (by decide) ?_
  exact ⟨by subst_vars; rw [coderU hn hl], rfl⟩
abbrev rm_con_strInit4U : Room := { frames := 4, cells := 2, slots := 123, locals := 57 }
set_option maxRecDepth 65536 in
set_option maxHeartbeats 40000000 in
theorem con_strInit4U (l : Launch) {Z : State} {a0 : Array Value} (hw : ∀ d ∈ tables_1, d.before a0 Z = true) {n0 : Nat} {h0 : Heap} {a b : Addr} {cs : List Int32} (E : Exa Z h0 a "java/lang/String") (FV : Fld Z h0 a "java/lang/String" "value" "[B" .null) (FC : Fld Z h0 a "java/lang/String" "coder" "B" (.int 0)) (A : IA Z h0 b .char cs) (hcap : cs.length ≤ 41) (hch : ∀ c ∈ cs, 0 ≤ c.toInt ∧ c.toInt < 65536) {i0 : Nat} {c0 : Int32} (hi0 : cs[i0]? = some c0) (hb0 : 255 < c0.toInt) (hlow : ∀ j, j < i0 → ∀ d, cs[j]? = some d → 0 ≤ d.toInt ∧ d.toInt < 256) (HC : Cst Z) (HU : Ust Z) :
    Con l Z true false ELs n0 (⟨"java/lang/String", "<init>", "([CIILjava/lang/Void;)V"⟩ : MethodName) jdk_42_method_149_code 6 none rm_con_strInit4U [] #[(.ref a), (.ref b), (.int 0), (.int cs.length.toInt32), .null] h0 [a] (fun v h => v = none ∧ U16 Z h a cs) := by
  refine Con.intro (plainFor_of_name pn_java_lang_String) (hELs hw) ?_
  intro p e s m below meth c hh G
  refine castRun (g' := mkF m 0 #[.val (.ref a), .val (.ref b), .val (.int 0), .val (.int cs.length.toInt32), .val .null, .unset] []) (by first | rfl | (simp [entryFrame, mkF, argsToLocals, Value.category, maxLocals]; done)) ?_
  obtain ⟨cz, SC, hcz⟩ := id HC
  have hl := A.len
  have hil := (List.getElem?_eq_some_iff.mp hi0).1
  refine GoKit.aloadN G d3_0 rfl rfl (pc' := 1) rfl ?_
  refine GoKit.initObj G d3_1 (wi hw 17 rfl) (wi hw 18 rfl) (wi hw 19 rfl) rfl (by decide) (W := 0) (Nat.le_of_eq rfl) (by decide) (pc' := 4) rfl ?_
  refine GoKit.iloadN G d3_4 rfl (pc' := 5) rfl ?_
  refine GoKit.if_ne_t G d3_5 (fun q => by have := (toI_eq (k := 0) hl (by decide)).mp q; omega) (by decide) (pc' := 27) rfl ?_
  refine GoKit.gets G d3_27 (wi hw 40 rfl) Via.refl SC (pc' := 30) rfl ?_
  refine GoKit.if_eq_f G d3_30 hcz (pc' := 33) rfl ?_
  refine GoKit.aloadN G d3_33 rfl rfl (pc' := 34) rfl ?_
  refine GoKit.iloadN G d3_34 rfl (pc' := 35) rfl ?_
  refine GoKit.iloadN G d3_35 rfl (pc' := 36) rfl ?_
  refine GoKit.callStatic G d3_36 (wi hw 41 rfl) (wi hw 42 rfl) (wi hw 43 rfl) (wi hw 44 rfl) (by decide) (owc := []) (W := 0) (argsL := [(.ref b), (.int 0), (.int cs.length.toInt32)]) (rest := []) (con_compress3U l hw A hcap hch hi0 hb0 hlow HU) rfl (lenOf pd_1 rfl) rfl (by decide) (Nat.le_of_eq rfl) (by decide) (by decide) (by decide) (fun _ q => nomatch q) (cells' := 2) (slots' := 123) rfl rfl (pc' := 39) rfl (fun r1 h4 q2 K3 => ?_)
  obtain ⟨d5, rfl, A6⟩ := q2
  have ne7 := IA.ne A6 (E.keep K3) (wi hw 8 rfl)
  show Run _ _ _ _ _ _ _ _ _ _ _ _ _ _ _ _ _ _ _ _ _ (mkF m 39 #[.val (.ref a), .val (.ref b), .val (.int 0), .val (.int cs.length.toInt32), .val .null, .unset] [(.ref d5)])
  refine GoKit.astore G d3_39 rfl (Ls' := #[.val (.ref a), .val (.ref b), .val (.int 0), .val (.int cs.length.toInt32), .val .null, .val (.ref d5)]) rfl (pc' := 41) rfl ?_
  refine GoKit.aloadN G d3_41 rfl rfl (pc' := 42) rfl ?_
  refine GoKit.aload G d3_42 rfl rfl (pc' := 44) rfl ?_
  refine GoKit.iloadN G d3_44 rfl (pc' := 45) rfl ?_
  refine GoKit.callStaticP G d3_45 (wi hw 48 rfl) (wi hw 49 rfl) (wi hw 43 rfl) (wi hw 50 rfl) (by decide) (W := 1) (argsL := [(.ref d5), (.int cs.length.toInt32)]) (rest := [(.ref a)]) (con_coderLenU l hw A6 (by omega) (by omega)) rfl (lenOf pd_2 rfl) rfl (by decide) (Nat.le_of_eq rfl) (by decide) (by decide) (by decide) (cells' := 2) (slots' := 123) rfl rfl (pc' := 48) rfl ?_
  show Run _ _ _ _ _ _ _ _ _ _ _ _ _ _ _ _ _ _ _ _ _ (mkF m 48 #[.val (.ref a), .val (.ref b), .val (.int 0), .val (.int cs.length.toInt32), .val .null, .val (.ref d5)] [(.int 1), (.ref a)])
  refine GoKit.putf G d3_48 (wi hw 27 rfl) Via.refl (FC.keep K3 nin0) (E.keep K3) (Or.inr ⟨(wi hw 23 rfl), rfl, rfl⟩) (wi hw 8 rfl) (ty := .byte) (by decide) rfl rfl (List.Mem.head _) (pc' := 51) rfl (fun h9 W8 => ?_)
  have F10 := ((FC.keep K3 nin0)).same W8
  refine GoKit.aloadN G d3_51 rfl rfl (pc' := 52) rfl ?_
  refine GoKit.aload G d3_52 rfl rfl (pc' := 54) rfl ?_
  refine GoKit.putf G d3_54 (wi hw 26 rfl) Via.refl ((FV.keep K3 nin0).other W8 (Or.inr (slot_ne (Or.inr (wi hw 22 rfl)) (Or.inr (wi hw 23 rfl)) (by decide) (by decide : _ = some (.array .byte)) (by decide : _ = some .byte)))) ((E.keep K3).wr W8) (Or.inr ⟨(wi hw 22 rfl), rfl, rfl⟩) (wi hw 8 rfl) (ty := (.array .byte)) (by decide) rfl rfl (List.Mem.head _) (pc' := 57) rfl (fun h12 W11 => ?_)
  have F13 := (((FV.keep K3 nin0).other W8 (Or.inr (slot_ne (Or.inr (wi hw 22 rfl)) (Or.inr (wi hw 23 rfl)) (by decide) (by decide : _ = some (.array .byte)) (by decide : _ = some .byte))))).same W11
  refine GoKit.retVoid G d3_57 rfl (by decide) (by decide) ?_
  exact ⟨rfl, (((E.keep K3).wr W8).wr W11), ⟨d5, F13, (F10.other W11 (Or.inr (slot_ne (Or.inr (wi hw 23 rfl)) (Or.inr (wi hw 22 rfl)) (by decide) (by decide : _ = some .byte) (by decide : _ = some (.array .byte))))), ((A6.other W8 ne7).other W11 ne7)⟩, hch, by omega⟩
abbrev rm_con_strInitU : Room := { frames := 5, cells := 2, slots := 123, locals := 74 }
set_option maxRecDepth 65536 in
set_option maxHeartbeats 40000000 in
theorem con_strInitU (l : Launch) {Z : State} {a0 : Array Value} (hw : ∀ d ∈ tables_1, d.before a0 Z = true) {n0 : Nat} {h0 : Heap} {a b : Addr} {cs : List Int32} (E : Exa Z h0 a "java/lang/String") (FV : Fld Z h0 a "java/lang/String" "value" "[B" .null) (FC : Fld Z h0 a "java/lang/String" "coder" "B" (.int 0)) (A : IA Z h0 b .char cs) (hcap : cs.length ≤ 41) (hch : ∀ c ∈ cs, 0 ≤ c.toInt ∧ c.toInt < 65536) {i0 : Nat} {c0 : Int32} (hi0 : cs[i0]? = some c0) (hb0 : 255 < c0.toInt) (hlow : ∀ j, j < i0 → ∀ d, cs[j]? = some d → 0 ≤ d.toInt ∧ d.toInt < 256) (HC : Cst Z) (HU : Ust Z) :
    Con l Z true false ELs n0 (⟨"java/lang/String", "<init>", "([C)V"⟩ : MethodName) jdk_42_method_3_code 2 none rm_con_strInitU [] #[(.ref a), (.ref b)] h0 [a] (fun v h => v = none ∧ Str Z h a cs) := by
  refine Con.intro (plainFor_of_name pn_java_lang_String) (hELs hw) ?_
  intro p e s m below meth c hh G
  refine castRun (g' := mkF m 0 #[.val (.ref a), .val (.ref b)] []) (by first | rfl | (simp [entryFrame, mkF, argsToLocals, Value.category, maxLocals]; done)) ?_
  refine GoKit.aloadN G d2_0 rfl rfl (pc' := 1) rfl ?_
  refine GoKit.aloadN G d2_1 rfl rfl (pc' := 2) rfl ?_
  refine GoKit.iconst G (0 : Int32) d2_2 rfl (pc' := 3) rfl ?_
  refine GoKit.aloadN G d2_3 rfl rfl (pc' := 4) rfl ?_
  refine GoKit.arrlenI G d2_4 A (z := cs.length.toInt32) rfl (pc' := 5) rfl ?_
  refine GoKit.aconstNull G d2_5 (pc' := 6) rfl ?_
  refine GoKit.callSpecial G d2_6 rfl (wi hw 13 rfl) (wi hw 14 rfl) (wi hw 9 rfl) (wi hw 16 rfl) (by decide) (owc := [a]) (W := 0) (argsL := [(.ref b), (.int (0 : Int32)), (.int cs.length.toInt32), .null]) (rest := []) (con_strInit4U l hw E FV FC A hcap hch hi0 hb0 hlow HC HU) rfl (lenOf pd_3 rfl) rfl (by decide) (Nat.le_of_eq rfl) (by decide) (by decide) (by decide) (by intro x hx; simp only [List.mem_cons, List.not_mem_nil, or_false] at hx ⊢; simp [hx]) (cells' := 2) (slots' := 123) rfl rfl (pc' := 9) rfl (fun r1 h4 q2 K3 => ?_)
  obtain ⟨rfl, S5⟩ := q2
  show Run _ _ _ _ _ _ _ _ _ _ _ _ _ _ _ _ _ _ _ _ _ (mkF m 9 #[.val (.ref a), .val (.ref b)] [])
  refine GoKit.retVoid G d2_9 rfl (by decide) (by decide) ?_
  exact ⟨rfl, Or.inr S5⟩
theorem con_strInitS (l : Launch) {Z : State} {a0 : Array Value} (hw : ∀ d ∈ tables_1, d.before a0 Z = true) {n0 : Nat} {h0 : Heap} {a b : Addr} {cs : List Int32} (E : Exa Z h0 a "java/lang/String") (FV : Fld Z h0 a "java/lang/String" "value" "[B" .null) (FC : Fld Z h0 a "java/lang/String" "coder" "B" (.int 0)) (A : IA Z h0 b .char cs) (hcap : cs.length ≤ 41) (hch : ∀ c ∈ cs, 0 ≤ c.toInt ∧ c.toInt < 65536) (hne : cs ≠ []) (HC : Cst Z) (HU : Ust Z) :
    Con l Z true false ELs n0 (⟨"java/lang/String", "<init>", "([C)V"⟩ : MethodName) jdk_42_method_3_code 2 none rm_con_strInitU [] #[.ref a, .ref b] h0 [a] (fun v h => v = none ∧ Str Z h a cs) := by
  by_cases hl : ∀ c ∈ cs, 0 ≤ c.toInt ∧ c.toInt < 256
  · exact con_mono (con_strInit l hw E FV FC A hcap hl hne HC) fun v h q => ⟨q.1, Or.inl q.2⟩
  · obtain ⟨i0, c0, h1, h2, h3⟩ := first_big hch hl
    exact con_strInitU l hw E FV FC A hcap hch h1 h2 h3 HC HU
theorem d3_8 : decode jdk_42_method_149_code 8 = .ok (.aload_n 0, 1) := by decide +kernel
theorem d3_9 : decode jdk_42_method_149_code 9 = .ok (.ldc 7, 2) := by decide +kernel
theorem d3_11 : decode jdk_42_method_149_code 11 = .ok (.getfield 9, 3) := by decide +kernel
theorem d3_14 : decode jdk_42_method_149_code 14 = .ok (.putfield 9, 3) := by decide +kernel
theorem d3_17 : decode jdk_42_method_149_code 17 = .ok (.aload_n 0, 1) := by decide +kernel
theorem d3_18 : decode jdk_42_method_149_code 18 = .ok (.ldc 7, 2) := by decide +kernel
theorem d3_20 : decode jdk_42_method_149_code 20 = .ok (.getfield 15, 3) := by decide +kernel
theorem d3_23 : decode jdk_42_method_149_code 23 = .ok (.putfield 15, 3) := by decide +kernel
theorem d3_26 : decode jdk_42_method_149_code 26 = .ok (.return_, 1) := by decide +kernel
abbrev rm_con_strInitE4 : Room := { frames := 1, cells := 4, slots := 8, locals := 12 }
set_option maxRecDepth 65536 in
set_option maxHeartbeats 40000000 in
theorem con_strInitE4 (l : Launch) {Z : State} {a0 : Array Value} (hw : ∀ d ∈ tables_1, d.before a0 Z = true) {n0 : Nat} {h0 : Heap} {a b : Addr} (E : Exa Z h0 a "java/lang/String") (FV : Fld Z h0 a "java/lang/String" "value" "[B" .null) (FC : Fld Z h0 a "java/lang/String" "coder" "B" (.int 0)) (A : IA Z h0 b .char []) :
    Con l Z true false ELs n0 (⟨"java/lang/String", "<init>", "([CIILjava/lang/Void;)V"⟩ : MethodName) jdk_42_method_149_code 6 none rm_con_strInitE4 [] #[(.ref a), (.ref b), (.int 0), (.int 0), .null] h0 [a] (fun v h => v = none ∧ Lat Z h a []) := by
  refine Con.intro (plainFor_of_name pn_java_lang_String) (hELs hw) ?_
  intro p e s m below meth c hh G
  refine castRun (g' := mkF m 0 #[.val (.ref a), .val (.ref b), .val (.int 0), .val (.int 0), .val .null, .unset] []) (by first | rfl | (simp [entryFrame, mkF, argsToLocals, Value.category, maxLocals]; done)) ?_
  refine GoKit.aloadN G d3_0 rfl rfl (pc' := 1) rfl ?_
  refine GoKit.initObj G d3_1 (wi hw 17 rfl) (wi hw 18 rfl) (wi hw 19 rfl) rfl (by decide) (W := 0) (Nat.le_of_eq rfl) (by decide) (pc' := 4) rfl ?_
  refine GoKit.iloadN G d3_4 rfl (pc' := 5) rfl ?_
  refine GoKit.if_ne_f G d3_5 rfl (pc' := 8) rfl ?_
  refine GoKit.aloadN G d3_8 rfl rfl (pc' := 9) rfl ?_
  refine GoKit.ldcStr G d3_9 rfl (wi hw 20 rfl) (wS hw) (by decide) (vs := []) (z := (0 : Int32)) ⟨by decide +kernel, by decide +kernel⟩ (by decide) rfl (n := 0) (by decide +kernel) (by decide) (by decide) (by decide) (cells' := 2) (slots' := 4) rfl rfl (pc' := 11) rfl (fun a1 b2 k3 h10 E4 X5 FC6 FV7 A8 N9 => ?_)
  have S11 : Lat Z h10 a1 [] := latLit X5 FC6 FV7 A8 rfl (by decide +kernel) (by decide +kernel)
  have A12 : IA Z h10 b2 .byte (([] : List Int32).map fun c => c.toInt8.toInt32) := iaLit A8 rfl (by decide +kernel)
  refine GoKit.getf G d3_11 (wi hw 26 rfl) Via.refl FV7 (pc' := 14) rfl ?_
  refine GoKit.putf G d3_14 (wi hw 26 rfl) Via.refl (FV.ext E4) (E.ext E4) (Or.inr ⟨(wi hw 22 rfl), rfl, rfl⟩) (wi hw 8 rfl) (ty := (.array .byte)) (by decide) rfl rfl (List.Mem.head _) (pc' := 17) rfl (fun h14 W13 => ?_)
  have F15 := ((FV.ext E4)).same W13
  refine GoKit.aloadN G d3_17 rfl rfl (pc' := 18) rfl ?_
  refine GoKit.ldcStr G d3_18 rfl (wi hw 20 rfl) (wS hw) (by decide) (vs := []) (z := (0 : Int32)) ⟨by decide +kernel, by decide +kernel⟩ (by decide) rfl (n := 0) (by decide +kernel) (by decide) (by decide) (by decide) (cells' := 4) (slots' := 8) rfl rfl (pc' := 20) rfl (fun a16 b17 k18 h25 E19 X20 FC21 FV22 A23 N24 => ?_)
  have S26 : Lat Z h25 a16 [] := latLit X20 FC21 FV22 A23 rfl (by decide +kernel) (by decide +kernel)
  have A27 : IA Z h25 b17 .byte (([] : List Int32).map fun c => c.toInt8.toInt32) := iaLit A23 rfl (by decide +kernel)
  refine GoKit.getf G d3_20 (wi hw 27 rfl) Via.refl FC21 (pc' := 23) rfl ?_
  refine GoKit.putf G d3_23 (wi hw 27 rfl) Via.refl (((FC.ext E4).other W13 (Or.inr (slot_ne (Or.inr (wi hw 23 rfl)) (Or.inr (wi hw 22 rfl)) (by decide) (by decide : _ = some .byte) (by decide : _ = some (.array .byte))))).ext E19) (((E.ext E4).wr W13).ext E19) (Or.inr ⟨(wi hw 23 rfl), rfl, rfl⟩) (wi hw 8 rfl) (ty := .byte) (by decide) rfl rfl (List.Mem.head _) (pc' := 26) rfl (fun h29 W28 => ?_)
  have F30 := ((((FC.ext E4).other W13 (Or.inr (slot_ne (Or.inr (wi hw 23 rfl)) (Or.inr (wi hw 22 rfl)) (by decide) (by decide : _ = some .byte) (by decide : _ = some (.array .byte))))).ext E19)).same W28
  refine GoKit.retVoid G d3_26 rfl (by decide) (by decide) ?_
  exact ⟨rfl, ((((E.ext E4).wr W13).ext E19).wr W28), ⟨b2, ((F15.ext E19).other W28 (Or.inr (slot_ne (Or.inr (wi hw 22 rfl)) (Or.inr (wi hw 23 rfl)) (by decide) (by decide : _ = some (.array .byte)) (by decide : _ = some .byte)))), F30, (((A12.other W13 (Ne.symm (N9 _ (List.Mem.head _)).2)).ext E19).other W28 (Ne.symm (N9 _ (List.Mem.head _)).2))⟩, fun _ q => nomatch q⟩
abbrev rm_con_strInitE : Room := { frames := 2, cells := 4, slots := 8, locals := 29 }
set_option maxRecDepth 65536 in
set_option maxHeartbeats 40000000 in
theorem con_strInitE (l : Launch) {Z : State} {a0 : Array Value} (hw : ∀ d ∈ tables_1, d.before a0 Z = true) {n0 : Nat} {h0 : Heap} {a b : Addr} (E : Exa Z h0 a "java/lang/String") (FV : Fld Z h0 a "java/lang/String" "value" "[B" .null) (FC : Fld Z h0 a "java/lang/String" "coder" "B" (.int 0)) (A : IA Z h0 b .char []) :
    Con l Z true false ELs n0 (⟨"java/lang/String", "<init>", "([C)V"⟩ : MethodName) jdk_42_method_3_code 2 none rm_con_strInitE [] #[(.ref a), (.ref b)] h0 [a] (fun v h => v = none ∧ Lat Z h a []) := by
  refine Con.intro (plainFor_of_name pn_java_lang_String) (hELs hw) ?_
  intro p e s m below meth c hh G
  refine castRun (g' := mkF m 0 #[.val (.ref a), .val (.ref b)] []) (by first | rfl | (simp [entryFrame, mkF, argsToLocals, Value.category, maxLocals]; done)) ?_
  refine GoKit.aloadN G d2_0 rfl rfl (pc' := 1) rfl ?_
  refine GoKit.aloadN G d2_1 rfl rfl (pc' := 2) rfl ?_
  refine GoKit.iconst G (0 : Int32) d2_2 rfl (pc' := 3) rfl ?_
  refine GoKit.aloadN G d2_3 rfl rfl (pc' := 4) rfl ?_
  refine GoKit.arrlenI G d2_4 A (z := (0 : Int32)) rfl (pc' := 5) rfl ?_
  refine GoKit.aconstNull G d2_5 (pc' := 6) rfl ?_
  refine GoKit.callSpecial G d2_6 rfl (wi hw 13 rfl) (wi hw 14 rfl) (wi hw 9 rfl) (wi hw 16 rfl) (by decide) (owc := [a]) (W := 0) (argsL := [(.ref b), (.int (0 : Int32)), (.int (0 : Int32)), .null]) (rest := []) (con_strInitE4 l hw E FV FC A) rfl (lenOf pd_3 rfl) rfl (by decide) (Nat.le_of_eq rfl) (by decide) (by decide) (by decide) (by intro x hx; simp only [List.mem_cons, List.not_mem_nil, or_false] at hx ⊢; simp [hx]) (cells' := 4) (slots' := 8) rfl rfl (pc' := 9) rfl (fun r1 h4 q2 K3 => ?_)
  obtain ⟨rfl, S5⟩ := q2
  show Run _ _ _ _ _ _ _ _ _ _ _ _ _ _ _ _ _ _ _ _ _ (mkF m 9 #[.val (.ref a), .val (.ref b)] [])
  refine GoKit.retVoid G d2_9 rfl (by decide) (by decide) ?_
  exact ⟨rfl, S5⟩
theorem d12_0 : decode jdk_42_method_152_code 0 = .ok (.getstatic 38, 3) := by decide +kernel
theorem d12_3 : decode jdk_42_method_152_code 3 = .ok (.ifCond .eq 10, 3) := by decide +kernel
theorem d12_6 : decode jdk_42_method_152_code 6 = .ok (.aload_n 0, 1) := by decide +kernel
theorem d12_7 : decode jdk_42_method_152_code 7 = .ok (.getfield 15, 3) := by decide +kernel
theorem d12_10 : decode jdk_42_method_152_code 10 = .ok (.goto 4, 3) := by decide +kernel
theorem d12_14 : decode jdk_42_method_152_code 14 = .ok (.ireturn, 1) := by decide +kernel
abbrev rm_con_coderU : Room := { frames := 0, cells := 0, slots := 0, locals := 0 }
set_option maxRecDepth 65536 in
set_option maxHeartbeats 40000000 in
theorem con_coderU (l : Launch) {Z : State} {a0 : Array Value} (hw : ∀ d ∈ tables_1, d.before a0 Z = true) {n0 : Nat} {h0 : Heap} {a : Addr} {cs : List Int32} (S : U16 Z h0 a cs) (HC : Cst Z) :
    Con l Z true false ELs n0 (⟨"java/lang/String", "coder", "()B"⟩ : MethodName) jdk_42_method_152_code 1 (some .byte) rm_con_coderU [] #[(.ref a)] h0 [] (fun v h => v = some (.int 1) ∧ h = h0) := by
  refine Con.intro (plainFor_of_name pn_java_lang_String) (hELs hw) ?_
  intro p e s m below meth c hh G
  refine castRun (g' := mkF m 0 #[.val (.ref a)] []) (by first | rfl | (simp [entryFrame, mkF, argsToLocals, Value.category, maxLocals]; done)) ?_
  obtain ⟨E, ⟨b, FV, FC, A⟩, hch, hln⟩ := id S
  obtain ⟨cz, SC, hcz⟩ := id HC
  refine GoKit.gets G d12_0 (wi hw 40 rfl) Via.refl SC (pc' := 3) rfl ?_
  refine GoKit.if_eq_f G d12_3 hcz (pc' := 6) rfl ?_
  refine GoKit.aloadN G d12_6 rfl rfl (pc' := 7) rfl ?_
  refine GoKit.getf G d12_7 (wi hw 27 rfl) Via.refl FC (pc' := 10) rfl ?_
  refine GoKit.goto G d12_10 (by decide) (pc' := 14) rfl ?_
  refine GoKit.retNar G d12_14 (t := .byte) rfl (by simp) (by decide) (by decide) ?_
  exact ⟨rfl, rfl⟩
abbrev rm_con_coderL : Room := { frames := 0, cells := 0, slots := 0, locals := 0 }
set_option maxRecDepth 65536 in
set_option maxHeartbeats 40000000 in
theorem con_coderL (l : Launch) {Z : State} {a0 : Array Value} (hw : ∀ d ∈ tables_1, d.before a0 Z = true) {n0 : Nat} {h0 : Heap} {a : Addr} {cs : List Int32} (S : Lat Z h0 a cs) (HC : Cst Z) :
    Con l Z true false ELs n0 (⟨"java/lang/String", "coder", "()B"⟩ : MethodName) jdk_42_method_152_code 1 (some .byte) rm_con_coderL [] #[(.ref a)] h0 [] (fun v h => v = some (.int 0) ∧ h = h0) := by
  refine Con.intro (plainFor_of_name pn_java_lang_String) (hELs hw) ?_
  intro p e s m below meth c hh G
  refine castRun (g' := mkF m 0 #[.val (.ref a)] []) (by first | rfl | (simp [entryFrame, mkF, argsToLocals, Value.category, maxLocals]; done)) ?_
  obtain ⟨E, ⟨b, FV, FC, A⟩, hlat⟩ := id S
  obtain ⟨cz, SC, hcz⟩ := id HC
  refine GoKit.gets G d12_0 (wi hw 40 rfl) Via.refl SC (pc' := 3) rfl ?_
  refine GoKit.if_eq_f G d12_3 hcz (pc' := 6) rfl ?_
  refine GoKit.aloadN G d12_6 rfl rfl (pc' := 7) rfl ?_
  refine GoKit.getf G d12_7 (wi hw 27 rfl) Via.refl FC (pc' := 10) rfl ?_
  refine GoKit.goto G d12_10 (by decide) (pc' := 14) rfl ?_
  refine GoKit.retNar G d12_14 (t := .byte) rfl (by simp) (by decide) (by decide) ?_
  exact ⟨rfl, rfl⟩
theorem d11_0 : decode jdk_42_method_54_code 0 = .ok (.aload_n 0, 1) := by decide +kernel
theorem d11_1 : decode jdk_42_method_54_code 1 = .ok (.getfield 9, 3) := by decide +kernel
theorem d11_4 : decode jdk_42_method_54_code 4 = .ok (.arraylength, 1) := by decide +kernel
theorem d11_5 : decode jdk_42_method_54_code 5 = .ok (.aload_n 0, 1) := by decide +kernel
theorem d11_6 : decode jdk_42_method_54_code 6 = .ok (.invokevirtual 335, 3) := by decide +kernel
theorem pd_8 : parseMethodDescriptor "()B" = some ⟨[], some .byte⟩ := by decide +kernel
theorem d11_9 : decode jdk_42_method_54_code 9 = .ok (.ishr, 1) := by decide +kernel
theorem d11_10 : decode jdk_42_method_54_code 10 = .ok (.ireturn, 1) := by decide +kernel
abbrev rm_con_lenSL : Room := { frames := 1, cells := 0, slots := 0, locals := 13 }
set_option maxRecDepth 65536 in
set_option maxHeartbeats 40000000 in
theorem con_lenSL (l : Launch) {Z : State} {a0 : Array Value} (hw : ∀ d ∈ tables_1, d.before a0 Z = true) {n0 : Nat} {h0 : Heap} {a : Addr} {cs : List Int32} (S : Lat Z h0 a cs) (HC : Cst Z) :
    Con l Z true false ELs n0 (⟨"java/lang/String", "length", "()I"⟩ : MethodName) jdk_42_method_54_code 1 (some .int) rm_con_lenSL [] #[(.ref a)] h0 [] (fun v h => v = some (.int cs.length.toInt32) ∧ h = h0) := by
  refine Con.intro (plainFor_of_name pn_java_lang_String) (hELs hw) ?_
  intro p e s m below meth c hh G
  refine castRun (g' := mkF m 0 #[.val (.ref a)] []) (by first | rfl | (simp [entryFrame, mkF, argsToLocals, Value.category, maxLocals]; done)) ?_
  obtain ⟨E, ⟨b, FV, FC, A⟩, hlat⟩ := id S
  refine GoKit.aloadN G d11_0 rfl rfl (pc' := 1) rfl ?_
  refine GoKit.getf G d11_1 (wi hw 26 rfl) Via.refl FV (pc' := 4) rfl ?_
  refine GoKit.arrlenI G d11_4 A (z := cs.length.toInt32) (by simp) (pc' := 5) rfl ?_
  refine GoKit.aloadN G d11_5 rfl rfl (pc' := 6) rfl ?_
  refine GoKit.callVirtualP G d11_6 (wi hw 56 rfl) (wi hw 57 rfl) (wi hw 59 rfl) (wi hw 58 rfl) (wi hw 9 rfl) (wi hw 60 rfl) (by decide) E (W := 1) (argsL := []) (rest := [(.int cs.length.toInt32)]) (con_coderL l hw S HC) rfl (lenOf pd_8 rfl) rfl (by decide) (Nat.le_of_eq rfl) (by decide) (by decide) (by decide) (cells' := 0) (slots' := 0) rfl rfl (pc' := 9) rfl ?_
  show Run _ _ _ _ _ _ _ _ _ _ _ _ _ _ _ _ _ _ _ _ _ (mkF m 9 #[.val (.ref a)] [(.int 0), (.int cs.length.toInt32)])
  refine GoKit.ishr G d11_9 (pc' := 10) rfl (fun v1 hqv1 => ?_)
  refine GoKit.retInt G d11_10 rfl (by decide) (by decide) ?_
  exact ⟨by subst_vars; rw [sh0], rfl⟩
abbrev rm_con_lenSU : Room := { frames := 1, cells := 0, slots := 0, locals := 13 }
set_option maxRecDepth 65536 in
set_option maxHeartbeats 40000000 in
theorem con_lenSU (l : Launch) {Z : State} {a0 : Array Value} (hw : ∀ d ∈ tables_1, d.before a0 Z = true) {n0 : Nat} {h0 : Heap} {a : Addr} {cs : List Int32} (S : U16 Z h0 a cs) (HC : Cst Z) :
    Con l Z true false ELs n0 (⟨"java/lang/String", "length", "()I"⟩ : MethodName) jdk_42_method_54_code 1 (some .int) rm_con_lenSU [] #[(.ref a)] h0 [] (fun v h => v = some (.int cs.length.toInt32) ∧ h = h0) := by
  refine Con.intro (plainFor_of_name pn_java_lang_String) (hELs hw) ?_
  intro p e s m below meth c hh G
  refine castRun (g' := mkF m 0 #[.val (.ref a)] []) (by first | rfl | (simp [entryFrame, mkF, argsToLocals, Value.category, maxLocals]; done)) ?_
  obtain ⟨E, ⟨b, FV, FC, A⟩, hch, hln⟩ := id S
  refine GoKit.aloadN G d11_0 rfl rfl (pc' := 1) rfl ?_
  refine GoKit.getf G d11_1 (wi hw 26 rfl) Via.refl FV (pc' := 4) rfl ?_
  refine GoKit.arrlenI G d11_4 A (z := (2 * cs.length).toInt32) (by rw [u16_len]) (pc' := 5) rfl ?_
  refine GoKit.aloadN G d11_5 rfl rfl (pc' := 6) rfl ?_
  refine GoKit.callVirtualP G d11_6 (wi hw 56 rfl) (wi hw 57 rfl) (wi hw 59 rfl) (wi hw 58 rfl) (wi hw 9 rfl) (wi hw 60 rfl) (by decide) E (W := 1) (argsL := []) (rest := [(.int (2 * cs.length).toInt32)]) (con_coderU l hw S HC) rfl (lenOf pd_8 rfl) rfl (by decide) (Nat.le_of_eq rfl) (by decide) (by decide) (by decide) (cells' := 0) (slots' := 0) rfl rfl (pc' := 9) rfl ?_
  show Run _ _ _ _ _ _ _ _ _ _ _ _ _ _ _ _ _ _ _ _ _ (mkF m 9 #[.val (.ref a)] [(.int 1), (.int (2 * cs.length).toInt32)])
  refine GoKit.ishr G d11_9 (pc' := 10) rfl (fun v1 hqv1 => ?_)
  refine GoKit.retInt G d11_10 rfl (by decide) (by decide) ?_
  exact ⟨by subst_vars; rw [shr1 (by omega)], rfl⟩
theorem con_lenS (l : Launch) {Z : State} {a0 : Array Value} (hw : ∀ d ∈ tables_1, d.before a0 Z = true) {n0 : Nat} {h0 : Heap} {a : Addr} {cs : List Int32} (S : Str Z h0 a cs) (HC : Cst Z) :
    Con l Z true false ELs n0 (⟨"java/lang/String", "length", "()I"⟩ : MethodName) jdk_42_method_54_code 1 (some .int) rm_con_lenSL [] #[(.ref a)] h0 [] (fun v h => v = some (.int cs.length.toInt32) ∧ h = h0) := by
  rcases S with S | S
  · exact con_lenSL l hw S HC
  · exact con_lenSU l hw S HC
theorem d14_0 : decode jdk_42_method_154_code 0 = .ok (.getstatic 38, 3) := by decide +kernel
theorem d14_3 : decode jdk_42_method_154_code 3 = .ok (.ifCond .eq 14, 3) := by decide +kernel
theorem d14_6 : decode jdk_42_method_154_code 6 = .ok (.aload_n 0, 1) := by decide +kernel
theorem d14_7 : decode jdk_42_method_154_code 7 = .ok (.getfield 15, 3) := by decide +kernel
theorem d14_10 : decode jdk_42_method_154_code 10 = .ok (.ifCond .ne 7, 3) := by decide +kernel
theorem d14_13 : decode jdk_42_method_154_code 13 = .ok (.iconst 1, 1) := by decide +kernel
theorem d14_14 : decode jdk_42_method_154_code 14 = .ok (.goto 4, 3) := by decide +kernel
theorem d14_18 : decode jdk_42_method_154_code 18 = .ok (.ireturn, 1) := by decide +kernel
abbrev rm_con_isLatL : Room := { frames := 0, cells := 0, slots := 0, locals := 0 }
set_option maxRecDepth 65536 in
set_option maxHeartbeats 40000000 in
theorem con_isLatL (l : Launch) {Z : State} {a0 : Array Value} (hw : ∀ d ∈ tables_1, d.before a0 Z = true) {n0 : Nat} {h0 : Heap} {a : Addr} {cs : List Int32} (S : Lat Z h0 a cs) (HC : Cst Z) :
    Con l Z true false ELs n0 (⟨"java/lang/String", "isLatin1", "()Z"⟩ : MethodName) jdk_42_method_154_code 1 (some .boolean) rm_con_isLatL [] #[(.ref a)] h0 [] (fun v h => v = some (.int 1) ∧ h = h0) := by
  refine Con.intro (plainFor_of_name pn_java_lang_String) (hELs hw) ?_
  intro p e s m below meth c hh G
  refine castRun (g' := mkF m 0 #[.val (.ref a)] []) (by first | rfl | (simp [entryFrame, mkF, argsToLocals, Value.category, maxLocals]; done)) ?_
  obtain ⟨E, ⟨b, FV, FC, A⟩, hlat⟩ := id S
  obtain ⟨cz, SC, hcz⟩ := id HC
  refine GoKit.gets G d14_0 (wi hw 40 rfl) Via.refl SC (pc' := 3) rfl ?_
  refine GoKit.if_eq_f G d14_3 hcz (pc' := 6) rfl ?_
  refine GoKit.aloadN G d14_6 rfl rfl (pc' := 7) rfl ?_
  refine GoKit.getf G d14_7 (wi hw 27 rfl) Via.refl FC (pc' := 10) rfl ?_
  refine GoKit.if_ne_f G d14_10 rfl (pc' := 13) rfl ?_
  refine GoKit.iconst G (1 : Int32) d14_13 rfl (pc' := 14) rfl ?_
  refine GoKit.goto G d14_14 (by decide) (pc' := 18) rfl ?_
  refine GoKit.retNar G d14_18 (t := .boolean) rfl (by simp) (by decide) (by decide) ?_
  exact ⟨rfl, rfl⟩
theorem d14_17 : decode jdk_42_method_154_code 17 = .ok (.iconst 0, 1) := by decide +kernel
abbrev rm_con_isLatU : Room := { frames := 0, cells := 0, slots := 0, locals := 0 }
set_option maxRecDepth 65536 in
set_option maxHeartbeats 40000000 in
theorem con_isLatU (l : Launch) {Z : State} {a0 : Array Value} (hw : ∀ d ∈ tables_1, d.before a0 Z = true) {n0 : Nat} {h0 : Heap} {a : Addr} {cs : List Int32} (S : U16 Z h0 a cs) (HC : Cst Z) :
    Con l Z true false ELs n0 (⟨"java/lang/String", "isLatin1", "()Z"⟩ : MethodName) jdk_42_method_154_code 1 (some .boolean) rm_con_isLatU [] #[(.ref a)] h0 [] (fun v h => v = some (.int 0) ∧ h = h0) := by
  refine Con.intro (plainFor_of_name pn_java_lang_String) (hELs hw) ?_
  intro p e s m below meth c hh G
  refine castRun (g' := mkF m 0 #[.val (.ref a)] []) (by first | rfl | (simp [entryFrame, mkF, argsToLocals, Value.category, maxLocals]; done)) ?_
  obtain ⟨E, ⟨b, FV, FC, A⟩, hch, hln⟩ := id S
  obtain ⟨cz, SC, hcz⟩ := id HC
  refine GoKit.gets G d14_0 (wi hw 40 rfl) Via.refl SC (pc' := 3) rfl ?_
  refine GoKit.if_eq_f G d14_3 hcz (pc' := 6) rfl ?_
  refine GoKit.aloadN G d14_6 rfl rfl (pc' := 7) rfl ?_
  refine GoKit.getf G d14_7 (wi hw 27 rfl) Via.refl FC (pc' := 10) rfl ?_
  refine GoKit.if_ne_t G d14_10 (by decide) (by decide) (pc' := 17) rfl ?_
  refine GoKit.iconst G (0 : Int32) d14_17 rfl (pc' := 18) rfl ?_
  refine GoKit.retNar G d14_18 (t := .boolean) rfl (by simp) (by decide) (by decide) ?_
  exact ⟨rfl, rfl⟩
/-- the formatter's static is a reference -/
def Frm (Z : State) : Prop := ∃ fv : Value, Sta Z Z.heap "jdk/internal/util/Preconditions" "SIOOBE_FORMATTER" "Ljava/util/function/BiFunction;" fv ∧ fv.isRef = true
theorem lo8_mask (c : Int32) (h : 0 ≤ c.toInt ∧ c.toInt < 256) : nar .char ((c.toInt8.toInt32 &&& 255).toUInt32.toUInt16.toUInt32.toInt32) = c := by
  obtain ⟨n, hn, rfl⟩ : ∃ n : Nat, n < 256 ∧ c = Int32.ofNat n := by
    refine ⟨c.toInt.toNat, by omega, ?_⟩
    apply Int32.toInt_inj.mp
    rw [show Int32.ofNat c.toInt.toNat = c.toInt.toNat.toInt32 from rfl, toI_toInt (by omega)]; omega
  revert n; decide +kernel
theorem d17_0 : decode jdk_41_method_11_code 0 = .ok (.iload_n 0, 1) := by decide +kernel
theorem d17_1 : decode jdk_41_method_11_code 1 = .ok (.ifCond .lt 8, 3) := by decide +kernel
theorem d17_4 : decode jdk_41_method_11_code 4 = .ok (.iload_n 0, 1) := by decide +kernel
theorem d17_5 : decode jdk_41_method_11_code 5 = .ok (.iload_n 1, 1) := by decide +kernel
theorem d17_6 : decode jdk_41_method_11_code 6 = .ok (.if_icmp .lt 10, 3) := by decide +kernel
theorem d17_16 : decode jdk_41_method_11_code 16 = .ok (.iload_n 0, 1) := by decide +kernel
theorem d17_17 : decode jdk_41_method_11_code 17 = .ok (.ireturn, 1) := by decide +kernel
theorem pn_jdk_internal_util_Preconditions : plainName "jdk/internal/util/Preconditions" = true := by first | (simp [plainName, overriddenIn]; done) | decide +kernel
abbrev rm_con_preCheck : Room := { frames := 0, cells := 0, slots := 0, locals := 0 }
set_option maxRecDepth 65536 in
set_option maxHeartbeats 40000000 in
theorem con_preCheck (l : Launch) {Z : State} {a0 : Array Value} (hw : ∀ d ∈ tables_1, d.before a0 Z = true) {n0 : Nat} {h0 : Heap} {j z : Int32} {fv : Value} (hfv : fv.isRef = true) (hj0 : ¬ j < 0) (hjn : j < z) :
    Con l Z true false ELs n0 (⟨"jdk/internal/util/Preconditions", "checkIndex", "(IILjava/util/function/BiFunction;)I"⟩ : MethodName) jdk_41_method_11_code 3 (some .int) rm_con_preCheck [] #[(.int j), (.int z), fv] h0 [] (fun v h => v = some (.int j) ∧ h = h0) := by
  refine Con.intro (plainFor_of_name pn_jdk_internal_util_Preconditions) (hELs hw) ?_
  intro p e s m below meth c hh G
  refine castRun (g' := mkF m 0 #[.val (.int j), .val (.int z), .val fv] []) (by rcases ref_cases hfv with rfl | ⟨r, rfl⟩ <;> rfl) ?_
  refine GoKit.iloadN G d17_0 rfl (pc' := 1) rfl ?_
  refine GoKit.if_lt_f G d17_1 hj0 (pc' := 4) rfl ?_
  refine GoKit.iloadN G d17_4 rfl (pc' := 5) rfl ?_
  refine GoKit.iloadN G d17_5 rfl (pc' := 6) rfl ?_
  refine GoKit.icmp_lt_t G d17_6 hjn (by decide) (pc' := 16) rfl ?_
  refine GoKit.iloadN G d17_16 rfl (pc' := 17) rfl ?_
  refine GoKit.retInt G d17_17 rfl (by decide) (by decide) ?_
  exact ⟨rfl, rfl⟩
theorem d16_0 : decode jdk_42_method_155_code 0 = .ok (.iload_n 0, 1) := by decide +kernel
theorem d16_1 : decode jdk_42_method_155_code 1 = .ok (.iload_n 1, 1) := by decide +kernel
theorem d16_2 : decode jdk_42_method_155_code 2 = .ok (.getstatic 1053, 3) := by decide +kernel
theorem d16_5 : decode jdk_42_method_155_code 5 = .ok (.invokestatic 1059, 3) := by decide +kernel
theorem pd_9 : parseMethodDescriptor "(IILjava/util/function/BiFunction;)I" = some ⟨[.int, .int, (.object "java/util/function/BiFunction")], some .int⟩ := by decide +kernel
theorem d16_8 : decode jdk_42_method_155_code 8 = .ok (.pop, 1) := by decide +kernel
theorem d16_9 : decode jdk_42_method_155_code 9 = .ok (.return_, 1) := by decide +kernel
abbrev rm_con_checkIndex : Room := { frames := 1, cells := 0, slots := 0, locals := 14 }
set_option maxRecDepth 65536 in
set_option maxHeartbeats 40000000 in
theorem con_checkIndex (l : Launch) {Z : State} {a0 : Array Value} (hw : ∀ d ∈ tables_1, d.before a0 Z = true) {n0 : Nat} {h0 : Heap} {j z : Int32} (HF : Frm Z) (hj0 : ¬ j < 0) (hjn : j < z) :
    Con l Z true false ELs n0 (⟨"java/lang/String", "checkIndex", "(II)V"⟩ : MethodName) jdk_42_method_155_code 2 none rm_con_checkIndex [] #[(.int j), (.int z)] h0 [] (fun v h => v = none ∧ h = h0) := by
  refine Con.intro (plainFor_of_name pn_java_lang_String) (hELs hw) ?_
  intro p e s m below meth c hh G
  refine castRun (g' := mkF m 0 #[.val (.int j), .val (.int z)] []) (by first | rfl | (simp [entryFrame, mkF, argsToLocals, Value.category, maxLocals]; done)) ?_
  obtain ⟨fv, SF, hfv⟩ := id HF
  refine GoKit.iloadN G d16_0 rfl (pc' := 1) rfl ?_
  refine GoKit.iloadN G d16_1 rfl (pc' := 2) rfl ?_
  refine GoKit.gets G d16_2 (wi hw 78 rfl) Via.refl SF (pc' := 5) rfl ?_
  refine GoKit.callStaticP G d16_5 (wi hw 80 rfl) (wi hw 81 rfl) (wi hw 79 rfl) (wi hw 82 rfl) (by decide) (W := 0) (argsL := [(.int j), (.int z), fv]) (rest := []) (con_preCheck l hw hfv hj0 hjn) rfl (lenOf pd_9 rfl) rfl (by decide) (Nat.le_of_eq rfl) (by decide) (by decide) (by decide) (cells' := 0) (slots' := 0) rfl rfl (pc' := 8) rfl ?_
  show Run _ _ _ _ _ _ _ _ _ _ _ _ _ _ _ _ _ _ _ _ _ (mkF m 8 #[.val (.int j), .val (.int z)] [(.int j)])
  refine GoKit.pop G d16_8 rfl (pc' := 9) rfl ?_
  refine GoKit.retVoid G d16_9 rfl (by decide) (by decide) ?_
  exact ⟨rfl, rfl⟩
theorem d15_0 : decode jdk_43_method_2_code 0 = .ok (.iload_n 1, 1) := by decide +kernel
theorem d15_1 : decode jdk_43_method_2_code 1 = .ok (.aload_n 0, 1) := by decide +kernel
theorem d15_2 : decode jdk_43_method_2_code 2 = .ok (.arraylength, 1) := by decide +kernel
theorem d15_3 : decode jdk_43_method_2_code 3 = .ok (.invokestatic 9, 3) := by decide +kernel
theorem pd_10 : parseMethodDescriptor "(II)V" = some ⟨[.int, .int], none⟩ := by decide +kernel
theorem d15_6 : decode jdk_43_method_2_code 6 = .ok (.aload_n 0, 1) := by decide +kernel
theorem d15_7 : decode jdk_43_method_2_code 7 = .ok (.iload_n 1, 1) := by decide +kernel
theorem d15_8 : decode jdk_43_method_2_code 8 = .ok (.baload, 1) := by decide +kernel
theorem d15_9 : decode jdk_43_method_2_code 9 = .ok (.sipush 255, 3) := by decide +kernel
theorem d15_12 : decode jdk_43_method_2_code 12 = .ok (.iand, 1) := by decide +kernel
theorem d15_13 : decode jdk_43_method_2_code 13 = .ok (.i2c, 1) := by decide +kernel
theorem d15_14 : decode jdk_43_method_2_code 14 = .ok (.ireturn, 1) := by decide +kernel
theorem pn_java_lang_StringLatin1 : plainName "java/lang/StringLatin1" = true := by first | (simp [plainName, overriddenIn]; done) | decide +kernel
abbrev rm_con_latCharAt : Room := { frames := 2, cells := 0, slots := 0, locals := 27 }
set_option maxRecDepth 65536 in
set_option maxHeartbeats 40000000 in
theorem con_latCharAt (l : Launch) {Z : State} {a0 : Array Value} (hw : ∀ d ∈ tables_1, d.before a0 Z = true) {n0 : Nat} {h0 : Heap} {b : Addr} {cs : List Int32} {i : Nat} {ch : Int32} (A : IA Z h0 b .byte (cs.map fun c => c.toInt8.toInt32)) (hlat : ∀ c ∈ cs, 0 ≤ c.toInt ∧ c.toInt < 256) (hi : cs[i]? = some ch) (HF : Frm Z) :
    Con l Z true false ELs n0 (⟨"java/lang/StringLatin1", "charAt", "([BI)C"⟩ : MethodName) jdk_43_method_2_code 2 (some .char) rm_con_latCharAt [] #[(.ref b), (.int i.toInt32)] h0 [] (fun v h => v = some (.int ch) ∧ h = h0) := by
  refine Con.intro (plainFor_of_name pn_java_lang_StringLatin1) (hELs hw) ?_
  intro p e s m below meth c hh G
  refine castRun (g' := mkF m 0 #[.val (.ref b), .val (.int i.toInt32)] []) (by first | rfl | (simp [entryFrame, mkF, argsToLocals, Value.category, maxLocals]; done)) ?_
  have hil := (List.getElem?_eq_some_iff.mp hi).1
  have hl := A.len
  rw [List.length_map] at hl
  refine GoKit.iloadN G d15_0 rfl (pc' := 1) rfl ?_
  refine GoKit.aloadN G d15_1 rfl rfl (pc' := 2) rfl ?_
  refine GoKit.arrlenI G d15_2 A (z := cs.length.toInt32) (by simp) (pc' := 3) rfl ?_
  refine GoKit.callStaticP G d15_3 (wi hw 75 rfl) (wi hw 76 rfl) (wi hw 9 rfl) (wi hw 77 rfl) (by decide) (W := 0) (argsL := [(.int i.toInt32), (.int cs.length.toInt32)]) (rest := []) (con_checkIndex l hw HF (toI_nn (by omega)) ((toI_lt (by omega) (by omega)).mpr hil)) rfl (lenOf pd_10 rfl) rfl (by decide) (Nat.le_of_eq rfl) (by decide) (by decide) (by decide) (cells' := 0) (slots' := 0) rfl rfl (pc' := 6) rfl ?_
  show Run _ _ _ _ _ _ _ _ _ _ _ _ _ _ _ _ _ _ _ _ _ (mkF m 6 #[.val (.ref b), .val (.int i.toInt32)] [])
  refine GoKit.aloadN G d15_6 rfl rfl (pc' := 7) rfl ?_
  refine GoKit.iloadN G d15_7 rfl (pc' := 8) rfl ?_
  refine GoKit.baloadI G d15_8 A (i := i) (toI_clamp (by omega)) (toI_nn (by omega)) (x := ch.toInt8.toInt32) (by simp [hi]) (pc' := 9) rfl ?_
  refine GoKit.sipush G (255 : Int32) d15_9 rfl (pc' := 12) rfl ?_
  refine GoKit.iand G d15_12 (pc' := 13) rfl (fun v1 hqv1 => ?_)
  refine GoKit.i2c G d15_13 (pc' := 14) rfl (fun v2 hqv2 => ?_)
  have l3 := ch8 _ _ _ hqv1 hqv2
  have c4 : nar .char v2 = v2 := by rw [hqv2]; exact nar_i2c _
  refine GoKit.retNar G d15_14 (t := .char) rfl (by simp) (by decide) (by decide) ?_
  exact ⟨by subst_vars; rw [lo8_mask ch (hlat ch (List.mem_of_getElem? hi))], rfl⟩
theorem d25_0 : decode jdk_52_method_6_code 0 = .ok (.aload_n 0, 1) := by decide +kernel
theorem d25_1 : decode jdk_52_method_6_code 1 = .ok (.arraylength, 1) := by decide +kernel
theorem d25_2 : decode jdk_52_method_6_code 2 = .ok (.iconst 1, 1) := by decide +kernel
theorem d25_3 : decode jdk_52_method_6_code 3 = .ok (.ishr, 1) := by decide +kernel
theorem d25_4 : decode jdk_52_method_6_code 4 = .ok (.ireturn, 1) := by decide +kernel
abbrev rm_con_uLen : Room := { frames := 0, cells := 0, slots := 0, locals := 0 }
set_option maxRecDepth 65536 in
set_option maxHeartbeats 40000000 in
theorem con_uLen (l : Launch) {Z : State} {a0 : Array Value} (hw : ∀ d ∈ tables_1, d.before a0 Z = true) {n0 : Nat} {h0 : Heap} {b : Addr} {cs : List Int32} (A : IA Z h0 b .byte (u16 cs)) (hln : cs.length < 2 ^ 29) :
    Con l Z true false ELs n0 (⟨"java/lang/StringUTF16", "length", "([B)I"⟩ : MethodName) jdk_52_method_6_code 1 (some .int) rm_con_uLen [] #[(.ref b)] h0 [] (fun v h => v = some (.int cs.length.toInt32) ∧ h = h0) := by
  refine Con.intro (plainFor_of_name pn_java_lang_StringUTF16) (hELs hw) ?_
  intro p e s m below meth c hh G
  refine castRun (g' := mkF m 0 #[.val (.ref b)] []) (by first | rfl | (simp [entryFrame, mkF, argsToLocals, Value.category, maxLocals]; done)) ?_
  refine GoKit.aloadN G d25_0 rfl rfl (pc' := 1) rfl ?_
  refine GoKit.arrlenI G d25_1 A (z := (2 * cs.length).toInt32) (by rw [u16_len]) (pc' := 2) rfl ?_
  refine GoKit.iconst G (1 : Int32) d25_2 rfl (pc' := 3) rfl ?_
  refine GoKit.ishr G d25_3 (pc' := 4) rfl (fun v1 hqv1 => ?_)
  refine GoKit.retInt G d25_4 rfl (by decide) (by decide) ?_
  exact ⟨by subst_vars; rw [shr1 (by omega)], rfl⟩
theorem d24_0 : decode jdk_52_method_91_code 0 = .ok (.iload_n 0, 1) := by decide +kernel
theorem d24_1 : decode jdk_52_method_91_code 1 = .ok (.aload_n 1, 1) := by decide +kernel
theorem d24_2 : decode jdk_52_method_91_code 2 = .ok (.invokestatic 48, 3) := by decide +kernel
theorem pd_11 : parseMethodDescriptor "([B)I" = some ⟨[(.array .byte)], some .int⟩ := by decide +kernel
theorem d24_5 : decode jdk_52_method_91_code 5 = .ok (.invokestatic 414, 3) := by decide +kernel
theorem d24_8 : decode jdk_52_method_91_code 8 = .ok (.return_, 1) := by decide +kernel
abbrev rm_con_uCheck : Room := { frames := 2, cells := 0, slots := 0, locals := 27 }
set_option maxRecDepth 65536 in
set_option maxHeartbeats 40000000 in
theorem con_uCheck (l : Launch) {Z : State} {a0 : Array Value} (hw : ∀ d ∈ tables_1, d.before a0 Z = true) {n0 : Nat} {h0 : Heap} {b : Addr} {cs : List Int32} {i : Nat} {ch : Int32} (A : IA Z h0 b .byte (u16 cs)) (hln : cs.length < 2 ^ 29) (hi : cs[i]? = some ch) (HF : Frm Z) :
    Con l Z true false ELs n0 (⟨"java/lang/StringUTF16", "checkIndex", "(I[B)V"⟩ : MethodName) jdk_52_method_91_code 2 none rm_con_uCheck [] #[(.int i.toInt32), (.ref b)] h0 [] (fun v h => v = none ∧ h = h0) := by
  refine Con.intro (plainFor_of_name pn_java_lang_StringUTF16) (hELs hw) ?_
  intro p e s m below meth c hh G
  refine castRun (g' := mkF m 0 #[.val (.int i.toInt32), .val (.ref b)] []) (by first | rfl | (simp [entryFrame, mkF, argsToLocals, Value.category, maxLocals]; done)) ?_
  have hil := (List.getElem?_eq_some_iff.mp hi).1
  refine GoKit.iloadN G d24_0 rfl (pc' := 1) rfl ?_
  refine GoKit.aloadN G d24_1 rfl rfl (pc' := 2) rfl ?_
  refine GoKit.callStaticP G d24_2 (wi hw 108 rfl) (wi hw 109 rfl) (wi hw 43 rfl) (wi hw 110 rfl) (by decide) (W := 1) (argsL := [(.ref b)]) (rest := [(.int i.toInt32)]) (con_uLen l hw A hln) rfl (lenOf pd_11 rfl) rfl (by decide) (Nat.le_of_eq rfl) (by decide) (by decide) (by decide) (cells' := 0) (slots' := 0) rfl rfl (pc' := 5) rfl ?_
  show Run _ _ _ _ _ _ _ _ _ _ _ _ _ _ _ _ _ _ _ _ _ (mkF m 5 #[.val (.int i.toInt32), .val (.ref b)] [(.int cs.length.toInt32), (.int i.toInt32)])
  refine GoKit.callStaticP G d24_5 (wi hw 111 rfl) (wi hw 76 rfl) (wi hw 9 rfl) (wi hw 77 rfl) (by decide) (W := 0) (argsL := [(.int i.toInt32), (.int cs.length.toInt32)]) (rest := []) (con_checkIndex l hw HF (toI_nn (by omega)) ((toI_lt (by omega) (by omega)).mpr hil)) rfl (lenOf pd_10 rfl) rfl (by decide) (Nat.le_of_eq rfl) (by decide) (by decide) (by decide) (cells' := 0) (slots' := 0) rfl rfl (pc' := 8) rfl ?_
  show Run _ _ _ _ _ _ _ _ _ _ _ _ _ _ _ _ _ _ _ _ _ (mkF m 8 #[.val (.int i.toInt32), .val (.ref b)] [])
  refine GoKit.retVoid G d24_8 rfl (by decide) (by decide) ?_
  exact ⟨rfl, rfl⟩
theorem d23_0 : decode jdk_52_method_83_code 0 = .ok (.iload_n 1, 1) := by decide +kernel
theorem d23_1 : decode jdk_52_method_83_code 1 = .ok (.aload_n 0, 1) := by decide +kernel
theorem d23_2 : decode jdk_52_method_83_code 2 = .ok (.invokestatic 67, 3) := by decide +kernel
theorem pd_12 : parseMethodDescriptor "(I[B)V" = some ⟨[.int, (.array .byte)], none⟩ := by decide +kernel
theorem d23_5 : decode jdk_52_method_83_code 5 = .ok (.aload_n 0, 1) := by decide +kernel
theorem d23_6 : decode jdk_52_method_83_code 6 = .ok (.iload_n 1, 1) := by decide +kernel
theorem d23_7 : decode jdk_52_method_83_code 7 = .ok (.invokestatic 71, 3) := by decide +kernel
theorem d23_10 : decode jdk_52_method_83_code 10 = .ok (.ireturn, 1) := by decide +kernel
abbrev rm_con_uCharAt : Room := { frames := 3, cells := 0, slots := 0, locals := 40 }
set_option maxRecDepth 65536 in
set_option maxHeartbeats 40000000 in
theorem con_uCharAt (l : Launch) {Z : State} {a0 : Array Value} (hw : ∀ d ∈ tables_1, d.before a0 Z = true) {n0 : Nat} {h0 : Heap} {b : Addr} {cs : List Int32} {i : Nat} {ch : Int32} (A : IA Z h0 b .byte (u16 cs)) (hch : ∀ c ∈ cs, 0 ≤ c.toInt ∧ c.toInt < 65536) (hln : cs.length < 2 ^ 29) (hi : cs[i]? = some ch) (HF : Frm Z) (HU : Ust Z) :
    Con l Z true false ELs n0 (⟨"java/lang/StringUTF16", "charAt", "([BI)C"⟩ : MethodName) jdk_52_method_83_code 2 (some .char) rm_con_uCharAt [] #[(.ref b), (.int i.toInt32)] h0 [] (fun v h => v = some (.int ch) ∧ h = h0) := by
  refine Con.intro (plainFor_of_name pn_java_lang_StringUTF16) (hELs hw) ?_
  intro p e s m below meth c hh G
  refine castRun (g' := mkF m 0 #[.val (.ref b), .val (.int i.toInt32)] []) (by first | rfl | (simp [entryFrame, mkF, argsToLocals, Value.category, maxLocals]; done)) ?_
  refine GoKit.iloadN G d23_0 rfl (pc' := 1) rfl ?_
  refine GoKit.aloadN G d23_1 rfl rfl (pc' := 2) rfl ?_
  refine GoKit.callStaticP G d23_2 (wi hw 105 rfl) (wi hw 106 rfl) (wi hw 43 rfl) (wi hw 107 rfl) (by decide) (W := 0) (argsL := [(.int i.toInt32), (.ref b)]) (rest := []) (con_uCheck l hw A hln hi HF) rfl (lenOf pd_12 rfl) rfl (by decide) (Nat.le_of_eq rfl) (by decide) (by decide) (by decide) (cells' := 0) (slots' := 0) rfl rfl (pc' := 5) rfl ?_
  show Run _ _ _ _ _ _ _ _ _ _ _ _ _ _ _ _ _ _ _ _ _ (mkF m 5 #[.val (.ref b), .val (.int i.toInt32)] [])
  refine GoKit.aloadN G d23_5 rfl rfl (pc' := 6) rfl ?_
  refine GoKit.iloadN G d23_6 rfl (pc' := 7) rfl ?_
  refine GoKit.callStaticP G d23_7 (wi hw 99 rfl) (wi hw 100 rfl) (wi hw 43 rfl) (wi hw 101 rfl) (by decide) (W := 0) (argsL := [(.ref b), (.int i.toInt32)]) (rest := []) (con_getChar l hw A hi hch HU) rfl (lenOf pd_7 rfl) rfl (by decide) (Nat.le_of_eq rfl) (by decide) (by decide) (by decide) (cells' := 0) (slots' := 0) rfl rfl (pc' := 10) rfl ?_
  show Run _ _ _ _ _ _ _ _ _ _ _ _ _ _ _ _ _ _ _ _ _ (mkF m 10 #[.val (.ref b), .val (.int i.toInt32)] [(.int ch)])
  refine GoKit.retNar G d23_10 (t := .char) rfl (by simp) (by decide) (by decide) ?_
  exact ⟨by rw [nar16 (hch ch (List.mem_of_getElem? hi))], rfl⟩
theorem d13_0 : decode jdk_42_method_56_code 0 = .ok (.aload_n 0, 1) := by decide +kernel
theorem d13_1 : decode jdk_42_method_56_code 1 = .ok (.invokevirtual 492, 3) := by decide +kernel
theorem pd_13 : parseMethodDescriptor "()Z" = some ⟨[], some .boolean⟩ := by decide +kernel
theorem d13_4 : decode jdk_42_method_56_code 4 = .ok (.ifCond .eq 12, 3) := by decide +kernel
theorem d13_7 : decode jdk_42_method_56_code 7 = .ok (.aload_n 0, 1) := by decide +kernel
theorem d13_8 : decode jdk_42_method_56_code 8 = .ok (.getfield 9, 3) := by decide +kernel
theorem d13_11 : decode jdk_42_method_56_code 11 = .ok (.iload_n 1, 1) := by decide +kernel
theorem d13_12 : decode jdk_42_method_56_code 12 = .ok (.invokestatic 495, 3) := by decide +kernel
theorem d13_15 : decode jdk_42_method_56_code 15 = .ok (.ireturn, 1) := by decide +kernel
abbrev rm_con_charSL : Room := { frames := 4, cells := 0, slots := 0, locals := 53 }
set_option maxRecDepth 65536 in
set_option maxHeartbeats 40000000 in
theorem con_charSL (l : Launch) {Z : State} {a0 : Array Value} (hw : ∀ d ∈ tables_1, d.before a0 Z = true) {n0 : Nat} {h0 : Heap} {a : Addr} {cs : List Int32} (S : Lat Z h0 a cs) {i : Nat} {ch : Int32} (hi : cs[i]? = some ch) (HC : Cst Z) (HF : Frm Z) (HU : Ust Z) :
    Con l Z true false ELs n0 (⟨"java/lang/String", "charAt", "(I)C"⟩ : MethodName) jdk_42_method_56_code 2 (some .char) rm_con_charSL [] #[(.ref a), (.int i.toInt32)] h0 [] (fun v h => v = some (.int ch) ∧ h = h0) := by
  refine Con.intro (plainFor_of_name pn_java_lang_String) (hELs hw) ?_
  intro p e s m below meth c hh G
  refine castRun (g' := mkF m 0 #[.val (.ref a), .val (.int i.toInt32)] []) (by first | rfl | (simp [entryFrame, mkF, argsToLocals, Value.category, maxLocals]; done)) ?_
  obtain ⟨E, ⟨b, FV, FC, A⟩, hlat⟩ := id S
  refine GoKit.aloadN G d13_0 rfl rfl (pc' := 1) rfl ?_
  refine GoKit.callVirtualP G d13_1 (wi hw 66 rfl) (wi hw 67 rfl) (wi hw 69 rfl) (wi hw 68 rfl) (wi hw 9 rfl) (wi hw 70 rfl) (by decide) E (W := 0) (argsL := []) (rest := []) (con_isLatL l hw S HC) rfl (lenOf pd_13 rfl) rfl (by decide) (Nat.le_of_eq rfl) (by decide) (by decide) (by decide) (cells' := 0) (slots' := 0) rfl rfl (pc' := 4) rfl ?_
  show Run _ _ _ _ _ _ _ _ _ _ _ _ _ _ _ _ _ _ _ _ _ (mkF m 4 #[.val (.ref a), .val (.int i.toInt32)] [(.int 1)])
  refine GoKit.if_eq_f G d13_4 (by decide) (pc' := 7) rfl ?_
  refine GoKit.aloadN G d13_7 rfl rfl (pc' := 8) rfl ?_
  refine GoKit.getf G d13_8 (wi hw 26 rfl) Via.refl FV (pc' := 11) rfl ?_
  refine GoKit.iloadN G d13_11 rfl (pc' := 12) rfl ?_
  refine GoKit.callStaticP G d13_12 (wi hw 71 rfl) (wi hw 72 rfl) (wi hw 73 rfl) (wi hw 74 rfl) (by decide) (W := 0) (argsL := [(.ref b), (.int i.toInt32)]) (rest := []) (con_latCharAt l hw A hlat hi HF) rfl (lenOf pd_7 rfl) rfl (by decide) (Nat.le_of_eq rfl) (by decide) (by decide) (by decide) (cells' := 0) (slots' := 0) rfl rfl (pc' := 15) rfl ?_
  show Run _ _ _ _ _ _ _ _ _ _ _ _ _ _ _ _ _ _ _ _ _ (mkF m 15 #[.val (.ref a), .val (.int i.toInt32)] [(.int ch)])
  refine GoKit.retNar G d13_15 (t := .char) rfl (by simp) (by decide) (by decide) ?_
  exact ⟨by rw [nar16 (by have := hlat ch (List.mem_of_getElem? hi); omega)], rfl⟩
theorem d13_16 : decode jdk_42_method_56_code 16 = .ok (.aload_n 0, 1) := by decide +kernel
theorem d13_17 : decode jdk_42_method_56_code 17 = .ok (.getfield 9, 3) := by decide +kernel
theorem d13_20 : decode jdk_42_method_56_code 20 = .ok (.iload_n 1, 1) := by decide +kernel
theorem d13_21 : decode jdk_42_method_56_code 21 = .ok (.invokestatic 498, 3) := by decide +kernel
theorem d13_24 : decode jdk_42_method_56_code 24 = .ok (.ireturn, 1) := by decide +kernel
abbrev rm_con_charSU : Room := { frames := 4, cells := 0, slots := 0, locals := 53 }
set_option maxRecDepth 65536 in
set_option maxHeartbeats 40000000 in
theorem con_charSU (l : Launch) {Z : State} {a0 : Array Value} (hw : ∀ d ∈ tables_1, d.before a0 Z = true) {n0 : Nat} {h0 : Heap} {a : Addr} {cs : List Int32} (S : U16 Z h0 a cs) {i : Nat} {ch : Int32} (hi : cs[i]? = some ch) (HC : Cst Z) (HF : Frm Z) (HU : Ust Z) :
    Con l Z true false ELs n0 (⟨"java/lang/String", "charAt", "(I)C"⟩ : MethodName) jdk_42_method_56_code 2 (some .char) rm_con_charSU [] #[(.ref a), (.int i.toInt32)] h0 [] (fun v h => v = some (.int ch) ∧ h = h0) := by
  refine Con.intro (plainFor_of_name pn_java_lang_String) (hELs hw) ?_
  intro p e s m below meth c hh G
  refine castRun (g' := mkF m 0 #[.val (.ref a), .val (.int i.toInt32)] []) (by first | rfl | (simp [entryFrame, mkF, argsToLocals, Value.category, maxLocals]; done)) ?_
  obtain ⟨E, ⟨b, FV, FC, A⟩, hch, hln⟩ := id S
  refine GoKit.aloadN G d13_0 rfl rfl (pc' := 1) rfl ?_
  refine GoKit.callVirtualP G d13_1 (wi hw 66 rfl) (wi hw 67 rfl) (wi hw 69 rfl) (wi hw 68 rfl) (wi hw 9 rfl) (wi hw 70 rfl) (by decide) E (W := 0) (argsL := []) (rest := []) (con_isLatU l hw S HC) rfl (lenOf pd_13 rfl) rfl (by decide) (Nat.le_of_eq rfl) (by decide) (by decide) (by decide) (cells' := 0) (slots' := 0) rfl rfl (pc' := 4) rfl ?_
  show Run _ _ _ _ _ _ _ _ _ _ _ _ _ _ _ _ _ _ _ _ _ (mkF m 4 #[.val (.ref a), .val (.int i.toInt32)] [(.int 0)])
  refine GoKit.if_eq_t G d13_4 (by decide) (by decide) (pc' := 16) rfl ?_
  refine GoKit.aloadN G d13_16 rfl rfl (pc' := 17) rfl ?_
  refine GoKit.getf G d13_17 (wi hw 26 rfl) Via.refl FV (pc' := 20) rfl ?_
  refine GoKit.iloadN G d13_20 rfl (pc' := 21) rfl ?_
  refine GoKit.callStaticP G d13_21 (wi hw 102 rfl) (wi hw 103 rfl) (wi hw 43 rfl) (wi hw 104 rfl) (by decide) (W := 0) (argsL := [(.ref b), (.int i.toInt32)]) (rest := []) (con_uCharAt l hw A hch hln hi HF HU) rfl (lenOf pd_7 rfl) rfl (by decide) (Nat.le_of_eq rfl) (by decide) (by decide) (by decide) (cells' := 0) (slots' := 0) rfl rfl (pc' := 24) rfl ?_
  show Run _ _ _ _ _ _ _ _ _ _ _ _ _ _ _ _ _ _ _ _ _ (mkF m 24 #[.val (.ref a), .val (.int i.toInt32)] [(.int ch)])
  refine GoKit.retNar G d13_24 (t := .char) rfl (by simp) (by decide) (by decide) ?_
  exact ⟨by rw [nar16 (hch ch (List.mem_of_getElem? hi))], rfl⟩
theorem con_charS (l : Launch) {Z : State} {a0 : Array Value} (hw : ∀ d ∈ tables_1, d.before a0 Z = true) {n0 : Nat} {h0 : Heap} {a : Addr} {cs : List Int32} (S : Str Z h0 a cs) {i : Nat} {ch : Int32} (hi : cs[i]? = some ch) (HC : Cst Z) (HF : Frm Z) (HU : Ust Z) :
    Con l Z true false ELs n0 (⟨"java/lang/String", "charAt", "(I)C"⟩ : MethodName) jdk_42_method_56_code 2 (some .char) rm_con_charSL [] #[(.ref a), (.int i.toInt32)] h0 [] (fun v h => v = some (.int ch) ∧ h = h0) := by
  rcases S with S | S
  · exact con_charSL l hw S hi HC HF HU
  · exact con_charSU l hw S hi HC HF HU
theorem d6_0 : decode jdk_42_method_55_code 0 = .ok (.aload_n 0, 1) := by decide +kernel
theorem d6_1 : decode jdk_42_method_55_code 1 = .ok (.getfield 9, 3) := by decide +kernel
theorem d6_4 : decode jdk_42_method_55_code 4 = .ok (.arraylength, 1) := by decide +kernel
theorem d6_5 : decode jdk_42_method_55_code 5 = .ok (.ifCond .ne 7, 3) := by decide +kernel
theorem d6_12 : decode jdk_42_method_55_code 12 = .ok (.iconst 0, 1) := by decide +kernel
theorem d6_13 : decode jdk_42_method_55_code 13 = .ok (.ireturn, 1) := by decide +kernel
abbrev rm_con_isEmpSL : Room := { frames := 0, cells := 0, slots := 0, locals := 0 }
set_option maxRecDepth 65536 in
set_option maxHeartbeats 40000000 in
theorem con_isEmpSL (l : Launch) {Z : State} {a0 : Array Value} (hw : ∀ d ∈ tables_1, d.before a0 Z = true) {n0 : Nat} {h0 : Heap} {a : Addr} {cs : List Int32} (S : Lat Z h0 a cs) (hne : cs ≠ []) (hl30 : cs.length < 2 ^ 30) :
    Con l Z true false ELs n0 (⟨"java/lang/String", "isEmpty", "()Z"⟩ : MethodName) jdk_42_method_55_code 1 (some .boolean) rm_con_isEmpSL [] #[(.ref a)] h0 [] (fun v h => v = some (.int 0) ∧ h = h0) := by
  refine Con.intro (plainFor_of_name pn_java_lang_String) (hELs hw) ?_
  intro p e s m below meth c hh G
  refine castRun (g' := mkF m 0 #[.val (.ref a)] []) (by first | rfl | (simp [entryFrame, mkF, argsToLocals, Value.category, maxLocals]; done)) ?_
  obtain ⟨E, ⟨b, FV, FC, A⟩, hlat⟩ := id S
  have hl2 : cs.length < 2 ^ 30 := by exact hl30
  refine GoKit.aloadN G d6_0 rfl rfl (pc' := 1) rfl ?_
  refine GoKit.getf G d6_1 (wi hw 26 rfl) Via.refl FV (pc' := 4) rfl ?_
  refine GoKit.arrlenI G d6_4 A (z := cs.length.toInt32) (by simp) (pc' := 5) rfl ?_
  refine GoKit.if_ne_t G d6_5 (fun q => hne (List.length_eq_zero_iff.mp ((toI_eq (k := 0) (by omega) (by decide)).mp q))) (by decide) (pc' := 12) rfl ?_
  refine GoKit.iconst G (0 : Int32) d6_12 rfl (pc' := 13) rfl ?_
  refine GoKit.retNar G d6_13 (t := .boolean) rfl (by simp) (by decide) (by decide) ?_
  exact ⟨rfl, rfl⟩
abbrev rm_con_isEmpSU : Room := { frames := 0, cells := 0, slots := 0, locals := 0 }
set_option maxRecDepth 65536 in
set_option maxHeartbeats 40000000 in
theorem con_isEmpSU (l : Launch) {Z : State} {a0 : Array Value} (hw : ∀ d ∈ tables_1, d.before a0 Z = true) {n0 : Nat} {h0 : Heap} {a : Addr} {cs : List Int32} (S : U16 Z h0 a cs) (hne : cs ≠ []) (hl30 : cs.length < 2 ^ 30) :
    Con l Z true false ELs n0 (⟨"java/lang/String", "isEmpty", "()Z"⟩ : MethodName) jdk_42_method_55_code 1 (some .boolean) rm_con_isEmpSU [] #[(.ref a)] h0 [] (fun v h => v = some (.int 0) ∧ h = h0) := by
  refine Con.intro (plainFor_of_name pn_java_lang_String) (hELs hw) ?_
  intro p e s m below meth c hh G
  refine castRun (g' := mkF m 0 #[.val (.ref a)] []) (by first | rfl | (simp [entryFrame, mkF, argsToLocals, Value.category, maxLocals]; done)) ?_
  obtain ⟨E, ⟨b, FV, FC, A⟩, hch, hln⟩ := id S
  have hl2 : cs.length < 2 ^ 30 := by omega
  refine GoKit.aloadN G d6_0 rfl rfl (pc' := 1) rfl ?_
  refine GoKit.getf G d6_1 (wi hw 26 rfl) Via.refl FV (pc' := 4) rfl ?_
  refine GoKit.arrlenI G d6_4 A (z := (2 * cs.length).toInt32) (by rw [u16_len]) (pc' := 5) rfl ?_
  refine GoKit.if_ne_t G d6_5 (fun q => hne (List.length_eq_zero_iff.mp (by have := (toI_eq (i := 2 * cs.length) (k := 0) (by omega) (by decide)).mp q; omega))) (by decide) (pc' := 12) rfl ?_
  refine GoKit.iconst G (0 : Int32) d6_12 rfl (pc' := 13) rfl ?_
  refine GoKit.retNar G d6_13 (t := .boolean) rfl (by simp) (by decide) (by decide) ?_
  exact ⟨rfl, rfl⟩
theorem con_isEmpS (l : Launch) {Z : State} {a0 : Array Value} (hw : ∀ d ∈ tables_1, d.before a0 Z = true) {n0 : Nat} {h0 : Heap} {a : Addr} {cs : List Int32} (S : Str Z h0 a cs) (hne : cs ≠ []) (hl30 : cs.length < 2 ^ 30) :
    Con l Z true false ELs n0 (⟨"java/lang/String", "isEmpty", "()Z"⟩ : MethodName) jdk_42_method_55_code 1 (some .boolean) rm_con_isEmpSL [] #[(.ref a)] h0 [] (fun v h => v = some (.int 0) ∧ h = h0) := by
  rcases S with S | S
  · exact con_isEmpSL l hw S hne hl30
  · exact con_isEmpSU l hw S hne hl30
theorem i2c_rng {x v : Int32} (h : v = x.toUInt32.toUInt16.toUInt32.toInt32) : 0 ≤ v.toInt ∧ v.toInt < 65536 := by
  subst h
  have e : (x.toUInt32.toUInt16.toUInt32.toInt32).toInt = (((x.toBitVec.setWidth 16).setWidth 32).toInt) := rfl
  rw [e, BitVec.toInt_eq_toNat_of_lt (by simp; omega)]; simp; omega
theorem ite_f {P : Prop} [Decidable P] (h : (if P then (1 : Int32) else 0) = 0) : ¬ P := fun q => by rw [if_pos q] at h; exact absurd h (by decide)
theorem ite_t {P : Prop} [Decidable P] (h : ¬ (if P then (1 : Int32) else 0) = 0) : P := Classical.byContradiction fun q => h (if_neg q)
theorem cases6 {v : Int32} (h : 0 ≤ v.toInt ∧ v.toInt < 6) : v = 0 ∨ v = 1 ∨ v = 2 ∨ v = 3 ∨ v = 4 ∨ v = 5 := by
  have h2 : v.toInt = 0 ∨ v.toInt = 1 ∨ v.toInt = 2 ∨ v.toInt = 3 ∨ v.toInt = 4 ∨ v.toInt = 5 := by omega
  rcases h2 with h2 | h2 | h2 | h2 | h2 | h2
  · exact Or.inl (Int32.toInt_inj.mp h2)
  · exact Or.inr (Or.inl (Int32.toInt_inj.mp h2))
  · exact Or.inr (Or.inr (Or.inl (Int32.toInt_inj.mp h2)))
  · exact Or.inr (Or.inr (Or.inr (Or.inl (Int32.toInt_inj.mp h2))))
  · exact Or.inr (Or.inr (Or.inr (Or.inr (Or.inl (Int32.toInt_inj.mp h2)))))
  · exact Or.inr (Or.inr (Or.inr (Or.inr (Or.inr (Int32.toInt_inj.mp h2)))))
def hexP (c : Int32) : Prop := (48 ≤ c.toInt ∧ c.toInt ≤ 57) ∨ (97 ≤ c.toInt ∧ c.toInt ≤ 102)
instance (c : Int32) : Decidable (hexP c) := by unfold hexP; exact inferInstance
def T (cs : List Int32) : Prop := cs ≠ [] ∧ cs.length ≤ 40 ∧ ∀ c ∈ cs, hexP c
instance (cs : List Int32) : Decidable (T cs) := by unfold T; exact inferInstance
theorem drop_step {cs : List Int32} {k : Nat} {ch : Int32} (h : cs[k]? = some ch) (ht : hexP ch) : (∀ c ∈ cs.drop k, hexP c) ↔ (∀ c ∈ cs.drop (k + 1), hexP c) := by
  obtain ⟨hi, rfl⟩ := List.getElem?_eq_some_iff.mp h
  rw [List.drop_eq_getElem_cons hi]
  exact ⟨fun q c hc => q c (List.Mem.tail _ hc), fun q c hc => by
    rcases List.mem_cons.mp hc with rfl | hc
    · exact ht
    · exact q c hc⟩
theorem mem_drop {cs : List Int32} {k : Nat} {ch : Int32} (h : cs[k]? = some ch) : ch ∈ cs.drop k := by
  obtain ⟨hi, rfl⟩ := List.getElem?_eq_some_iff.mp h
  rw [List.drop_eq_getElem_cons hi]; exact List.Mem.head _
theorem T_one (x : Int32) : (if hexP x then (1 : Int32) else 0) = if T [x] then 1 else 0 := by
  by_cases q : hexP x
  · rw [if_pos q, if_pos ⟨by simp, by simp, by simpa using q⟩]
  · rw [if_neg q, if_neg (fun r => q (r.2.2 _ (by simp)))]
theorem le40 {n : Nat} (h : n < 2 ^ 31) : (¬ (40 : Int32) < n.toInt32) ↔ n ≤ 40 := by
  rw [Int32.lt_iff_toInt_lt, toI_toInt h, show (40 : Int32).toInt = 40 from rfl]; omega
theorem d7_0 : decode method_3_code 0 = .ok (.iload_n 0, 1) := by decide +kernel
theorem d7_1 : decode method_3_code 1 = .ok (.bipush 48, 2) := by decide +kernel
theorem d7_3 : decode method_3_code 3 = .ok (.if_icmp .lt 9, 3) := by decide +kernel
theorem d7_12 : decode method_3_code 12 = .ok (.iload_n 0, 1) := by decide +kernel
theorem d7_13 : decode method_3_code 13 = .ok (.bipush 97, 2) := by decide +kernel
theorem d7_15 : decode method_3_code 15 = .ok (.if_icmp .lt 13, 3) := by decide +kernel
theorem d7_28 : decode method_3_code 28 = .ok (.iconst 0, 1) := by decide +kernel
theorem d7_29 : decode method_3_code 29 = .ok (.ireturn, 1) := by decide +kernel
theorem d7_18 : decode method_3_code 18 = .ok (.iload_n 0, 1) := by decide +kernel
theorem d7_19 : decode method_3_code 19 = .ok (.bipush 102, 2) := by decide +kernel
theorem d7_21 : decode method_3_code 21 = .ok (.if_icmp .gt 7, 3) := by decide +kernel
theorem d7_24 : decode method_3_code 24 = .ok (.iconst 1, 1) := by decide +kernel
theorem d7_25 : decode method_3_code 25 = .ok (.goto 4, 3) := by decide +kernel
theorem d7_6 : decode method_3_code 6 = .ok (.iload_n 0, 1) := by decide +kernel
theorem d7_7 : decode method_3_code 7 = .ok (.bipush 57, 2) := by decide +kernel
theorem d7_9 : decode method_3_code 9 = .ok (.if_icmp .le 15, 3) := by decide +kernel
theorem pn_com_example_waymark_waymark_IdsIsIdPrefixPinLaw : plainName "com/example/waymark/waymark/IdsIsIdPrefixPinLaw" = true := by first | (simp [plainName, overriddenIn]; done) | decide +kernel
abbrev rm_con_hex : Room := { frames := 0, cells := 0, slots := 0, locals := 0 }
set_option maxRecDepth 65536 in
set_option maxHeartbeats 40000000 in
theorem con_hex (l : Launch) {Z : State} {a0 : Array Value} (hw : ∀ d ∈ tables_1, d.before a0 Z = true) {n0 : Nat} {h0 : Heap} (x : Int32) :
    Con l Z true false ELs n0 (⟨"com/example/waymark/waymark/IdsIsIdPrefixPinLaw", "hex", "(C)Z"⟩ : MethodName) method_3_code 1 (some .boolean) rm_con_hex [] #[(.int x)] h0 [] (fun v h => v = some (.int (if hexP x then 1 else 0)) ∧ h = h0) := by
  refine Con.intro (plainFor_of_name pn_com_example_waymark_waymark_IdsIsIdPrefixPinLaw) (hELs hw) ?_
  intro p e s m below meth c hh G
  refine castRun (g' := mkF m 0 #[.val (.int x)] []) (by first | rfl | (simp [entryFrame, mkF, argsToLocals, Value.category, maxLocals]; done)) ?_
  refine GoKit.iloadN G d7_0 rfl (pc' := 1) rfl ?_
  refine GoKit.bipush G (48 : Int32) d7_1 rfl (pc' := 3) rfl ?_
  refine GoKit.icmp_lt G d7_3 (by decide) (pt := 12) (pf := 6) rfl rfl (fun hb1 => ?_) (fun hb1 => ?_)
  · refine GoKit.iloadN G d7_12 rfl (pc' := 13) rfl ?_
    refine GoKit.bipush G (97 : Int32) d7_13 rfl (pc' := 15) rfl ?_
    refine GoKit.icmp_lt G d7_15 (by decide) (pt := 28) (pf := 18) rfl rfl (fun hb2 => ?_) (fun hb2 => ?_)
    · refine GoKit.iconst G (0 : Int32) d7_28 rfl (pc' := 29) rfl ?_
      refine GoKit.retNar G d7_29 (t := .boolean) rfl (by simp) (by decide) (by decide) ?_
      exact ⟨by rw [if_neg (by unfold hexP; simp only [gt_iff_lt, ge_iff_le, ne_eq, Int32.lt_iff_toInt_lt, Int32.le_iff_toInt_le, ← Int32.toInt_inj, show (48 : Int32).toInt = 48 from rfl, show (57 : Int32).toInt = 57 from rfl, show (97 : Int32).toInt = 97 from rfl, show (102 : Int32).toInt = 102 from rfl] at hb1 hb2; omega)]; rfl, rfl⟩
    · refine GoKit.iloadN G d7_18 rfl (pc' := 19) rfl ?_
      refine GoKit.bipush G (102 : Int32) d7_19 rfl (pc' := 21) rfl ?_
      refine GoKit.icmp_gt G d7_21 (by decide) (pt := 28) (pf := 24) rfl rfl (fun hb3 => ?_) (fun hb3 => ?_)
      · refine GoKit.iconst G (0 : Int32) d7_28 rfl (pc' := 29) rfl ?_
        refine GoKit.retNar G d7_29 (t := .boolean) rfl (by simp) (by decide) (by decide) ?_
        exact ⟨by rw [if_neg (by unfold hexP; simp only [gt_iff_lt, ge_iff_le, ne_eq, Int32.lt_iff_toInt_lt, Int32.le_iff_toInt_le, ← Int32.toInt_inj, show (48 : Int32).toInt = 48 from rfl, show (57 : Int32).toInt = 57 from rfl, show (97 : Int32).toInt = 97 from rfl, show (102 : Int32).toInt = 102 from rfl] at hb1 hb2 hb3; omega)]; rfl, rfl⟩
      · refine GoKit.iconst G (1 : Int32) d7_24 rfl (pc' := 25) rfl ?_
        refine GoKit.goto G d7_25 (by decide) (pc' := 29) rfl ?_
        refine GoKit.retNar G d7_29 (t := .boolean) rfl (by simp) (by decide) (by decide) ?_
        exact ⟨by rw [if_pos (by unfold hexP; simp only [gt_iff_lt, ge_iff_le, ne_eq, Int32.lt_iff_toInt_lt, Int32.le_iff_toInt_le, ← Int32.toInt_inj, show (48 : Int32).toInt = 48 from rfl, show (57 : Int32).toInt = 57 from rfl, show (97 : Int32).toInt = 97 from rfl, show (102 : Int32).toInt = 102 from rfl] at hb1 hb2 hb3; omega)]; rfl, rfl⟩
  · refine GoKit.iloadN G d7_6 rfl (pc' := 7) rfl ?_
    refine GoKit.bipush G (57 : Int32) d7_7 rfl (pc' := 9) rfl ?_
    refine GoKit.icmp_le G d7_9 (by decide) (pt := 24) (pf := 12) rfl rfl (fun hb4 => ?_) (fun hb4 => ?_)
    · refine GoKit.iconst G (1 : Int32) d7_24 rfl (pc' := 25) rfl ?_
      refine GoKit.goto G d7_25 (by decide) (pc' := 29) rfl ?_
      refine GoKit.retNar G d7_29 (t := .boolean) rfl (by simp) (by decide) (by decide) ?_
      exact ⟨by rw [if_pos (by unfold hexP; simp only [gt_iff_lt, ge_iff_le, ne_eq, Int32.lt_iff_toInt_lt, Int32.le_iff_toInt_le, ← Int32.toInt_inj, show (48 : Int32).toInt = 48 from rfl, show (57 : Int32).toInt = 57 from rfl, show (97 : Int32).toInt = 97 from rfl, show (102 : Int32).toInt = 102 from rfl] at hb1 hb4; omega)]; rfl, rfl⟩
    · refine GoKit.iloadN G d7_12 rfl (pc' := 13) rfl ?_
      refine GoKit.bipush G (97 : Int32) d7_13 rfl (pc' := 15) rfl ?_
      refine GoKit.icmp_lt G d7_15 (by decide) (pt := 28) (pf := 18) rfl rfl (fun hb5 => ?_) (fun hb5 => ?_)
      · refine GoKit.iconst G (0 : Int32) d7_28 rfl (pc' := 29) rfl ?_
        refine GoKit.retNar G d7_29 (t := .boolean) rfl (by simp) (by decide) (by decide) ?_
        exact ⟨by rw [if_neg (by unfold hexP; simp only [gt_iff_lt, ge_iff_le, ne_eq, Int32.lt_iff_toInt_lt, Int32.le_iff_toInt_le, ← Int32.toInt_inj, show (48 : Int32).toInt = 48 from rfl, show (57 : Int32).toInt = 57 from rfl, show (97 : Int32).toInt = 97 from rfl, show (102 : Int32).toInt = 102 from rfl] at hb1 hb4 hb5; omega)]; rfl, rfl⟩
      · refine GoKit.iloadN G d7_18 rfl (pc' := 19) rfl ?_
        refine GoKit.bipush G (102 : Int32) d7_19 rfl (pc' := 21) rfl ?_
        refine GoKit.icmp_gt G d7_21 (by decide) (pt := 28) (pf := 24) rfl rfl (fun hb6 => ?_) (fun hb6 => ?_)
        · refine GoKit.iconst G (0 : Int32) d7_28 rfl (pc' := 29) rfl ?_
          refine GoKit.retNar G d7_29 (t := .boolean) rfl (by simp) (by decide) (by decide) ?_
          exact ⟨by rw [if_neg (by unfold hexP; simp only [gt_iff_lt, ge_iff_le, ne_eq, Int32.lt_iff_toInt_lt, Int32.le_iff_toInt_le, ← Int32.toInt_inj, show (48 : Int32).toInt = 48 from rfl, show (57 : Int32).toInt = 57 from rfl, show (97 : Int32).toInt = 97 from rfl, show (102 : Int32).toInt = 102 from rfl] at hb1 hb4 hb5 hb6; omega)]; rfl, rfl⟩
        · refine GoKit.iconst G (1 : Int32) d7_24 rfl (pc' := 25) rfl ?_
          refine GoKit.goto G d7_25 (by decide) (pc' := 29) rfl ?_
          refine GoKit.retNar G d7_29 (t := .boolean) rfl (by simp) (by decide) (by decide) ?_
          exact ⟨by rw [if_pos (by unfold hexP; simp only [gt_iff_lt, ge_iff_le, ne_eq, Int32.lt_iff_toInt_lt, Int32.le_iff_toInt_le, ← Int32.toInt_inj, show (48 : Int32).toInt = 48 from rfl, show (57 : Int32).toInt = 57 from rfl, show (97 : Int32).toInt = 97 from rfl, show (102 : Int32).toInt = 102 from rfl] at hb1 hb4 hb5 hb6; omega)]; rfl, rfl⟩
theorem d1_0 : decode method_2_code 0 = .ok (.iload_n 0, 1) := by decide +kernel
theorem d1_1 : decode method_2_code 1 = .ok (.bipush 20, 2) := by decide +kernel
theorem d1_3 : decode method_2_code 3 = .ok (.iushr, 1) := by decide +kernel
theorem d1_4 : decode method_2_code 4 = .ok (.iconst 1, 1) := by decide +kernel
theorem d1_5 : decode method_2_code 5 = .ok (.iand, 1) := by decide +kernel
theorem d1_6 : decode method_2_code 6 = .ok (.ifCond .ne 15, 3) := by decide +kernel
theorem d1_21 : decode method_2_code 21 = .ok (.iload_n 0, 1) := by decide +kernel
theorem d1_22 : decode method_2_code 22 = .ok (.ldc 7, 2) := by decide +kernel
theorem d1_24 : decode method_2_code 24 = .ok (.iand, 1) := by decide +kernel
theorem d1_25 : decode method_2_code 25 = .ok (.i2c, 1) := by decide +kernel
theorem d1_26 : decode method_2_code 26 = .ok (.ireturn, 1) := by decide +kernel
theorem d1_9 : decode method_2_code 9 = .ok (.bipush 47, 2) := by decide +kernel
theorem d1_11 : decode method_2_code 11 = .ok (.iload_n 0, 1) := by decide +kernel
theorem d1_12 : decode method_2_code 12 = .ok (.ldc 7, 2) := by decide +kernel
theorem d1_14 : decode method_2_code 14 = .ok (.iand, 1) := by decide +kernel
theorem d1_15 : decode method_2_code 15 = .ok (.bipush 57, 2) := by decide +kernel
theorem d1_17 : decode method_2_code 17 = .ok (.irem, 1) := by decide +kernel
theorem d1_18 : decode method_2_code 18 = .ok (.iadd, 1) := by decide +kernel
theorem d1_19 : decode method_2_code 19 = .ok (.i2c, 1) := by decide +kernel
theorem d1_20 : decode method_2_code 20 = .ok (.ireturn, 1) := by decide +kernel
abbrev rm_con_ch : Room := { frames := 0, cells := 0, slots := 0, locals := 0 }
set_option maxRecDepth 65536 in
set_option maxHeartbeats 40000000 in
theorem con_ch (l : Launch) {Z : State} {a0 : Array Value} (hw : ∀ d ∈ tables_1, d.before a0 Z = true) {n0 : Nat} {h0 : Heap} (x : Int32) :
    Con l Z true false ELs n0 (⟨"com/example/waymark/waymark/IdsIsIdPrefixPinLaw", "ch", "(I)C"⟩ : MethodName) method_2_code 1 (some .char) rm_con_ch [] #[(.int x)] h0 [] (fun v h => ∃ ch : Int32, v = some (.int ch) ∧ (0 ≤ ch.toInt ∧ ch.toInt < 65536)) := by
  refine Con.intro (plainFor_of_name pn_com_example_waymark_waymark_IdsIsIdPrefixPinLaw) (hELs hw) ?_
  intro p e s m below meth c hh G
  refine castRun (g' := mkF m 0 #[.val (.int x)] []) (by first | rfl | (simp [entryFrame, mkF, argsToLocals, Value.category, maxLocals]; done)) ?_
  refine GoKit.iloadN G d1_0 rfl (pc' := 1) rfl ?_
  refine GoKit.bipush G (20 : Int32) d1_1 rfl (pc' := 3) rfl ?_
  refine GoKit.iushr G d1_3 (pc' := 4) rfl (fun v1 hqv1 => ?_)
  refine GoKit.iconst G (1 : Int32) d1_4 rfl (pc' := 5) rfl ?_
  refine GoKit.iand G d1_5 (pc' := 6) rfl (fun v2 hqv2 => ?_)
  refine GoKit.if_ne G d1_6 (by decide) (pt := 21) (pf := 9) rfl rfl (fun hb3 => ?_) (fun hb3 => ?_)
  · refine GoKit.iloadN G d1_21 rfl (pc' := 22) rfl ?_
    refine GoKit.ldcInt G d1_22 (wi hw 4 rfl) (pc' := 24) rfl ?_
    refine GoKit.iand G d1_24 (pc' := 25) rfl (fun v4 hqv4 => ?_)
    refine GoKit.i2c G d1_25 (pc' := 26) rfl (fun v5 hqv5 => ?_)
    have c6 : nar .char v5 = v5 := by rw [hqv5]; exact nar_i2c _
    have l7 := i2c_rng hqv5
    refine GoKit.retNar G d1_26 (t := .char) rfl (by simp) (by decide) (by decide) ?_
    exact ⟨_, rfl, by rw [nar16 l7]; exact l7⟩
  · refine GoKit.bipush G (47 : Int32) d1_9 rfl (pc' := 11) rfl ?_
    refine GoKit.iloadN G d1_11 rfl (pc' := 12) rfl ?_
    refine GoKit.ldcInt G d1_12 (wi hw 4 rfl) (pc' := 14) rfl ?_
    refine GoKit.iand G d1_14 (pc' := 15) rfl (fun v8 hqv8 => ?_)
    refine GoKit.bipush G (57 : Int32) d1_15 rfl (pc' := 17) rfl ?_
    refine GoKit.irem G d1_17 (by decide) (pc' := 18) rfl (fun v9 hqv9 => ?_)
    refine GoKit.iadd G d1_18 (pc' := 19) rfl (fun v10 hqv10 => ?_)
    refine GoKit.i2c G d1_19 (pc' := 20) rfl (fun v11 hqv11 => ?_)
    have c12 : nar .char v11 = v11 := by rw [hqv11]; exact nar_i2c _
    have l13 := i2c_rng hqv11
    refine GoKit.retNar G d1_20 (t := .char) rfl (by simp) (by decide) (by decide) ?_
    exact ⟨_, rfl, by rw [nar16 l13]; exact l13⟩
theorem d6_8 : decode jdk_42_method_55_code 8 = .ok (.iconst 1, 1) := by decide +kernel
theorem d6_9 : decode jdk_42_method_55_code 9 = .ok (.goto 4, 3) := by decide +kernel
abbrev rm_con_emp0 : Room := { frames := 0, cells := 0, slots := 0, locals := 0 }
set_option maxRecDepth 65536 in
set_option maxHeartbeats 40000000 in
theorem con_emp0 (l : Launch) {Z : State} {a0 : Array Value} (hw : ∀ d ∈ tables_1, d.before a0 Z = true) {n0 : Nat} {h0 : Heap} {a : Addr} (S : Lat Z h0 a []) :
    Con l Z true false ELs n0 (⟨"java/lang/String", "isEmpty", "()Z"⟩ : MethodName) jdk_42_method_55_code 1 (some .boolean) rm_con_emp0 [] #[(.ref a)] h0 [] (fun v h => v = some (.int 1) ∧ h = h0) := by
  refine Con.intro (plainFor_of_name pn_java_lang_String) (hELs hw) ?_
  intro p e s m below meth c hh G
  refine castRun (g' := mkF m 0 #[.val (.ref a)] []) (by first | rfl | (simp [entryFrame, mkF, argsToLocals, Value.category, maxLocals]; done)) ?_
  obtain ⟨E, ⟨b, FV, FC, A⟩, hlat⟩ := id S
  refine GoKit.aloadN G d6_0 rfl rfl (pc' := 1) rfl ?_
  refine GoKit.getf G d6_1 (wi hw 26 rfl) Via.refl FV (pc' := 4) rfl ?_
  refine GoKit.arrlenI G d6_4 A (z := ([] : List Int32).length.toInt32) (by simp) (pc' := 5) rfl ?_
  refine GoKit.if_ne_f G d6_5 rfl (pc' := 8) rfl ?_
  refine GoKit.iconst G (1 : Int32) d6_8 rfl (pc' := 9) rfl ?_
  refine GoKit.goto G d6_9 (by decide) (pc' := 13) rfl ?_
  refine GoKit.retNar G d6_13 (t := .boolean) rfl (by simp) (by decide) (by decide) ?_
  exact ⟨rfl, rfl⟩
theorem d5_0 : decode prog_10_method_6_code 0 = .ok (.aload_n 0, 1) := by decide +kernel
theorem d5_1 : decode prog_10_method_6_code 1 = .ok (.invokevirtual 76, 3) := by decide +kernel
theorem d5_4 : decode prog_10_method_6_code 4 = .ok (.ifCond .ne 12, 3) := by decide +kernel
theorem d5_16 : decode prog_10_method_6_code 16 = .ok (.iconst 0, 1) := by decide +kernel
theorem d5_17 : decode prog_10_method_6_code 17 = .ok (.ireturn, 1) := by decide +kernel
theorem pn_com_example_waymark_waymark_Ids : plainName "com/example/waymark/waymark/Ids" = true := by first | (simp [plainName, overriddenIn]; done) | decide +kernel
abbrev rm_con_pre0 : Room := { frames := 1, cells := 0, slots := 0, locals := 12 }
set_option maxRecDepth 65536 in
set_option maxHeartbeats 40000000 in
theorem con_pre0 (l : Launch) {Z : State} {a0 : Array Value} (hw : ∀ d ∈ tables_1, d.before a0 Z = true) {n0 : Nat} {h0 : Heap} {a : Addr} (S : Lat Z h0 a []) :
    Con l Z true false ELs n0 (⟨"com/example/waymark/waymark/Ids", "isIdPrefix", "(Ljava/lang/String;)Z"⟩ : MethodName) prog_10_method_6_code 3 (some .boolean) rm_con_pre0 [] #[(.ref a)] h0 [] (fun v h => v = some (.int (if T [] then 1 else 0)) ∧ h = h0) := by
  refine Con.intro (plainFor_of_name pn_com_example_waymark_waymark_Ids) (hELs hw) ?_
  intro p e s m below meth c hh G
  refine castRun (g' := mkF m 0 #[.val (.ref a), .unset, .unset] []) (by first | rfl | (simp [entryFrame, mkF, argsToLocals, Value.category, maxLocals]; done)) ?_
  refine GoKit.aloadN G d5_0 rfl rfl (pc' := 1) rfl ?_
  refine GoKit.callVirtualP G d5_1 (wi hw 32 rfl) (wi hw 33 rfl) (wi hw 35 rfl) (wi hw 34 rfl) (wi hw 9 rfl) (wi hw 36 rfl) (by decide) S.1 (W := 0) (argsL := []) (rest := []) (con_emp0 l hw S) rfl (lenOf pd_13 rfl) rfl (by decide) (Nat.le_of_eq rfl) (by decide) (by decide) (by decide) (cells' := 0) (slots' := 0) rfl rfl (pc' := 4) rfl ?_
  show Run _ _ _ _ _ _ _ _ _ _ _ _ _ _ _ _ _ _ _ _ _ (mkF m 4 #[.val (.ref a), .unset, .unset] [(.int (1 : Int32))])
  refine GoKit.if_ne_t G d5_4 (by decide) (by decide) (pc' := 16) rfl ?_
  refine GoKit.iconst G (0 : Int32) d5_16 rfl (pc' := 17) rfl ?_
  refine GoKit.retNar G d5_17 (t := .boolean) rfl (by simp) (by decide) (by decide) ?_
  exact ⟨by rw [if_neg (fun q => q.1 rfl)]; rfl, rfl⟩
theorem d5_20 : decode prog_10_method_6_code 20 = .ok (.iload_n 1, 1) := by decide +kernel
theorem d5_21 : decode prog_10_method_6_code 21 = .ok (.aload_n 0, 1) := by decide +kernel
theorem d5_22 : decode prog_10_method_6_code 22 = .ok (.invokevirtual 68, 3) := by decide +kernel
theorem pd_14 : parseMethodDescriptor "()I" = some ⟨[], some .int⟩ := by decide +kernel
theorem d5_25 : decode prog_10_method_6_code 25 = .ok (.if_icmp .ge 41, 3) := by decide +kernel
theorem d5_66 : decode prog_10_method_6_code 66 = .ok (.iconst 1, 1) := by decide +kernel
theorem d5_67 : decode prog_10_method_6_code 67 = .ok (.ireturn, 1) := by decide +kernel
theorem d5_28 : decode prog_10_method_6_code 28 = .ok (.aload_n 0, 1) := by decide +kernel
theorem d5_29 : decode prog_10_method_6_code 29 = .ok (.iload_n 1, 1) := by decide +kernel
theorem d5_30 : decode prog_10_method_6_code 30 = .ok (.invokevirtual 80, 3) := by decide +kernel
theorem pd_15 : parseMethodDescriptor "(I)C" = some ⟨[.int], some .char⟩ := by decide +kernel
theorem d5_33 : decode prog_10_method_6_code 33 = .ok (.istore_n 2, 1) := by decide +kernel
theorem d5_34 : decode prog_10_method_6_code 34 = .ok (.iload_n 2, 1) := by decide +kernel
theorem d5_35 : decode prog_10_method_6_code 35 = .ok (.bipush 48, 2) := by decide +kernel
theorem d5_37 : decode prog_10_method_6_code 37 = .ok (.if_icmp .lt 9, 3) := by decide +kernel
theorem d5_46 : decode prog_10_method_6_code 46 = .ok (.iload_n 2, 1) := by decide +kernel
theorem d5_47 : decode prog_10_method_6_code 47 = .ok (.bipush 97, 2) := by decide +kernel
theorem d5_49 : decode prog_10_method_6_code 49 = .ok (.if_icmp .lt 9, 3) := by decide +kernel
theorem d5_58 : decode prog_10_method_6_code 58 = .ok (.iconst 0, 1) := by decide +kernel
theorem d5_59 : decode prog_10_method_6_code 59 = .ok (.ireturn, 1) := by decide +kernel
theorem d5_52 : decode prog_10_method_6_code 52 = .ok (.iload_n 2, 1) := by decide +kernel
theorem d5_53 : decode prog_10_method_6_code 53 = .ok (.bipush 102, 2) := by decide +kernel
theorem d5_55 : decode prog_10_method_6_code 55 = .ok (.if_icmp .le 5, 3) := by decide +kernel
theorem d5_60 : decode prog_10_method_6_code 60 = .ok (.iinc 1 1, 3) := by decide +kernel
theorem d5_63 : decode prog_10_method_6_code 63 = .ok (.goto (-43), 3) := by decide +kernel
theorem d5_40 : decode prog_10_method_6_code 40 = .ok (.iload_n 2, 1) := by decide +kernel
theorem d5_41 : decode prog_10_method_6_code 41 = .ok (.bipush 57, 2) := by decide +kernel
theorem d5_43 : decode prog_10_method_6_code 43 = .ok (.if_icmp .le 17, 3) := by decide +kernel
theorem d5_7 : decode prog_10_method_6_code 7 = .ok (.aload_n 0, 1) := by decide +kernel
theorem d5_8 : decode prog_10_method_6_code 8 = .ok (.invokevirtual 68, 3) := by decide +kernel
theorem d5_11 : decode prog_10_method_6_code 11 = .ok (.bipush 40, 2) := by decide +kernel
theorem d5_13 : decode prog_10_method_6_code 13 = .ok (.if_icmp .le 5, 3) := by decide +kernel
theorem d5_18 : decode prog_10_method_6_code 18 = .ok (.iconst 0, 1) := by decide +kernel
theorem d5_19 : decode prog_10_method_6_code 19 = .ok (.istore_n 1, 1) := by decide +kernel
abbrev rm_con_pre : Room := { frames := 5, cells := 0, slots := 0, locals := 66 }
set_option maxRecDepth 65536 in
set_option maxHeartbeats 40000000 in
theorem con_pre (l : Launch) {Z : State} {a0 : Array Value} (hw : ∀ d ∈ tables_1, d.before a0 Z = true) {n0 : Nat} {h0 : Heap} {a : Addr} {cs : List Int32} (S : Str Z h0 a cs) (hne : cs ≠ []) (hl30 : cs.length < 2 ^ 30) (HC : Cst Z) (HF : Frm Z) (HU : Ust Z) :
    Con l Z true false ELs n0 (⟨"com/example/waymark/waymark/Ids", "isIdPrefix", "(Ljava/lang/String;)Z"⟩ : MethodName) prog_10_method_6_code 3 (some .boolean) rm_con_pre [] #[(.ref a)] h0 [] (fun v h => v = some (.int (if T cs then 1 else 0)) ∧ h = h0) := by
  refine Con.intro (plainFor_of_name pn_com_example_waymark_waymark_Ids) (hELs hw) ?_
  intro p e s m below meth c hh G
  refine castRun (g' := mkF m 0 #[.val (.ref a), .unset, .unset] []) (by first | rfl | (simp [entryFrame, mkF, argsToLocals, Value.category, maxLocals]; done)) ?_
  have hl : cs.length < 2 ^ 31 := str_len S
  have loop : ∀ (k i : Nat) (sl : Slot), i + k = cs.length → (T cs ↔ ∀ c ∈ cs.drop i, hexP c) → (sl = .unset ∨ ∃ w, sl = .val w ∧ w.category = 1) →
      Run p l e rm_con_pre s m #[.ref a] below meth c Z true false ELs n0 [] (fun v h => v = some (.int (if T cs then 1 else 0)) ∧ h = h0) h0 [] 0 0 (mkF m 20 #[.val (.ref a), .val (.int i.toInt32), sl] []) := by
    intro k; induction k with
    | zero =>
      intro i sl hik hT hsl
      have hi : i = cs.length := by omega
      subst hi
      refine GoKit.iloadN G d5_20 rfl (pc' := 21) rfl ?_
      refine GoKit.aloadN G d5_21 rfl rfl (pc' := 22) rfl ?_
      refine GoKit.callVirtualP G d5_22 (wi hw 51 rfl) (wi hw 52 rfl) (wi hw 54 rfl) (wi hw 53 rfl) (wi hw 9 rfl) (wi hw 55 rfl) (by decide) (str_exa S) (W := 1) (argsL := []) (rest := [(.int cs.length.toInt32)]) (con_lenS l hw S HC) rfl (lenOf pd_14 rfl) rfl (by decide) (Nat.le_of_eq rfl) (by decide) (by decide) (by decide) (cells' := 0) (slots' := 0) rfl rfl (pc' := 25) rfl ?_
      show Run _ _ _ _ _ _ _ _ _ _ _ _ _ _ _ _ _ _ _ _ _ (mkF m 25 #[.val (.ref a), .val (.int cs.length.toInt32), sl] [(.int cs.length.toInt32), (.int cs.length.toInt32)])
      refine GoKit.icmp_ge_t G d5_25 Int32.lt_irrefl (by decide) (pc' := 66) rfl ?_
      refine GoKit.iconst G (1 : Int32) d5_66 rfl (pc' := 67) rfl ?_
      refine GoKit.retNar G d5_67 (t := .boolean) rfl (by simp) (by decide) (by decide) ?_
      exact ⟨by rw [if_pos (hT.mpr (by rw [List.drop_length]; intro c hc; cases hc))]; rfl, rfl⟩
    | succ k ih =>
      intro i sl hik hT hsl
      have hi : i < cs.length := by omega
      obtain ⟨ch, hch⟩ : ∃ ch, cs[i]? = some ch := ⟨cs[i], List.getElem?_eq_getElem hi⟩
      refine GoKit.iloadN G d5_20 rfl (pc' := 21) rfl ?_
      refine GoKit.aloadN G d5_21 rfl rfl (pc' := 22) rfl ?_
      refine GoKit.callVirtualP G d5_22 (wi hw 51 rfl) (wi hw 52 rfl) (wi hw 54 rfl) (wi hw 53 rfl) (wi hw 9 rfl) (wi hw 55 rfl) (by decide) (str_exa S) (W := 1) (argsL := []) (rest := [(.int i.toInt32)]) (con_lenS l hw S HC) rfl (lenOf pd_14 rfl) rfl (by decide) (Nat.le_of_eq rfl) (by decide) (by decide) (by decide) (cells' := 0) (slots' := 0) rfl rfl (pc' := 25) rfl ?_
      show Run _ _ _ _ _ _ _ _ _ _ _ _ _ _ _ _ _ _ _ _ _ (mkF m 25 #[.val (.ref a), .val (.int i.toInt32), sl] [(.int cs.length.toInt32), (.int i.toInt32)])
      refine GoKit.icmp_ge_f G d5_25 ((toI_lt (by omega) (by omega)).mpr hi) (pc' := 28) rfl ?_
      refine GoKit.aloadN G d5_28 rfl rfl (pc' := 29) rfl ?_
      refine GoKit.iloadN G d5_29 rfl (pc' := 30) rfl ?_
      refine GoKit.callVirtualP G d5_30 (wi hw 61 rfl) (wi hw 62 rfl) (wi hw 64 rfl) (wi hw 63 rfl) (wi hw 9 rfl) (wi hw 65 rfl) (by decide) (str_exa S) (W := 0) (argsL := [(.int i.toInt32)]) (rest := []) (con_charS l hw (i := i) S hch HC HF HU) rfl (lenOf pd_15 rfl) rfl (by decide) (Nat.le_of_eq rfl) (by decide) (by decide) (by decide) (cells' := 0) (slots' := 0) rfl rfl (pc' := 33) rfl ?_
      show Run _ _ _ _ _ _ _ _ _ _ _ _ _ _ _ _ _ _ _ _ _ (mkF m 33 #[.val (.ref a), .val (.int i.toInt32), sl] [(.int ch)])
      refine GoKit.istoreN G d5_33 (Ls' := #[.val (.ref a), .val (.int i.toInt32), .val (.int ch)]) (XS.store1 rfl hsl rfl) (pc' := 34) rfl ?_
      refine GoKit.iloadN G d5_34 rfl (pc' := 35) rfl ?_
      refine GoKit.bipush G (48 : Int32) d5_35 rfl (pc' := 37) rfl ?_
      refine GoKit.icmp_lt G d5_37 (by decide) (pt := 46) (pf := 40) rfl rfl (fun hb1 => ?_) (fun hb1 => ?_)
      · refine GoKit.iloadN G d5_46 rfl (pc' := 47) rfl ?_
        refine GoKit.bipush G (97 : Int32) d5_47 rfl (pc' := 49) rfl ?_
        refine GoKit.icmp_lt G d5_49 (by decide) (pt := 58) (pf := 52) rfl rfl (fun hb2 => ?_) (fun hb2 => ?_)
        · refine GoKit.iconst G (0 : Int32) d5_58 rfl (pc' := 59) rfl ?_
          refine GoKit.retNar G d5_59 (t := .boolean) rfl (by simp) (by decide) (by decide) ?_
          exact ⟨by rw [if_neg (fun q => (show ¬ hexP ch from by unfold hexP; simp only [gt_iff_lt, ge_iff_le, ne_eq, Int32.lt_iff_toInt_lt, Int32.le_iff_toInt_le, ← Int32.toInt_inj, show (48 : Int32).toInt = 48 from rfl, show (57 : Int32).toInt = 57 from rfl, show (97 : Int32).toInt = 97 from rfl, show (102 : Int32).toInt = 102 from rfl] at hb1 hb2; omega) (hT.mp q ch (mem_drop hch)))]; rfl, rfl⟩
        · refine GoKit.iloadN G d5_52 rfl (pc' := 53) rfl ?_
          refine GoKit.bipush G (102 : Int32) d5_53 rfl (pc' := 55) rfl ?_
          refine GoKit.icmp_le G d5_55 (by decide) (pt := 60) (pf := 58) rfl rfl (fun hb3 => ?_) (fun hb3 => ?_)
          · refine GoKit.iinc G (1 : Int32) d5_60 rfl rfl (Ls' := #[.val (.ref a), .val (.int (i.toInt32 + (1 : Int32))), .val (.int ch)]) rfl (pc' := 63) rfl ?_
            generalize hqv4 : (i.toInt32 + (1 : Int32)) = v4
            refine GoKit.goto G d5_63 (by decide) (pc' := 20) rfl ?_
            rw [toI_succ] at hqv4; subst hqv4
            exact ih (i + 1) (.val (.int ch)) (by omega) (hT.trans (drop_step hch (by unfold hexP; simp only [gt_iff_lt, ge_iff_le, ne_eq, Int32.lt_iff_toInt_lt, Int32.le_iff_toInt_le, ← Int32.toInt_inj, show (48 : Int32).toInt = 48 from rfl, show (57 : Int32).toInt = 57 from rfl, show (97 : Int32).toInt = 97 from rfl, show (102 : Int32).toInt = 102 from rfl] at hb1 hb2 hb3; omega))) (Or.inr ⟨_, rfl, rfl⟩)
          · refine GoKit.iconst G (0 : Int32) d5_58 rfl (pc' := 59) rfl ?_
            refine GoKit.retNar G d5_59 (t := .boolean) rfl (by simp) (by decide) (by decide) ?_
            exact ⟨by rw [if_neg (fun q => (show ¬ hexP ch from by unfold hexP; simp only [gt_iff_lt, ge_iff_le, ne_eq, Int32.lt_iff_toInt_lt, Int32.le_iff_toInt_le, ← Int32.toInt_inj, show (48 : Int32).toInt = 48 from rfl, show (57 : Int32).toInt = 57 from rfl, show (97 : Int32).toInt = 97 from rfl, show (102 : Int32).toInt = 102 from rfl] at hb1 hb2 hb3; omega) (hT.mp q ch (mem_drop hch)))]; rfl, rfl⟩
      · refine GoKit.iloadN G d5_40 rfl (pc' := 41) rfl ?_
        refine GoKit.bipush G (57 : Int32) d5_41 rfl (pc' := 43) rfl ?_
        refine GoKit.icmp_le G d5_43 (by decide) (pt := 60) (pf := 46) rfl rfl (fun hb5 => ?_) (fun hb5 => ?_)
        · refine GoKit.iinc G (1 : Int32) d5_60 rfl rfl (Ls' := #[.val (.ref a), .val (.int (i.toInt32 + (1 : Int32))), .val (.int ch)]) rfl (pc' := 63) rfl ?_
          generalize hqv6 : (i.toInt32 + (1 : Int32)) = v6
          refine GoKit.goto G d5_63 (by decide) (pc' := 20) rfl ?_
          rw [toI_succ] at hqv6; subst hqv6
          exact ih (i + 1) (.val (.int ch)) (by omega) (hT.trans (drop_step hch (by unfold hexP; simp only [gt_iff_lt, ge_iff_le, ne_eq, Int32.lt_iff_toInt_lt, Int32.le_iff_toInt_le, ← Int32.toInt_inj, show (48 : Int32).toInt = 48 from rfl, show (57 : Int32).toInt = 57 from rfl, show (97 : Int32).toInt = 97 from rfl, show (102 : Int32).toInt = 102 from rfl] at hb1 hb5; omega))) (Or.inr ⟨_, rfl, rfl⟩)
        · refine GoKit.iloadN G d5_46 rfl (pc' := 47) rfl ?_
          refine GoKit.bipush G (97 : Int32) d5_47 rfl (pc' := 49) rfl ?_
          refine GoKit.icmp_lt G d5_49 (by decide) (pt := 58) (pf := 52) rfl rfl (fun hb7 => ?_) (fun hb7 => ?_)
          · refine GoKit.iconst G (0 : Int32) d5_58 rfl (pc' := 59) rfl ?_
            refine GoKit.retNar G d5_59 (t := .boolean) rfl (by simp) (by decide) (by decide) ?_
            exact ⟨by rw [if_neg (fun q => (show ¬ hexP ch from by unfold hexP; simp only [gt_iff_lt, ge_iff_le, ne_eq, Int32.lt_iff_toInt_lt, Int32.le_iff_toInt_le, ← Int32.toInt_inj, show (48 : Int32).toInt = 48 from rfl, show (57 : Int32).toInt = 57 from rfl, show (97 : Int32).toInt = 97 from rfl, show (102 : Int32).toInt = 102 from rfl] at hb1 hb5 hb7; omega) (hT.mp q ch (mem_drop hch)))]; rfl, rfl⟩
          · refine GoKit.iloadN G d5_52 rfl (pc' := 53) rfl ?_
            refine GoKit.bipush G (102 : Int32) d5_53 rfl (pc' := 55) rfl ?_
            refine GoKit.icmp_le G d5_55 (by decide) (pt := 60) (pf := 58) rfl rfl (fun hb8 => ?_) (fun hb8 => ?_)
            · refine GoKit.iinc G (1 : Int32) d5_60 rfl rfl (Ls' := #[.val (.ref a), .val (.int (i.toInt32 + (1 : Int32))), .val (.int ch)]) rfl (pc' := 63) rfl ?_
              generalize hqv9 : (i.toInt32 + (1 : Int32)) = v9
              refine GoKit.goto G d5_63 (by decide) (pc' := 20) rfl ?_
              rw [toI_succ] at hqv9; subst hqv9
              exact ih (i + 1) (.val (.int ch)) (by omega) (hT.trans (drop_step hch (by unfold hexP; simp only [gt_iff_lt, ge_iff_le, ne_eq, Int32.lt_iff_toInt_lt, Int32.le_iff_toInt_le, ← Int32.toInt_inj, show (48 : Int32).toInt = 48 from rfl, show (57 : Int32).toInt = 57 from rfl, show (97 : Int32).toInt = 97 from rfl, show (102 : Int32).toInt = 102 from rfl] at hb1 hb5 hb7 hb8; omega))) (Or.inr ⟨_, rfl, rfl⟩)
            · refine GoKit.iconst G (0 : Int32) d5_58 rfl (pc' := 59) rfl ?_
              refine GoKit.retNar G d5_59 (t := .boolean) rfl (by simp) (by decide) (by decide) ?_
              exact ⟨by rw [if_neg (fun q => (show ¬ hexP ch from by unfold hexP; simp only [gt_iff_lt, ge_iff_le, ne_eq, Int32.lt_iff_toInt_lt, Int32.le_iff_toInt_le, ← Int32.toInt_inj, show (48 : Int32).toInt = 48 from rfl, show (57 : Int32).toInt = 57 from rfl, show (97 : Int32).toInt = 97 from rfl, show (102 : Int32).toInt = 102 from rfl] at hb1 hb5 hb7 hb8; omega) (hT.mp q ch (mem_drop hch)))]; rfl, rfl⟩
  refine GoKit.aloadN G d5_0 rfl rfl (pc' := 1) rfl ?_
  refine GoKit.callVirtualP G d5_1 (wi hw 32 rfl) (wi hw 33 rfl) (wi hw 35 rfl) (wi hw 34 rfl) (wi hw 9 rfl) (wi hw 36 rfl) (by decide) (str_exa S) (W := 0) (argsL := []) (rest := []) (con_isEmpS l hw S hne hl30) rfl (lenOf pd_13 rfl) rfl (by decide) (Nat.le_of_eq rfl) (by decide) (by decide) (by decide) (cells' := 0) (slots' := 0) rfl rfl (pc' := 4) rfl ?_
  show Run _ _ _ _ _ _ _ _ _ _ _ _ _ _ _ _ _ _ _ _ _ (mkF m 4 #[.val (.ref a), .unset, .unset] [(.int (0 : Int32))])
  refine GoKit.if_ne_f G d5_4 (by decide) (pc' := 7) rfl ?_
  refine GoKit.aloadN G d5_7 rfl rfl (pc' := 8) rfl ?_
  refine GoKit.callVirtualP G d5_8 (wi hw 51 rfl) (wi hw 52 rfl) (wi hw 54 rfl) (wi hw 53 rfl) (wi hw 9 rfl) (wi hw 55 rfl) (by decide) (str_exa S) (W := 0) (argsL := []) (rest := []) (con_lenS l hw S HC) rfl (lenOf pd_14 rfl) rfl (by decide) (Nat.le_of_eq rfl) (by decide) (by decide) (by decide) (cells' := 0) (slots' := 0) rfl rfl (pc' := 11) rfl ?_
  show Run _ _ _ _ _ _ _ _ _ _ _ _ _ _ _ _ _ _ _ _ _ (mkF m 11 #[.val (.ref a), .unset, .unset] [(.int cs.length.toInt32)])
  refine GoKit.bipush G (40 : Int32) d5_11 rfl (pc' := 13) rfl ?_
  refine GoKit.icmp_le G d5_13 (by decide) (pt := 18) (pf := 16) rfl rfl (fun hb10 => ?_) (fun hb10 => ?_)
  · refine GoKit.iconst G (0 : Int32) d5_18 rfl (pc' := 19) rfl ?_
    refine GoKit.istoreN G d5_19 (Ls' := #[.val (.ref a), .val (.int (0 : Int32)), .unset]) rfl (pc' := 20) rfl ?_
    exact loop cs.length 0 .unset (by omega) ⟨fun q => q.2.2, fun q => ⟨hne, (le40 hl).mp hb10, q⟩⟩ (Or.inl rfl)
  · refine GoKit.iconst G (0 : Int32) d5_16 rfl (pc' := 17) rfl ?_
    refine GoKit.retNar G d5_17 (t := .boolean) rfl (by simp) (by decide) (by decide) ?_
    exact ⟨by rw [if_neg (fun q => (le40 hl).mpr q.2.1 hb10)]; rfl, rfl⟩
theorem pd_16 : parseMethodDescriptor "([C)V" = some ⟨[(.array .char)], none⟩ := by decide +kernel
theorem pd_17 : parseMethodDescriptor "(Ljava/lang/String;)Z" = some ⟨[(.object "java/lang/String")], some .boolean⟩ := by decide +kernel
theorem pd_18 : parseMethodDescriptor "(C)Z" = some ⟨[.char], some .boolean⟩ := by decide +kernel
set_option maxRecDepth 65536 in
set_option maxHeartbeats 40000000 in
theorem con_law (l : Launch) {Z : State} {a0 : Array Value} (hw : ∀ d ∈ tables_1, d.before a0 Z = true) {n0 : Nat} {h0 : Heap} (p0 : Int32) (p1 : Int32) (p2 : Int32) (p3 : Int32) (p4 : Int32) (HC : Cst Z) (HF : Frm Z) (HU : Ust Z) :
    Con l Z true false ELs n0 x code maxLocals ret room_1 tables_1 #[(.int p0), (.int p1), (.int p2), (.int p3), (.int p4)] h0 [] (fun v h => v = some (.int 1)) := by
  refine Con.intro (plainFor_of_name pn_com_example_waymark_waymark_IdsIsIdPrefixPinLaw) (hELs hw) ?_
  intro p e s m below meth c hh G
  refine castRun (g' := mkF m 0 #[.val (.int p0), .val (.int p1), .val (.int p2), .val (.int p3), .val (.int p4), .unset, .unset, .unset, .unset, .unset, .unset, .unset] []) (by first | rfl | (simp [entryFrame, mkF, argsToLocals, Value.category, maxLocals]; done)) ?_
  have J : ∀ (h : Heap) (b : Addr) (xs : List Int32) (c5 c6 c7 c8 c9 ex : Int32), IA Z h b .char xs → xs.length ≤ 41 → xs ≠ [] → (∀ c ∈ xs, 0 ≤ c.toInt ∧ c.toInt < 65536) → ex = (if T xs then 1 else 0) → Run p l e room_1 s m #[.int p0, .int p1, .int p2, .int p3, .int p4] below meth c Z true false ELs n0 [] (fun v h => v = some (.int 1)) h [] 1 41 (mkF m 760 #[.val (.int p0), .val (.int p1), .val (.int p2), .val (.int p3), .val (.int p4), .val (.int c5), .val (.int c6), .val (.int c7), .val (.int c8), .val (.int c9), .val (.ref b), .val (.int ex)] []) := by
    intro h b xs c5 c6 c7 c8 c9 ex A hcap hxn hxc hT
    refine GoKit.newobj G at_760 (wi hw 7 rfl) (wi hw 8 rfl) (wi hw 9 rfl) (by decide) (by decide) (cells' := 2) (slots' := 45) rfl rfl (pc' := 763) rfl (fun h5 a1 ga1 E2 X3 D4 => ?_)
    have F6 : Fld Z h5 a1 "java/lang/String" "value" "[B" .null := D4 (Or.inr (wi hw 22 rfl)) (ty := (.array .byte)) (by decide)
    have F7 : Fld Z h5 a1 "java/lang/String" "coder" "B" (.int 0) := D4 (Or.inr (wi hw 23 rfl)) (ty := .byte) (by decide)
    refine GoKit.dup G at_763 rfl (pc' := 764) rfl ?_
    refine GoKit.aload G at_764 rfl rfl (pc' := 766) rfl ?_
    refine GoKit.callSpecial G at_766 rfl (wi hw 10 rfl) (wi hw 11 rfl) (wi hw 9 rfl) (wi hw 12 rfl) (by decide) (owc := [a1]) (W := 1) (argsL := [(.ref b)]) (rest := [(.ref a1)]) (con_strInitS l hw X3 F6 F7 (A.ext E2) hcap hxc hxn HC HU) rfl (lenOf pd_16 rfl) rfl (by decide) (Nat.le_of_eq rfl) (by decide) (by decide) (by decide) (by intro x hx; simp only [List.mem_cons, List.not_mem_nil, or_false] at hx ⊢; simp [hx]) (cells' := 4) (slots' := 168) rfl rfl (pc' := 769) rfl (fun r8 h11 q9 K10 => ?_)
    obtain ⟨rfl, S12⟩ := q9
    show Run _ _ _ _ _ _ _ _ _ _ _ _ _ _ _ _ _ _ _ _ _ (mkF m 769 #[.val (.int p0), .val (.int p1), .val (.int p2), .val (.int p3), .val (.int p4), .val (.int c5), .val (.int c6), .val (.int c7), .val (.int c8), .val (.int c9), .val (.ref b), .val (.int ex)] [(.ref a1)])
    refine GoKit.callStaticP G at_769 (wi hw 28 rfl) (wi hw 29 rfl) (wi hw 30 rfl) (wi hw 31 rfl) (by decide) (W := 0) (argsL := [(.ref a1)]) (rest := []) (con_pre l hw S12 hxn (by omega) HC HF HU) rfl (lenOf pd_17 rfl) rfl (by decide) (Nat.le_of_eq rfl) (by decide) (by decide) (by decide) (cells' := 4) (slots' := 168) rfl rfl (pc' := 772) rfl ?_
    show Run _ _ _ _ _ _ _ _ _ _ _ _ _ _ _ _ _ _ _ _ _ (mkF m 772 #[.val (.int p0), .val (.int p1), .val (.int p2), .val (.int p3), .val (.int p4), .val (.int c5), .val (.int c6), .val (.int c7), .val (.int c8), .val (.int c9), .val (.ref b), .val (.int ex)] [(.int (if T xs then 1 else 0))])
    refine GoKit.iload G at_772 rfl (pc' := 774) rfl ?_
    refine GoKit.icmp_ne_f G at_774 hT.symm (pc' := 777) rfl ?_
    refine GoKit.iconst G (1 : Int32) at_777 rfl (pc' := 778) rfl ?_
    refine GoKit.goto G at_778 (by decide) (pc' := 782) rfl ?_
    refine GoKit.retNar G at_782 (t := .boolean) rfl (by simp) (by decide) (by decide) ?_
    exact rfl
  refine GoKit.iloadN G at_0 rfl (pc' := 1) rfl ?_
  refine GoKit.callStatic G at_1 (wi hw 0 rfl) (wi hw 1 rfl) (wi hw 2 rfl) (wi hw 3 rfl) (by decide) (owc := []) (W := 0) (argsL := [(.int p1)]) (rest := []) (con_ch l hw p1) rfl (lenOf pd_15 rfl) rfl (by decide) (Nat.le_of_eq rfl) (by decide) (by decide) (by decide) (fun _ q => nomatch q) (cells' := 0) (slots' := 0) rfl rfl (pc' := 4) rfl (fun r13 h16 q14 K15 => ?_)
  obtain ⟨ch17, rfl, H18⟩ := q14
  show Run _ _ _ _ _ _ _ _ _ _ _ _ _ _ _ _ _ _ _ _ _ (mkF m 4 #[.val (.int p0), .val (.int p1), .val (.int p2), .val (.int p3), .val (.int p4), .unset, .unset, .unset, .unset, .unset, .unset, .unset] [(.int ch17)])
  refine GoKit.istore G at_4 (Ls' := #[.val (.int p0), .val (.int p1), .val (.int p2), .val (.int p3), .val (.int p4), .val (.int ch17), .unset, .unset, .unset, .unset, .unset, .unset]) rfl (pc' := 6) rfl ?_
  refine GoKit.iloadN G at_6 rfl (pc' := 7) rfl ?_
  refine GoKit.callStatic G at_7 (wi hw 0 rfl) (wi hw 1 rfl) (wi hw 2 rfl) (wi hw 3 rfl) (by decide) (owc := []) (W := 0) (argsL := [(.int p2)]) (rest := []) (con_ch l hw p2) rfl (lenOf pd_15 rfl) rfl (by decide) (Nat.le_of_eq rfl) (by decide) (by decide) (by decide) (fun _ q => nomatch q) (cells' := 0) (slots' := 0) rfl rfl (pc' := 10) rfl (fun r19 h22 q20 K21 => ?_)
  obtain ⟨ch23, rfl, H24⟩ := q20
  show Run _ _ _ _ _ _ _ _ _ _ _ _ _ _ _ _ _ _ _ _ _ (mkF m 10 #[.val (.int p0), .val (.int p1), .val (.int p2), .val (.int p3), .val (.int p4), .val (.int ch17), .unset, .unset, .unset, .unset, .unset, .unset] [(.int ch23)])
  refine GoKit.istore G at_10 (Ls' := #[.val (.int p0), .val (.int p1), .val (.int p2), .val (.int p3), .val (.int p4), .val (.int ch17), .val (.int ch23), .unset, .unset, .unset, .unset, .unset]) rfl (pc' := 12) rfl ?_
  refine GoKit.iloadN G at_12 rfl (pc' := 13) rfl ?_
  refine GoKit.callStatic G at_13 (wi hw 0 rfl) (wi hw 1 rfl) (wi hw 2 rfl) (wi hw 3 rfl) (by decide) (owc := []) (W := 0) (argsL := [(.int p3)]) (rest := []) (con_ch l hw p3) rfl (lenOf pd_15 rfl) rfl (by decide) (Nat.le_of_eq rfl) (by decide) (by decide) (by decide) (fun _ q => nomatch q) (cells' := 0) (slots' := 0) rfl rfl (pc' := 16) rfl (fun r25 h28 q26 K27 => ?_)
  obtain ⟨ch29, rfl, H30⟩ := q26
  show Run _ _ _ _ _ _ _ _ _ _ _ _ _ _ _ _ _ _ _ _ _ (mkF m 16 #[.val (.int p0), .val (.int p1), .val (.int p2), .val (.int p3), .val (.int p4), .val (.int ch17), .val (.int ch23), .unset, .unset, .unset, .unset, .unset] [(.int ch29)])
  refine GoKit.istore G at_16 (Ls' := #[.val (.int p0), .val (.int p1), .val (.int p2), .val (.int p3), .val (.int p4), .val (.int ch17), .val (.int ch23), .val (.int ch29), .unset, .unset, .unset, .unset]) rfl (pc' := 18) rfl ?_
  refine GoKit.iload G at_18 rfl (pc' := 20) rfl ?_
  refine GoKit.callStatic G at_20 (wi hw 0 rfl) (wi hw 1 rfl) (wi hw 2 rfl) (wi hw 3 rfl) (by decide) (owc := []) (W := 0) (argsL := [(.int p4)]) (rest := []) (con_ch l hw p4) rfl (lenOf pd_15 rfl) rfl (by decide) (Nat.le_of_eq rfl) (by decide) (by decide) (by decide) (fun _ q => nomatch q) (cells' := 0) (slots' := 0) rfl rfl (pc' := 23) rfl (fun r31 h34 q32 K33 => ?_)
  obtain ⟨ch35, rfl, H36⟩ := q32
  show Run _ _ _ _ _ _ _ _ _ _ _ _ _ _ _ _ _ _ _ _ _ (mkF m 23 #[.val (.int p0), .val (.int p1), .val (.int p2), .val (.int p3), .val (.int p4), .val (.int ch17), .val (.int ch23), .val (.int ch29), .unset, .unset, .unset, .unset] [(.int ch35)])
  refine GoKit.istore G at_23 (Ls' := #[.val (.int p0), .val (.int p1), .val (.int p2), .val (.int p3), .val (.int p4), .val (.int ch17), .val (.int ch23), .val (.int ch29), .val (.int ch35), .unset, .unset, .unset]) rfl (pc' := 25) rfl ?_
  refine GoKit.iloadN G at_25 rfl (pc' := 26) rfl ?_
  refine GoKit.ldcInt G at_26 (wi hw 5 rfl) (pc' := 28) rfl ?_
  refine GoKit.iand G at_28 (pc' := 29) rfl (fun v37 hqv37 => ?_)
  refine GoKit.bipush G (6 : Int32) at_29 rfl (pc' := 31) rfl ?_
  refine GoKit.irem G at_31 (by decide) (pc' := 32) rfl (fun v38 hqv38 => ?_)
  rcases cases6 (v := v38) (and31_rem hqv37 hqv38 (by decide)) with rfl | rfl | rfl | rfl | rfl | rfl
  · refine GoKit.istore G at_32 (Ls' := #[.val (.int p0), .val (.int p1), .val (.int p2), .val (.int p3), .val (.int p4), .val (.int ch17), .val (.int ch23), .val (.int ch29), .val (.int ch35), .val (.int (0 : Int32)), .unset, .unset]) rfl (pc' := 34) rfl ?_
    refine GoKit.iload G at_34 rfl (pc' := 36) rfl ?_
    refine GoKit.if_ne_f G at_36 (by decide) (pc' := 39) rfl ?_
    refine GoKit.iconst G (0 : Int32) at_39 rfl (pc' := 40) rfl ?_
    refine GoKit.newcI G at_40 (wi hw 6 rfl) (by decide) (k := 0) (cap := 0) rfl (Nat.le_refl _) (by decide) (by decide) (by decide) (cells' := 1) (slots' := 0) rfl rfl (pc' := 42) rfl (fun h42 a39 ga39 E40 A41 => ?_)
    refine GoKit.astore G at_42 rfl (Ls' := #[.val (.int p0), .val (.int p1), .val (.int p2), .val (.int p3), .val (.int p4), .val (.int ch17), .val (.int ch23), .val (.int ch29), .val (.int ch35), .val (.int (0 : Int32)), .val (.ref a39), .unset]) rfl (pc' := 44) rfl ?_
    refine GoKit.iconst G (0 : Int32) at_44 rfl (pc' := 45) rfl ?_
    refine GoKit.istore G at_45 (Ls' := #[.val (.int p0), .val (.int p1), .val (.int p2), .val (.int p3), .val (.int p4), .val (.int ch17), .val (.int ch23), .val (.int ch29), .val (.int ch35), .val (.int (0 : Int32)), .val (.ref a39), .val (.int (0 : Int32))]) rfl (pc' := 47) rfl ?_
    refine GoKit.goto G at_47 (by decide) (pc' := 760) rfl ?_
    refine GoKit.newobj G at_760 (wi hw 7 rfl) (wi hw 8 rfl) (wi hw 9 rfl) (by decide) (by decide) (cells' := 2) (slots' := 4) rfl rfl (pc' := 763) rfl (fun h47 a43 ga43 E44 X45 D46 => ?_)
    have F48 : Fld Z h47 a43 "java/lang/String" "value" "[B" .null := D46 (Or.inr (wi hw 22 rfl)) (ty := (.array .byte)) (by decide)
    have F49 : Fld Z h47 a43 "java/lang/String" "coder" "B" (.int 0) := D46 (Or.inr (wi hw 23 rfl)) (ty := .byte) (by decide)
    refine GoKit.dup G at_763 rfl (pc' := 764) rfl ?_
    refine GoKit.aload G at_764 rfl rfl (pc' := 766) rfl ?_
    refine GoKit.callSpecial G at_766 rfl (wi hw 10 rfl) (wi hw 11 rfl) (wi hw 9 rfl) (wi hw 12 rfl) (by decide) (owc := [a43]) (W := 1) (argsL := [(.ref a39)]) (rest := [(.ref a43)]) (con_strInitE l hw X45 F48 F49 (A41.ext E44)) rfl (lenOf pd_16 rfl) rfl (by decide) (Nat.le_of_eq rfl) (by decide) (by decide) (by decide) (by intro x hx; simp only [List.mem_cons, List.not_mem_nil, or_false] at hx ⊢; simp [hx]) (cells' := 6) (slots' := 12) rfl rfl (pc' := 769) rfl (fun r50 h53 q51 K52 => ?_)
    obtain ⟨rfl, S54⟩ := q51
    show Run _ _ _ _ _ _ _ _ _ _ _ _ _ _ _ _ _ _ _ _ _ (mkF m 769 #[.val (.int p0), .val (.int p1), .val (.int p2), .val (.int p3), .val (.int p4), .val (.int ch17), .val (.int ch23), .val (.int ch29), .val (.int ch35), .val (.int (0 : Int32)), .val (.ref a39), .val (.int (0 : Int32))] [(.ref a43)])
    refine GoKit.callStaticP G at_769 (wi hw 28 rfl) (wi hw 29 rfl) (wi hw 30 rfl) (wi hw 31 rfl) (by decide) (W := 0) (argsL := [(.ref a43)]) (rest := []) (con_pre0 l hw S54) rfl (lenOf pd_17 rfl) rfl (by decide) (Nat.le_of_eq rfl) (by decide) (by decide) (by decide) (cells' := 6) (slots' := 12) rfl rfl (pc' := 772) rfl ?_
    show Run _ _ _ _ _ _ _ _ _ _ _ _ _ _ _ _ _ _ _ _ _ (mkF m 772 #[.val (.int p0), .val (.int p1), .val (.int p2), .val (.int p3), .val (.int p4), .val (.int ch17), .val (.int ch23), .val (.int ch29), .val (.int ch35), .val (.int (0 : Int32)), .val (.ref a39), .val (.int (0 : Int32))] [(.int (if T [] then 1 else 0))])
    refine GoKit.iload G at_772 rfl (pc' := 774) rfl ?_
    refine GoKit.icmp_ne_f G at_774 (if_neg (fun r => r.1 rfl)) (pc' := 777) rfl ?_
    refine GoKit.iconst G (1 : Int32) at_777 rfl (pc' := 778) rfl ?_
    refine GoKit.goto G at_778 (by decide) (pc' := 782) rfl ?_
    refine GoKit.retNar G at_782 (t := .boolean) rfl (by simp) (by decide) (by decide) ?_
    exact rfl
  · refine GoKit.istore G at_32 (Ls' := #[.val (.int p0), .val (.int p1), .val (.int p2), .val (.int p3), .val (.int p4), .val (.int ch17), .val (.int ch23), .val (.int ch29), .val (.int ch35), .val (.int (1 : Int32)), .unset, .unset]) rfl (pc' := 34) rfl ?_
    refine GoKit.iload G at_34 rfl (pc' := 36) rfl ?_
    refine GoKit.if_ne_t G at_36 (by decide) (by decide) (pc' := 50) rfl ?_
    refine GoKit.iload G at_50 rfl (pc' := 52) rfl ?_
    refine GoKit.iconst G (1 : Int32) at_52 rfl (pc' := 53) rfl ?_
    refine GoKit.icmp_ne_f G at_53 (by decide) (pc' := 56) rfl ?_
    refine GoKit.iconst G (1 : Int32) at_56 rfl (pc' := 57) rfl ?_
    refine GoKit.newcI G at_57 (wi hw 6 rfl) (by decide) (k := 1) (cap := 1) rfl (Nat.le_refl _) (by decide) (by decide) (by decide) (cells' := 1) (slots' := 1) rfl rfl (pc' := 59) rfl (fun h58 a55 ga55 E56 A57 => ?_)
    refine GoKit.dup G at_59 rfl (pc' := 60) rfl ?_
    refine GoKit.iconst G (0 : Int32) at_60 rfl (pc' := 61) rfl ?_
    refine GoKit.iload G at_61 rfl (pc' := 63) rfl ?_
    refine GoKit.castI G at_63 A57 (i := 0) rfl (by decide) (Nat.le_of_ble_eq_true rfl) (nar16 H18) (List.Mem.head _) (pc' := 64) rfl (fun h61 W59 A60 => ?_)
    change IA Z h61 a55 .char [ch17] at A60
    refine GoKit.astore G at_64 rfl (Ls' := #[.val (.int p0), .val (.int p1), .val (.int p2), .val (.int p3), .val (.int p4), .val (.int ch17), .val (.int ch23), .val (.int ch29), .val (.int ch35), .val (.int (1 : Int32)), .val (.ref a55), .unset]) rfl (pc' := 66) rfl ?_
    refine GoKit.iload G at_66 rfl (pc' := 68) rfl ?_
    refine GoKit.callStaticP G at_68 (wi hw 37 rfl) (wi hw 38 rfl) (wi hw 2 rfl) (wi hw 39 rfl) (by decide) (W := 0) (argsL := [(.int ch17)]) (rest := []) (con_hex l hw ch17) rfl (lenOf pd_18 rfl) rfl (by decide) (Nat.le_of_eq rfl) (by decide) (by decide) (by decide) (cells' := 1) (slots' := 1) rfl rfl (pc' := 71) rfl ?_
    show Run _ _ _ _ _ _ _ _ _ _ _ _ _ _ _ _ _ _ _ _ _ (mkF m 71 #[.val (.int p0), .val (.int p1), .val (.int p2), .val (.int p3), .val (.int p4), .val (.int ch17), .val (.int ch23), .val (.int ch29), .val (.int ch35), .val (.int (1 : Int32)), .val (.ref a55), .unset] [(.int (if hexP ch17 then 1 else 0))])
    refine GoKit.istore G at_71 (Ls' := #[.val (.int p0), .val (.int p1), .val (.int p2), .val (.int p3), .val (.int p4), .val (.int ch17), .val (.int ch23), .val (.int ch29), .val (.int ch35), .val (.int (1 : Int32)), .val (.ref a55), .val (.int (if hexP ch17 then 1 else 0))]) rfl (pc' := 73) rfl ?_
    refine GoKit.goto G at_73 (by decide) (pc' := 760) rfl ?_
    have ha62 : ∀ c ∈ ([ch17] : List Int32), 0 ≤ c.toInt ∧ c.toInt < 65536 := by
      intro c hc
      simp only [List.mem_cons, List.not_mem_nil, or_false] at hc
      rcases hc with hc
      · rw [hc]; exact H18
    refine Run.mono (cells' := 1) (slots' := 41) (by decide) (by decide) ?_
    refine Run.owless (ow' := []) (fun _ q => nomatch q) ?_
    exact J _ _ [ch17] _ _ _ _ _ _ A60 (by simp) (by simp) ha62 ((T_one _))
  · refine GoKit.istore G at_32 (Ls' := #[.val (.int p0), .val (.int p1), .val (.int p2), .val (.int p3), .val (.int p4), .val (.int ch17), .val (.int ch23), .val (.int ch29), .val (.int ch35), .val (.int (2 : Int32)), .unset, .unset]) rfl (pc' := 34) rfl ?_
    refine GoKit.iload G at_34 rfl (pc' := 36) rfl ?_
    refine GoKit.if_ne_t G at_36 (by decide) (by decide) (pc' := 50) rfl ?_
    refine GoKit.iload G at_50 rfl (pc' := 52) rfl ?_
    refine GoKit.iconst G (1 : Int32) at_52 rfl (pc' := 53) rfl ?_
    refine GoKit.icmp_ne_t G at_53 (by decide) (by decide) (pc' := 76) rfl ?_
    refine GoKit.iload G at_76 rfl (pc' := 78) rfl ?_
    refine GoKit.iconst G (2 : Int32) at_78 rfl (pc' := 79) rfl ?_
    refine GoKit.icmp_ne_f G at_79 (by decide) (pc' := 82) rfl ?_
    refine GoKit.iconst G (2 : Int32) at_82 rfl (pc' := 83) rfl ?_
    refine GoKit.newcI G at_83 (wi hw 6 rfl) (by decide) (k := 2) (cap := 2) rfl (Nat.le_refl _) (by decide) (by decide) (by decide) (cells' := 1) (slots' := 2) rfl rfl (pc' := 85) rfl (fun h66 a63 ga63 E64 A65 => ?_)
    refine GoKit.dup G at_85 rfl (pc' := 86) rfl ?_
    refine GoKit.iconst G (0 : Int32) at_86 rfl (pc' := 87) rfl ?_
    refine GoKit.iload G at_87 rfl (pc' := 89) rfl ?_
    refine GoKit.castI G at_89 A65 (i := 0) rfl (by decide) (Nat.le_of_ble_eq_true rfl) (nar16 H18) (List.Mem.head _) (pc' := 90) rfl (fun h69 W67 A68 => ?_)
    change IA Z h69 a63 .char [ch17, 0] at A68
    refine GoKit.dup G at_90 rfl (pc' := 91) rfl ?_
    refine GoKit.iconst G (1 : Int32) at_91 rfl (pc' := 92) rfl ?_
    refine GoKit.iload G at_92 rfl (pc' := 94) rfl ?_
    refine GoKit.castI G at_94 A68 (i := 1) rfl (by decide) (Nat.le_of_ble_eq_true rfl) (nar16 H24) (List.Mem.head _) (pc' := 95) rfl (fun h72 W70 A71 => ?_)
    change IA Z h72 a63 .char [ch17, ch23] at A71
    refine GoKit.astore G at_95 rfl (Ls' := #[.val (.int p0), .val (.int p1), .val (.int p2), .val (.int p3), .val (.int p4), .val (.int ch17), .val (.int ch23), .val (.int ch29), .val (.int ch35), .val (.int (2 : Int32)), .val (.ref a63), .unset]) rfl (pc' := 97) rfl ?_
    refine GoKit.iload G at_97 rfl (pc' := 99) rfl ?_
    refine GoKit.callStaticP G at_99 (wi hw 37 rfl) (wi hw 38 rfl) (wi hw 2 rfl) (wi hw 39 rfl) (by decide) (W := 0) (argsL := [(.int ch17)]) (rest := []) (con_hex l hw ch17) rfl (lenOf pd_18 rfl) rfl (by decide) (Nat.le_of_eq rfl) (by decide) (by decide) (by decide) (cells' := 1) (slots' := 2) rfl rfl (pc' := 102) rfl ?_
    show Run _ _ _ _ _ _ _ _ _ _ _ _ _ _ _ _ _ _ _ _ _ (mkF m 102 #[.val (.int p0), .val (.int p1), .val (.int p2), .val (.int p3), .val (.int p4), .val (.int ch17), .val (.int ch23), .val (.int ch29), .val (.int ch35), .val (.int (2 : Int32)), .val (.ref a63), .unset] [(.int (if hexP ch17 then 1 else 0))])
    refine GoKit.if_eq G at_102 (by decide) (pt := 117) (pf := 105) rfl rfl (fun hb73 => ?_) (fun hb73 => ?_)
    · refine GoKit.iconst G (0 : Int32) at_117 rfl (pc' := 118) rfl ?_
      refine GoKit.istore G at_118 (Ls' := #[.val (.int p0), .val (.int p1), .val (.int p2), .val (.int p3), .val (.int p4), .val (.int ch17), .val (.int ch23), .val (.int ch29), .val (.int ch35), .val (.int (2 : Int32)), .val (.ref a63), .val (.int (0 : Int32))]) rfl (pc' := 120) rfl ?_
      refine GoKit.goto G at_120 (by decide) (pc' := 760) rfl ?_
      have ha74 : ∀ c ∈ ([ch17, ch23] : List Int32), 0 ≤ c.toInt ∧ c.toInt < 65536 := by
        intro c hc
        simp only [List.mem_cons, List.not_mem_nil, or_false] at hc
        rcases hc with hc | hc
        · rw [hc]; exact H18
        · rw [hc]; exact H24
      refine Run.mono (cells' := 1) (slots' := 41) (by decide) (by decide) ?_
      refine Run.owless (ow' := []) (fun _ q => nomatch q) ?_
      exact J _ _ [ch17, ch23] _ _ _ _ _ _ A71 (by simp) (by simp) ha74 ((if_neg (fun r => (ite_f hb73) (r.2.2 _ (by simp)))).symm)
    · refine GoKit.iload G at_105 rfl (pc' := 107) rfl ?_
      refine GoKit.callStaticP G at_107 (wi hw 37 rfl) (wi hw 38 rfl) (wi hw 2 rfl) (wi hw 39 rfl) (by decide) (W := 0) (argsL := [(.int ch23)]) (rest := []) (con_hex l hw ch23) rfl (lenOf pd_18 rfl) rfl (by decide) (Nat.le_of_eq rfl) (by decide) (by decide) (by decide) (cells' := 1) (slots' := 2) rfl rfl (pc' := 110) rfl ?_
      show Run _ _ _ _ _ _ _ _ _ _ _ _ _ _ _ _ _ _ _ _ _ (mkF m 110 #[.val (.int p0), .val (.int p1), .val (.int p2), .val (.int p3), .val (.int p4), .val (.int ch17), .val (.int ch23), .val (.int ch29), .val (.int ch35), .val (.int (2 : Int32)), .val (.ref a63), .unset] [(.int (if hexP ch23 then 1 else 0))])
      refine GoKit.if_eq G at_110 (by decide) (pt := 117) (pf := 113) rfl rfl (fun hb75 => ?_) (fun hb75 => ?_)
      · refine GoKit.iconst G (0 : Int32) at_117 rfl (pc' := 118) rfl ?_
        refine GoKit.istore G at_118 (Ls' := #[.val (.int p0), .val (.int p1), .val (.int p2), .val (.int p3), .val (.int p4), .val (.int ch17), .val (.int ch23), .val (.int ch29), .val (.int ch35), .val (.int (2 : Int32)), .val (.ref a63), .val (.int (0 : Int32))]) rfl (pc' := 120) rfl ?_
        refine GoKit.goto G at_120 (by decide) (pc' := 760) rfl ?_
        have ha76 : ∀ c ∈ ([ch17, ch23] : List Int32), 0 ≤ c.toInt ∧ c.toInt < 65536 := by
          intro c hc
          simp only [List.mem_cons, List.not_mem_nil, or_false] at hc
          rcases hc with hc | hc
          · rw [hc]; exact H18
          · rw [hc]; exact H24
        refine Run.mono (cells' := 1) (slots' := 41) (by decide) (by decide) ?_
        refine Run.owless (ow' := []) (fun _ q => nomatch q) ?_
        exact J _ _ [ch17, ch23] _ _ _ _ _ _ A71 (by simp) (by simp) ha76 ((if_neg (fun r => (ite_f hb75) (r.2.2 _ (by simp)))).symm)
      · refine GoKit.iconst G (1 : Int32) at_113 rfl (pc' := 114) rfl ?_
        refine GoKit.goto G at_114 (by decide) (pc' := 118) rfl ?_
        refine GoKit.istore G at_118 (Ls' := #[.val (.int p0), .val (.int p1), .val (.int p2), .val (.int p3), .val (.int p4), .val (.int ch17), .val (.int ch23), .val (.int ch29), .val (.int ch35), .val (.int (2 : Int32)), .val (.ref a63), .val (.int (1 : Int32))]) rfl (pc' := 120) rfl ?_
        refine GoKit.goto G at_120 (by decide) (pc' := 760) rfl ?_
        have ha77 : ∀ c ∈ ([ch17, ch23] : List Int32), 0 ≤ c.toInt ∧ c.toInt < 65536 := by
          intro c hc
          simp only [List.mem_cons, List.not_mem_nil, or_false] at hc
          rcases hc with hc | hc
          · rw [hc]; exact H18
          · rw [hc]; exact H24
        refine Run.mono (cells' := 1) (slots' := 41) (by decide) (by decide) ?_
        refine Run.owless (ow' := []) (fun _ q => nomatch q) ?_
        exact J _ _ [ch17, ch23] _ _ _ _ _ _ A71 (by simp) (by simp) ha77 ((if_pos ⟨by simp, by simp, by simp [(ite_t hb73), (ite_t hb75)]⟩).symm)
  · refine GoKit.istore G at_32 (Ls' := #[.val (.int p0), .val (.int p1), .val (.int p2), .val (.int p3), .val (.int p4), .val (.int ch17), .val (.int ch23), .val (.int ch29), .val (.int ch35), .val (.int (3 : Int32)), .unset, .unset]) rfl (pc' := 34) rfl ?_
    refine GoKit.iload G at_34 rfl (pc' := 36) rfl ?_
    refine GoKit.if_ne_t G at_36 (by decide) (by decide) (pc' := 50) rfl ?_
    refine GoKit.iload G at_50 rfl (pc' := 52) rfl ?_
    refine GoKit.iconst G (1 : Int32) at_52 rfl (pc' := 53) rfl ?_
    refine GoKit.icmp_ne_t G at_53 (by decide) (by decide) (pc' := 76) rfl ?_
    refine GoKit.iload G at_76 rfl (pc' := 78) rfl ?_
    refine GoKit.iconst G (2 : Int32) at_78 rfl (pc' := 79) rfl ?_
    refine GoKit.icmp_ne_t G at_79 (by decide) (by decide) (pc' := 123) rfl ?_
    refine GoKit.iload G at_123 rfl (pc' := 125) rfl ?_
    refine GoKit.iconst G (3 : Int32) at_125 rfl (pc' := 126) rfl ?_
    refine GoKit.icmp_ne_f G at_126 (by decide) (pc' := 129) rfl ?_
    refine GoKit.iconst G (3 : Int32) at_129 rfl (pc' := 130) rfl ?_
    refine GoKit.newcI G at_130 (wi hw 6 rfl) (by decide) (k := 3) (cap := 3) rfl (Nat.le_refl _) (by decide) (by decide) (by decide) (cells' := 1) (slots' := 3) rfl rfl (pc' := 132) rfl (fun h81 a78 ga78 E79 A80 => ?_)
    refine GoKit.dup G at_132 rfl (pc' := 133) rfl ?_
    refine GoKit.iconst G (0 : Int32) at_133 rfl (pc' := 134) rfl ?_
    refine GoKit.iload G at_134 rfl (pc' := 136) rfl ?_
    refine GoKit.castI G at_136 A80 (i := 0) rfl (by decide) (Nat.le_of_ble_eq_true rfl) (nar16 H18) (List.Mem.head _) (pc' := 137) rfl (fun h84 W82 A83 => ?_)
    change IA Z h84 a78 .char [ch17, 0, 0] at A83
    refine GoKit.dup G at_137 rfl (pc' := 138) rfl ?_
    refine GoKit.iconst G (1 : Int32) at_138 rfl (pc' := 139) rfl ?_
    refine GoKit.iload G at_139 rfl (pc' := 141) rfl ?_
    refine GoKit.castI G at_141 A83 (i := 1) rfl (by decide) (Nat.le_of_ble_eq_true rfl) (nar16 H24) (List.Mem.head _) (pc' := 142) rfl (fun h87 W85 A86 => ?_)
    change IA Z h87 a78 .char [ch17, ch23, 0] at A86
    refine GoKit.dup G at_142 rfl (pc' := 143) rfl ?_
    refine GoKit.iconst G (2 : Int32) at_143 rfl (pc' := 144) rfl ?_
    refine GoKit.iload G at_144 rfl (pc' := 146) rfl ?_
    refine GoKit.castI G at_146 A86 (i := 2) rfl (by decide) (Nat.le_of_ble_eq_true rfl) (nar16 H30) (List.Mem.head _) (pc' := 147) rfl (fun h90 W88 A89 => ?_)
    change IA Z h90 a78 .char [ch17, ch23, ch29] at A89
    refine GoKit.astore G at_147 rfl (Ls' := #[.val (.int p0), .val (.int p1), .val (.int p2), .val (.int p3), .val (.int p4), .val (.int ch17), .val (.int ch23), .val (.int ch29), .val (.int ch35), .val (.int (3 : Int32)), .val (.ref a78), .unset]) rfl (pc' := 149) rfl ?_
    refine GoKit.iload G at_149 rfl (pc' := 151) rfl ?_
    refine GoKit.callStaticP G at_151 (wi hw 37 rfl) (wi hw 38 rfl) (wi hw 2 rfl) (wi hw 39 rfl) (by decide) (W := 0) (argsL := [(.int ch17)]) (rest := []) (con_hex l hw ch17) rfl (lenOf pd_18 rfl) rfl (by decide) (Nat.le_of_eq rfl) (by decide) (by decide) (by decide) (cells' := 1) (slots' := 3) rfl rfl (pc' := 154) rfl ?_
    show Run _ _ _ _ _ _ _ _ _ _ _ _ _ _ _ _ _ _ _ _ _ (mkF m 154 #[.val (.int p0), .val (.int p1), .val (.int p2), .val (.int p3), .val (.int p4), .val (.int ch17), .val (.int ch23), .val (.int ch29), .val (.int ch35), .val (.int (3 : Int32)), .val (.ref a78), .unset] [(.int (if hexP ch17 then 1 else 0))])
    refine GoKit.if_eq G at_154 (by decide) (pt := 177) (pf := 157) rfl rfl (fun hb91 => ?_) (fun hb91 => ?_)
    · refine GoKit.iconst G (0 : Int32) at_177 rfl (pc' := 178) rfl ?_
      refine GoKit.istore G at_178 (Ls' := #[.val (.int p0), .val (.int p1), .val (.int p2), .val (.int p3), .val (.int p4), .val (.int ch17), .val (.int ch23), .val (.int ch29), .val (.int ch35), .val (.int (3 : Int32)), .val (.ref a78), .val (.int (0 : Int32))]) rfl (pc' := 180) rfl ?_
      refine GoKit.goto G at_180 (by decide) (pc' := 760) rfl ?_
      have ha92 : ∀ c ∈ ([ch17, ch23, ch29] : List Int32), 0 ≤ c.toInt ∧ c.toInt < 65536 := by
        intro c hc
        simp only [List.mem_cons, List.not_mem_nil, or_false] at hc
        rcases hc with hc | hc | hc
        · rw [hc]; exact H18
        · rw [hc]; exact H24
        · rw [hc]; exact H30
      refine Run.mono (cells' := 1) (slots' := 41) (by decide) (by decide) ?_
      refine Run.owless (ow' := []) (fun _ q => nomatch q) ?_
      exact J _ _ [ch17, ch23, ch29] _ _ _ _ _ _ A89 (by simp) (by simp) ha92 ((if_neg (fun r => (ite_f hb91) (r.2.2 _ (by simp)))).symm)
    · refine GoKit.iload G at_157 rfl (pc' := 159) rfl ?_
      refine GoKit.callStaticP G at_159 (wi hw 37 rfl) (wi hw 38 rfl) (wi hw 2 rfl) (wi hw 39 rfl) (by decide) (W := 0) (argsL := [(.int ch23)]) (rest := []) (con_hex l hw ch23) rfl (lenOf pd_18 rfl) rfl (by decide) (Nat.le_of_eq rfl) (by decide) (by decide) (by decide) (cells' := 1) (slots' := 3) rfl rfl (pc' := 162) rfl ?_
      show Run _ _ _ _ _ _ _ _ _ _ _ _ _ _ _ _ _ _ _ _ _ (mkF m 162 #[.val (.int p0), .val (.int p1), .val (.int p2), .val (.int p3), .val (.int p4), .val (.int ch17), .val (.int ch23), .val (.int ch29), .val (.int ch35), .val (.int (3 : Int32)), .val (.ref a78), .unset] [(.int (if hexP ch23 then 1 else 0))])
      refine GoKit.if_eq G at_162 (by decide) (pt := 177) (pf := 165) rfl rfl (fun hb93 => ?_) (fun hb93 => ?_)
      · refine GoKit.iconst G (0 : Int32) at_177 rfl (pc' := 178) rfl ?_
        refine GoKit.istore G at_178 (Ls' := #[.val (.int p0), .val (.int p1), .val (.int p2), .val (.int p3), .val (.int p4), .val (.int ch17), .val (.int ch23), .val (.int ch29), .val (.int ch35), .val (.int (3 : Int32)), .val (.ref a78), .val (.int (0 : Int32))]) rfl (pc' := 180) rfl ?_
        refine GoKit.goto G at_180 (by decide) (pc' := 760) rfl ?_
        have ha94 : ∀ c ∈ ([ch17, ch23, ch29] : List Int32), 0 ≤ c.toInt ∧ c.toInt < 65536 := by
          intro c hc
          simp only [List.mem_cons, List.not_mem_nil, or_false] at hc
          rcases hc with hc | hc | hc
          · rw [hc]; exact H18
          · rw [hc]; exact H24
          · rw [hc]; exact H30
        refine Run.mono (cells' := 1) (slots' := 41) (by decide) (by decide) ?_
        refine Run.owless (ow' := []) (fun _ q => nomatch q) ?_
        exact J _ _ [ch17, ch23, ch29] _ _ _ _ _ _ A89 (by simp) (by simp) ha94 ((if_neg (fun r => (ite_f hb93) (r.2.2 _ (by simp)))).symm)
      · refine GoKit.iload G at_165 rfl (pc' := 167) rfl ?_
        refine GoKit.callStaticP G at_167 (wi hw 37 rfl) (wi hw 38 rfl) (wi hw 2 rfl) (wi hw 39 rfl) (by decide) (W := 0) (argsL := [(.int ch29)]) (rest := []) (con_hex l hw ch29) rfl (lenOf pd_18 rfl) rfl (by decide) (Nat.le_of_eq rfl) (by decide) (by decide) (by decide) (cells' := 1) (slots' := 3) rfl rfl (pc' := 170) rfl ?_
        show Run _ _ _ _ _ _ _ _ _ _ _ _ _ _ _ _ _ _ _ _ _ (mkF m 170 #[.val (.int p0), .val (.int p1), .val (.int p2), .val (.int p3), .val (.int p4), .val (.int ch17), .val (.int ch23), .val (.int ch29), .val (.int ch35), .val (.int (3 : Int32)), .val (.ref a78), .unset] [(.int (if hexP ch29 then 1 else 0))])
        refine GoKit.if_eq G at_170 (by decide) (pt := 177) (pf := 173) rfl rfl (fun hb95 => ?_) (fun hb95 => ?_)
        · refine GoKit.iconst G (0 : Int32) at_177 rfl (pc' := 178) rfl ?_
          refine GoKit.istore G at_178 (Ls' := #[.val (.int p0), .val (.int p1), .val (.int p2), .val (.int p3), .val (.int p4), .val (.int ch17), .val (.int ch23), .val (.int ch29), .val (.int ch35), .val (.int (3 : Int32)), .val (.ref a78), .val (.int (0 : Int32))]) rfl (pc' := 180) rfl ?_
          refine GoKit.goto G at_180 (by decide) (pc' := 760) rfl ?_
          have ha96 : ∀ c ∈ ([ch17, ch23, ch29] : List Int32), 0 ≤ c.toInt ∧ c.toInt < 65536 := by
            intro c hc
            simp only [List.mem_cons, List.not_mem_nil, or_false] at hc
            rcases hc with hc | hc | hc
            · rw [hc]; exact H18
            · rw [hc]; exact H24
            · rw [hc]; exact H30
          refine Run.mono (cells' := 1) (slots' := 41) (by decide) (by decide) ?_
          refine Run.owless (ow' := []) (fun _ q => nomatch q) ?_
          exact J _ _ [ch17, ch23, ch29] _ _ _ _ _ _ A89 (by simp) (by simp) ha96 ((if_neg (fun r => (ite_f hb95) (r.2.2 _ (by simp)))).symm)
        · refine GoKit.iconst G (1 : Int32) at_173 rfl (pc' := 174) rfl ?_
          refine GoKit.goto G at_174 (by decide) (pc' := 178) rfl ?_
          refine GoKit.istore G at_178 (Ls' := #[.val (.int p0), .val (.int p1), .val (.int p2), .val (.int p3), .val (.int p4), .val (.int ch17), .val (.int ch23), .val (.int ch29), .val (.int ch35), .val (.int (3 : Int32)), .val (.ref a78), .val (.int (1 : Int32))]) rfl (pc' := 180) rfl ?_
          refine GoKit.goto G at_180 (by decide) (pc' := 760) rfl ?_
          have ha97 : ∀ c ∈ ([ch17, ch23, ch29] : List Int32), 0 ≤ c.toInt ∧ c.toInt < 65536 := by
            intro c hc
            simp only [List.mem_cons, List.not_mem_nil, or_false] at hc
            rcases hc with hc | hc | hc
            · rw [hc]; exact H18
            · rw [hc]; exact H24
            · rw [hc]; exact H30
          refine Run.mono (cells' := 1) (slots' := 41) (by decide) (by decide) ?_
          refine Run.owless (ow' := []) (fun _ q => nomatch q) ?_
          exact J _ _ [ch17, ch23, ch29] _ _ _ _ _ _ A89 (by simp) (by simp) ha97 ((if_pos ⟨by simp, by simp, by simp [(ite_t hb91), (ite_t hb93), (ite_t hb95)]⟩).symm)
  · refine GoKit.istore G at_32 (Ls' := #[.val (.int p0), .val (.int p1), .val (.int p2), .val (.int p3), .val (.int p4), .val (.int ch17), .val (.int ch23), .val (.int ch29), .val (.int ch35), .val (.int (4 : Int32)), .unset, .unset]) rfl (pc' := 34) rfl ?_
    refine GoKit.iload G at_34 rfl (pc' := 36) rfl ?_
    refine GoKit.if_ne_t G at_36 (by decide) (by decide) (pc' := 50) rfl ?_
    refine GoKit.iload G at_50 rfl (pc' := 52) rfl ?_
    refine GoKit.iconst G (1 : Int32) at_52 rfl (pc' := 53) rfl ?_
    refine GoKit.icmp_ne_t G at_53 (by decide) (by decide) (pc' := 76) rfl ?_
    refine GoKit.iload G at_76 rfl (pc' := 78) rfl ?_
    refine GoKit.iconst G (2 : Int32) at_78 rfl (pc' := 79) rfl ?_
    refine GoKit.icmp_ne_t G at_79 (by decide) (by decide) (pc' := 123) rfl ?_
    refine GoKit.iload G at_123 rfl (pc' := 125) rfl ?_
    refine GoKit.iconst G (3 : Int32) at_125 rfl (pc' := 126) rfl ?_
    refine GoKit.icmp_ne_t G at_126 (by decide) (by decide) (pc' := 183) rfl ?_
    refine GoKit.iload G at_183 rfl (pc' := 185) rfl ?_
    refine GoKit.iconst G (4 : Int32) at_185 rfl (pc' := 186) rfl ?_
    refine GoKit.icmp_ne_f G at_186 (by decide) (pc' := 189) rfl ?_
    refine GoKit.bipush G (40 : Int32) at_189 rfl (pc' := 191) rfl ?_
    refine GoKit.newcI G at_191 (wi hw 6 rfl) (by decide) (k := 40) (cap := 40) rfl (Nat.le_refl _) (by decide) (by decide) (by decide) (cells' := 1) (slots' := 40) rfl rfl (pc' := 193) rfl (fun h101 a98 ga98 E99 A100 => ?_)
    refine GoKit.dup G at_193 rfl (pc' := 194) rfl ?_
    refine GoKit.iconst G (0 : Int32) at_194 rfl (pc' := 195) rfl ?_
    refine GoKit.iload G at_195 rfl (pc' := 197) rfl ?_
    refine GoKit.castI G at_197 A100 (i := 0) rfl (by decide) (Nat.le_of_ble_eq_true rfl) (nar16 H36) (List.Mem.head _) (pc' := 198) rfl (fun h104 W102 A103 => ?_)
    change IA Z h104 a98 .char [ch35, 0, 0, 0, 0, 0, 0, 0, 0, 0, 0, 0, 0, 0, 0, 0, 0, 0, 0, 0, 0, 0, 0, 0, 0, 0, 0, 0, 0, 0, 0, 0, 0, 0, 0, 0, 0, 0, 0, 0] at A103
    refine GoKit.dup G at_198 rfl (pc' := 199) rfl ?_
    refine GoKit.iconst G (1 : Int32) at_199 rfl (pc' := 200) rfl ?_
    refine GoKit.iload G at_200 rfl (pc' := 202) rfl ?_
    refine GoKit.castI G at_202 A103 (i := 1) rfl (by decide) (Nat.le_of_ble_eq_true rfl) (nar16 H36) (List.Mem.head _) (pc' := 203) rfl (fun h107 W105 A106 => ?_)
    change IA Z h107 a98 .char [ch35, ch35, 0, 0, 0, 0, 0, 0, 0, 0, 0, 0, 0, 0, 0, 0, 0, 0, 0, 0, 0, 0, 0, 0, 0, 0, 0, 0, 0, 0, 0, 0, 0, 0, 0, 0, 0, 0, 0, 0] at A106
    refine GoKit.dup G at_203 rfl (pc' := 204) rfl ?_
    refine GoKit.iconst G (2 : Int32) at_204 rfl (pc' := 205) rfl ?_
    refine GoKit.iload G at_205 rfl (pc' := 207) rfl ?_
    refine GoKit.castI G at_207 A106 (i := 2) rfl (by decide) (Nat.le_of_ble_eq_true rfl) (nar16 H36) (List.Mem.head _) (pc' := 208) rfl (fun h110 W108 A109 => ?_)
    change IA Z h110 a98 .char [ch35, ch35, ch35, 0, 0, 0, 0, 0, 0, 0, 0, 0, 0, 0, 0, 0, 0, 0, 0, 0, 0, 0, 0, 0, 0, 0, 0, 0, 0, 0, 0, 0, 0, 0, 0, 0, 0, 0, 0, 0] at A109
    refine GoKit.dup G at_208 rfl (pc' := 209) rfl ?_
    refine GoKit.iconst G (3 : Int32) at_209 rfl (pc' := 210) rfl ?_
    refine GoKit.iload G at_210 rfl (pc' := 212) rfl ?_
    refine GoKit.castI G at_212 A109 (i := 3) rfl (by decide) (Nat.le_of_ble_eq_true rfl) (nar16 H36) (List.Mem.head _) (pc' := 213) rfl (fun h113 W111 A112 => ?_)
    change IA Z h113 a98 .char [ch35, ch35, ch35, ch35, 0, 0, 0, 0, 0, 0, 0, 0, 0, 0, 0, 0, 0, 0, 0, 0, 0, 0, 0, 0, 0, 0, 0, 0, 0, 0, 0, 0, 0, 0, 0, 0, 0, 0, 0, 0] at A112
    refine GoKit.dup G at_213 rfl (pc' := 214) rfl ?_
    refine GoKit.iconst G (4 : Int32) at_214 rfl (pc' := 215) rfl ?_
    refine GoKit.iload G at_215 rfl (pc' := 217) rfl ?_
    refine GoKit.castI G at_217 A112 (i := 4) rfl (by decide) (Nat.le_of_ble_eq_true rfl) (nar16 H36) (List.Mem.head _) (pc' := 218) rfl (fun h116 W114 A115 => ?_)
    change IA Z h116 a98 .char [ch35, ch35, ch35, ch35, ch35, 0, 0, 0, 0, 0, 0, 0, 0, 0, 0, 0, 0, 0, 0, 0, 0, 0, 0, 0, 0, 0, 0, 0, 0, 0, 0, 0, 0, 0, 0, 0, 0, 0, 0, 0] at A115
    refine GoKit.dup G at_218 rfl (pc' := 219) rfl ?_
    refine GoKit.iconst G (5 : Int32) at_219 rfl (pc' := 220) rfl ?_
    refine GoKit.iload G at_220 rfl (pc' := 222) rfl ?_
    refine GoKit.castI G at_222 A115 (i := 5) rfl (by decide) (Nat.le_of_ble_eq_true rfl) (nar16 H36) (List.Mem.head _) (pc' := 223) rfl (fun h119 W117 A118 => ?_)
    change IA Z h119 a98 .char [ch35, ch35, ch35, ch35, ch35, ch35, 0, 0, 0, 0, 0, 0, 0, 0, 0, 0, 0, 0, 0, 0, 0, 0, 0, 0, 0, 0, 0, 0, 0, 0, 0, 0, 0, 0, 0, 0, 0, 0, 0, 0] at A118
    refine GoKit.dup G at_223 rfl (pc' := 224) rfl ?_
    refine GoKit.bipush G (6 : Int32) at_224 rfl (pc' := 226) rfl ?_
    refine GoKit.iload G at_226 rfl (pc' := 228) rfl ?_
    refine GoKit.castI G at_228 A118 (i := 6) rfl (by decide) (Nat.le_of_ble_eq_true rfl) (nar16 H36) (List.Mem.head _) (pc' := 229) rfl (fun h122 W120 A121 => ?_)
    change IA Z h122 a98 .char [ch35, ch35, ch35, ch35, ch35, ch35, ch35, 0, 0, 0, 0, 0, 0, 0, 0, 0, 0, 0, 0, 0, 0, 0, 0, 0, 0, 0, 0, 0, 0, 0, 0, 0, 0, 0, 0, 0, 0, 0, 0, 0] at A121
    refine GoKit.dup G at_229 rfl (pc' := 230) rfl ?_
    refine GoKit.bipush G (7 : Int32) at_230 rfl (pc' := 232) rfl ?_
    refine GoKit.iload G at_232 rfl (pc' := 234) rfl ?_
    refine GoKit.castI G at_234 A121 (i := 7) rfl (by decide) (Nat.le_of_ble_eq_true rfl) (nar16 H36) (List.Mem.head _) (pc' := 235) rfl (fun h125 W123 A124 => ?_)
    change IA Z h125 a98 .char [ch35, ch35, ch35, ch35, ch35, ch35, ch35, ch35, 0, 0, 0, 0, 0, 0, 0, 0, 0, 0, 0, 0, 0, 0, 0, 0, 0, 0, 0, 0, 0, 0, 0, 0, 0, 0, 0, 0, 0, 0, 0, 0] at A124
    refine GoKit.dup G at_235 rfl (pc' := 236) rfl ?_
    refine GoKit.bipush G (8 : Int32) at_236 rfl (pc' := 238) rfl ?_
    refine GoKit.iload G at_238 rfl (pc' := 240) rfl ?_
    refine GoKit.castI G at_240 A124 (i := 8) rfl (by decide) (Nat.le_of_ble_eq_true rfl) (nar16 H36) (List.Mem.head _) (pc' := 241) rfl (fun h128 W126 A127 => ?_)
    change IA Z h128 a98 .char [ch35, ch35, ch35, ch35, ch35, ch35, ch35, ch35, ch35, 0, 0, 0, 0, 0, 0, 0, 0, 0, 0, 0, 0, 0, 0, 0, 0, 0, 0, 0, 0, 0, 0, 0, 0, 0, 0, 0, 0, 0, 0, 0] at A127
    refine GoKit.dup G at_241 rfl (pc' := 242) rfl ?_
    refine GoKit.bipush G (9 : Int32) at_242 rfl (pc' := 244) rfl ?_
    refine GoKit.iload G at_244 rfl (pc' := 246) rfl ?_
    refine GoKit.castI G at_246 A127 (i := 9) rfl (by decide) (Nat.le_of_ble_eq_true rfl) (nar16 H36) (List.Mem.head _) (pc' := 247) rfl (fun h131 W129 A130 => ?_)
    change IA Z h131 a98 .char [ch35, ch35, ch35, ch35, ch35, ch35, ch35, ch35, ch35, ch35, 0, 0, 0, 0, 0, 0, 0, 0, 0, 0, 0, 0, 0, 0, 0, 0, 0, 0, 0, 0, 0, 0, 0, 0, 0, 0, 0, 0, 0, 0] at A130
    refine GoKit.dup G at_247 rfl (pc' := 248) rfl ?_
    refine GoKit.bipush G (10 : Int32) at_248 rfl (pc' := 250) rfl ?_
    refine GoKit.iload G at_250 rfl (pc' := 252) rfl ?_
    refine GoKit.castI G at_252 A130 (i := 10) rfl (by decide) (Nat.le_of_ble_eq_true rfl) (nar16 H36) (List.Mem.head _) (pc' := 253) rfl (fun h134 W132 A133 => ?_)
    change IA Z h134 a98 .char [ch35, ch35, ch35, ch35, ch35, ch35, ch35, ch35, ch35, ch35, ch35, 0, 0, 0, 0, 0, 0, 0, 0, 0, 0, 0, 0, 0, 0, 0, 0, 0, 0, 0, 0, 0, 0, 0, 0, 0, 0, 0, 0, 0] at A133
    refine GoKit.dup G at_253 rfl (pc' := 254) rfl ?_
    refine GoKit.bipush G (11 : Int32) at_254 rfl (pc' := 256) rfl ?_
    refine GoKit.iload G at_256 rfl (pc' := 258) rfl ?_
    refine GoKit.castI G at_258 A133 (i := 11) rfl (by decide) (Nat.le_of_ble_eq_true rfl) (nar16 H36) (List.Mem.head _) (pc' := 259) rfl (fun h137 W135 A136 => ?_)
    change IA Z h137 a98 .char [ch35, ch35, ch35, ch35, ch35, ch35, ch35, ch35, ch35, ch35, ch35, ch35, 0, 0, 0, 0, 0, 0, 0, 0, 0, 0, 0, 0, 0, 0, 0, 0, 0, 0, 0, 0, 0, 0, 0, 0, 0, 0, 0, 0] at A136
    refine GoKit.dup G at_259 rfl (pc' := 260) rfl ?_
    refine GoKit.bipush G (12 : Int32) at_260 rfl (pc' := 262) rfl ?_
    refine GoKit.iload G at_262 rfl (pc' := 264) rfl ?_
    refine GoKit.castI G at_264 A136 (i := 12) rfl (by decide) (Nat.le_of_ble_eq_true rfl) (nar16 H36) (List.Mem.head _) (pc' := 265) rfl (fun h140 W138 A139 => ?_)
    change IA Z h140 a98 .char [ch35, ch35, ch35, ch35, ch35, ch35, ch35, ch35, ch35, ch35, ch35, ch35, ch35, 0, 0, 0, 0, 0, 0, 0, 0, 0, 0, 0, 0, 0, 0, 0, 0, 0, 0, 0, 0, 0, 0, 0, 0, 0, 0, 0] at A139
    refine GoKit.dup G at_265 rfl (pc' := 266) rfl ?_
    refine GoKit.bipush G (13 : Int32) at_266 rfl (pc' := 268) rfl ?_
    refine GoKit.iload G at_268 rfl (pc' := 270) rfl ?_
    refine GoKit.castI G at_270 A139 (i := 13) rfl (by decide) (Nat.le_of_ble_eq_true rfl) (nar16 H36) (List.Mem.head _) (pc' := 271) rfl (fun h143 W141 A142 => ?_)
    change IA Z h143 a98 .char [ch35, ch35, ch35, ch35, ch35, ch35, ch35, ch35, ch35, ch35, ch35, ch35, ch35, ch35, 0, 0, 0, 0, 0, 0, 0, 0, 0, 0, 0, 0, 0, 0, 0, 0, 0, 0, 0, 0, 0, 0, 0, 0, 0, 0] at A142
    refine GoKit.dup G at_271 rfl (pc' := 272) rfl ?_
    refine GoKit.bipush G (14 : Int32) at_272 rfl (pc' := 274) rfl ?_
    refine GoKit.iload G at_274 rfl (pc' := 276) rfl ?_
    refine GoKit.castI G at_276 A142 (i := 14) rfl (by decide) (Nat.le_of_ble_eq_true rfl) (nar16 H36) (List.Mem.head _) (pc' := 277) rfl (fun h146 W144 A145 => ?_)
    change IA Z h146 a98 .char [ch35, ch35, ch35, ch35, ch35, ch35, ch35, ch35, ch35, ch35, ch35, ch35, ch35, ch35, ch35, 0, 0, 0, 0, 0, 0, 0, 0, 0, 0, 0, 0, 0, 0, 0, 0, 0, 0, 0, 0, 0, 0, 0, 0, 0] at A145
    refine GoKit.dup G at_277 rfl (pc' := 278) rfl ?_
    refine GoKit.bipush G (15 : Int32) at_278 rfl (pc' := 280) rfl ?_
    refine GoKit.iload G at_280 rfl (pc' := 282) rfl ?_
    refine GoKit.castI G at_282 A145 (i := 15) rfl (by decide) (Nat.le_of_ble_eq_true rfl) (nar16 H36) (List.Mem.head _) (pc' := 283) rfl (fun h149 W147 A148 => ?_)
    change IA Z h149 a98 .char [ch35, ch35, ch35, ch35, ch35, ch35, ch35, ch35, ch35, ch35, ch35, ch35, ch35, ch35, ch35, ch35, 0, 0, 0, 0, 0, 0, 0, 0, 0, 0, 0, 0, 0, 0, 0, 0, 0, 0, 0, 0, 0, 0, 0, 0] at A148
    refine GoKit.dup G at_283 rfl (pc' := 284) rfl ?_
    refine GoKit.bipush G (16 : Int32) at_284 rfl (pc' := 286) rfl ?_
    refine GoKit.iload G at_286 rfl (pc' := 288) rfl ?_
    refine GoKit.castI G at_288 A148 (i := 16) rfl (by decide) (Nat.le_of_ble_eq_true rfl) (nar16 H36) (List.Mem.head _) (pc' := 289) rfl (fun h152 W150 A151 => ?_)
    change IA Z h152 a98 .char [ch35, ch35, ch35, ch35, ch35, ch35, ch35, ch35, ch35, ch35, ch35, ch35, ch35, ch35, ch35, ch35, ch35, 0, 0, 0, 0, 0, 0, 0, 0, 0, 0, 0, 0, 0, 0, 0, 0, 0, 0, 0, 0, 0, 0, 0] at A151
    refine GoKit.dup G at_289 rfl (pc' := 290) rfl ?_
    refine GoKit.bipush G (17 : Int32) at_290 rfl (pc' := 292) rfl ?_
    refine GoKit.iload G at_292 rfl (pc' := 294) rfl ?_
    refine GoKit.castI G at_294 A151 (i := 17) rfl (by decide) (Nat.le_of_ble_eq_true rfl) (nar16 H36) (List.Mem.head _) (pc' := 295) rfl (fun h155 W153 A154 => ?_)
    change IA Z h155 a98 .char [ch35, ch35, ch35, ch35, ch35, ch35, ch35, ch35, ch35, ch35, ch35, ch35, ch35, ch35, ch35, ch35, ch35, ch35, 0, 0, 0, 0, 0, 0, 0, 0, 0, 0, 0, 0, 0, 0, 0, 0, 0, 0, 0, 0, 0, 0] at A154
    refine GoKit.dup G at_295 rfl (pc' := 296) rfl ?_
    refine GoKit.bipush G (18 : Int32) at_296 rfl (pc' := 298) rfl ?_
    refine GoKit.iload G at_298 rfl (pc' := 300) rfl ?_
    refine GoKit.castI G at_300 A154 (i := 18) rfl (by decide) (Nat.le_of_ble_eq_true rfl) (nar16 H36) (List.Mem.head _) (pc' := 301) rfl (fun h158 W156 A157 => ?_)
    change IA Z h158 a98 .char [ch35, ch35, ch35, ch35, ch35, ch35, ch35, ch35, ch35, ch35, ch35, ch35, ch35, ch35, ch35, ch35, ch35, ch35, ch35, 0, 0, 0, 0, 0, 0, 0, 0, 0, 0, 0, 0, 0, 0, 0, 0, 0, 0, 0, 0, 0] at A157
    refine GoKit.dup G at_301 rfl (pc' := 302) rfl ?_
    refine GoKit.bipush G (19 : Int32) at_302 rfl (pc' := 304) rfl ?_
    refine GoKit.iload G at_304 rfl (pc' := 306) rfl ?_
    refine GoKit.castI G at_306 A157 (i := 19) rfl (by decide) (Nat.le_of_ble_eq_true rfl) (nar16 H36) (List.Mem.head _) (pc' := 307) rfl (fun h161 W159 A160 => ?_)
    change IA Z h161 a98 .char [ch35, ch35, ch35, ch35, ch35, ch35, ch35, ch35, ch35, ch35, ch35, ch35, ch35, ch35, ch35, ch35, ch35, ch35, ch35, ch35, 0, 0, 0, 0, 0, 0, 0, 0, 0, 0, 0, 0, 0, 0, 0, 0, 0, 0, 0, 0] at A160
    refine GoKit.dup G at_307 rfl (pc' := 308) rfl ?_
    refine GoKit.bipush G (20 : Int32) at_308 rfl (pc' := 310) rfl ?_
    refine GoKit.iload G at_310 rfl (pc' := 312) rfl ?_
    refine GoKit.castI G at_312 A160 (i := 20) rfl (by decide) (Nat.le_of_ble_eq_true rfl) (nar16 H36) (List.Mem.head _) (pc' := 313) rfl (fun h164 W162 A163 => ?_)
    change IA Z h164 a98 .char [ch35, ch35, ch35, ch35, ch35, ch35, ch35, ch35, ch35, ch35, ch35, ch35, ch35, ch35, ch35, ch35, ch35, ch35, ch35, ch35, ch35, 0, 0, 0, 0, 0, 0, 0, 0, 0, 0, 0, 0, 0, 0, 0, 0, 0, 0, 0] at A163
    refine GoKit.dup G at_313 rfl (pc' := 314) rfl ?_
    refine GoKit.bipush G (21 : Int32) at_314 rfl (pc' := 316) rfl ?_
    refine GoKit.iload G at_316 rfl (pc' := 318) rfl ?_
    refine GoKit.castI G at_318 A163 (i := 21) rfl (by decide) (Nat.le_of_ble_eq_true rfl) (nar16 H36) (List.Mem.head _) (pc' := 319) rfl (fun h167 W165 A166 => ?_)
    change IA Z h167 a98 .char [ch35, ch35, ch35, ch35, ch35, ch35, ch35, ch35, ch35, ch35, ch35, ch35, ch35, ch35, ch35, ch35, ch35, ch35, ch35, ch35, ch35, ch35, 0, 0, 0, 0, 0, 0, 0, 0, 0, 0, 0, 0, 0, 0, 0, 0, 0, 0] at A166
    refine GoKit.dup G at_319 rfl (pc' := 320) rfl ?_
    refine GoKit.bipush G (22 : Int32) at_320 rfl (pc' := 322) rfl ?_
    refine GoKit.iload G at_322 rfl (pc' := 324) rfl ?_
    refine GoKit.castI G at_324 A166 (i := 22) rfl (by decide) (Nat.le_of_ble_eq_true rfl) (nar16 H36) (List.Mem.head _) (pc' := 325) rfl (fun h170 W168 A169 => ?_)
    change IA Z h170 a98 .char [ch35, ch35, ch35, ch35, ch35, ch35, ch35, ch35, ch35, ch35, ch35, ch35, ch35, ch35, ch35, ch35, ch35, ch35, ch35, ch35, ch35, ch35, ch35, 0, 0, 0, 0, 0, 0, 0, 0, 0, 0, 0, 0, 0, 0, 0, 0, 0] at A169
    refine GoKit.dup G at_325 rfl (pc' := 326) rfl ?_
    refine GoKit.bipush G (23 : Int32) at_326 rfl (pc' := 328) rfl ?_
    refine GoKit.iload G at_328 rfl (pc' := 330) rfl ?_
    refine GoKit.castI G at_330 A169 (i := 23) rfl (by decide) (Nat.le_of_ble_eq_true rfl) (nar16 H36) (List.Mem.head _) (pc' := 331) rfl (fun h173 W171 A172 => ?_)
    change IA Z h173 a98 .char [ch35, ch35, ch35, ch35, ch35, ch35, ch35, ch35, ch35, ch35, ch35, ch35, ch35, ch35, ch35, ch35, ch35, ch35, ch35, ch35, ch35, ch35, ch35, ch35, 0, 0, 0, 0, 0, 0, 0, 0, 0, 0, 0, 0, 0, 0, 0, 0] at A172
    refine GoKit.dup G at_331 rfl (pc' := 332) rfl ?_
    refine GoKit.bipush G (24 : Int32) at_332 rfl (pc' := 334) rfl ?_
    refine GoKit.iload G at_334 rfl (pc' := 336) rfl ?_
    refine GoKit.castI G at_336 A172 (i := 24) rfl (by decide) (Nat.le_of_ble_eq_true rfl) (nar16 H36) (List.Mem.head _) (pc' := 337) rfl (fun h176 W174 A175 => ?_)
    change IA Z h176 a98 .char [ch35, ch35, ch35, ch35, ch35, ch35, ch35, ch35, ch35, ch35, ch35, ch35, ch35, ch35, ch35, ch35, ch35, ch35, ch35, ch35, ch35, ch35, ch35, ch35, ch35, 0, 0, 0, 0, 0, 0, 0, 0, 0, 0, 0, 0, 0, 0, 0] at A175
    refine GoKit.dup G at_337 rfl (pc' := 338) rfl ?_
    refine GoKit.bipush G (25 : Int32) at_338 rfl (pc' := 340) rfl ?_
    refine GoKit.iload G at_340 rfl (pc' := 342) rfl ?_
    refine GoKit.castI G at_342 A175 (i := 25) rfl (by decide) (Nat.le_of_ble_eq_true rfl) (nar16 H36) (List.Mem.head _) (pc' := 343) rfl (fun h179 W177 A178 => ?_)
    change IA Z h179 a98 .char [ch35, ch35, ch35, ch35, ch35, ch35, ch35, ch35, ch35, ch35, ch35, ch35, ch35, ch35, ch35, ch35, ch35, ch35, ch35, ch35, ch35, ch35, ch35, ch35, ch35, ch35, 0, 0, 0, 0, 0, 0, 0, 0, 0, 0, 0, 0, 0, 0] at A178
    refine GoKit.dup G at_343 rfl (pc' := 344) rfl ?_
    refine GoKit.bipush G (26 : Int32) at_344 rfl (pc' := 346) rfl ?_
    refine GoKit.iload G at_346 rfl (pc' := 348) rfl ?_
    refine GoKit.castI G at_348 A178 (i := 26) rfl (by decide) (Nat.le_of_ble_eq_true rfl) (nar16 H36) (List.Mem.head _) (pc' := 349) rfl (fun h182 W180 A181 => ?_)
    change IA Z h182 a98 .char [ch35, ch35, ch35, ch35, ch35, ch35, ch35, ch35, ch35, ch35, ch35, ch35, ch35, ch35, ch35, ch35, ch35, ch35, ch35, ch35, ch35, ch35, ch35, ch35, ch35, ch35, ch35, 0, 0, 0, 0, 0, 0, 0, 0, 0, 0, 0, 0, 0] at A181
    refine GoKit.dup G at_349 rfl (pc' := 350) rfl ?_
    refine GoKit.bipush G (27 : Int32) at_350 rfl (pc' := 352) rfl ?_
    refine GoKit.iload G at_352 rfl (pc' := 354) rfl ?_
    refine GoKit.castI G at_354 A181 (i := 27) rfl (by decide) (Nat.le_of_ble_eq_true rfl) (nar16 H36) (List.Mem.head _) (pc' := 355) rfl (fun h185 W183 A184 => ?_)
    change IA Z h185 a98 .char [ch35, ch35, ch35, ch35, ch35, ch35, ch35, ch35, ch35, ch35, ch35, ch35, ch35, ch35, ch35, ch35, ch35, ch35, ch35, ch35, ch35, ch35, ch35, ch35, ch35, ch35, ch35, ch35, 0, 0, 0, 0, 0, 0, 0, 0, 0, 0, 0, 0] at A184
    refine GoKit.dup G at_355 rfl (pc' := 356) rfl ?_
    refine GoKit.bipush G (28 : Int32) at_356 rfl (pc' := 358) rfl ?_
    refine GoKit.iload G at_358 rfl (pc' := 360) rfl ?_
    refine GoKit.castI G at_360 A184 (i := 28) rfl (by decide) (Nat.le_of_ble_eq_true rfl) (nar16 H36) (List.Mem.head _) (pc' := 361) rfl (fun h188 W186 A187 => ?_)
    change IA Z h188 a98 .char [ch35, ch35, ch35, ch35, ch35, ch35, ch35, ch35, ch35, ch35, ch35, ch35, ch35, ch35, ch35, ch35, ch35, ch35, ch35, ch35, ch35, ch35, ch35, ch35, ch35, ch35, ch35, ch35, ch35, 0, 0, 0, 0, 0, 0, 0, 0, 0, 0, 0] at A187
    refine GoKit.dup G at_361 rfl (pc' := 362) rfl ?_
    refine GoKit.bipush G (29 : Int32) at_362 rfl (pc' := 364) rfl ?_
    refine GoKit.iload G at_364 rfl (pc' := 366) rfl ?_
    refine GoKit.castI G at_366 A187 (i := 29) rfl (by decide) (Nat.le_of_ble_eq_true rfl) (nar16 H36) (List.Mem.head _) (pc' := 367) rfl (fun h191 W189 A190 => ?_)
    change IA Z h191 a98 .char [ch35, ch35, ch35, ch35, ch35, ch35, ch35, ch35, ch35, ch35, ch35, ch35, ch35, ch35, ch35, ch35, ch35, ch35, ch35, ch35, ch35, ch35, ch35, ch35, ch35, ch35, ch35, ch35, ch35, ch35, 0, 0, 0, 0, 0, 0, 0, 0, 0, 0] at A190
    refine GoKit.dup G at_367 rfl (pc' := 368) rfl ?_
    refine GoKit.bipush G (30 : Int32) at_368 rfl (pc' := 370) rfl ?_
    refine GoKit.iload G at_370 rfl (pc' := 372) rfl ?_
    refine GoKit.castI G at_372 A190 (i := 30) rfl (by decide) (Nat.le_of_ble_eq_true rfl) (nar16 H36) (List.Mem.head _) (pc' := 373) rfl (fun h194 W192 A193 => ?_)
    change IA Z h194 a98 .char [ch35, ch35, ch35, ch35, ch35, ch35, ch35, ch35, ch35, ch35, ch35, ch35, ch35, ch35, ch35, ch35, ch35, ch35, ch35, ch35, ch35, ch35, ch35, ch35, ch35, ch35, ch35, ch35, ch35, ch35, ch35, 0, 0, 0, 0, 0, 0, 0, 0, 0] at A193
    refine GoKit.dup G at_373 rfl (pc' := 374) rfl ?_
    refine GoKit.bipush G (31 : Int32) at_374 rfl (pc' := 376) rfl ?_
    refine GoKit.iload G at_376 rfl (pc' := 378) rfl ?_
    refine GoKit.castI G at_378 A193 (i := 31) rfl (by decide) (Nat.le_of_ble_eq_true rfl) (nar16 H36) (List.Mem.head _) (pc' := 379) rfl (fun h197 W195 A196 => ?_)
    change IA Z h197 a98 .char [ch35, ch35, ch35, ch35, ch35, ch35, ch35, ch35, ch35, ch35, ch35, ch35, ch35, ch35, ch35, ch35, ch35, ch35, ch35, ch35, ch35, ch35, ch35, ch35, ch35, ch35, ch35, ch35, ch35, ch35, ch35, ch35, 0, 0, 0, 0, 0, 0, 0, 0] at A196
    refine GoKit.dup G at_379 rfl (pc' := 380) rfl ?_
    refine GoKit.bipush G (32 : Int32) at_380 rfl (pc' := 382) rfl ?_
    refine GoKit.iload G at_382 rfl (pc' := 384) rfl ?_
    refine GoKit.castI G at_384 A196 (i := 32) rfl (by decide) (Nat.le_of_ble_eq_true rfl) (nar16 H36) (List.Mem.head _) (pc' := 385) rfl (fun h200 W198 A199 => ?_)
    change IA Z h200 a98 .char [ch35, ch35, ch35, ch35, ch35, ch35, ch35, ch35, ch35, ch35, ch35, ch35, ch35, ch35, ch35, ch35, ch35, ch35, ch35, ch35, ch35, ch35, ch35, ch35, ch35, ch35, ch35, ch35, ch35, ch35, ch35, ch35, ch35, 0, 0, 0, 0, 0, 0, 0] at A199
    refine GoKit.dup G at_385 rfl (pc' := 386) rfl ?_
    refine GoKit.bipush G (33 : Int32) at_386 rfl (pc' := 388) rfl ?_
    refine GoKit.iload G at_388 rfl (pc' := 390) rfl ?_
    refine GoKit.castI G at_390 A199 (i := 33) rfl (by decide) (Nat.le_of_ble_eq_true rfl) (nar16 H36) (List.Mem.head _) (pc' := 391) rfl (fun h203 W201 A202 => ?_)
    change IA Z h203 a98 .char [ch35, ch35, ch35, ch35, ch35, ch35, ch35, ch35, ch35, ch35, ch35, ch35, ch35, ch35, ch35, ch35, ch35, ch35, ch35, ch35, ch35, ch35, ch35, ch35, ch35, ch35, ch35, ch35, ch35, ch35, ch35, ch35, ch35, ch35, 0, 0, 0, 0, 0, 0] at A202
    refine GoKit.dup G at_391 rfl (pc' := 392) rfl ?_
    refine GoKit.bipush G (34 : Int32) at_392 rfl (pc' := 394) rfl ?_
    refine GoKit.iload G at_394 rfl (pc' := 396) rfl ?_
    refine GoKit.castI G at_396 A202 (i := 34) rfl (by decide) (Nat.le_of_ble_eq_true rfl) (nar16 H36) (List.Mem.head _) (pc' := 397) rfl (fun h206 W204 A205 => ?_)
    change IA Z h206 a98 .char [ch35, ch35, ch35, ch35, ch35, ch35, ch35, ch35, ch35, ch35, ch35, ch35, ch35, ch35, ch35, ch35, ch35, ch35, ch35, ch35, ch35, ch35, ch35, ch35, ch35, ch35, ch35, ch35, ch35, ch35, ch35, ch35, ch35, ch35, ch35, 0, 0, 0, 0, 0] at A205
    refine GoKit.dup G at_397 rfl (pc' := 398) rfl ?_
    refine GoKit.bipush G (35 : Int32) at_398 rfl (pc' := 400) rfl ?_
    refine GoKit.iload G at_400 rfl (pc' := 402) rfl ?_
    refine GoKit.castI G at_402 A205 (i := 35) rfl (by decide) (Nat.le_of_ble_eq_true rfl) (nar16 H36) (List.Mem.head _) (pc' := 403) rfl (fun h209 W207 A208 => ?_)
    change IA Z h209 a98 .char [ch35, ch35, ch35, ch35, ch35, ch35, ch35, ch35, ch35, ch35, ch35, ch35, ch35, ch35, ch35, ch35, ch35, ch35, ch35, ch35, ch35, ch35, ch35, ch35, ch35, ch35, ch35, ch35, ch35, ch35, ch35, ch35, ch35, ch35, ch35, ch35, 0, 0, 0, 0] at A208
    refine GoKit.dup G at_403 rfl (pc' := 404) rfl ?_
    refine GoKit.bipush G (36 : Int32) at_404 rfl (pc' := 406) rfl ?_
    refine GoKit.iload G at_406 rfl (pc' := 408) rfl ?_
    refine GoKit.castI G at_408 A208 (i := 36) rfl (by decide) (Nat.le_of_ble_eq_true rfl) (nar16 H36) (List.Mem.head _) (pc' := 409) rfl (fun h212 W210 A211 => ?_)
    change IA Z h212 a98 .char [ch35, ch35, ch35, ch35, ch35, ch35, ch35, ch35, ch35, ch35, ch35, ch35, ch35, ch35, ch35, ch35, ch35, ch35, ch35, ch35, ch35, ch35, ch35, ch35, ch35, ch35, ch35, ch35, ch35, ch35, ch35, ch35, ch35, ch35, ch35, ch35, ch35, 0, 0, 0] at A211
    refine GoKit.dup G at_409 rfl (pc' := 410) rfl ?_
    refine GoKit.bipush G (37 : Int32) at_410 rfl (pc' := 412) rfl ?_
    refine GoKit.iload G at_412 rfl (pc' := 414) rfl ?_
    refine GoKit.castI G at_414 A211 (i := 37) rfl (by decide) (Nat.le_of_ble_eq_true rfl) (nar16 H36) (List.Mem.head _) (pc' := 415) rfl (fun h215 W213 A214 => ?_)
    change IA Z h215 a98 .char [ch35, ch35, ch35, ch35, ch35, ch35, ch35, ch35, ch35, ch35, ch35, ch35, ch35, ch35, ch35, ch35, ch35, ch35, ch35, ch35, ch35, ch35, ch35, ch35, ch35, ch35, ch35, ch35, ch35, ch35, ch35, ch35, ch35, ch35, ch35, ch35, ch35, ch35, 0, 0] at A214
    refine GoKit.dup G at_415 rfl (pc' := 416) rfl ?_
    refine GoKit.bipush G (38 : Int32) at_416 rfl (pc' := 418) rfl ?_
    refine GoKit.iload G at_418 rfl (pc' := 420) rfl ?_
    refine GoKit.castI G at_420 A214 (i := 38) rfl (by decide) (Nat.le_of_ble_eq_true rfl) (nar16 H36) (List.Mem.head _) (pc' := 421) rfl (fun h218 W216 A217 => ?_)
    change IA Z h218 a98 .char [ch35, ch35, ch35, ch35, ch35, ch35, ch35, ch35, ch35, ch35, ch35, ch35, ch35, ch35, ch35, ch35, ch35, ch35, ch35, ch35, ch35, ch35, ch35, ch35, ch35, ch35, ch35, ch35, ch35, ch35, ch35, ch35, ch35, ch35, ch35, ch35, ch35, ch35, ch35, 0] at A217
    refine GoKit.dup G at_421 rfl (pc' := 422) rfl ?_
    refine GoKit.bipush G (39 : Int32) at_422 rfl (pc' := 424) rfl ?_
    refine GoKit.iload G at_424 rfl (pc' := 426) rfl ?_
    refine GoKit.castI G at_426 A217 (i := 39) rfl (by decide) (Nat.le_of_ble_eq_true rfl) (nar16 H36) (List.Mem.head _) (pc' := 427) rfl (fun h221 W219 A220 => ?_)
    change IA Z h221 a98 .char [ch35, ch35, ch35, ch35, ch35, ch35, ch35, ch35, ch35, ch35, ch35, ch35, ch35, ch35, ch35, ch35, ch35, ch35, ch35, ch35, ch35, ch35, ch35, ch35, ch35, ch35, ch35, ch35, ch35, ch35, ch35, ch35, ch35, ch35, ch35, ch35, ch35, ch35, ch35, ch35] at A220
    refine GoKit.astore G at_427 rfl (Ls' := #[.val (.int p0), .val (.int p1), .val (.int p2), .val (.int p3), .val (.int p4), .val (.int ch17), .val (.int ch23), .val (.int ch29), .val (.int ch35), .val (.int (4 : Int32)), .val (.ref a98), .unset]) rfl (pc' := 429) rfl ?_
    refine GoKit.aload G at_429 rfl rfl (pc' := 431) rfl ?_
    refine GoKit.iconst G (0 : Int32) at_431 rfl (pc' := 432) rfl ?_
    refine GoKit.iload G at_432 rfl (pc' := 434) rfl ?_
    refine GoKit.castI G at_434 A220 (i := 0) rfl (by decide) (Nat.le_of_ble_eq_true rfl) (nar16 H18) (List.Mem.head _) (pc' := 435) rfl (fun h224 W222 A223 => ?_)
    change IA Z h224 a98 .char [ch17, ch35, ch35, ch35, ch35, ch35, ch35, ch35, ch35, ch35, ch35, ch35, ch35, ch35, ch35, ch35, ch35, ch35, ch35, ch35, ch35, ch35, ch35, ch35, ch35, ch35, ch35, ch35, ch35, ch35, ch35, ch35, ch35, ch35, ch35, ch35, ch35, ch35, ch35, ch35] at A223
    refine GoKit.aload G at_435 rfl rfl (pc' := 437) rfl ?_
    refine GoKit.bipush G (20 : Int32) at_437 rfl (pc' := 439) rfl ?_
    refine GoKit.iload G at_439 rfl (pc' := 441) rfl ?_
    refine GoKit.castI G at_441 A223 (i := 20) rfl (by decide) (Nat.le_of_ble_eq_true rfl) (nar16 H24) (List.Mem.head _) (pc' := 442) rfl (fun h227 W225 A226 => ?_)
    change IA Z h227 a98 .char [ch17, ch35, ch35, ch35, ch35, ch35, ch35, ch35, ch35, ch35, ch35, ch35, ch35, ch35, ch35, ch35, ch35, ch35, ch35, ch35, ch23, ch35, ch35, ch35, ch35, ch35, ch35, ch35, ch35, ch35, ch35, ch35, ch35, ch35, ch35, ch35, ch35, ch35, ch35, ch35] at A226
    refine GoKit.aload G at_442 rfl rfl (pc' := 444) rfl ?_
    refine GoKit.bipush G (39 : Int32) at_444 rfl (pc' := 446) rfl ?_
    refine GoKit.iload G at_446 rfl (pc' := 448) rfl ?_
    refine GoKit.castI G at_448 A226 (i := 39) rfl (by decide) (Nat.le_of_ble_eq_true rfl) (nar16 H30) (List.Mem.head _) (pc' := 449) rfl (fun h230 W228 A229 => ?_)
    change IA Z h230 a98 .char [ch17, ch35, ch35, ch35, ch35, ch35, ch35, ch35, ch35, ch35, ch35, ch35, ch35, ch35, ch35, ch35, ch35, ch35, ch35, ch35, ch23, ch35, ch35, ch35, ch35, ch35, ch35, ch35, ch35, ch35, ch35, ch35, ch35, ch35, ch35, ch35, ch35, ch35, ch35, ch29] at A229
    have ha231 : ∀ c ∈ ([ch17, ch35, ch35, ch35, ch35, ch35, ch35, ch35, ch35, ch35, ch35, ch35, ch35, ch35, ch35, ch35, ch35, ch35, ch35, ch35, ch23, ch35, ch35, ch35, ch35, ch35, ch35, ch35, ch35, ch35, ch35, ch35, ch35, ch35, ch35, ch35, ch35, ch35, ch35, ch29] : List Int32), 0 ≤ c.toInt ∧ c.toInt < 65536 := by
      intro c hc
      simp only [List.mem_cons, List.not_mem_nil, or_false] at hc
      rcases hc with hc | hc | hc | hc | hc | hc | hc | hc | hc | hc | hc | hc | hc | hc | hc | hc | hc | hc | hc | hc | hc | hc | hc | hc | hc | hc | hc | hc | hc | hc | hc | hc | hc | hc | hc | hc | hc | hc | hc | hc
      · rw [hc]; exact H18
      · rw [hc]; exact H36
      · rw [hc]; exact H36
      · rw [hc]; exact H36
      · rw [hc]; exact H36
      · rw [hc]; exact H36
      · rw [hc]; exact H36
      · rw [hc]; exact H36
      · rw [hc]; exact H36
      · rw [hc]; exact H36
      · rw [hc]; exact H36
      · rw [hc]; exact H36
      · rw [hc]; exact H36
      · rw [hc]; exact H36
      · rw [hc]; exact H36
      · rw [hc]; exact H36
      · rw [hc]; exact H36
      · rw [hc]; exact H36
      · rw [hc]; exact H36
      · rw [hc]; exact H36
      · rw [hc]; exact H24
      · rw [hc]; exact H36
      · rw [hc]; exact H36
      · rw [hc]; exact H36
      · rw [hc]; exact H36
      · rw [hc]; exact H36
      · rw [hc]; exact H36
      · rw [hc]; exact H36
      · rw [hc]; exact H36
      · rw [hc]; exact H36
      · rw [hc]; exact H36
      · rw [hc]; exact H36
      · rw [hc]; exact H36
      · rw [hc]; exact H36
      · rw [hc]; exact H36
      · rw [hc]; exact H36
      · rw [hc]; exact H36
      · rw [hc]; exact H36
      · rw [hc]; exact H36
      · rw [hc]; exact H30
    refine GoKit.iload G at_449 rfl (pc' := 451) rfl ?_
    refine GoKit.callStaticP G at_451 (wi hw 37 rfl) (wi hw 38 rfl) (wi hw 2 rfl) (wi hw 39 rfl) (by decide) (W := 0) (argsL := [(.int ch17)]) (rest := []) (con_hex l hw ch17) rfl (lenOf pd_18 rfl) rfl (by decide) (Nat.le_of_eq rfl) (by decide) (by decide) (by decide) (cells' := 1) (slots' := 40) rfl rfl (pc' := 454) rfl ?_
    show Run _ _ _ _ _ _ _ _ _ _ _ _ _ _ _ _ _ _ _ _ _ (mkF m 454 #[.val (.int p0), .val (.int p1), .val (.int p2), .val (.int p3), .val (.int p4), .val (.int ch17), .val (.int ch23), .val (.int ch29), .val (.int ch35), .val (.int (4 : Int32)), .val (.ref a98), .unset] [(.int (if hexP ch17 then 1 else 0))])
    refine GoKit.if_eq G at_454 (by decide) (pt := 485) (pf := 457) rfl rfl (fun hb232 => ?_) (fun hb232 => ?_)
    · refine GoKit.iconst G (0 : Int32) at_485 rfl (pc' := 486) rfl ?_
      refine GoKit.istore G at_486 (Ls' := #[.val (.int p0), .val (.int p1), .val (.int p2), .val (.int p3), .val (.int p4), .val (.int ch17), .val (.int ch23), .val (.int ch29), .val (.int ch35), .val (.int (4 : Int32)), .val (.ref a98), .val (.int (0 : Int32))]) rfl (pc' := 488) rfl ?_
      refine GoKit.goto G at_488 (by decide) (pc' := 760) rfl ?_
      refine Run.mono (cells' := 1) (slots' := 41) (by decide) (by decide) ?_
      refine Run.owless (ow' := []) (fun _ q => nomatch q) ?_
      exact J _ _ [ch17, ch35, ch35, ch35, ch35, ch35, ch35, ch35, ch35, ch35, ch35, ch35, ch35, ch35, ch35, ch35, ch35, ch35, ch35, ch35, ch23, ch35, ch35, ch35, ch35, ch35, ch35, ch35, ch35, ch35, ch35, ch35, ch35, ch35, ch35, ch35, ch35, ch35, ch35, ch29] _ _ _ _ _ _ A229 (by simp) (by simp) ha231 ((if_neg (fun r => (ite_f hb232) (r.2.2 _ (by simp)))).symm)
    · refine GoKit.iload G at_457 rfl (pc' := 459) rfl ?_
      refine GoKit.callStaticP G at_459 (wi hw 37 rfl) (wi hw 38 rfl) (wi hw 2 rfl) (wi hw 39 rfl) (by decide) (W := 0) (argsL := [(.int ch23)]) (rest := []) (con_hex l hw ch23) rfl (lenOf pd_18 rfl) rfl (by decide) (Nat.le_of_eq rfl) (by decide) (by decide) (by decide) (cells' := 1) (slots' := 40) rfl rfl (pc' := 462) rfl ?_
      show Run _ _ _ _ _ _ _ _ _ _ _ _ _ _ _ _ _ _ _ _ _ (mkF m 462 #[.val (.int p0), .val (.int p1), .val (.int p2), .val (.int p3), .val (.int p4), .val (.int ch17), .val (.int ch23), .val (.int ch29), .val (.int ch35), .val (.int (4 : Int32)), .val (.ref a98), .unset] [(.int (if hexP ch23 then 1 else 0))])
      refine GoKit.if_eq G at_462 (by decide) (pt := 485) (pf := 465) rfl rfl (fun hb233 => ?_) (fun hb233 => ?_)
      · refine GoKit.iconst G (0 : Int32) at_485 rfl (pc' := 486) rfl ?_
        refine GoKit.istore G at_486 (Ls' := #[.val (.int p0), .val (.int p1), .val (.int p2), .val (.int p3), .val (.int p4), .val (.int ch17), .val (.int ch23), .val (.int ch29), .val (.int ch35), .val (.int (4 : Int32)), .val (.ref a98), .val (.int (0 : Int32))]) rfl (pc' := 488) rfl ?_
        refine GoKit.goto G at_488 (by decide) (pc' := 760) rfl ?_
        refine Run.mono (cells' := 1) (slots' := 41) (by decide) (by decide) ?_
        refine Run.owless (ow' := []) (fun _ q => nomatch q) ?_
        exact J _ _ [ch17, ch35, ch35, ch35, ch35, ch35, ch35, ch35, ch35, ch35, ch35, ch35, ch35, ch35, ch35, ch35, ch35, ch35, ch35, ch35, ch23, ch35, ch35, ch35, ch35, ch35, ch35, ch35, ch35, ch35, ch35, ch35, ch35, ch35, ch35, ch35, ch35, ch35, ch35, ch29] _ _ _ _ _ _ A229 (by simp) (by simp) ha231 ((if_neg (fun r => (ite_f hb233) (r.2.2 _ (by simp)))).symm)
      · refine GoKit.iload G at_465 rfl (pc' := 467) rfl ?_
        refine GoKit.callStaticP G at_467 (wi hw 37 rfl) (wi hw 38 rfl) (wi hw 2 rfl) (wi hw 39 rfl) (by decide) (W := 0) (argsL := [(.int ch29)]) (rest := []) (con_hex l hw ch29) rfl (lenOf pd_18 rfl) rfl (by decide) (Nat.le_of_eq rfl) (by decide) (by decide) (by decide) (cells' := 1) (slots' := 40) rfl rfl (pc' := 470) rfl ?_
        show Run _ _ _ _ _ _ _ _ _ _ _ _ _ _ _ _ _ _ _ _ _ (mkF m 470 #[.val (.int p0), .val (.int p1), .val (.int p2), .val (.int p3), .val (.int p4), .val (.int ch17), .val (.int ch23), .val (.int ch29), .val (.int ch35), .val (.int (4 : Int32)), .val (.ref a98), .unset] [(.int (if hexP ch29 then 1 else 0))])
        refine GoKit.if_eq G at_470 (by decide) (pt := 485) (pf := 473) rfl rfl (fun hb234 => ?_) (fun hb234 => ?_)
        · refine GoKit.iconst G (0 : Int32) at_485 rfl (pc' := 486) rfl ?_
          refine GoKit.istore G at_486 (Ls' := #[.val (.int p0), .val (.int p1), .val (.int p2), .val (.int p3), .val (.int p4), .val (.int ch17), .val (.int ch23), .val (.int ch29), .val (.int ch35), .val (.int (4 : Int32)), .val (.ref a98), .val (.int (0 : Int32))]) rfl (pc' := 488) rfl ?_
          refine GoKit.goto G at_488 (by decide) (pc' := 760) rfl ?_
          refine Run.mono (cells' := 1) (slots' := 41) (by decide) (by decide) ?_
          refine Run.owless (ow' := []) (fun _ q => nomatch q) ?_
          exact J _ _ [ch17, ch35, ch35, ch35, ch35, ch35, ch35, ch35, ch35, ch35, ch35, ch35, ch35, ch35, ch35, ch35, ch35, ch35, ch35, ch35, ch23, ch35, ch35, ch35, ch35, ch35, ch35, ch35, ch35, ch35, ch35, ch35, ch35, ch35, ch35, ch35, ch35, ch35, ch35, ch29] _ _ _ _ _ _ A229 (by simp) (by simp) ha231 ((if_neg (fun r => (ite_f hb234) (r.2.2 _ (by simp)))).symm)
        · refine GoKit.iload G at_473 rfl (pc' := 475) rfl ?_
          refine GoKit.callStaticP G at_475 (wi hw 37 rfl) (wi hw 38 rfl) (wi hw 2 rfl) (wi hw 39 rfl) (by decide) (W := 0) (argsL := [(.int ch35)]) (rest := []) (con_hex l hw ch35) rfl (lenOf pd_18 rfl) rfl (by decide) (Nat.le_of_eq rfl) (by decide) (by decide) (by decide) (cells' := 1) (slots' := 40) rfl rfl (pc' := 478) rfl ?_
          show Run _ _ _ _ _ _ _ _ _ _ _ _ _ _ _ _ _ _ _ _ _ (mkF m 478 #[.val (.int p0), .val (.int p1), .val (.int p2), .val (.int p3), .val (.int p4), .val (.int ch17), .val (.int ch23), .val (.int ch29), .val (.int ch35), .val (.int (4 : Int32)), .val (.ref a98), .unset] [(.int (if hexP ch35 then 1 else 0))])
          refine GoKit.if_eq G at_478 (by decide) (pt := 485) (pf := 481) rfl rfl (fun hb235 => ?_) (fun hb235 => ?_)
          · refine GoKit.iconst G (0 : Int32) at_485 rfl (pc' := 486) rfl ?_
            refine GoKit.istore G at_486 (Ls' := #[.val (.int p0), .val (.int p1), .val (.int p2), .val (.int p3), .val (.int p4), .val (.int ch17), .val (.int ch23), .val (.int ch29), .val (.int ch35), .val (.int (4 : Int32)), .val (.ref a98), .val (.int (0 : Int32))]) rfl (pc' := 488) rfl ?_
            refine GoKit.goto G at_488 (by decide) (pc' := 760) rfl ?_
            refine Run.mono (cells' := 1) (slots' := 41) (by decide) (by decide) ?_
            refine Run.owless (ow' := []) (fun _ q => nomatch q) ?_
            exact J _ _ [ch17, ch35, ch35, ch35, ch35, ch35, ch35, ch35, ch35, ch35, ch35, ch35, ch35, ch35, ch35, ch35, ch35, ch35, ch35, ch35, ch23, ch35, ch35, ch35, ch35, ch35, ch35, ch35, ch35, ch35, ch35, ch35, ch35, ch35, ch35, ch35, ch35, ch35, ch35, ch29] _ _ _ _ _ _ A229 (by simp) (by simp) ha231 ((if_neg (fun r => (ite_f hb235) (r.2.2 _ (by simp)))).symm)
          · refine GoKit.iconst G (1 : Int32) at_481 rfl (pc' := 482) rfl ?_
            refine GoKit.goto G at_482 (by decide) (pc' := 486) rfl ?_
            refine GoKit.istore G at_486 (Ls' := #[.val (.int p0), .val (.int p1), .val (.int p2), .val (.int p3), .val (.int p4), .val (.int ch17), .val (.int ch23), .val (.int ch29), .val (.int ch35), .val (.int (4 : Int32)), .val (.ref a98), .val (.int (1 : Int32))]) rfl (pc' := 488) rfl ?_
            refine GoKit.goto G at_488 (by decide) (pc' := 760) rfl ?_
            refine Run.mono (cells' := 1) (slots' := 41) (by decide) (by decide) ?_
            refine Run.owless (ow' := []) (fun _ q => nomatch q) ?_
            exact J _ _ [ch17, ch35, ch35, ch35, ch35, ch35, ch35, ch35, ch35, ch35, ch35, ch35, ch35, ch35, ch35, ch35, ch35, ch35, ch35, ch35, ch23, ch35, ch35, ch35, ch35, ch35, ch35, ch35, ch35, ch35, ch35, ch35, ch35, ch35, ch35, ch35, ch35, ch35, ch35, ch29] _ _ _ _ _ _ A229 (by simp) (by simp) ha231 ((if_pos ⟨by simp, by simp, by simp [(ite_t hb232), (ite_t hb233), (ite_t hb234), (ite_t hb235)]⟩).symm)
  · refine GoKit.istore G at_32 (Ls' := #[.val (.int p0), .val (.int p1), .val (.int p2), .val (.int p3), .val (.int p4), .val (.int ch17), .val (.int ch23), .val (.int ch29), .val (.int ch35), .val (.int (5 : Int32)), .unset, .unset]) rfl (pc' := 34) rfl ?_
    refine GoKit.iload G at_34 rfl (pc' := 36) rfl ?_
    refine GoKit.if_ne_t G at_36 (by decide) (by decide) (pc' := 50) rfl ?_
    refine GoKit.iload G at_50 rfl (pc' := 52) rfl ?_
    refine GoKit.iconst G (1 : Int32) at_52 rfl (pc' := 53) rfl ?_
    refine GoKit.icmp_ne_t G at_53 (by decide) (by decide) (pc' := 76) rfl ?_
    refine GoKit.iload G at_76 rfl (pc' := 78) rfl ?_
    refine GoKit.iconst G (2 : Int32) at_78 rfl (pc' := 79) rfl ?_
    refine GoKit.icmp_ne_t G at_79 (by decide) (by decide) (pc' := 123) rfl ?_
    refine GoKit.iload G at_123 rfl (pc' := 125) rfl ?_
    refine GoKit.iconst G (3 : Int32) at_125 rfl (pc' := 126) rfl ?_
    refine GoKit.icmp_ne_t G at_126 (by decide) (by decide) (pc' := 183) rfl ?_
    refine GoKit.iload G at_183 rfl (pc' := 185) rfl ?_
    refine GoKit.iconst G (4 : Int32) at_185 rfl (pc' := 186) rfl ?_
    refine GoKit.icmp_ne_t G at_186 (by decide) (by decide) (pc' := 491) rfl ?_
    refine GoKit.bipush G (41 : Int32) at_491 rfl (pc' := 493) rfl ?_
    refine GoKit.newcI G at_493 (wi hw 6 rfl) (by decide) (k := 41) (cap := 41) rfl (Nat.le_refl _) (by decide) (by decide) (by decide) (cells' := 1) (slots' := 41) rfl rfl (pc' := 495) rfl (fun h239 a236 ga236 E237 A238 => ?_)
    refine GoKit.dup G at_495 rfl (pc' := 496) rfl ?_
    refine GoKit.iconst G (0 : Int32) at_496 rfl (pc' := 497) rfl ?_
    refine GoKit.iload G at_497 rfl (pc' := 499) rfl ?_
    refine GoKit.castI G at_499 A238 (i := 0) rfl (by decide) (Nat.le_of_ble_eq_true rfl) (nar16 H36) (List.Mem.head _) (pc' := 500) rfl (fun h242 W240 A241 => ?_)
    change IA Z h242 a236 .char [ch35, 0, 0, 0, 0, 0, 0, 0, 0, 0, 0, 0, 0, 0, 0, 0, 0, 0, 0, 0, 0, 0, 0, 0, 0, 0, 0, 0, 0, 0, 0, 0, 0, 0, 0, 0, 0, 0, 0, 0, 0] at A241
    refine GoKit.dup G at_500 rfl (pc' := 501) rfl ?_
    refine GoKit.iconst G (1 : Int32) at_501 rfl (pc' := 502) rfl ?_
    refine GoKit.iload G at_502 rfl (pc' := 504) rfl ?_
    refine GoKit.castI G at_504 A241 (i := 1) rfl (by decide) (Nat.le_of_ble_eq_true rfl) (nar16 H36) (List.Mem.head _) (pc' := 505) rfl (fun h245 W243 A244 => ?_)
    change IA Z h245 a236 .char [ch35, ch35, 0, 0, 0, 0, 0, 0, 0, 0, 0, 0, 0, 0, 0, 0, 0, 0, 0, 0, 0, 0, 0, 0, 0, 0, 0, 0, 0, 0, 0, 0, 0, 0, 0, 0, 0, 0, 0, 0, 0] at A244
    refine GoKit.dup G at_505 rfl (pc' := 506) rfl ?_
    refine GoKit.iconst G (2 : Int32) at_506 rfl (pc' := 507) rfl ?_
    refine GoKit.iload G at_507 rfl (pc' := 509) rfl ?_
    refine GoKit.castI G at_509 A244 (i := 2) rfl (by decide) (Nat.le_of_ble_eq_true rfl) (nar16 H36) (List.Mem.head _) (pc' := 510) rfl (fun h248 W246 A247 => ?_)
    change IA Z h248 a236 .char [ch35, ch35, ch35, 0, 0, 0, 0, 0, 0, 0, 0, 0, 0, 0, 0, 0, 0, 0, 0, 0, 0, 0, 0, 0, 0, 0, 0, 0, 0, 0, 0, 0, 0, 0, 0, 0, 0, 0, 0, 0, 0] at A247
    refine GoKit.dup G at_510 rfl (pc' := 511) rfl ?_
    refine GoKit.iconst G (3 : Int32) at_511 rfl (pc' := 512) rfl ?_
    refine GoKit.iload G at_512 rfl (pc' := 514) rfl ?_
    refine GoKit.castI G at_514 A247 (i := 3) rfl (by decide) (Nat.le_of_ble_eq_true rfl) (nar16 H36) (List.Mem.head _) (pc' := 515) rfl (fun h251 W249 A250 => ?_)
    change IA Z h251 a236 .char [ch35, ch35, ch35, ch35, 0, 0, 0, 0, 0, 0, 0, 0, 0, 0, 0, 0, 0, 0, 0, 0, 0, 0, 0, 0, 0, 0, 0, 0, 0, 0, 0, 0, 0, 0, 0, 0, 0, 0, 0, 0, 0] at A250
    refine GoKit.dup G at_515 rfl (pc' := 516) rfl ?_
    refine GoKit.iconst G (4 : Int32) at_516 rfl (pc' := 517) rfl ?_
    refine GoKit.iload G at_517 rfl (pc' := 519) rfl ?_
    refine GoKit.castI G at_519 A250 (i := 4) rfl (by decide) (Nat.le_of_ble_eq_true rfl) (nar16 H36) (List.Mem.head _) (pc' := 520) rfl (fun h254 W252 A253 => ?_)
    change IA Z h254 a236 .char [ch35, ch35, ch35, ch35, ch35, 0, 0, 0, 0, 0, 0, 0, 0, 0, 0, 0, 0, 0, 0, 0, 0, 0, 0, 0, 0, 0, 0, 0, 0, 0, 0, 0, 0, 0, 0, 0, 0, 0, 0, 0, 0] at A253
    refine GoKit.dup G at_520 rfl (pc' := 521) rfl ?_
    refine GoKit.iconst G (5 : Int32) at_521 rfl (pc' := 522) rfl ?_
    refine GoKit.iload G at_522 rfl (pc' := 524) rfl ?_
    refine GoKit.castI G at_524 A253 (i := 5) rfl (by decide) (Nat.le_of_ble_eq_true rfl) (nar16 H36) (List.Mem.head _) (pc' := 525) rfl (fun h257 W255 A256 => ?_)
    change IA Z h257 a236 .char [ch35, ch35, ch35, ch35, ch35, ch35, 0, 0, 0, 0, 0, 0, 0, 0, 0, 0, 0, 0, 0, 0, 0, 0, 0, 0, 0, 0, 0, 0, 0, 0, 0, 0, 0, 0, 0, 0, 0, 0, 0, 0, 0] at A256
    refine GoKit.dup G at_525 rfl (pc' := 526) rfl ?_
    refine GoKit.bipush G (6 : Int32) at_526 rfl (pc' := 528) rfl ?_
    refine GoKit.iload G at_528 rfl (pc' := 530) rfl ?_
    refine GoKit.castI G at_530 A256 (i := 6) rfl (by decide) (Nat.le_of_ble_eq_true rfl) (nar16 H36) (List.Mem.head _) (pc' := 531) rfl (fun h260 W258 A259 => ?_)
    change IA Z h260 a236 .char [ch35, ch35, ch35, ch35, ch35, ch35, ch35, 0, 0, 0, 0, 0, 0, 0, 0, 0, 0, 0, 0, 0, 0, 0, 0, 0, 0, 0, 0, 0, 0, 0, 0, 0, 0, 0, 0, 0, 0, 0, 0, 0, 0] at A259
    refine GoKit.dup G at_531 rfl (pc' := 532) rfl ?_
    refine GoKit.bipush G (7 : Int32) at_532 rfl (pc' := 534) rfl ?_
    refine GoKit.iload G at_534 rfl (pc' := 536) rfl ?_
    refine GoKit.castI G at_536 A259 (i := 7) rfl (by decide) (Nat.le_of_ble_eq_true rfl) (nar16 H36) (List.Mem.head _) (pc' := 537) rfl (fun h263 W261 A262 => ?_)
    change IA Z h263 a236 .char [ch35, ch35, ch35, ch35, ch35, ch35, ch35, ch35, 0, 0, 0, 0, 0, 0, 0, 0, 0, 0, 0, 0, 0, 0, 0, 0, 0, 0, 0, 0, 0, 0, 0, 0, 0, 0, 0, 0, 0, 0, 0, 0, 0] at A262
    refine GoKit.dup G at_537 rfl (pc' := 538) rfl ?_
    refine GoKit.bipush G (8 : Int32) at_538 rfl (pc' := 540) rfl ?_
    refine GoKit.iload G at_540 rfl (pc' := 542) rfl ?_
    refine GoKit.castI G at_542 A262 (i := 8) rfl (by decide) (Nat.le_of_ble_eq_true rfl) (nar16 H36) (List.Mem.head _) (pc' := 543) rfl (fun h266 W264 A265 => ?_)
    change IA Z h266 a236 .char [ch35, ch35, ch35, ch35, ch35, ch35, ch35, ch35, ch35, 0, 0, 0, 0, 0, 0, 0, 0, 0, 0, 0, 0, 0, 0, 0, 0, 0, 0, 0, 0, 0, 0, 0, 0, 0, 0, 0, 0, 0, 0, 0, 0] at A265
    refine GoKit.dup G at_543 rfl (pc' := 544) rfl ?_
    refine GoKit.bipush G (9 : Int32) at_544 rfl (pc' := 546) rfl ?_
    refine GoKit.iload G at_546 rfl (pc' := 548) rfl ?_
    refine GoKit.castI G at_548 A265 (i := 9) rfl (by decide) (Nat.le_of_ble_eq_true rfl) (nar16 H36) (List.Mem.head _) (pc' := 549) rfl (fun h269 W267 A268 => ?_)
    change IA Z h269 a236 .char [ch35, ch35, ch35, ch35, ch35, ch35, ch35, ch35, ch35, ch35, 0, 0, 0, 0, 0, 0, 0, 0, 0, 0, 0, 0, 0, 0, 0, 0, 0, 0, 0, 0, 0, 0, 0, 0, 0, 0, 0, 0, 0, 0, 0] at A268
    refine GoKit.dup G at_549 rfl (pc' := 550) rfl ?_
    refine GoKit.bipush G (10 : Int32) at_550 rfl (pc' := 552) rfl ?_
    refine GoKit.iload G at_552 rfl (pc' := 554) rfl ?_
    refine GoKit.castI G at_554 A268 (i := 10) rfl (by decide) (Nat.le_of_ble_eq_true rfl) (nar16 H36) (List.Mem.head _) (pc' := 555) rfl (fun h272 W270 A271 => ?_)
    change IA Z h272 a236 .char [ch35, ch35, ch35, ch35, ch35, ch35, ch35, ch35, ch35, ch35, ch35, 0, 0, 0, 0, 0, 0, 0, 0, 0, 0, 0, 0, 0, 0, 0, 0, 0, 0, 0, 0, 0, 0, 0, 0, 0, 0, 0, 0, 0, 0] at A271
    refine GoKit.dup G at_555 rfl (pc' := 556) rfl ?_
    refine GoKit.bipush G (11 : Int32) at_556 rfl (pc' := 558) rfl ?_
    refine GoKit.iload G at_558 rfl (pc' := 560) rfl ?_
    refine GoKit.castI G at_560 A271 (i := 11) rfl (by decide) (Nat.le_of_ble_eq_true rfl) (nar16 H36) (List.Mem.head _) (pc' := 561) rfl (fun h275 W273 A274 => ?_)
    change IA Z h275 a236 .char [ch35, ch35, ch35, ch35, ch35, ch35, ch35, ch35, ch35, ch35, ch35, ch35, 0, 0, 0, 0, 0, 0, 0, 0, 0, 0, 0, 0, 0, 0, 0, 0, 0, 0, 0, 0, 0, 0, 0, 0, 0, 0, 0, 0, 0] at A274
    refine GoKit.dup G at_561 rfl (pc' := 562) rfl ?_
    refine GoKit.bipush G (12 : Int32) at_562 rfl (pc' := 564) rfl ?_
    refine GoKit.iload G at_564 rfl (pc' := 566) rfl ?_
    refine GoKit.castI G at_566 A274 (i := 12) rfl (by decide) (Nat.le_of_ble_eq_true rfl) (nar16 H36) (List.Mem.head _) (pc' := 567) rfl (fun h278 W276 A277 => ?_)
    change IA Z h278 a236 .char [ch35, ch35, ch35, ch35, ch35, ch35, ch35, ch35, ch35, ch35, ch35, ch35, ch35, 0, 0, 0, 0, 0, 0, 0, 0, 0, 0, 0, 0, 0, 0, 0, 0, 0, 0, 0, 0, 0, 0, 0, 0, 0, 0, 0, 0] at A277
    refine GoKit.dup G at_567 rfl (pc' := 568) rfl ?_
    refine GoKit.bipush G (13 : Int32) at_568 rfl (pc' := 570) rfl ?_
    refine GoKit.iload G at_570 rfl (pc' := 572) rfl ?_
    refine GoKit.castI G at_572 A277 (i := 13) rfl (by decide) (Nat.le_of_ble_eq_true rfl) (nar16 H36) (List.Mem.head _) (pc' := 573) rfl (fun h281 W279 A280 => ?_)
    change IA Z h281 a236 .char [ch35, ch35, ch35, ch35, ch35, ch35, ch35, ch35, ch35, ch35, ch35, ch35, ch35, ch35, 0, 0, 0, 0, 0, 0, 0, 0, 0, 0, 0, 0, 0, 0, 0, 0, 0, 0, 0, 0, 0, 0, 0, 0, 0, 0, 0] at A280
    refine GoKit.dup G at_573 rfl (pc' := 574) rfl ?_
    refine GoKit.bipush G (14 : Int32) at_574 rfl (pc' := 576) rfl ?_
    refine GoKit.iload G at_576 rfl (pc' := 578) rfl ?_
    refine GoKit.castI G at_578 A280 (i := 14) rfl (by decide) (Nat.le_of_ble_eq_true rfl) (nar16 H36) (List.Mem.head _) (pc' := 579) rfl (fun h284 W282 A283 => ?_)
    change IA Z h284 a236 .char [ch35, ch35, ch35, ch35, ch35, ch35, ch35, ch35, ch35, ch35, ch35, ch35, ch35, ch35, ch35, 0, 0, 0, 0, 0, 0, 0, 0, 0, 0, 0, 0, 0, 0, 0, 0, 0, 0, 0, 0, 0, 0, 0, 0, 0, 0] at A283
    refine GoKit.dup G at_579 rfl (pc' := 580) rfl ?_
    refine GoKit.bipush G (15 : Int32) at_580 rfl (pc' := 582) rfl ?_
    refine GoKit.iload G at_582 rfl (pc' := 584) rfl ?_
    refine GoKit.castI G at_584 A283 (i := 15) rfl (by decide) (Nat.le_of_ble_eq_true rfl) (nar16 H36) (List.Mem.head _) (pc' := 585) rfl (fun h287 W285 A286 => ?_)
    change IA Z h287 a236 .char [ch35, ch35, ch35, ch35, ch35, ch35, ch35, ch35, ch35, ch35, ch35, ch35, ch35, ch35, ch35, ch35, 0, 0, 0, 0, 0, 0, 0, 0, 0, 0, 0, 0, 0, 0, 0, 0, 0, 0, 0, 0, 0, 0, 0, 0, 0] at A286
    refine GoKit.dup G at_585 rfl (pc' := 586) rfl ?_
    refine GoKit.bipush G (16 : Int32) at_586 rfl (pc' := 588) rfl ?_
    refine GoKit.iload G at_588 rfl (pc' := 590) rfl ?_
    refine GoKit.castI G at_590 A286 (i := 16) rfl (by decide) (Nat.le_of_ble_eq_true rfl) (nar16 H36) (List.Mem.head _) (pc' := 591) rfl (fun h290 W288 A289 => ?_)
    change IA Z h290 a236 .char [ch35, ch35, ch35, ch35, ch35, ch35, ch35, ch35, ch35, ch35, ch35, ch35, ch35, ch35, ch35, ch35, ch35, 0, 0, 0, 0, 0, 0, 0, 0, 0, 0, 0, 0, 0, 0, 0, 0, 0, 0, 0, 0, 0, 0, 0, 0] at A289
    refine GoKit.dup G at_591 rfl (pc' := 592) rfl ?_
    refine GoKit.bipush G (17 : Int32) at_592 rfl (pc' := 594) rfl ?_
    refine GoKit.iload G at_594 rfl (pc' := 596) rfl ?_
    refine GoKit.castI G at_596 A289 (i := 17) rfl (by decide) (Nat.le_of_ble_eq_true rfl) (nar16 H36) (List.Mem.head _) (pc' := 597) rfl (fun h293 W291 A292 => ?_)
    change IA Z h293 a236 .char [ch35, ch35, ch35, ch35, ch35, ch35, ch35, ch35, ch35, ch35, ch35, ch35, ch35, ch35, ch35, ch35, ch35, ch35, 0, 0, 0, 0, 0, 0, 0, 0, 0, 0, 0, 0, 0, 0, 0, 0, 0, 0, 0, 0, 0, 0, 0] at A292
    refine GoKit.dup G at_597 rfl (pc' := 598) rfl ?_
    refine GoKit.bipush G (18 : Int32) at_598 rfl (pc' := 600) rfl ?_
    refine GoKit.iload G at_600 rfl (pc' := 602) rfl ?_
    refine GoKit.castI G at_602 A292 (i := 18) rfl (by decide) (Nat.le_of_ble_eq_true rfl) (nar16 H36) (List.Mem.head _) (pc' := 603) rfl (fun h296 W294 A295 => ?_)
    change IA Z h296 a236 .char [ch35, ch35, ch35, ch35, ch35, ch35, ch35, ch35, ch35, ch35, ch35, ch35, ch35, ch35, ch35, ch35, ch35, ch35, ch35, 0, 0, 0, 0, 0, 0, 0, 0, 0, 0, 0, 0, 0, 0, 0, 0, 0, 0, 0, 0, 0, 0] at A295
    refine GoKit.dup G at_603 rfl (pc' := 604) rfl ?_
    refine GoKit.bipush G (19 : Int32) at_604 rfl (pc' := 606) rfl ?_
    refine GoKit.iload G at_606 rfl (pc' := 608) rfl ?_
    refine GoKit.castI G at_608 A295 (i := 19) rfl (by decide) (Nat.le_of_ble_eq_true rfl) (nar16 H36) (List.Mem.head _) (pc' := 609) rfl (fun h299 W297 A298 => ?_)
    change IA Z h299 a236 .char [ch35, ch35, ch35, ch35, ch35, ch35, ch35, ch35, ch35, ch35, ch35, ch35, ch35, ch35, ch35, ch35, ch35, ch35, ch35, ch35, 0, 0, 0, 0, 0, 0, 0, 0, 0, 0, 0, 0, 0, 0, 0, 0, 0, 0, 0, 0, 0] at A298
    refine GoKit.dup G at_609 rfl (pc' := 610) rfl ?_
    refine GoKit.bipush G (20 : Int32) at_610 rfl (pc' := 612) rfl ?_
    refine GoKit.iload G at_612 rfl (pc' := 614) rfl ?_
    refine GoKit.castI G at_614 A298 (i := 20) rfl (by decide) (Nat.le_of_ble_eq_true rfl) (nar16 H36) (List.Mem.head _) (pc' := 615) rfl (fun h302 W300 A301 => ?_)
    change IA Z h302 a236 .char [ch35, ch35, ch35, ch35, ch35, ch35, ch35, ch35, ch35, ch35, ch35, ch35, ch35, ch35, ch35, ch35, ch35, ch35, ch35, ch35, ch35, 0, 0, 0, 0, 0, 0, 0, 0, 0, 0, 0, 0, 0, 0, 0, 0, 0, 0, 0, 0] at A301
    refine GoKit.dup G at_615 rfl (pc' := 616) rfl ?_
    refine GoKit.bipush G (21 : Int32) at_616 rfl (pc' := 618) rfl ?_
    refine GoKit.iload G at_618 rfl (pc' := 620) rfl ?_
    refine GoKit.castI G at_620 A301 (i := 21) rfl (by decide) (Nat.le_of_ble_eq_true rfl) (nar16 H36) (List.Mem.head _) (pc' := 621) rfl (fun h305 W303 A304 => ?_)
    change IA Z h305 a236 .char [ch35, ch35, ch35, ch35, ch35, ch35, ch35, ch35, ch35, ch35, ch35, ch35, ch35, ch35, ch35, ch35, ch35, ch35, ch35, ch35, ch35, ch35, 0, 0, 0, 0, 0, 0, 0, 0, 0, 0, 0, 0, 0, 0, 0, 0, 0, 0, 0] at A304
    refine GoKit.dup G at_621 rfl (pc' := 622) rfl ?_
    refine GoKit.bipush G (22 : Int32) at_622 rfl (pc' := 624) rfl ?_
    refine GoKit.iload G at_624 rfl (pc' := 626) rfl ?_
    refine GoKit.castI G at_626 A304 (i := 22) rfl (by decide) (Nat.le_of_ble_eq_true rfl) (nar16 H36) (List.Mem.head _) (pc' := 627) rfl (fun h308 W306 A307 => ?_)
    change IA Z h308 a236 .char [ch35, ch35, ch35, ch35, ch35, ch35, ch35, ch35, ch35, ch35, ch35, ch35, ch35, ch35, ch35, ch35, ch35, ch35, ch35, ch35, ch35, ch35, ch35, 0, 0, 0, 0, 0, 0, 0, 0, 0, 0, 0, 0, 0, 0, 0, 0, 0, 0] at A307
    refine GoKit.dup G at_627 rfl (pc' := 628) rfl ?_
    refine GoKit.bipush G (23 : Int32) at_628 rfl (pc' := 630) rfl ?_
    refine GoKit.iload G at_630 rfl (pc' := 632) rfl ?_
    refine GoKit.castI G at_632 A307 (i := 23) rfl (by decide) (Nat.le_of_ble_eq_true rfl) (nar16 H36) (List.Mem.head _) (pc' := 633) rfl (fun h311 W309 A310 => ?_)
    change IA Z h311 a236 .char [ch35, ch35, ch35, ch35, ch35, ch35, ch35, ch35, ch35, ch35, ch35, ch35, ch35, ch35, ch35, ch35, ch35, ch35, ch35, ch35, ch35, ch35, ch35, ch35, 0, 0, 0, 0, 0, 0, 0, 0, 0, 0, 0, 0, 0, 0, 0, 0, 0] at A310
    refine GoKit.dup G at_633 rfl (pc' := 634) rfl ?_
    refine GoKit.bipush G (24 : Int32) at_634 rfl (pc' := 636) rfl ?_
    refine GoKit.iload G at_636 rfl (pc' := 638) rfl ?_
    refine GoKit.castI G at_638 A310 (i := 24) rfl (by decide) (Nat.le_of_ble_eq_true rfl) (nar16 H36) (List.Mem.head _) (pc' := 639) rfl (fun h314 W312 A313 => ?_)
    change IA Z h314 a236 .char [ch35, ch35, ch35, ch35, ch35, ch35, ch35, ch35, ch35, ch35, ch35, ch35, ch35, ch35, ch35, ch35, ch35, ch35, ch35, ch35, ch35, ch35, ch35, ch35, ch35, 0, 0, 0, 0, 0, 0, 0, 0, 0, 0, 0, 0, 0, 0, 0, 0] at A313
    refine GoKit.dup G at_639 rfl (pc' := 640) rfl ?_
    refine GoKit.bipush G (25 : Int32) at_640 rfl (pc' := 642) rfl ?_
    refine GoKit.iload G at_642 rfl (pc' := 644) rfl ?_
    refine GoKit.castI G at_644 A313 (i := 25) rfl (by decide) (Nat.le_of_ble_eq_true rfl) (nar16 H36) (List.Mem.head _) (pc' := 645) rfl (fun h317 W315 A316 => ?_)
    change IA Z h317 a236 .char [ch35, ch35, ch35, ch35, ch35, ch35, ch35, ch35, ch35, ch35, ch35, ch35, ch35, ch35, ch35, ch35, ch35, ch35, ch35, ch35, ch35, ch35, ch35, ch35, ch35, ch35, 0, 0, 0, 0, 0, 0, 0, 0, 0, 0, 0, 0, 0, 0, 0] at A316
    refine GoKit.dup G at_645 rfl (pc' := 646) rfl ?_
    refine GoKit.bipush G (26 : Int32) at_646 rfl (pc' := 648) rfl ?_
    refine GoKit.iload G at_648 rfl (pc' := 650) rfl ?_
    refine GoKit.castI G at_650 A316 (i := 26) rfl (by decide) (Nat.le_of_ble_eq_true rfl) (nar16 H36) (List.Mem.head _) (pc' := 651) rfl (fun h320 W318 A319 => ?_)
    change IA Z h320 a236 .char [ch35, ch35, ch35, ch35, ch35, ch35, ch35, ch35, ch35, ch35, ch35, ch35, ch35, ch35, ch35, ch35, ch35, ch35, ch35, ch35, ch35, ch35, ch35, ch35, ch35, ch35, ch35, 0, 0, 0, 0, 0, 0, 0, 0, 0, 0, 0, 0, 0, 0] at A319
    refine GoKit.dup G at_651 rfl (pc' := 652) rfl ?_
    refine GoKit.bipush G (27 : Int32) at_652 rfl (pc' := 654) rfl ?_
    refine GoKit.iload G at_654 rfl (pc' := 656) rfl ?_
    refine GoKit.castI G at_656 A319 (i := 27) rfl (by decide) (Nat.le_of_ble_eq_true rfl) (nar16 H36) (List.Mem.head _) (pc' := 657) rfl (fun h323 W321 A322 => ?_)
    change IA Z h323 a236 .char [ch35, ch35, ch35, ch35, ch35, ch35, ch35, ch35, ch35, ch35, ch35, ch35, ch35, ch35, ch35, ch35, ch35, ch35, ch35, ch35, ch35, ch35, ch35, ch35, ch35, ch35, ch35, ch35, 0, 0, 0, 0, 0, 0, 0, 0, 0, 0, 0, 0, 0] at A322
    refine GoKit.dup G at_657 rfl (pc' := 658) rfl ?_
    refine GoKit.bipush G (28 : Int32) at_658 rfl (pc' := 660) rfl ?_
    refine GoKit.iload G at_660 rfl (pc' := 662) rfl ?_
    refine GoKit.castI G at_662 A322 (i := 28) rfl (by decide) (Nat.le_of_ble_eq_true rfl) (nar16 H36) (List.Mem.head _) (pc' := 663) rfl (fun h326 W324 A325 => ?_)
    change IA Z h326 a236 .char [ch35, ch35, ch35, ch35, ch35, ch35, ch35, ch35, ch35, ch35, ch35, ch35, ch35, ch35, ch35, ch35, ch35, ch35, ch35, ch35, ch35, ch35, ch35, ch35, ch35, ch35, ch35, ch35, ch35, 0, 0, 0, 0, 0, 0, 0, 0, 0, 0, 0, 0] at A325
    refine GoKit.dup G at_663 rfl (pc' := 664) rfl ?_
    refine GoKit.bipush G (29 : Int32) at_664 rfl (pc' := 666) rfl ?_
    refine GoKit.iload G at_666 rfl (pc' := 668) rfl ?_
    refine GoKit.castI G at_668 A325 (i := 29) rfl (by decide) (Nat.le_of_ble_eq_true rfl) (nar16 H36) (List.Mem.head _) (pc' := 669) rfl (fun h329 W327 A328 => ?_)
    change IA Z h329 a236 .char [ch35, ch35, ch35, ch35, ch35, ch35, ch35, ch35, ch35, ch35, ch35, ch35, ch35, ch35, ch35, ch35, ch35, ch35, ch35, ch35, ch35, ch35, ch35, ch35, ch35, ch35, ch35, ch35, ch35, ch35, 0, 0, 0, 0, 0, 0, 0, 0, 0, 0, 0] at A328
    refine GoKit.dup G at_669 rfl (pc' := 670) rfl ?_
    refine GoKit.bipush G (30 : Int32) at_670 rfl (pc' := 672) rfl ?_
    refine GoKit.iload G at_672 rfl (pc' := 674) rfl ?_
    refine GoKit.castI G at_674 A328 (i := 30) rfl (by decide) (Nat.le_of_ble_eq_true rfl) (nar16 H36) (List.Mem.head _) (pc' := 675) rfl (fun h332 W330 A331 => ?_)
    change IA Z h332 a236 .char [ch35, ch35, ch35, ch35, ch35, ch35, ch35, ch35, ch35, ch35, ch35, ch35, ch35, ch35, ch35, ch35, ch35, ch35, ch35, ch35, ch35, ch35, ch35, ch35, ch35, ch35, ch35, ch35, ch35, ch35, ch35, 0, 0, 0, 0, 0, 0, 0, 0, 0, 0] at A331
    refine GoKit.dup G at_675 rfl (pc' := 676) rfl ?_
    refine GoKit.bipush G (31 : Int32) at_676 rfl (pc' := 678) rfl ?_
    refine GoKit.iload G at_678 rfl (pc' := 680) rfl ?_
    refine GoKit.castI G at_680 A331 (i := 31) rfl (by decide) (Nat.le_of_ble_eq_true rfl) (nar16 H36) (List.Mem.head _) (pc' := 681) rfl (fun h335 W333 A334 => ?_)
    change IA Z h335 a236 .char [ch35, ch35, ch35, ch35, ch35, ch35, ch35, ch35, ch35, ch35, ch35, ch35, ch35, ch35, ch35, ch35, ch35, ch35, ch35, ch35, ch35, ch35, ch35, ch35, ch35, ch35, ch35, ch35, ch35, ch35, ch35, ch35, 0, 0, 0, 0, 0, 0, 0, 0, 0] at A334
    refine GoKit.dup G at_681 rfl (pc' := 682) rfl ?_
    refine GoKit.bipush G (32 : Int32) at_682 rfl (pc' := 684) rfl ?_
    refine GoKit.iload G at_684 rfl (pc' := 686) rfl ?_
    refine GoKit.castI G at_686 A334 (i := 32) rfl (by decide) (Nat.le_of_ble_eq_true rfl) (nar16 H36) (List.Mem.head _) (pc' := 687) rfl (fun h338 W336 A337 => ?_)
    change IA Z h338 a236 .char [ch35, ch35, ch35, ch35, ch35, ch35, ch35, ch35, ch35, ch35, ch35, ch35, ch35, ch35, ch35, ch35, ch35, ch35, ch35, ch35, ch35, ch35, ch35, ch35, ch35, ch35, ch35, ch35, ch35, ch35, ch35, ch35, ch35, 0, 0, 0, 0, 0, 0, 0, 0] at A337
    refine GoKit.dup G at_687 rfl (pc' := 688) rfl ?_
    refine GoKit.bipush G (33 : Int32) at_688 rfl (pc' := 690) rfl ?_
    refine GoKit.iload G at_690 rfl (pc' := 692) rfl ?_
    refine GoKit.castI G at_692 A337 (i := 33) rfl (by decide) (Nat.le_of_ble_eq_true rfl) (nar16 H36) (List.Mem.head _) (pc' := 693) rfl (fun h341 W339 A340 => ?_)
    change IA Z h341 a236 .char [ch35, ch35, ch35, ch35, ch35, ch35, ch35, ch35, ch35, ch35, ch35, ch35, ch35, ch35, ch35, ch35, ch35, ch35, ch35, ch35, ch35, ch35, ch35, ch35, ch35, ch35, ch35, ch35, ch35, ch35, ch35, ch35, ch35, ch35, 0, 0, 0, 0, 0, 0, 0] at A340
    refine GoKit.dup G at_693 rfl (pc' := 694) rfl ?_
    refine GoKit.bipush G (34 : Int32) at_694 rfl (pc' := 696) rfl ?_
    refine GoKit.iload G at_696 rfl (pc' := 698) rfl ?_
    refine GoKit.castI G at_698 A340 (i := 34) rfl (by decide) (Nat.le_of_ble_eq_true rfl) (nar16 H36) (List.Mem.head _) (pc' := 699) rfl (fun h344 W342 A343 => ?_)
    change IA Z h344 a236 .char [ch35, ch35, ch35, ch35, ch35, ch35, ch35, ch35, ch35, ch35, ch35, ch35, ch35, ch35, ch35, ch35, ch35, ch35, ch35, ch35, ch35, ch35, ch35, ch35, ch35, ch35, ch35, ch35, ch35, ch35, ch35, ch35, ch35, ch35, ch35, 0, 0, 0, 0, 0, 0] at A343
    refine GoKit.dup G at_699 rfl (pc' := 700) rfl ?_
    refine GoKit.bipush G (35 : Int32) at_700 rfl (pc' := 702) rfl ?_
    refine GoKit.iload G at_702 rfl (pc' := 704) rfl ?_
    refine GoKit.castI G at_704 A343 (i := 35) rfl (by decide) (Nat.le_of_ble_eq_true rfl) (nar16 H36) (List.Mem.head _) (pc' := 705) rfl (fun h347 W345 A346 => ?_)
    change IA Z h347 a236 .char [ch35, ch35, ch35, ch35, ch35, ch35, ch35, ch35, ch35, ch35, ch35, ch35, ch35, ch35, ch35, ch35, ch35, ch35, ch35, ch35, ch35, ch35, ch35, ch35, ch35, ch35, ch35, ch35, ch35, ch35, ch35, ch35, ch35, ch35, ch35, ch35, 0, 0, 0, 0, 0] at A346
    refine GoKit.dup G at_705 rfl (pc' := 706) rfl ?_
    refine GoKit.bipush G (36 : Int32) at_706 rfl (pc' := 708) rfl ?_
    refine GoKit.iload G at_708 rfl (pc' := 710) rfl ?_
    refine GoKit.castI G at_710 A346 (i := 36) rfl (by decide) (Nat.le_of_ble_eq_true rfl) (nar16 H36) (List.Mem.head _) (pc' := 711) rfl (fun h350 W348 A349 => ?_)
    change IA Z h350 a236 .char [ch35, ch35, ch35, ch35, ch35, ch35, ch35, ch35, ch35, ch35, ch35, ch35, ch35, ch35, ch35, ch35, ch35, ch35, ch35, ch35, ch35, ch35, ch35, ch35, ch35, ch35, ch35, ch35, ch35, ch35, ch35, ch35, ch35, ch35, ch35, ch35, ch35, 0, 0, 0, 0] at A349
    refine GoKit.dup G at_711 rfl (pc' := 712) rfl ?_
    refine GoKit.bipush G (37 : Int32) at_712 rfl (pc' := 714) rfl ?_
    refine GoKit.iload G at_714 rfl (pc' := 716) rfl ?_
    refine GoKit.castI G at_716 A349 (i := 37) rfl (by decide) (Nat.le_of_ble_eq_true rfl) (nar16 H36) (List.Mem.head _) (pc' := 717) rfl (fun h353 W351 A352 => ?_)
    change IA Z h353 a236 .char [ch35, ch35, ch35, ch35, ch35, ch35, ch35, ch35, ch35, ch35, ch35, ch35, ch35, ch35, ch35, ch35, ch35, ch35, ch35, ch35, ch35, ch35, ch35, ch35, ch35, ch35, ch35, ch35, ch35, ch35, ch35, ch35, ch35, ch35, ch35, ch35, ch35, ch35, 0, 0, 0] at A352
    refine GoKit.dup G at_717 rfl (pc' := 718) rfl ?_
    refine GoKit.bipush G (38 : Int32) at_718 rfl (pc' := 720) rfl ?_
    refine GoKit.iload G at_720 rfl (pc' := 722) rfl ?_
    refine GoKit.castI G at_722 A352 (i := 38) rfl (by decide) (Nat.le_of_ble_eq_true rfl) (nar16 H36) (List.Mem.head _) (pc' := 723) rfl (fun h356 W354 A355 => ?_)
    change IA Z h356 a236 .char [ch35, ch35, ch35, ch35, ch35, ch35, ch35, ch35, ch35, ch35, ch35, ch35, ch35, ch35, ch35, ch35, ch35, ch35, ch35, ch35, ch35, ch35, ch35, ch35, ch35, ch35, ch35, ch35, ch35, ch35, ch35, ch35, ch35, ch35, ch35, ch35, ch35, ch35, ch35, 0, 0] at A355
    refine GoKit.dup G at_723 rfl (pc' := 724) rfl ?_
    refine GoKit.bipush G (39 : Int32) at_724 rfl (pc' := 726) rfl ?_
    refine GoKit.iload G at_726 rfl (pc' := 728) rfl ?_
    refine GoKit.castI G at_728 A355 (i := 39) rfl (by decide) (Nat.le_of_ble_eq_true rfl) (nar16 H36) (List.Mem.head _) (pc' := 729) rfl (fun h359 W357 A358 => ?_)
    change IA Z h359 a236 .char [ch35, ch35, ch35, ch35, ch35, ch35, ch35, ch35, ch35, ch35, ch35, ch35, ch35, ch35, ch35, ch35, ch35, ch35, ch35, ch35, ch35, ch35, ch35, ch35, ch35, ch35, ch35, ch35, ch35, ch35, ch35, ch35, ch35, ch35, ch35, ch35, ch35, ch35, ch35, ch35, 0] at A358
    refine GoKit.dup G at_729 rfl (pc' := 730) rfl ?_
    refine GoKit.bipush G (40 : Int32) at_730 rfl (pc' := 732) rfl ?_
    refine GoKit.iload G at_732 rfl (pc' := 734) rfl ?_
    refine GoKit.castI G at_734 A358 (i := 40) rfl (by decide) (Nat.le_of_ble_eq_true rfl) (nar16 H36) (List.Mem.head _) (pc' := 735) rfl (fun h362 W360 A361 => ?_)
    change IA Z h362 a236 .char [ch35, ch35, ch35, ch35, ch35, ch35, ch35, ch35, ch35, ch35, ch35, ch35, ch35, ch35, ch35, ch35, ch35, ch35, ch35, ch35, ch35, ch35, ch35, ch35, ch35, ch35, ch35, ch35, ch35, ch35, ch35, ch35, ch35, ch35, ch35, ch35, ch35, ch35, ch35, ch35, ch35] at A361
    refine GoKit.astore G at_735 rfl (Ls' := #[.val (.int p0), .val (.int p1), .val (.int p2), .val (.int p3), .val (.int p4), .val (.int ch17), .val (.int ch23), .val (.int ch29), .val (.int ch35), .val (.int (5 : Int32)), .val (.ref a236), .unset]) rfl (pc' := 737) rfl ?_
    refine GoKit.aload G at_737 rfl rfl (pc' := 739) rfl ?_
    refine GoKit.iconst G (0 : Int32) at_739 rfl (pc' := 740) rfl ?_
    refine GoKit.iload G at_740 rfl (pc' := 742) rfl ?_
    refine GoKit.castI G at_742 A361 (i := 0) rfl (by decide) (Nat.le_of_ble_eq_true rfl) (nar16 H18) (List.Mem.head _) (pc' := 743) rfl (fun h365 W363 A364 => ?_)
    change IA Z h365 a236 .char [ch17, ch35, ch35, ch35, ch35, ch35, ch35, ch35, ch35, ch35, ch35, ch35, ch35, ch35, ch35, ch35, ch35, ch35, ch35, ch35, ch35, ch35, ch35, ch35, ch35, ch35, ch35, ch35, ch35, ch35, ch35, ch35, ch35, ch35, ch35, ch35, ch35, ch35, ch35, ch35, ch35] at A364
    refine GoKit.aload G at_743 rfl rfl (pc' := 745) rfl ?_
    refine GoKit.bipush G (20 : Int32) at_745 rfl (pc' := 747) rfl ?_
    refine GoKit.iload G at_747 rfl (pc' := 749) rfl ?_
    refine GoKit.castI G at_749 A364 (i := 20) rfl (by decide) (Nat.le_of_ble_eq_true rfl) (nar16 H24) (List.Mem.head _) (pc' := 750) rfl (fun h368 W366 A367 => ?_)
    change IA Z h368 a236 .char [ch17, ch35, ch35, ch35, ch35, ch35, ch35, ch35, ch35, ch35, ch35, ch35, ch35, ch35, ch35, ch35, ch35, ch35, ch35, ch35, ch23, ch35, ch35, ch35, ch35, ch35, ch35, ch35, ch35, ch35, ch35, ch35, ch35, ch35, ch35, ch35, ch35, ch35, ch35, ch35, ch35] at A367
    refine GoKit.aload G at_750 rfl rfl (pc' := 752) rfl ?_
    refine GoKit.bipush G (40 : Int32) at_752 rfl (pc' := 754) rfl ?_
    refine GoKit.iload G at_754 rfl (pc' := 756) rfl ?_
    refine GoKit.castI G at_756 A367 (i := 40) rfl (by decide) (Nat.le_of_ble_eq_true rfl) (nar16 H30) (List.Mem.head _) (pc' := 757) rfl (fun h371 W369 A370 => ?_)
    change IA Z h371 a236 .char [ch17, ch35, ch35, ch35, ch35, ch35, ch35, ch35, ch35, ch35, ch35, ch35, ch35, ch35, ch35, ch35, ch35, ch35, ch35, ch35, ch23, ch35, ch35, ch35, ch35, ch35, ch35, ch35, ch35, ch35, ch35, ch35, ch35, ch35, ch35, ch35, ch35, ch35, ch35, ch35, ch29] at A370
    have ha372 : ∀ c ∈ ([ch17, ch35, ch35, ch35, ch35, ch35, ch35, ch35, ch35, ch35, ch35, ch35, ch35, ch35, ch35, ch35, ch35, ch35, ch35, ch35, ch23, ch35, ch35, ch35, ch35, ch35, ch35, ch35, ch35, ch35, ch35, ch35, ch35, ch35, ch35, ch35, ch35, ch35, ch35, ch35, ch29] : List Int32), 0 ≤ c.toInt ∧ c.toInt < 65536 := by
      intro c hc
      simp only [List.mem_cons, List.not_mem_nil, or_false] at hc
      rcases hc with hc | hc | hc | hc | hc | hc | hc | hc | hc | hc | hc | hc | hc | hc | hc | hc | hc | hc | hc | hc | hc | hc | hc | hc | hc | hc | hc | hc | hc | hc | hc | hc | hc | hc | hc | hc | hc | hc | hc | hc | hc
      · rw [hc]; exact H18
      · rw [hc]; exact H36
      · rw [hc]; exact H36
      · rw [hc]; exact H36
      · rw [hc]; exact H36
      · rw [hc]; exact H36
      · rw [hc]; exact H36
      · rw [hc]; exact H36
      · rw [hc]; exact H36
      · rw [hc]; exact H36
      · rw [hc]; exact H36
      · rw [hc]; exact H36
      · rw [hc]; exact H36
      · rw [hc]; exact H36
      · rw [hc]; exact H36
      · rw [hc]; exact H36
      · rw [hc]; exact H36
      · rw [hc]; exact H36
      · rw [hc]; exact H36
      · rw [hc]; exact H36
      · rw [hc]; exact H24
      · rw [hc]; exact H36
      · rw [hc]; exact H36
      · rw [hc]; exact H36
      · rw [hc]; exact H36
      · rw [hc]; exact H36
      · rw [hc]; exact H36
      · rw [hc]; exact H36
      · rw [hc]; exact H36
      · rw [hc]; exact H36
      · rw [hc]; exact H36
      · rw [hc]; exact H36
      · rw [hc]; exact H36
      · rw [hc]; exact H36
      · rw [hc]; exact H36
      · rw [hc]; exact H36
      · rw [hc]; exact H36
      · rw [hc]; exact H36
      · rw [hc]; exact H36
      · rw [hc]; exact H36
      · rw [hc]; exact H30
    refine GoKit.iconst G (0 : Int32) at_757 rfl (pc' := 758) rfl ?_
    refine GoKit.istore G at_758 (Ls' := #[.val (.int p0), .val (.int p1), .val (.int p2), .val (.int p3), .val (.int p4), .val (.int ch17), .val (.int ch23), .val (.int ch29), .val (.int ch35), .val (.int (5 : Int32)), .val (.ref a236), .val (.int (0 : Int32))]) rfl (pc' := 760) rfl ?_
    refine Run.mono (cells' := 1) (slots' := 41) (by decide) (by decide) ?_
    refine Run.owless (ow' := []) (fun _ q => nomatch q) ?_
    exact J _ _ [ch17, ch35, ch35, ch35, ch35, ch35, ch35, ch35, ch35, ch35, ch35, ch35, ch35, ch35, ch35, ch35, ch35, ch35, ch35, ch35, ch23, ch35, ch35, ch35, ch35, ch35, ch35, ch35, ch35, ch35, ch35, ch35, ch35, ch35, ch35, ch35, ch35, ch35, ch35, ch35, ch29] _ _ _ _ _ _ A370 (by simp) (by simp) ha372 ((if_neg (fun q => absurd q.2.1 (by simp))).symm)
set_option maxRecDepth 65536 in
set_option maxHeartbeats 40000000 in
theorem comes_1 {Post : Tables → Env → Array Value → State → Outcome → State → Prop} (hpost : ∀ tb e args s v u, (limb_1_1.after args s (.returned v) u = true ∧ limb_1_2.after args s (.returned v) u = true ∧ True) → ReturnedEndW s (.returned v) u (Jvm.fieldLocs frame_1_writes args s ++ Jvm.arrayLocs frame_1_arrays args s ++ Jvm.staticLocs frame_1_statics s) 24 1472 → Post tb e args s (.returned v) u) :
    ArmFor flags0 classFile x code maxLocals ret World_1 tables_1 room_1 Calls_1 rest_1 Pre_1 Post := by
  intro l hfl _ _ p e ha hc hk s m args below hf hA hF happ hP
  obtain ⟨hcalls, hrest, hpre⟩ := hP
  obtain ⟨-, -, -, hnamed, -, -, -, hat⟩ := (Spec.applies_iff hf).mp happ
  obtain ⟨hg, hn⟩ := and_e (Cond.before_iff.mp (show (Jvm.Cond.and given_1 narrow_1).before args s = true from hpre))
  obtain ⟨gc, g0⟩ := and_e hg
  obtain ⟨t0, g1⟩ := and_e g0
  obtain ⟨t1, g2⟩ := and_e g1
  obtain ⟨t2, g3⟩ := and_e g2
  obtain ⟨t3, g4⟩ := and_e g3
  have t4 := g4
  obtain ⟨w0, w1, w2, w3, w4, rfl⟩ : ∃ w0 w1 w2 w3 w4 : Value, args = #[w0, w1, w2, w3, w4] := by
    have hs : args.size = 5 := by simpa [Cond.value, given_1] using gc
    obtain ⟨L⟩ := args
    match L, hs with
    | [w0, w1, w2, w3, w4], _ => exact ⟨w0, w1, w2, w3, w4, rfl⟩
  have hw := fun d (hd : d ∈ tables_1) => atoms_spec (ws := Jvm.Cond.code x code maxLocals ret :: tables_1) hat d (List.mem_cons_of_mem _ hd)
  have hfit : Fit s := fun {y c} hc i hi => by
    obtain ⟨ha, rfl⟩ := Array.getElem?_eq_some_iff.mp hc
    have q := List.all_eq_true.mp ((Array.all_eq_true_iff_forall_mem.mp hF) _ (Array.getElem_mem ha)) i (List.mem_range.mpr hi)
    simpa [Array.getElem?_eq_getElem hi] using q
  obtain ⟨hsets, hown0⟩ := atoms_of _ (rest_1_c_eq ▸ (show rest_1_c.before _ s = true from hrest))
  obtain ⟨i0, ei0⟩ := is_v t0
  obtain rfl : w0 = (.int i0) := Option.some.inj ei0
  obtain ⟨i1, ei1⟩ := is_v t1
  obtain rfl : w1 = (.int i1) := Option.some.inj ei1
  obtain ⟨i2, ei2⟩ := is_v t2
  obtain rfl : w2 = (.int i2) := Option.some.inj ei2
  obtain ⟨i3, ei3⟩ := is_v t3
  obtain rfl : w3 = (.int i3) := Option.some.inj ei3
  obtain ⟨i4, ei4⟩ := is_v t4
  obtain rfl : w4 = (.int i4) := Option.some.inj ei4
  have HC : Cst s := by
    obtain ⟨cz, ecz⟩ := is_v (Cond.before_iff.mp (hsets _ (List.mem_of_getElem? (i := 1) rfl)))
    refine ⟨cz, Sta.start ecz (Or.inl (hsets _ (List.mem_of_getElem? (i := 0) rfl))), fun q => ?_⟩
    have := Cond.before_iff.mp (hsets _ (List.mem_of_getElem? (i := 2) rfl))
    subst q
    simp [Cond.value, ecz, Term.int_eval] at this
  have HF : Frm s := by
    have q := Cond.before_iff.mp (hsets _ (List.mem_of_getElem? (i := 8) rfl))
    cases ev : (Term.static "jdk/internal/util/Preconditions" "SIOOBE_FORMATTER" "Ljava/util/function/BiFunction;").eval #[.int i0, .int i1, .int i2, .int i3, .int i4] s none [] s with
    | none => simp [Cond.value, ev] at q
    | some fv => exact ⟨fv, Sta.start ev (Or.inl (hsets _ (List.mem_of_getElem? (i := 7) rfl))), by cases fv <;> first | rfl | (simp [Cond.value, ev] at q)⟩
  have HU : Ust s := ⟨Sta.start (eqv_i (Term.int_eval 1) (Cond.before_iff.mp (hsets _ (List.mem_of_getElem? (i := 12) rfl)))) (Or.inl (hsets _ (List.mem_of_getElem? (i := 11) rfl))), Sta.start (eqv_i (Term.int_eval 0) (Cond.before_iff.mp (hsets _ (List.mem_of_getElem? (i := 15) rfl)))) (Or.inl (hsets _ (List.mem_of_getElem? (i := 14) rfl))), Sta.start (eqv_i (Term.int_eval 8) (Cond.before_iff.mp (hsets _ (List.mem_of_getElem? (i := 18) rfl)))) (Or.inl (hsets _ (List.mem_of_getElem? (i := 17) rfl)))⟩
  have hCH : CHv s ELs s.vm s.heap := CHv.start (hELs hw) (fun q hq => hcalls.1 q hq) (hsets _ (List.mem_of_getElem? (i := 2) rfl)) (wi hw 21 rfl) (wi hw 8 rfl)
  obtain ⟨n, o, h1, h2, h3, v, L, rfl, rfl, N, -, -, hE, hWd, -⟩ := (con_law l hw i0 i1 i2 i3 i4 HC HF HU) p e ha hc hk s m _ below hf ((Spec.applies_iff_loose hf).mp happ).1 ⟨rfl, State.Warmed39.refl s, rfl, Old.start s, hCH, all0⟩ trivial
  exact ⟨n, _, h1, h2, h3, hpost _ _ _ _ _ _ ⟨Cond.after_iff.mpr rfl, Cond.after_iff.mpr (eq_i res_at (Term.int_eval (1)) rfl), trivial⟩ ⟨hE.1, hE.2.1, hE.2.2.1, (hE.2.2.2.sift fun y hy => Or.inr (N y hy)).mono (by decide) (by decide)⟩⟩
theorem main_1_1 : Claimed_1_1 := comes_1 fun _ _ _ _ _ _ h hF => ⟨h.1, hF⟩
theorem main_1_2 : Claimed_1_2 := comes_1 fun _ _ _ _ _ _ h hF => ⟨h.2.1, hF⟩
end Jvm.Pilot.@@N@@
namespace Jvm.Pilot.@@N@@
open Jvm Jvm.ClassFile Sem Op Lib Jvm.Free Jvm.Stand Jvm.Pilot.@@N@@.Jvm.D
/-! MADE BY PROGRAM (witnessworld.py) out of the Statement's table words and the real class files: 20 classes; the members and pool entries that the words name. The judged class is class 1, her method 3. -/
namespace start1
open Jvm.ClassFile
def u (s : String) : CpInfo := .utf8 (stringToUtf16 s)
/-- a pool by its gaps: so many unusable entries, then the entry; so many at the end -/
def gap : Nat → List CpInfo → List CpInfo
  | 0, r => r
  | n + 1, r => .unusable :: gap n r
def poolList (es : List (Nat × CpInfo)) (last : Nat) : List CpInfo := es.foldr (fun e r => gap e.1 (e.2 :: r)) (gap last [])
def pool (es : List (Nat × CpInfo)) (last : Nat) : Array CpInfo := ⟨poolList es last⟩
def fileOf (pool : Array CpInfo) (this : Nat) (attrs : Array Attribute := #[]) (ms : Array MethodInfo := #[]) (fl : Nat := 33) (sup : Nat := 0) (ifs : Array Nat := #[]) (fds : Array FieldInfo := #[]) : ClassFile where
  minorVersion := 0
  majorVersion := 65
  constantPool := pool
  accessFlags := fl
  thisClass := this
  superClass := sup
  interfaces := ifs
  fields := fds
  methods := ms
  attributes := attrs
def plain (name : String) (sup : Option ClassId) : Class where
  name := name
  kind := .ordinary
  loader := none
  accessFlags := 33
  super := sup
  interfaces := #[]
  cf := none
  fields := #[]
  methods := #[]
  instanceTypes := #[]
  staticTypes := #[]
  resolved := #[]
  callSites := []
  init := .initialized
  statics := none
  mirror := none

def pool0 : Array CpInfo := pool [(5, u "<init>"), (0, u "()V"), (1, .class_ 10), (1, u "java/lang/Object")] 113

def k0c0 : Code := { maxStack := 0, maxLocals := 1, code := object_method_1_code, exceptionTable := #[], attributes := #[] }
def k0m0 : Method := { name := "<init>", desc := "()V", sig := { parameters := [], returnType := none }, accessFlags := 1, code := some k0c0 }
/-- java/lang/Object -/
def k0 : Class := { plain "java/lang/Object" none with
  accessFlags := 33
  interfaces := #[]
  cf := some (fileOf pool0 8 #[] #[{ accessFlags := 1, nameIndex := 5, descriptorIndex := 6, attributes := #[] }] 33 0 #[] #[])
  fields := #[]
  methods := #[k0m0]
  instanceTypes := #[]
  staticTypes := #[]
  resolved := Array.replicate 124 none
  statics := none }

def pool1 : Array CpInfo := pool [(2, .class_ 4), (1, u "java/lang/Object"), (0, u "<init>"), (0, u "()V"), (0, .integer 65535), (0, .methodref 9 10), (0, .class_ 11), (0, .nameAndType 12 13), (0, u "com/example/waymark/waymark/IdsIsIdPrefixPinLaw"), (0, u "ch"), (0, u "(I)C"), (0, .integer 2147483647), (0, .methodref 9 16), (0, .nameAndType 17 18), (0, u "hex"), (0, u "(C)Z"), (0, .class_ 20), (0, u "java/lang/String"), (0, .methodref 19 22), (0, .nameAndType 5 23), (0, u "([C)V"), (0, .methodref 25 26), (0, .class_ 27), (0, .nameAndType 28 29), (0, u "com/example/waymark/waymark/Ids"), (0, u "isIdPrefix"), (0, u "(Ljava/lang/String;)Z"), (3, u "law"), (0, u "(IIIII)Z")] 4

def k1m0 : Method := { name := "<init>", desc := "()V", sig := { parameters := [], returnType := none }, accessFlags := 2, code := none }
def k1c1 : Code := { maxStack := 3, maxLocals := 1, code := method_2_code, exceptionTable := #[], attributes := #[] }
def k1m1 : Method := { name := "ch", desc := "(I)C", sig := { parameters := [.int], returnType := some .char }, accessFlags := 10, code := some k1c1 }
def k1c2 : Code := { maxStack := 2, maxLocals := 1, code := method_3_code, exceptionTable := #[], attributes := #[] }
def k1m2 : Method := { name := "hex", desc := "(C)Z", sig := { parameters := [.char], returnType := some .boolean }, accessFlags := 10, code := some k1c2 }
def k1c3 : Code := { maxStack := 4, maxLocals := 12, code := code, exceptionTable := #[], attributes := #[] }
def k1m3 : Method := { name := "law", desc := "(IIIII)Z", sig := { parameters := [.int, .int, .int, .int, .int], returnType := some .boolean }, accessFlags := 9, code := some k1c3 }
/-- com/example/waymark/waymark/IdsIsIdPrefixPinLaw -/
def k1 : Class := { plain "com/example/waymark/waymark/IdsIsIdPrefixPinLaw" (some 0) with
  accessFlags := 49
  interfaces := #[]
  cf := some (fileOf pool1 9 #[] #[{ accessFlags := 2, nameIndex := 5, descriptorIndex := 6, attributes := #[] }, { accessFlags := 10, nameIndex := 12, descriptorIndex := 13, attributes := #[] }, { accessFlags := 10, nameIndex := 17, descriptorIndex := 18, attributes := #[] }, { accessFlags := 9, nameIndex := 33, descriptorIndex := 34, attributes := #[] }] 49 2 #[] #[])
  fields := #[]
  methods := #[k1m0, k1m1, k1m2, k1m3]
  instanceTypes := #[]
  staticTypes := #[]
  resolved := Array.replicate 39 none
  statics := none }

def pool2 : Array CpInfo := pool [(1, .class_ 2), (0, u "java/io/Serializable"), (0, .class_ 4), (0, u "java/lang/Object")] 2

/-- java/io/Serializable -/
def k2 : Class := { plain "java/io/Serializable" (some 0) with
  accessFlags := 1537
  interfaces := #[]
  cf := some (fileOf pool2 1 #[] #[] 1537 3 #[] #[])
  fields := #[]
  methods := #[]
  instanceTypes := #[]
  staticTypes := #[]
  resolved := Array.replicate 7 none
  statics := none }

def pool3 : Array CpInfo := pool [(1, .class_ 2), (0, u "java/lang/Comparable"), (0, .class_ 4), (0, u "java/lang/Object")] 7

/-- java/lang/Comparable -/
def k3 : Class := { plain "java/lang/Comparable" (some 0) with
  accessFlags := 1537
  interfaces := #[]
  cf := some (fileOf pool3 1 #[] #[] 1537 3 #[] #[])
  fields := #[]
  methods := #[]
  instanceTypes := #[]
  staticTypes := #[]
  resolved := Array.replicate 12 none
  statics := none }

def pool4 : Array CpInfo := pool [(2, .class_ 4), (1, u "java/lang/CharSequence"), (42, .class_ 48), (0, u "java/lang/CharSequence$1CodePointIterator"), (10, .class_ 60), (0, u "java/lang/CharSequence$1CharIterator"), (5, .class_ 67), (0, u "java/lang/Object")] 63

/-- java/lang/CharSequence -/
def k4 : Class := { plain "java/lang/CharSequence" (some 0) with
  accessFlags := 1537
  interfaces := #[]
  cf := some (fileOf pool4 2 #[.nestMembers #[47, 59]] #[] 1537 66 #[] #[])
  fields := #[]
  methods := #[]
  instanceTypes := #[]
  staticTypes := #[]
  resolved := Array.replicate 131 none
  statics := none }

def pool5 : Array CpInfo := pool [(1, .class_ 2), (0, u "java/lang/constant/Constable"), (0, .class_ 4), (0, u "java/lang/Object")] 6

/-- java/lang/constant/Constable -/
def k5 : Class := { plain "java/lang/constant/Constable" (some 0) with
  accessFlags := 1537
  interfaces := #[]
  cf := some (fileOf pool5 1 #[] #[] 1537 3 #[] #[])
  fields := #[]
  methods := #[]
  instanceTypes := #[]
  staticTypes := #[]
  resolved := Array.replicate 11 none
  statics := none }

def pool6 : Array CpInfo := pool [(1, .class_ 2), (0, u "java/lang/constant/ConstantDesc"), (0, .class_ 4), (0, u "java/lang/Object")] 32

/-- java/lang/constant/ConstantDesc -/
def k6 : Class := { plain "java/lang/constant/ConstantDesc" (some 0) with
  accessFlags := 1537
  interfaces := #[]
  cf := some (fileOf pool6 1 #[] #[] 1537 3 #[] #[])
  fields := #[]
  methods := #[]
  instanceTypes := #[]
  staticTypes := #[]
  resolved := Array.replicate 37 none
  statics := none }

def pool7 : Array CpInfo := pool [(1, .methodref 2 3), (0, .class_ 4), (0, .nameAndType 5 6), (0, u "java/lang/Object"), (0, u "<init>"), (0, u "()V"), (0, .string 8), (0, u ""), (0, .fieldref 10 11), (0, .class_ 12), (0, .nameAndType 13 14), (0, u "java/lang/String"), (0, u "value"), (0, u "[B"), (0, .fieldref 10 16), (0, .nameAndType 17 18), (0, u "coder"), (0, u "B"), (2, u "hash"), (0, u "I"), (2, u "hashIsZero"), (0, u "Z"), (0, .methodref 10 28), (0, .nameAndType 5 29), (0, u "([CIILjava/lang/Void;)V"), (8, .fieldref 10 39), (0, .nameAndType 40 26), (0, u "COMPACT_STRINGS"), (1, .class_ 44), (1, u "java/lang/StringUTF16"), (0, u "compress"), (1, .methodref 42 48), (0, .nameAndType 49 50), (0, u "coderFromArrayLen"), (0, u "([BI)B"), (56, .class_ 109), (1, u "java/lang/StringLatin1"), (32, u "()Z"), (34, .methodref 42 178), (0, .nameAndType 45 179), (0, u "([CII)[B"), (154, u "()I"), (0, .methodref 10 336), (0, .nameAndType 17 337), (0, u "()B"), (25, u "([BI)C"), (27, u "(II)V"), (35, u "(I)C"), (64, .methodref 10 493), (0, .nameAndType 494 142), (0, u "isLatin1"), (0, .methodref 107 496), (0, .nameAndType 497 363), (0, u "charAt"), (0, .methodref 42 496), (2, u "checkIndex"), (5, u "length"), (67, .class_ 576), (0, u "java/lang/CharSequence"), (22, u "CASE_INSENSITIVE_ORDER"), (0, u "Ljava/util/Comparator;"), (91, u "isEmpty"), (317, u "([C)V"), (42, .fieldref 1054 1055), (0, .class_ 1056), (0, .nameAndType 1057 1058), (0, u "jdk/internal/util/Preconditions"), (0, u "SIOOBE_FORMATTER"), (0, u "Ljava/util/function/BiFunction;"), (0, .methodref 1054 1060), (0, .nameAndType 501 1061), (0, u "(IILjava/util/function/BiFunction;)I"), (39, u "serialPersistentFields"), (0, u "[Ljava/io/ObjectStreamField;"), (0, .class_ 1104), (0, u "java/lang/String$CaseInsensitiveComparator"), (1, .class_ 1107), (0, u "java/io/Serializable"), (0, .class_ 1109), (0, u "java/lang/Comparable"), (0, .class_ 1111), (0, u "java/lang/constant/Constable"), (0, .class_ 1113), (0, u "java/lang/constant/ConstantDesc"), (2, u "serialVersionUID"), (0, u "J"), (3, u "REPL"), (0, u "C"), (2, u "LATIN1"), (1, u "UTF16")] 323

def k7m0 : Method := { name := "<init>", desc := "()V", sig := { parameters := [], returnType := none }, accessFlags := 1, code := none }
def k7c1 : Code := { maxStack := 5, maxLocals := 2, code := jdk_42_method_3_code, exceptionTable := #[], attributes := #[] }
def k7m1 : Method := { name := "<init>", desc := "([C)V", sig := { parameters := [(.array .char)], returnType := none }, accessFlags := 1, code := some k7c1 }
def k7c2 : Code := { maxStack := 2, maxLocals := 1, code := jdk_42_method_54_code, exceptionTable := #[], attributes := #[] }
def k7m2 : Method := { name := "length", desc := "()I", sig := { parameters := [], returnType := some .int }, accessFlags := 1, code := some k7c2 }
def k7c3 : Code := { maxStack := 1, maxLocals := 1, code := jdk_42_method_55_code, exceptionTable := #[], attributes := #[] }
def k7m3 : Method := { name := "isEmpty", desc := "()Z", sig := { parameters := [], returnType := some .boolean }, accessFlags := 1, code := some k7c3 }
def k7c4 : Code := { maxStack := 2, maxLocals := 2, code := jdk_42_method_56_code, exceptionTable := #[], attributes := #[] }
def k7m4 : Method := { name := "charAt", desc := "(I)C", sig := { parameters := [.int], returnType := some .char }, accessFlags := 1, code := some k7c4 }
def k7c5 : Code := { maxStack := 4, maxLocals := 6, code := jdk_42_method_149_code, exceptionTable := #[], attributes := #[] }
def k7m5 : Method := { name := "<init>", desc := "([CIILjava/lang/Void;)V", sig := { parameters := [(.array .char), .int, .int, (.object "java/lang/Void")], returnType := none }, accessFlags := 2, code := some k7c5 }
def k7c6 : Code := { maxStack := 1, maxLocals := 1, code := jdk_42_method_152_code, exceptionTable := #[], attributes := #[] }
def k7m6 : Method := { name := "coder", desc := "()B", sig := { parameters := [], returnType := some .byte }, accessFlags := 0, code := some k7c6 }
def k7c7 : Code := { maxStack := 1, maxLocals := 1, code := jdk_42_method_154_code, exceptionTable := #[], attributes := #[] }
def k7m7 : Method := { name := "isLatin1", desc := "()Z", sig := { parameters := [], returnType := some .boolean }, accessFlags := 0, code := some k7c7 }
def k7c8 : Code := { maxStack := 3, maxLocals := 2, code := jdk_42_method_155_code, exceptionTable := #[], attributes := #[] }
def k7m8 : Method := { name := "checkIndex", desc := "(II)V", sig := { parameters := [.int, .int], returnType := none }, accessFlags := 8, code := some k7c8 }
/-- java/lang/String -/
def k7 : Class := { plain "java/lang/String" (some 0) with
  accessFlags := 49
  interfaces := #[2, 3, 4, 5, 6]
  cf := some (fileOf pool7 10 #[.nestMembers #[1103]] #[{ accessFlags := 1, nameIndex := 5, descriptorIndex := 6, attributes := #[] }, { accessFlags := 1, nameIndex := 5, descriptorIndex := 1010, attributes := #[] }, { accessFlags := 1, nameIndex := 507, descriptorIndex := 334, attributes := #[] }, { accessFlags := 1, nameIndex := 692, descriptorIndex := 142, attributes := #[] }, { accessFlags := 1, nameIndex := 497, descriptorIndex := 427, attributes := #[] }, { accessFlags := 2, nameIndex := 5, descriptorIndex := 29, attributes := #[] }, { accessFlags := 0, nameIndex := 17, descriptorIndex := 337, attributes := #[] }, { accessFlags := 0, nameIndex := 494, descriptorIndex := 142, attributes := #[] }, { accessFlags := 8, nameIndex := 501, descriptorIndex := 391, attributes := #[] }] 49 2 #[1106, 1108, 575, 1110, 1112] #[{ accessFlags := 18, nameIndex := 13, descriptorIndex := 14, attributes := #[] }, { accessFlags := 18, nameIndex := 17, descriptorIndex := 18, attributes := #[] }, { accessFlags := 2, nameIndex := 21, descriptorIndex := 22, attributes := #[] }, { accessFlags := 2, nameIndex := 25, descriptorIndex := 26, attributes := #[] }, { accessFlags := 26, nameIndex := 1116, descriptorIndex := 1117, attributes := #[] }, { accessFlags := 24, nameIndex := 40, descriptorIndex := 26, attributes := #[] }, { accessFlags := 26, nameIndex := 1101, descriptorIndex := 1102, attributes := #[] }, { accessFlags := 26, nameIndex := 1121, descriptorIndex := 1122, attributes := #[] }, { accessFlags := 25, nameIndex := 599, descriptorIndex := 600, attributes := #[] }, { accessFlags := 24, nameIndex := 1125, descriptorIndex := 18, attributes := #[] }, { accessFlags := 24, nameIndex := 1127, descriptorIndex := 18, attributes := #[] }])
  fields := #[{ name := "value", type := (.array .byte), accessFlags := 18, slot := 0, constantValue := 0 }, { name := "coder", type := .byte, accessFlags := 18, slot := 1, constantValue := 0 }, { name := "hash", type := .int, accessFlags := 2, slot := 2, constantValue := 0 }, { name := "hashIsZero", type := .boolean, accessFlags := 2, slot := 3, constantValue := 0 }, { name := "serialVersionUID", type := .long, accessFlags := 26, slot := 0, constantValue := 0 }, { name := "COMPACT_STRINGS", type := .boolean, accessFlags := 24, slot := 1, constantValue := 0 }, { name := "serialPersistentFields", type := (.array (.object "java/io/ObjectStreamField")), accessFlags := 26, slot := 2, constantValue := 0 }, { name := "REPL", type := .char, accessFlags := 26, slot := 3, constantValue := 0 }, { name := "CASE_INSENSITIVE_ORDER", type := (.object "java/util/Comparator"), accessFlags := 25, slot := 4, constantValue := 0 }, { name := "LATIN1", type := .byte, accessFlags := 24, slot := 5, constantValue := 0 }, { name := "UTF16", type := .byte, accessFlags := 24, slot := 6, constantValue := 0 }]
  methods := #[k7m0, k7m1, k7m2, k7m3, k7m4, k7m5, k7m6, k7m7, k7m8]
  instanceTypes := #[(.array .byte), .byte, .int, .boolean]
  staticTypes := #[.long, .boolean, (.array (.object "java/io/ObjectStreamField")), .char, (.object "java/util/Comparator"), .byte, .byte]
  resolved := Array.replicate 1451 none
  statics := some 0 }

def pool8 : Array CpInfo := pool [(2, .class_ 4), (1, u "java/lang/Object"), (0, u "<init>"), (0, u "()V"), (1, .class_ 10), (1, u "com/example/waymark/waymark/Ids"), (13, .class_ 26), (1, u "com/example/waymark/waymark/Ids$Sha1"), (19, .class_ 48), (1, u "java/lang/String"), (19, .methodref 46 69), (0, .nameAndType 70 71), (0, u "length"), (0, u "()I"), (2, u "isIdPrefix"), (0, u "(Ljava/lang/String;)Z"), (0, .methodref 46 77), (0, .nameAndType 78 79), (0, u "isEmpty"), (0, u "()Z"), (0, .methodref 46 81), (0, .nameAndType 82 83), (0, u "charAt"), (0, u "(I)C"), (0, u "COMMIT"), (0, u "Ljava/lang/String;"), (3, u "BLOB"), (2, u "DIGITS"), (0, u "I")] 11

def k8m0 : Method := { name := "<init>", desc := "()V", sig := { parameters := [], returnType := none }, accessFlags := 2, code := none }
def k8c1 : Code := { maxStack := 2, maxLocals := 3, code := prog_10_method_6_code, exceptionTable := #[], attributes := #[] }
def k8m1 : Method := { name := "isIdPrefix", desc := "(Ljava/lang/String;)Z", sig := { parameters := [(.object "java/lang/String")], returnType := some .boolean }, accessFlags := 8, code := some k8c1 }
/-- com/example/waymark/waymark/Ids -/
def k8 : Class := { plain "com/example/waymark/waymark/Ids" (some 0) with
  accessFlags := 48
  interfaces := #[]
  cf := some (fileOf pool8 8 #[.nestMembers #[24]] #[{ accessFlags := 2, nameIndex := 5, descriptorIndex := 6, attributes := #[] }, { accessFlags := 8, nameIndex := 74, descriptorIndex := 75, attributes := #[] }] 48 2 #[] #[{ accessFlags := 24, nameIndex := 84, descriptorIndex := 85, attributes := #[] }, { accessFlags := 24, nameIndex := 89, descriptorIndex := 85, attributes := #[] }, { accessFlags := 26, nameIndex := 92, descriptorIndex := 93, attributes := #[] }])
  fields := #[{ name := "COMMIT", type := (.object "java/lang/String"), accessFlags := 24, slot := 0, constantValue := 0 }, { name := "BLOB", type := (.object "java/lang/String"), accessFlags := 24, slot := 1, constantValue := 0 }, { name := "DIGITS", type := .int, accessFlags := 26, slot := 2, constantValue := 0 }]
  methods := #[k8m0, k8m1]
  instanceTypes := #[]
  staticTypes := #[(.object "java/lang/String"), (.object "java/lang/String"), .int]
  resolved := Array.replicate 105 none
  statics := none }

def pool9 : Array CpInfo := pool [(3, .class_ 4), (0, u "java/lang/String"), (1, .class_ 8), (1, u "java/lang/Object"), (0, u "<init>"), (0, u "()V"), (0, .methodref 12 13), (0, .class_ 14), (0, .nameAndType 15 16), (0, u "java/lang/StringUTF16"), (0, u "newBytesLength"), (0, u "(I)I"), (3, .integer 1073741823), (23, .fieldref 12 45), (0, .nameAndType 46 47), (0, u "$assertionsDisabled"), (0, u "Z"), (0, .methodref 12 49), (0, .nameAndType 50 51), (0, u "length"), (0, u "([B)I"), (7, .fieldref 12 60), (0, .nameAndType 61 62), (0, u "HI_BYTE_SHIFT"), (0, u "I"), (0, .fieldref 12 64), (0, .nameAndType 65 62), (0, u "LO_BYTE_SHIFT"), (1, .methodref 12 68), (0, .nameAndType 69 70), (0, u "checkIndex"), (0, u "(I[B)V"), (0, .methodref 12 72), (0, .nameAndType 73 74), (0, u "getChar"), (0, u "([BI)C"), (32, .methodref 12 108), (0, .nameAndType 109 110), (0, u "newBytesFor"), (0, u "(I)[B"), (0, .methodref 12 112), (0, .nameAndType 113 114), (0, u "putChar"), (0, u "([BII)V"), (0, .methodref 12 116), (0, .nameAndType 117 118), (0, u "compress"), (0, u "([CI[BII)I"), (0, .methodref 12 120), (0, .nameAndType 121 122), (0, u "toBytes"), (0, u "([CII)[B"), (138, u "coderFromArrayLen"), (0, u "([BI)B"), (106, .class_ 371), (1, u "java/lang/StringUTF16$LinesSpliterator"), (20, u "charAt"), (21, .methodref 3 415), (0, .nameAndType 69 416), (0, u "(II)V"), (13, u "MAX_LENGTH"), (196, .class_ 628), (0, u "java/lang/StringUTF16$CodePointsSpliterator"), (0, .class_ 630), (0, u "java/lang/StringUTF16$CharsSpliterator")] 4

def k9m0 : Method := { name := "<init>", desc := "()V", sig := { parameters := [], returnType := none }, accessFlags := 0, code := none }
def k9c1 : Code := { maxStack := 1, maxLocals := 1, code := jdk_52_method_2_code, exceptionTable := #[], attributes := #[] }
def k9m1 : Method := { name := "newBytesFor", desc := "(I)[B", sig := { parameters := [.int], returnType := some (.array .byte) }, accessFlags := 9, code := some k9c1 }
def k9c2 : Code := { maxStack := 4, maxLocals := 1, code := jdk_52_method_3_code, exceptionTable := #[], attributes := #[] }
def k9m2 : Method := { name := "newBytesLength", desc := "(I)I", sig := { parameters := [.int], returnType := some .int }, accessFlags := 9, code := some k9c2 }
def k9c3 : Code := { maxStack := 4, maxLocals := 3, code := jdk_52_method_4_code, exceptionTable := #[], attributes := #[] }
def k9m3 : Method := { name := "putChar", desc := "([BII)V", sig := { parameters := [(.array .byte), .int, .int], returnType := none }, accessFlags := 8, code := some k9c3 }
def k9c4 : Code := { maxStack := 3, maxLocals := 2, code := jdk_52_method_5_code, exceptionTable := #[], attributes := #[] }
def k9m4 : Method := { name := "getChar", desc := "([BI)C", sig := { parameters := [(.array .byte), .int], returnType := some .char }, accessFlags := 8, code := some k9c4 }
def k9c5 : Code := { maxStack := 2, maxLocals := 1, code := jdk_52_method_6_code, exceptionTable := #[], attributes := #[] }
def k9m5 : Method := { name := "length", desc := "([B)I", sig := { parameters := [(.array .byte)], returnType := some .int }, accessFlags := 9, code := some k9c5 }
def k9c6 : Code := { maxStack := 4, maxLocals := 5, code := jdk_52_method_14_code, exceptionTable := #[], attributes := #[] }
def k9m6 : Method := { name := "toBytes", desc := "([CII)[B", sig := { parameters := [(.array .char), .int, .int], returnType := some (.array .byte) }, accessFlags := 9, code := some k9c6 }
def k9c7 : Code := { maxStack := 2, maxLocals := 2, code := jdk_52_method_15_code, exceptionTable := #[], attributes := #[] }
def k9m7 : Method := { name := "coderFromArrayLen", desc := "([BI)B", sig := { parameters := [(.array .byte), .int], returnType := some .byte }, accessFlags := 8, code := some k9c7 }
def k9c8 : Code := { maxStack := 5, maxLocals := 6, code := jdk_52_method_16_code, exceptionTable := #[], attributes := #[] }
def k9m8 : Method := { name := "compress", desc := "([CII)[B", sig := { parameters := [(.array .char), .int, .int], returnType := some (.array .byte) }, accessFlags := 9, code := some k9c8 }
def k9c9 : Code := { maxStack := 3, maxLocals := 7, code := jdk_52_method_21_code, exceptionTable := #[], attributes := #[] }
def k9m9 : Method := { name := "compress", desc := "([CI[BII)I", sig := { parameters := [(.array .char), .int, (.array .byte), .int, .int], returnType := some .int }, accessFlags := 9, code := some k9c9 }
def k9c10 : Code := { maxStack := 2, maxLocals := 2, code := jdk_52_method_83_code, exceptionTable := #[], attributes := #[] }
def k9m10 : Method := { name := "charAt", desc := "([BI)C", sig := { parameters := [(.array .byte), .int], returnType := some .char }, accessFlags := 9, code := some k9c10 }
def k9c11 : Code := { maxStack := 2, maxLocals := 2, code := jdk_52_method_91_code, exceptionTable := #[], attributes := #[] }
def k9m11 : Method := { name := "checkIndex", desc := "(I[B)V", sig := { parameters := [.int, (.array .byte)], returnType := none }, accessFlags := 9, code := some k9c11 }
/-- java/lang/StringUTF16 -/
def k9 : Class := { plain "java/lang/StringUTF16" (some 0) with
  accessFlags := 48
  interfaces := #[]
  cf := some (fileOf pool9 12 #[.nestMembers #[627, 629, 369]] #[{ accessFlags := 0, nameIndex := 9, descriptorIndex := 10, attributes := #[] }, { accessFlags := 9, nameIndex := 109, descriptorIndex := 110, attributes := #[] }, { accessFlags := 9, nameIndex := 15, descriptorIndex := 16, attributes := #[] }, { accessFlags := 8, nameIndex := 113, descriptorIndex := 114, attributes := #[] }, { accessFlags := 8, nameIndex := 73, descriptorIndex := 74, attributes := #[] }, { accessFlags := 9, nameIndex := 50, descriptorIndex := 51, attributes := #[] }, { accessFlags := 9, nameIndex := 121, descriptorIndex := 122, attributes := #[] }, { accessFlags := 8, nameIndex := 261, descriptorIndex := 262, attributes := #[] }, { accessFlags := 9, nameIndex := 117, descriptorIndex := 122, attributes := #[] }, { accessFlags := 9, nameIndex := 117, descriptorIndex := 118, attributes := #[] }, { accessFlags := 9, nameIndex := 392, descriptorIndex := 74, attributes := #[] }, { accessFlags := 9, nameIndex := 69, descriptorIndex := 70, attributes := #[] }] 48 6 #[] #[{ accessFlags := 26, nameIndex := 61, descriptorIndex := 62, attributes := #[] }, { accessFlags := 26, nameIndex := 65, descriptorIndex := 62, attributes := #[] }, { accessFlags := 24, nameIndex := 430, descriptorIndex := 62, attributes := #[] }, { accessFlags := 4120, nameIndex := 46, descriptorIndex := 47, attributes := #[] }])
  fields := #[{ name := "HI_BYTE_SHIFT", type := .int, accessFlags := 26, slot := 0, constantValue := 0 }, { name := "LO_BYTE_SHIFT", type := .int, accessFlags := 26, slot := 1, constantValue := 0 }, { name := "MAX_LENGTH", type := .int, accessFlags := 24, slot := 2, constantValue := 0 }, { name := "$assertionsDisabled", type := .boolean, accessFlags := 4120, slot := 3, constantValue := 0 }]
  methods := #[k9m0, k9m1, k9m2, k9m3, k9m4, k9m5, k9m6, k9m7, k9m8, k9m9, k9m10, k9m11]
  instanceTypes := #[]
  staticTypes := #[.int, .int, .int, .boolean]
  resolved := Array.replicate 635 none
  statics := some 1 }

def pool10 : Array CpInfo := pool [(1, .class_ 2), (0, u "java/lang/String"), (1, .class_ 6), (1, u "java/lang/Object"), (0, u "<init>"), (0, u "()V"), (0, .methodref 1 10), (0, .nameAndType 11 12), (0, u "checkIndex"), (0, u "(II)V"), (1, .class_ 16), (1, u "java/lang/StringLatin1"), (36, u "([BI)C"), (67, u "$assertionsDisabled"), (0, u "Z"), (98, .class_ 223), (1, u "java/lang/StringLatin1$LinesSpliterator"), (28, u "charAt"), (137, .class_ 391), (0, u "java/lang/StringLatin1$CharsSpliterator")] 3

def k10m0 : Method := { name := "<init>", desc := "()V", sig := { parameters := [], returnType := none }, accessFlags := 0, code := none }
def k10c1 : Code := { maxStack := 2, maxLocals := 2, code := jdk_43_method_2_code, exceptionTable := #[], attributes := #[] }
def k10m1 : Method := { name := "charAt", desc := "([BI)C", sig := { parameters := [(.array .byte), .int], returnType := some .char }, accessFlags := 9, code := some k10c1 }
/-- java/lang/StringLatin1 -/
def k10 : Class := { plain "java/lang/StringLatin1" (some 0) with
  accessFlags := 48
  interfaces := #[]
  cf := some (fileOf pool10 14 #[.nestMembers #[390, 221]] #[{ accessFlags := 0, nameIndex := 7, descriptorIndex := 8, attributes := #[] }, { accessFlags := 9, nameIndex := 252, descriptorIndex := 53, attributes := #[] }] 48 4 #[] #[{ accessFlags := 4120, nameIndex := 121, descriptorIndex := 122, attributes := #[] }])
  fields := #[{ name := "$assertionsDisabled", type := .boolean, accessFlags := 4120, slot := 0, constantValue := 0 }]
  methods := #[k10m0, k10m1]
  instanceTypes := #[]
  staticTypes := #[.boolean]
  resolved := Array.replicate 395 none
  statics := none }

def pool11 : Array CpInfo := pool [(2, .class_ 4), (1, u "java/lang/Object"), (0, u "<init>"), (0, u "()V"), (17, .class_ 26), (1, u "jdk/internal/util/Preconditions"), (6, u "checkIndex"), (21, .class_ 56), (0, u "jdk/internal/util/Preconditions$4"), (57, .class_ 115), (0, u "jdk/internal/util/Preconditions$1"), (7, u "SIOOBE_FORMATTER"), (0, u "Ljava/util/function/BiFunction;"), (0, .class_ 126), (0, u "jdk/internal/util/Preconditions$2"), (3, u "AIOOBE_FORMATTER"), (0, .class_ 132), (0, u "jdk/internal/util/Preconditions$3"), (3, u "IOOBE_FORMATTER"), (41, u "(IILjava/util/function/BiFunction;)I")] 15

def k11m0 : Method := { name := "<init>", desc := "()V", sig := { parameters := [], returnType := none }, accessFlags := 1, code := none }
def k11c1 : Code := { maxStack := 3, maxLocals := 3, code := jdk_41_method_11_code, exceptionTable := #[], attributes := #[] }
def k11m1 : Method := { name := "checkIndex", desc := "(IILjava/util/function/BiFunction;)I", sig := { parameters := [.int, .int, (.object "java/util/function/BiFunction")], returnType := some .int }, accessFlags := 9, code := some k11c1 }
/-- jdk/internal/util/Preconditions -/
def k11 : Class := { plain "jdk/internal/util/Preconditions" (some 0) with
  accessFlags := 33
  interfaces := #[]
  cf := some (fileOf pool11 24 #[.nestMembers #[55, 131, 125, 114]] #[{ accessFlags := 1, nameIndex := 5, descriptorIndex := 6, attributes := #[] }, { accessFlags := 9, nameIndex := 33, descriptorIndex := 178, attributes := #[] }] 33 2 #[] #[{ accessFlags := 25, nameIndex := 123, descriptorIndex := 124, attributes := #[] }, { accessFlags := 25, nameIndex := 130, descriptorIndex := 124, attributes := #[] }, { accessFlags := 25, nameIndex := 136, descriptorIndex := 124, attributes := #[] }])
  fields := #[{ name := "SIOOBE_FORMATTER", type := (.object "java/util/function/BiFunction"), accessFlags := 25, slot := 0, constantValue := 0 }, { name := "AIOOBE_FORMATTER", type := (.object "java/util/function/BiFunction"), accessFlags := 25, slot := 1, constantValue := 0 }, { name := "IOOBE_FORMATTER", type := (.object "java/util/function/BiFunction"), accessFlags := 25, slot := 2, constantValue := 0 }]
  methods := #[k11m0, k11m1]
  instanceTypes := #[]
  staticTypes := #[(.object "java/util/function/BiFunction"), (.object "java/util/function/BiFunction"), (.object "java/util/function/BiFunction")]
  resolved := Array.replicate 194 none
  statics := some 2 }

def pool12 : Array CpInfo := pool [(9, u "<init>"), (6, .class_ 18), (1, u "java/lang/Object"), (0, u "()V"), (1, .class_ 23), (1, u "jdk/internal/util/ArraysSupport"), (0, u "LOG2_ARRAY_LONG_INDEX_SCALE"), (0, u "I"), (2, u "U"), (0, u "Ljdk/internal/misc/Unsafe;"), (8, u "BIG_ENDIAN"), (0, u "Z"), (8, u "LOG2_BYTE_BIT_SIZE"), (4, u "LOG2_ARRAY_INT_INDEX_SCALE"), (54, u "JLA"), (0, u "Ljdk/internal/access/JavaLangAccess;"), (11, u "LOG2_ARRAY_BOOLEAN_INDEX_SCALE"), (9, u "LOG2_ARRAY_BYTE_INDEX_SCALE"), (5, u "LOG2_ARRAY_CHAR_INDEX_SCALE"), (5, u "LOG2_ARRAY_SHORT_INDEX_SCALE"), (18, u "LOG2_ARRAY_FLOAT_INDEX_SCALE"), (24, u "LOG2_ARRAY_DOUBLE_INDEX_SCALE"), (89, u "T_BOOLEAN"), (2, u "T_CHAR"), (1, u "T_FLOAT"), (1, u "T_DOUBLE"), (1, u "T_BYTE"), (1, u "T_SHORT"), (1, u "T_INT"), (1, u "T_LONG"), (1, u "SOFT_MAX_ARRAY_LENGTH")] 83

def k12m0 : Method := { name := "<init>", desc := "()V", sig := { parameters := [], returnType := none }, accessFlags := 2, code := none }
/-- jdk/internal/util/ArraysSupport -/
def k12 : Class := { plain "jdk/internal/util/ArraysSupport" (some 0) with
  accessFlags := 33
  interfaces := #[]
  cf := some (fileOf pool12 21 #[] #[{ accessFlags := 2, nameIndex := 9, descriptorIndex := 19, attributes := #[] }] 33 16 #[] #[{ accessFlags := 24, nameIndex := 28, descriptorIndex := 29, attributes := #[] }, { accessFlags := 26, nameIndex := 38, descriptorIndex := 39, attributes := #[] }, { accessFlags := 25, nameIndex := 121, descriptorIndex := 25, attributes := #[] }, { accessFlags := 25, nameIndex := 131, descriptorIndex := 25, attributes := #[] }, { accessFlags := 25, nameIndex := 137, descriptorIndex := 25, attributes := #[] }, { accessFlags := 25, nameIndex := 143, descriptorIndex := 25, attributes := #[] }, { accessFlags := 25, nameIndex := 53, descriptorIndex := 25, attributes := #[] }, { accessFlags := 25, nameIndex := 24, descriptorIndex := 25, attributes := #[] }, { accessFlags := 25, nameIndex := 162, descriptorIndex := 25, attributes := #[] }, { accessFlags := 25, nameIndex := 187, descriptorIndex := 25, attributes := #[] }, { accessFlags := 26, nameIndex := 48, descriptorIndex := 25, attributes := #[] }, { accessFlags := 25, nameIndex := 277, descriptorIndex := 25, attributes := #[] }, { accessFlags := 25, nameIndex := 280, descriptorIndex := 25, attributes := #[] }, { accessFlags := 25, nameIndex := 282, descriptorIndex := 25, attributes := #[] }, { accessFlags := 25, nameIndex := 284, descriptorIndex := 25, attributes := #[] }, { accessFlags := 25, nameIndex := 286, descriptorIndex := 25, attributes := #[] }, { accessFlags := 25, nameIndex := 288, descriptorIndex := 25, attributes := #[] }, { accessFlags := 25, nameIndex := 290, descriptorIndex := 25, attributes := #[] }, { accessFlags := 25, nameIndex := 292, descriptorIndex := 25, attributes := #[] }, { accessFlags := 26, nameIndex := 108, descriptorIndex := 109, attributes := #[] }, { accessFlags := 25, nameIndex := 294, descriptorIndex := 25, attributes := #[] }])
  fields := #[{ name := "U", type := (.object "jdk/internal/misc/Unsafe"), accessFlags := 24, slot := 0, constantValue := 0 }, { name := "BIG_ENDIAN", type := .boolean, accessFlags := 26, slot := 1, constantValue := 0 }, { name := "LOG2_ARRAY_BOOLEAN_INDEX_SCALE", type := .int, accessFlags := 25, slot := 2, constantValue := 0 }, { name := "LOG2_ARRAY_BYTE_INDEX_SCALE", type := .int, accessFlags := 25, slot := 3, constantValue := 0 }, { name := "LOG2_ARRAY_CHAR_INDEX_SCALE", type := .int, accessFlags := 25, slot := 4, constantValue := 0 }, { name := "LOG2_ARRAY_SHORT_INDEX_SCALE", type := .int, accessFlags := 25, slot := 5, constantValue := 0 }, { name := "LOG2_ARRAY_INT_INDEX_SCALE", type := .int, accessFlags := 25, slot := 6, constantValue := 0 }, { name := "LOG2_ARRAY_LONG_INDEX_SCALE", type := .int, accessFlags := 25, slot := 7, constantValue := 0 }, { name := "LOG2_ARRAY_FLOAT_INDEX_SCALE", type := .int, accessFlags := 25, slot := 8, constantValue := 0 }, { name := "LOG2_ARRAY_DOUBLE_INDEX_SCALE", type := .int, accessFlags := 25, slot := 9, constantValue := 0 }, { name := "LOG2_BYTE_BIT_SIZE", type := .int, accessFlags := 26, slot := 10, constantValue := 0 }, { name := "T_BOOLEAN", type := .int, accessFlags := 25, slot := 11, constantValue := 0 }, { name := "T_CHAR", type := .int, accessFlags := 25, slot := 12, constantValue := 0 }, { name := "T_FLOAT", type := .int, accessFlags := 25, slot := 13, constantValue := 0 }, { name := "T_DOUBLE", type := .int, accessFlags := 25, slot := 14, constantValue := 0 }, { name := "T_BYTE", type := .int, accessFlags := 25, slot := 15, constantValue := 0 }, { name := "T_SHORT", type := .int, accessFlags := 25, slot := 16, constantValue := 0 }, { name := "T_INT", type := .int, accessFlags := 25, slot := 17, constantValue := 0 }, { name := "T_LONG", type := .int, accessFlags := 25, slot := 18, constantValue := 0 }, { name := "JLA", type := (.object "jdk/internal/access/JavaLangAccess"), accessFlags := 26, slot := 19, constantValue := 0 }, { name := "SOFT_MAX_ARRAY_LENGTH", type := .int, accessFlags := 25, slot := 20, constantValue := 0 }]
  methods := #[k12m0]
  instanceTypes := #[]
  staticTypes := #[(.object "jdk/internal/misc/Unsafe"), .boolean, .int, .int, .int, .int, .int, .int, .int, .int, .int, .int, .int, .int, .int, .int, .int, .int, .int, (.object "jdk/internal/access/JavaLangAccess"), .int]
  resolved := Array.replicate 378 none
  statics := none }

def pool13 : Array CpInfo := pool [(1, u "java/lang/Cloneable"), (0, .class_ 1), (0, u "java/lang/Object"), (0, .class_ 3)] 3

/-- java/lang/Cloneable -/
def k13 : Class := { plain "java/lang/Cloneable" (some 0) with
  accessFlags := 1537
  interfaces := #[]
  cf := some (fileOf pool13 2 #[] #[] 1537 4 #[] #[])
  fields := #[]
  methods := #[]
  instanceTypes := #[]
  staticTypes := #[]
  resolved := Array.replicate 8 none
  statics := none }

/-- the primitive byte -/
def k14 : Class := { plain "byte" none with kind := .primitive 'B', accessFlags := 0x411 }
/-- [B -/
def k15 : Class := { plain "[B" (some 0) with kind := .array 14 .byte, interfaces := #[13, 2], accessFlags := 1041 }

/-- the primitive char -/
def k16 : Class := { plain "char" none with kind := .primitive 'C', accessFlags := 0x411 }
/-- [C -/
def k17 : Class := { plain "[C" (some 0) with kind := .array 16 .char, interfaces := #[13, 2], accessFlags := 1041 }

/-- the primitive int -/
def k18 : Class := { plain "int" none with kind := .primitive 'I', accessFlags := 0x411 }
/-- [I -/
def k19 : Class := { plain "[I" (some 0) with kind := .array 18 .int, interfaces := #[13, 2], accessFlags := 1041 }

def heap : Heap := #[{ cls := 7, slots := #[.long 0, .int 1, .null, .int 0, .null, .int 0, .int 0], vm := .statics 7 },
  { cls := 9, slots := #[.int 0, .int 8, .int 0, .int 1], vm := .statics 9 },
  { cls := 11, slots := #[.null, .null, .null], vm := .statics 11 }]
def classes : Array Class := #[k0, k1, k2, k3, k4, k5, k6, k7, k8, k9, k10, k11, k12, k13, k14, k15, k16, k17, k18, k19]
def interned : List (Array UInt16 × Addr) := []
def slotsUsed : Nat := 14
def theMethod : MethodId := ⟨1, 3⟩
def args0 : Array Value := #[.int 5, .int 7, .int 3, .int 9, .int 3]
def aboutOver (below : List Frame) : State where
  vm := { classes := classes, interned := interned.toArray }
  heap := heap
  slotsUsed := slotsUsed
  threads := #[{ frames := .invoking theMethod args0 :: below }]
def below0 : List Frame := [.native { method := ⟨0, 0⟩, args := #[] }]
def about1 : State := aboutOver below0
def p0 : Program := .bare "" "" ""
def e0 : Env := launch0.env 0 0 0
theorem w_frames : about1.frames = Frame.invoking theMethod args0 :: below0 := rfl
set_option maxRecDepth 65536 in
theorem w_args : argsFit about1.vm theMethod args0 = true := by decide +kernel
set_option maxRecDepth 65536 in
theorem w_heap : heapFits about1 = true := by decide +kernel
set_option maxRecDepth 65536 in
theorem w_runnable : about1.curStatus? = some .runnable := by decide +kernel
set_option maxRecDepth 65536 in
theorem w_alone : about1.alone = true := by decide +kernel
set_option maxRecDepth 65536 in
theorem w_named : about1.methodNamed? x = some theMethod := by decide +kernel
set_option maxRecDepth 65536 in
theorem w_hears : about1.hears theMethod below0 = true := by decide +kernel
set_option maxRecDepth 65536 in
theorem w_ripe : about1.ripe theMethod args0 below0 = true := by decide +kernel
theorem w_running : about1.status = .running := rfl
set_option maxRecDepth 65536 in
theorem w_room : about1.hasRoom e0.platform room_1 = true :=
  launch0.hasRoom_least _ room_1 (by decide +kernel) (by decide +kernel) (by decide +kernel) (by decide +kernel) (by decide +kernel) (by decide +kernel)
theorem allAtoms_all (ts : List Jvm.Cond) (a : Array Jvm.Value) (st : Jvm.State) : (allAtoms ts).before a st = ts.all (fun c => c.before a st) := by
  induction ts with
  | nil => rfl
  | cons c t ih =>
    show (Jvm.Cond.and c (allAtoms t)).before a st = _
    rw [Jvm.Cond.before_and, ih, List.all_cons]
def words1 : List Jvm.Cond := Jvm.Cond.code x code maxLocals ret :: tables_1
/-- a 'code' word, met by the world's own term for the bytes: nothing is compared byte by byte -/
theorem code_word {y : MethodName} {bytes : ByteArray} {mx : Nat} {rt : Option FieldType} {a : Array Value} {s : State} {m : MethodId} {meth : Method} {c : Code} (h1 : s.methodNamed? y = some m) (h2 : s.vm.method? m = some meth) (h3 : meth.code = some c) (h4 : c.code = bytes)
    (h5 : (c.maxLocals == mx && c.exceptionTable.isEmpty && decide (c.maxStack ≤ mostOperands) && decide (meth.sig.returnType = rt) && !meth.locks && decide (parseMethodDescriptor y.desc = some meth.sig)) = true) : (Jvm.Cond.code y bytes mx rt).before a s = true := by
  simp only [Bool.and_eq_true, beq_iff_eq, Bool.not_eq_true', decide_eq_true_eq] at h5
  obtain ⟨⟨⟨⟨⟨g1, g2⟩, g3⟩, g4⟩, g5⟩, g6⟩ := h5
  simp [Cond.before, Cond.holds, Cond.value, h1, h2, h3, h4, g1, g2, g3, g4, g5, g6]
def isCode : Jvm.Cond → Bool
  | .code _ _ _ _ => true
  | _ => false
theorem all_split {L : List Jvm.Cond} {P : Jvm.Cond → Bool} (h1 : L.all (fun c => isCode c || P c) = true) (h2 : ∀ c ∈ L.filter isCode, P c = true) : L.all P = true := by
  refine List.all_eq_true.mpr fun c hc => ?_
  have h := List.all_eq_true.mp h1 c hc
  rcases Bool.eq_false_or_eq_true (isCode c) with hi | hi
  · exact h2 c (List.mem_filter.mpr ⟨hc, hi⟩)
  · simpa [hi] using h
set_option maxRecDepth 65536 in
theorem w_c0 : (Jvm.Cond.code x code maxLocals ret).before args0 about1 = true := code_word (m := ⟨1, 3⟩) (meth := k1m3) (c := k1c3) (by decide +kernel) rfl rfl rfl (by decide +kernel)
set_option maxRecDepth 65536 in
theorem w_c1 : (Jvm.Cond.code ({ cls := "com/example/waymark/waymark/IdsIsIdPrefixPinLaw", name := "ch", desc := "(I)C" } : Jvm.MethodName) method_2_code (1 : Nat) (Option.some Jvm.ClassFile.FieldType.char)).before args0 about1 = true := code_word (m := ⟨1, 1⟩) (meth := k1m1) (c := k1c1) (by decide +kernel) rfl rfl rfl (by decide +kernel)
set_option maxRecDepth 65536 in
theorem w_c2 : (Jvm.Cond.code ({ cls := "java/lang/String", name := "<init>", desc := "([C)V" } : Jvm.MethodName) jdk_42_method_3_code (2 : Nat) (Option.none : Option Jvm.ClassFile.FieldType)).before args0 about1 = true := code_word (m := ⟨7, 1⟩) (meth := k7m1) (c := k7c1) (by decide +kernel) rfl rfl rfl (by decide +kernel)
set_option maxRecDepth 65536 in
theorem w_c3 : (Jvm.Cond.code ({ cls := "java/lang/String", name := "<init>", desc := "([CIILjava/lang/Void;)V" } : Jvm.MethodName) jdk_42_method_149_code (6 : Nat) (Option.none : Option Jvm.ClassFile.FieldType)).before args0 about1 = true := code_word (m := ⟨7, 5⟩) (meth := k7m5) (c := k7c5) (by decide +kernel) rfl rfl rfl (by decide +kernel)
set_option maxRecDepth 65536 in
theorem w_c4 : (Jvm.Cond.code ({ cls := "java/lang/Object", name := "<init>", desc := "()V" } : Jvm.MethodName) object_method_1_code (1 : Nat) (Option.none : Option Jvm.ClassFile.FieldType)).before args0 about1 = true := code_word (m := ⟨0, 0⟩) (meth := k0m0) (c := k0c0) (by decide +kernel) rfl rfl rfl (by decide +kernel)
set_option maxRecDepth 65536 in
theorem w_c5 : (Jvm.Cond.code ({ cls := "com/example/waymark/waymark/Ids", name := "isIdPrefix", desc := "(Ljava/lang/String;)Z" } : Jvm.MethodName) prog_10_method_6_code (3 : Nat) (Option.some Jvm.ClassFile.FieldType.boolean)).before args0 about1 = true := code_word (m := ⟨8, 1⟩) (meth := k8m1) (c := k8c1) (by decide +kernel) rfl rfl rfl (by decide +kernel)
set_option maxRecDepth 65536 in
theorem w_c6 : (Jvm.Cond.code ({ cls := "java/lang/String", name := "isEmpty", desc := "()Z" } : Jvm.MethodName) jdk_42_method_55_code (1 : Nat) (Option.some Jvm.ClassFile.FieldType.boolean)).before args0 about1 = true := code_word (m := ⟨7, 3⟩) (meth := k7m3) (c := k7c3) (by decide +kernel) rfl rfl rfl (by decide +kernel)
set_option maxRecDepth 65536 in
theorem w_c7 : (Jvm.Cond.code ({ cls := "com/example/waymark/waymark/IdsIsIdPrefixPinLaw", name := "hex", desc := "(C)Z" } : Jvm.MethodName) method_3_code (1 : Nat) (Option.some Jvm.ClassFile.FieldType.boolean)).before args0 about1 = true := code_word (m := ⟨1, 2⟩) (meth := k1m2) (c := k1c2) (by decide +kernel) rfl rfl rfl (by decide +kernel)
set_option maxRecDepth 65536 in
theorem w_c8 : (Jvm.Cond.code ({ cls := "java/lang/StringUTF16", name := "compress", desc := "([CII)[B" } : Jvm.MethodName) jdk_52_method_16_code (6 : Nat) (Option.some (Jvm.ClassFile.FieldType.array Jvm.ClassFile.FieldType.byte))).before args0 about1 = true := code_word (m := ⟨9, 8⟩) (meth := k9m8) (c := k9c8) (by decide +kernel) rfl rfl rfl (by decide +kernel)
set_option maxRecDepth 65536 in
theorem w_c9 : (Jvm.Cond.code ({ cls := "java/lang/StringUTF16", name := "compress", desc := "([CI[BII)I" } : Jvm.MethodName) jdk_52_method_21_code (7 : Nat) (Option.some Jvm.ClassFile.FieldType.int)).before args0 about1 = true := code_word (m := ⟨9, 9⟩) (meth := k9m9) (c := k9c9) (by decide +kernel) rfl rfl rfl (by decide +kernel)
set_option maxRecDepth 65536 in
theorem w_c10 : (Jvm.Cond.code ({ cls := "java/lang/StringUTF16", name := "coderFromArrayLen", desc := "([BI)B" } : Jvm.MethodName) jdk_52_method_15_code (2 : Nat) (Option.some Jvm.ClassFile.FieldType.byte)).before args0 about1 = true := code_word (m := ⟨9, 7⟩) (meth := k9m7) (c := k9c7) (by decide +kernel) rfl rfl rfl (by decide +kernel)
set_option maxRecDepth 65536 in
theorem w_c11 : (Jvm.Cond.code ({ cls := "java/lang/String", name := "length", desc := "()I" } : Jvm.MethodName) jdk_42_method_54_code (1 : Nat) (Option.some Jvm.ClassFile.FieldType.int)).before args0 about1 = true := code_word (m := ⟨7, 2⟩) (meth := k7m2) (c := k7c2) (by decide +kernel) rfl rfl rfl (by decide +kernel)
set_option maxRecDepth 65536 in
theorem w_c12 : (Jvm.Cond.code ({ cls := "java/lang/String", name := "coder", desc := "()B" } : Jvm.MethodName) jdk_42_method_152_code (1 : Nat) (Option.some Jvm.ClassFile.FieldType.byte)).before args0 about1 = true := code_word (m := ⟨7, 6⟩) (meth := k7m6) (c := k7c6) (by decide +kernel) rfl rfl rfl (by decide +kernel)
set_option maxRecDepth 65536 in
theorem w_c13 : (Jvm.Cond.code ({ cls := "java/lang/String", name := "charAt", desc := "(I)C" } : Jvm.MethodName) jdk_42_method_56_code (2 : Nat) (Option.some Jvm.ClassFile.FieldType.char)).before args0 about1 = true := code_word (m := ⟨7, 4⟩) (meth := k7m4) (c := k7c4) (by decide +kernel) rfl rfl rfl (by decide +kernel)
set_option maxRecDepth 65536 in
theorem w_c14 : (Jvm.Cond.code ({ cls := "java/lang/String", name := "isLatin1", desc := "()Z" } : Jvm.MethodName) jdk_42_method_154_code (1 : Nat) (Option.some Jvm.ClassFile.FieldType.boolean)).before args0 about1 = true := code_word (m := ⟨7, 7⟩) (meth := k7m7) (c := k7c7) (by decide +kernel) rfl rfl rfl (by decide +kernel)
set_option maxRecDepth 65536 in
theorem w_c15 : (Jvm.Cond.code ({ cls := "java/lang/StringLatin1", name := "charAt", desc := "([BI)C" } : Jvm.MethodName) jdk_43_method_2_code (2 : Nat) (Option.some Jvm.ClassFile.FieldType.char)).before args0 about1 = true := code_word (m := ⟨10, 1⟩) (meth := k10m1) (c := k10c1) (by decide +kernel) rfl rfl rfl (by decide +kernel)
set_option maxRecDepth 65536 in
theorem w_c16 : (Jvm.Cond.code ({ cls := "java/lang/String", name := "checkIndex", desc := "(II)V" } : Jvm.MethodName) jdk_42_method_155_code (2 : Nat) (Option.none : Option Jvm.ClassFile.FieldType)).before args0 about1 = true := code_word (m := ⟨7, 8⟩) (meth := k7m8) (c := k7c8) (by decide +kernel) rfl rfl rfl (by decide +kernel)
set_option maxRecDepth 65536 in
theorem w_c17 : (Jvm.Cond.code ({ cls := "jdk/internal/util/Preconditions", name := "checkIndex", desc := "(IILjava/util/function/BiFunction;)I" } : Jvm.MethodName) jdk_41_method_11_code (3 : Nat) (Option.some Jvm.ClassFile.FieldType.int)).before args0 about1 = true := code_word (m := ⟨11, 1⟩) (meth := k11m1) (c := k11c1) (by decide +kernel) rfl rfl rfl (by decide +kernel)
set_option maxRecDepth 65536 in
theorem w_c18 : (Jvm.Cond.code ({ cls := "java/lang/StringUTF16", name := "toBytes", desc := "([CII)[B" } : Jvm.MethodName) jdk_52_method_14_code (5 : Nat) (Option.some (Jvm.ClassFile.FieldType.array Jvm.ClassFile.FieldType.byte))).before args0 about1 = true := code_word (m := ⟨9, 6⟩) (meth := k9m6) (c := k9c6) (by decide +kernel) rfl rfl rfl (by decide +kernel)
set_option maxRecDepth 65536 in
theorem w_c19 : (Jvm.Cond.code ({ cls := "java/lang/StringUTF16", name := "newBytesFor", desc := "(I)[B" } : Jvm.MethodName) jdk_52_method_2_code (1 : Nat) (Option.some (Jvm.ClassFile.FieldType.array Jvm.ClassFile.FieldType.byte))).before args0 about1 = true := code_word (m := ⟨9, 1⟩) (meth := k9m1) (c := k9c1) (by decide +kernel) rfl rfl rfl (by decide +kernel)
set_option maxRecDepth 65536 in
theorem w_c20 : (Jvm.Cond.code ({ cls := "java/lang/StringUTF16", name := "newBytesLength", desc := "(I)I" } : Jvm.MethodName) jdk_52_method_3_code (1 : Nat) (Option.some Jvm.ClassFile.FieldType.int)).before args0 about1 = true := code_word (m := ⟨9, 2⟩) (meth := k9m2) (c := k9c2) (by decide +kernel) rfl rfl rfl (by decide +kernel)
set_option maxRecDepth 65536 in
theorem w_c21 : (Jvm.Cond.code ({ cls := "java/lang/StringUTF16", name := "putChar", desc := "([BII)V" } : Jvm.MethodName) jdk_52_method_4_code (3 : Nat) (Option.none : Option Jvm.ClassFile.FieldType)).before args0 about1 = true := code_word (m := ⟨9, 3⟩) (meth := k9m3) (c := k9c3) (by decide +kernel) rfl rfl rfl (by decide +kernel)
set_option maxRecDepth 65536 in
theorem w_c22 : (Jvm.Cond.code ({ cls := "java/lang/StringUTF16", name := "getChar", desc := "([BI)C" } : Jvm.MethodName) jdk_52_method_5_code (2 : Nat) (Option.some Jvm.ClassFile.FieldType.char)).before args0 about1 = true := code_word (m := ⟨9, 4⟩) (meth := k9m4) (c := k9c4) (by decide +kernel) rfl rfl rfl (by decide +kernel)
set_option maxRecDepth 65536 in
theorem w_c23 : (Jvm.Cond.code ({ cls := "java/lang/StringUTF16", name := "charAt", desc := "([BI)C" } : Jvm.MethodName) jdk_52_method_83_code (2 : Nat) (Option.some Jvm.ClassFile.FieldType.char)).before args0 about1 = true := code_word (m := ⟨9, 10⟩) (meth := k9m10) (c := k9c10) (by decide +kernel) rfl rfl rfl (by decide +kernel)
set_option maxRecDepth 65536 in
theorem w_c24 : (Jvm.Cond.code ({ cls := "java/lang/StringUTF16", name := "checkIndex", desc := "(I[B)V" } : Jvm.MethodName) jdk_52_method_91_code (2 : Nat) (Option.none : Option Jvm.ClassFile.FieldType)).before args0 about1 = true := code_word (m := ⟨9, 11⟩) (meth := k9m11) (c := k9c11) (by decide +kernel) rfl rfl rfl (by decide +kernel)
set_option maxRecDepth 65536 in
theorem w_c25 : (Jvm.Cond.code ({ cls := "java/lang/StringUTF16", name := "length", desc := "([B)I" } : Jvm.MethodName) jdk_52_method_6_code (1 : Nat) (Option.some Jvm.ClassFile.FieldType.int)).before args0 about1 = true := code_word (m := ⟨9, 5⟩) (meth := k9m5) (c := k9c5) (by decide +kernel) rfl rfl rfl (by decide +kernel)
def codes1 : List Jvm.Cond := [Jvm.Cond.code x code maxLocals ret, Jvm.Cond.code ({ cls := "com/example/waymark/waymark/IdsIsIdPrefixPinLaw", name := "ch", desc := "(I)C" } : Jvm.MethodName) method_2_code (1 : Nat) (Option.some Jvm.ClassFile.FieldType.char), Jvm.Cond.code ({ cls := "java/lang/String", name := "<init>", desc := "([C)V" } : Jvm.MethodName) jdk_42_method_3_code (2 : Nat) (Option.none : Option Jvm.ClassFile.FieldType), Jvm.Cond.code ({ cls := "java/lang/String", name := "<init>", desc := "([CIILjava/lang/Void;)V" } : Jvm.MethodName) jdk_42_method_149_code (6 : Nat) (Option.none : Option Jvm.ClassFile.FieldType), Jvm.Cond.code ({ cls := "java/lang/Object", name := "<init>", desc := "()V" } : Jvm.MethodName) object_method_1_code (1 : Nat) (Option.none : Option Jvm.ClassFile.FieldType), Jvm.Cond.code ({ cls := "com/example/waymark/waymark/Ids", name := "isIdPrefix", desc := "(Ljava/lang/String;)Z" } : Jvm.MethodName) prog_10_method_6_code (3 : Nat) (Option.some Jvm.ClassFile.FieldType.boolean), Jvm.Cond.code ({ cls := "java/lang/String", name := "isEmpty", desc := "()Z" } : Jvm.MethodName) jdk_42_method_55_code (1 : Nat) (Option.some Jvm.ClassFile.FieldType.boolean), Jvm.Cond.code ({ cls := "com/example/waymark/waymark/IdsIsIdPrefixPinLaw", name := "hex", desc := "(C)Z" } : Jvm.MethodName) method_3_code (1 : Nat) (Option.some Jvm.ClassFile.FieldType.boolean), Jvm.Cond.code ({ cls := "java/lang/StringUTF16", name := "compress", desc := "([CII)[B" } : Jvm.MethodName) jdk_52_method_16_code (6 : Nat) (Option.some (Jvm.ClassFile.FieldType.array Jvm.ClassFile.FieldType.byte)), Jvm.Cond.code ({ cls := "java/lang/StringUTF16", name := "compress", desc := "([CI[BII)I" } : Jvm.MethodName) jdk_52_method_21_code (7 : Nat) (Option.some Jvm.ClassFile.FieldType.int), Jvm.Cond.code ({ cls := "java/lang/StringUTF16", name := "coderFromArrayLen", desc := "([BI)B" } : Jvm.MethodName) jdk_52_method_15_code (2 : Nat) (Option.some Jvm.ClassFile.FieldType.byte), Jvm.Cond.code ({ cls := "java/lang/String", name := "length", desc := "()I" } : Jvm.MethodName) jdk_42_method_54_code (1 : Nat) (Option.some Jvm.ClassFile.FieldType.int), Jvm.Cond.code ({ cls := "java/lang/String", name := "coder", desc := "()B" } : Jvm.MethodName) jdk_42_method_152_code (1 : Nat) (Option.some Jvm.ClassFile.FieldType.byte), Jvm.Cond.code ({ cls := "java/lang/String", name := "charAt", desc := "(I)C" } : Jvm.MethodName) jdk_42_method_56_code (2 : Nat) (Option.some Jvm.ClassFile.FieldType.char), Jvm.Cond.code ({ cls := "java/lang/String", name := "isLatin1", desc := "()Z" } : Jvm.MethodName) jdk_42_method_154_code (1 : Nat) (Option.some Jvm.ClassFile.FieldType.boolean), Jvm.Cond.code ({ cls := "java/lang/StringLatin1", name := "charAt", desc := "([BI)C" } : Jvm.MethodName) jdk_43_method_2_code (2 : Nat) (Option.some Jvm.ClassFile.FieldType.char), Jvm.Cond.code ({ cls := "java/lang/String", name := "checkIndex", desc := "(II)V" } : Jvm.MethodName) jdk_42_method_155_code (2 : Nat) (Option.none : Option Jvm.ClassFile.FieldType), Jvm.Cond.code ({ cls := "jdk/internal/util/Preconditions", name := "checkIndex", desc := "(IILjava/util/function/BiFunction;)I" } : Jvm.MethodName) jdk_41_method_11_code (3 : Nat) (Option.some Jvm.ClassFile.FieldType.int), Jvm.Cond.code ({ cls := "java/lang/StringUTF16", name := "toBytes", desc := "([CII)[B" } : Jvm.MethodName) jdk_52_method_14_code (5 : Nat) (Option.some (Jvm.ClassFile.FieldType.array Jvm.ClassFile.FieldType.byte)), Jvm.Cond.code ({ cls := "java/lang/StringUTF16", name := "newBytesFor", desc := "(I)[B" } : Jvm.MethodName) jdk_52_method_2_code (1 : Nat) (Option.some (Jvm.ClassFile.FieldType.array Jvm.ClassFile.FieldType.byte)), Jvm.Cond.code ({ cls := "java/lang/StringUTF16", name := "newBytesLength", desc := "(I)I" } : Jvm.MethodName) jdk_52_method_3_code (1 : Nat) (Option.some Jvm.ClassFile.FieldType.int), Jvm.Cond.code ({ cls := "java/lang/StringUTF16", name := "putChar", desc := "([BII)V" } : Jvm.MethodName) jdk_52_method_4_code (3 : Nat) (Option.none : Option Jvm.ClassFile.FieldType), Jvm.Cond.code ({ cls := "java/lang/StringUTF16", name := "getChar", desc := "([BI)C" } : Jvm.MethodName) jdk_52_method_5_code (2 : Nat) (Option.some Jvm.ClassFile.FieldType.char), Jvm.Cond.code ({ cls := "java/lang/StringUTF16", name := "charAt", desc := "([BI)C" } : Jvm.MethodName) jdk_52_method_83_code (2 : Nat) (Option.some Jvm.ClassFile.FieldType.char), Jvm.Cond.code ({ cls := "java/lang/StringUTF16", name := "checkIndex", desc := "(I[B)V" } : Jvm.MethodName) jdk_52_method_91_code (2 : Nat) (Option.none : Option Jvm.ClassFile.FieldType), Jvm.Cond.code ({ cls := "java/lang/StringUTF16", name := "length", desc := "([B)I" } : Jvm.MethodName) jdk_52_method_6_code (1 : Nat) (Option.some Jvm.ClassFile.FieldType.int)]
set_option maxRecDepth 65536 in
theorem codes_eq : words1.filter isCode = codes1 := rfl
theorem w_codes : ∀ c ∈ words1.filter isCode, c.before args0 about1 = true := by
  rw [codes_eq]
  intro c hc
  simp only [codes1, List.mem_cons, List.not_mem_nil, or_false] at hc
  rcases hc with rfl | rfl | rfl | rfl | rfl | rfl | rfl | rfl | rfl | rfl | rfl | rfl | rfl | rfl | rfl | rfl | rfl | rfl | rfl | rfl | rfl | rfl | rfl | rfl | rfl | rfl
  · exact w_c0
  · exact w_c1
  · exact w_c2
  · exact w_c3
  · exact w_c4
  · exact w_c5
  · exact w_c6
  · exact w_c7
  · exact w_c8
  · exact w_c9
  · exact w_c10
  · exact w_c11
  · exact w_c12
  · exact w_c13
  · exact w_c14
  · exact w_c15
  · exact w_c16
  · exact w_c17
  · exact w_c18
  · exact w_c19
  · exact w_c20
  · exact w_c21
  · exact w_c22
  · exact w_c23
  · exact w_c24
  · exact w_c25
set_option maxRecDepth 65536 in
theorem w_t1 : (words1.take 24).all (fun c => isCode c || c.before args0 about1) = true := by decide +kernel
set_option maxRecDepth 65536 in
theorem w_t2 : ((words1.drop 24).take 24).all (fun c => isCode c || c.before args0 about1) = true := by decide +kernel
set_option maxRecDepth 65536 in
theorem w_t3 : (((words1.drop 24).drop 24).take 24).all (fun c => isCode c || c.before args0 about1) = true := by decide +kernel
set_option maxRecDepth 65536 in
theorem w_t4 : ((((words1.drop 24).drop 24).drop 24).take 24).all (fun c => isCode c || c.before args0 about1) = true := by decide +kernel
set_option maxRecDepth 65536 in
theorem w_t5 : ((((words1.drop 24).drop 24).drop 24).drop 24).all (fun c => isCode c || c.before args0 about1) = true := by decide +kernel
theorem w_tables : (allAtoms (Jvm.Cond.code x code maxLocals ret :: tables_1)).before args0 about1 = true := by
  rw [allAtoms_all]
  show words1.all (fun c => c.before args0 about1) = true
  refine all_split ?_ w_codes
  rw [← List.take_append_drop 24 words1, List.all_append, w_t1, ← List.take_append_drop 24 (words1.drop 24), List.all_append, w_t2, ← List.take_append_drop 24 ((words1.drop 24).drop 24), List.all_append, w_t3, ← List.take_append_drop 24 (((words1.drop 24).drop 24).drop 24), List.all_append, w_t4, w_t5]
  rfl
set_option maxRecDepth 65536 in
theorem w_rest : rest_1_c.before args0 about1 = true := by decide +kernel
set_option maxRecDepth 65536 in
theorem w_case : (Jvm.Cond.and given_1 narrow_1).before args0 about1 = true := by decide +kernel
set_option maxRecDepth 65536 in
theorem w_consts : constsHeld consts_1 about1 := Jvm.Lit.constsHeldB_iff.mp (by decide +kernel)
theorem w_applies : (headSpec (Jvm.Cond.code x code maxLocals ret :: tables_1) room_1).applies x e0.platform about1 = true :=
  (Spec.applies_iff w_frames).mpr ⟨w_running, w_runnable, w_alone, w_named, w_hears, w_ripe, w_room, w_tables⟩
theorem atStart : AtStart classFile x code maxLocals ret World_1 tables_1 room_1 Calls_1 rest_1 Pre_1 launch0 p0 e0 about1 theMethod args0 below0 :=
  ⟨lists_1, trivial, launch0.admits_env _ _ _, launch0.least_env, fairChoices_fair.cas, fairChoices_fair.clock, w_frames, w_args, w_heap, w_applies, ⟨w_consts, trivial⟩, w_rest, w_case⟩
end start1
theorem witness_1 : WitnessClaimed_1 := ⟨start1.p0, start1.e0, start1.about1, start1.theMethod, start1.args0, start1.below0, start1.atStart⟩
end Jvm.Pilot.@@N@@
