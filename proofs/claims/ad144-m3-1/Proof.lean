import JvmDerived
import JvmDerived.Pilot.@@N@@Statement
import JvmDerived.Pilot.@@N@@Code
set_option linter.unusedVariables false
set_option linter.unusedSimpArgs false

namespace Jvm.GoKit
open Jvm Jvm.ClassFile Sem Op Lib Jvm.Free Jvm.Stand Jvm.LawKit Jvm.RoadKit Bundle
/-- what goes with a Stand over the re-based start -/
def Hid (s Z : State) (wd : Bool) (EL : List (String × Nat)) (n0 : Nat) (ow0 ow : List Addr) (T : State) (locs : List Loc) (vm0 : Vm) (k0 : Nat) (h : Heap) : Prop :=
  s.Since vm0 k0 ∧ k0 ≤ h.size ∧ Z.Warmed39 vm0 ∧ T.heap = h ∧ Fr n0 locs ∧ CHr Z EL s.vm s.heap vm0 h ∧ Keep s.heap h ow0 ∧ Old Z n0 h ∧ (∀ x ∈ ow, Safe Z EL vm0 h x ∧ x < h.size ∧ n0 ≤ x ∧ (x ∈ ow0 ∨ s.heap.size ≤ x)) ∧ (wd = true ∨ s.WarmedH vm0)
/-- what a body leaves -/
def FinS (s Z : State) (wd ro : Bool) (EL : List (String × Nat)) (n0 : Nat) (ow0 : List Addr) (R : Room) (Q : Option Value → Heap → Prop) (o : Outcome) (t : State) : Prop :=
  ∃ v L, o = .returned v ∧ Q v t.heap ∧ Fr n0 L ∧ CHr Z EL s.vm s.heap t.vm t.heap ∧ Keep s.heap t.heap ow0 ∧ ReturnedEndW s o t L R.cells R.slots ∧ (wd = true ∨ s.WarmedH t.vm) ∧ (ro = true → ∀ d, v = some (.ref d) → Safe Z EL t.vm t.heap d ∧ d < t.heap.size ∧ n0 ≤ d ∧ s.heap.size ≤ d)
/-- from wherever the walk stands with heap h at the frame g, the run ends in Q -/
def Run (p : Program) (l : Launch) (e : Env) (R : Room) (s : State) (m : MethodId) (args : Array Value) (below : List Frame) (meth : Method) (c : Code) (Z : State) (wd ro : Bool) (EL : List (String × Nat)) (n0 : Nat) (ow0 : List Addr) (Q : Option Value → Heap → Prop)
    (h : Heap) (ow : List Addr) (cells slots : Nat) (g : JFrame) : Prop :=
  ∀ (T : State) (locs : List Loc) (vm0 : Vm) (k0 : Nat), Stand p l e R (s.setVm vm0) m args below meth c T locs cells slots → Hid s Z wd EL n0 ow0 ow T locs vm0 k0 h →
    ∃ s₂ o, Steps p.tables e below (T.setTop g) s₂ ∧ s₂.status = .running ∧ Ended s₂ below o ∧ FinS s Z wd ro EL n0 ow0 R Q o s₂
/-- a method's contract -/
def Con (l : Launch) (Z : State) (wd ro : Bool) (EL : List (String × Nat)) (n0 : Nat) (y : MethodName) (bytes : ByteArray) (maxL : Nat) (ret : Option FieldType) (rm : Room) (ws : List Jvm.Cond) (as' : Array Value) (h0 : Heap) (ow : List Addr) (Q : Option Value → Heap → Prop) : Prop :=
  MetFree l y (head1 (Jvm.Cond.code y bytes maxL ret :: ws) rm) (fun a U => a = as' ∧ Z.Warmed39 U.vm ∧ U.heap = h0 ∧ Old Z n0 h0 ∧ CHv Z EL U.vm h0 ∧ ∀ x ∈ ow, Safe Z EL U.vm h0 x ∧ x < h0.size ∧ n0 ≤ x) (fun _ _ _ _ _ => True) (fun _ U o U' => FinS U Z wd ro EL n0 ow rm Q o U')
/-- what stays of a body -/
def Gd (p : Program) (s : State) (m : MethodId) (meth : Method) (c : Code) (y : MethodName) (bytes : ByteArray) (maxL : Nat) (ret : Option FieldType) (Z : State) (a0 : Array Value) (EL : List (String × Nat)) : Prop :=
  p.tables.exec = Jvm.exec ∧ c.code = bytes ∧ c.maxLocals = maxL ∧ s.vm.findClass y.cls = some m.cls ∧ meth.sig.returnType = ret ∧ meth.name = y.name ∧ meth.locks = false ∧ EW Z a0 EL
section
variable {p : Program} {l : Launch} {e : Env} {R : Room} {s : State} {m : MethodId} {args : Array Value} {below : List Frame} {meth : Method} {c : Code} {Z : State} {wd ro : Bool} {EL : List (String × Nat)} {n0 : Nat} {ow0 : List Addr} {Q : Option Value → Heap → Prop}
variable {h : Heap} {ow : List Addr} {cells slots cells' slots' : Nat} {pc pc' : Nat} {Ls Ls' : Array Slot} {st rest : List Value} {y : MethodName} {bytes : ByteArray} {maxL : Nat} {ret : Option FieldType} {a0 : Array Value}
theorem Con.intro {ws : List Jvm.Cond} {as' : Array Value} (hx : plainFor y = true) (hEL : EW Z a0 EL)
    (body : ∀ (p : Program) (e : Env) (s : State) (m : MethodId) (below : List Frame) (meth : Method) (c : Code), s.heap = h → Gd p s m meth c y bytes maxL ret Z a0 EL → Run p l e R s m as' below meth c Z wd ro EL n0 ow Q h ow 0 0 (entryFrame m as' maxL)) :
    Con l Z wd ro EL n0 y bytes maxL ret R ws as' h ow Q := by
  refine MetFree.of_bodySF hx hisR ?_
  intro p e s m args below meth c s₁ Bd hml0 hP hK
  obtain ⟨rfl, hZ, hh, hO, hC, hS⟩ := hP
  have e0 : s₁.heap = h := by rw [← hh, Bd.state]; rfl
  have X0 : Stand p l e R s m args below meth c s₁ [] 0 0 := Stand.of_body Bd
  refine body p e s m below meth c hh ⟨Bd.exec, Bd.bytes, hml0, findClass_of_methodNamed Bd.named, Bd.returns, (name_of_methodNamed Bd.named Bd.method).1, Bd.notSynchronized, hEL⟩ s₁ [] s.vm h.size X0 ?_
  have hc : CHr Z EL s.vm s.heap s.vm h := by rw [hh]; exact CHr.refl hC
  refine ⟨(State.WarmedH.refl s).since _, Nat.le_refl _, hZ, e0, Fr.nil _, hc, by rw [hh]; exact Keep.refl _ _, hO, fun x hx => ⟨(hS x hx).1, (hS x hx).2.1, (hS x hx).2.2, Or.inl hx⟩, Or.inr (State.WarmedH.refl s)⟩
theorem Run.stp {g g' : JFrame} (stp : ∀ (T : State) (locs : List Loc) (vm0 : Vm) (k0 : Nat), Stand p l e R (s.setVm vm0) m args below meth c T locs cells slots → Hid s Z wd EL n0 ow0 ow T locs vm0 k0 h → ∀ t, Steps p.tables e below (T.setTop g') t → Steps p.tables e below (T.setTop g) t)
    (K : Run p l e R s m args below meth c Z wd ro EL n0 ow0 Q h ow cells slots g') : Run p l e R s m args below meth c Z wd ro EL n0 ow0 Q h ow cells slots g := fun T locs vm0 k0 X H => by
  obtain ⟨s₂, o, a, b⟩ := K T locs vm0 k0 X H
  exact ⟨s₂, o, stp T locs vm0 k0 X H _ a, b⟩
theorem Run.mov {g g' : JFrame} (stp : ∀ (T : State) (locs : List Loc) (vm0 : Vm) (k0 : Nat), Stand p l e R (s.setVm vm0) m args below meth c T locs cells slots → Hid s Z wd EL n0 ow0 ow T locs vm0 k0 h →
      ∃ T', Stand p l e R (s.setVm vm0) m args below meth c T' locs cells slots ∧ T'.heap = h ∧ ∀ t, Steps p.tables e below (T'.setTop g') t → Steps p.tables e below (T.setTop g) t)
    (K : Run p l e R s m args below meth c Z wd ro EL n0 ow0 Q h ow cells slots g') : Run p l e R s m args below meth c Z wd ro EL n0 ow0 Q h ow cells slots g := fun T locs vm0 k0 X H => by
  obtain ⟨T', X', eT, st⟩ := stp T locs vm0 k0 X H
  obtain ⟨i1, i2, i3, -, i5⟩ := H
  obtain ⟨s₂, o, a, b⟩ := K T' locs vm0 k0 X' ⟨i1, i2, i3, eT, i5⟩
  exact ⟨s₂, o, st _ a, b⟩
theorem Run.mono {g : JFrame} {cells' slots' : Nat} (hc : cells ≤ cells') (hs : slots ≤ slots') (K : Run p l e R s m args below meth c Z wd ro EL n0 ow0 Q h ow cells' slots' g) : Run p l e R s m args below meth c Z wd ro EL n0 ow0 Q h ow cells slots g := fun T locs vm0 k0 X H => K T locs vm0 k0 (X.mono hc hs) H
theorem Run.owless {g : JFrame} {ow' : List Addr} (hs : ∀ x ∈ ow', x ∈ ow) (K : Run p l e R s m args below meth c Z wd ro EL n0 ow0 Q h ow' cells slots g) : Run p l e R s m args below meth c Z wd ro EL n0 ow0 Q h ow cells slots g := fun T locs vm0 k0 X H => by
  obtain ⟨i1, i2, i3, i4, i5, i6, i7, i8, i9, i10⟩ := H
  exact K T locs vm0 k0 X ⟨i1, i2, i3, i4, i5, i6, i7, i8, fun x q => i9 x (hs x q), i10⟩
/-- what is known at every point -/
theorem Run.know {g : JFrame} (K : Ext Z.heap h → Keep s.heap h ow0 → (∀ x ∈ ow, x < h.size ∧ n0 ≤ x ∧ (x ∈ ow0 ∨ s.heap.size ≤ x)) → Run p l e R s m args below meth c Z wd ro EL n0 ow0 Q h ow cells slots g) : Run p l e R s m args below meth c Z wd ro EL n0 ow0 Q h ow cells slots g := fun T locs vm0 k0 X H =>
  K H.2.2.2.2.2.2.2.1.2 H.2.2.2.2.2.2.1 (fun x q => (H.2.2.2.2.2.2.2.2.1 x q).2) T locs vm0 k0 X H
theorem Gd.own (G : Gd p s m meth c y bytes maxL ret Z a0 EL) {vm0 : Vm} {k0 : Nat} (hS : s.Since vm0 k0) : vm0.findClass y.cls = some m.cls := (hS.1.alike.findClass _ _).trans G.2.2.2.1
theorem Gd.hb (G : Gd p s m meth c y bytes maxL ret Z a0 EL) {pc : Nat} {r : Except ClassFile.DecodeError (ClassFile.Instr × Nat)} (h2 : ClassFile.decode bytes pc = r) : ClassFile.decode c.code pc = r := Jvm.hb G.2.1 h2
theorem Hid.cell {T : State} {locs : List Loc} {vm0 : Vm} {k0 : Nat} {a : Addr} {cl : Cell} {ty : FieldType} (H : Hid s Z wd EL n0 ow0 ow T locs vm0 k0 h) (A : Arr Z h a cl ty) : T.heap[a]? = some cl := by
  rw [H.2.2.2.1]; exact A.1
theorem Hid.arr {T : State} {locs : List Loc} {vm0 : Vm} {k0 : Nat} {a : Addr} {cl : Cell} {ty : FieldType} (H : Hid s Z wd EL n0 ow0 ow T locs vm0 k0 h) (A : Arr Z h a cl ty) : (s.setVm vm0).isArrayOf cl ty := State.isArrayOf_alike (T := s.setVm vm0) H.2.2.1.alike A.2.1
/-- a write at a place that is ours -/
theorem Hid.wr {T T' : State} {locs : List Loc} {vm0 : Vm} {k0 sl : Nat} {h' : Heap} {a : Addr} {v : Value} (H : Hid s Z wd EL n0 ow0 ow T locs vm0 k0 h) (W : Wr h h' a sl v) (ha : a ∈ ow) (eT : T'.heap = h') : Hid s Z wd EL n0 ow0 ow T' (locs ++ [⟨a, sl⟩]) vm0 k0 h' := by
  obtain ⟨i1, i2, i3, i4, i5, i6, i7, i8, i9, i10⟩ := H
  obtain ⟨S, q1, q2, q3⟩ := i9 a ha
  have hsz : h'.size = h.size := W.size
  refine ⟨i1, by rw [hsz]; exact i2, i3, eT, i5.app (fun y hy => by cases List.mem_singleton.mp hy; exact q2), i6.trans (CHr.wr W S i6.1), i7.wr W q3, i8.wr W q2, fun x hx => ?_, i10⟩
  obtain ⟨S', r1, r2, r3⟩ := i9 x hx
  exact ⟨Safe.wr W S i6.1 S', by rw [hsz]; exact r1, r2, r3⟩
theorem instNAt {T : State} {locs : List Loc} {vm0 : Vm} (X : Stand p l e R (s.setVm vm0) m args below meth c T locs cells slots) (hx : p.tables.exec = Jvm.exec) (hZ : Z.Warmed39 vm0) {own K D : String} {index : Nat} (hown : vm0.findClass own = some m.cls) (w : (Jvm.Cond.classLink own index K).before a0 Z = true) (eT : T.heap = h) {a : Addr} (F : Ins Z h a K false) (E : Exa Z h a D)
    {g : JFrame} (hg : g.method = m) {rest : List Value} (hs : g.stack = .ref a :: rest) (hd : decode c.code g.pc = .ok (.instanceof index, 3)) : ∃ T', Stand p l e R (s.setVm vm0) m args below meth c T' locs cells slots ∧ T'.heap = h ∧ ∀ target, Steps p.tables e below (T'.setTop { g with pc := g.pc + 3, stack := .int 0 :: rest }) target → Steps p.tables e below (T.setTop g) target := by
  obtain ⟨cell, cT, h1, h2, h3⟩ := F
  obtain ⟨cell', k, e1, -, e3, e4, -⟩ := E
  cases h1.symm.trans e1
  obtain ⟨k', q, -⟩ := hZ.alike.2.2 _ _ e3
  obtain ⟨vm', X', st⟩ := Sym.instanceofNoAt X hx hown (mv (s := s.setVm vm0) hZ w) (by rw [eT]; exact h1) e4 q (by show vm0.findClass K = _; rw [hZ.alike.findClass]; exact h2) (by show vm0.assignable _ _ = _; rw [hZ.alike.assignable]; simpa [e4] using h3) hg hs hd
  exact ⟨_, X', eT, st⟩
/-- a new cell -/
theorem Hid.ext {T T' : State} {locs : List Loc} {vm0 : Vm} {k0 : Nat} {h' : Heap} (H : Hid s Z wd EL n0 ow0 ow T locs vm0 k0 h) (E : Ext h h') (hlt : h.size < h'.size) (eT : T'.heap = h') : Hid s Z wd EL n0 ow0 (h.size :: ow) T' locs vm0 k0 h' := by
  obtain ⟨i1, i2, i3, i4, i5, i6, i7, i8, i9, i10⟩ := H
  refine ⟨i1, Nat.le_trans i2 E.1, i3, eT, i5, i6.trans (CHr.ext E i6.1), i7.ext E, i8.ext E, fun x hx => ?_, i10⟩
  rcases List.mem_cons.mp hx with rfl | hx
  · exact ⟨(Safe.new (Nat.le_refl _)).ext E i6.1, hlt, i8.1 ▸ i8.2.1, Or.inr i7.1⟩
  · obtain ⟨S', r1, r2, r3⟩ := i9 x hx
    exact ⟨S'.ext E i6.1, Nat.lt_of_lt_of_le r1 E.1, r2, r3⟩
theorem aloadN (G : Gd p s m meth c y bytes maxL ret Z a0 EL) {k : Fin 4} {v : Value} (hd : decode bytes pc = .ok (.aload_n k, 1)) (hl : Ls[k.val]? = some (.val v)) (hv : v.isRef = true) (hp : pc + 1 = pc') (K : Run p l e R s m args below meth c Z wd ro EL n0 ow0 Q h ow cells slots (mkF m pc' Ls (v :: st))) : Run p l e R s m args below meth c Z wd ro EL n0 ow0 Q h ow cells slots (mkF m pc Ls st) := by
  subst hp
  exact Run.stp (fun T locs vm0 k0 X H t k => XS.aloadN X.here G.1 rfl (G.hb hd) hl hv k) K
theorem aload (G : Gd p s m meth c y bytes maxL ret Z a0 EL) {k : Nat} {v : Value} (hd : decode bytes pc = .ok (.aload k, 2)) (hl : Ls[k]? = some (.val v)) (hv : v.isRef = true) (hp : pc + 2 = pc') (K : Run p l e R s m args below meth c Z wd ro EL n0 ow0 Q h ow cells slots (mkF m pc' Ls (v :: st))) : Run p l e R s m args below meth c Z wd ro EL n0 ow0 Q h ow cells slots (mkF m pc Ls st) := by
  subst hp
  exact Run.stp (fun T locs vm0 k0 X H t k => XS.aload X.here G.1 rfl (G.hb hd) hl hv k) K
theorem iloadN (G : Gd p s m meth c y bytes maxL ret Z a0 EL) {k : Fin 4} {v : Int32} (hd : decode bytes pc = .ok (.iload_n k, 1)) (hl : Ls[k.val]? = some (.val (.int v))) (hp : pc + 1 = pc') (K : Run p l e R s m args below meth c Z wd ro EL n0 ow0 Q h ow cells slots (mkF m pc' Ls (.int v :: st))) : Run p l e R s m args below meth c Z wd ro EL n0 ow0 Q h ow cells slots (mkF m pc Ls st) := by
  subst hp
  exact Run.stp (fun T locs vm0 k0 X H t k => XS.iloadN X.here G.1 rfl (G.hb hd) hl k) K
theorem iload (G : Gd p s m meth c y bytes maxL ret Z a0 EL) {k : Nat} {v : Int32} (hd : decode bytes pc = .ok (.iload k, 2)) (hl : Ls[k]? = some (.val (.int v))) (hp : pc + 2 = pc') (K : Run p l e R s m args below meth c Z wd ro EL n0 ow0 Q h ow cells slots (mkF m pc' Ls (.int v :: st))) : Run p l e R s m args below meth c Z wd ro EL n0 ow0 Q h ow cells slots (mkF m pc Ls st) := by
  subst hp
  exact Run.stp (fun T locs vm0 k0 X H t k => XS.iload X.here G.1 rfl (G.hb hd) hl k) K
theorem iconst (G : Gd p s m meth c y bytes maxL ret Z a0 EL) {i : Int} (v : Int32) (hd : decode bytes pc = .ok (.iconst i, 1)) (hv : Int32.ofInt i = v) (hp : pc + 1 = pc') (K : Run p l e R s m args below meth c Z wd ro EL n0 ow0 Q h ow cells slots (mkF m pc' Ls (.int v :: st))) : Run p l e R s m args below meth c Z wd ro EL n0 ow0 Q h ow cells slots (mkF m pc Ls st) := by
  subst hp
  exact Run.stp (fun T locs vm0 k0 X H t k => XT.iconstV X.here G.1 rfl v (G.hb hd) hv k) K
theorem bipush (G : Gd p s m meth c y bytes maxL ret Z a0 EL) {i : Int} (v : Int32) (hd : decode bytes pc = .ok (.bipush i, 2)) (hv : (Int8.ofInt i).toInt32 = v) (hp : pc + 2 = pc') (K : Run p l e R s m args below meth c Z wd ro EL n0 ow0 Q h ow cells slots (mkF m pc' Ls (.int v :: st))) : Run p l e R s m args below meth c Z wd ro EL n0 ow0 Q h ow cells slots (mkF m pc Ls st) := by
  subst hp
  exact Run.stp (fun T locs vm0 k0 X H t k => XT.bipushV X.here G.1 rfl v (G.hb hd) hv k) K
theorem sipush (G : Gd p s m meth c y bytes maxL ret Z a0 EL) {i : Int} (v : Int32) (hd : decode bytes pc = .ok (.sipush i, 3)) (hv : (Int16.ofInt i).toInt32 = v) (hp : pc + 3 = pc') (K : Run p l e R s m args below meth c Z wd ro EL n0 ow0 Q h ow cells slots (mkF m pc' Ls (.int v :: st))) : Run p l e R s m args below meth c Z wd ro EL n0 ow0 Q h ow cells slots (mkF m pc Ls st) := by
  subst hp
  exact Run.stp (fun T locs vm0 k0 X H t k => XT.sipushV X.here G.1 rfl v (G.hb hd) hv k) K
theorem aconstNull (G : Gd p s m meth c y bytes maxL ret Z a0 EL)  (hd : decode bytes pc = .ok (.aconst_null, 1))  (hp : pc + 1 = pc') (K : Run p l e R s m args below meth c Z wd ro EL n0 ow0 Q h ow cells slots (mkF m pc' Ls (.null :: st))) : Run p l e R s m args below meth c Z wd ro EL n0 ow0 Q h ow cells slots (mkF m pc Ls st) := by
  subst hp
  exact Run.stp (fun T locs vm0 k0 X H t k => XS.aconstNull X.here G.1 rfl (G.hb hd) k) K
theorem dup (G : Gd p s m meth c y bytes maxL ret Z a0 EL) {v : Value} (hd : decode bytes pc = .ok (.dup, 1)) (hv : v.category = 1) (hp : pc + 1 = pc') (K : Run p l e R s m args below meth c Z wd ro EL n0 ow0 Q h ow cells slots (mkF m pc' Ls (v :: v :: rest))) : Run p l e R s m args below meth c Z wd ro EL n0 ow0 Q h ow cells slots (mkF m pc Ls (v :: rest)) := by
  subst hp
  exact Run.stp (fun T locs vm0 k0 X H t k => XS.dup X.here G.1 rfl (G.hb hd) rfl hv k) K
theorem pop (G : Gd p s m meth c y bytes maxL ret Z a0 EL) {v : Value} (hd : decode bytes pc = .ok (.pop, 1)) (hv : v.category = 1) (hp : pc + 1 = pc') (K : Run p l e R s m args below meth c Z wd ro EL n0 ow0 Q h ow cells slots (mkF m pc' Ls rest)) : Run p l e R s m args below meth c Z wd ro EL n0 ow0 Q h ow cells slots (mkF m pc Ls (v :: rest)) := by
  subst hp
  exact Run.stp (fun T locs vm0 k0 X H t k => XT.pop X.here G.1 rfl (G.hb hd) rfl hv k) K
theorem dupX1 (G : Gd p s m meth c y bytes maxL ret Z a0 EL) {v w : Value} (hd : decode bytes pc = .ok (.dup_x1, 1)) (hv : v.category = 1) (hw : w.category = 1) (hp : pc + 1 = pc') (K : Run p l e R s m args below meth c Z wd ro EL n0 ow0 Q h ow cells slots (mkF m pc' Ls (v :: w :: v :: rest))) : Run p l e R s m args below meth c Z wd ro EL n0 ow0 Q h ow cells slots (mkF m pc Ls (v :: w :: rest)) := by
  subst hp
  exact Run.stp (fun T locs vm0 k0 X H t k => XT.dupX1 X.here G.1 rfl (G.hb hd) rfl hv hw k) K
theorem istoreN (G : Gd p s m meth c y bytes maxL ret Z a0 EL) {k : Fin 4} {x : Int32} (hd : decode bytes pc = .ok (.istore_n k, 1)) (hl : storeLocals Ls k.val (.int x) = some Ls') (hp : pc + 1 = pc') (K : Run p l e R s m args below meth c Z wd ro EL n0 ow0 Q h ow cells slots (mkF m pc' Ls' rest)) : Run p l e R s m args below meth c Z wd ro EL n0 ow0 Q h ow cells slots (mkF m pc Ls (.int x :: rest)) := by
  subst hp
  exact Run.stp (fun T locs vm0 k0 X H t k => XS.istoreN X.here G.1 rfl (G.hb hd) rfl hl k) K
theorem istore (G : Gd p s m meth c y bytes maxL ret Z a0 EL) {k : Nat} {x : Int32} (hd : decode bytes pc = .ok (.istore k, 2)) (hl : storeLocals Ls k (.int x) = some Ls') (hp : pc + 2 = pc') (K : Run p l e R s m args below meth c Z wd ro EL n0 ow0 Q h ow cells slots (mkF m pc' Ls' rest)) : Run p l e R s m args below meth c Z wd ro EL n0 ow0 Q h ow cells slots (mkF m pc Ls (.int x :: rest)) := by
  subst hp
  exact Run.stp (fun T locs vm0 k0 X H t k => XS.istore X.here G.1 rfl (G.hb hd) rfl hl k) K
theorem astoreN (G : Gd p s m meth c y bytes maxL ret Z a0 EL) {k : Fin 4} {x : Value} (hd : decode bytes pc = .ok (.astore_n k, 1)) (hv : x.isRef = true) (hl : storeLocals Ls k.val x = some Ls') (hp : pc + 1 = pc') (K : Run p l e R s m args below meth c Z wd ro EL n0 ow0 Q h ow cells slots (mkF m pc' Ls' rest)) : Run p l e R s m args below meth c Z wd ro EL n0 ow0 Q h ow cells slots (mkF m pc Ls (x :: rest)) := by
  subst hp
  exact Run.stp (fun T locs vm0 k0 X H t k => XS.astoreN X.here G.1 rfl (G.hb hd) rfl hv hl k) K
theorem astore (G : Gd p s m meth c y bytes maxL ret Z a0 EL) {k : Nat} {x : Value} (hd : decode bytes pc = .ok (.astore k, 2)) (hv : x.isRef = true) (hl : storeLocals Ls k x = some Ls') (hp : pc + 2 = pc') (K : Run p l e R s m args below meth c Z wd ro EL n0 ow0 Q h ow cells slots (mkF m pc' Ls' rest)) : Run p l e R s m args below meth c Z wd ro EL n0 ow0 Q h ow cells slots (mkF m pc Ls (x :: rest)) := by
  subst hp
  exact Run.stp (fun T locs vm0 k0 X H t k => XS.astore X.here G.1 rfl (G.hb hd) rfl hv hl k) K
theorem iinc (G : Gd p s m meth c y bytes maxL ret Z a0 EL) {k : Nat} {i : Int} {x : Int32} (v : Int32) (hd : decode bytes pc = .ok (.iinc k i, 3)) (hv : Int32.ofInt i = v) (hl : Ls[k]? = some (.val (.int x))) (hl' : storeLocals Ls k (.int (x + v)) = some Ls') (hp : pc + 3 = pc') (K : Run p l e R s m args below meth c Z wd ro EL n0 ow0 Q h ow cells slots (mkF m pc' Ls' st)) : Run p l e R s m args below meth c Z wd ro EL n0 ow0 Q h ow cells slots (mkF m pc Ls st) := by
  subst hp
  exact Run.stp (fun T locs vm0 k0 X H t k => XT.iincV X.here G.1 rfl v (G.hb hd) hv hl hl' k) K
theorem iadd (G : Gd p s m meth c y bytes maxL ret Z a0 EL) {x z : Int32} (hd : decode bytes pc = .ok (.iadd, 1))  (hp : pc + 1 = pc') (K : ∀ v : Int32, v = x + z → Run p l e R s m args below meth c Z wd ro EL n0 ow0 Q h ow cells slots (mkF m pc' Ls (.int v :: rest))) : Run p l e R s m args below meth c Z wd ro EL n0 ow0 Q h ow cells slots (mkF m pc Ls (.int z :: .int x :: rest)) := by
  subst hp
  exact Run.stp (fun T locs vm0 k0 X H t k => XS.iadd X.here G.1 rfl (G.hb hd) rfl k) (K _ rfl)
theorem isub (G : Gd p s m meth c y bytes maxL ret Z a0 EL) {x z : Int32} (hd : decode bytes pc = .ok (.isub, 1))  (hp : pc + 1 = pc') (K : ∀ v : Int32, v = x - z → Run p l e R s m args below meth c Z wd ro EL n0 ow0 Q h ow cells slots (mkF m pc' Ls (.int v :: rest))) : Run p l e R s m args below meth c Z wd ro EL n0 ow0 Q h ow cells slots (mkF m pc Ls (.int z :: .int x :: rest)) := by
  subst hp
  exact Run.stp (fun T locs vm0 k0 X H t k => XS.isub X.here G.1 rfl (G.hb hd) rfl k) (K _ rfl)
theorem iand (G : Gd p s m meth c y bytes maxL ret Z a0 EL) {x z : Int32} (hd : decode bytes pc = .ok (.iand, 1))  (hp : pc + 1 = pc') (K : ∀ v : Int32, v = x &&& z → Run p l e R s m args below meth c Z wd ro EL n0 ow0 Q h ow cells slots (mkF m pc' Ls (.int v :: rest))) : Run p l e R s m args below meth c Z wd ro EL n0 ow0 Q h ow cells slots (mkF m pc Ls (.int z :: .int x :: rest)) := by
  subst hp
  exact Run.stp (fun T locs vm0 k0 X H t k => XS.iand X.here G.1 rfl (G.hb hd) rfl k) (K _ rfl)
theorem imul (G : Gd p s m meth c y bytes maxL ret Z a0 EL) {x z : Int32} (hd : decode bytes pc = .ok (.imul, 1))  (hp : pc + 1 = pc') (K : ∀ v : Int32, v = x * z → Run p l e R s m args below meth c Z wd ro EL n0 ow0 Q h ow cells slots (mkF m pc' Ls (.int v :: rest))) : Run p l e R s m args below meth c Z wd ro EL n0 ow0 Q h ow cells slots (mkF m pc Ls (.int z :: .int x :: rest)) := by
  subst hp
  exact Run.stp (fun T locs vm0 k0 X H t k => XS.imul X.here G.1 rfl (G.hb hd) rfl k) (K _ rfl)
theorem ior (G : Gd p s m meth c y bytes maxL ret Z a0 EL) {x z : Int32} (hd : decode bytes pc = .ok (.ior, 1))  (hp : pc + 1 = pc') (K : ∀ v : Int32, v = x ||| z → Run p l e R s m args below meth c Z wd ro EL n0 ow0 Q h ow cells slots (mkF m pc' Ls (.int v :: rest))) : Run p l e R s m args below meth c Z wd ro EL n0 ow0 Q h ow cells slots (mkF m pc Ls (.int z :: .int x :: rest)) := by
  subst hp
  exact Run.stp (fun T locs vm0 k0 X H t k => XT.ior X.here G.1 rfl (G.hb hd) rfl k) (K _ rfl)
theorem ixor (G : Gd p s m meth c y bytes maxL ret Z a0 EL) {x z : Int32} (hd : decode bytes pc = .ok (.ixor, 1))  (hp : pc + 1 = pc') (K : ∀ v : Int32, v = x ^^^ z → Run p l e R s m args below meth c Z wd ro EL n0 ow0 Q h ow cells slots (mkF m pc' Ls (.int v :: rest))) : Run p l e R s m args below meth c Z wd ro EL n0 ow0 Q h ow cells slots (mkF m pc Ls (.int z :: .int x :: rest)) := by
  subst hp
  exact Run.stp (fun T locs vm0 k0 X H t k => XT.ixor X.here G.1 rfl (G.hb hd) rfl k) (K _ rfl)
theorem irem (G : Gd p s m meth c y bytes maxL ret Z a0 EL) {x z : Int32} (hd : decode bytes pc = .ok (.irem, 1)) (hz : z ≠ 0) (hp : pc + 1 = pc') (K : ∀ v : Int32, v = x % z → Run p l e R s m args below meth c Z wd ro EL n0 ow0 Q h ow cells slots (mkF m pc' Ls (.int v :: rest))) : Run p l e R s m args below meth c Z wd ro EL n0 ow0 Q h ow cells slots (mkF m pc Ls (.int z :: .int x :: rest)) := by
  subst hp
  exact Run.stp (fun T locs vm0 k0 X H t k => iremM X G.1 rfl (G.hb hd) rfl hz k) (K _ rfl)
theorem ineg (G : Gd p s m meth c y bytes maxL ret Z a0 EL) {x : Int32} (hd : decode bytes pc = .ok (.ineg, 1)) (hp : pc + 1 = pc') (K : ∀ v : Int32, v = -x → Run p l e R s m args below meth c Z wd ro EL n0 ow0 Q h ow cells slots (mkF m pc' Ls (.int v :: rest))) : Run p l e R s m args below meth c Z wd ro EL n0 ow0 Q h ow cells slots (mkF m pc Ls (.int x :: rest)) := by
  subst hp
  exact Run.stp (fun T locs vm0 k0 X H t k => XS.ineg X.here G.1 rfl (G.hb hd) rfl k) (K _ rfl)
theorem i2c (G : Gd p s m meth c y bytes maxL ret Z a0 EL) {x : Int32} (hd : decode bytes pc = .ok (.i2c, 1)) (hp : pc + 1 = pc') (K : ∀ v : Int32, v = x.toUInt32.toUInt16.toUInt32.toInt32 → Run p l e R s m args below meth c Z wd ro EL n0 ow0 Q h ow cells slots (mkF m pc' Ls (.int v :: rest))) : Run p l e R s m args below meth c Z wd ro EL n0 ow0 Q h ow cells slots (mkF m pc Ls (.int x :: rest)) := by
  subst hp
  exact Run.stp (fun T locs vm0 k0 X H t k => XT.i2c X.here G.1 rfl (G.hb hd) rfl k) (K _ rfl)
theorem i2b (G : Gd p s m meth c y bytes maxL ret Z a0 EL) {x : Int32} (hd : decode bytes pc = .ok (.i2b, 1)) (hp : pc + 1 = pc') (K : ∀ v : Int32, v = x.toInt8.toInt32 → Run p l e R s m args below meth c Z wd ro EL n0 ow0 Q h ow cells slots (mkF m pc' Ls (.int v :: rest))) : Run p l e R s m args below meth c Z wd ro EL n0 ow0 Q h ow cells slots (mkF m pc Ls (.int x :: rest)) := by
  subst hp
  exact Run.stp (fun T locs vm0 k0 X H t k => XT.i2b X.here G.1 rfl (G.hb hd) rfl k) (K _ rfl)
theorem ishl (G : Gd p s m meth c y bytes maxL ret Z a0 EL) {x z : Int32} (hd : decode bytes pc = .ok (.ishl, 1))  (hp : pc + 1 = pc') (K : ∀ v : Int32, v = x <<< (z &&& 31) → Run p l e R s m args below meth c Z wd ro EL n0 ow0 Q h ow cells slots (mkF m pc' Ls (.int v :: rest))) : Run p l e R s m args below meth c Z wd ro EL n0 ow0 Q h ow cells slots (mkF m pc Ls (.int z :: .int x :: rest)) := by
  subst hp
  exact Run.stp (fun T locs vm0 k0 X H t k => XT.ishl X.here G.1 rfl (G.hb hd) rfl k) (K _ rfl)
theorem ishr (G : Gd p s m meth c y bytes maxL ret Z a0 EL) {x z : Int32} (hd : decode bytes pc = .ok (.ishr, 1))  (hp : pc + 1 = pc') (K : ∀ v : Int32, v = x >>> (z &&& 31) → Run p l e R s m args below meth c Z wd ro EL n0 ow0 Q h ow cells slots (mkF m pc' Ls (.int v :: rest))) : Run p l e R s m args below meth c Z wd ro EL n0 ow0 Q h ow cells slots (mkF m pc Ls (.int z :: .int x :: rest)) := by
  subst hp
  exact Run.stp (fun T locs vm0 k0 X H t k => XT.ishr X.here G.1 rfl (G.hb hd) rfl k) (K _ rfl)
theorem iushr (G : Gd p s m meth c y bytes maxL ret Z a0 EL) {x z : Int32} (hd : decode bytes pc = .ok (.iushr, 1))  (hp : pc + 1 = pc') (K : ∀ v : Int32, v = (x.toUInt32 >>> (z &&& 31).toUInt32).toInt32 → Run p l e R s m args below meth c Z wd ro EL n0 ow0 Q h ow cells slots (mkF m pc' Ls (.int v :: rest))) : Run p l e R s m args below meth c Z wd ro EL n0 ow0 Q h ow cells slots (mkF m pc Ls (.int z :: .int x :: rest)) := by
  subst hp
  exact Run.stp (fun T locs vm0 k0 X H t k => XT.iushr X.here G.1 rfl (G.hb hd) rfl k) (K _ rfl)
theorem goto (G : Gd p s m meth c y bytes maxL ret Z a0 EL) {o : Int} (hd : decode bytes pc = .ok (.goto o, 3)) (ho : 0 ≤ (pc : Int) + o) (hp : ((pc : Int) + o).toNat = pc') (K : Run p l e R s m args below meth c Z wd ro EL n0 ow0 Q h ow cells slots (mkF m pc' Ls st)) : Run p l e R s m args below meth c Z wd ro EL n0 ow0 Q h ow cells slots (mkF m pc Ls st) :=
  Run.stp (fun T locs vm0 k0 X H t k => XS.goto X.here G.1 rfl rfl (G.hb hd) ho hp k) K
theorem icmp_eq_t (G : Gd p s m meth c y bytes maxL ret Z a0 EL) {o : Int} {x z : Int32} (hd : decode bytes pc = .ok (.if_icmp .eq o, 3)) (hc : x = z) (ho : 0 ≤ (pc : Int) + o) (hp : ((pc : Int) + o).toNat = pc') (K : Run p l e R s m args below meth c Z wd ro EL n0 ow0 Q h ow cells slots (mkF m pc' Ls rest)) : Run p l e R s m args below meth c Z wd ro EL n0 ow0 Q h ow cells slots (mkF m pc Ls (.int z :: .int x :: rest)) :=
  Run.stp (fun T locs vm0 k0 X H t k => XS.icmpYes X.here G.1 rfl rfl (G.hb hd) rfl (XT.ii_eq_t hc) ho hp k) K
theorem icmp_eq_f (G : Gd p s m meth c y bytes maxL ret Z a0 EL) {o : Int} {x z : Int32} (hd : decode bytes pc = .ok (.if_icmp .eq o, 3)) (hc : ¬ x = z) (hp : pc + 3 = pc') (K : Run p l e R s m args below meth c Z wd ro EL n0 ow0 Q h ow cells slots (mkF m pc' Ls rest)) : Run p l e R s m args below meth c Z wd ro EL n0 ow0 Q h ow cells slots (mkF m pc Ls (.int z :: .int x :: rest)) := by
  subst hp
  exact Run.stp (fun T locs vm0 k0 X H t k => XS.icmpNo X.here G.1 rfl (G.hb hd) rfl (XT.ii_eq_f hc) k) K
theorem icmp_eq (G : Gd p s m meth c y bytes maxL ret Z a0 EL) {o : Int} {x z : Int32} {pt pf : Nat} (hd : decode bytes pc = .ok (.if_icmp .eq o, 3)) (ho : 0 ≤ (pc : Int) + o) (hp : ((pc : Int) + o).toNat = pt) (hq : pc + 3 = pf) (K1 : (x = z) → Run p l e R s m args below meth c Z wd ro EL n0 ow0 Q h ow cells slots (mkF m pt Ls rest)) (K2 : (¬ x = z) → Run p l e R s m args below meth c Z wd ro EL n0 ow0 Q h ow cells slots (mkF m pf Ls rest)) : Run p l e R s m args below meth c Z wd ro EL n0 ow0 Q h ow cells slots (mkF m pc Ls (.int z :: .int x :: rest)) := by
  by_cases q : x = z
  · exact icmp_eq_t G hd q ho hp (K1 q)
  · exact icmp_eq_f G hd q hq (K2 q)
theorem icmp_ne_t (G : Gd p s m meth c y bytes maxL ret Z a0 EL) {o : Int} {x z : Int32} (hd : decode bytes pc = .ok (.if_icmp .ne o, 3)) (hc : ¬ x = z) (ho : 0 ≤ (pc : Int) + o) (hp : ((pc : Int) + o).toNat = pc') (K : Run p l e R s m args below meth c Z wd ro EL n0 ow0 Q h ow cells slots (mkF m pc' Ls rest)) : Run p l e R s m args below meth c Z wd ro EL n0 ow0 Q h ow cells slots (mkF m pc Ls (.int z :: .int x :: rest)) :=
  Run.stp (fun T locs vm0 k0 X H t k => XS.icmpYes X.here G.1 rfl rfl (G.hb hd) rfl (XT.ii_ne_t hc) ho hp k) K
theorem icmp_ne_f (G : Gd p s m meth c y bytes maxL ret Z a0 EL) {o : Int} {x z : Int32} (hd : decode bytes pc = .ok (.if_icmp .ne o, 3)) (hc : x = z) (hp : pc + 3 = pc') (K : Run p l e R s m args below meth c Z wd ro EL n0 ow0 Q h ow cells slots (mkF m pc' Ls rest)) : Run p l e R s m args below meth c Z wd ro EL n0 ow0 Q h ow cells slots (mkF m pc Ls (.int z :: .int x :: rest)) := by
  subst hp
  exact Run.stp (fun T locs vm0 k0 X H t k => XS.icmpNo X.here G.1 rfl (G.hb hd) rfl (XT.ii_ne_f hc) k) K
theorem icmp_ne (G : Gd p s m meth c y bytes maxL ret Z a0 EL) {o : Int} {x z : Int32} {pt pf : Nat} (hd : decode bytes pc = .ok (.if_icmp .ne o, 3)) (ho : 0 ≤ (pc : Int) + o) (hp : ((pc : Int) + o).toNat = pt) (hq : pc + 3 = pf) (K1 : (¬ x = z) → Run p l e R s m args below meth c Z wd ro EL n0 ow0 Q h ow cells slots (mkF m pt Ls rest)) (K2 : (x = z) → Run p l e R s m args below meth c Z wd ro EL n0 ow0 Q h ow cells slots (mkF m pf Ls rest)) : Run p l e R s m args below meth c Z wd ro EL n0 ow0 Q h ow cells slots (mkF m pc Ls (.int z :: .int x :: rest)) := by
  by_cases q : x = z
  · exact icmp_ne_f G hd q hq (K2 q)
  · exact icmp_ne_t G hd q ho hp (K1 q)
theorem icmp_lt_t (G : Gd p s m meth c y bytes maxL ret Z a0 EL) {o : Int} {x z : Int32} (hd : decode bytes pc = .ok (.if_icmp .lt o, 3)) (hc : x < z) (ho : 0 ≤ (pc : Int) + o) (hp : ((pc : Int) + o).toNat = pc') (K : Run p l e R s m args below meth c Z wd ro EL n0 ow0 Q h ow cells slots (mkF m pc' Ls rest)) : Run p l e R s m args below meth c Z wd ro EL n0 ow0 Q h ow cells slots (mkF m pc Ls (.int z :: .int x :: rest)) :=
  Run.stp (fun T locs vm0 k0 X H t k => XS.icmpYes X.here G.1 rfl rfl (G.hb hd) rfl (XT.ii_lt_t hc) ho hp k) K
theorem icmp_lt_f (G : Gd p s m meth c y bytes maxL ret Z a0 EL) {o : Int} {x z : Int32} (hd : decode bytes pc = .ok (.if_icmp .lt o, 3)) (hc : ¬ x < z) (hp : pc + 3 = pc') (K : Run p l e R s m args below meth c Z wd ro EL n0 ow0 Q h ow cells slots (mkF m pc' Ls rest)) : Run p l e R s m args below meth c Z wd ro EL n0 ow0 Q h ow cells slots (mkF m pc Ls (.int z :: .int x :: rest)) := by
  subst hp
  exact Run.stp (fun T locs vm0 k0 X H t k => XS.icmpNo X.here G.1 rfl (G.hb hd) rfl (XT.ii_lt_f hc) k) K
theorem icmp_lt (G : Gd p s m meth c y bytes maxL ret Z a0 EL) {o : Int} {x z : Int32} {pt pf : Nat} (hd : decode bytes pc = .ok (.if_icmp .lt o, 3)) (ho : 0 ≤ (pc : Int) + o) (hp : ((pc : Int) + o).toNat = pt) (hq : pc + 3 = pf) (K1 : (x < z) → Run p l e R s m args below meth c Z wd ro EL n0 ow0 Q h ow cells slots (mkF m pt Ls rest)) (K2 : (¬ x < z) → Run p l e R s m args below meth c Z wd ro EL n0 ow0 Q h ow cells slots (mkF m pf Ls rest)) : Run p l e R s m args below meth c Z wd ro EL n0 ow0 Q h ow cells slots (mkF m pc Ls (.int z :: .int x :: rest)) := by
  by_cases q : x < z
  · exact icmp_lt_t G hd q ho hp (K1 q)
  · exact icmp_lt_f G hd q hq (K2 q)
theorem icmp_ge_t (G : Gd p s m meth c y bytes maxL ret Z a0 EL) {o : Int} {x z : Int32} (hd : decode bytes pc = .ok (.if_icmp .ge o, 3)) (hc : ¬ x < z) (ho : 0 ≤ (pc : Int) + o) (hp : ((pc : Int) + o).toNat = pc') (K : Run p l e R s m args below meth c Z wd ro EL n0 ow0 Q h ow cells slots (mkF m pc' Ls rest)) : Run p l e R s m args below meth c Z wd ro EL n0 ow0 Q h ow cells slots (mkF m pc Ls (.int z :: .int x :: rest)) :=
  Run.stp (fun T locs vm0 k0 X H t k => XS.icmpYes X.here G.1 rfl rfl (G.hb hd) rfl (XT.ii_ge_t hc) ho hp k) K
theorem icmp_ge_f (G : Gd p s m meth c y bytes maxL ret Z a0 EL) {o : Int} {x z : Int32} (hd : decode bytes pc = .ok (.if_icmp .ge o, 3)) (hc : x < z) (hp : pc + 3 = pc') (K : Run p l e R s m args below meth c Z wd ro EL n0 ow0 Q h ow cells slots (mkF m pc' Ls rest)) : Run p l e R s m args below meth c Z wd ro EL n0 ow0 Q h ow cells slots (mkF m pc Ls (.int z :: .int x :: rest)) := by
  subst hp
  exact Run.stp (fun T locs vm0 k0 X H t k => XS.icmpNo X.here G.1 rfl (G.hb hd) rfl (XT.ii_ge_f hc) k) K
theorem icmp_ge (G : Gd p s m meth c y bytes maxL ret Z a0 EL) {o : Int} {x z : Int32} {pt pf : Nat} (hd : decode bytes pc = .ok (.if_icmp .ge o, 3)) (ho : 0 ≤ (pc : Int) + o) (hp : ((pc : Int) + o).toNat = pt) (hq : pc + 3 = pf) (K1 : (¬ x < z) → Run p l e R s m args below meth c Z wd ro EL n0 ow0 Q h ow cells slots (mkF m pt Ls rest)) (K2 : (x < z) → Run p l e R s m args below meth c Z wd ro EL n0 ow0 Q h ow cells slots (mkF m pf Ls rest)) : Run p l e R s m args below meth c Z wd ro EL n0 ow0 Q h ow cells slots (mkF m pc Ls (.int z :: .int x :: rest)) := by
  by_cases q : x < z
  · exact icmp_ge_f G hd q hq (K2 q)
  · exact icmp_ge_t G hd q ho hp (K1 q)
theorem icmp_gt_t (G : Gd p s m meth c y bytes maxL ret Z a0 EL) {o : Int} {x z : Int32} (hd : decode bytes pc = .ok (.if_icmp .gt o, 3)) (hc : z < x) (ho : 0 ≤ (pc : Int) + o) (hp : ((pc : Int) + o).toNat = pc') (K : Run p l e R s m args below meth c Z wd ro EL n0 ow0 Q h ow cells slots (mkF m pc' Ls rest)) : Run p l e R s m args below meth c Z wd ro EL n0 ow0 Q h ow cells slots (mkF m pc Ls (.int z :: .int x :: rest)) :=
  Run.stp (fun T locs vm0 k0 X H t k => XS.icmpYes X.here G.1 rfl rfl (G.hb hd) rfl (XT.ii_gt_t hc) ho hp k) K
theorem icmp_gt_f (G : Gd p s m meth c y bytes maxL ret Z a0 EL) {o : Int} {x z : Int32} (hd : decode bytes pc = .ok (.if_icmp .gt o, 3)) (hc : ¬ z < x) (hp : pc + 3 = pc') (K : Run p l e R s m args below meth c Z wd ro EL n0 ow0 Q h ow cells slots (mkF m pc' Ls rest)) : Run p l e R s m args below meth c Z wd ro EL n0 ow0 Q h ow cells slots (mkF m pc Ls (.int z :: .int x :: rest)) := by
  subst hp
  exact Run.stp (fun T locs vm0 k0 X H t k => XS.icmpNo X.here G.1 rfl (G.hb hd) rfl (XT.ii_gt_f hc) k) K
theorem icmp_gt (G : Gd p s m meth c y bytes maxL ret Z a0 EL) {o : Int} {x z : Int32} {pt pf : Nat} (hd : decode bytes pc = .ok (.if_icmp .gt o, 3)) (ho : 0 ≤ (pc : Int) + o) (hp : ((pc : Int) + o).toNat = pt) (hq : pc + 3 = pf) (K1 : (z < x) → Run p l e R s m args below meth c Z wd ro EL n0 ow0 Q h ow cells slots (mkF m pt Ls rest)) (K2 : (¬ z < x) → Run p l e R s m args below meth c Z wd ro EL n0 ow0 Q h ow cells slots (mkF m pf Ls rest)) : Run p l e R s m args below meth c Z wd ro EL n0 ow0 Q h ow cells slots (mkF m pc Ls (.int z :: .int x :: rest)) := by
  by_cases q : z < x
  · exact icmp_gt_t G hd q ho hp (K1 q)
  · exact icmp_gt_f G hd q hq (K2 q)
theorem icmp_le_t (G : Gd p s m meth c y bytes maxL ret Z a0 EL) {o : Int} {x z : Int32} (hd : decode bytes pc = .ok (.if_icmp .le o, 3)) (hc : ¬ z < x) (ho : 0 ≤ (pc : Int) + o) (hp : ((pc : Int) + o).toNat = pc') (K : Run p l e R s m args below meth c Z wd ro EL n0 ow0 Q h ow cells slots (mkF m pc' Ls rest)) : Run p l e R s m args below meth c Z wd ro EL n0 ow0 Q h ow cells slots (mkF m pc Ls (.int z :: .int x :: rest)) :=
  Run.stp (fun T locs vm0 k0 X H t k => XS.icmpYes X.here G.1 rfl rfl (G.hb hd) rfl (XT.ii_le_t hc) ho hp k) K
theorem icmp_le_f (G : Gd p s m meth c y bytes maxL ret Z a0 EL) {o : Int} {x z : Int32} (hd : decode bytes pc = .ok (.if_icmp .le o, 3)) (hc : z < x) (hp : pc + 3 = pc') (K : Run p l e R s m args below meth c Z wd ro EL n0 ow0 Q h ow cells slots (mkF m pc' Ls rest)) : Run p l e R s m args below meth c Z wd ro EL n0 ow0 Q h ow cells slots (mkF m pc Ls (.int z :: .int x :: rest)) := by
  subst hp
  exact Run.stp (fun T locs vm0 k0 X H t k => XS.icmpNo X.here G.1 rfl (G.hb hd) rfl (XT.ii_le_f hc) k) K
theorem icmp_le (G : Gd p s m meth c y bytes maxL ret Z a0 EL) {o : Int} {x z : Int32} {pt pf : Nat} (hd : decode bytes pc = .ok (.if_icmp .le o, 3)) (ho : 0 ≤ (pc : Int) + o) (hp : ((pc : Int) + o).toNat = pt) (hq : pc + 3 = pf) (K1 : (¬ z < x) → Run p l e R s m args below meth c Z wd ro EL n0 ow0 Q h ow cells slots (mkF m pt Ls rest)) (K2 : (z < x) → Run p l e R s m args below meth c Z wd ro EL n0 ow0 Q h ow cells slots (mkF m pf Ls rest)) : Run p l e R s m args below meth c Z wd ro EL n0 ow0 Q h ow cells slots (mkF m pc Ls (.int z :: .int x :: rest)) := by
  by_cases q : z < x
  · exact icmp_le_f G hd q hq (K2 q)
  · exact icmp_le_t G hd q ho hp (K1 q)
theorem if_eq_t (G : Gd p s m meth c y bytes maxL ret Z a0 EL) {o : Int} {x : Int32} (hd : decode bytes pc = .ok (.ifCond .eq o, 3)) (hc : x = 0) (ho : 0 ≤ (pc : Int) + o) (hp : ((pc : Int) + o).toNat = pc') (K : Run p l e R s m args below meth c Z wd ro EL n0 ow0 Q h ow cells slots (mkF m pc' Ls rest)) : Run p l e R s m args below meth c Z wd ro EL n0 ow0 Q h ow cells slots (mkF m pc Ls (.int x :: rest)) :=
  Run.stp (fun T locs vm0 k0 X H t k => XS.ifYes X.here G.1 rfl rfl (G.hb hd) rfl (XT.i0_eq_t hc) ho hp k) K
theorem if_eq_f (G : Gd p s m meth c y bytes maxL ret Z a0 EL) {o : Int} {x : Int32} (hd : decode bytes pc = .ok (.ifCond .eq o, 3)) (hc : ¬ x = 0) (hp : pc + 3 = pc') (K : Run p l e R s m args below meth c Z wd ro EL n0 ow0 Q h ow cells slots (mkF m pc' Ls rest)) : Run p l e R s m args below meth c Z wd ro EL n0 ow0 Q h ow cells slots (mkF m pc Ls (.int x :: rest)) := by
  subst hp
  exact Run.stp (fun T locs vm0 k0 X H t k => XS.ifNo X.here G.1 rfl (G.hb hd) rfl (XT.i0_eq_f hc) k) K
theorem if_eq (G : Gd p s m meth c y bytes maxL ret Z a0 EL) {o : Int} {x : Int32} {pt pf : Nat} (hd : decode bytes pc = .ok (.ifCond .eq o, 3)) (ho : 0 ≤ (pc : Int) + o) (hp : ((pc : Int) + o).toNat = pt) (hq : pc + 3 = pf) (K1 : (x = 0) → Run p l e R s m args below meth c Z wd ro EL n0 ow0 Q h ow cells slots (mkF m pt Ls rest)) (K2 : (¬ x = 0) → Run p l e R s m args below meth c Z wd ro EL n0 ow0 Q h ow cells slots (mkF m pf Ls rest)) : Run p l e R s m args below meth c Z wd ro EL n0 ow0 Q h ow cells slots (mkF m pc Ls (.int x :: rest)) := by
  by_cases q : x = 0
  · exact if_eq_t G hd q ho hp (K1 q)
  · exact if_eq_f G hd q hq (K2 q)
theorem if_ne_t (G : Gd p s m meth c y bytes maxL ret Z a0 EL) {o : Int} {x : Int32} (hd : decode bytes pc = .ok (.ifCond .ne o, 3)) (hc : ¬ x = 0) (ho : 0 ≤ (pc : Int) + o) (hp : ((pc : Int) + o).toNat = pc') (K : Run p l e R s m args below meth c Z wd ro EL n0 ow0 Q h ow cells slots (mkF m pc' Ls rest)) : Run p l e R s m args below meth c Z wd ro EL n0 ow0 Q h ow cells slots (mkF m pc Ls (.int x :: rest)) :=
  Run.stp (fun T locs vm0 k0 X H t k => XS.ifYes X.here G.1 rfl rfl (G.hb hd) rfl (XT.i0_ne_t hc) ho hp k) K
theorem if_ne_f (G : Gd p s m meth c y bytes maxL ret Z a0 EL) {o : Int} {x : Int32} (hd : decode bytes pc = .ok (.ifCond .ne o, 3)) (hc : x = 0) (hp : pc + 3 = pc') (K : Run p l e R s m args below meth c Z wd ro EL n0 ow0 Q h ow cells slots (mkF m pc' Ls rest)) : Run p l e R s m args below meth c Z wd ro EL n0 ow0 Q h ow cells slots (mkF m pc Ls (.int x :: rest)) := by
  subst hp
  exact Run.stp (fun T locs vm0 k0 X H t k => XS.ifNo X.here G.1 rfl (G.hb hd) rfl (XT.i0_ne_f hc) k) K
theorem if_ne (G : Gd p s m meth c y bytes maxL ret Z a0 EL) {o : Int} {x : Int32} {pt pf : Nat} (hd : decode bytes pc = .ok (.ifCond .ne o, 3)) (ho : 0 ≤ (pc : Int) + o) (hp : ((pc : Int) + o).toNat = pt) (hq : pc + 3 = pf) (K1 : (¬ x = 0) → Run p l e R s m args below meth c Z wd ro EL n0 ow0 Q h ow cells slots (mkF m pt Ls rest)) (K2 : (x = 0) → Run p l e R s m args below meth c Z wd ro EL n0 ow0 Q h ow cells slots (mkF m pf Ls rest)) : Run p l e R s m args below meth c Z wd ro EL n0 ow0 Q h ow cells slots (mkF m pc Ls (.int x :: rest)) := by
  by_cases q : x = 0
  · exact if_ne_f G hd q hq (K2 q)
  · exact if_ne_t G hd q ho hp (K1 q)
theorem if_lt_t (G : Gd p s m meth c y bytes maxL ret Z a0 EL) {o : Int} {x : Int32} (hd : decode bytes pc = .ok (.ifCond .lt o, 3)) (hc : x < 0) (ho : 0 ≤ (pc : Int) + o) (hp : ((pc : Int) + o).toNat = pc') (K : Run p l e R s m args below meth c Z wd ro EL n0 ow0 Q h ow cells slots (mkF m pc' Ls rest)) : Run p l e R s m args below meth c Z wd ro EL n0 ow0 Q h ow cells slots (mkF m pc Ls (.int x :: rest)) :=
  Run.stp (fun T locs vm0 k0 X H t k => XS.ifYes X.here G.1 rfl rfl (G.hb hd) rfl (XT.i0_lt_t hc) ho hp k) K
theorem if_lt_f (G : Gd p s m meth c y bytes maxL ret Z a0 EL) {o : Int} {x : Int32} (hd : decode bytes pc = .ok (.ifCond .lt o, 3)) (hc : ¬ x < 0) (hp : pc + 3 = pc') (K : Run p l e R s m args below meth c Z wd ro EL n0 ow0 Q h ow cells slots (mkF m pc' Ls rest)) : Run p l e R s m args below meth c Z wd ro EL n0 ow0 Q h ow cells slots (mkF m pc Ls (.int x :: rest)) := by
  subst hp
  exact Run.stp (fun T locs vm0 k0 X H t k => XS.ifNo X.here G.1 rfl (G.hb hd) rfl (XT.i0_lt_f hc) k) K
theorem if_lt (G : Gd p s m meth c y bytes maxL ret Z a0 EL) {o : Int} {x : Int32} {pt pf : Nat} (hd : decode bytes pc = .ok (.ifCond .lt o, 3)) (ho : 0 ≤ (pc : Int) + o) (hp : ((pc : Int) + o).toNat = pt) (hq : pc + 3 = pf) (K1 : (x < 0) → Run p l e R s m args below meth c Z wd ro EL n0 ow0 Q h ow cells slots (mkF m pt Ls rest)) (K2 : (¬ x < 0) → Run p l e R s m args below meth c Z wd ro EL n0 ow0 Q h ow cells slots (mkF m pf Ls rest)) : Run p l e R s m args below meth c Z wd ro EL n0 ow0 Q h ow cells slots (mkF m pc Ls (.int x :: rest)) := by
  by_cases q : x < 0
  · exact if_lt_t G hd q ho hp (K1 q)
  · exact if_lt_f G hd q hq (K2 q)
theorem if_ge_t (G : Gd p s m meth c y bytes maxL ret Z a0 EL) {o : Int} {x : Int32} (hd : decode bytes pc = .ok (.ifCond .ge o, 3)) (hc : ¬ x < 0) (ho : 0 ≤ (pc : Int) + o) (hp : ((pc : Int) + o).toNat = pc') (K : Run p l e R s m args below meth c Z wd ro EL n0 ow0 Q h ow cells slots (mkF m pc' Ls rest)) : Run p l e R s m args below meth c Z wd ro EL n0 ow0 Q h ow cells slots (mkF m pc Ls (.int x :: rest)) :=
  Run.stp (fun T locs vm0 k0 X H t k => XS.ifYes X.here G.1 rfl rfl (G.hb hd) rfl (XT.i0_ge_t hc) ho hp k) K
theorem if_ge_f (G : Gd p s m meth c y bytes maxL ret Z a0 EL) {o : Int} {x : Int32} (hd : decode bytes pc = .ok (.ifCond .ge o, 3)) (hc : x < 0) (hp : pc + 3 = pc') (K : Run p l e R s m args below meth c Z wd ro EL n0 ow0 Q h ow cells slots (mkF m pc' Ls rest)) : Run p l e R s m args below meth c Z wd ro EL n0 ow0 Q h ow cells slots (mkF m pc Ls (.int x :: rest)) := by
  subst hp
  exact Run.stp (fun T locs vm0 k0 X H t k => XS.ifNo X.here G.1 rfl (G.hb hd) rfl (XT.i0_ge_f hc) k) K
theorem if_ge (G : Gd p s m meth c y bytes maxL ret Z a0 EL) {o : Int} {x : Int32} {pt pf : Nat} (hd : decode bytes pc = .ok (.ifCond .ge o, 3)) (ho : 0 ≤ (pc : Int) + o) (hp : ((pc : Int) + o).toNat = pt) (hq : pc + 3 = pf) (K1 : (¬ x < 0) → Run p l e R s m args below meth c Z wd ro EL n0 ow0 Q h ow cells slots (mkF m pt Ls rest)) (K2 : (x < 0) → Run p l e R s m args below meth c Z wd ro EL n0 ow0 Q h ow cells slots (mkF m pf Ls rest)) : Run p l e R s m args below meth c Z wd ro EL n0 ow0 Q h ow cells slots (mkF m pc Ls (.int x :: rest)) := by
  by_cases q : x < 0
  · exact if_ge_f G hd q hq (K2 q)
  · exact if_ge_t G hd q ho hp (K1 q)
theorem if_gt_t (G : Gd p s m meth c y bytes maxL ret Z a0 EL) {o : Int} {x : Int32} (hd : decode bytes pc = .ok (.ifCond .gt o, 3)) (hc : 0 < x) (ho : 0 ≤ (pc : Int) + o) (hp : ((pc : Int) + o).toNat = pc') (K : Run p l e R s m args below meth c Z wd ro EL n0 ow0 Q h ow cells slots (mkF m pc' Ls rest)) : Run p l e R s m args below meth c Z wd ro EL n0 ow0 Q h ow cells slots (mkF m pc Ls (.int x :: rest)) :=
  Run.stp (fun T locs vm0 k0 X H t k => XS.ifYes X.here G.1 rfl rfl (G.hb hd) rfl (XT.i0_gt_t hc) ho hp k) K
theorem if_gt_f (G : Gd p s m meth c y bytes maxL ret Z a0 EL) {o : Int} {x : Int32} (hd : decode bytes pc = .ok (.ifCond .gt o, 3)) (hc : ¬ 0 < x) (hp : pc + 3 = pc') (K : Run p l e R s m args below meth c Z wd ro EL n0 ow0 Q h ow cells slots (mkF m pc' Ls rest)) : Run p l e R s m args below meth c Z wd ro EL n0 ow0 Q h ow cells slots (mkF m pc Ls (.int x :: rest)) := by
  subst hp
  exact Run.stp (fun T locs vm0 k0 X H t k => XS.ifNo X.here G.1 rfl (G.hb hd) rfl (XT.i0_gt_f hc) k) K
theorem if_gt (G : Gd p s m meth c y bytes maxL ret Z a0 EL) {o : Int} {x : Int32} {pt pf : Nat} (hd : decode bytes pc = .ok (.ifCond .gt o, 3)) (ho : 0 ≤ (pc : Int) + o) (hp : ((pc : Int) + o).toNat = pt) (hq : pc + 3 = pf) (K1 : (0 < x) → Run p l e R s m args below meth c Z wd ro EL n0 ow0 Q h ow cells slots (mkF m pt Ls rest)) (K2 : (¬ 0 < x) → Run p l e R s m args below meth c Z wd ro EL n0 ow0 Q h ow cells slots (mkF m pf Ls rest)) : Run p l e R s m args below meth c Z wd ro EL n0 ow0 Q h ow cells slots (mkF m pc Ls (.int x :: rest)) := by
  by_cases q : 0 < x
  · exact if_gt_t G hd q ho hp (K1 q)
  · exact if_gt_f G hd q hq (K2 q)
theorem if_le_t (G : Gd p s m meth c y bytes maxL ret Z a0 EL) {o : Int} {x : Int32} (hd : decode bytes pc = .ok (.ifCond .le o, 3)) (hc : ¬ 0 < x) (ho : 0 ≤ (pc : Int) + o) (hp : ((pc : Int) + o).toNat = pc') (K : Run p l e R s m args below meth c Z wd ro EL n0 ow0 Q h ow cells slots (mkF m pc' Ls rest)) : Run p l e R s m args below meth c Z wd ro EL n0 ow0 Q h ow cells slots (mkF m pc Ls (.int x :: rest)) :=
  Run.stp (fun T locs vm0 k0 X H t k => XS.ifYes X.here G.1 rfl rfl (G.hb hd) rfl (XT.i0_le_t hc) ho hp k) K
theorem if_le_f (G : Gd p s m meth c y bytes maxL ret Z a0 EL) {o : Int} {x : Int32} (hd : decode bytes pc = .ok (.ifCond .le o, 3)) (hc : 0 < x) (hp : pc + 3 = pc') (K : Run p l e R s m args below meth c Z wd ro EL n0 ow0 Q h ow cells slots (mkF m pc' Ls rest)) : Run p l e R s m args below meth c Z wd ro EL n0 ow0 Q h ow cells slots (mkF m pc Ls (.int x :: rest)) := by
  subst hp
  exact Run.stp (fun T locs vm0 k0 X H t k => XS.ifNo X.here G.1 rfl (G.hb hd) rfl (XT.i0_le_f hc) k) K
theorem if_le (G : Gd p s m meth c y bytes maxL ret Z a0 EL) {o : Int} {x : Int32} {pt pf : Nat} (hd : decode bytes pc = .ok (.ifCond .le o, 3)) (ho : 0 ≤ (pc : Int) + o) (hp : ((pc : Int) + o).toNat = pt) (hq : pc + 3 = pf) (K1 : (¬ 0 < x) → Run p l e R s m args below meth c Z wd ro EL n0 ow0 Q h ow cells slots (mkF m pt Ls rest)) (K2 : (0 < x) → Run p l e R s m args below meth c Z wd ro EL n0 ow0 Q h ow cells slots (mkF m pf Ls rest)) : Run p l e R s m args below meth c Z wd ro EL n0 ow0 Q h ow cells slots (mkF m pc Ls (.int x :: rest)) := by
  by_cases q : 0 < x
  · exact if_le_f G hd q hq (K2 q)
  · exact if_le_t G hd q ho hp (K1 q)
theorem ifnull_t (G : Gd p s m meth c y bytes maxL ret Z a0 EL) {o : Int} (hd : decode bytes pc = .ok (.ifnull o, 3)) (ho : 0 ≤ (pc : Int) + o) (hp : ((pc : Int) + o).toNat = pc') (K : Run p l e R s m args below meth c Z wd ro EL n0 ow0 Q h ow cells slots (mkF m pc' Ls rest)) : Run p l e R s m args below meth c Z wd ro EL n0 ow0 Q h ow cells slots (mkF m pc Ls (.null :: rest)) :=
  Run.stp (fun T locs vm0 k0 X H t k => XS.ifnullYes X.here G.1 rfl rfl (G.hb hd) rfl ho hp k) K
theorem ifnull_f (G : Gd p s m meth c y bytes maxL ret Z a0 EL) {o : Int} {b : Addr} (hd : decode bytes pc = .ok (.ifnull o, 3)) (hp : pc + 3 = pc') (K : Run p l e R s m args below meth c Z wd ro EL n0 ow0 Q h ow cells slots (mkF m pc' Ls rest)) : Run p l e R s m args below meth c Z wd ro EL n0 ow0 Q h ow cells slots (mkF m pc Ls (.ref b :: rest)) := by
  subst hp
  exact Run.stp (fun T locs vm0 k0 X H t k => XS.ifnullNo X.here G.1 rfl (G.hb hd) rfl k) K
theorem ifnonnull_t (G : Gd p s m meth c y bytes maxL ret Z a0 EL) {o : Int} {b : Addr} (hd : decode bytes pc = .ok (.ifnonnull o, 3)) (ho : 0 ≤ (pc : Int) + o) (hp : ((pc : Int) + o).toNat = pc') (K : Run p l e R s m args below meth c Z wd ro EL n0 ow0 Q h ow cells slots (mkF m pc' Ls rest)) : Run p l e R s m args below meth c Z wd ro EL n0 ow0 Q h ow cells slots (mkF m pc Ls (.ref b :: rest)) :=
  Run.stp (fun T locs vm0 k0 X H t k => XT.ifnonnullYes X.here G.1 rfl rfl (G.hb hd) rfl ho hp k) K
theorem ifnonnull_f (G : Gd p s m meth c y bytes maxL ret Z a0 EL) {o : Int} (hd : decode bytes pc = .ok (.ifnonnull o, 3)) (hp : pc + 3 = pc') (K : Run p l e R s m args below meth c Z wd ro EL n0 ow0 Q h ow cells slots (mkF m pc' Ls rest)) : Run p l e R s m args below meth c Z wd ro EL n0 ow0 Q h ow cells slots (mkF m pc Ls (.null :: rest)) := by
  subst hp
  exact Run.stp (fun T locs vm0 k0 X H t k => XT.ifnonnullNo X.here G.1 rfl (G.hb hd) rfl k) K
theorem acmp_eq_t (G : Gd p s m meth c y bytes maxL ret Z a0 EL) {o : Int} {v w : Value} (hd : decode bytes pc = .ok (.if_acmp .eq o, 3)) (hv : v.isRef = true) (hw : w.isRef = true) (hc : v = w) (ho : 0 ≤ (pc : Int) + o) (hp : ((pc : Int) + o).toNat = pc') (K : Run p l e R s m args below meth c Z wd ro EL n0 ow0 Q h ow cells slots (mkF m pc' Ls rest)) : Run p l e R s m args below meth c Z wd ro EL n0 ow0 Q h ow cells slots (mkF m pc Ls (w :: v :: rest)) :=
  Run.stp (fun T locs vm0 k0 X H t k => XT.acmpYes X.here G.1 rfl rfl (G.hb hd) rfl hv hw (XT.aa_eq_t hc) ho hp k) K
theorem acmp_eq_f (G : Gd p s m meth c y bytes maxL ret Z a0 EL) {o : Int} {v w : Value} (hd : decode bytes pc = .ok (.if_acmp .eq o, 3)) (hv : v.isRef = true) (hw : w.isRef = true) (hc : ¬ v = w) (hp : pc + 3 = pc') (K : Run p l e R s m args below meth c Z wd ro EL n0 ow0 Q h ow cells slots (mkF m pc' Ls rest)) : Run p l e R s m args below meth c Z wd ro EL n0 ow0 Q h ow cells slots (mkF m pc Ls (w :: v :: rest)) := by
  subst hp
  exact Run.stp (fun T locs vm0 k0 X H t k => XT.acmpNo X.here G.1 rfl (G.hb hd) rfl hv hw (XT.aa_eq_f hc) k) K
theorem acmp_ne_t (G : Gd p s m meth c y bytes maxL ret Z a0 EL) {o : Int} {v w : Value} (hd : decode bytes pc = .ok (.if_acmp .ne o, 3)) (hv : v.isRef = true) (hw : w.isRef = true) (hc : ¬ v = w) (ho : 0 ≤ (pc : Int) + o) (hp : ((pc : Int) + o).toNat = pc') (K : Run p l e R s m args below meth c Z wd ro EL n0 ow0 Q h ow cells slots (mkF m pc' Ls rest)) : Run p l e R s m args below meth c Z wd ro EL n0 ow0 Q h ow cells slots (mkF m pc Ls (w :: v :: rest)) :=
  Run.stp (fun T locs vm0 k0 X H t k => XT.acmpYes X.here G.1 rfl rfl (G.hb hd) rfl hv hw (XT.aa_ne_t hc) ho hp k) K
theorem acmp_ne_f (G : Gd p s m meth c y bytes maxL ret Z a0 EL) {o : Int} {v w : Value} (hd : decode bytes pc = .ok (.if_acmp .ne o, 3)) (hv : v.isRef = true) (hw : w.isRef = true) (hc : v = w) (hp : pc + 3 = pc') (K : Run p l e R s m args below meth c Z wd ro EL n0 ow0 Q h ow cells slots (mkF m pc' Ls rest)) : Run p l e R s m args below meth c Z wd ro EL n0 ow0 Q h ow cells slots (mkF m pc Ls (w :: v :: rest)) := by
  subst hp
  exact Run.stp (fun T locs vm0 k0 X H t k => XT.acmpNo X.here G.1 rfl (G.hb hd) rfl hv hw (XT.aa_ne_f hc) k) K
theorem ldcInt (G : Gd p s m meth c y bytes maxL ret Z a0 EL) {idx : Nat} {v : Int32} (hd : decode bytes pc = .ok (.ldc idx, 2)) (w : (Jvm.Cond.constant y.cls idx v).before a0 Z = true) (hp : pc + 2 = pc') (K : Run p l e R s m args below meth c Z wd ro EL n0 ow0 Q h ow cells slots (mkF m pc' Ls (.int v :: st))) : Run p l e R s m args below meth c Z wd ro EL n0 ow0 Q h ow cells slots (mkF m pc Ls st) := by
  subst hp
  exact Run.stp (fun T locs vm0 k0 X H t k => X.ldcI G.1 (G.own H.1) (mv (s := s.setVm vm0) H.2.2.1 w) rfl (G.hb hd) k) K
theorem getf (G : Gd p s m meth c y bytes maxL ret Z a0 EL) {idx : Nat} {R0 O n d : String} {a : Addr} {v : Value} (hd : decode bytes pc = .ok (.getfield idx, 3)) (w : (Jvm.Cond.fieldLink y.cls idx R0 n d).before a0 Z = true) (via : Via Z R0 O n d) (F : Fld Z h a O n d v) (hp : pc + 3 = pc') (K : Run p l e R s m args below meth c Z wd ro EL n0 ow0 Q h ow cells slots (mkF m pc' Ls (v :: rest))) : Run p l e R s m args below meth c Z wd ro EL n0 ow0 Q h ow cells slots (mkF m pc Ls (.ref a :: rest)) := by
  subst hp
  exact Run.mov (fun T locs vm0 k0 X H => getF X G.1 H.2.2.1 (host := "") (G.own H.1) (Or.inl w) via H.2.2.2.1 F rfl rfl (G.hb hd)) K
theorem gets (G : Gd p s m meth c y bytes maxL ret Z a0 EL) {idx : Nat} {R0 O n d : String} {v : Value} (hd : decode bytes pc = .ok (.getstatic idx, 3)) (w : (Jvm.Cond.fieldLink y.cls idx R0 n d).before a0 Z = true) (via : Via Z R0 O n d) (F : Sta Z Z.heap O n d v) (hp : pc + 3 = pc') (K : Run p l e R s m args below meth c Z wd ro EL n0 ow0 Q h ow cells slots (mkF m pc' Ls (v :: st))) : Run p l e R s m args below meth c Z wd ro EL n0 ow0 Q h ow cells slots (mkF m pc Ls st) := by
  subst hp
  exact Run.mov (fun T locs vm0 k0 X H => getS X G.1 H.2.2.1 (host := "") (G.own H.1) w via H.2.2.2.1 (F.ext H.2.2.2.2.2.2.2.1.2) rfl (G.hb hd)) K
theorem putf (G : Gd p s m meth c y bytes maxL ret Z a0 EL) {idx kk : Nat} {R0 O n d C : String} {a : Addr} {v old : Value} {ty : FieldType} (hd : decode bytes pc = .ok (.putfield idx, 3)) (w : (Jvm.Cond.fieldLink y.cls idx R0 n d).before a0 Z = true) (via : Via Z R0 O n d) (F : Fld Z h a O n d old) (E : Exa Z h a C) (L : (Jvm.Cond.lays C O n d).before a0 Z = true ∨ ((Jvm.Cond.laysFinal C O n d).before a0 Z = true ∧ y.cls = O ∧ y.name = "<init>")) (wi : (Jvm.Cond.instantiable C kk).before a0 Z = true) (hty : parseFieldDescriptor d = some ty) (hn : narrow ty v = v) (hf : fits ty v = true) (ha : a ∈ ow) (hp : pc + 3 = pc')
    (K : ∀ h', Wr h h' a (RoadKit.slotOf Z O n d) v → Run p l e R s m args below meth c Z wd ro EL n0 ow0 Q h' ow cells slots (mkF m pc' Ls rest)) : Run p l e R s m args below meth c Z wd ro EL n0 ow0 Q h ow cells slots (mkF m pc Ls (v :: .ref a :: rest)) := by
  subst hp
  intro T locs vm0 k0 X H
  obtain ⟨T', h', X', eT, W, st⟩ := putF X G.1 H.2.2.1 (host := "") (G.own H.1) (Or.inl w) via H.2.2.2.1 F E (L.imp id fun q => ⟨q.1, q.2.1, G.2.2.2.2.2.1.trans q.2.2⟩) wi hty hn hf (g := mkF m pc Ls (v :: .ref a :: rest)) rfl rfl (G.hb hd)
  obtain ⟨s₂, o, q, r⟩ := K h' W T' _ vm0 k0 X' (H.wr W ha eT)
  exact ⟨s₂, o, st _ q, r⟩
theorem castOk (G : Gd p s m meth c y bytes maxL ret Z a0 EL) {idx : Nat} {C : String} {a : Addr} (hd : decode bytes pc = .ok (.checkcast idx, 3)) (w : (Jvm.Cond.classLink y.cls idx C).before a0 Z = true) (F : Ins Z h a C true) (hp : pc + 3 = pc') (K : Run p l e R s m args below meth c Z wd ro EL n0 ow0 Q h ow cells slots (mkF m pc' Ls (.ref a :: rest))) : Run p l e R s m args below meth c Z wd ro EL n0 ow0 Q h ow cells slots (mkF m pc Ls (.ref a :: rest)) := by
  subst hp
  exact Run.mov (fun T locs vm0 k0 X H => castY X G.1 H.2.2.1 (G.own H.1) w H.2.2.2.1 F rfl rfl (G.hb hd)) K
theorem instYes (G : Gd p s m meth c y bytes maxL ret Z a0 EL) {idx : Nat} {C : String} {a : Addr} (hd : decode bytes pc = .ok (.instanceof idx, 3)) (w : (Jvm.Cond.classLink y.cls idx C).before a0 Z = true) (F : Ins Z h a C true) (hp : pc + 3 = pc') (K : Run p l e R s m args below meth c Z wd ro EL n0 ow0 Q h ow cells slots (mkF m pc' Ls (.int 1 :: rest))) : Run p l e R s m args below meth c Z wd ro EL n0 ow0 Q h ow cells slots (mkF m pc Ls (.ref a :: rest)) := by
  subst hp
  exact Run.mov (fun T locs vm0 k0 X H => instY X G.1 H.2.2.1 (G.own H.1) w H.2.2.2.1 F rfl rfl (G.hb hd)) K
theorem instNo (G : Gd p s m meth c y bytes maxL ret Z a0 EL) {idx : Nat} {C D : String} {a : Addr} (hd : decode bytes pc = .ok (.instanceof idx, 3)) (w : (Jvm.Cond.classLink y.cls idx C).before a0 Z = true) (F : Ins Z h a C false) (E : Exa Z h a D) (hp : pc + 3 = pc') (K : Run p l e R s m args below meth c Z wd ro EL n0 ow0 Q h ow cells slots (mkF m pc' Ls (.int 0 :: rest))) : Run p l e R s m args below meth c Z wd ro EL n0 ow0 Q h ow cells slots (mkF m pc Ls (.ref a :: rest)) := by
  subst hp
  exact Run.mov (fun T locs vm0 k0 X H => instNAt X G.1 H.2.2.1 (G.own H.1) w H.2.2.2.1 F E rfl rfl (G.hb hd)) K
theorem arrlen (G : Gd p s m meth c y bytes maxL ret Z a0 EL) {a : Addr} {cl : Cell} {ty : FieldType} (hd : decode bytes pc = .ok (.arraylength, 1)) (A : Arr Z h a cl ty) (hp : pc + 1 = pc') (K : Run p l e R s m args below meth c Z wd ro EL n0 ow0 Q h ow cells slots (mkF m pc' Ls (.int cl.slots.size.toInt32 :: rest))) : Run p l e R s m args below meth c Z wd ro EL n0 ow0 Q h ow cells slots (mkF m pc Ls (.ref a :: rest)) := by
  subst hp
  exact Run.stp (fun T locs vm0 k0 X H t k => X.arraylength G.1 (H.cell A) (H.arr A) (g := mkF m pc Ls (.ref a :: rest)) rfl rfl (G.hb hd) t k) K
theorem caload (G : Gd p s m meth c y bytes maxL ret Z a0 EL) {a : Addr} {cl : Cell} {j : Int32} {v : Value} (hd : decode bytes pc = .ok (.caload, 1)) (A : Arr Z h a cl .char) (hj : ¬ (j < 0 ∨ cl.slots.size ≤ j.toNatClampNeg)) (hv : cl.slots[j.toNatClampNeg]? = some v) (hp : pc + 1 = pc') (K : Run p l e R s m args below meth c Z wd ro EL n0 ow0 Q h ow cells slots (mkF m pc' Ls (v :: rest))) : Run p l e R s m args below meth c Z wd ro EL n0 ow0 Q h ow cells slots (mkF m pc Ls (.int j :: .ref a :: rest)) := by
  subst hp
  exact Run.stp (fun T locs vm0 k0 X H t k => X.caload G.1 (H.cell A) (H.arr A) A.2.2 hj hv (g := mkF m pc Ls (.int j :: .ref a :: rest)) rfl rfl (G.hb hd) t k) K
theorem baload (G : Gd p s m meth c y bytes maxL ret Z a0 EL) {a : Addr} {cl : Cell} {j : Int32} {v : Value} (hd : decode bytes pc = .ok (.baload, 1)) (A : Arr Z h a cl .byte) (hj : ¬ (j < 0 ∨ cl.slots.size ≤ j.toNatClampNeg)) (hv : cl.slots[j.toNatClampNeg]? = some v) (hp : pc + 1 = pc') (K : Run p l e R s m args below meth c Z wd ro EL n0 ow0 Q h ow cells slots (mkF m pc' Ls (v :: rest))) : Run p l e R s m args below meth c Z wd ro EL n0 ow0 Q h ow cells slots (mkF m pc Ls (.int j :: .ref a :: rest)) := by
  subst hp
  exact Run.stp (fun T locs vm0 k0 X H t k => X.baloadBytes G.1 (H.cell A) (H.arr A) A.2.2 hj hv (g := mkF m pc Ls (.int j :: .ref a :: rest)) rfl rfl (G.hb hd) t k) K
theorem iaload (G : Gd p s m meth c y bytes maxL ret Z a0 EL) {a : Addr} {cl : Cell} {j : Int32} {v : Value} (hd : decode bytes pc = .ok (.iaload, 1)) (A : Arr Z h a cl .int) (hj : ¬ (j < 0 ∨ cl.slots.size ≤ j.toNatClampNeg)) (hv : cl.slots[j.toNatClampNeg]? = some v) (hp : pc + 1 = pc') (K : Run p l e R s m args below meth c Z wd ro EL n0 ow0 Q h ow cells slots (mkF m pc' Ls (v :: rest))) : Run p l e R s m args below meth c Z wd ro EL n0 ow0 Q h ow cells slots (mkF m pc Ls (.int j :: .ref a :: rest)) := by
  subst hp
  exact Run.stp (fun T locs vm0 k0 X H t k => X.iaload G.1 (H.cell A) (H.arr A) A.2.2 hj hv (g := mkF m pc Ls (.int j :: .ref a :: rest)) rfl rfl (G.hb hd) t k) K
theorem aaload (G : Gd p s m meth c y bytes maxL ret Z a0 EL) {a : Addr} {cl : Cell} {j : Int32} {v : Value} {ty : FieldType} (hd : decode bytes pc = .ok (.aaload, 1)) (A : Arr Z h a cl ty) (hty : ty.isReference = true) (hj : ¬ (j < 0 ∨ cl.slots.size ≤ j.toNatClampNeg)) (hv : cl.slots[j.toNatClampNeg]? = some v) (hp : pc + 1 = pc') (K : Run p l e R s m args below meth c Z wd ro EL n0 ow0 Q h ow cells slots (mkF m pc' Ls (v :: rest))) : Run p l e R s m args below meth c Z wd ro EL n0 ow0 Q h ow cells slots (mkF m pc Ls (.int j :: .ref a :: rest)) := by
  subst hp
  exact Run.stp (fun T locs vm0 k0 X H t k => X.aaload G.1 (H.cell A) (H.arr A) hty A.2.2 hj hv (g := mkF m pc Ls (.int j :: .ref a :: rest)) rfl rfl (G.hb hd) t k) K
theorem castore (G : Gd p s m meth c y bytes maxL ret Z a0 EL) {a : Addr} {cl : Cell} {j x : Int32} (hd : decode bytes pc = .ok (.castore, 1)) (A : Arr Z h a cl .char) (hj : ¬ (j < 0 ∨ cl.slots.size ≤ j.toNatClampNeg)) (ha : a ∈ ow) (hp : pc + 1 = pc') (K : ∀ h', Wr h h' a j.toNatClampNeg (.int (nar .char x)) → Run p l e R s m args below meth c Z wd ro EL n0 ow0 Q h' ow cells slots (mkF m pc' Ls rest)) : Run p l e R s m args below meth c Z wd ro EL n0 ow0 Q h ow cells slots (mkF m pc Ls (.int x :: .int j :: .ref a :: rest)) := by
  subst hp
  intro T locs vm0 k0 X H
  obtain ⟨T', h', X', eT, W, st⟩ := stC X G.1 H.2.2.1 H.2.2.2.1 A hj (g := mkF m pc Ls (.int x :: .int j :: .ref a :: rest)) rfl rfl (G.hb hd)
  obtain ⟨s₂, o, q, r⟩ := K h' W T' _ vm0 k0 X' (H.wr W ha eT)
  exact ⟨s₂, o, st _ q, r⟩
theorem bastore (G : Gd p s m meth c y bytes maxL ret Z a0 EL) {a : Addr} {cl : Cell} {j x : Int32} (hd : decode bytes pc = .ok (.bastore, 1)) (A : Arr Z h a cl .byte) (hj : ¬ (j < 0 ∨ cl.slots.size ≤ j.toNatClampNeg)) (ha : a ∈ ow) (hp : pc + 1 = pc') (K : ∀ h', Wr h h' a j.toNatClampNeg (.int (nar .byte x)) → Run p l e R s m args below meth c Z wd ro EL n0 ow0 Q h' ow cells slots (mkF m pc' Ls rest)) : Run p l e R s m args below meth c Z wd ro EL n0 ow0 Q h ow cells slots (mkF m pc Ls (.int x :: .int j :: .ref a :: rest)) := by
  subst hp
  intro T locs vm0 k0 X H
  obtain ⟨T', h', X', eT, W, st⟩ := stB X G.1 H.2.2.1 H.2.2.2.1 A hj (g := mkF m pc Ls (.int x :: .int j :: .ref a :: rest)) rfl rfl (G.hb hd)
  obtain ⟨s₂, o, q, r⟩ := K h' W T' _ vm0 k0 X' (H.wr W ha eT)
  exact ⟨s₂, o, st _ q, r⟩
theorem newarr (G : Gd p s m meth c y bytes maxL ret Z a0 EL) {aty : ArrayType} {n : Int32} {cap : Nat} (hd : decode bytes pc = .ok (.newarray aty, 2)) (w : (Jvm.Cond.arrayClass (newarray.typeOf aty)).before a0 Z = true) (hn : ¬ n < 0) (hcap : n.toNatClampNeg ≤ cap) (hb : cap * 8 ≤ 536870912) (hc : cells + 1 ≤ R.cells) (hl : slots + cap ≤ R.slots) (hc' : cells + 1 = cells') (hs' : slots + cap = slots') (hp : pc + 2 = pc')
    (K : ∀ (h' : Heap) (cA : ClassId) (a : Addr), a = h.size → Ext h h' → Arr Z h' a (newA cA (newarray.typeOf aty) n) (newarray.typeOf aty) → Run p l e R s m args below meth c Z wd ro EL n0 ow0 Q h' (a :: ow) cells' slots' (mkF m pc' Ls (.ref a :: rest))) : Run p l e R s m args below meth c Z wd ro EL n0 ow0 Q h ow cells slots (mkF m pc Ls (.int n :: rest)) := by
  subst hp hc' hs'
  intro T locs vm0 k0 X H
  obtain ⟨T', h', cA, X', eT, E, A, st⟩ := newP X G.1 H.2.2.1 w H.2.2.2.1 (g := mkF m pc Ls (.int n :: rest)) rfl (G.hb hd) rfl hn hcap hb hc hl
  obtain ⟨s₂, o, q, r⟩ := K h' cA h.size rfl E A T' _ vm0 k0 X' (H.ext E A.lt eT)
  exact ⟨s₂, o, st _ q, r⟩
theorem newobj (G : Gd p s m meth c y bytes maxL ret Z a0 EL) {idx n : Nat} {C : String} (hd : decode bytes pc = .ok (.new idx, 3)) (w : (Jvm.Cond.classLink y.cls idx C).before a0 Z = true) (wi : (Jvm.Cond.instantiable C n).before a0 Z = true) (wz : (Jvm.Cond.initialized C).before a0 Z = true) (hc : cells + 1 ≤ R.cells) (hl : slots + n ≤ R.slots) (hc' : cells + 1 = cells') (hs' : slots + n = slots') (hp : pc + 3 = pc')
    (K : ∀ (h' : Heap) (a : Addr), a = h.size → Ext h h' → Exa Z h' a C → (∀ {O nm d : String} {ty : FieldType}, Laid Z a0 C O nm d → parseFieldDescriptor d = some ty → Fld Z h' a O nm d (defaultValue ty)) → Run p l e R s m args below meth c Z wd ro EL n0 ow0 Q h' (a :: ow) cells' slots' (mkF m pc' Ls (.ref a :: st))) : Run p l e R s m args below meth c Z wd ro EL n0 ow0 Q h ow cells slots (mkF m pc Ls st) := by
  subst hp hc' hs'
  intro T locs vm0 k0 X H
  obtain ⟨T', h', X', eT, E, A, D, -, st⟩ := newO X G.1 H.2.2.1 (G.own H.1) w wi wz H.2.2.2.1 (g := mkF m pc Ls st) rfl (G.hb hd) hc hl
  obtain ⟨s₂, o, q, r⟩ := K h' h.size rfl E A D T' _ vm0 k0 X' (H.ext E A.lt eT)
  exact ⟨s₂, o, st _ q, r⟩
theorem initObj (G : Gd p s m meth c y bytes maxL ret Z a0 EL) {idx : Nat} {a : Addr} {W : Nat} (hd : decode bytes pc = .ok (.invokespecial idx, 3)) (w1 : (Jvm.Cond.methodLink y.cls idx Lib.objectInit).before a0 Z = true) (w2 : (Jvm.Cond.instanceMethod Lib.objectInit).before a0 Z = true) (w3 : (Jvm.Cond.code Lib.objectInit ⟨#[0xb1]⟩ 1 none).before a0 Z = true) (hsz : Ls.size = maxL) (hf : 1 ≤ R.frames) (hW : (rest.map fun v => v.category).sum ≤ W) (hl : W + 12 ≤ R.locals) (hp : pc + 3 = pc') (K : Run p l e R s m args below meth c Z wd ro EL n0 ow0 Q h ow cells slots (mkF m pc' Ls rest)) : Run p l e R s m args below meth c Z wd ro EL n0 ow0 Q h ow cells slots (mkF m pc Ls (.ref a :: rest)) := by
  subst hp
  exact Run.mov (fun T locs vm0 k0 X H => initO X G.1 H.2.2.1 (G.own H.1) w1 w2 w3 H.2.2.2.1 rfl (hsz.trans G.2.2.1.symm) rfl (G.hb hd) hf (by show 2 * 0 + _ ≤ W; omega) hl) K
theorem instNull (G : Gd p s m meth c y bytes maxL ret Z a0 EL) {idx : Nat} (hd : decode bytes pc = .ok (.instanceof idx, 3)) (hp : pc + 3 = pc') (K : Run p l e R s m args below meth c Z wd ro EL n0 ow0 Q h ow cells slots (mkF m pc' Ls (.int 0 :: rest))) : Run p l e R s m args below meth c Z wd ro EL n0 ow0 Q h ow cells slots (mkF m pc Ls (.null :: rest)) := by
  subst hp
  exact Run.stp (fun T locs vm0 k0 X H t k => X.instanceofNull G.1 (g := mkF m pc Ls (.null :: rest)) rfl rfl (G.hb hd) t k) K
theorem cloneArr (G : Gd p s m meth c y bytes maxL ret Z a0 EL) {idx cap W : Nat} {ad : String} {a : Addr} {cl : Cell} {ty : FieldType} (hd : decode bytes pc = .ok (.invokevirtual idx, 3)) (w1 : (Jvm.Cond.methodLink y.cls idx ⟨ad, "clone", "()Ljava/lang/Object;"⟩).before a0 Z = true) (w2 : (Jvm.Cond.sameMethod ad "java/lang/Object" "clone" "()Ljava/lang/Object;").before a0 Z = true) (w3 : (Jvm.Cond.native ⟨"java/lang/Object", "clone", "()Ljava/lang/Object;"⟩).before a0 Z = true) (w4 : (Jvm.Cond.instanceMethod ⟨"java/lang/Object", "clone", "()Ljava/lang/Object;"⟩).before a0 Z = true) (w5 : (Jvm.Cond.selects ad ⟨ad, "clone", "()Ljava/lang/Object;"⟩ ⟨"java/lang/Object", "clone", "()Ljava/lang/Object;"⟩).before a0 Z = true) (w6 : (Jvm.Cond.castable ad "java/lang/Cloneable").before a0 Z = true)
    (A : Arr Z h a cl ty) (E : Exa Z h a ad) (F : FitC Z cl) (hsz : Ls.size = maxL) (hf : 1 ≤ R.frames) (hW : (rest.map fun v => v.category).sum ≤ W) (hl : W + 14 ≤ R.locals) (hcap : cl.slots.size ≤ cap) (hc : cells + 1 ≤ R.cells) (hsl : slots + cap ≤ R.slots) (hc' : cells + 1 = cells') (hs' : slots + cap = slots') (hp : pc + 3 = pc')
    (K : ∀ (h' : Heap) (a' : Addr), a' = h.size → Ext h h' → Arr Z h' a' (cloneOf cl) ty → Exa Z h' a' ad → Run p l e R s m args below meth c Z wd ro EL n0 ow0 Q h' (a' :: ow) cells' slots' (mkF m pc' Ls (.ref a' :: rest))) : Run p l e R s m args below meth c Z wd ro EL n0 ow0 Q h ow cells slots (mkF m pc Ls (.ref a :: rest)) := by
  subst hp hc' hs'
  intro T locs vm0 k0 X H
  obtain ⟨T', h', X', eT, Ex, A', E', st⟩ := cloneA X G.1 H.2.2.1 (G.own H.1) w1 w2 w3 w4 w5 w6 H.2.2.2.1 A E F (g := mkF m pc Ls (.ref a :: rest)) rfl (hsz.trans G.2.2.1.symm) rfl (G.hb hd) hf (W := W) (by show 2 * 0 + _ ≤ W; omega) hl hcap hc hsl
  obtain ⟨s₂, o, q, r⟩ := K h' h.size rfl Ex A' E' T' _ vm0 k0 X' (H.ext Ex A'.lt eT)
  exact ⟨s₂, o, st _ q, r⟩
theorem ldcStr (G : Gd p s m meth c y bytes maxL ret Z a0 EL) {idx n : Nat} {text : String} {vs : List Value} {z : Int32} (hd : decode bytes pc = .ok (.ldc idx, 2)) (hwd : wd = true) (w : (Jvm.Cond.stringLink y.cls idx text).before a0 Z = true) (wS : ∀ a ∈ Bundle.stringAtoms, a.before a0 Z = true) (hmem : (y.cls, idx) ∈ EL)
    (ht : (∀ c ∈ text.toList, c.toNat < 256) ∧ text.toList.map (fun c => Value.int (Jvm.Lit.byteI c.toNat.toUInt16)) = vs) (hz : ¬ z < 0) (hl : z.toNatClampNeg = vs.length) (hn : 4 * text.toList.length ≤ n) (hbig : n ≤ 536870912) (hc : cells + 2 ≤ R.cells) (hl' : slots + (n + 4) ≤ R.slots) (hc' : cells + 2 = cells') (hs' : slots + (n + 4) = slots') (hp : pc + 2 = pc')
    (K : ∀ (a b : Addr) (k : ClassId) (h' : Heap), Ext h h' → Exa Z h' a "java/lang/String" → Fld Z h' a "java/lang/String" "coder" "B" (.int 0) → Fld Z h' a "java/lang/String" "value" "[B" (.ref b) → Arv Z h' b k .byte z vs (.int 0) → (∀ x ∈ ow, x ≠ a ∧ x ≠ b) → Run p l e R s m args below meth c Z wd ro EL n0 ow0 Q h' ow cells' slots' (mkF m pc' Ls (.ref a :: st))) : Run p l e R s m args below meth c Z wd ro EL n0 ow0 Q h ow cells slots (mkF m pc Ls st) := by
  subst hp hc' hs'
  intro T locs vm0 k0 X H
  obtain ⟨i1, i2, i3, i4, i5, i6, i7, i8, i9, i10⟩ := H
  obtain ⟨a, T', h', k1, b, k, X', eT, E, hS, hk, hW, -, q1, q2, q3, q4, -, -, hC, -, hne, st⟩ := ldcCH X G.1 i3 (G.own i1) w wS i4 i1 i2 G.2.2.2.2.2.2.2 hmem i6.1 ht hz hl (g := mkF m pc Ls st) rfl (G.hb hd) hn hbig hc hl'
  have hsafe : ∀ x ∈ ow, Safe Z EL T'.vm h' x := fun x hx => hC.safe (i9 x hx).2.1 (i9 x hx).1
  obtain ⟨s₂, o, q, r⟩ := K a b k h' E q1 q2 q3 q4 (fun x hx => hne x (hsafe x hx)) T' locs T'.vm k1 X' ⟨hS, hk, hW, eT, i5, i6.trans hC, i7.ext E, i8.ext E, fun x hx => ⟨hsafe x hx, Nat.lt_of_lt_of_le (i9 x hx).2.1 E.1, (i9 x hx).2.2⟩, Or.inl hwd⟩
  exact ⟨s₂, o, st _ q, r⟩
theorem ldcOpaque (G : Gd p s m meth c y bytes maxL ret Z a0 EL) {idx n : Nat} {text : String} (hd : decode bytes pc = .ok (.ldc idx, 2)) (hwd : wd = true) (w : (Jvm.Cond.stringLink y.cls idx text).before a0 Z = true) (wS : ∀ a ∈ Bundle.stringAtoms, a.before a0 Z = true)
    (hn : 4 * text.toList.length ≤ n) (hbig : n ≤ 536870912) (hc : cells + 2 ≤ R.cells) (hl' : slots + (n + 4) ≤ R.slots) (hc' : cells + 2 = cells') (hs' : slots + (n + 4) = slots') (hp : pc + 2 = pc')
    (K : ∀ (a : Addr) (h' : Heap), Ext h h' → Run p l e R s m args below meth c Z wd ro EL n0 ow0 Q h' ow cells' slots' (mkF m pc' Ls (.ref a :: st))) : Run p l e R s m args below meth c Z wd ro EL n0 ow0 Q h ow cells slots (mkF m pc Ls st) := by
  subst hp hc' hs'
  intro T locs vm0 k0 X H
  obtain ⟨i1, i2, i3, i4, i5, i6, i7, i8, i9, i10⟩ := H
  obtain ⟨a, T', h', k1, X', eT, E, hS, hk, hW, -, hC, -, st⟩ := ldcOH X G.1 i3 (G.own i1) w wS i4 i1 i2 G.2.2.2.2.2.2.2 i6.1 (g := mkF m pc Ls st) rfl (G.hb hd) hn hbig hc hl'
  have hsafe : ∀ x ∈ ow, Safe Z EL T'.vm h' x := fun x hx => hC.safe (i9 x hx).2.1 (i9 x hx).1
  obtain ⟨s₂, o, q, r⟩ := K a h' E T' locs T'.vm k1 X' ⟨hS, hk, hW, eT, i5, i6.trans hC, i7.ext E, i8.ext E, fun x hx => ⟨hsafe x hx, Nat.lt_of_lt_of_le (i9 x hx).2.1 E.1, (i9 x hx).2.2⟩, Or.inl hwd⟩
  exact ⟨s₂, o, st _ q, r⟩
theorem fin (G : Gd p s m meth c y bytes maxL ret Z a0 EL) {v : Option Value} {g : JFrame} (hro : ro = true → ∀ d, v = some (.ref d) → d ∈ ow ∧ d ∉ ow0) (hv : ret = none → v = none) (hc : cells ≤ R.cells) (hs : slots ≤ R.slots) (q : Q v h)
    (stp : ∀ (T : State) (locs : List Loc) (vm0 : Vm) (k0 : Nat) (fs : List Frame), Stand p l e R (s.setVm vm0) m args below meth c T locs cells slots → (∀ (f : JFrame) (acts : List Action), f.method = m → f.locked = none → f.entered = [] → (doReturn e (T.setTop f) acts v).1 = T.setFrames fs) → Steps p.tables e below (T.setTop g) (T.setFrames fs)) : Run p l e R s m args below meth c Z wd ro EL n0 ow0 Q h ow cells slots g := by
  intro T locs vm0 k0 X H
  obtain ⟨i1, i2, i3, i4, i5, i6, i7, i8, i9, i10⟩ := H
  obtain ⟨fs, hr, hrun, hended, hW⟩ := X.leaveW i1 (by rw [i4]; exact i2) (v := v) (fun h => hv (G.2.2.2.2.1.symm.trans h)) G.2.2.2.2.2.2.1
  have hT : (T.setFrames fs).heap = h := i4
  have hA := CHv.at X i3 G.2.2.2.2.2.2.2 i6.1
  refine ⟨_, _, stp T locs vm0 k0 fs X hr, hrun, hended, v, locs, rfl, by rw [hT]; exact q, i5, by rw [hT]; exact i6.trans hA, by rw [hT]; exact i7, ⟨hW.1, hW.2.1, hW.2.2.1, hW.2.2.2.mono hc hs⟩, i10.imp id (fun w => State.WarmedH.trans (t := s.setVm vm0) w X.warmed), fun hr d hd => ?_⟩
  obtain ⟨q1, q2⟩ := hro hr d hd
  obtain ⟨w1, w2, w3, w4⟩ := i9 d q1
  rw [hT]
  exact ⟨hA.safe w2 w1, w2, w3, w4.elim (fun z => absurd z q2) id⟩
theorem retInt (G : Gd p s m meth c y bytes maxL ret Z a0 EL) {z : Int32} (hd : decode bytes pc = .ok (.ireturn, 1)) (hret : ret = some .int) (hc : cells ≤ R.cells) (hs : slots ≤ R.slots) (q : Q (some (.int z)) h) : Run p l e R s m args below meth c Z wd ro EL n0 ow0 Q h ow cells slots (mkF m pc Ls (.int z :: rest)) :=
  fin G (fun _ d z => by cases z) (fun h => by rw [hret] at h; cases h) hc hs q fun T locs vm0 k0 fs X hr => retOut X G.1 (G.2.2.2.2.1.trans hret) rfl (Or.inl ⟨rfl, Or.inl rfl, z, rfl⟩) (G.hb hd) hr
theorem retNar (G : Gd p s m meth c y bytes maxL ret Z a0 EL) {z : Int32} {t : FieldType} (hd : decode bytes pc = .ok (.ireturn, 1)) (hret : ret = some t) (ht : t = .boolean ∨ t = .byte ∨ t = .char ∨ t = .short) (hc : cells ≤ R.cells) (hs : slots ≤ R.slots) (q : Q (some (.int (nar t z))) h) : Run p l e R s m args below meth c Z wd ro EL n0 ow0 Q h ow cells slots (mkF m pc Ls (.int z :: rest)) :=
  fin G (fun _ d z => by cases z) (fun h => by rw [hret] at h; cases h) hc hs q fun T locs vm0 k0 fs X hr => retN X G.1 (G.2.2.2.2.1.trans hret) ht (G.hb hd) hr
theorem retRef (G : Gd p s m meth c y bytes maxL ret Z a0 EL) {v : Value} {t : FieldType} (hro : ro = false) (hd : decode bytes pc = .ok (.areturn, 1)) (hret : ret = some t) (ht : t.isReference = true) (hv : v.isRef = true) (hc : cells ≤ R.cells) (hs : slots ≤ R.slots) (q : Q (some v) h) : Run p l e R s m args below meth c Z wd ro EL n0 ow0 Q h ow cells slots (mkF m pc Ls (v :: rest)) :=
  fin G (fun z => by rw [hro] at z; cases z) (fun h => by rw [hret] at h; cases h) hc hs q fun T locs vm0 k0 fs X hr => retOut X G.1 (G.2.2.2.2.1.trans hret) (by cases t <;> cases v <;> first | rfl | (simp [Value.isRef, FieldType.isReference] at hv ht)) (Or.inr (Or.inr (Or.inr (Or.inr ⟨rfl, ht, hv⟩)))) (G.hb hd) hr
theorem retOwn (G : Gd p s m meth c y bytes maxL ret Z a0 EL) {a : Addr} {t : FieldType} (ha : a ∈ ow) (hn : a ∉ ow0) (hd : decode bytes pc = .ok (.areturn, 1)) (hret : ret = some t) (ht : t.isReference = true) (hc : cells ≤ R.cells) (hs : slots ≤ R.slots) (q : Q (some (.ref a)) h) : Run p l e R s m args below meth c Z wd ro EL n0 ow0 Q h ow cells slots (mkF m pc Ls (.ref a :: rest)) :=
  fin G (fun _ d z => by cases z; exact ⟨ha, hn⟩) (fun h => by rw [hret] at h; cases h) hc hs q fun T locs vm0 k0 fs X hr => retOut X G.1 (G.2.2.2.2.1.trans hret) (by cases t <;> first | rfl | (simp [FieldType.isReference] at ht)) (Or.inr (Or.inr (Or.inr (Or.inr ⟨rfl, ht, rfl⟩)))) (G.hb hd) hr
theorem retVoid (G : Gd p s m meth c y bytes maxL ret Z a0 EL) (hd : decode bytes pc = .ok (.return_, 1)) (hret : ret = none) (hc : cells ≤ R.cells) (hs : slots ≤ R.slots) (q : Q none h) : Run p l e R s m args below meth c Z wd ro EL n0 ow0 Q h ow cells slots (mkF m pc Ls []) :=
  fin G (fun _ d z => by cases z) (fun _ => rfl) hc hs q fun T locs vm0 k0 fs X hr => X.returnOut G.1 (G.2.2.2.2.1.trans hret) (G.hb hd) hr
/-- a callee's contract pays the call -/
theorem backG {y' : MethodName} {bytes' : ByteArray} {maxL' : Nat} {ret' : Option FieldType} {rm : Room} {len W : Nat} {as' : Array Value} {owc : List Addr} {Q' : Option Value → Heap → Prop} {ro' : Bool} {vm0 : Vm}
    (C : Con l Z wd ro' EL n0 y' bytes' maxL' ret' rm [] as' h owc Q') (hZ : Z.Warmed39 vm0) (wc : (Jvm.Cond.code y' bytes' maxL' ret').before a0 Z = true) (wz : (Jvm.Cond.initialized y'.cls).before a0 Z = true) (hf : rm.frames + 1 ≤ R.frames) (hl : W + (maxL' + 11) + rm.locals ≤ R.locals) (hEL : EW Z a0 EL) (H : CHv Z EL vm0 h) (hO : Old Z n0 h) (hS : ∀ x ∈ owc, Safe Z EL vm0 h x ∧ x < h.size ∧ n0 ≤ x) :
    BackS l R p e below (s.setVm vm0) args y' len W (fun A a => a = as' ∧ A.U.heap = h ∧ A.cells + rm.cells ≤ R.cells ∧ A.slots + rm.slots ≤ R.slots)
      (fun A _ v B => ∃ L, Q' v B.U.heap ∧ Fr n0 L ∧ Keep h B.U.heap owc ∧ B.locs = A.locs ++ L ∧ B.cells = A.cells + rm.cells ∧ B.slots = A.slots + rm.slots ∧ CHr Z EL vm0 h B.U.vm B.U.heap ∧ (wd = true ∨ (s.setVm vm0).WarmedH B.U.vm) ∧ (ro' = true → ∀ d, v = some (.ref d) → Safe Z EL B.U.vm B.U.heap d ∧ d < B.U.heap.size ∧ n0 ≤ d ∧ h.size ≤ d)) :=
  BackS.of_freeW (bytes := bytes') (maxL := maxL') (ret := ret') (E := fun _ first o t L k n => k = rm.cells ∧ n = rm.slots ∧ (∃ v, o = .returned v ∧ Q' v t.heap) ∧ Fr n0 L ∧ Keep first.heap t.heap owc ∧ CHr Z EL first.vm first.heap t.vm t.heap ∧ (wd = true ∨ first.WarmedH t.vm) ∧ (ro' = true → ∀ v d, o = .returned v → v = some (.ref d) → Safe Z EL t.vm t.heap d ∧ d < t.heap.size ∧ n0 ≤ d ∧ first.heap.size ≤ d)) C hf hl
    (fun m meth c A a Y hp => have hU : Z.Warmed39 A.U.vm := wtrans (s := s.setVm vm0) hZ Y.warmed
      ⟨by show (Cond.and _ .tt).before a A.U = true; rw [Cond.before_and, mv hU wc]; rfl, mv hU wc, mv hU wz, hp.2.2.1, hp.2.2.2⟩)
    (fun m meth c A a g mk Y hp => ⟨hp.1, wtrans (s := s.setVm vm0) hZ Y.warmed, hp.2.1, hO, (CHv.at Y hZ hEL H).1, fun x hx => ⟨(CHv.at Y hZ hEL H).safe (hS x hx).2.1 (hS x hx).1, (hS x hx).2⟩⟩) (fun _ _ _ _ _ _ _ _ _ => trivial)
    (fun _ _ _ _ ⟨v, L, h1, h2, h3, h4, h5, h6, h7, h8⟩ => ⟨L, _, _, h6, rfl, rfl, ⟨v, h1, h2⟩, h3, h5, h4, h7, fun hr w d e1 e2 => h8 hr d (by rw [h1] at e1; cases e1; exact e2)⟩)
    (fun m meth c A a g mk v t L k n Y hp _ _ ⟨e1, e2, ⟨v', e3, e4⟩, e5, e6, e7, e8, e9⟩ => by
      cases e3; subst e1 e2
      have hh : (A.U.calling g mk a).heap = h := hp.2.1
      rw [hh] at e6 e7 e9
      exact ⟨L, e4, e5, e6, rfl, rfl, rfl, (CHv.at Y hZ hEL H).trans e7, e8.imp id (fun w => State.WarmedH.trans (t := A.U) Y.warmed w), fun hr d hd => e9 hr v d rfl hd⟩)
theorem Hid.call {T T' : State} {locs L : List Loc} {vm0 : Vm} {k0 : Nat} {owc : List Addr} (H : Hid s Z wd EL n0 ow0 ow T locs vm0 k0 h) (how : ∀ x ∈ owc, x ∈ ow) (hS : (s.setVm vm0).Since T'.vm T'.heap.size) (N : Fr n0 L) (K : Keep h T'.heap owc) (hC : CHr Z EL vm0 h T'.vm T'.heap) (hw : wd = true ∨ (s.setVm vm0).WarmedH T'.vm) :
    Hid s Z wd EL n0 ow0 ow T' (locs ++ L) T'.vm T'.heap.size T'.heap := by
  obtain ⟨i1, i2, i3, i4, i5, i6, i7, i8, i9, i10⟩ := H
  refine ⟨i1.trans hS (Nat.le_trans i2 K.1), Nat.le_refl _, State.Warmed39.trans (t := s.setVm vm0) i3 hS.1, rfl, i5.app N, i6.trans hC, i7.trans K (fun x hx => (i9 x (how x hx)).2.2.2), i8.keep K (fun x hx => (i9 x (how x hx)).2.2.1), fun x hx => ⟨hC.safe (i9 x hx).2.1 (i9 x hx).1, Nat.lt_of_lt_of_le (i9 x hx).2.1 K.1, (i9 x hx).2.2⟩, ?_⟩
  rcases hw with hw | hw
  · exact Or.inl hw
  · exact i10.imp id fun w => State.WarmedH.trans (t := s.setVm vm0) w hw
theorem Hid.own {T : State} {locs : List Loc} {vm0 : Vm} {k0 : Nat} {d : Addr} (H : Hid s Z wd EL n0 ow0 ow T locs vm0 k0 h) (q : Safe Z EL vm0 h d ∧ d < h.size ∧ n0 ≤ d ∧ (d ∈ ow0 ∨ s.heap.size ≤ d)) : Hid s Z wd EL n0 ow0 (d :: ow) T locs vm0 k0 h := by
  obtain ⟨i1, i2, i3, i4, i5, i6, i7, i8, i9, i10⟩ := H
  refine ⟨i1, i2, i3, i4, i5, i6, i7, i8, fun x hx => ?_, i10⟩
  rcases List.mem_cons.mp hx with rfl | hx
  · exact q
  · exact i9 x hx
theorem callStatic (G : Gd p s m meth c y bytes maxL ret Z a0 EL) {idx : Nat} {y' : MethodName} {bytes' : ByteArray} {maxL' : Nat} {ret' : Option FieldType} {rm : Room} {W : Nat} {argsL : List Value} {owc : List Addr} {Q' : Option Value → Heap → Prop} {ro' : Bool} (hd : decode bytes pc = .ok (.invokestatic idx, 3))
    (w1 : (Jvm.Cond.methodLink y.cls idx y').before a0 Z = true) (w2 : (Jvm.Cond.static y').before a0 Z = true) (w3 : (Jvm.Cond.initialized y'.cls).before a0 Z = true) (w4 : (Jvm.Cond.code y' bytes' maxL' ret').before a0 Z = true) (hy : y'.cls ≠ "java/lang/invoke/MethodHandle" ∧ y'.cls ≠ "java/lang/invoke/VarHandle")
    (C : Con l Z wd ro' EL n0 y' bytes' maxL' ret' rm [] argsL.toArray h owc Q') (hst : st = argsL.reverse ++ rest) (hlen : ∀ sig, parseMethodDescriptor y'.desc = some sig → argsL.length = sig.parameters.length) (hsz : Ls.size = maxL) (hfr : rm.frames + 1 ≤ R.frames) (hW : (rest.map fun v => v.category).sum ≤ W) (hlo : W + (maxL' + 11) + rm.locals ≤ R.locals) (hc : cells + rm.cells ≤ R.cells) (hs : slots + rm.slots ≤ R.slots) (how : ∀ x ∈ owc, x ∈ ow) (hc' : cells + rm.cells = cells') (hs' : slots + rm.slots = slots') (hp : pc + 3 = pc')
    (K : ∀ (v : Option Value) (h' : Heap), Q' v h' → Keep h h' owc → Run p l e R s m args below meth c Z wd ro EL n0 ow0 Q h' ow cells' slots' (mkF m pc' Ls (v.toList ++ rest))) : Run p l e R s m args below meth c Z wd ro EL n0 ow0 Q h ow cells slots (mkF m pc Ls st) := by
  subst hp hst hc' hs'
  intro T locs vm0 k0 X H
  have hZ := H.2.2.1
  obtain ⟨v, vm₁, B, -, X', hS, -, ⟨L, q1, q2, q3, q4, q5, q6, q7, q8, q9⟩, stp⟩ := callSS X G.1 (bytes := bytes') (maxL := maxL') (ret := ret') (G.own H.1) (mv (s := s.setVm vm0) hZ w1) (mv (s := s.setVm vm0) hZ w2) (mv (s := s.setVm vm0) hZ w3) (mv (s := s.setVm vm0) hZ w4) hy
    (backG C hZ w4 w3 hfr hlo G.2.2.2.2.2.2.2 H.2.2.2.2.2.1.1 H.2.2.2.2.2.2.2.1 (fun x hx => ⟨(H.2.2.2.2.2.2.2.2.1 x (how x hx)).1, (H.2.2.2.2.2.2.2.2.1 x (how x hx)).2.1, (H.2.2.2.2.2.2.2.2.1 x (how x hx)).2.2.1⟩)) (g := mkF m pc Ls (argsL.reverse ++ rest)) rfl (hsz.trans G.2.2.1.symm) hlen rfl (by show 2 * 0 + _ ≤ W; omega) (G.hb hd) (fun _ _ => ⟨rfl, H.2.2.2.1, hc, hs⟩)
  obtain ⟨T', Lc, kc, nc⟩ := B
  dsimp only [Pt.U, Pt.locs, Pt.cells, Pt.slots] at X' q1 q3 q4 q5 q6 q7 q8 q9 hS stp
  subst q4 q5 q6
  obtain ⟨s₂, o, q, r⟩ := K v T'.heap q1 q3 T' (locs ++ L) T'.vm T'.heap.size X' (H.call how hS q2 q3 q7 q8)
  exact ⟨s₂, o, stp.trans q, r⟩
theorem callStaticO (G : Gd p s m meth c y bytes maxL ret Z a0 EL) {idx : Nat} {y' : MethodName} {bytes' : ByteArray} {maxL' : Nat} {ret' : Option FieldType} {rm : Room} {W : Nat} {argsL : List Value} {owc : List Addr} {Q' : Option Value → Heap → Prop} (hd : decode bytes pc = .ok (.invokestatic idx, 3))
    (w1 : (Jvm.Cond.methodLink y.cls idx y').before a0 Z = true) (w2 : (Jvm.Cond.static y').before a0 Z = true) (w3 : (Jvm.Cond.initialized y'.cls).before a0 Z = true) (w4 : (Jvm.Cond.code y' bytes' maxL' ret').before a0 Z = true) (hy : y'.cls ≠ "java/lang/invoke/MethodHandle" ∧ y'.cls ≠ "java/lang/invoke/VarHandle")
    (C : Con l Z wd true EL n0 y' bytes' maxL' ret' rm [] argsL.toArray h owc Q') (hst : st = argsL.reverse ++ rest) (hlen : ∀ sig, parseMethodDescriptor y'.desc = some sig → argsL.length = sig.parameters.length) (hsz : Ls.size = maxL) (hfr : rm.frames + 1 ≤ R.frames) (hW : (rest.map fun v => v.category).sum ≤ W) (hlo : W + (maxL' + 11) + rm.locals ≤ R.locals) (hc : cells + rm.cells ≤ R.cells) (hs : slots + rm.slots ≤ R.slots) (how : ∀ x ∈ owc, x ∈ ow) (hc' : cells + rm.cells = cells') (hs' : slots + rm.slots = slots') (hp : pc + 3 = pc')
    (hq : ∀ v h', Q' v h' → ∃ d, v = some (.ref d)) (K : ∀ (d : Addr) (h' : Heap), Q' (some (.ref d)) h' → Keep h h' owc → h.size ≤ d → Run p l e R s m args below meth c Z wd ro EL n0 ow0 Q h' (d :: ow) cells' slots' (mkF m pc' Ls (.ref d :: rest))) : Run p l e R s m args below meth c Z wd ro EL n0 ow0 Q h ow cells slots (mkF m pc Ls st) := by
  subst hp hst hc' hs'
  intro T locs vm0 k0 X H
  have hZ := H.2.2.1
  obtain ⟨v, vm₁, B, -, X', hS, -, ⟨L, q1, q2, q3, q4, q5, q6, q7, q8, q9⟩, stp⟩ := callSS X G.1 (bytes := bytes') (maxL := maxL') (ret := ret') (G.own H.1) (mv (s := s.setVm vm0) hZ w1) (mv (s := s.setVm vm0) hZ w2) (mv (s := s.setVm vm0) hZ w3) (mv (s := s.setVm vm0) hZ w4) hy
    (backG C hZ w4 w3 hfr hlo G.2.2.2.2.2.2.2 H.2.2.2.2.2.1.1 H.2.2.2.2.2.2.2.1 (fun x hx => ⟨(H.2.2.2.2.2.2.2.2.1 x (how x hx)).1, (H.2.2.2.2.2.2.2.2.1 x (how x hx)).2.1, (H.2.2.2.2.2.2.2.2.1 x (how x hx)).2.2.1⟩)) (g := mkF m pc Ls (argsL.reverse ++ rest)) rfl (hsz.trans G.2.2.1.symm) hlen rfl (by show 2 * 0 + _ ≤ W; omega) (G.hb hd) (fun _ _ => ⟨rfl, H.2.2.2.1, hc, hs⟩)
  obtain ⟨T', Lc, kc, nc⟩ := B
  dsimp only [Pt.U, Pt.locs, Pt.cells, Pt.slots] at X' q1 q3 q4 q5 q6 q7 q8 q9 hS stp
  subst q4 q5 q6
  obtain ⟨d, rfl⟩ := hq _ _ q1
  obtain ⟨o1, o2, o3, o4⟩ := q9 rfl d rfl
  obtain ⟨s₂, o, q, r⟩ := K d T'.heap q1 q3 o4 T' (locs ++ L) T'.vm T'.heap.size X' ((H.call how hS q2 q3 q7 q8).own ⟨o1, o2, o3, Or.inr (Nat.le_trans H.2.2.2.2.2.2.1.1 o4)⟩)
  exact ⟨s₂, o, stp.trans q, r⟩
theorem callSpecial (G : Gd p s m meth c y bytes maxL ret Z a0 EL) {idx : Nat} {y' : MethodName} {bytes' : ByteArray} {maxL' : Nat} {rm : Room} {W : Nat} {a : Addr} {argsL : List Value} {owc : List Addr} {Q' : Option Value → Heap → Prop} {ro' : Bool} (hd : decode bytes pc = .ok (.invokespecial idx, 3)) (hn : y'.name = "<init>")
    (w1 : (Jvm.Cond.methodLink y.cls idx y').before a0 Z = true) (w2 : (Jvm.Cond.instanceMethod y').before a0 Z = true) (w3 : (Jvm.Cond.initialized y'.cls).before a0 Z = true) (w4 : (Jvm.Cond.code y' bytes' maxL' none).before a0 Z = true) (hy : y'.cls ≠ "java/lang/invoke/MethodHandle" ∧ y'.cls ≠ "java/lang/invoke/VarHandle")
    (C : Con l Z wd ro' EL n0 y' bytes' maxL' none rm [] (.ref a :: argsL).toArray h owc Q') (hst : st = argsL.reverse ++ .ref a :: rest) (hlen : ∀ sig, parseMethodDescriptor y'.desc = some sig → argsL.length = sig.parameters.length) (hsz : Ls.size = maxL) (hfr : rm.frames + 1 ≤ R.frames) (hW : (rest.map fun v => v.category).sum ≤ W) (hlo : W + (maxL' + 11) + rm.locals ≤ R.locals) (hc : cells + rm.cells ≤ R.cells) (hs : slots + rm.slots ≤ R.slots) (how : ∀ x ∈ owc, x ∈ ow) (hc' : cells + rm.cells = cells') (hs' : slots + rm.slots = slots') (hp : pc + 3 = pc')
    (K : ∀ (v : Option Value) (h' : Heap), Q' v h' → Keep h h' owc → Run p l e R s m args below meth c Z wd ro EL n0 ow0 Q h' ow cells' slots' (mkF m pc' Ls (v.toList ++ rest))) : Run p l e R s m args below meth c Z wd ro EL n0 ow0 Q h ow cells slots (mkF m pc Ls st) := by
  subst hp hst hc' hs'
  intro T locs vm0 k0 X H
  have hZ := H.2.2.1
  obtain ⟨v, vm₁, B, -, X', hS, -, ⟨L, q1, q2, q3, q4, q5, q6, q7, q8, q9⟩, stp⟩ := X.specialBackS G.1 (bytes := bytes') (maxL := maxL') hn (G.own H.1) (mv (s := s.setVm vm0) hZ w1) (mv (s := s.setVm vm0) hZ w2) (mv (s := s.setVm vm0) hZ w4) hy
    (backG C hZ w4 w3 hfr hlo G.2.2.2.2.2.2.2 H.2.2.2.2.2.1.1 H.2.2.2.2.2.2.2.1 (fun x hx => ⟨(H.2.2.2.2.2.2.2.2.1 x (how x hx)).1, (H.2.2.2.2.2.2.2.2.1 x (how x hx)).2.1, (H.2.2.2.2.2.2.2.2.1 x (how x hx)).2.2.1⟩)) (g := mkF m pc Ls (argsL.reverse ++ .ref a :: rest)) rfl (hsz.trans G.2.2.1.symm) (Steps.refl _) hlen rfl (by show 2 * 0 + _ ≤ W; omega) (G.hb hd) (fun _ _ => ⟨rfl, H.2.2.2.1, hc, hs⟩)
  obtain ⟨T', Lc, kc, nc⟩ := B
  dsimp only [Pt.U, Pt.locs, Pt.cells, Pt.slots] at X' q1 q3 q4 q5 q6 q7 q8 q9 hS stp
  subst q4 q5 q6
  obtain ⟨s₂, o, q, r⟩ := K v T'.heap q1 q3 T' (locs ++ L) T'.vm T'.heap.size X' (H.call how hS q2 q3 q7 q8)
  exact ⟨s₂, o, stp.trans q, r⟩
theorem callVirtual (G : Gd p s m meth c y bytes maxL ret Z a0 EL) {idx : Nat} {y' z' : MethodName} {D : String} {bytes' : ByteArray} {maxL' : Nat} {ret' : Option FieldType} {rm : Room} {W : Nat} {a : Addr} {argsL : List Value} {owc : List Addr} {Q' : Option Value → Heap → Prop} {ro' : Bool} (hd : decode bytes pc = .ok (.invokevirtual idx, 3))
    (w1 : (Jvm.Cond.methodLink y.cls idx y').before a0 Z = true) (w2 : (Jvm.Cond.declares y').before a0 Z = true) (w3 : (Jvm.Cond.selects D y' z').before a0 Z = true) (hnf : ∀ (s : State), Z.Warmed39 s.vm → NotFace s y') (w4 : (Jvm.Cond.instanceMethod z').before a0 Z = true) (w5 : (Jvm.Cond.initialized z'.cls).before a0 Z = true) (w6 : (Jvm.Cond.code z' bytes' maxL' ret').before a0 Z = true) (hy : y'.cls ≠ "java/lang/invoke/MethodHandle" ∧ y'.cls ≠ "java/lang/invoke/VarHandle")
    (E : Exa Z h a D) (C : Con l Z wd ro' EL n0 z' bytes' maxL' ret' rm [] (.ref a :: argsL).toArray h owc Q') (hst : st = argsL.reverse ++ .ref a :: rest) (hlen : ∀ sig, parseMethodDescriptor y'.desc = some sig → argsL.length = sig.parameters.length) (hsz : Ls.size = maxL) (hfr : rm.frames + 1 ≤ R.frames) (hW : (rest.map fun v => v.category).sum ≤ W) (hlo : W + (maxL' + 11) + rm.locals ≤ R.locals) (hc : cells + rm.cells ≤ R.cells) (hs : slots + rm.slots ≤ R.slots) (how : ∀ x ∈ owc, x ∈ ow) (hc' : cells + rm.cells = cells') (hs' : slots + rm.slots = slots') (hp : pc + 3 = pc')
    (K : ∀ (v : Option Value) (h' : Heap), Q' v h' → Keep h h' owc → Run p l e R s m args below meth c Z wd ro EL n0 ow0 Q h' ow cells' slots' (mkF m pc' Ls (v.toList ++ rest))) : Run p l e R s m args below meth c Z wd ro EL n0 ow0 Q h ow cells slots (mkF m pc Ls st) := by
  subst hp hst hc' hs'
  intro T locs vm0 k0 X H
  have hZ := H.2.2.1
  obtain ⟨cq, kq, r1, -, r3⟩ := isOf (s := s.setVm vm0) (T := T) hZ H.2.2.2.1 E
  obtain ⟨v, vm₁, B, -, X', hS, -, ⟨L, q1, q2, q3, q4, q5, q6, q7, q8, q9⟩, stp⟩ := X.virtualBackS G.1 (G.own H.1) (mv (s := s.setVm vm0) hZ w1) (mv (s := s.setVm vm0) hZ w2) (hnf (s.setVm vm0) hZ) (mv (s := s.setVm vm0) hZ w3) (mv (s := s.setVm vm0) hZ w4) hy
    (backG C hZ w6 w5 hfr hlo G.2.2.2.2.2.2.2 H.2.2.2.2.2.1.1 H.2.2.2.2.2.2.2.1 (fun x hx => ⟨(H.2.2.2.2.2.2.2.2.1 x (how x hx)).1, (H.2.2.2.2.2.2.2.2.1 x (how x hx)).2.1, (H.2.2.2.2.2.2.2.2.1 x (how x hx)).2.2.1⟩)) r1 r3 (g := mkF m pc Ls (argsL.reverse ++ .ref a :: rest)) rfl (hsz.trans G.2.2.1.symm) (Steps.refl _) hlen rfl (by show 2 * 0 + _ ≤ W; omega) (G.hb hd) (fun _ _ => ⟨rfl, H.2.2.2.1, hc, hs⟩)
  obtain ⟨T', Lc, kc, nc⟩ := B
  dsimp only [Pt.U, Pt.locs, Pt.cells, Pt.slots] at X' q1 q3 q4 q5 q6 q7 q8 q9 hS stp
  subst q4 q5 q6
  obtain ⟨s₂, o, q, r⟩ := K v T'.heap q1 q3 T' (locs ++ L) T'.vm T'.heap.size X' (H.call how hS q2 q3 q7 q8)
  exact ⟨s₂, o, stp.trans q, r⟩
theorem callFace (G : Gd p s m meth c y bytes maxL ret Z a0 EL) {idx count : Nat} {y' z' : MethodName} {D : String} {bytes' : ByteArray} {maxL' : Nat} {ret' : Option FieldType} {rm : Room} {W : Nat} {a : Addr} {argsL : List Value} {owc : List Addr} {Q' : Option Value → Heap → Prop} {ro' : Bool} (hd : decode bytes pc = .ok (.invokeinterface idx count, 5))
    (w1 : (Jvm.Cond.methodLink y.cls idx y').before a0 Z = true) (w2 : (Jvm.Cond.declares y').before a0 Z = true) (w3 : (Jvm.Cond.selects D y' z').before a0 Z = true) (wf : ∀ (a1 : Array Value) (s : State), Z.Warmed39 s.vm → (Jvm.Cond.interfaceMethod y'.cls y'.cls y'.name y'.desc).before a1 s = true) (wp : (Jvm.Cond.publicMethod z').before a0 Z = true) (wu : (Jvm.Cond.unhidden D y'.name y'.desc).before a0 Z = true) (wk : (Jvm.Cond.castable D y'.cls).before a0 Z = true) (w4 : (Jvm.Cond.instanceMethod z').before a0 Z = true) (w5 : (Jvm.Cond.initialized z'.cls).before a0 Z = true) (w6 : (Jvm.Cond.code z' bytes' maxL' ret').before a0 Z = true) (hy : y'.cls ≠ "java/lang/invoke/MethodHandle" ∧ y'.cls ≠ "java/lang/invoke/VarHandle")
    (E : Exa Z h a D) (C : Con l Z wd ro' EL n0 z' bytes' maxL' ret' rm [] (.ref a :: argsL).toArray h owc Q') (hst : st = argsL.reverse ++ .ref a :: rest) (hlen : ∀ sig, parseMethodDescriptor y'.desc = some sig → argsL.length = sig.parameters.length) (hsz : Ls.size = maxL) (hfr : rm.frames + 1 ≤ R.frames) (hW : (rest.map fun v => v.category).sum ≤ W) (hlo : W + (maxL' + 11) + rm.locals ≤ R.locals) (hc : cells + rm.cells ≤ R.cells) (hs : slots + rm.slots ≤ R.slots) (how : ∀ x ∈ owc, x ∈ ow) (hc' : cells + rm.cells = cells') (hs' : slots + rm.slots = slots') (hp : pc + 5 = pc')
    (K : ∀ (v : Option Value) (h' : Heap), Q' v h' → Keep h h' owc → Run p l e R s m args below meth c Z wd ro EL n0 ow0 Q h' ow cells' slots' (mkF m pc' Ls (v.toList ++ rest))) : Run p l e R s m args below meth c Z wd ro EL n0 ow0 Q h ow cells slots (mkF m pc Ls st) := by
  subst hp hst hc' hs'
  intro T locs vm0 k0 X H
  have hZ := H.2.2.1
  obtain ⟨cq, kq, r1, r2, r3⟩ := isOf (s := s.setVm vm0) (T := T) hZ H.2.2.2.1 E
  obtain ⟨v, vm₁, B, -, X', hS, -, ⟨L, q1, q2, q3, q4, q5, q6, q7, q8, q9⟩, stp⟩ := X.interfaceBackS G.1 (G.own H.1) (mv (s := s.setVm vm0) hZ w1) (mv (s := s.setVm vm0) hZ w2) (wf _ (s.setVm vm0) hZ) (mv (s := s.setVm vm0) hZ w3) (mv (s := s.setVm vm0) hZ w4) (mv (s := s.setVm vm0) hZ wp) (mv (s := s.setVm vm0) hZ wu) (mv (s := s.setVm vm0) hZ wk) hy
    (backG C hZ w6 w5 hfr hlo G.2.2.2.2.2.2.2 H.2.2.2.2.2.1.1 H.2.2.2.2.2.2.2.1 (fun x hx => ⟨(H.2.2.2.2.2.2.2.2.1 x (how x hx)).1, (H.2.2.2.2.2.2.2.2.1 x (how x hx)).2.1, (H.2.2.2.2.2.2.2.2.1 x (how x hx)).2.2.1⟩)) r1 r2 r3 (g := mkF m pc Ls (argsL.reverse ++ .ref a :: rest)) rfl (hsz.trans G.2.2.1.symm) (Steps.refl _) hlen rfl (by show 2 * 0 + _ ≤ W; omega) (G.hb hd) (fun _ _ => ⟨rfl, H.2.2.2.1, hc, hs⟩)
  obtain ⟨T', Lc, kc, nc⟩ := B
  dsimp only [Pt.U, Pt.locs, Pt.cells, Pt.slots] at X' q1 q3 q4 q5 q6 q7 q8 q9 hS stp
  subst q4 q5 q6
  obtain ⟨s₂, o, q, r⟩ := K v T'.heap q1 q3 T' (locs ++ L) T'.vm T'.heap.size X' (H.call how hS q2 q3 q7 q8)
  exact ⟨s₂, o, stp.trans q, r⟩
theorem nface {y' : MethodName} {D : String} (w3 : (Jvm.Cond.selects D y' y').before a0 Z = true) : ∀ (s : State), Z.Warmed39 s.vm → NotFace s y' := fun s hZ => notFace_of_selects (args := #[]) (mv (s := s) hZ w3)
end
end Jvm.GoKit


namespace Jvm.GoKit
open Jvm Jvm.ClassFile Sem Op Lib Jvm.Free Jvm.Stand Jvm.LawKit Jvm.RoadKit Bundle
theorem wi {L : List Jvm.Cond} {a0 : Array Value} {Z : State} (hw : ∀ d ∈ L, d.before a0 Z = true) (i : Nat) {d : Jvm.Cond} (h : L[i]? = some d) : d.before a0 Z = true := hw _ (List.mem_of_getElem? h)
/-- an array of chars or bytes, with its values -/
def IA (Z : State) (h : Heap) (b : Addr) (ty : FieldType) (xs : List Int32) : Prop := ∃ cl : Cell, Arr Z h b cl ty ∧ cl.slots = (xs.map Value.int).toArray ∧ xs.length < 2 ^ 31
section
variable {p : Program} {l : Launch} {e : Env} {R : Room} {s : State} {m : MethodId} {args : Array Value} {below : List Frame} {meth : Method} {c : Code} {Z : State} {wd ro ro' : Bool} {EL : List (String × Nat)} {n0 : Nat} {ow0 : List Addr} {Q : Option Value → Heap → Prop}
variable {h h' : Heap} {ow : List Addr} {cells slots cells' slots' : Nat} {pc pc' : Nat} {Ls Ls' : Array Slot} {st rest : List Value} {y : MethodName} {bytes : ByteArray} {maxL : Nat} {ret : Option FieldType} {a0 : Array Value}
variable {a b : Addr} {ty : FieldType} {xs : List Int32} {i : Nat} {x x' z j : Int32} {ws : List Addr} {sl : Nat} {v : Value}
theorem IA.lt (A : IA Z h b ty xs) : b < h.size := by obtain ⟨cl, A, -⟩ := A; exact A.lt
theorem IA.ext (A : IA Z h b ty xs) (E : Ext h h') : IA Z h' b ty xs := by obtain ⟨cl, A, r⟩ := A; exact ⟨cl, A.ext E, r⟩
theorem IA.other (A : IA Z h b ty xs) (W : Wr h h' a sl v) (q : b ≠ a) : IA Z h' b ty xs := by obtain ⟨cl, A, r⟩ := A; exact ⟨cl, A.other W q, r⟩
theorem IA.keep (A : IA Z h b ty xs) (K : Keep h h' ws) (q : b ∉ ws) : IA Z h' b ty xs := by obtain ⟨cl, A, r⟩ := A; exact ⟨cl, ⟨K.2.1 b cl A.1 q, A.2⟩, r⟩
theorem IA.new {cA : ClassId} {n : Int32} {k : Nat} (A : Arr Z h a (newA cA ty n) ty) (hk : n.toNatClampNeg = k) (hd : defaultValue ty = .int 0) : IA Z h a ty (List.replicate k 0) := by
  refine ⟨_, A, ?_, ?_⟩
  · subst hk; simp [newA, hd]
  · rw [List.length_replicate, ← hk]
    have := n.toInt_lt
    simp only [Int32.toNatClampNeg]; omega
theorem idx_ok {cl : Cell} {j : Int32} {i n : Nat} (hs : cl.slots.size = n) (hj : j.toNatClampNeg = i) (hj0 : ¬ j < 0) (hi : i < n) : ¬ (j < 0 ∨ cl.slots.size ≤ j.toNatClampNeg) := by
  rintro (q | q)
  · exact hj0 q
  · omega
theorem IA.set (A : IA Z h a ty xs) (W : Wr h h' a i (.int x)) (hi : i < xs.length) : IA Z h' a ty (xs.set i x) := by
  obtain ⟨cl, A, e, hl⟩ := A
  refine ⟨_, A.same W, ?_, by simpa using hl⟩
  simp only [Cell.setSlot]
  rw [e, ← Array.toList_inj]
  simp [List.map_set]
theorem castI (G : Gd p s m meth c y bytes maxL ret Z a0 EL) (hd : decode bytes pc = .ok (.castore, 1)) (A : IA Z h a .char xs) (hj : j.toNatClampNeg = i) (hj0 : ¬ j < 0) (hi : i < xs.length) (hx : nar .char x = x') (ha : a ∈ ow) (hp : pc + 1 = pc')
    (K : ∀ h', Wr h h' a i (.int x') → IA Z h' a .char (xs.set i x') → Run p l e R s m args below meth c Z wd ro EL n0 ow0 Q h' ow cells slots (mkF m pc' Ls rest)) : Run p l e R s m args below meth c Z wd ro EL n0 ow0 Q h ow cells slots (mkF m pc Ls (.int x :: .int j :: .ref a :: rest)) := by
  obtain ⟨cl, A1, e1, hl⟩ := id A
  refine castore G hd A1 (idx_ok (by rw [e1]; simp) hj hj0 hi) ha hp fun h' W => ?_
  rw [hj, hx] at W
  exact K h' W (A.set W hi)
theorem bastI (G : Gd p s m meth c y bytes maxL ret Z a0 EL) (hd : decode bytes pc = .ok (.bastore, 1)) (A : IA Z h a .byte xs) (hj : j.toNatClampNeg = i) (hj0 : ¬ j < 0) (hi : i < xs.length) (hx : nar .byte x = x') (ha : a ∈ ow) (hp : pc + 1 = pc')
    (K : ∀ h', Wr h h' a i (.int x') → IA Z h' a .byte (xs.set i x') → Run p l e R s m args below meth c Z wd ro EL n0 ow0 Q h' ow cells slots (mkF m pc' Ls rest)) : Run p l e R s m args below meth c Z wd ro EL n0 ow0 Q h ow cells slots (mkF m pc Ls (.int x :: .int j :: .ref a :: rest)) := by
  obtain ⟨cl, A1, e1, hl⟩ := id A
  refine bastore G hd A1 (idx_ok (by rw [e1]; simp) hj hj0 hi) ha hp fun h' W => ?_
  rw [hj, hx] at W
  exact K h' W (A.set W hi)
theorem caloadI (G : Gd p s m meth c y bytes maxL ret Z a0 EL) (hd : decode bytes pc = .ok (.caload, 1)) (A : IA Z h a .char xs) (hj : j.toNatClampNeg = i) (hj0 : ¬ j < 0) (hv : xs[i]? = some x) (hp : pc + 1 = pc') (K : Run p l e R s m args below meth c Z wd ro EL n0 ow0 Q h ow cells slots (mkF m pc' Ls (.int x :: rest))) : Run p l e R s m args below meth c Z wd ro EL n0 ow0 Q h ow cells slots (mkF m pc Ls (.int j :: .ref a :: rest)) := by
  obtain ⟨cl, A1, e1, hl⟩ := A
  have hi := (List.getElem?_eq_some_iff.mp hv).1
  exact caload G hd A1 (idx_ok (by rw [e1]; simp) hj hj0 hi) (by rw [e1, hj]; simp [hv]) hp K
theorem baloadI (G : Gd p s m meth c y bytes maxL ret Z a0 EL) (hd : decode bytes pc = .ok (.baload, 1)) (A : IA Z h a .byte xs) (hj : j.toNatClampNeg = i) (hj0 : ¬ j < 0) (hv : xs[i]? = some x) (hp : pc + 1 = pc') (K : Run p l e R s m args below meth c Z wd ro EL n0 ow0 Q h ow cells slots (mkF m pc' Ls (.int x :: rest))) : Run p l e R s m args below meth c Z wd ro EL n0 ow0 Q h ow cells slots (mkF m pc Ls (.int j :: .ref a :: rest)) := by
  obtain ⟨cl, A1, e1, hl⟩ := A
  have hi := (List.getElem?_eq_some_iff.mp hv).1
  exact baload G hd A1 (idx_ok (by rw [e1]; simp) hj hj0 hi) (by rw [e1, hj]; simp [hv]) hp K
theorem arrlenI (G : Gd p s m meth c y bytes maxL ret Z a0 EL) (hd : decode bytes pc = .ok (.arraylength, 1)) (A : IA Z h a ty xs) (hz : xs.length.toInt32 = z) (hp : pc + 1 = pc') (K : Run p l e R s m args below meth c Z wd ro EL n0 ow0 Q h ow cells slots (mkF m pc' Ls (.int z :: rest))) : Run p l e R s m args below meth c Z wd ro EL n0 ow0 Q h ow cells slots (mkF m pc Ls (.ref a :: rest)) := by
  obtain ⟨cl, A1, e1, hl⟩ := A
  refine arrlen G hd A1 hp ?_
  rw [e1, List.size_toArray, List.length_map, hz]
  exact K
theorem newcI (G : Gd p s m meth c y bytes maxL ret Z a0 EL) {n : Int32} {k cap : Nat} (hd : decode bytes pc = .ok (.newarray .char, 2)) (w : (Jvm.Cond.arrayClass .char).before a0 Z = true) (hn : ¬ n < 0) (hk : n.toNatClampNeg = k) (hcap : k ≤ cap) (hb : cap * 8 ≤ 536870912) (hc : cells + 1 ≤ R.cells) (hl : slots + cap ≤ R.slots) (hc' : cells + 1 = cells') (hs' : slots + cap = slots') (hp : pc + 2 = pc')
    (K : ∀ (h' : Heap) (a : Addr), a = h.size → Ext h h' → IA Z h' a .char (List.replicate k 0) → Run p l e R s m args below meth c Z wd ro EL n0 ow0 Q h' (a :: ow) cells' slots' (mkF m pc' Ls (.ref a :: rest))) : Run p l e R s m args below meth c Z wd ro EL n0 ow0 Q h ow cells slots (mkF m pc Ls (.int n :: rest)) :=
  newarr G hd w hn (hk ▸ hcap) hb hc hl hc' hs' hp fun h' cA a g E A => K h' a g E (IA.new A hk rfl)
theorem newbI (G : Gd p s m meth c y bytes maxL ret Z a0 EL) {n : Int32} {k cap : Nat} (hd : decode bytes pc = .ok (.newarray .byte, 2)) (w : (Jvm.Cond.arrayClass .byte).before a0 Z = true) (hn : ¬ n < 0) (hk : n.toNatClampNeg = k) (hcap : k ≤ cap) (hb : cap * 8 ≤ 536870912) (hc : cells + 1 ≤ R.cells) (hl : slots + cap ≤ R.slots) (hc' : cells + 1 = cells') (hs' : slots + cap = slots') (hp : pc + 2 = pc')
    (K : ∀ (h' : Heap) (a : Addr), a = h.size → Ext h h' → IA Z h' a .byte (List.replicate k 0) → Run p l e R s m args below meth c Z wd ro EL n0 ow0 Q h' (a :: ow) cells' slots' (mkF m pc' Ls (.ref a :: rest))) : Run p l e R s m args below meth c Z wd ro EL n0 ow0 Q h ow cells slots (mkF m pc Ls (.int n :: rest)) :=
  newarr G hd w hn (hk ▸ hcap) hb hc hl hc' hs' hp fun h' cA a g E A => K h' a g E (IA.new A hk rfl)
/-- calls of a callee that leaves the heap as it was -/
theorem callStaticP (G : Gd p s m meth c y bytes maxL ret Z a0 EL) {idx : Nat} {y' : MethodName} {bytes' : ByteArray} {maxL' : Nat} {ret' : Option FieldType} {rm : Room} {W : Nat} {argsL : List Value} {r : Option Value} (hd : decode bytes pc = .ok (.invokestatic idx, 3))
    (w1 : (Jvm.Cond.methodLink y.cls idx y').before a0 Z = true) (w2 : (Jvm.Cond.static y').before a0 Z = true) (w3 : (Jvm.Cond.initialized y'.cls).before a0 Z = true) (w4 : (Jvm.Cond.code y' bytes' maxL' ret').before a0 Z = true) (hy : y'.cls ≠ "java/lang/invoke/MethodHandle" ∧ y'.cls ≠ "java/lang/invoke/VarHandle")
    (C : Con l Z wd ro' EL n0 y' bytes' maxL' ret' rm [] argsL.toArray h [] (fun v h' => v = r ∧ h' = h)) (hst : st = argsL.reverse ++ rest) (hlen : ∀ sig, parseMethodDescriptor y'.desc = some sig → argsL.length = sig.parameters.length) (hsz : Ls.size = maxL) (hfr : rm.frames + 1 ≤ R.frames) (hW : (rest.map fun v => v.category).sum ≤ W) (hlo : W + (maxL' + 11) + rm.locals ≤ R.locals) (hc : cells + rm.cells ≤ R.cells) (hs : slots + rm.slots ≤ R.slots) (hc' : cells + rm.cells = cells') (hs' : slots + rm.slots = slots') (hp : pc + 3 = pc')
    (K : Run p l e R s m args below meth c Z wd ro EL n0 ow0 Q h ow cells' slots' (mkF m pc' Ls (r.toList ++ rest))) : Run p l e R s m args below meth c Z wd ro EL n0 ow0 Q h ow cells slots (mkF m pc Ls st) :=
  callStatic G hd w1 w2 w3 w4 hy C hst hlen hsz hfr hW hlo hc hs (fun _ q => nomatch q) hc' hs' hp fun v h' q _ => by rw [q.1, q.2]; exact K
theorem callVirtualP (G : Gd p s m meth c y bytes maxL ret Z a0 EL) {idx : Nat} {y' : MethodName} {D : String} {bytes' : ByteArray} {maxL' : Nat} {ret' : Option FieldType} {rm : Room} {W : Nat} {a : Addr} {argsL : List Value} {r : Option Value} (hd : decode bytes pc = .ok (.invokevirtual idx, 3))
    (w1 : (Jvm.Cond.methodLink y.cls idx y').before a0 Z = true) (w2 : (Jvm.Cond.declares y').before a0 Z = true) (w3 : (Jvm.Cond.selects D y' y').before a0 Z = true) (w4 : (Jvm.Cond.instanceMethod y').before a0 Z = true) (w5 : (Jvm.Cond.initialized y'.cls).before a0 Z = true) (w6 : (Jvm.Cond.code y' bytes' maxL' ret').before a0 Z = true) (hy : y'.cls ≠ "java/lang/invoke/MethodHandle" ∧ y'.cls ≠ "java/lang/invoke/VarHandle")
    (E : Exa Z h a D) (C : Con l Z wd ro' EL n0 y' bytes' maxL' ret' rm [] (.ref a :: argsL).toArray h [] (fun v h' => v = r ∧ h' = h)) (hst : st = argsL.reverse ++ .ref a :: rest) (hlen : ∀ sig, parseMethodDescriptor y'.desc = some sig → argsL.length = sig.parameters.length) (hsz : Ls.size = maxL) (hfr : rm.frames + 1 ≤ R.frames) (hW : (rest.map fun v => v.category).sum ≤ W) (hlo : W + (maxL' + 11) + rm.locals ≤ R.locals) (hc : cells + rm.cells ≤ R.cells) (hs : slots + rm.slots ≤ R.slots) (hc' : cells + rm.cells = cells') (hs' : slots + rm.slots = slots') (hp : pc + 3 = pc')
    (K : Run p l e R s m args below meth c Z wd ro EL n0 ow0 Q h ow cells' slots' (mkF m pc' Ls (r.toList ++ rest))) : Run p l e R s m args below meth c Z wd ro EL n0 ow0 Q h ow cells slots (mkF m pc Ls st) :=
  callVirtual G hd w1 w2 w3 (nface w3) w4 w5 w6 hy E C hst hlen hsz hfr hW hlo hc hs (fun _ q => nomatch q) hc' hs' hp fun v h' q _ => by rw [q.1, q.2]; exact K
theorem callFaceP (G : Gd p s m meth c y bytes maxL ret Z a0 EL) {idx count : Nat} {y' z' : MethodName} {D : String} {bytes' : ByteArray} {maxL' : Nat} {ret' : Option FieldType} {rm : Room} {W : Nat} {a : Addr} {argsL : List Value} {r : Option Value} (hd : decode bytes pc = .ok (.invokeinterface idx count, 5))
    (w1 : (Jvm.Cond.methodLink y.cls idx y').before a0 Z = true) (w2 : (Jvm.Cond.declares y').before a0 Z = true) (w3 : (Jvm.Cond.selects D y' z').before a0 Z = true) (wf : ∀ (a1 : Array Value) (s : State), Z.Warmed39 s.vm → (Jvm.Cond.interfaceMethod y'.cls y'.cls y'.name y'.desc).before a1 s = true) (wp : (Jvm.Cond.publicMethod z').before a0 Z = true) (wu : (Jvm.Cond.unhidden D y'.name y'.desc).before a0 Z = true) (wk : (Jvm.Cond.castable D y'.cls).before a0 Z = true) (w4 : (Jvm.Cond.instanceMethod z').before a0 Z = true) (w5 : (Jvm.Cond.initialized z'.cls).before a0 Z = true) (w6 : (Jvm.Cond.code z' bytes' maxL' ret').before a0 Z = true) (hy : y'.cls ≠ "java/lang/invoke/MethodHandle" ∧ y'.cls ≠ "java/lang/invoke/VarHandle")
    (E : Exa Z h a D) (C : Con l Z wd ro' EL n0 z' bytes' maxL' ret' rm [] (.ref a :: argsL).toArray h [] (fun v h' => v = r ∧ h' = h)) (hst : st = argsL.reverse ++ .ref a :: rest) (hlen : ∀ sig, parseMethodDescriptor y'.desc = some sig → argsL.length = sig.parameters.length) (hsz : Ls.size = maxL) (hfr : rm.frames + 1 ≤ R.frames) (hW : (rest.map fun v => v.category).sum ≤ W) (hlo : W + (maxL' + 11) + rm.locals ≤ R.locals) (hc : cells + rm.cells ≤ R.cells) (hs : slots + rm.slots ≤ R.slots) (hc' : cells + rm.cells = cells') (hs' : slots + rm.slots = slots') (hp : pc + 5 = pc')
    (K : Run p l e R s m args below meth c Z wd ro EL n0 ow0 Q h ow cells' slots' (mkF m pc' Ls (r.toList ++ rest))) : Run p l e R s m args below meth c Z wd ro EL n0 ow0 Q h ow cells slots (mkF m pc Ls st) :=
  callFace G hd w1 w2 w3 wf wp wu wk w4 w5 w6 hy E C hst hlen hsz hfr hW hlo hc hs (fun _ q => nomatch q) hc' hs' hp fun v h' q _ => by rw [q.1, q.2]; exact K
/-- a Latin-1 String of known chars -/
def Lat (Z : State) (h : Heap) (a : Addr) (cs : List Int32) : Prop := Exa Z h a "java/lang/String" ∧ (∃ b, Fld Z h a "java/lang/String" "value" "[B" (.ref b) ∧ Fld Z h a "java/lang/String" "coder" "B" (.int 0) ∧ IA Z h b .byte (cs.map fun c => c.toInt8.toInt32)) ∧ ∀ c ∈ cs, 0 ≤ c.toInt ∧ c.toInt < 256
theorem Lat.ext {cs : List Int32} (S : Lat Z h a cs) (E : Ext h h') : Lat Z h' a cs := by
  obtain ⟨S1, ⟨b, S2, S3, S4⟩, S5⟩ := S
  exact ⟨S1.ext E, ⟨b, S2.ext E, S3.ext E, S4.ext E⟩, S5⟩
theorem Lat.keep {cs : List Int32} (S : Lat Z h a cs) (K : Keep h h' []) : Lat Z h' a cs := by
  obtain ⟨S1, ⟨b, S2, S3, S4⟩, S5⟩ := S
  exact ⟨S1.keep K, ⟨b, S2.keep K nin0, S3.keep K nin0, S4.keep K nin0⟩, S5⟩
theorem Lat.lt {cs : List Int32} (S : Lat Z h a cs) : a < h.size := S.1.lt
theorem IA.ne {n : Nat} {C : String} (A : IA Z h b ty xs) (E : Exa Z h a C) (wi : (Jvm.Cond.instantiable C n).before a0 Z = true) : b ≠ a := by obtain ⟨cl, A, -⟩ := A; exact (ne_arr E wi A).symm
theorem IA.neTy {ty' : FieldType} {ys : List Int32} (A : IA Z h b ty xs) (B : IA Z h a ty' ys) (hn : ty ≠ ty') : b ≠ a := fun q => by
  subst q
  obtain ⟨c1, A, -⟩ := A
  obtain ⟨c2, B, -⟩ := B
  cases A.1.symm.trans B.1
  obtain ⟨-, k1, e1, p1, r1⟩ := A.2.1
  obtain ⟨-, k2, e2, p2, r2⟩ := B.2.1
  cases e1.symm.trans e2
  have := r1.symm.trans r2
  injection this with _ q
  exact hn q
theorem IA.len (A : IA Z h b ty xs) : xs.length < 2 ^ 31 := by obtain ⟨-, -, -, h⟩ := A; exact h
theorem Lat.wrI {cs : List Int32} {n : Nat} (S : Lat Z h a cs) (W : Wr h h' b sl v) (A : IA Z h b ty xs) (ht : ty ≠ .byte) (wi : (Jvm.Cond.instantiable "java/lang/String" n).before a0 Z = true) : Lat Z h' a cs := by
  obtain ⟨E, ⟨d, V, C, B⟩, l⟩ := S
  have n1 : a ≠ b := fun q => IA.ne A E wi q.symm
  exact ⟨E.wr W, ⟨d, V.other W (Or.inl n1), C.other W (Or.inl n1), B.other W (IA.neTy B A (fun q => ht q.symm))⟩, l⟩
theorem con_mono {y' : MethodName} {bytes' : ByteArray} {maxL' : Nat} {ret' : Option FieldType} {rm : Room} {ws : List Jvm.Cond} {as' : Array Value} {owc : List Addr} {Q1 Q2 : Option Value → Heap → Prop} (C : Con l Z wd ro EL n0 y' bytes' maxL' ret' rm ws as' h owc Q1) (q : ∀ v h', Q1 v h' → Q2 v h') : Con l Z wd ro EL n0 y' bytes' maxL' ret' rm ws as' h owc Q2 := by
  intro p e a1 a2 a3 s m args below a4 a5 a6 a7
  obtain ⟨n, o, b1, b2, b3, v, L, b4, b5, b6⟩ := C p e a1 a2 a3 s m args below a4 a5 a6 a7
  exact ⟨n, o, b1, b2, b3, v, L, b4, q _ _ b5, b6⟩
theorem castRun {g g' : JFrame} (q : g = g') (K : Run p l e R s m args below meth c Z wd ro EL n0 ow0 Q h ow cells slots g') : Run p l e R s m args below meth c Z wd ro EL n0 ow0 Q h ow cells slots g := q ▸ K
theorem toI_toInt {i : Nat} (h : i < 2 ^ 31) : i.toInt32.toInt = i := len_toInt h
theorem toI_clamp {i : Nat} (h : i < 2 ^ 31) : i.toInt32.toNatClampNeg = i := by simp only [Int32.toNatClampNeg, toI_toInt h]; rfl
theorem toI_nn {i : Nat} (h : i < 2 ^ 31) : ¬ i.toInt32 < 0 := by
  rw [Int32.lt_iff_toInt_lt, toI_toInt h]; show ¬ (i : Int) < 0; omega
theorem toI_lt {i k : Nat} (h : i < 2 ^ 31) (h' : k < 2 ^ 31) : i.toInt32 < k.toInt32 ↔ i < k := by
  rw [Int32.lt_iff_toInt_lt, toI_toInt h, toI_toInt h']; omega
theorem toI_succ (i : Nat) : i.toInt32 + 1 = (i + 1).toInt32 := by
  apply Int32.toBitVec_inj.mp
  simp [Nat.toInt32, BitVec.ofNat_add]
theorem toI_eq {i k : Nat} (h : i < 2 ^ 31) (h' : k < 2 ^ 31) : i.toInt32 = k.toInt32 ↔ i = k := by
  refine ⟨fun q => ?_, fun q => by rw [q]⟩
  have := congrArg Int32.toInt q
  rw [toI_toInt h, toI_toInt h'] at this; omega
theorem lo8_nar (c : Int32) : nar .byte (c.toInt8.toInt32) = c.toInt8.toInt32 := by simp [nar]
theorem nar_i2c (x : Int32) : nar .char (x.toUInt32.toUInt16.toUInt32.toInt32) = x.toUInt32.toUInt16.toUInt32.toInt32 := by simp only [nar, UInt32.toUInt32_toInt32, UInt16.toUInt16_toUInt32]
theorem set_fill (f : Int32 → Int32) (cs : List Int32) (i k : Nat) (c : Int32) (hc : cs[i]? = some c) : (((cs.take i).map f) ++ List.replicate (k + 1) 0).set i (f c) = ((cs.take (i + 1)).map f) ++ List.replicate k 0 := by
  have hi := (List.getElem?_eq_some_iff.mp hc).1
  have hl : ((cs.take i).map f).length = i := by simp; omega
  rw [List.set_append_right _ _ (by omega), hl, Nat.sub_self, List.replicate_succ, List.set_cons_zero, List.take_add_one, hc]
  simp
theorem and_rng (x m : Int32) (M : Nat) (hm : m.toBitVec.toNat = M) (hM : M < 2 ^ 31) : 0 ≤ (x &&& m).toInt ∧ (x &&& m).toInt ≤ M := by
  have h : (x &&& m).toBitVec.toNat ≤ M := by
    show (x.toBitVec &&& m.toBitVec).toNat ≤ M
    rw [BitVec.toNat_and, ← hm]; exact Nat.and_le_right
  have e : (x &&& m).toInt = ((x &&& m).toBitVec.toNat : Int) := by
    show (x &&& m).toBitVec.toInt = _
    rw [BitVec.toInt_eq_toNat_cond]; rw [if_pos (by omega)]
  omega
theorem and255_rng (x : Int32) : 0 ≤ (x &&& 255).toInt ∧ (x &&& 255).toInt < 256 := by
  have := and_rng x 255 255 rfl (by decide); omega
theorem ch8 (x v w : Int32) (h1 : v = x &&& 255) (h2 : w = v.toUInt32.toUInt16.toUInt32.toInt32) : 0 ≤ w.toInt ∧ w.toInt < 256 := by
  subst h1 h2; rw [i2c_mask]; exact and255_rng x
theorem bool_ok {z : Int32} (h : z = 0 ∨ z = 1) : narrow .boolean (.int z) = .int z ∧ fits .boolean (.int z) = true ∧ nar .boolean z = z := by
  rcases h with rfl | rfl <;> exact ⟨rfl, rfl, rfl⟩
theorem ref_ok {v : Value} (C : String) (h : v.isRef = true) : narrow (.object C) v = v ∧ fits (.object C) v = true := by
  rcases ref_cases h with rfl | ⟨r, rfl⟩ <;> exact ⟨rfl, rfl⟩
theorem rem_rng (x m : Int32) (hx : 0 ≤ x.toInt) (hm : 0 < m.toInt) : 0 ≤ (x % m).toInt ∧ (x % m).toInt < m.toInt := by
  rw [Int32.toInt_mod, Int.tmod_eq_emod_of_nonneg hx]
  exact ⟨Int.emod_nonneg _ (by omega), Int.emod_lt_of_pos _ hm⟩
theorem and31_rem {x v w m : Int32} (h1 : v = x &&& 2147483647) (h2 : w = v % m) (hm : 0 < m.toInt) : 0 ≤ w.toInt ∧ w.toInt < m.toInt := by
  subst h1 h2; exact rem_rng _ _ (and_rng x 2147483647 2147483647 rfl (by decide)).1 hm
/-- compact strings are on -/
def Cst (Z : State) : Prop := ∃ cz : Int32, Sta Z Z.heap "java/lang/String" "COMPACT_STRINGS" "Z" (.int cz) ∧ cz ≠ 0
theorem keepExt (K : Keep h h' []) : Ext h h' := ⟨K.1, fun x c q => K.2.1 x c q nin0⟩
theorem extKeep (E : Ext h h') : Keep h h' [] := (Keep.refl h []).ext E
end
end Jvm.GoKit

namespace Jvm.Pilot.@@N@@
open Jvm Jvm.ClassFile Sem Op Lib Jvm.Free Jvm.Stand Jvm.LawKit Jvm.RoadKit Jvm.GoKit Bundle Jvm.Pilot.@@N@@.Jvm.D
abbrev ELs : List (String × Nat) := consts_1
theorem hELs {Z : State} {a0 : Array Value} (hw : ∀ d ∈ tables_1, d.before a0 Z = true) : EW Z a0 ELs := EW.cons (wi hw 83 rfl) (by decide +kernel) (EW.cons (wi hw 20 rfl) (by decide +kernel) (EW.nil))
theorem wS {Z : State} {a0 : Array Value} (hw : ∀ d ∈ tables_1, d.before a0 Z = true) : ∀ a ∈ Bundle.stringAtoms, a.before a0 Z = true := by
  intro d hd
  simp only [Bundle.stringAtoms, List.mem_cons, List.not_mem_nil, or_false] at hd
  rcases hd with rfl | rfl | rfl | rfl | rfl | rfl | rfl
  · exact (wi hw 8 rfl)
  · exact (wi hw 7 rfl)
  · exact (wi hw 21 rfl)
  · exact (wi hw 22 rfl)
  · exact (wi hw 23 rfl)
  · exact (wi hw 24 rfl)
  · exact (wi hw 25 rfl)
theorem iaLit {Z : State} {h : Heap} {b : Addr} {k : ClassId} {z : Int32} {vs : List Value} {cs : List Int32} (A : Arv Z h b k .byte z vs (.int 0)) (hz : z.toNatClampNeg = cs.length) (hv : vs = cs.map fun c => Value.int c.toInt8.toInt32) : IA Z h b .byte (cs.map fun c => c.toInt8.toInt32) := by
  obtain ⟨c, A1, -, e, hn, H, -⟩ := A
  refine ⟨c, A1, ?_, ?_⟩
  · apply Array.ext_getElem?
    intro i
    by_cases hi : i < c.slots.size
    · rw [H i hi, hv]
      have : i < cs.length := by omega
      simp [this]
    · rw [Array.getElem?_eq_none (by omega), Array.getElem?_eq_none (by simp; omega)]
  · rw [List.length_map, ← hz]
    have := z.toInt_lt
    simp only [Int32.toNatClampNeg]; omega
theorem latLit {Z : State} {h : Heap} {a b : Addr} {k : ClassId} {z : Int32} {vs : List Value} {cs : List Int32} (X : Exa Z h a "java/lang/String") (FC : Fld Z h a "java/lang/String" "coder" "B" (.int 0)) (FV : Fld Z h a "java/lang/String" "value" "[B" (.ref b)) (A : Arv Z h b k .byte z vs (.int 0)) (hz : z.toNatClampNeg = cs.length) (hv : vs = cs.map fun c => Value.int c.toInt8.toInt32) (hl : ∀ c ∈ cs, 0 ≤ c.toInt ∧ c.toInt < 256) : Lat Z h a cs :=
  ⟨X, ⟨b, FV, FC, iaLit A hz hv⟩, hl⟩
theorem sh0 (x : Int32) : x >>> ((0 : Int32) &&& 31) = x := by rw [show ((0 : Int32) &&& 31) = 0 from rfl]; exact Int32.shiftRight_zero
theorem d9_0 : decode jdk_52_method_15_code 0 = .ok (.iload_n 1, 1) := by decide +kernel
theorem d9_1 : decode jdk_52_method_15_code 1 = .ok (.aload_n 0, 1) := by decide +kernel
theorem d9_2 : decode jdk_52_method_15_code 2 = .ok (.arraylength, 1) := by decide +kernel
theorem d9_3 : decode jdk_52_method_15_code 3 = .ok (.isub, 1) := by decide +kernel
theorem d9_4 : decode jdk_52_method_15_code 4 = .ok (.bipush 31, 2) := by decide +kernel
theorem d9_6 : decode jdk_52_method_15_code 6 = .ok (.iushr, 1) := by decide +kernel
theorem d9_7 : decode jdk_52_method_15_code 7 = .ok (.i2b, 1) := by decide +kernel
theorem d9_8 : decode jdk_52_method_15_code 8 = .ok (.ireturn, 1) := by decide +kernel
theorem pn_java_lang_StringUTF16 : plainName "java/lang/StringUTF16" = true := by first | (simp [plainName, overriddenIn]; done) | decide +kernel
abbrev rm_con_coderLen : Room := { frames := 0, cells := 0, slots := 0, locals := 0 }
set_option maxRecDepth 65536 in
set_option maxHeartbeats 40000000 in
theorem con_coderLen (l : Launch) {Z : State} {a0 : Array Value} (hw : ∀ d ∈ tables_1, d.before a0 Z = true) {n0 : Nat} {h0 : Heap} {d : Addr} {xs : List Int32} (A : IA Z h0 d .byte xs) :
    Con l Z true false ELs n0 (⟨"java/lang/StringUTF16", "coderFromArrayLen", "([BI)B"⟩ : MethodName) jdk_52_method_15_code 2 (some .byte) rm_con_coderLen [] #[(.ref d), (.int xs.length.toInt32)] h0 [] (fun v h => v = some (.int 0) ∧ h = h0) := by
  refine Con.intro (plainFor_of_name pn_java_lang_StringUTF16) (hELs hw) ?_
  intro p e s m below meth c hh G
  refine castRun (g' := mkF m 0 #[.val (.ref d), .val (.int xs.length.toInt32)] []) (by first | rfl | (simp [entryFrame, mkF, argsToLocals, Value.category, maxLocals]; done)) ?_
  refine GoKit.iloadN G d9_0 rfl (pc' := 1) rfl ?_
  refine GoKit.aloadN G d9_1 rfl rfl (pc' := 2) rfl ?_
  refine GoKit.arrlenI G d9_2 A (z := xs.length.toInt32) rfl (pc' := 3) rfl ?_
  refine GoKit.isub G d9_3 (pc' := 4) rfl (fun v1 hqv1 => ?_)
  refine GoKit.bipush G (31 : Int32) d9_4 rfl (pc' := 6) rfl ?_
  refine GoKit.iushr G d9_6 (pc' := 7) rfl (fun v2 hqv2 => ?_)
  refine GoKit.i2b G d9_7 (pc' := 8) rfl (fun v3 hqv3 => ?_)
  refine GoKit.retNar G d9_8 (t := .byte) rfl (by simp) (by decide) (by decide) ?_
  exact ⟨by subst_vars; rw [show (xs.length.toInt32 - xs.length.toInt32 : Int32) = 0 from Int32.sub_self _]; rfl, rfl⟩
theorem lat_le {c : Int32} (h : 0 ≤ c.toInt ∧ c.toInt < 256) : ¬ (255 : Int32) < c := by rw [Int32.lt_iff_toInt_lt]; show ¬ (255 : Int) < c.toInt; omega
theorem d8_3 : decode jdk_52_method_21_code 3 = .ok (.iload 5, 2) := by decide +kernel
theorem d8_5 : decode jdk_52_method_21_code 5 = .ok (.iload 4, 2) := by decide +kernel
theorem d8_7 : decode jdk_52_method_21_code 7 = .ok (.if_icmp .ge 37, 3) := by decide +kernel
theorem d8_44 : decode jdk_52_method_21_code 44 = .ok (.iload 4, 2) := by decide +kernel
theorem d8_46 : decode jdk_52_method_21_code 46 = .ok (.ireturn, 1) := by decide +kernel
theorem d8_10 : decode jdk_52_method_21_code 10 = .ok (.aload_n 0, 1) := by decide +kernel
theorem d8_11 : decode jdk_52_method_21_code 11 = .ok (.iload_n 1, 1) := by decide +kernel
theorem d8_12 : decode jdk_52_method_21_code 12 = .ok (.caload, 1) := by decide +kernel
theorem d8_13 : decode jdk_52_method_21_code 13 = .ok (.istore 6, 2) := by decide +kernel
theorem d8_15 : decode jdk_52_method_21_code 15 = .ok (.iload 6, 2) := by decide +kernel
theorem d8_17 : decode jdk_52_method_21_code 17 = .ok (.sipush 255, 3) := by decide +kernel
theorem d8_20 : decode jdk_52_method_21_code 20 = .ok (.if_icmp .le 6, 3) := by decide +kernel
theorem d8_26 : decode jdk_52_method_21_code 26 = .ok (.aload_n 2, 1) := by decide +kernel
theorem d8_27 : decode jdk_52_method_21_code 27 = .ok (.iload_n 3, 1) := by decide +kernel
theorem d8_28 : decode jdk_52_method_21_code 28 = .ok (.iload 6, 2) := by decide +kernel
theorem d8_30 : decode jdk_52_method_21_code 30 = .ok (.i2b, 1) := by decide +kernel
theorem d8_31 : decode jdk_52_method_21_code 31 = .ok (.bastore, 1) := by decide +kernel
theorem d8_32 : decode jdk_52_method_21_code 32 = .ok (.iinc 1 1, 3) := by decide +kernel
theorem d8_35 : decode jdk_52_method_21_code 35 = .ok (.iinc 3 1, 3) := by decide +kernel
theorem d8_38 : decode jdk_52_method_21_code 38 = .ok (.iinc 5 1, 3) := by decide +kernel
theorem d8_41 : decode jdk_52_method_21_code 41 = .ok (.goto (-38), 3) := by decide +kernel
theorem d8_0 : decode jdk_52_method_21_code 0 = .ok (.iconst 0, 1) := by decide +kernel
theorem d8_1 : decode jdk_52_method_21_code 1 = .ok (.istore 5, 2) := by decide +kernel
abbrev rm_con_compress5 : Room := { frames := 0, cells := 0, slots := 0, locals := 0 }
set_option maxRecDepth 65536 in
set_option maxHeartbeats 40000000 in
theorem con_compress5 (l : Launch) {Z : State} {a0 : Array Value} (hw : ∀ d ∈ tables_1, d.before a0 Z = true) {n0 : Nat} {h0 : Heap} {b d : Addr} {cs : List Int32} (A : IA Z h0 b .char cs) (D : IA Z h0 d .byte (List.replicate cs.length 0)) (hlat : ∀ c ∈ cs, 0 ≤ c.toInt ∧ c.toInt < 256) :
    Con l Z true false ELs n0 (⟨"java/lang/StringUTF16", "compress", "([CI[BII)I"⟩ : MethodName) jdk_52_method_21_code 7 (some .int) rm_con_compress5 [] #[(.ref b), (.int 0), (.ref d), (.int 0), (.int cs.length.toInt32)] h0 [d] (fun v h => v = some (.int cs.length.toInt32) ∧ IA Z h d .byte (cs.map fun c => c.toInt8.toInt32)) := by
  refine Con.intro (plainFor_of_name pn_java_lang_StringUTF16) (hELs hw) ?_
  intro p e s m below meth c hh G
  refine castRun (g' := mkF m 0 #[.val (.ref b), .val (.int 0), .val (.ref d), .val (.int 0), .val (.int cs.length.toInt32), .unset, .unset] []) (by first | rfl | (simp [entryFrame, mkF, argsToLocals, Value.category, maxLocals]; done)) ?_
  have hl := A.len
  have loop : ∀ (k i : Nat) (h : Heap) (sl : Slot), i + k = cs.length → IA Z h b .char cs → IA Z h d .byte ((cs.take i).map (fun c => c.toInt8.toInt32) ++ List.replicate k 0) → (sl = .unset ∨ ∃ w, sl = .val w ∧ w.category = 1) →
      Run p l e rm_con_compress5 s m #[.ref b, .int 0, .ref d, .int 0, .int cs.length.toInt32] below meth c Z true false ELs n0 [d] (fun v h => v = some (.int cs.length.toInt32) ∧ IA Z h d .byte (cs.map fun c => c.toInt8.toInt32)) h [d] 0 0 (mkF m 3 #[.val (.ref b), .val (.int i.toInt32), .val (.ref d), .val (.int i.toInt32), .val (.int cs.length.toInt32), .val (.int i.toInt32), sl] []) := by
    intro k; induction k with
    | zero =>
      intro i h sl hik A D hsl
      have hi : i = cs.length := by omega
      subst hi
      refine GoKit.iload G d8_3 rfl (pc' := 5) rfl ?_
      refine GoKit.iload G d8_5 rfl (pc' := 7) rfl ?_
      refine GoKit.icmp_ge_t G d8_7 Int32.lt_irrefl (by decide) (pc' := 44) rfl ?_
      refine GoKit.iload G d8_44 rfl (pc' := 46) rfl ?_
      refine GoKit.retInt G d8_46 rfl (by decide) (by decide) ?_
      exact ⟨rfl, by simpa using D⟩
    | succ k ih =>
      intro i h sl hik A D hsl
      have hi : i < cs.length := by omega
      obtain ⟨ch, hch⟩ : ∃ ch, cs[i]? = some ch := ⟨cs[i], List.getElem?_eq_getElem hi⟩
      have hcl := hlat ch (List.mem_of_getElem? hch)
      refine GoKit.iload G d8_3 rfl (pc' := 5) rfl ?_
      refine GoKit.iload G d8_5 rfl (pc' := 7) rfl ?_
      refine GoKit.icmp_ge_f G d8_7 ((toI_lt (by omega) (by omega)).mpr hi) (pc' := 10) rfl ?_
      refine GoKit.aloadN G d8_10 rfl rfl (pc' := 11) rfl ?_
      refine GoKit.iloadN G d8_11 rfl (pc' := 12) rfl ?_
      refine GoKit.caloadI G d8_12 A (i := i) (toI_clamp (by omega)) (toI_nn (by omega)) hch (pc' := 13) rfl ?_
      refine GoKit.istore G d8_13 (Ls' := #[.val (.ref b), .val (.int i.toInt32), .val (.ref d), .val (.int i.toInt32), .val (.int cs.length.toInt32), .val (.int i.toInt32), .val (.int ch)]) (XS.store1 rfl hsl rfl) (pc' := 15) rfl ?_
      refine GoKit.iload G d8_15 rfl (pc' := 17) rfl ?_
      refine GoKit.sipush G (255 : Int32) d8_17 rfl (pc' := 20) rfl ?_
      refine GoKit.icmp_le_t G d8_20 (lat_le hcl) (by decide) (pc' := 26) rfl ?_
      refine GoKit.aloadN G d8_26 rfl rfl (pc' := 27) rfl ?_
      refine GoKit.iloadN G d8_27 rfl (pc' := 28) rfl ?_
      refine GoKit.iload G d8_28 rfl (pc' := 30) rfl ?_
      refine GoKit.i2b G d8_30 (pc' := 31) rfl (fun v1 hqv1 => ?_)
      refine GoKit.bastI G d8_31 D (i := i) (toI_clamp (by omega)) (toI_nn (by omega)) (by simp; omega) (x' := ch.toInt8.toInt32) (by rw [hqv1]; exact lo8_nar _) (List.Mem.head _) (pc' := 32) rfl (fun h' W' D' => ?_)
      rw [set_fill _ cs i k ch hch] at D'
      refine GoKit.iinc G (1 : Int32) d8_32 rfl rfl (Ls' := #[.val (.ref b), .val (.int (i.toInt32 + (1 : Int32))), .val (.ref d), .val (.int i.toInt32), .val (.int cs.length.toInt32), .val (.int i.toInt32), .val (.int ch)]) rfl (pc' := 35) rfl ?_
      generalize hqv2 : (i.toInt32 + (1 : Int32)) = v2
      refine GoKit.iinc G (1 : Int32) d8_35 rfl rfl (Ls' := #[.val (.ref b), .val (.int v2), .val (.ref d), .val (.int (i.toInt32 + (1 : Int32))), .val (.int cs.length.toInt32), .val (.int i.toInt32), .val (.int ch)]) rfl (pc' := 38) rfl ?_
      generalize hqv3 : (i.toInt32 + (1 : Int32)) = v3
      refine GoKit.iinc G (1 : Int32) d8_38 rfl rfl (Ls' := #[.val (.ref b), .val (.int v2), .val (.ref d), .val (.int v3), .val (.int cs.length.toInt32), .val (.int (i.toInt32 + (1 : Int32))), .val (.int ch)]) rfl (pc' := 41) rfl ?_
      generalize hqv4 : (i.toInt32 + (1 : Int32)) = v4
      refine GoKit.goto G d8_41 (by decide) (pc' := 3) rfl ?_
      rw [toI_succ] at hqv2; subst hqv2
      rw [toI_succ] at hqv3; subst hqv3
      rw [toI_succ] at hqv4; subst hqv4
      exact ih (i + 1) h' (.val (.int ch)) (by omega) (A.other W' (IA.neTy A D (by decide))) D' (Or.inr ⟨_, rfl, rfl⟩)
  refine GoKit.iconst G (0 : Int32) d8_0 rfl (pc' := 1) rfl ?_
  refine GoKit.istore G d8_1 (Ls' := #[.val (.ref b), .val (.int (0 : Int32)), .val (.ref d), .val (.int (0 : Int32)), .val (.int cs.length.toInt32), .val (.int (0 : Int32)), .unset]) rfl (pc' := 3) rfl ?_
  exact loop cs.length 0 h0 .unset (by omega) A (by simpa using D) (Or.inl rfl)
theorem d7_0 : decode jdk_52_method_16_code 0 = .ok (.iload_n 2, 1) := by decide +kernel
theorem d7_1 : decode jdk_52_method_16_code 1 = .ok (.newarray .byte, 2) := by decide +kernel
theorem d7_3 : decode jdk_52_method_16_code 3 = .ok (.astore_n 3, 1) := by decide +kernel
theorem d7_4 : decode jdk_52_method_16_code 4 = .ok (.aload_n 0, 1) := by decide +kernel
theorem d7_5 : decode jdk_52_method_16_code 5 = .ok (.iload_n 1, 1) := by decide +kernel
theorem d7_6 : decode jdk_52_method_16_code 6 = .ok (.aload_n 3, 1) := by decide +kernel
theorem d7_7 : decode jdk_52_method_16_code 7 = .ok (.iconst 0, 1) := by decide +kernel
theorem d7_8 : decode jdk_52_method_16_code 8 = .ok (.iload_n 2, 1) := by decide +kernel
theorem d7_9 : decode jdk_52_method_16_code 9 = .ok (.invokestatic 115, 3) := by decide +kernel
theorem pd_0 : parseMethodDescriptor "([CI[BII)I" = some ⟨[(.array .char), .int, (.array .byte), .int, .int], some .int⟩ := by decide +kernel
theorem d7_12 : decode jdk_52_method_16_code 12 = .ok (.istore 4, 2) := by decide +kernel
theorem d7_14 : decode jdk_52_method_16_code 14 = .ok (.iload 4, 2) := by decide +kernel
theorem d7_16 : decode jdk_52_method_16_code 16 = .ok (.iload_n 2, 1) := by decide +kernel
theorem d7_17 : decode jdk_52_method_16_code 17 = .ok (.if_icmp .eq 40, 3) := by decide +kernel
theorem d7_57 : decode jdk_52_method_16_code 57 = .ok (.aload_n 3, 1) := by decide +kernel
theorem d7_58 : decode jdk_52_method_16_code 58 = .ok (.areturn, 1) := by decide +kernel
abbrev rm_con_compress3 : Room := { frames := 1, cells := 1, slots := 4, locals := 18 }
set_option maxRecDepth 65536 in
set_option maxHeartbeats 40000000 in
theorem con_compress3 (l : Launch) {Z : State} {a0 : Array Value} (hw : ∀ d ∈ tables_1, d.before a0 Z = true) {n0 : Nat} {h0 : Heap} {b : Addr} {cs : List Int32} (A : IA Z h0 b .char cs) (hcap : cs.length ≤ 4) (hlat : ∀ c ∈ cs, 0 ≤ c.toInt ∧ c.toInt < 256) :
    Con l Z true false ELs n0 (⟨"java/lang/StringUTF16", "compress", "([CII)[B"⟩ : MethodName) jdk_52_method_16_code 6 (some (.array .byte)) rm_con_compress3 [] #[(.ref b), (.int 0), (.int cs.length.toInt32)] h0 [] (fun v h => ∃ d, v = some (.ref d) ∧ IA Z h d .byte (cs.map fun c => c.toInt8.toInt32)) := by
  refine Con.intro (plainFor_of_name pn_java_lang_StringUTF16) (hELs hw) ?_
  intro p e s m below meth c hh G
  refine castRun (g' := mkF m 0 #[.val (.ref b), .val (.int 0), .val (.int cs.length.toInt32), .unset, .unset, .unset] []) (by first | rfl | (simp [entryFrame, mkF, argsToLocals, Value.category, maxLocals]; done)) ?_
  have hl := A.len
  refine GoKit.iloadN G d7_0 rfl (pc' := 1) rfl ?_
  refine GoKit.newbI G d7_1 (wi hw 21 rfl) (toI_nn hl) (k := cs.length) (cap := 4) (toI_clamp hl) hcap (by decide) (by decide) (by decide) (cells' := 1) (slots' := 4) rfl rfl (pc' := 3) rfl (fun h4 a1 ga1 E2 A3 => ?_)
  refine GoKit.astoreN G d7_3 rfl (Ls' := #[.val (.ref b), .val (.int 0), .val (.int cs.length.toInt32), .val (.ref a1), .unset, .unset]) rfl (pc' := 4) rfl ?_
  refine GoKit.aloadN G d7_4 rfl rfl (pc' := 5) rfl ?_
  refine GoKit.iloadN G d7_5 rfl (pc' := 6) rfl ?_
  refine GoKit.aloadN G d7_6 rfl rfl (pc' := 7) rfl ?_
  refine GoKit.iconst G (0 : Int32) d7_7 rfl (pc' := 8) rfl ?_
  refine GoKit.iloadN G d7_8 rfl (pc' := 9) rfl ?_
  refine GoKit.callStatic G d7_9 (wi hw 42 rfl) (wi hw 43 rfl) (wi hw 40 rfl) (wi hw 44 rfl) (by decide) (owc := [a1]) (W := 0) (argsL := [(.ref b), (.int 0), (.ref a1), (.int (0 : Int32)), (.int cs.length.toInt32)]) (rest := []) (con_compress5 l hw (A.ext E2) A3 hlat) rfl (lenOf pd_0 rfl) rfl (by decide) (Nat.le_of_eq rfl) (by decide) (by decide) (by decide) (by intro x hx; simp only [List.mem_cons, List.not_mem_nil, or_false] at hx ⊢; simp [hx]) (cells' := 1) (slots' := 4) rfl rfl (pc' := 12) rfl (fun r5 h8 q6 K7 => ?_)
  obtain ⟨rfl, A9⟩ := q6
  show Run _ _ _ _ _ _ _ _ _ _ _ _ _ _ _ _ _ _ _ _ _ (mkF m 12 #[.val (.ref b), .val (.int 0), .val (.int cs.length.toInt32), .val (.ref a1), .unset, .unset] [(.int cs.length.toInt32)])
  refine GoKit.istore G d7_12 (Ls' := #[.val (.ref b), .val (.int 0), .val (.int cs.length.toInt32), .val (.ref a1), .val (.int cs.length.toInt32), .unset]) rfl (pc' := 14) rfl ?_
  refine GoKit.iload G d7_14 rfl (pc' := 16) rfl ?_
  refine GoKit.iloadN G d7_16 rfl (pc' := 17) rfl ?_
  refine GoKit.icmp_eq_t G d7_17 rfl (by decide) (pc' := 57) rfl ?_
  refine GoKit.aloadN G d7_57 rfl rfl (pc' := 58) rfl ?_
  refine GoKit.retRef G rfl d7_58 rfl rfl rfl (by decide) (by decide) ?_
  exact ⟨_, rfl, A9⟩
theorem d3_0 : decode jdk_42_method_149_code 0 = .ok (.aload_n 0, 1) := by decide +kernel
theorem d3_1 : decode jdk_42_method_149_code 1 = .ok (.invokespecial 1, 3) := by decide +kernel
theorem d3_4 : decode jdk_42_method_149_code 4 = .ok (.iload_n 3, 1) := by decide +kernel
theorem d3_5 : decode jdk_42_method_149_code 5 = .ok (.ifCond .ne 22, 3) := by decide +kernel
theorem d3_27 : decode jdk_42_method_149_code 27 = .ok (.getstatic 38, 3) := by decide +kernel
theorem d3_30 : decode jdk_42_method_149_code 30 = .ok (.ifCond .eq 28, 3) := by decide +kernel
theorem d3_33 : decode jdk_42_method_149_code 33 = .ok (.aload_n 1, 1) := by decide +kernel
theorem d3_34 : decode jdk_42_method_149_code 34 = .ok (.iload_n 2, 1) := by decide +kernel
theorem d3_35 : decode jdk_42_method_149_code 35 = .ok (.iload_n 3, 1) := by decide +kernel
theorem d3_36 : decode jdk_42_method_149_code 36 = .ok (.invokestatic 177, 3) := by decide +kernel
theorem pd_1 : parseMethodDescriptor "([CII)[B" = some ⟨[(.array .char), .int, .int], some (.array .byte)⟩ := by decide +kernel
theorem d3_39 : decode jdk_42_method_149_code 39 = .ok (.astore 5, 2) := by decide +kernel
theorem d3_41 : decode jdk_42_method_149_code 41 = .ok (.aload_n 0, 1) := by decide +kernel
theorem d3_42 : decode jdk_42_method_149_code 42 = .ok (.aload 5, 2) := by decide +kernel
theorem d3_44 : decode jdk_42_method_149_code 44 = .ok (.iload_n 3, 1) := by decide +kernel
theorem d3_45 : decode jdk_42_method_149_code 45 = .ok (.invokestatic 47, 3) := by decide +kernel
theorem pd_2 : parseMethodDescriptor "([BI)B" = some ⟨[(.array .byte), .int], some .byte⟩ := by decide +kernel
theorem d3_48 : decode jdk_42_method_149_code 48 = .ok (.putfield 15, 3) := by decide +kernel
theorem d3_51 : decode jdk_42_method_149_code 51 = .ok (.aload_n 0, 1) := by decide +kernel
theorem d3_52 : decode jdk_42_method_149_code 52 = .ok (.aload 5, 2) := by decide +kernel
theorem d3_54 : decode jdk_42_method_149_code 54 = .ok (.putfield 9, 3) := by decide +kernel
theorem d3_57 : decode jdk_42_method_149_code 57 = .ok (.return_, 1) := by decide +kernel
theorem pn_java_lang_String : plainName "java/lang/String" = true := by first | (simp [plainName, overriddenIn]; done) | decide +kernel
abbrev rm_con_strInit4 : Room := { frames := 2, cells := 1, slots := 4, locals := 35 }
set_option maxRecDepth 65536 in
set_option maxHeartbeats 40000000 in
theorem con_strInit4 (l : Launch) {Z : State} {a0 : Array Value} (hw : ∀ d ∈ tables_1, d.before a0 Z = true) {n0 : Nat} {h0 : Heap} {a b : Addr} {cs : List Int32} (E : Exa Z h0 a "java/lang/String") (FV : Fld Z h0 a "java/lang/String" "value" "[B" .null) (FC : Fld Z h0 a "java/lang/String" "coder" "B" (.int 0)) (A : IA Z h0 b .char cs) (hcap : cs.length ≤ 4) (hlat : ∀ c ∈ cs, 0 ≤ c.toInt ∧ c.toInt < 256) (hne : cs ≠ []) (HC : Cst Z) :
    Con l Z true false ELs n0 (⟨"java/lang/String", "<init>", "([CIILjava/lang/Void;)V"⟩ : MethodName) jdk_42_method_149_code 6 none rm_con_strInit4 [] #[(.ref a), (.ref b), (.int 0), (.int cs.length.toInt32), .null] h0 [a] (fun v h => v = none ∧ Lat Z h a cs) := by
  refine Con.intro (plainFor_of_name pn_java_lang_String) (hELs hw) ?_
  intro p e s m below meth c hh G
  refine castRun (g' := mkF m 0 #[.val (.ref a), .val (.ref b), .val (.int 0), .val (.int cs.length.toInt32), .val .null, .unset] []) (by first | rfl | (simp [entryFrame, mkF, argsToLocals, Value.category, maxLocals]; done)) ?_
  obtain ⟨cz, SC, hcz⟩ := HC
  have hl := A.len
  have hz : ¬ cs.length.toInt32 = 0 := fun q => hne (List.length_eq_zero_iff.mp ((toI_eq (k := 0) hl (by decide)).mp q))
  refine GoKit.aloadN G d3_0 rfl rfl (pc' := 1) rfl ?_
  refine GoKit.initObj G d3_1 (wi hw 17 rfl) (wi hw 18 rfl) (wi hw 19 rfl) rfl (by decide) (W := 0) (Nat.le_of_eq rfl) (by decide) (pc' := 4) rfl ?_
  refine GoKit.iloadN G d3_4 rfl (pc' := 5) rfl ?_
  refine GoKit.if_ne_t G d3_5 hz (by decide) (pc' := 27) rfl ?_
  refine GoKit.gets G d3_27 (wi hw 37 rfl) Via.refl SC (pc' := 30) rfl ?_
  refine GoKit.if_eq_f G d3_30 hcz (pc' := 33) rfl ?_
  refine GoKit.aloadN G d3_33 rfl rfl (pc' := 34) rfl ?_
  refine GoKit.iloadN G d3_34 rfl (pc' := 35) rfl ?_
  refine GoKit.iloadN G d3_35 rfl (pc' := 36) rfl ?_
  refine GoKit.callStatic G d3_36 (wi hw 38 rfl) (wi hw 39 rfl) (wi hw 40 rfl) (wi hw 41 rfl) (by decide) (owc := []) (W := 0) (argsL := [(.ref b), (.int 0), (.int cs.length.toInt32)]) (rest := []) (con_compress3 l hw A hcap hlat) rfl (lenOf pd_1 rfl) rfl (by decide) (Nat.le_of_eq rfl) (by decide) (by decide) (by decide) (fun _ q => nomatch q) (cells' := 1) (slots' := 4) rfl rfl (pc' := 39) rfl (fun r1 h4 q2 K3 => ?_)
  obtain ⟨d5, rfl, A6⟩ := q2
  have ne7 := IA.ne A6 (E.keep K3) (wi hw 7 rfl)
  show Run _ _ _ _ _ _ _ _ _ _ _ _ _ _ _ _ _ _ _ _ _ (mkF m 39 #[.val (.ref a), .val (.ref b), .val (.int 0), .val (.int cs.length.toInt32), .val .null, .unset] [(.ref d5)])
  refine GoKit.astore G d3_39 rfl (Ls' := #[.val (.ref a), .val (.ref b), .val (.int 0), .val (.int cs.length.toInt32), .val .null, .val (.ref d5)]) rfl (pc' := 41) rfl ?_
  refine GoKit.aloadN G d3_41 rfl rfl (pc' := 42) rfl ?_
  refine GoKit.aload G d3_42 rfl rfl (pc' := 44) rfl ?_
  refine GoKit.iloadN G d3_44 rfl (pc' := 45) rfl ?_
  refine GoKit.callStaticP G d3_45 (wi hw 45 rfl) (wi hw 46 rfl) (wi hw 40 rfl) (wi hw 47 rfl) (by decide) (W := 1) (argsL := [(.ref d5), (.int cs.length.toInt32)]) (rest := [(.ref a)]) ((by simpa using con_coderLen l hw A6)) rfl (lenOf pd_2 rfl) rfl (by decide) (Nat.le_of_eq rfl) (by decide) (by decide) (by decide) (cells' := 1) (slots' := 4) rfl rfl (pc' := 48) rfl ?_
  show Run _ _ _ _ _ _ _ _ _ _ _ _ _ _ _ _ _ _ _ _ _ (mkF m 48 #[.val (.ref a), .val (.ref b), .val (.int 0), .val (.int cs.length.toInt32), .val .null, .val (.ref d5)] [(.int 0), (.ref a)])
  refine GoKit.putf G d3_48 (wi hw 27 rfl) Via.refl (FC.keep K3 nin0) (E.keep K3) (Or.inr ⟨(wi hw 23 rfl), rfl, rfl⟩) (wi hw 7 rfl) (ty := .byte) (by decide) rfl rfl (List.Mem.head _) (pc' := 51) rfl (fun h9 W8 => ?_)
  have F10 := ((FC.keep K3 nin0)).same W8
  refine GoKit.aloadN G d3_51 rfl rfl (pc' := 52) rfl ?_
  refine GoKit.aload G d3_52 rfl rfl (pc' := 54) rfl ?_
  refine GoKit.putf G d3_54 (wi hw 26 rfl) Via.refl ((FV.keep K3 nin0).other W8 (Or.inr (slot_ne (Or.inr (wi hw 22 rfl)) (Or.inr (wi hw 23 rfl)) (by decide) (by decide : _ = some (.array .byte)) (by decide : _ = some .byte)))) ((E.keep K3).wr W8) (Or.inr ⟨(wi hw 22 rfl), rfl, rfl⟩) (wi hw 7 rfl) (ty := (.array .byte)) (by decide) rfl rfl (List.Mem.head _) (pc' := 57) rfl (fun h12 W11 => ?_)
  have F13 := (((FV.keep K3 nin0).other W8 (Or.inr (slot_ne (Or.inr (wi hw 22 rfl)) (Or.inr (wi hw 23 rfl)) (by decide) (by decide : _ = some (.array .byte)) (by decide : _ = some .byte))))).same W11
  refine GoKit.retVoid G d3_57 rfl (by decide) (by decide) ?_
  exact ⟨rfl, (((E.keep K3).wr W8).wr W11), ⟨d5, F13, (F10.other W11 (Or.inr (slot_ne (Or.inr (wi hw 23 rfl)) (Or.inr (wi hw 22 rfl)) (by decide) (by decide : _ = some .byte) (by decide : _ = some (.array .byte))))), ((A6.other W8 ne7).other W11 ne7)⟩, hlat⟩
theorem d2_0 : decode jdk_42_method_3_code 0 = .ok (.aload_n 0, 1) := by decide +kernel
theorem d2_1 : decode jdk_42_method_3_code 1 = .ok (.aload_n 1, 1) := by decide +kernel
theorem d2_2 : decode jdk_42_method_3_code 2 = .ok (.iconst 0, 1) := by decide +kernel
theorem d2_3 : decode jdk_42_method_3_code 3 = .ok (.aload_n 1, 1) := by decide +kernel
theorem d2_4 : decode jdk_42_method_3_code 4 = .ok (.arraylength, 1) := by decide +kernel
theorem d2_5 : decode jdk_42_method_3_code 5 = .ok (.aconst_null, 1) := by decide +kernel
theorem d2_6 : decode jdk_42_method_3_code 6 = .ok (.invokespecial 27, 3) := by decide +kernel
theorem pd_3 : parseMethodDescriptor "([CIILjava/lang/Void;)V" = some ⟨[(.array .char), .int, .int, (.object "java/lang/Void")], none⟩ := by decide +kernel
theorem d2_9 : decode jdk_42_method_3_code 9 = .ok (.return_, 1) := by decide +kernel
abbrev rm_con_strInit : Room := { frames := 5, cells := 2, slots := 12, locals := 74 }
set_option maxRecDepth 65536 in
set_option maxHeartbeats 40000000 in
theorem con_strInit (l : Launch) {Z : State} {a0 : Array Value} (hw : ∀ d ∈ tables_1, d.before a0 Z = true) {n0 : Nat} {h0 : Heap} {a b : Addr} {cs : List Int32} (E : Exa Z h0 a "java/lang/String") (FV : Fld Z h0 a "java/lang/String" "value" "[B" .null) (FC : Fld Z h0 a "java/lang/String" "coder" "B" (.int 0)) (A : IA Z h0 b .char cs) (hcap : cs.length ≤ 4) (hlat : ∀ c ∈ cs, 0 ≤ c.toInt ∧ c.toInt < 256) (hne : cs ≠ []) (HC : Cst Z) :
    Con l Z true false ELs n0 (⟨"java/lang/String", "<init>", "([C)V"⟩ : MethodName) jdk_42_method_3_code 2 none rm_con_strInit [] #[(.ref a), (.ref b)] h0 [a] (fun v h => v = none ∧ Lat Z h a cs) := by
  refine Con.intro (plainFor_of_name pn_java_lang_String) (hELs hw) ?_
  intro p e s m below meth c hh G
  refine castRun (g' := mkF m 0 #[.val (.ref a), .val (.ref b)] []) (by first | rfl | (simp [entryFrame, mkF, argsToLocals, Value.category, maxLocals]; done)) ?_
  refine GoKit.aloadN G d2_0 rfl rfl (pc' := 1) rfl ?_
  refine GoKit.aloadN G d2_1 rfl rfl (pc' := 2) rfl ?_
  refine GoKit.iconst G (0 : Int32) d2_2 rfl (pc' := 3) rfl ?_
  refine GoKit.aloadN G d2_3 rfl rfl (pc' := 4) rfl ?_
  refine GoKit.arrlenI G d2_4 A (z := cs.length.toInt32) rfl (pc' := 5) rfl ?_
  refine GoKit.aconstNull G d2_5 (pc' := 6) rfl ?_
  refine GoKit.callSpecial G d2_6 rfl (wi hw 13 rfl) (wi hw 14 rfl) (wi hw 8 rfl) (wi hw 16 rfl) (by decide) (owc := [a]) (W := 0) (argsL := [(.ref b), (.int (0 : Int32)), (.int cs.length.toInt32), .null]) (rest := []) (con_strInit4 l hw E FV FC A hcap hlat hne HC) rfl (lenOf pd_3 rfl) rfl (by decide) (Nat.le_of_eq rfl) (by decide) (by decide) (by decide) (by intro x hx; simp only [List.mem_cons, List.not_mem_nil, or_false] at hx ⊢; simp [hx]) (cells' := 1) (slots' := 4) rfl rfl (pc' := 9) rfl (fun r1 h4 q2 K3 => ?_)
  obtain ⟨rfl, S5⟩ := q2
  show Run _ _ _ _ _ _ _ _ _ _ _ _ _ _ _ _ _ _ _ _ _ (mkF m 9 #[.val (.ref a), .val (.ref b)] [])
  refine GoKit.retVoid G d2_9 rfl (by decide) (by decide) ?_
  exact ⟨rfl, S5⟩
def b0 (c : Int32) : Int32 := c.toInt8.toInt32
def b1 (c : Int32) : Int32 := (c >>> ((8 : Int32) &&& 31)).toInt8.toInt32
def u16 : List Int32 → List Int32
  | [] => []
  | c :: cs => b0 c :: b1 c :: u16 cs
theorem u16_len : ∀ cs, (u16 cs).length = 2 * cs.length
  | [] => rfl
  | c :: cs => by simp only [u16, List.length_cons, u16_len cs]; omega
theorem u16_app : ∀ cs ds, u16 (cs ++ ds) = u16 cs ++ u16 ds
  | [], ds => rfl
  | c :: cs, ds => by simp only [List.cons_append, u16, u16_app cs ds]
theorem u16_get0 : ∀ (cs : List Int32) (i : Nat) (c : Int32), cs[i]? = some c → (u16 cs)[2 * i]? = some (b0 c) ∧ (u16 cs)[2 * i + 1]? = some (b1 c)
  | [], i, c, h => by cases h
  | d :: cs, 0, c, h => by
    have e : d = c := by simpa using h
    subst e; exact ⟨rfl, rfl⟩
  | d :: cs, i + 1, c, h => by
    have := u16_get0 cs i c (by simpa using h)
    rw [show 2 * (i + 1) = 2 * i + 1 + 1 from by omega]
    simpa [u16] using this
theorem u16_set (cs : List Int32) (i k : Nat) (c : Int32) (hc : cs[i]? = some c) : ((u16 (cs.take i) ++ List.replicate (2 * (k + 1)) 0).set (2 * i) (b0 c)).set (2 * i + 1) (b1 c) = u16 (cs.take (i + 1)) ++ List.replicate (2 * k) 0 := by
  have hi := (List.getElem?_eq_some_iff.mp hc).1
  have hl : (u16 (cs.take i)).length = 2 * i := by rw [u16_len]; simp; omega
  rw [List.take_add_one, hc, u16_app, List.set_append_right _ _ (by omega), List.set_append_right _ _ (by omega), hl, show 2 * i - 2 * i = 0 from by omega, show 2 * i + 1 - 2 * i = 1 from by omega, show 2 * (k + 1) = 2 * k + 1 + 1 from by omega, List.replicate_succ, List.replicate_succ]
  simp [u16]
theorem shl1 {i : Nat} (h : i < 2 ^ 30) : i.toInt32 <<< ((1 : Int32) &&& 31) = (2 * i).toInt32 := by
  apply Int32.toBitVec_inj.mp
  show (BitVec.ofNat 32 i) <<< (1 : Nat) = BitVec.ofNat 32 (2 * i)
  apply BitVec.eq_of_toNat_eq
  simp [BitVec.toNat_shiftLeft, Nat.shiftLeft_eq]
  omega
theorem shr1 {i : Nat} (h : i < 2 ^ 30) : (2 * i).toInt32 >>> ((1 : Int32) &&& 31) = i.toInt32 := by
  apply Int32.toBitVec_inj.mp
  show (BitVec.ofNat 32 (2 * i)).sshiftRight (1 : Nat) = BitVec.ofNat 32 i
  rw [BitVec.sshiftRight_eq_of_msb_false (by rw [BitVec.msb_eq_false_iff_two_mul_lt]; simp; omega)]
  apply BitVec.eq_of_toNat_eq
  simp [BitVec.toNat_ushiftRight, Nat.shiftRight_eq_div_pow]
  omega
theorem sx8 (x : BitVec 8) : (x.signExtend 32) &&& 255#32 = x.setWidth 32 := by
  revert x; decide +kernel
theorem u16_bv (c : BitVec 32) (h : c.toNat < 65536) : ((((((c.setWidth 8).signExtend 32) &&& 255#32) <<< 0) ||| (((((c.sshiftRight 8).setWidth 8).signExtend 32) &&& 255#32) <<< 8)).setWidth 16).setWidth 32 = c := by
  rw [sx8, sx8, BitVec.sshiftRight_eq_of_msb_false (by rw [BitVec.msb_eq_false_iff_two_mul_lt]; omega)]
  apply BitVec.eq_of_toNat_eq
  simp only [BitVec.toNat_setWidth, BitVec.toNat_or, BitVec.toNat_shiftLeft, BitVec.toNat_ushiftRight, Nat.shiftRight_eq_div_pow]
  generalize c.toNat = n at h
  have e1 : (n % 2 ^ 8 % 2 ^ 32) <<< 0 % 2 ^ 32 = n % 256 := by rw [Nat.shiftLeft_zero]; omega
  have e2 : (n / 2 ^ 8 % 2 ^ 8 % 2 ^ 32) <<< 8 % 2 ^ 32 = (n / 256) <<< 8 := by rw [Nat.shiftLeft_eq, Nat.shiftLeft_eq]; omega
  rw [e1, e2, Nat.or_comm, ← Nat.shiftLeft_add_eq_or_of_lt (by omega : n % 256 < 2 ^ 8), Nat.shiftLeft_eq]
  omega
theorem toNat16 {c : Int32} (h : 0 ≤ c.toInt ∧ c.toInt < 65536) : c.toBitVec.toNat < 65536 := by
  have h1 : c.toBitVec.toInt = c.toInt := rfl
  have h2 := BitVec.toInt_eq_toNat_cond c.toBitVec
  have := c.toBitVec.isLt
  split at h2 <;> omega
theorem sl0 (x : Int32) : (x <<< ((0 : Int32) &&& 31)).toBitVec = x.toBitVec <<< 0 := rfl
theorem sl8 (x : Int32) : (x <<< ((8 : Int32) &&& 31)).toBitVec = x.toBitVec <<< 8 := rfl
theorem sr8 (x : Int32) : (x >>> ((8 : Int32) &&& 31)).toBitVec = x.toBitVec.sshiftRight 8 := rfl
theorem u16_back {c : Int32} (h : 0 ≤ c.toInt ∧ c.toInt < 65536) : nar .char ((((b0 c &&& 255) <<< ((0 : Int32) &&& 31)) ||| ((b1 c &&& 255) <<< ((8 : Int32) &&& 31))).toUInt32.toUInt16.toUInt32.toInt32) = c := by
  have e := u16_bv c.toBitVec (toNat16 h)
  have n16 : ∀ x : Int32, nar .char (x.toUInt32.toUInt16.toUInt32.toInt32) = x.toUInt32.toUInt16.toUInt32.toInt32 := fun x => by simp only [nar, UInt32.toUInt32_toInt32, UInt16.toUInt16_toUInt32]
  rw [n16]
  apply Int32.toBitVec_inj.mp
  show ((((b0 c &&& 255) <<< ((0 : Int32) &&& 31)).toBitVec ||| ((b1 c &&& 255) <<< ((8 : Int32) &&& 31)).toBitVec).setWidth 16).setWidth 32 = c.toBitVec
  rw [sl0, sl8]
  show (((((((c.toBitVec).signExtend 8).signExtend 32) &&& 255#32) <<< 0) ||| (((((c >>> ((8 : Int32) &&& 31)).toBitVec.signExtend 8).signExtend 32) &&& 255#32) <<< 8)).setWidth 16).setWidth 32 = c.toBitVec
  rw [sr8, BitVec.signExtend_eq_setWidth_of_le _ (by decide : 8 ≤ 32), BitVec.signExtend_eq_setWidth_of_le _ (by decide : 8 ≤ 32)]
  exact e
theorem nar16 {c : Int32} (h : 0 ≤ c.toInt ∧ c.toInt < 65536) : nar .char c = c := by
  apply Int32.toBitVec_inj.mp
  have e := toNat16 h
  show ((c.toBitVec.setWidth 16).setWidth 32) = c.toBitVec
  apply BitVec.eq_of_toNat_eq
  simp
  omega
theorem coderU {n : Nat} (h1 : 0 < n) (h2 : n < 2 ^ 30) : nar .byte (((n.toInt32 - (2 * n).toInt32).toUInt32 >>> ((31 : Int32) &&& 31).toUInt32).toInt32.toInt8.toInt32) = 1 := by
  have e : (n.toInt32 - (2 * n).toInt32).toUInt32 >>> ((31 : Int32) &&& 31).toUInt32 = 1 := by
    apply UInt32.toBitVec_inj.mp
    show ((BitVec.ofNat 32 n) - (BitVec.ofNat 32 (2 * n))) >>> (31 : Nat) = 1#32
    apply BitVec.eq_of_toNat_eq
    rw [BitVec.toNat_ushiftRight, Nat.shiftRight_eq_div_pow, BitVec.toNat_sub]
    simp
    omega
  rw [e]; rfl
def U16 (Z : State) (h : Heap) (a : Addr) (cs : List Int32) : Prop := Exa Z h a "java/lang/String" ∧ (∃ b, Fld Z h a "java/lang/String" "value" "[B" (.ref b) ∧ Fld Z h a "java/lang/String" "coder" "B" (.int 1) ∧ IA Z h b .byte (u16 cs)) ∧ (∀ c ∈ cs, 0 ≤ c.toInt ∧ c.toInt < 65536) ∧ cs.length < 2 ^ 29
def Str (Z : State) (h : Heap) (a : Addr) (cs : List Int32) : Prop := Lat Z h a cs ∨ U16 Z h a cs
theorem str_keep {Z : State} {h h' : Heap} {a : Addr} {cs : List Int32} (S : Str Z h a cs) (K : Keep h h' []) : Str Z h' a cs := by
  rcases S with S | ⟨E, ⟨b, V, C, A⟩, l⟩
  · exact Or.inl (S.keep K)
  · exact Or.inr ⟨E.keep K, ⟨b, V.keep K nin0, C.keep K nin0, A.keep K nin0⟩, l⟩
theorem str_exa {Z : State} {h : Heap} {a : Addr} {cs : List Int32} (S : Str Z h a cs) : Exa Z h a "java/lang/String" := by
  rcases S with S | S
  · exact S.1
  · exact S.1
theorem str_len {Z : State} {h : Heap} {a : Addr} {cs : List Int32} (S : Str Z h a cs) : cs.length < 2 ^ 31 := by
  rcases S with ⟨-, ⟨b, -, -, A⟩, -⟩ | ⟨-, -, -, l⟩
  · have := A.len; simpa using this
  · omega
theorem str_ch {Z : State} {h : Heap} {a : Addr} {cs : List Int32} (S : Str Z h a cs) : ∀ c ∈ cs, 0 ≤ c.toInt ∧ c.toInt < 65536 := by
  rcases S with ⟨-, -, l⟩ | ⟨-, -, l, -⟩
  · intro c hc; have := l c hc; omega
  · exact l
theorem first_big : ∀ {cs : List Int32}, (∀ c ∈ cs, 0 ≤ c.toInt ∧ c.toInt < 65536) → ¬ (∀ c ∈ cs, 0 ≤ c.toInt ∧ c.toInt < 256) → ∃ (i : Nat) (c : Int32), cs[i]? = some c ∧ 255 < c.toInt ∧ ∀ j, j < i → ∀ d, cs[j]? = some d → 0 ≤ d.toInt ∧ d.toInt < 256
  | [], _, h => absurd (fun _ q => nomatch q) h
  | c :: cs, h1, h2 => by
    by_cases q : c.toInt < 256
    · obtain ⟨i, d, e1, e2, e3⟩ := first_big (cs := cs) (fun x hx => h1 x (List.Mem.tail _ hx)) (fun r => h2 fun x hx => by
        rcases List.mem_cons.mp hx with rfl | hx
        · exact ⟨(h1 _ (List.Mem.head _)).1, q⟩
        · exact r x hx)
      refine ⟨i + 1, d, by simpa using e1, e2, fun j hj x hx => ?_⟩
      cases j with
      | zero =>
        have : c = x := by simpa using hx
        subst this
        exact ⟨(h1 _ (List.Mem.head _)).1, q⟩
      | succ j => exact e3 j (by omega) x (by simpa using hx)
    · exact ⟨0, c, rfl, by omega, fun j hj => absurd hj (Nat.not_lt_zero j)⟩
def Ust (Z : State) : Prop := Sta Z Z.heap "java/lang/StringUTF16" "$assertionsDisabled" "Z" (.int 1) ∧ Sta Z Z.heap "java/lang/StringUTF16" "HI_BYTE_SHIFT" "I" (.int 0) ∧ Sta Z Z.heap "java/lang/StringUTF16" "LO_BYTE_SHIFT" "I" (.int 8)
theorem d27_0 : decode jdk_52_method_3_code 0 = .ok (.iload_n 0, 1) := by decide +kernel
theorem d27_1 : decode jdk_52_method_3_code 1 = .ok (.ifCond .ge 11, 3) := by decide +kernel
theorem d27_12 : decode jdk_52_method_3_code 12 = .ok (.iload_n 0, 1) := by decide +kernel
theorem d27_13 : decode jdk_52_method_3_code 13 = .ok (.ldc 20, 2) := by decide +kernel
theorem d27_15 : decode jdk_52_method_3_code 15 = .ok (.if_icmp .lt 40, 3) := by decide +kernel
theorem d27_55 : decode jdk_52_method_3_code 55 = .ok (.iload_n 0, 1) := by decide +kernel
theorem d27_56 : decode jdk_52_method_3_code 56 = .ok (.iconst 1, 1) := by decide +kernel
theorem d27_57 : decode jdk_52_method_3_code 57 = .ok (.ishl, 1) := by decide +kernel
theorem d27_58 : decode jdk_52_method_3_code 58 = .ok (.ireturn, 1) := by decide +kernel
abbrev rm_con_nbl : Room := { frames := 0, cells := 0, slots := 0, locals := 0 }
set_option maxRecDepth 65536 in
set_option maxHeartbeats 40000000 in
theorem con_nbl (l : Launch) {Z : State} {a0 : Array Value} (hw : ∀ d ∈ tables_1, d.before a0 Z = true) {n0 : Nat} {h0 : Heap} {n : Nat} (hn : n < 2 ^ 29) :
    Con l Z true false ELs n0 (⟨"java/lang/StringUTF16", "newBytesLength", "(I)I"⟩ : MethodName) jdk_52_method_3_code 1 (some .int) rm_con_nbl [] #[(.int n.toInt32)] h0 [] (fun v h => v = some (.int (2 * n).toInt32) ∧ h = h0) := by
  refine Con.intro (plainFor_of_name pn_java_lang_StringUTF16) (hELs hw) ?_
  intro p e s m below meth c hh G
  refine castRun (g' := mkF m 0 #[.val (.int n.toInt32)] []) (by first | rfl | (simp [entryFrame, mkF, argsToLocals, Value.category, maxLocals]; done)) ?_
  refine GoKit.iloadN G d27_0 rfl (pc' := 1) rfl ?_
  refine GoKit.if_ge_t G d27_1 (toI_nn (by omega)) (by decide) (pc' := 12) rfl ?_
  refine GoKit.iloadN G d27_12 rfl (pc' := 13) rfl ?_
  refine GoKit.ldcInt G d27_13 (wi hw 120 rfl) (pc' := 15) rfl ?_
  refine GoKit.icmp_lt_t G d27_15 ((toI_lt (k := 1073741823) (by omega) (by omega)).mpr (by omega)) (by decide) (pc' := 55) rfl ?_
  refine GoKit.iloadN G d27_55 rfl (pc' := 56) rfl ?_
  refine GoKit.iconst G (1 : Int32) d27_56 rfl (pc' := 57) rfl ?_
  refine GoKit.ishl G d27_57 (pc' := 58) rfl (fun v1 hqv1 => ?_)
  obtain rfl : v1 = (2 * n).toInt32 := by rw [hqv1]; exact shl1 (by omega)
  refine GoKit.retInt G d27_58 rfl (by decide) (by decide) ?_
  exact ⟨rfl, rfl⟩
theorem d26_0 : decode jdk_52_method_2_code 0 = .ok (.iload_n 0, 1) := by decide +kernel
theorem d26_1 : decode jdk_52_method_2_code 1 = .ok (.invokestatic 11, 3) := by decide +kernel
theorem pd_4 : parseMethodDescriptor "(I)I" = some ⟨[.int], some .int⟩ := by decide +kernel
theorem d26_4 : decode jdk_52_method_2_code 4 = .ok (.newarray .byte, 2) := by decide +kernel
theorem d26_6 : decode jdk_52_method_2_code 6 = .ok (.areturn, 1) := by decide +kernel
abbrev rm_con_nbf : Room := { frames := 1, cells := 1, slots := 8, locals := 12 }
set_option maxRecDepth 65536 in
set_option maxHeartbeats 40000000 in
theorem con_nbf (l : Launch) {Z : State} {a0 : Array Value} (hw : ∀ d ∈ tables_1, d.before a0 Z = true) {n0 : Nat} {h0 : Heap} {n : Nat} (hn : n ≤ 4) :
    Con l Z true true ELs n0 (⟨"java/lang/StringUTF16", "newBytesFor", "(I)[B"⟩ : MethodName) jdk_52_method_2_code 1 (some (.array .byte)) rm_con_nbf [] #[(.int n.toInt32)] h0 [] (fun v h => ∃ d, v = some (.ref d) ∧ IA Z h d .byte (List.replicate (2 * n) 0)) := by
  refine Con.intro (plainFor_of_name pn_java_lang_StringUTF16) (hELs hw) ?_
  intro p e s m below meth c hh G
  refine castRun (g' := mkF m 0 #[.val (.int n.toInt32)] []) (by first | rfl | (simp [entryFrame, mkF, argsToLocals, Value.category, maxLocals]; done)) ?_
  refine GoKit.iloadN G d26_0 rfl (pc' := 1) rfl ?_
  refine GoKit.callStaticP G d26_1 (wi hw 117 rfl) (wi hw 118 rfl) (wi hw 40 rfl) (wi hw 119 rfl) (by decide) (W := 0) (argsL := [(.int n.toInt32)]) (rest := []) (con_nbl l hw (by omega)) rfl (lenOf pd_4 rfl) rfl (by decide) (Nat.le_of_eq rfl) (by decide) (by decide) (by decide) (cells' := 0) (slots' := 0) rfl rfl (pc' := 4) rfl ?_
  show Run _ _ _ _ _ _ _ _ _ _ _ _ _ _ _ _ _ _ _ _ _ (mkF m 4 #[.val (.int n.toInt32)] [(.int (2 * n).toInt32)])
  refine GoKit.newbI G d26_4 (wi hw 21 rfl) (toI_nn (by omega)) (k := 2 * n) (cap := 8) (toI_clamp (by omega)) (by omega) (by decide) (by decide) (by decide) (cells' := 1) (slots' := 8) rfl rfl (pc' := 6) rfl (fun h4 a1 ga1 E2 A3 => ?_)
  refine GoKit.retOwn G (List.Mem.head _) (fun q => nomatch q) d26_6 rfl rfl (by decide) (by decide) ?_
  exact ⟨_, rfl, A3⟩
theorem d28_0 : decode jdk_52_method_4_code 0 = .ok (.getstatic 44, 3) := by decide +kernel
theorem d28_3 : decode jdk_52_method_4_code 3 = .ok (.ifCond .ne 25, 3) := by decide +kernel
theorem d28_28 : decode jdk_52_method_4_code 28 = .ok (.iload_n 1, 1) := by decide +kernel
theorem d28_29 : decode jdk_52_method_4_code 29 = .ok (.iconst 1, 1) := by decide +kernel
theorem d28_30 : decode jdk_52_method_4_code 30 = .ok (.ishl, 1) := by decide +kernel
theorem d28_31 : decode jdk_52_method_4_code 31 = .ok (.istore_n 1, 1) := by decide +kernel
theorem d28_32 : decode jdk_52_method_4_code 32 = .ok (.aload_n 0, 1) := by decide +kernel
theorem d28_33 : decode jdk_52_method_4_code 33 = .ok (.iload_n 1, 1) := by decide +kernel
theorem d28_34 : decode jdk_52_method_4_code 34 = .ok (.iinc 1 1, 3) := by decide +kernel
theorem d28_37 : decode jdk_52_method_4_code 37 = .ok (.iload_n 2, 1) := by decide +kernel
theorem d28_38 : decode jdk_52_method_4_code 38 = .ok (.getstatic 59, 3) := by decide +kernel
theorem d28_41 : decode jdk_52_method_4_code 41 = .ok (.ishr, 1) := by decide +kernel
theorem d28_42 : decode jdk_52_method_4_code 42 = .ok (.i2b, 1) := by decide +kernel
theorem d28_43 : decode jdk_52_method_4_code 43 = .ok (.bastore, 1) := by decide +kernel
theorem d28_44 : decode jdk_52_method_4_code 44 = .ok (.aload_n 0, 1) := by decide +kernel
theorem d28_45 : decode jdk_52_method_4_code 45 = .ok (.iload_n 1, 1) := by decide +kernel
theorem d28_46 : decode jdk_52_method_4_code 46 = .ok (.iload_n 2, 1) := by decide +kernel
theorem d28_47 : decode jdk_52_method_4_code 47 = .ok (.getstatic 63, 3) := by decide +kernel
theorem d28_50 : decode jdk_52_method_4_code 50 = .ok (.ishr, 1) := by decide +kernel
theorem d28_51 : decode jdk_52_method_4_code 51 = .ok (.i2b, 1) := by decide +kernel
theorem d28_52 : decode jdk_52_method_4_code 52 = .ok (.bastore, 1) := by decide +kernel
theorem d28_53 : decode jdk_52_method_4_code 53 = .ok (.return_, 1) := by decide +kernel
abbrev rm_con_putChar : Room := { frames := 0, cells := 0, slots := 0, locals := 0 }
set_option maxRecDepth 65536 in
set_option maxHeartbeats 40000000 in
theorem con_putChar (l : Launch) {Z : State} {a0 : Array Value} (hw : ∀ d ∈ tables_1, d.before a0 Z = true) {n0 : Nat} {h0 : Heap} {b : Addr} {ys : List Int32} {i : Nat} {c1 : Int32} (A : IA Z h0 b .byte ys) (hi : 2 * i + 1 < ys.length) (HU : Ust Z) :
    Con l Z true false ELs n0 (⟨"java/lang/StringUTF16", "putChar", "([BII)V"⟩ : MethodName) jdk_52_method_4_code 3 none rm_con_putChar [] #[(.ref b), (.int i.toInt32), (.int c1)] h0 [b] (fun v h => v = none ∧ IA Z h b .byte ((ys.set (2 * i) (b0 c1)).set (2 * i + 1) (b1 c1))) := by
  refine Con.intro (plainFor_of_name pn_java_lang_StringUTF16) (hELs hw) ?_
  intro p e s m below meth c hh G
  refine castRun (g' := mkF m 0 #[.val (.ref b), .val (.int i.toInt32), .val (.int c1)] []) (by first | rfl | (simp [entryFrame, mkF, argsToLocals, Value.category, maxLocals]; done)) ?_
  have hl := A.len
  refine GoKit.gets G d28_0 (wi hw 124 rfl) Via.refl HU.1 (pc' := 3) rfl ?_
  refine GoKit.if_ne_t G d28_3 (by decide) (by decide) (pc' := 28) rfl ?_
  refine GoKit.iloadN G d28_28 rfl (pc' := 29) rfl ?_
  refine GoKit.iconst G (1 : Int32) d28_29 rfl (pc' := 30) rfl ?_
  refine GoKit.ishl G d28_30 (pc' := 31) rfl (fun v1 hqv1 => ?_)
  obtain rfl : v1 = (2 * i).toInt32 := by rw [hqv1]; exact shl1 (by omega)
  refine GoKit.istoreN G d28_31 (Ls' := #[.val (.ref b), .val (.int (2 * i).toInt32), .val (.int c1)]) rfl (pc' := 32) rfl ?_
  refine GoKit.aloadN G d28_32 rfl rfl (pc' := 33) rfl ?_
  refine GoKit.iloadN G d28_33 rfl (pc' := 34) rfl ?_
  refine GoKit.iinc G (1 : Int32) d28_34 rfl rfl (Ls' := #[.val (.ref b), .val (.int ((2 * i).toInt32 + (1 : Int32))), .val (.int c1)]) rfl (pc' := 37) rfl ?_
  generalize hqv2 : ((2 * i).toInt32 + (1 : Int32)) = v2
  rw [toI_succ] at hqv2; subst hqv2
  refine GoKit.iloadN G d28_37 rfl (pc' := 38) rfl ?_
  refine GoKit.gets G d28_38 (wi hw 125 rfl) Via.refl HU.2.1 (pc' := 41) rfl ?_
  refine GoKit.ishr G d28_41 (pc' := 42) rfl (fun v3 hqv3 => ?_)
  refine GoKit.i2b G d28_42 (pc' := 43) rfl (fun v4 hqv4 => ?_)
  refine GoKit.bastI G d28_43 A (i := 2 * i) (toI_clamp (by omega)) (toI_nn (by omega)) (by omega) (x' := b0 c1) (by subst_vars; rw [sh0]; first | rfl | exact lo8_nar _) (List.Mem.head _) (pc' := 44) rfl (fun h7 W5 A6 => ?_)
  refine GoKit.aloadN G d28_44 rfl rfl (pc' := 45) rfl ?_
  refine GoKit.iloadN G d28_45 rfl (pc' := 46) rfl ?_
  refine GoKit.iloadN G d28_46 rfl (pc' := 47) rfl ?_
  refine GoKit.gets G d28_47 (wi hw 126 rfl) Via.refl HU.2.2 (pc' := 50) rfl ?_
  refine GoKit.ishr G d28_50 (pc' := 51) rfl (fun v8 hqv8 => ?_)
  refine GoKit.i2b G d28_51 (pc' := 52) rfl (fun v9 hqv9 => ?_)
  refine GoKit.bastI G d28_52 A6 (i := 2 * i + 1) (toI_clamp (by omega)) (toI_nn (by omega)) (by rw [List.length_set]; omega) (x' := b1 c1) (by subst_vars; rw [show ((c1 >>> ((8 : Int32) &&& 31)).toInt8.toInt32) = b1 c1 from rfl]; first | rfl | exact lo8_nar _) (List.Mem.head _) (pc' := 53) rfl (fun h12 W10 A11 => ?_)
  refine GoKit.retVoid G d28_53 rfl (by decide) (by decide) ?_
  exact ⟨rfl, A11⟩
theorem d29_0 : decode jdk_52_method_5_code 0 = .ok (.getstatic 44, 3) := by decide +kernel
theorem d29_3 : decode jdk_52_method_5_code 3 = .ok (.ifCond .ne 25, 3) := by decide +kernel
theorem d29_28 : decode jdk_52_method_5_code 28 = .ok (.iload_n 1, 1) := by decide +kernel
theorem d29_29 : decode jdk_52_method_5_code 29 = .ok (.iconst 1, 1) := by decide +kernel
theorem d29_30 : decode jdk_52_method_5_code 30 = .ok (.ishl, 1) := by decide +kernel
theorem d29_31 : decode jdk_52_method_5_code 31 = .ok (.istore_n 1, 1) := by decide +kernel
theorem d29_32 : decode jdk_52_method_5_code 32 = .ok (.aload_n 0, 1) := by decide +kernel
theorem d29_33 : decode jdk_52_method_5_code 33 = .ok (.iload_n 1, 1) := by decide +kernel
theorem d29_34 : decode jdk_52_method_5_code 34 = .ok (.iinc 1 1, 3) := by decide +kernel
theorem d29_37 : decode jdk_52_method_5_code 37 = .ok (.baload, 1) := by decide +kernel
theorem d29_38 : decode jdk_52_method_5_code 38 = .ok (.sipush 255, 3) := by decide +kernel
theorem d29_41 : decode jdk_52_method_5_code 41 = .ok (.iand, 1) := by decide +kernel
theorem d29_42 : decode jdk_52_method_5_code 42 = .ok (.getstatic 59, 3) := by decide +kernel
theorem d29_45 : decode jdk_52_method_5_code 45 = .ok (.ishl, 1) := by decide +kernel
theorem d29_46 : decode jdk_52_method_5_code 46 = .ok (.aload_n 0, 1) := by decide +kernel
theorem d29_47 : decode jdk_52_method_5_code 47 = .ok (.iload_n 1, 1) := by decide +kernel
theorem d29_48 : decode jdk_52_method_5_code 48 = .ok (.baload, 1) := by decide +kernel
theorem d29_49 : decode jdk_52_method_5_code 49 = .ok (.sipush 255, 3) := by decide +kernel
theorem d29_52 : decode jdk_52_method_5_code 52 = .ok (.iand, 1) := by decide +kernel
theorem d29_53 : decode jdk_52_method_5_code 53 = .ok (.getstatic 63, 3) := by decide +kernel
theorem d29_56 : decode jdk_52_method_5_code 56 = .ok (.ishl, 1) := by decide +kernel
theorem d29_57 : decode jdk_52_method_5_code 57 = .ok (.ior, 1) := by decide +kernel
theorem d29_58 : decode jdk_52_method_5_code 58 = .ok (.i2c, 1) := by decide +kernel
theorem d29_59 : decode jdk_52_method_5_code 59 = .ok (.ireturn, 1) := by decide +kernel
abbrev rm_con_getChar : Room := { frames := 0, cells := 0, slots := 0, locals := 0 }
set_option maxRecDepth 65536 in
set_option maxHeartbeats 40000000 in
theorem con_getChar (l : Launch) {Z : State} {a0 : Array Value} (hw : ∀ d ∈ tables_1, d.before a0 Z = true) {n0 : Nat} {h0 : Heap} {b : Addr} {cs : List Int32} {i : Nat} {ch : Int32} (A : IA Z h0 b .byte (u16 cs)) (hi : cs[i]? = some ch) (hch : ∀ c ∈ cs, 0 ≤ c.toInt ∧ c.toInt < 65536) (HU : Ust Z) :
    Con l Z true false ELs n0 (⟨"java/lang/StringUTF16", "getChar", "([BI)C"⟩ : MethodName) jdk_52_method_5_code 2 (some .char) rm_con_getChar [] #[(.ref b), (.int i.toInt32)] h0 [] (fun v h => v = some (.int ch) ∧ h = h0) := by
  refine Con.intro (plainFor_of_name pn_java_lang_StringUTF16) (hELs hw) ?_
  intro p e s m below meth c hh G
  refine castRun (g' := mkF m 0 #[.val (.ref b), .val (.int i.toInt32)] []) (by first | rfl | (simp [entryFrame, mkF, argsToLocals, Value.category, maxLocals]; done)) ?_
  have hl := A.len
  rw [u16_len] at hl
  have hil := (List.getElem?_eq_some_iff.mp hi).1
  obtain ⟨g0, g1⟩ := u16_get0 cs i ch hi
  refine GoKit.gets G d29_0 (wi hw 124 rfl) Via.refl HU.1 (pc' := 3) rfl ?_
  refine GoKit.if_ne_t G d29_3 (by decide) (by decide) (pc' := 28) rfl ?_
  refine GoKit.iloadN G d29_28 rfl (pc' := 29) rfl ?_
  refine GoKit.iconst G (1 : Int32) d29_29 rfl (pc' := 30) rfl ?_
  refine GoKit.ishl G d29_30 (pc' := 31) rfl (fun v1 hqv1 => ?_)
  obtain rfl : v1 = (2 * i).toInt32 := by rw [hqv1]; exact shl1 (by omega)
  refine GoKit.istoreN G d29_31 (Ls' := #[.val (.ref b), .val (.int (2 * i).toInt32)]) rfl (pc' := 32) rfl ?_
  refine GoKit.aloadN G d29_32 rfl rfl (pc' := 33) rfl ?_
  refine GoKit.iloadN G d29_33 rfl (pc' := 34) rfl ?_
  refine GoKit.iinc G (1 : Int32) d29_34 rfl rfl (Ls' := #[.val (.ref b), .val (.int ((2 * i).toInt32 + (1 : Int32)))]) rfl (pc' := 37) rfl ?_
  generalize hqv2 : ((2 * i).toInt32 + (1 : Int32)) = v2
  rw [toI_succ] at hqv2; subst hqv2
  refine GoKit.baloadI G d29_37 A (i := 2 * i) (toI_clamp (by omega)) (toI_nn (by omega)) (x := b0 ch) g0 (pc' := 38) rfl ?_
  refine GoKit.sipush G (255 : Int32) d29_38 rfl (pc' := 41) rfl ?_
  refine GoKit.iand G d29_41 (pc' := 42) rfl (fun v3 hqv3 => ?_)
  refine GoKit.gets G d29_42 (wi hw 125 rfl) Via.refl HU.2.1 (pc' := 45) rfl ?_
  refine GoKit.ishl G d29_45 (pc' := 46) rfl (fun v4 hqv4 => ?_)
  refine GoKit.aloadN G d29_46 rfl rfl (pc' := 47) rfl ?_
  refine GoKit.iloadN G d29_47 rfl (pc' := 48) rfl ?_
  refine GoKit.baloadI G d29_48 A (i := 2 * i + 1) (toI_clamp (by omega)) (toI_nn (by omega)) (x := b1 ch) g1 (pc' := 49) rfl ?_
  refine GoKit.sipush G (255 : Int32) d29_49 rfl (pc' := 52) rfl ?_
  refine GoKit.iand G d29_52 (pc' := 53) rfl (fun v5 hqv5 => ?_)
  refine GoKit.gets G d29_53 (wi hw 126 rfl) Via.refl HU.2.2 (pc' := 56) rfl ?_
  refine GoKit.ishl G d29_56 (pc' := 57) rfl (fun v6 hqv6 => ?_)
  refine GoKit.ior G d29_57 (pc' := 58) rfl (fun v7 hqv7 => ?_)
  refine GoKit.i2c G d29_58 (pc' := 59) rfl (fun v8 hqv8 => ?_)
  have c9 : nar .char v8 = v8 := by rw [hqv8]; exact nar_i2c _
  refine GoKit.retNar G d29_59 (t := .char) rfl (by simp) (by decide) (by decide) ?_
  exact ⟨by subst_vars; rw [u16_back (hch ch (List.mem_of_getElem? hi))], rfl⟩
theorem d25_8 : decode jdk_52_method_14_code 8 = .ok (.iload 4, 2) := by decide +kernel
theorem d25_10 : decode jdk_52_method_14_code 10 = .ok (.iload_n 2, 1) := by decide +kernel
theorem d25_11 : decode jdk_52_method_14_code 11 = .ok (.if_icmp .ge 21, 3) := by decide +kernel
theorem d25_32 : decode jdk_52_method_14_code 32 = .ok (.aload_n 3, 1) := by decide +kernel
theorem d25_33 : decode jdk_52_method_14_code 33 = .ok (.areturn, 1) := by decide +kernel
theorem d25_14 : decode jdk_52_method_14_code 14 = .ok (.aload_n 3, 1) := by decide +kernel
theorem d25_15 : decode jdk_52_method_14_code 15 = .ok (.iload 4, 2) := by decide +kernel
theorem d25_17 : decode jdk_52_method_14_code 17 = .ok (.aload_n 0, 1) := by decide +kernel
theorem d25_18 : decode jdk_52_method_14_code 18 = .ok (.iload_n 1, 1) := by decide +kernel
theorem d25_19 : decode jdk_52_method_14_code 19 = .ok (.caload, 1) := by decide +kernel
theorem d25_20 : decode jdk_52_method_14_code 20 = .ok (.invokestatic 111, 3) := by decide +kernel
theorem pd_5 : parseMethodDescriptor "([BII)V" = some ⟨[(.array .byte), .int, .int], none⟩ := by decide +kernel
theorem d25_23 : decode jdk_52_method_14_code 23 = .ok (.iinc 1 1, 3) := by decide +kernel
theorem d25_26 : decode jdk_52_method_14_code 26 = .ok (.iinc 4 1, 3) := by decide +kernel
theorem d25_29 : decode jdk_52_method_14_code 29 = .ok (.goto (-21), 3) := by decide +kernel
theorem d25_0 : decode jdk_52_method_14_code 0 = .ok (.iload_n 2, 1) := by decide +kernel
theorem d25_1 : decode jdk_52_method_14_code 1 = .ok (.invokestatic 107, 3) := by decide +kernel
theorem pd_6 : parseMethodDescriptor "(I)[B" = some ⟨[.int], some (.array .byte)⟩ := by decide +kernel
theorem d25_4 : decode jdk_52_method_14_code 4 = .ok (.astore_n 3, 1) := by decide +kernel
theorem d25_5 : decode jdk_52_method_14_code 5 = .ok (.iconst 0, 1) := by decide +kernel
theorem d25_6 : decode jdk_52_method_14_code 6 = .ok (.istore 4, 2) := by decide +kernel
abbrev rm_con_toBytesU : Room := { frames := 2, cells := 1, slots := 8, locals := 24 }
set_option maxRecDepth 65536 in
set_option maxHeartbeats 40000000 in
theorem con_toBytesU (l : Launch) {Z : State} {a0 : Array Value} (hw : ∀ d ∈ tables_1, d.before a0 Z = true) {n0 : Nat} {h0 : Heap} {b : Addr} {cs : List Int32} (A : IA Z h0 b .char cs) (hcap : cs.length ≤ 4) (HU : Ust Z) :
    Con l Z true false ELs n0 (⟨"java/lang/StringUTF16", "toBytes", "([CII)[B"⟩ : MethodName) jdk_52_method_14_code 5 (some (.array .byte)) rm_con_toBytesU [] #[(.ref b), (.int 0), (.int cs.length.toInt32)] h0 [] (fun v h => ∃ d, v = some (.ref d) ∧ IA Z h d .byte (u16 cs)) := by
  refine Con.intro (plainFor_of_name pn_java_lang_StringUTF16) (hELs hw) ?_
  intro p e s m below meth c hh G
  refine castRun (g' := mkF m 0 #[.val (.ref b), .val (.int 0), .val (.int cs.length.toInt32), .unset, .unset] []) (by first | rfl | (simp [entryFrame, mkF, argsToLocals, Value.category, maxLocals]; done)) ?_
  have hl := A.len
  have loop : ∀ (k i : Nat) (d : Addr) (h : Heap), i + k = cs.length → IA Z h b .char cs → IA Z h d .byte (u16 (cs.take i) ++ List.replicate (2 * k) 0) →
      Run p l e rm_con_toBytesU s m #[.ref b, .int 0, .int cs.length.toInt32] below meth c Z true false ELs n0 [] (fun v h => ∃ d, v = some (.ref d) ∧ IA Z h d .byte (u16 cs)) h [d] 1 8 (mkF m 8 #[.val (.ref b), .val (.int i.toInt32), .val (.int cs.length.toInt32), .val (.ref d), .val (.int i.toInt32)] []) := by
    intro k; induction k with
    | zero =>
      intro i d h hik A D
      have hi : i = cs.length := by omega
      subst hi
      refine GoKit.iload G d25_8 rfl (pc' := 10) rfl ?_
      refine GoKit.iloadN G d25_10 rfl (pc' := 11) rfl ?_
      refine GoKit.icmp_ge_t G d25_11 Int32.lt_irrefl (by decide) (pc' := 32) rfl ?_
      refine GoKit.aloadN G d25_32 rfl rfl (pc' := 33) rfl ?_
      refine GoKit.retRef G rfl d25_33 rfl rfl rfl (by decide) (by decide) ?_
      exact ⟨_, rfl, by simpa using D⟩
    | succ k ih =>
      intro i d h hik A D
      have hi : i < cs.length := by omega
      obtain ⟨ch, hc⟩ : ∃ ch, cs[i]? = some ch := ⟨cs[i], List.getElem?_eq_getElem hi⟩
      have hdl : (u16 (cs.take i) ++ List.replicate (2 * (k + 1)) 0).length = 2 * cs.length := by rw [List.length_append, u16_len, List.length_replicate, List.length_take]; omega
      refine GoKit.iload G d25_8 rfl (pc' := 10) rfl ?_
      refine GoKit.iloadN G d25_10 rfl (pc' := 11) rfl ?_
      refine GoKit.icmp_ge_f G d25_11 ((toI_lt (by omega) (by omega)).mpr hi) (pc' := 14) rfl ?_
      refine GoKit.aloadN G d25_14 rfl rfl (pc' := 15) rfl ?_
      refine GoKit.iload G d25_15 rfl (pc' := 17) rfl ?_
      refine GoKit.aloadN G d25_17 rfl rfl (pc' := 18) rfl ?_
      refine GoKit.iloadN G d25_18 rfl (pc' := 19) rfl ?_
      refine GoKit.caloadI G d25_19 A (i := i) (toI_clamp (by omega)) (toI_nn (by omega)) hc (pc' := 20) rfl ?_
      refine GoKit.callStatic G d25_20 (wi hw 121 rfl) (wi hw 122 rfl) (wi hw 40 rfl) (wi hw 123 rfl) (by decide) (owc := [d]) (W := 0) (argsL := [(.ref d), (.int i.toInt32), (.int ch)]) (rest := []) (con_putChar l hw D (by omega) HU) rfl (lenOf pd_5 rfl) rfl (by decide) (Nat.le_of_eq rfl) (by decide) (by decide) (by decide) (by intro x hx; simp only [List.mem_cons, List.not_mem_nil, or_false] at hx ⊢; simp [hx]) (cells' := 1) (slots' := 8) rfl rfl (pc' := 23) rfl (fun r1 h4 q2 K3 => ?_)
      obtain ⟨rfl, A5⟩ := q2
      rw [u16_set cs i k ch hc] at A5
      show Run _ _ _ _ _ _ _ _ _ _ _ _ _ _ _ _ _ _ _ _ _ (mkF m 23 #[.val (.ref b), .val (.int i.toInt32), .val (.int cs.length.toInt32), .val (.ref d), .val (.int i.toInt32)] [])
      refine GoKit.iinc G (1 : Int32) d25_23 rfl rfl (Ls' := #[.val (.ref b), .val (.int (i.toInt32 + (1 : Int32))), .val (.int cs.length.toInt32), .val (.ref d), .val (.int i.toInt32)]) rfl (pc' := 26) rfl ?_
      generalize hqv6 : (i.toInt32 + (1 : Int32)) = v6
      refine GoKit.iinc G (1 : Int32) d25_26 rfl rfl (Ls' := #[.val (.ref b), .val (.int v6), .val (.int cs.length.toInt32), .val (.ref d), .val (.int (i.toInt32 + (1 : Int32)))]) rfl (pc' := 29) rfl ?_
      generalize hqv7 : (i.toInt32 + (1 : Int32)) = v7
      refine GoKit.goto G d25_29 (by decide) (pc' := 8) rfl ?_
      rw [toI_succ] at hqv6; subst hqv6
      rw [toI_succ] at hqv7; subst hqv7
      exact ih (i + 1) d h4 (by omega) (A.keep K3 (ninS (IA.neTy A D (by decide)) nin0)) A5
  refine GoKit.iloadN G d25_0 rfl (pc' := 1) rfl ?_
  refine GoKit.callStaticO G d25_1 (wi hw 114 rfl) (wi hw 115 rfl) (wi hw 40 rfl) (wi hw 116 rfl) (by decide) (owc := []) (W := 0) (argsL := [(.int cs.length.toInt32)]) (rest := []) (con_nbf l hw hcap) rfl (lenOf pd_6 rfl) rfl (by decide) (Nat.le_of_eq rfl) (by decide) (by decide) (by decide) (fun _ q => nomatch q) (cells' := 1) (slots' := 8) rfl rfl (pc' := 4) rfl (fun _ _ ⟨d, e, _⟩ => ⟨d, e⟩) (fun d12 h11 q9 K10 le13 => ?_)
  obtain ⟨_, e15, A14⟩ := q9
  cases e15
  show Run _ _ _ _ _ _ _ _ _ _ _ _ _ _ _ _ _ _ _ _ _ (mkF m 4 #[.val (.ref b), .val (.int (0 : Int32)), .val (.int cs.length.toInt32), .unset, .unset] [(.ref d12)])
  refine GoKit.astoreN G d25_4 rfl (Ls' := #[.val (.ref b), .val (.int (0 : Int32)), .val (.int cs.length.toInt32), .val (.ref d12), .unset]) rfl (pc' := 5) rfl ?_
  refine GoKit.iconst G (0 : Int32) d25_5 rfl (pc' := 6) rfl ?_
  refine GoKit.istore G d25_6 (Ls' := #[.val (.ref b), .val (.int (0 : Int32)), .val (.int cs.length.toInt32), .val (.ref d12), .val (.int (0 : Int32))]) rfl (pc' := 8) rfl ?_
  exact loop cs.length 0 d12 h11 (by omega) (A.keep K10 nin0) (by simpa [u16] using A14)
theorem big_lt {c : Int32} (h : 255 < c.toInt) : (255 : Int32) < c := by rw [Int32.lt_iff_toInt_lt]; exact h
theorem d8_23 : decode jdk_52_method_21_code 23 = .ok (.iload 5, 2) := by decide +kernel
theorem d8_25 : decode jdk_52_method_21_code 25 = .ok (.ireturn, 1) := by decide +kernel
abbrev rm_con_compress5U : Room := { frames := 0, cells := 0, slots := 0, locals := 0 }
set_option maxRecDepth 65536 in
set_option maxHeartbeats 40000000 in
theorem con_compress5U (l : Launch) {Z : State} {a0 : Array Value} (hw : ∀ d ∈ tables_1, d.before a0 Z = true) {n0 : Nat} {h0 : Heap} {b d : Addr} {cs : List Int32} (A : IA Z h0 b .char cs) (D : IA Z h0 d .byte (List.replicate cs.length 0)) {i0 : Nat} {c0 : Int32} (hi0 : cs[i0]? = some c0) (hb0 : 255 < c0.toInt) (hlow : ∀ j, j < i0 → ∀ d, cs[j]? = some d → 0 ≤ d.toInt ∧ d.toInt < 256) :
    Con l Z true false ELs n0 (⟨"java/lang/StringUTF16", "compress", "([CI[BII)I"⟩ : MethodName) jdk_52_method_21_code 7 (some .int) rm_con_compress5U [] #[(.ref b), (.int 0), (.ref d), (.int 0), (.int cs.length.toInt32)] h0 [d] (fun v h => v = some (.int i0.toInt32)) := by
  refine Con.intro (plainFor_of_name pn_java_lang_StringUTF16) (hELs hw) ?_
  intro p e s m below meth c hh G
  refine castRun (g' := mkF m 0 #[.val (.ref b), .val (.int 0), .val (.ref d), .val (.int 0), .val (.int cs.length.toInt32), .unset, .unset] []) (by first | rfl | (simp [entryFrame, mkF, argsToLocals, Value.category, maxLocals]; done)) ?_
  have hl := A.len
  have hil := (List.getElem?_eq_some_iff.mp hi0).1
  have loop : ∀ (k i : Nat) (h : Heap) (ys : List Int32) (sl : Slot), i + k = i0 → IA Z h b .char cs → IA Z h d .byte ys → ys.length = cs.length → (sl = .unset ∨ ∃ w, sl = .val w ∧ w.category = 1) →
      Run p l e rm_con_compress5U s m #[.ref b, .int 0, .ref d, .int 0, .int cs.length.toInt32] below meth c Z true false ELs n0 [d] (fun v h => v = some (.int i0.toInt32)) h [d] 0 0 (mkF m 3 #[.val (.ref b), .val (.int i.toInt32), .val (.ref d), .val (.int i.toInt32), .val (.int cs.length.toInt32), .val (.int i.toInt32), sl] []) := by
    intro k; induction k with
    | zero =>
      intro i h ys sl hik A D hys hsl
      have e0 : i = i0 := by omega
      subst e0
      refine GoKit.iload G d8_3 rfl (pc' := 5) rfl ?_
      refine GoKit.iload G d8_5 rfl (pc' := 7) rfl ?_
      refine GoKit.icmp_ge_f G d8_7 ((toI_lt (by omega) (by omega)).mpr hil) (pc' := 10) rfl ?_
      refine GoKit.aloadN G d8_10 rfl rfl (pc' := 11) rfl ?_
      refine GoKit.iloadN G d8_11 rfl (pc' := 12) rfl ?_
      refine GoKit.caloadI G d8_12 A (i := i) (toI_clamp (by omega)) (toI_nn (by omega)) hi0 (pc' := 13) rfl ?_
      refine GoKit.istore G d8_13 (Ls' := #[.val (.ref b), .val (.int i.toInt32), .val (.ref d), .val (.int i.toInt32), .val (.int cs.length.toInt32), .val (.int i.toInt32), .val (.int c0)]) (XS.store1 rfl hsl rfl) (pc' := 15) rfl ?_
      refine GoKit.iload G d8_15 rfl (pc' := 17) rfl ?_
      refine GoKit.sipush G (255 : Int32) d8_17 rfl (pc' := 20) rfl ?_
      refine GoKit.icmp_le_f G d8_20 (big_lt hb0) (pc' := 23) rfl ?_
      refine GoKit.iload G d8_23 rfl (pc' := 25) rfl ?_
      refine GoKit.retInt G d8_25 rfl (by decide) (by decide) ?_
      exact rfl
    | succ k ih =>
      intro i h ys sl hik A D hys hsl
      obtain ⟨ch, hc⟩ : ∃ ch, cs[i]? = some ch := ⟨cs[i]'(by omega), List.getElem?_eq_getElem (by omega)⟩
      have hcl := hlow i (by omega) ch hc
      refine GoKit.iload G d8_3 rfl (pc' := 5) rfl ?_
      refine GoKit.iload G d8_5 rfl (pc' := 7) rfl ?_
      refine GoKit.icmp_ge_f G d8_7 ((toI_lt (by omega) (by omega)).mpr (by omega)) (pc' := 10) rfl ?_
      refine GoKit.aloadN G d8_10 rfl rfl (pc' := 11) rfl ?_
      refine GoKit.iloadN G d8_11 rfl (pc' := 12) rfl ?_
      refine GoKit.caloadI G d8_12 A (i := i) (toI_clamp (by omega)) (toI_nn (by omega)) hc (pc' := 13) rfl ?_
      refine GoKit.istore G d8_13 (Ls' := #[.val (.ref b), .val (.int i.toInt32), .val (.ref d), .val (.int i.toInt32), .val (.int cs.length.toInt32), .val (.int i.toInt32), .val (.int ch)]) (XS.store1 rfl hsl rfl) (pc' := 15) rfl ?_
      refine GoKit.iload G d8_15 rfl (pc' := 17) rfl ?_
      refine GoKit.sipush G (255 : Int32) d8_17 rfl (pc' := 20) rfl ?_
      refine GoKit.icmp_le_t G d8_20 (lat_le hcl) (by decide) (pc' := 26) rfl ?_
      refine GoKit.aloadN G d8_26 rfl rfl (pc' := 27) rfl ?_
      refine GoKit.iloadN G d8_27 rfl (pc' := 28) rfl ?_
      refine GoKit.iload G d8_28 rfl (pc' := 30) rfl ?_
      refine GoKit.i2b G d8_30 (pc' := 31) rfl (fun v1 hqv1 => ?_)
      refine GoKit.bastI G d8_31 D (i := i) (toI_clamp (by omega)) (toI_nn (by omega)) (by omega) (x' := ch.toInt8.toInt32) (by rw [hqv1]; exact lo8_nar _) (List.Mem.head _) (pc' := 32) rfl (fun h' W' D' => ?_)
      refine GoKit.iinc G (1 : Int32) d8_32 rfl rfl (Ls' := #[.val (.ref b), .val (.int (i.toInt32 + (1 : Int32))), .val (.ref d), .val (.int i.toInt32), .val (.int cs.length.toInt32), .val (.int i.toInt32), .val (.int ch)]) rfl (pc' := 35) rfl ?_
      generalize hqv2 : (i.toInt32 + (1 : Int32)) = v2
      refine GoKit.iinc G (1 : Int32) d8_35 rfl rfl (Ls' := #[.val (.ref b), .val (.int v2), .val (.ref d), .val (.int (i.toInt32 + (1 : Int32))), .val (.int cs.length.toInt32), .val (.int i.toInt32), .val (.int ch)]) rfl (pc' := 38) rfl ?_
      generalize hqv3 : (i.toInt32 + (1 : Int32)) = v3
      refine GoKit.iinc G (1 : Int32) d8_38 rfl rfl (Ls' := #[.val (.ref b), .val (.int v2), .val (.ref d), .val (.int v3), .val (.int cs.length.toInt32), .val (.int (i.toInt32 + (1 : Int32))), .val (.int ch)]) rfl (pc' := 41) rfl ?_
      generalize hqv4 : (i.toInt32 + (1 : Int32)) = v4
      refine GoKit.goto G d8_41 (by decide) (pc' := 3) rfl ?_
      rw [toI_succ] at hqv2; subst hqv2
      rw [toI_succ] at hqv3; subst hqv3
      rw [toI_succ] at hqv4; subst hqv4
      exact ih (i + 1) h' _ (.val (.int ch)) (by omega) (A.other W' (IA.neTy A D (by decide))) D' (by rw [List.length_set]; exact hys) (Or.inr ⟨_, rfl, rfl⟩)
  refine GoKit.iconst G (0 : Int32) d8_0 rfl (pc' := 1) rfl ?_
  refine GoKit.istore G d8_1 (Ls' := #[.val (.ref b), .val (.int (0 : Int32)), .val (.ref d), .val (.int (0 : Int32)), .val (.int cs.length.toInt32), .val (.int (0 : Int32)), .unset]) rfl (pc' := 3) rfl ?_
  exact loop i0 0 h0 _ .unset (by omega) A D (by simp) (Or.inl rfl)
theorem d7_20 : decode jdk_52_method_16_code 20 = .ok (.aload_n 0, 1) := by decide +kernel
theorem d7_21 : decode jdk_52_method_16_code 21 = .ok (.iload_n 1, 1) := by decide +kernel
theorem d7_22 : decode jdk_52_method_16_code 22 = .ok (.iload_n 2, 1) := by decide +kernel
theorem d7_23 : decode jdk_52_method_16_code 23 = .ok (.invokestatic 119, 3) := by decide +kernel
theorem d7_26 : decode jdk_52_method_16_code 26 = .ok (.astore 5, 2) := by decide +kernel
theorem d7_28 : decode jdk_52_method_16_code 28 = .ok (.aload 5, 2) := by decide +kernel
theorem d7_30 : decode jdk_52_method_16_code 30 = .ok (.iload 4, 2) := by decide +kernel
theorem d7_32 : decode jdk_52_method_16_code 32 = .ok (.invokestatic 71, 3) := by decide +kernel
theorem pd_7 : parseMethodDescriptor "([BI)C" = some ⟨[(.array .byte), .int], some .char⟩ := by decide +kernel
theorem d7_35 : decode jdk_52_method_16_code 35 = .ok (.sipush 255, 3) := by decide +kernel
theorem d7_38 : decode jdk_52_method_16_code 38 = .ok (.if_icmp .gt 16, 3) := by decide +kernel
theorem d7_54 : decode jdk_52_method_16_code 54 = .ok (.aload 5, 2) := by decide +kernel
theorem d7_56 : decode jdk_52_method_16_code 56 = .ok (.areturn, 1) := by decide +kernel
abbrev rm_con_compress3U : Room := { frames := 3, cells := 2, slots := 12, locals := 40 }
set_option maxRecDepth 65536 in
set_option maxHeartbeats 40000000 in
theorem con_compress3U (l : Launch) {Z : State} {a0 : Array Value} (hw : ∀ d ∈ tables_1, d.before a0 Z = true) {n0 : Nat} {h0 : Heap} {b : Addr} {cs : List Int32} (A : IA Z h0 b .char cs) (hcap : cs.length ≤ 4) (hch : ∀ c ∈ cs, 0 ≤ c.toInt ∧ c.toInt < 65536) {i0 : Nat} {c0 : Int32} (hi0 : cs[i0]? = some c0) (hb0 : 255 < c0.toInt) (hlow : ∀ j, j < i0 → ∀ d, cs[j]? = some d → 0 ≤ d.toInt ∧ d.toInt < 256) (HU : Ust Z) :
    Con l Z true false ELs n0 (⟨"java/lang/StringUTF16", "compress", "([CII)[B"⟩ : MethodName) jdk_52_method_16_code 6 (some (.array .byte)) rm_con_compress3U [] #[(.ref b), (.int 0), (.int cs.length.toInt32)] h0 [] (fun v h => ∃ d, v = some (.ref d) ∧ IA Z h d .byte (u16 cs)) := by
  refine Con.intro (plainFor_of_name pn_java_lang_StringUTF16) (hELs hw) ?_
  intro p e s m below meth c hh G
  refine castRun (g' := mkF m 0 #[.val (.ref b), .val (.int 0), .val (.int cs.length.toInt32), .unset, .unset, .unset] []) (by first | rfl | (simp [entryFrame, mkF, argsToLocals, Value.category, maxLocals]; done)) ?_
  have hl := A.len
  have hil := (List.getElem?_eq_some_iff.mp hi0).1
  refine GoKit.iloadN G d7_0 rfl (pc' := 1) rfl ?_
  refine GoKit.newbI G d7_1 (wi hw 21 rfl) (toI_nn hl) (k := cs.length) (cap := 4) (toI_clamp hl) hcap (by decide) (by decide) (by decide) (cells' := 1) (slots' := 4) rfl rfl (pc' := 3) rfl (fun h4 a1 ga1 E2 A3 => ?_)
  refine GoKit.astoreN G d7_3 rfl (Ls' := #[.val (.ref b), .val (.int 0), .val (.int cs.length.toInt32), .val (.ref a1), .unset, .unset]) rfl (pc' := 4) rfl ?_
  refine GoKit.aloadN G d7_4 rfl rfl (pc' := 5) rfl ?_
  refine GoKit.iloadN G d7_5 rfl (pc' := 6) rfl ?_
  refine GoKit.aloadN G d7_6 rfl rfl (pc' := 7) rfl ?_
  refine GoKit.iconst G (0 : Int32) d7_7 rfl (pc' := 8) rfl ?_
  refine GoKit.iloadN G d7_8 rfl (pc' := 9) rfl ?_
  refine GoKit.callStatic G d7_9 (wi hw 42 rfl) (wi hw 43 rfl) (wi hw 40 rfl) (wi hw 44 rfl) (by decide) (owc := [a1]) (W := 0) (argsL := [(.ref b), (.int 0), (.ref a1), (.int (0 : Int32)), (.int cs.length.toInt32)]) (rest := []) (con_compress5U l hw (A.ext E2) A3 hi0 hb0 hlow) rfl (lenOf pd_0 rfl) rfl (by decide) (Nat.le_of_eq rfl) (by decide) (by decide) (by decide) (by intro x hx; simp only [List.mem_cons, List.not_mem_nil, or_false] at hx ⊢; simp [hx]) (cells' := 1) (slots' := 4) rfl rfl (pc' := 12) rfl (fun r5 h8 q6 K7 => ?_)
  obtain rfl := q6
  show Run _ _ _ _ _ _ _ _ _ _ _ _ _ _ _ _ _ _ _ _ _ (mkF m 12 #[.val (.ref b), .val (.int 0), .val (.int cs.length.toInt32), .val (.ref a1), .unset, .unset] [(.int i0.toInt32)])
  refine GoKit.istore G d7_12 (Ls' := #[.val (.ref b), .val (.int 0), .val (.int cs.length.toInt32), .val (.ref a1), .val (.int i0.toInt32), .unset]) rfl (pc' := 14) rfl ?_
  refine GoKit.iload G d7_14 rfl (pc' := 16) rfl ?_
  refine GoKit.iloadN G d7_16 rfl (pc' := 17) rfl ?_
  refine GoKit.icmp_eq_f G d7_17 (fun q => Nat.ne_of_lt hil ((toI_eq (by omega) hl).mp q)) (pc' := 20) rfl ?_
  refine GoKit.aloadN G d7_20 rfl rfl (pc' := 21) rfl ?_
  refine GoKit.iloadN G d7_21 rfl (pc' := 22) rfl ?_
  refine GoKit.iloadN G d7_22 rfl (pc' := 23) rfl ?_
  refine GoKit.callStatic G d7_23 (wi hw 111 rfl) (wi hw 112 rfl) (wi hw 40 rfl) (wi hw 113 rfl) (by decide) (owc := []) (W := 0) (argsL := [(.ref b), (.int 0), (.int cs.length.toInt32)]) (rest := []) (con_toBytesU l hw ((A.ext E2).keep K7 (ninS (Nat.ne_of_lt (Nat.lt_of_lt_of_le (A).lt (Nat.le_of_eq ga1.symm))) nin0)) hcap HU) rfl (lenOf pd_1 rfl) rfl (by decide) (Nat.le_of_eq rfl) (by decide) (by decide) (by decide) (fun _ q => nomatch q) (cells' := 2) (slots' := 12) rfl rfl (pc' := 26) rfl (fun r9 h12 q10 K11 => ?_)
  obtain ⟨d13, rfl, A14⟩ := q10
  show Run _ _ _ _ _ _ _ _ _ _ _ _ _ _ _ _ _ _ _ _ _ (mkF m 26 #[.val (.ref b), .val (.int 0), .val (.int cs.length.toInt32), .val (.ref a1), .val (.int i0.toInt32), .unset] [(.ref d13)])
  refine GoKit.astore G d7_26 rfl (Ls' := #[.val (.ref b), .val (.int 0), .val (.int cs.length.toInt32), .val (.ref a1), .val (.int i0.toInt32), .val (.ref d13)]) rfl (pc' := 28) rfl ?_
  refine GoKit.aload G d7_28 rfl rfl (pc' := 30) rfl ?_
  refine GoKit.iload G d7_30 rfl (pc' := 32) rfl ?_
  refine GoKit.callStaticP G d7_32 (wi hw 127 rfl) (wi hw 128 rfl) (wi hw 40 rfl) (wi hw 129 rfl) (by decide) (W := 0) (argsL := [(.ref d13), (.int i0.toInt32)]) (rest := []) (con_getChar l hw A14 hi0 hch HU) rfl (lenOf pd_7 rfl) rfl (by decide) (Nat.le_of_eq rfl) (by decide) (by decide) (by decide) (cells' := 2) (slots' := 12) rfl rfl (pc' := 35) rfl ?_
  show Run _ _ _ _ _ _ _ _ _ _ _ _ _ _ _ _ _ _ _ _ _ (mkF m 35 #[.val (.ref b), .val (.int 0), .val (.int cs.length.toInt32), .val (.ref a1), .val (.int i0.toInt32), .val (.ref d13)] [(.int c0)])
  refine GoKit.sipush G (255 : Int32) d7_35 rfl (pc' := 38) rfl ?_
  refine GoKit.icmp_gt_t G d7_38 (big_lt hb0) (by decide) (pc' := 54) rfl ?_
  refine GoKit.aload G d7_54 rfl rfl (pc' := 56) rfl ?_
  refine GoKit.retRef G rfl d7_56 rfl rfl rfl (by decide) (by decide) ?_
  exact ⟨_, rfl, A14⟩
abbrev rm_con_coderLenU : Room := { frames := 0, cells := 0, slots := 0, locals := 0 }
set_option maxRecDepth 65536 in
set_option maxHeartbeats 40000000 in
theorem con_coderLenU (l : Launch) {Z : State} {a0 : Array Value} (hw : ∀ d ∈ tables_1, d.before a0 Z = true) {n0 : Nat} {h0 : Heap} {d : Addr} {cs : List Int32} (A : IA Z h0 d .byte (u16 cs)) (hn : 0 < cs.length) (hl : cs.length < 2 ^ 30) :
    Con l Z true false ELs n0 (⟨"java/lang/StringUTF16", "coderFromArrayLen", "([BI)B"⟩ : MethodName) jdk_52_method_15_code 2 (some .byte) rm_con_coderLenU [] #[(.ref d), (.int cs.length.toInt32)] h0 [] (fun v h => v = some (.int 1) ∧ h = h0) := by
  refine Con.intro (plainFor_of_name pn_java_lang_StringUTF16) (hELs hw) ?_
  intro p e s m below meth c hh G
  refine castRun (g' := mkF m 0 #[.val (.ref d), .val (.int cs.length.toInt32)] []) (by first | rfl | (simp [entryFrame, mkF, argsToLocals, Value.category, maxLocals]; done)) ?_
  refine GoKit.iloadN G d9_0 rfl (pc' := 1) rfl ?_
  refine GoKit.aloadN G d9_1 rfl rfl (pc' := 2) rfl ?_
  refine GoKit.arrlenI G d9_2 A (z := (2 * cs.length).toInt32) (by rw [u16_len]) (pc' := 3) rfl ?_
  refine GoKit.isub G d9_3 (pc' := 4) rfl (fun v1 hqv1 => ?_)
  refine GoKit.bipush G (31 : Int32) d9_4 rfl (pc' := 6) rfl ?_
  refine GoKit.iushr G d9_6 (pc' := 7) rfl (fun v2 hqv2 => ?_)
  refine GoKit.i2b G d9_7 (pc' := 8) rfl (fun v3 hqv3 => ?_)
  refine GoKit.retNar G d9_8 (t := .byte) rfl (by simp) (by decide) (by decide) ?_
  exact ⟨by subst_vars; rw [coderU hn hl], rfl⟩
abbrev rm_con_strInit4U : Room := { frames := 4, cells := 2, slots := 12, locals := 57 }
set_option maxRecDepth 65536 in
set_option maxHeartbeats 40000000 in
theorem con_strInit4U (l : Launch) {Z : State} {a0 : Array Value} (hw : ∀ d ∈ tables_1, d.before a0 Z = true) {n0 : Nat} {h0 : Heap} {a b : Addr} {cs : List Int32} (E : Exa Z h0 a "java/lang/String") (FV : Fld Z h0 a "java/lang/String" "value" "[B" .null) (FC : Fld Z h0 a "java/lang/String" "coder" "B" (.int 0)) (A : IA Z h0 b .char cs) (hcap : cs.length ≤ 4) (hch : ∀ c ∈ cs, 0 ≤ c.toInt ∧ c.toInt < 65536) {i0 : Nat} {c0 : Int32} (hi0 : cs[i0]? = some c0) (hb0 : 255 < c0.toInt) (hlow : ∀ j, j < i0 → ∀ d, cs[j]? = some d → 0 ≤ d.toInt ∧ d.toInt < 256) (HC : Cst Z) (HU : Ust Z) :
    Con l Z true false ELs n0 (⟨"java/lang/String", "<init>", "([CIILjava/lang/Void;)V"⟩ : MethodName) jdk_42_method_149_code 6 none rm_con_strInit4U [] #[(.ref a), (.ref b), (.int 0), (.int cs.length.toInt32), .null] h0 [a] (fun v h => v = none ∧ U16 Z h a cs) := by
  refine Con.intro (plainFor_of_name pn_java_lang_String) (hELs hw) ?_
  intro p e s m below meth c hh G
  refine castRun (g' := mkF m 0 #[.val (.ref a), .val (.ref b), .val (.int 0), .val (.int cs.length.toInt32), .val .null, .unset] []) (by first | rfl | (simp [entryFrame, mkF, argsToLocals, Value.category, maxLocals]; done)) ?_
  obtain ⟨cz, SC, hcz⟩ := id HC
  have hl := A.len
  have hil := (List.getElem?_eq_some_iff.mp hi0).1
  refine GoKit.aloadN G d3_0 rfl rfl (pc' := 1) rfl ?_
  refine GoKit.initObj G d3_1 (wi hw 17 rfl) (wi hw 18 rfl) (wi hw 19 rfl) rfl (by decide) (W := 0) (Nat.le_of_eq rfl) (by decide) (pc' := 4) rfl ?_
  refine GoKit.iloadN G d3_4 rfl (pc' := 5) rfl ?_
  refine GoKit.if_ne_t G d3_5 (fun q => by have := (toI_eq (k := 0) hl (by decide)).mp q; omega) (by decide) (pc' := 27) rfl ?_
  refine GoKit.gets G d3_27 (wi hw 37 rfl) Via.refl SC (pc' := 30) rfl ?_
  refine GoKit.if_eq_f G d3_30 hcz (pc' := 33) rfl ?_
  refine GoKit.aloadN G d3_33 rfl rfl (pc' := 34) rfl ?_
  refine GoKit.iloadN G d3_34 rfl (pc' := 35) rfl ?_
  refine GoKit.iloadN G d3_35 rfl (pc' := 36) rfl ?_
  refine GoKit.callStatic G d3_36 (wi hw 38 rfl) (wi hw 39 rfl) (wi hw 40 rfl) (wi hw 41 rfl) (by decide) (owc := []) (W := 0) (argsL := [(.ref b), (.int 0), (.int cs.length.toInt32)]) (rest := []) (con_compress3U l hw A hcap hch hi0 hb0 hlow HU) rfl (lenOf pd_1 rfl) rfl (by decide) (Nat.le_of_eq rfl) (by decide) (by decide) (by decide) (fun _ q => nomatch q) (cells' := 2) (slots' := 12) rfl rfl (pc' := 39) rfl (fun r1 h4 q2 K3 => ?_)
  obtain ⟨d5, rfl, A6⟩ := q2
  have ne7 := IA.ne A6 (E.keep K3) (wi hw 7 rfl)
  show Run _ _ _ _ _ _ _ _ _ _ _ _ _ _ _ _ _ _ _ _ _ (mkF m 39 #[.val (.ref a), .val (.ref b), .val (.int 0), .val (.int cs.length.toInt32), .val .null, .unset] [(.ref d5)])
  refine GoKit.astore G d3_39 rfl (Ls' := #[.val (.ref a), .val (.ref b), .val (.int 0), .val (.int cs.length.toInt32), .val .null, .val (.ref d5)]) rfl (pc' := 41) rfl ?_
  refine GoKit.aloadN G d3_41 rfl rfl (pc' := 42) rfl ?_
  refine GoKit.aload G d3_42 rfl rfl (pc' := 44) rfl ?_
  refine GoKit.iloadN G d3_44 rfl (pc' := 45) rfl ?_
  refine GoKit.callStaticP G d3_45 (wi hw 45 rfl) (wi hw 46 rfl) (wi hw 40 rfl) (wi hw 47 rfl) (by decide) (W := 1) (argsL := [(.ref d5), (.int cs.length.toInt32)]) (rest := [(.ref a)]) (con_coderLenU l hw A6 (by omega) (by omega)) rfl (lenOf pd_2 rfl) rfl (by decide) (Nat.le_of_eq rfl) (by decide) (by decide) (by decide) (cells' := 2) (slots' := 12) rfl rfl (pc' := 48) rfl ?_
  show Run _ _ _ _ _ _ _ _ _ _ _ _ _ _ _ _ _ _ _ _ _ (mkF m 48 #[.val (.ref a), .val (.ref b), .val (.int 0), .val (.int cs.length.toInt32), .val .null, .val (.ref d5)] [(.int 1), (.ref a)])
  refine GoKit.putf G d3_48 (wi hw 27 rfl) Via.refl (FC.keep K3 nin0) (E.keep K3) (Or.inr ⟨(wi hw 23 rfl), rfl, rfl⟩) (wi hw 7 rfl) (ty := .byte) (by decide) rfl rfl (List.Mem.head _) (pc' := 51) rfl (fun h9 W8 => ?_)
  have F10 := ((FC.keep K3 nin0)).same W8
  refine GoKit.aloadN G d3_51 rfl rfl (pc' := 52) rfl ?_
  refine GoKit.aload G d3_52 rfl rfl (pc' := 54) rfl ?_
  refine GoKit.putf G d3_54 (wi hw 26 rfl) Via.refl ((FV.keep K3 nin0).other W8 (Or.inr (slot_ne (Or.inr (wi hw 22 rfl)) (Or.inr (wi hw 23 rfl)) (by decide) (by decide : _ = some (.array .byte)) (by decide : _ = some .byte)))) ((E.keep K3).wr W8) (Or.inr ⟨(wi hw 22 rfl), rfl, rfl⟩) (wi hw 7 rfl) (ty := (.array .byte)) (by decide) rfl rfl (List.Mem.head _) (pc' := 57) rfl (fun h12 W11 => ?_)
  have F13 := (((FV.keep K3 nin0).other W8 (Or.inr (slot_ne (Or.inr (wi hw 22 rfl)) (Or.inr (wi hw 23 rfl)) (by decide) (by decide : _ = some (.array .byte)) (by decide : _ = some .byte))))).same W11
  refine GoKit.retVoid G d3_57 rfl (by decide) (by decide) ?_
  exact ⟨rfl, (((E.keep K3).wr W8).wr W11), ⟨d5, F13, (F10.other W11 (Or.inr (slot_ne (Or.inr (wi hw 23 rfl)) (Or.inr (wi hw 22 rfl)) (by decide) (by decide : _ = some .byte) (by decide : _ = some (.array .byte))))), ((A6.other W8 ne7).other W11 ne7)⟩, hch, by omega⟩
abbrev rm_con_strInitU : Room := { frames := 5, cells := 2, slots := 12, locals := 74 }
set_option maxRecDepth 65536 in
set_option maxHeartbeats 40000000 in
theorem con_strInitU (l : Launch) {Z : State} {a0 : Array Value} (hw : ∀ d ∈ tables_1, d.before a0 Z = true) {n0 : Nat} {h0 : Heap} {a b : Addr} {cs : List Int32} (E : Exa Z h0 a "java/lang/String") (FV : Fld Z h0 a "java/lang/String" "value" "[B" .null) (FC : Fld Z h0 a "java/lang/String" "coder" "B" (.int 0)) (A : IA Z h0 b .char cs) (hcap : cs.length ≤ 4) (hch : ∀ c ∈ cs, 0 ≤ c.toInt ∧ c.toInt < 65536) {i0 : Nat} {c0 : Int32} (hi0 : cs[i0]? = some c0) (hb0 : 255 < c0.toInt) (hlow : ∀ j, j < i0 → ∀ d, cs[j]? = some d → 0 ≤ d.toInt ∧ d.toInt < 256) (HC : Cst Z) (HU : Ust Z) :
    Con l Z true false ELs n0 (⟨"java/lang/String", "<init>", "([C)V"⟩ : MethodName) jdk_42_method_3_code 2 none rm_con_strInitU [] #[(.ref a), (.ref b)] h0 [a] (fun v h => v = none ∧ Str Z h a cs) := by
  refine Con.intro (plainFor_of_name pn_java_lang_String) (hELs hw) ?_
  intro p e s m below meth c hh G
  refine castRun (g' := mkF m 0 #[.val (.ref a), .val (.ref b)] []) (by first | rfl | (simp [entryFrame, mkF, argsToLocals, Value.category, maxLocals]; done)) ?_
  refine GoKit.aloadN G d2_0 rfl rfl (pc' := 1) rfl ?_
  refine GoKit.aloadN G d2_1 rfl rfl (pc' := 2) rfl ?_
  refine GoKit.iconst G (0 : Int32) d2_2 rfl (pc' := 3) rfl ?_
  refine GoKit.aloadN G d2_3 rfl rfl (pc' := 4) rfl ?_
  refine GoKit.arrlenI G d2_4 A (z := cs.length.toInt32) rfl (pc' := 5) rfl ?_
  refine GoKit.aconstNull G d2_5 (pc' := 6) rfl ?_
  refine GoKit.callSpecial G d2_6 rfl (wi hw 13 rfl) (wi hw 14 rfl) (wi hw 8 rfl) (wi hw 16 rfl) (by decide) (owc := [a]) (W := 0) (argsL := [(.ref b), (.int (0 : Int32)), (.int cs.length.toInt32), .null]) (rest := []) (con_strInit4U l hw E FV FC A hcap hch hi0 hb0 hlow HC HU) rfl (lenOf pd_3 rfl) rfl (by decide) (Nat.le_of_eq rfl) (by decide) (by decide) (by decide) (by intro x hx; simp only [List.mem_cons, List.not_mem_nil, or_false] at hx ⊢; simp [hx]) (cells' := 2) (slots' := 12) rfl rfl (pc' := 9) rfl (fun r1 h4 q2 K3 => ?_)
  obtain ⟨rfl, S5⟩ := q2
  show Run _ _ _ _ _ _ _ _ _ _ _ _ _ _ _ _ _ _ _ _ _ (mkF m 9 #[.val (.ref a), .val (.ref b)] [])
  refine GoKit.retVoid G d2_9 rfl (by decide) (by decide) ?_
  exact ⟨rfl, Or.inr S5⟩
theorem con_strInitS (l : Launch) {Z : State} {a0 : Array Value} (hw : ∀ d ∈ tables_1, d.before a0 Z = true) {n0 : Nat} {h0 : Heap} {a b : Addr} {cs : List Int32} (E : Exa Z h0 a "java/lang/String") (FV : Fld Z h0 a "java/lang/String" "value" "[B" .null) (FC : Fld Z h0 a "java/lang/String" "coder" "B" (.int 0)) (A : IA Z h0 b .char cs) (hcap : cs.length ≤ 4) (hch : ∀ c ∈ cs, 0 ≤ c.toInt ∧ c.toInt < 65536) (hne : cs ≠ []) (HC : Cst Z) (HU : Ust Z) :
    Con l Z true false ELs n0 (⟨"java/lang/String", "<init>", "([C)V"⟩ : MethodName) jdk_42_method_3_code 2 none rm_con_strInitU [] #[.ref a, .ref b] h0 [a] (fun v h => v = none ∧ Str Z h a cs) := by
  by_cases hl : ∀ c ∈ cs, 0 ≤ c.toInt ∧ c.toInt < 256
  · exact con_mono (con_strInit l hw E FV FC A hcap hl hne HC) fun v h q => ⟨q.1, Or.inl q.2⟩
  · obtain ⟨i0, c0, h1, h2, h3⟩ := first_big hch hl
    exact con_strInitU l hw E FV FC A hcap hch h1 h2 h3 HC HU
theorem d3_8 : decode jdk_42_method_149_code 8 = .ok (.aload_n 0, 1) := by decide +kernel
theorem d3_9 : decode jdk_42_method_149_code 9 = .ok (.ldc 7, 2) := by decide +kernel
theorem d3_11 : decode jdk_42_method_149_code 11 = .ok (.getfield 9, 3) := by decide +kernel
theorem d3_14 : decode jdk_42_method_149_code 14 = .ok (.putfield 9, 3) := by decide +kernel
theorem d3_17 : decode jdk_42_method_149_code 17 = .ok (.aload_n 0, 1) := by decide +kernel
theorem d3_18 : decode jdk_42_method_149_code 18 = .ok (.ldc 7, 2) := by decide +kernel
theorem d3_20 : decode jdk_42_method_149_code 20 = .ok (.getfield 15, 3) := by decide +kernel
theorem d3_23 : decode jdk_42_method_149_code 23 = .ok (.putfield 15, 3) := by decide +kernel
theorem d3_26 : decode jdk_42_method_149_code 26 = .ok (.return_, 1) := by decide +kernel
abbrev rm_con_strInitE4 : Room := { frames := 1, cells := 4, slots := 8, locals := 12 }
set_option maxRecDepth 65536 in
set_option maxHeartbeats 40000000 in
theorem con_strInitE4 (l : Launch) {Z : State} {a0 : Array Value} (hw : ∀ d ∈ tables_1, d.before a0 Z = true) {n0 : Nat} {h0 : Heap} {a b : Addr} (E : Exa Z h0 a "java/lang/String") (FV : Fld Z h0 a "java/lang/String" "value" "[B" .null) (FC : Fld Z h0 a "java/lang/String" "coder" "B" (.int 0)) (A : IA Z h0 b .char []) :
    Con l Z true false ELs n0 (⟨"java/lang/String", "<init>", "([CIILjava/lang/Void;)V"⟩ : MethodName) jdk_42_method_149_code 6 none rm_con_strInitE4 [] #[(.ref a), (.ref b), (.int 0), (.int 0), .null] h0 [a] (fun v h => v = none ∧ Lat Z h a []) := by
  refine Con.intro (plainFor_of_name pn_java_lang_String) (hELs hw) ?_
  intro p e s m below meth c hh G
  refine castRun (g' := mkF m 0 #[.val (.ref a), .val (.ref b), .val (.int 0), .val (.int 0), .val .null, .unset] []) (by first | rfl | (simp [entryFrame, mkF, argsToLocals, Value.category, maxLocals]; done)) ?_
  refine GoKit.aloadN G d3_0 rfl rfl (pc' := 1) rfl ?_
  refine GoKit.initObj G d3_1 (wi hw 17 rfl) (wi hw 18 rfl) (wi hw 19 rfl) rfl (by decide) (W := 0) (Nat.le_of_eq rfl) (by decide) (pc' := 4) rfl ?_
  refine GoKit.iloadN G d3_4 rfl (pc' := 5) rfl ?_
  refine GoKit.if_ne_f G d3_5 rfl (pc' := 8) rfl ?_
  refine GoKit.aloadN G d3_8 rfl rfl (pc' := 9) rfl ?_
  refine GoKit.ldcStr G d3_9 rfl (wi hw 20 rfl) (wS hw) (by decide) (vs := []) (z := (0 : Int32)) ⟨by decide +kernel, by decide +kernel⟩ (by decide) rfl (n := 0) (by decide +kernel) (by decide) (by decide) (by decide) (cells' := 2) (slots' := 4) rfl rfl (pc' := 11) rfl (fun a1 b2 k3 h10 E4 X5 FC6 FV7 A8 N9 => ?_)
  have S11 : Lat Z h10 a1 [] := latLit X5 FC6 FV7 A8 rfl (by decide +kernel) (by decide +kernel)
  have A12 : IA Z h10 b2 .byte (([] : List Int32).map fun c => c.toInt8.toInt32) := iaLit A8 rfl (by decide +kernel)
  refine GoKit.getf G d3_11 (wi hw 26 rfl) Via.refl FV7 (pc' := 14) rfl ?_
  refine GoKit.putf G d3_14 (wi hw 26 rfl) Via.refl (FV.ext E4) (E.ext E4) (Or.inr ⟨(wi hw 22 rfl), rfl, rfl⟩) (wi hw 7 rfl) (ty := (.array .byte)) (by decide) rfl rfl (List.Mem.head _) (pc' := 17) rfl (fun h14 W13 => ?_)
  have F15 := ((FV.ext E4)).same W13
  refine GoKit.aloadN G d3_17 rfl rfl (pc' := 18) rfl ?_
  refine GoKit.ldcStr G d3_18 rfl (wi hw 20 rfl) (wS hw) (by decide) (vs := []) (z := (0 : Int32)) ⟨by decide +kernel, by decide +kernel⟩ (by decide) rfl (n := 0) (by decide +kernel) (by decide) (by decide) (by decide) (cells' := 4) (slots' := 8) rfl rfl (pc' := 20) rfl (fun a16 b17 k18 h25 E19 X20 FC21 FV22 A23 N24 => ?_)
  have S26 : Lat Z h25 a16 [] := latLit X20 FC21 FV22 A23 rfl (by decide +kernel) (by decide +kernel)
  have A27 : IA Z h25 b17 .byte (([] : List Int32).map fun c => c.toInt8.toInt32) := iaLit A23 rfl (by decide +kernel)
  refine GoKit.getf G d3_20 (wi hw 27 rfl) Via.refl FC21 (pc' := 23) rfl ?_
  refine GoKit.putf G d3_23 (wi hw 27 rfl) Via.refl (((FC.ext E4).other W13 (Or.inr (slot_ne (Or.inr (wi hw 23 rfl)) (Or.inr (wi hw 22 rfl)) (by decide) (by decide : _ = some .byte) (by decide : _ = some (.array .byte))))).ext E19) (((E.ext E4).wr W13).ext E19) (Or.inr ⟨(wi hw 23 rfl), rfl, rfl⟩) (wi hw 7 rfl) (ty := .byte) (by decide) rfl rfl (List.Mem.head _) (pc' := 26) rfl (fun h29 W28 => ?_)
  have F30 := ((((FC.ext E4).other W13 (Or.inr (slot_ne (Or.inr (wi hw 23 rfl)) (Or.inr (wi hw 22 rfl)) (by decide) (by decide : _ = some .byte) (by decide : _ = some (.array .byte))))).ext E19)).same W28
  refine GoKit.retVoid G d3_26 rfl (by decide) (by decide) ?_
  exact ⟨rfl, ((((E.ext E4).wr W13).ext E19).wr W28), ⟨b2, ((F15.ext E19).other W28 (Or.inr (slot_ne (Or.inr (wi hw 22 rfl)) (Or.inr (wi hw 23 rfl)) (by decide) (by decide : _ = some (.array .byte)) (by decide : _ = some .byte)))), F30, (((A12.other W13 (Ne.symm (N9 _ (List.Mem.head _)).2)).ext E19).other W28 (Ne.symm (N9 _ (List.Mem.head _)).2))⟩, fun _ q => nomatch q⟩
abbrev rm_con_strInitE : Room := { frames := 2, cells := 4, slots := 8, locals := 29 }
set_option maxRecDepth 65536 in
set_option maxHeartbeats 40000000 in
theorem con_strInitE (l : Launch) {Z : State} {a0 : Array Value} (hw : ∀ d ∈ tables_1, d.before a0 Z = true) {n0 : Nat} {h0 : Heap} {a b : Addr} (E : Exa Z h0 a "java/lang/String") (FV : Fld Z h0 a "java/lang/String" "value" "[B" .null) (FC : Fld Z h0 a "java/lang/String" "coder" "B" (.int 0)) (A : IA Z h0 b .char []) :
    Con l Z true false ELs n0 (⟨"java/lang/String", "<init>", "([C)V"⟩ : MethodName) jdk_42_method_3_code 2 none rm_con_strInitE [] #[(.ref a), (.ref b)] h0 [a] (fun v h => v = none ∧ Lat Z h a []) := by
  refine Con.intro (plainFor_of_name pn_java_lang_String) (hELs hw) ?_
  intro p e s m below meth c hh G
  refine castRun (g' := mkF m 0 #[.val (.ref a), .val (.ref b)] []) (by first | rfl | (simp [entryFrame, mkF, argsToLocals, Value.category, maxLocals]; done)) ?_
  refine GoKit.aloadN G d2_0 rfl rfl (pc' := 1) rfl ?_
  refine GoKit.aloadN G d2_1 rfl rfl (pc' := 2) rfl ?_
  refine GoKit.iconst G (0 : Int32) d2_2 rfl (pc' := 3) rfl ?_
  refine GoKit.aloadN G d2_3 rfl rfl (pc' := 4) rfl ?_
  refine GoKit.arrlenI G d2_4 A (z := (0 : Int32)) rfl (pc' := 5) rfl ?_
  refine GoKit.aconstNull G d2_5 (pc' := 6) rfl ?_
  refine GoKit.callSpecial G d2_6 rfl (wi hw 13 rfl) (wi hw 14 rfl) (wi hw 8 rfl) (wi hw 16 rfl) (by decide) (owc := [a]) (W := 0) (argsL := [(.ref b), (.int (0 : Int32)), (.int (0 : Int32)), .null]) (rest := []) (con_strInitE4 l hw E FV FC A) rfl (lenOf pd_3 rfl) rfl (by decide) (Nat.le_of_eq rfl) (by decide) (by decide) (by decide) (by intro x hx; simp only [List.mem_cons, List.not_mem_nil, or_false] at hx ⊢; simp [hx]) (cells' := 4) (slots' := 8) rfl rfl (pc' := 9) rfl (fun r1 h4 q2 K3 => ?_)
  obtain ⟨rfl, S5⟩ := q2
  show Run _ _ _ _ _ _ _ _ _ _ _ _ _ _ _ _ _ _ _ _ _ (mkF m 9 #[.val (.ref a), .val (.ref b)] [])
  refine GoKit.retVoid G d2_9 rfl (by decide) (by decide) ?_
  exact ⟨rfl, S5⟩
theorem d12_0 : decode jdk_42_method_152_code 0 = .ok (.getstatic 38, 3) := by decide +kernel
theorem d12_3 : decode jdk_42_method_152_code 3 = .ok (.ifCond .eq 10, 3) := by decide +kernel
theorem d12_6 : decode jdk_42_method_152_code 6 = .ok (.aload_n 0, 1) := by decide +kernel
theorem d12_7 : decode jdk_42_method_152_code 7 = .ok (.getfield 15, 3) := by decide +kernel
theorem d12_10 : decode jdk_42_method_152_code 10 = .ok (.goto 4, 3) := by decide +kernel
theorem d12_14 : decode jdk_42_method_152_code 14 = .ok (.ireturn, 1) := by decide +kernel
abbrev rm_con_coderU : Room := { frames := 0, cells := 0, slots := 0, locals := 0 }
set_option maxRecDepth 65536 in
set_option maxHeartbeats 40000000 in
theorem con_coderU (l : Launch) {Z : State} {a0 : Array Value} (hw : ∀ d ∈ tables_1, d.before a0 Z = true) {n0 : Nat} {h0 : Heap} {a : Addr} {cs : List Int32} (S : U16 Z h0 a cs) (HC : Cst Z) :
    Con l Z true false ELs n0 (⟨"java/lang/String", "coder", "()B"⟩ : MethodName) jdk_42_method_152_code 1 (some .byte) rm_con_coderU [] #[(.ref a)] h0 [] (fun v h => v = some (.int 1) ∧ h = h0) := by
  refine Con.intro (plainFor_of_name pn_java_lang_String) (hELs hw) ?_
  intro p e s m below meth c hh G
  refine castRun (g' := mkF m 0 #[.val (.ref a)] []) (by first | rfl | (simp [entryFrame, mkF, argsToLocals, Value.category, maxLocals]; done)) ?_
  obtain ⟨E, ⟨b, FV, FC, A⟩, hch, hln⟩ := id S
  obtain ⟨cz, SC, hcz⟩ := id HC
  refine GoKit.gets G d12_0 (wi hw 37 rfl) Via.refl SC (pc' := 3) rfl ?_
  refine GoKit.if_eq_f G d12_3 hcz (pc' := 6) rfl ?_
  refine GoKit.aloadN G d12_6 rfl rfl (pc' := 7) rfl ?_
  refine GoKit.getf G d12_7 (wi hw 27 rfl) Via.refl FC (pc' := 10) rfl ?_
  refine GoKit.goto G d12_10 (by decide) (pc' := 14) rfl ?_
  refine GoKit.retNar G d12_14 (t := .byte) rfl (by simp) (by decide) (by decide) ?_
  exact ⟨rfl, rfl⟩
abbrev rm_con_coderL : Room := { frames := 0, cells := 0, slots := 0, locals := 0 }
set_option maxRecDepth 65536 in
set_option maxHeartbeats 40000000 in
theorem con_coderL (l : Launch) {Z : State} {a0 : Array Value} (hw : ∀ d ∈ tables_1, d.before a0 Z = true) {n0 : Nat} {h0 : Heap} {a : Addr} {cs : List Int32} (S : Lat Z h0 a cs) (HC : Cst Z) :
    Con l Z true false ELs n0 (⟨"java/lang/String", "coder", "()B"⟩ : MethodName) jdk_42_method_152_code 1 (some .byte) rm_con_coderL [] #[(.ref a)] h0 [] (fun v h => v = some (.int 0) ∧ h = h0) := by
  refine Con.intro (plainFor_of_name pn_java_lang_String) (hELs hw) ?_
  intro p e s m below meth c hh G
  refine castRun (g' := mkF m 0 #[.val (.ref a)] []) (by first | rfl | (simp [entryFrame, mkF, argsToLocals, Value.category, maxLocals]; done)) ?_
  obtain ⟨E, ⟨b, FV, FC, A⟩, hlat⟩ := id S
  obtain ⟨cz, SC, hcz⟩ := id HC
  refine GoKit.gets G d12_0 (wi hw 37 rfl) Via.refl SC (pc' := 3) rfl ?_
  refine GoKit.if_eq_f G d12_3 hcz (pc' := 6) rfl ?_
  refine GoKit.aloadN G d12_6 rfl rfl (pc' := 7) rfl ?_
  refine GoKit.getf G d12_7 (wi hw 27 rfl) Via.refl FC (pc' := 10) rfl ?_
  refine GoKit.goto G d12_10 (by decide) (pc' := 14) rfl ?_
  refine GoKit.retNar G d12_14 (t := .byte) rfl (by simp) (by decide) (by decide) ?_
  exact ⟨rfl, rfl⟩
theorem d11_0 : decode jdk_42_method_54_code 0 = .ok (.aload_n 0, 1) := by decide +kernel
theorem d11_1 : decode jdk_42_method_54_code 1 = .ok (.getfield 9, 3) := by decide +kernel
theorem d11_4 : decode jdk_42_method_54_code 4 = .ok (.arraylength, 1) := by decide +kernel
theorem d11_5 : decode jdk_42_method_54_code 5 = .ok (.aload_n 0, 1) := by decide +kernel
theorem d11_6 : decode jdk_42_method_54_code 6 = .ok (.invokevirtual 335, 3) := by decide +kernel
theorem pd_8 : parseMethodDescriptor "()B" = some ⟨[], some .byte⟩ := by decide +kernel
theorem d11_9 : decode jdk_42_method_54_code 9 = .ok (.ishr, 1) := by decide +kernel
theorem d11_10 : decode jdk_42_method_54_code 10 = .ok (.ireturn, 1) := by decide +kernel
abbrev rm_con_lenSL : Room := { frames := 1, cells := 0, slots := 0, locals := 13 }
set_option maxRecDepth 65536 in
set_option maxHeartbeats 40000000 in
theorem con_lenSL (l : Launch) {Z : State} {a0 : Array Value} (hw : ∀ d ∈ tables_1, d.before a0 Z = true) {n0 : Nat} {h0 : Heap} {a : Addr} {cs : List Int32} (S : Lat Z h0 a cs) (HC : Cst Z) :
    Con l Z true false ELs n0 (⟨"java/lang/String", "length", "()I"⟩ : MethodName) jdk_42_method_54_code 1 (some .int) rm_con_lenSL [] #[(.ref a)] h0 [] (fun v h => v = some (.int cs.length.toInt32) ∧ h = h0) := by
  refine Con.intro (plainFor_of_name pn_java_lang_String) (hELs hw) ?_
  intro p e s m below meth c hh G
  refine castRun (g' := mkF m 0 #[.val (.ref a)] []) (by first | rfl | (simp [entryFrame, mkF, argsToLocals, Value.category, maxLocals]; done)) ?_
  obtain ⟨E, ⟨b, FV, FC, A⟩, hlat⟩ := id S
  refine GoKit.aloadN G d11_0 rfl rfl (pc' := 1) rfl ?_
  refine GoKit.getf G d11_1 (wi hw 26 rfl) Via.refl FV (pc' := 4) rfl ?_
  refine GoKit.arrlenI G d11_4 A (z := cs.length.toInt32) (by simp) (pc' := 5) rfl ?_
  refine GoKit.aloadN G d11_5 rfl rfl (pc' := 6) rfl ?_
  refine GoKit.callVirtualP G d11_6 (wi hw 56 rfl) (wi hw 57 rfl) (wi hw 59 rfl) (wi hw 58 rfl) (wi hw 8 rfl) (wi hw 60 rfl) (by decide) E (W := 1) (argsL := []) (rest := [(.int cs.length.toInt32)]) (con_coderL l hw S HC) rfl (lenOf pd_8 rfl) rfl (by decide) (Nat.le_of_eq rfl) (by decide) (by decide) (by decide) (cells' := 0) (slots' := 0) rfl rfl (pc' := 9) rfl ?_
  show Run _ _ _ _ _ _ _ _ _ _ _ _ _ _ _ _ _ _ _ _ _ (mkF m 9 #[.val (.ref a)] [(.int 0), (.int cs.length.toInt32)])
  refine GoKit.ishr G d11_9 (pc' := 10) rfl (fun v1 hqv1 => ?_)
  refine GoKit.retInt G d11_10 rfl (by decide) (by decide) ?_
  exact ⟨by subst_vars; rw [sh0], rfl⟩
abbrev rm_con_lenSU : Room := { frames := 1, cells := 0, slots := 0, locals := 13 }
set_option maxRecDepth 65536 in
set_option maxHeartbeats 40000000 in
theorem con_lenSU (l : Launch) {Z : State} {a0 : Array Value} (hw : ∀ d ∈ tables_1, d.before a0 Z = true) {n0 : Nat} {h0 : Heap} {a : Addr} {cs : List Int32} (S : U16 Z h0 a cs) (HC : Cst Z) :
    Con l Z true false ELs n0 (⟨"java/lang/String", "length", "()I"⟩ : MethodName) jdk_42_method_54_code 1 (some .int) rm_con_lenSU [] #[(.ref a)] h0 [] (fun v h => v = some (.int cs.length.toInt32) ∧ h = h0) := by
  refine Con.intro (plainFor_of_name pn_java_lang_String) (hELs hw) ?_
  intro p e s m below meth c hh G
  refine castRun (g' := mkF m 0 #[.val (.ref a)] []) (by first | rfl | (simp [entryFrame, mkF, argsToLocals, Value.category, maxLocals]; done)) ?_
  obtain ⟨E, ⟨b, FV, FC, A⟩, hch, hln⟩ := id S
  refine GoKit.aloadN G d11_0 rfl rfl (pc' := 1) rfl ?_
  refine GoKit.getf G d11_1 (wi hw 26 rfl) Via.refl FV (pc' := 4) rfl ?_
  refine GoKit.arrlenI G d11_4 A (z := (2 * cs.length).toInt32) (by rw [u16_len]) (pc' := 5) rfl ?_
  refine GoKit.aloadN G d11_5 rfl rfl (pc' := 6) rfl ?_
  refine GoKit.callVirtualP G d11_6 (wi hw 56 rfl) (wi hw 57 rfl) (wi hw 59 rfl) (wi hw 58 rfl) (wi hw 8 rfl) (wi hw 60 rfl) (by decide) E (W := 1) (argsL := []) (rest := [(.int (2 * cs.length).toInt32)]) (con_coderU l hw S HC) rfl (lenOf pd_8 rfl) rfl (by decide) (Nat.le_of_eq rfl) (by decide) (by decide) (by decide) (cells' := 0) (slots' := 0) rfl rfl (pc' := 9) rfl ?_
  show Run _ _ _ _ _ _ _ _ _ _ _ _ _ _ _ _ _ _ _ _ _ (mkF m 9 #[.val (.ref a)] [(.int 1), (.int (2 * cs.length).toInt32)])
  refine GoKit.ishr G d11_9 (pc' := 10) rfl (fun v1 hqv1 => ?_)
  refine GoKit.retInt G d11_10 rfl (by decide) (by decide) ?_
  exact ⟨by subst_vars; rw [shr1 (by omega)], rfl⟩
theorem con_lenS (l : Launch) {Z : State} {a0 : Array Value} (hw : ∀ d ∈ tables_1, d.before a0 Z = true) {n0 : Nat} {h0 : Heap} {a : Addr} {cs : List Int32} (S : Str Z h0 a cs) (HC : Cst Z) :
    Con l Z true false ELs n0 (⟨"java/lang/String", "length", "()I"⟩ : MethodName) jdk_42_method_54_code 1 (some .int) rm_con_lenSL [] #[(.ref a)] h0 [] (fun v h => v = some (.int cs.length.toInt32) ∧ h = h0) := by
  rcases S with S | S
  · exact con_lenSL l hw S HC
  · exact con_lenSU l hw S HC
theorem d14_0 : decode jdk_42_method_154_code 0 = .ok (.getstatic 38, 3) := by decide +kernel
theorem d14_3 : decode jdk_42_method_154_code 3 = .ok (.ifCond .eq 14, 3) := by decide +kernel
theorem d14_6 : decode jdk_42_method_154_code 6 = .ok (.aload_n 0, 1) := by decide +kernel
theorem d14_7 : decode jdk_42_method_154_code 7 = .ok (.getfield 15, 3) := by decide +kernel
theorem d14_10 : decode jdk_42_method_154_code 10 = .ok (.ifCond .ne 7, 3) := by decide +kernel
theorem d14_13 : decode jdk_42_method_154_code 13 = .ok (.iconst 1, 1) := by decide +kernel
theorem d14_14 : decode jdk_42_method_154_code 14 = .ok (.goto 4, 3) := by decide +kernel
theorem d14_18 : decode jdk_42_method_154_code 18 = .ok (.ireturn, 1) := by decide +kernel
abbrev rm_con_isLatL : Room := { frames := 0, cells := 0, slots := 0, locals := 0 }
set_option maxRecDepth 65536 in
set_option maxHeartbeats 40000000 in
theorem con_isLatL (l : Launch) {Z : State} {a0 : Array Value} (hw : ∀ d ∈ tables_1, d.before a0 Z = true) {n0 : Nat} {h0 : Heap} {a : Addr} {cs : List Int32} (S : Lat Z h0 a cs) (HC : Cst Z) :
    Con l Z true false ELs n0 (⟨"java/lang/String", "isLatin1", "()Z"⟩ : MethodName) jdk_42_method_154_code 1 (some .boolean) rm_con_isLatL [] #[(.ref a)] h0 [] (fun v h => v = some (.int 1) ∧ h = h0) := by
  refine Con.intro (plainFor_of_name pn_java_lang_String) (hELs hw) ?_
  intro p e s m below meth c hh G
  refine castRun (g' := mkF m 0 #[.val (.ref a)] []) (by first | rfl | (simp [entryFrame, mkF, argsToLocals, Value.category, maxLocals]; done)) ?_
  obtain ⟨E, ⟨b, FV, FC, A⟩, hlat⟩ := id S
  obtain ⟨cz, SC, hcz⟩ := id HC
  refine GoKit.gets G d14_0 (wi hw 37 rfl) Via.refl SC (pc' := 3) rfl ?_
  refine GoKit.if_eq_f G d14_3 hcz (pc' := 6) rfl ?_
  refine GoKit.aloadN G d14_6 rfl rfl (pc' := 7) rfl ?_
  refine GoKit.getf G d14_7 (wi hw 27 rfl) Via.refl FC (pc' := 10) rfl ?_
  refine GoKit.if_ne_f G d14_10 rfl (pc' := 13) rfl ?_
  refine GoKit.iconst G (1 : Int32) d14_13 rfl (pc' := 14) rfl ?_
  refine GoKit.goto G d14_14 (by decide) (pc' := 18) rfl ?_
  refine GoKit.retNar G d14_18 (t := .boolean) rfl (by simp) (by decide) (by decide) ?_
  exact ⟨rfl, rfl⟩
theorem d14_17 : decode jdk_42_method_154_code 17 = .ok (.iconst 0, 1) := by decide +kernel
abbrev rm_con_isLatU : Room := { frames := 0, cells := 0, slots := 0, locals := 0 }
set_option maxRecDepth 65536 in
set_option maxHeartbeats 40000000 in
theorem con_isLatU (l : Launch) {Z : State} {a0 : Array Value} (hw : ∀ d ∈ tables_1, d.before a0 Z = true) {n0 : Nat} {h0 : Heap} {a : Addr} {cs : List Int32} (S : U16 Z h0 a cs) (HC : Cst Z) :
    Con l Z true false ELs n0 (⟨"java/lang/String", "isLatin1", "()Z"⟩ : MethodName) jdk_42_method_154_code 1 (some .boolean) rm_con_isLatU [] #[(.ref a)] h0 [] (fun v h => v = some (.int 0) ∧ h = h0) := by
  refine Con.intro (plainFor_of_name pn_java_lang_String) (hELs hw) ?_
  intro p e s m below meth c hh G
  refine castRun (g' := mkF m 0 #[.val (.ref a)] []) (by first | rfl | (simp [entryFrame, mkF, argsToLocals, Value.category, maxLocals]; done)) ?_
  obtain ⟨E, ⟨b, FV, FC, A⟩, hch, hln⟩ := id S
  obtain ⟨cz, SC, hcz⟩ := id HC
  refine GoKit.gets G d14_0 (wi hw 37 rfl) Via.refl SC (pc' := 3) rfl ?_
  refine GoKit.if_eq_f G d14_3 hcz (pc' := 6) rfl ?_
  refine GoKit.aloadN G d14_6 rfl rfl (pc' := 7) rfl ?_
  refine GoKit.getf G d14_7 (wi hw 27 rfl) Via.refl FC (pc' := 10) rfl ?_
  refine GoKit.if_ne_t G d14_10 (by decide) (by decide) (pc' := 17) rfl ?_
  refine GoKit.iconst G (0 : Int32) d14_17 rfl (pc' := 18) rfl ?_
  refine GoKit.retNar G d14_18 (t := .boolean) rfl (by simp) (by decide) (by decide) ?_
  exact ⟨rfl, rfl⟩
/-- the formatter's static is a reference -/
def Frm (Z : State) : Prop := ∃ fv : Value, Sta Z Z.heap "jdk/internal/util/Preconditions" "SIOOBE_FORMATTER" "Ljava/util/function/BiFunction;" fv ∧ fv.isRef = true
theorem lo8_mask (c : Int32) (h : 0 ≤ c.toInt ∧ c.toInt < 256) : nar .char ((c.toInt8.toInt32 &&& 255).toUInt32.toUInt16.toUInt32.toInt32) = c := by
  obtain ⟨n, hn, rfl⟩ : ∃ n : Nat, n < 256 ∧ c = Int32.ofNat n := by
    refine ⟨c.toInt.toNat, by omega, ?_⟩
    apply Int32.toInt_inj.mp
    rw [show Int32.ofNat c.toInt.toNat = c.toInt.toNat.toInt32 from rfl, toI_toInt (by omega)]; omega
  revert n; decide +kernel
theorem d17_0 : decode jdk_41_method_11_code 0 = .ok (.iload_n 0, 1) := by decide +kernel
theorem d17_1 : decode jdk_41_method_11_code 1 = .ok (.ifCond .lt 8, 3) := by decide +kernel
theorem d17_4 : decode jdk_41_method_11_code 4 = .ok (.iload_n 0, 1) := by decide +kernel
theorem d17_5 : decode jdk_41_method_11_code 5 = .ok (.iload_n 1, 1) := by decide +kernel
theorem d17_6 : decode jdk_41_method_11_code 6 = .ok (.if_icmp .lt 10, 3) := by decide +kernel
theorem d17_16 : decode jdk_41_method_11_code 16 = .ok (.iload_n 0, 1) := by decide +kernel
theorem d17_17 : decode jdk_41_method_11_code 17 = .ok (.ireturn, 1) := by decide +kernel
theorem pn_jdk_internal_util_Preconditions : plainName "jdk/internal/util/Preconditions" = true := by first | (simp [plainName, overriddenIn]; done) | decide +kernel
abbrev rm_con_preCheck : Room := { frames := 0, cells := 0, slots := 0, locals := 0 }
set_option maxRecDepth 65536 in
set_option maxHeartbeats 40000000 in
theorem con_preCheck (l : Launch) {Z : State} {a0 : Array Value} (hw : ∀ d ∈ tables_1, d.before a0 Z = true) {n0 : Nat} {h0 : Heap} {j z : Int32} {fv : Value} (hfv : fv.isRef = true) (hj0 : ¬ j < 0) (hjn : j < z) :
    Con l Z true false ELs n0 (⟨"jdk/internal/util/Preconditions", "checkIndex", "(IILjava/util/function/BiFunction;)I"⟩ : MethodName) jdk_41_method_11_code 3 (some .int) rm_con_preCheck [] #[(.int j), (.int z), fv] h0 [] (fun v h => v = some (.int j) ∧ h = h0) := by
  refine Con.intro (plainFor_of_name pn_jdk_internal_util_Preconditions) (hELs hw) ?_
  intro p e s m below meth c hh G
  refine castRun (g' := mkF m 0 #[.val (.int j), .val (.int z), .val fv] []) (by rcases ref_cases hfv with rfl | ⟨r, rfl⟩ <;> rfl) ?_
  refine GoKit.iloadN G d17_0 rfl (pc' := 1) rfl ?_
  refine GoKit.if_lt_f G d17_1 hj0 (pc' := 4) rfl ?_
  refine GoKit.iloadN G d17_4 rfl (pc' := 5) rfl ?_
  refine GoKit.iloadN G d17_5 rfl (pc' := 6) rfl ?_
  refine GoKit.icmp_lt_t G d17_6 hjn (by decide) (pc' := 16) rfl ?_
  refine GoKit.iloadN G d17_16 rfl (pc' := 17) rfl ?_
  refine GoKit.retInt G d17_17 rfl (by decide) (by decide) ?_
  exact ⟨rfl, rfl⟩
theorem d16_0 : decode jdk_42_method_155_code 0 = .ok (.iload_n 0, 1) := by decide +kernel
theorem d16_1 : decode jdk_42_method_155_code 1 = .ok (.iload_n 1, 1) := by decide +kernel
theorem d16_2 : decode jdk_42_method_155_code 2 = .ok (.getstatic 1053, 3) := by decide +kernel
theorem d16_5 : decode jdk_42_method_155_code 5 = .ok (.invokestatic 1059, 3) := by decide +kernel
theorem pd_9 : parseMethodDescriptor "(IILjava/util/function/BiFunction;)I" = some ⟨[.int, .int, (.object "java/util/function/BiFunction")], some .int⟩ := by decide +kernel
theorem d16_8 : decode jdk_42_method_155_code 8 = .ok (.pop, 1) := by decide +kernel
theorem d16_9 : decode jdk_42_method_155_code 9 = .ok (.return_, 1) := by decide +kernel
abbrev rm_con_checkIndex : Room := { frames := 1, cells := 0, slots := 0, locals := 14 }
set_option maxRecDepth 65536 in
set_option maxHeartbeats 40000000 in
theorem con_checkIndex (l : Launch) {Z : State} {a0 : Array Value} (hw : ∀ d ∈ tables_1, d.before a0 Z = true) {n0 : Nat} {h0 : Heap} {j z : Int32} (HF : Frm Z) (hj0 : ¬ j < 0) (hjn : j < z) :
    Con l Z true false ELs n0 (⟨"java/lang/String", "checkIndex", "(II)V"⟩ : MethodName) jdk_42_method_155_code 2 none rm_con_checkIndex [] #[(.int j), (.int z)] h0 [] (fun v h => v = none ∧ h = h0) := by
  refine Con.intro (plainFor_of_name pn_java_lang_String) (hELs hw) ?_
  intro p e s m below meth c hh G
  refine castRun (g' := mkF m 0 #[.val (.int j), .val (.int z)] []) (by first | rfl | (simp [entryFrame, mkF, argsToLocals, Value.category, maxLocals]; done)) ?_
  obtain ⟨fv, SF, hfv⟩ := id HF
  refine GoKit.iloadN G d16_0 rfl (pc' := 1) rfl ?_
  refine GoKit.iloadN G d16_1 rfl (pc' := 2) rfl ?_
  refine GoKit.gets G d16_2 (wi hw 78 rfl) Via.refl SF (pc' := 5) rfl ?_
  refine GoKit.callStaticP G d16_5 (wi hw 80 rfl) (wi hw 81 rfl) (wi hw 79 rfl) (wi hw 82 rfl) (by decide) (W := 0) (argsL := [(.int j), (.int z), fv]) (rest := []) (con_preCheck l hw hfv hj0 hjn) rfl (lenOf pd_9 rfl) rfl (by decide) (Nat.le_of_eq rfl) (by decide) (by decide) (by decide) (cells' := 0) (slots' := 0) rfl rfl (pc' := 8) rfl ?_
  show Run _ _ _ _ _ _ _ _ _ _ _ _ _ _ _ _ _ _ _ _ _ (mkF m 8 #[.val (.int j), .val (.int z)] [(.int j)])
  refine GoKit.pop G d16_8 rfl (pc' := 9) rfl ?_
  refine GoKit.retVoid G d16_9 rfl (by decide) (by decide) ?_
  exact ⟨rfl, rfl⟩
theorem d15_0 : decode jdk_43_method_2_code 0 = .ok (.iload_n 1, 1) := by decide +kernel
theorem d15_1 : decode jdk_43_method_2_code 1 = .ok (.aload_n 0, 1) := by decide +kernel
theorem d15_2 : decode jdk_43_method_2_code 2 = .ok (.arraylength, 1) := by decide +kernel
theorem d15_3 : decode jdk_43_method_2_code 3 = .ok (.invokestatic 9, 3) := by decide +kernel
theorem pd_10 : parseMethodDescriptor "(II)V" = some ⟨[.int, .int], none⟩ := by decide +kernel
theorem d15_6 : decode jdk_43_method_2_code 6 = .ok (.aload_n 0, 1) := by decide +kernel
theorem d15_7 : decode jdk_43_method_2_code 7 = .ok (.iload_n 1, 1) := by decide +kernel
theorem d15_8 : decode jdk_43_method_2_code 8 = .ok (.baload, 1) := by decide +kernel
theorem d15_9 : decode jdk_43_method_2_code 9 = .ok (.sipush 255, 3) := by decide +kernel
theorem d15_12 : decode jdk_43_method_2_code 12 = .ok (.iand, 1) := by decide +kernel
theorem d15_13 : decode jdk_43_method_2_code 13 = .ok (.i2c, 1) := by decide +kernel
theorem d15_14 : decode jdk_43_method_2_code 14 = .ok (.ireturn, 1) := by decide +kernel
theorem pn_java_lang_StringLatin1 : plainName "java/lang/StringLatin1" = true := by first | (simp [plainName, overriddenIn]; done) | decide +kernel
abbrev rm_con_latCharAt : Room := { frames := 2, cells := 0, slots := 0, locals := 27 }
set_option maxRecDepth 65536 in
set_option maxHeartbeats 40000000 in
theorem con_latCharAt (l : Launch) {Z : State} {a0 : Array Value} (hw : ∀ d ∈ tables_1, d.before a0 Z = true) {n0 : Nat} {h0 : Heap} {b : Addr} {cs : List Int32} {i : Nat} {ch : Int32} (A : IA Z h0 b .byte (cs.map fun c => c.toInt8.toInt32)) (hlat : ∀ c ∈ cs, 0 ≤ c.toInt ∧ c.toInt < 256) (hi : cs[i]? = some ch) (HF : Frm Z) :
    Con l Z true false ELs n0 (⟨"java/lang/StringLatin1", "charAt", "([BI)C"⟩ : MethodName) jdk_43_method_2_code 2 (some .char) rm_con_latCharAt [] #[(.ref b), (.int i.toInt32)] h0 [] (fun v h => v = some (.int ch) ∧ h = h0) := by
  refine Con.intro (plainFor_of_name pn_java_lang_StringLatin1) (hELs hw) ?_
  intro p e s m below meth c hh G
  refine castRun (g' := mkF m 0 #[.val (.ref b), .val (.int i.toInt32)] []) (by first | rfl | (simp [entryFrame, mkF, argsToLocals, Value.category, maxLocals]; done)) ?_
  have hil := (List.getElem?_eq_some_iff.mp hi).1
  have hl := A.len
  rw [List.length_map] at hl
  refine GoKit.iloadN G d15_0 rfl (pc' := 1) rfl ?_
  refine GoKit.aloadN G d15_1 rfl rfl (pc' := 2) rfl ?_
  refine GoKit.arrlenI G d15_2 A (z := cs.length.toInt32) (by simp) (pc' := 3) rfl ?_
  refine GoKit.callStaticP G d15_3 (wi hw 75 rfl) (wi hw 76 rfl) (wi hw 8 rfl) (wi hw 77 rfl) (by decide) (W := 0) (argsL := [(.int i.toInt32), (.int cs.length.toInt32)]) (rest := []) (con_checkIndex l hw HF (toI_nn (by omega)) ((toI_lt (by omega) (by omega)).mpr hil)) rfl (lenOf pd_10 rfl) rfl (by decide) (Nat.le_of_eq rfl) (by decide) (by decide) (by decide) (cells' := 0) (slots' := 0) rfl rfl (pc' := 6) rfl ?_
  show Run _ _ _ _ _ _ _ _ _ _ _ _ _ _ _ _ _ _ _ _ _ (mkF m 6 #[.val (.ref b), .val (.int i.toInt32)] [])
  refine GoKit.aloadN G d15_6 rfl rfl (pc' := 7) rfl ?_
  refine GoKit.iloadN G d15_7 rfl (pc' := 8) rfl ?_
  refine GoKit.baloadI G d15_8 A (i := i) (toI_clamp (by omega)) (toI_nn (by omega)) (x := ch.toInt8.toInt32) (by simp [hi]) (pc' := 9) rfl ?_
  refine GoKit.sipush G (255 : Int32) d15_9 rfl (pc' := 12) rfl ?_
  refine GoKit.iand G d15_12 (pc' := 13) rfl (fun v1 hqv1 => ?_)
  refine GoKit.i2c G d15_13 (pc' := 14) rfl (fun v2 hqv2 => ?_)
  have l3 := ch8 _ _ _ hqv1 hqv2
  have c4 : nar .char v2 = v2 := by rw [hqv2]; exact nar_i2c _
  refine GoKit.retNar G d15_14 (t := .char) rfl (by simp) (by decide) (by decide) ?_
  exact ⟨by subst_vars; rw [lo8_mask ch (hlat ch (List.mem_of_getElem? hi))], rfl⟩
theorem d32_0 : decode jdk_52_method_6_code 0 = .ok (.aload_n 0, 1) := by decide +kernel
theorem d32_1 : decode jdk_52_method_6_code 1 = .ok (.arraylength, 1) := by decide +kernel
theorem d32_2 : decode jdk_52_method_6_code 2 = .ok (.iconst 1, 1) := by decide +kernel
theorem d32_3 : decode jdk_52_method_6_code 3 = .ok (.ishr, 1) := by decide +kernel
theorem d32_4 : decode jdk_52_method_6_code 4 = .ok (.ireturn, 1) := by decide +kernel
abbrev rm_con_uLen : Room := { frames := 0, cells := 0, slots := 0, locals := 0 }
set_option maxRecDepth 65536 in
set_option maxHeartbeats 40000000 in
theorem con_uLen (l : Launch) {Z : State} {a0 : Array Value} (hw : ∀ d ∈ tables_1, d.before a0 Z = true) {n0 : Nat} {h0 : Heap} {b : Addr} {cs : List Int32} (A : IA Z h0 b .byte (u16 cs)) (hln : cs.length < 2 ^ 29) :
    Con l Z true false ELs n0 (⟨"java/lang/StringUTF16", "length", "([B)I"⟩ : MethodName) jdk_52_method_6_code 1 (some .int) rm_con_uLen [] #[(.ref b)] h0 [] (fun v h => v = some (.int cs.length.toInt32) ∧ h = h0) := by
  refine Con.intro (plainFor_of_name pn_java_lang_StringUTF16) (hELs hw) ?_
  intro p e s m below meth c hh G
  refine castRun (g' := mkF m 0 #[.val (.ref b)] []) (by first | rfl | (simp [entryFrame, mkF, argsToLocals, Value.category, maxLocals]; done)) ?_
  refine GoKit.aloadN G d32_0 rfl rfl (pc' := 1) rfl ?_
  refine GoKit.arrlenI G d32_1 A (z := (2 * cs.length).toInt32) (by rw [u16_len]) (pc' := 2) rfl ?_
  refine GoKit.iconst G (1 : Int32) d32_2 rfl (pc' := 3) rfl ?_
  refine GoKit.ishr G d32_3 (pc' := 4) rfl (fun v1 hqv1 => ?_)
  refine GoKit.retInt G d32_4 rfl (by decide) (by decide) ?_
  exact ⟨by subst_vars; rw [shr1 (by omega)], rfl⟩
theorem d31_0 : decode jdk_52_method_91_code 0 = .ok (.iload_n 0, 1) := by decide +kernel
theorem d31_1 : decode jdk_52_method_91_code 1 = .ok (.aload_n 1, 1) := by decide +kernel
theorem d31_2 : decode jdk_52_method_91_code 2 = .ok (.invokestatic 48, 3) := by decide +kernel
theorem pd_11 : parseMethodDescriptor "([B)I" = some ⟨[(.array .byte)], some .int⟩ := by decide +kernel
theorem d31_5 : decode jdk_52_method_91_code 5 = .ok (.invokestatic 414, 3) := by decide +kernel
theorem d31_8 : decode jdk_52_method_91_code 8 = .ok (.return_, 1) := by decide +kernel
abbrev rm_con_uCheck : Room := { frames := 2, cells := 0, slots := 0, locals := 27 }
set_option maxRecDepth 65536 in
set_option maxHeartbeats 40000000 in
theorem con_uCheck (l : Launch) {Z : State} {a0 : Array Value} (hw : ∀ d ∈ tables_1, d.before a0 Z = true) {n0 : Nat} {h0 : Heap} {b : Addr} {cs : List Int32} {i : Nat} {ch : Int32} (A : IA Z h0 b .byte (u16 cs)) (hln : cs.length < 2 ^ 29) (hi : cs[i]? = some ch) (HF : Frm Z) :
    Con l Z true false ELs n0 (⟨"java/lang/StringUTF16", "checkIndex", "(I[B)V"⟩ : MethodName) jdk_52_method_91_code 2 none rm_con_uCheck [] #[(.int i.toInt32), (.ref b)] h0 [] (fun v h => v = none ∧ h = h0) := by
  refine Con.intro (plainFor_of_name pn_java_lang_StringUTF16) (hELs hw) ?_
  intro p e s m below meth c hh G
  refine castRun (g' := mkF m 0 #[.val (.int i.toInt32), .val (.ref b)] []) (by first | rfl | (simp [entryFrame, mkF, argsToLocals, Value.category, maxLocals]; done)) ?_
  have hil := (List.getElem?_eq_some_iff.mp hi).1
  refine GoKit.iloadN G d31_0 rfl (pc' := 1) rfl ?_
  refine GoKit.aloadN G d31_1 rfl rfl (pc' := 2) rfl ?_
  refine GoKit.callStaticP G d31_2 (wi hw 136 rfl) (wi hw 137 rfl) (wi hw 40 rfl) (wi hw 138 rfl) (by decide) (W := 1) (argsL := [(.ref b)]) (rest := [(.int i.toInt32)]) (con_uLen l hw A hln) rfl (lenOf pd_11 rfl) rfl (by decide) (Nat.le_of_eq rfl) (by decide) (by decide) (by decide) (cells' := 0) (slots' := 0) rfl rfl (pc' := 5) rfl ?_
  show Run _ _ _ _ _ _ _ _ _ _ _ _ _ _ _ _ _ _ _ _ _ (mkF m 5 #[.val (.int i.toInt32), .val (.ref b)] [(.int cs.length.toInt32), (.int i.toInt32)])
  refine GoKit.callStaticP G d31_5 (wi hw 139 rfl) (wi hw 76 rfl) (wi hw 8 rfl) (wi hw 77 rfl) (by decide) (W := 0) (argsL := [(.int i.toInt32), (.int cs.length.toInt32)]) (rest := []) (con_checkIndex l hw HF (toI_nn (by omega)) ((toI_lt (by omega) (by omega)).mpr hil)) rfl (lenOf pd_10 rfl) rfl (by decide) (Nat.le_of_eq rfl) (by decide) (by decide) (by decide) (cells' := 0) (slots' := 0) rfl rfl (pc' := 8) rfl ?_
  show Run _ _ _ _ _ _ _ _ _ _ _ _ _ _ _ _ _ _ _ _ _ (mkF m 8 #[.val (.int i.toInt32), .val (.ref b)] [])
  refine GoKit.retVoid G d31_8 rfl (by decide) (by decide) ?_
  exact ⟨rfl, rfl⟩
theorem d30_0 : decode jdk_52_method_83_code 0 = .ok (.iload_n 1, 1) := by decide +kernel
theorem d30_1 : decode jdk_52_method_83_code 1 = .ok (.aload_n 0, 1) := by decide +kernel
theorem d30_2 : decode jdk_52_method_83_code 2 = .ok (.invokestatic 67, 3) := by decide +kernel
theorem pd_12 : parseMethodDescriptor "(I[B)V" = some ⟨[.int, (.array .byte)], none⟩ := by decide +kernel
theorem d30_5 : decode jdk_52_method_83_code 5 = .ok (.aload_n 0, 1) := by decide +kernel
theorem d30_6 : decode jdk_52_method_83_code 6 = .ok (.iload_n 1, 1) := by decide +kernel
theorem d30_7 : decode jdk_52_method_83_code 7 = .ok (.invokestatic 71, 3) := by decide +kernel
theorem d30_10 : decode jdk_52_method_83_code 10 = .ok (.ireturn, 1) := by decide +kernel
abbrev rm_con_uCharAt : Room := { frames := 3, cells := 0, slots := 0, locals := 40 }
set_option maxRecDepth 65536 in
set_option maxHeartbeats 40000000 in
theorem con_uCharAt (l : Launch) {Z : State} {a0 : Array Value} (hw : ∀ d ∈ tables_1, d.before a0 Z = true) {n0 : Nat} {h0 : Heap} {b : Addr} {cs : List Int32} {i : Nat} {ch : Int32} (A : IA Z h0 b .byte (u16 cs)) (hch : ∀ c ∈ cs, 0 ≤ c.toInt ∧ c.toInt < 65536) (hln : cs.length < 2 ^ 29) (hi : cs[i]? = some ch) (HF : Frm Z) (HU : Ust Z) :
    Con l Z true false ELs n0 (⟨"java/lang/StringUTF16", "charAt", "([BI)C"⟩ : MethodName) jdk_52_method_83_code 2 (some .char) rm_con_uCharAt [] #[(.ref b), (.int i.toInt32)] h0 [] (fun v h => v = some (.int ch) ∧ h = h0) := by
  refine Con.intro (plainFor_of_name pn_java_lang_StringUTF16) (hELs hw) ?_
  intro p e s m below meth c hh G
  refine castRun (g' := mkF m 0 #[.val (.ref b), .val (.int i.toInt32)] []) (by first | rfl | (simp [entryFrame, mkF, argsToLocals, Value.category, maxLocals]; done)) ?_
  refine GoKit.iloadN G d30_0 rfl (pc' := 1) rfl ?_
  refine GoKit.aloadN G d30_1 rfl rfl (pc' := 2) rfl ?_
  refine GoKit.callStaticP G d30_2 (wi hw 133 rfl) (wi hw 134 rfl) (wi hw 40 rfl) (wi hw 135 rfl) (by decide) (W := 0) (argsL := [(.int i.toInt32), (.ref b)]) (rest := []) (con_uCheck l hw A hln hi HF) rfl (lenOf pd_12 rfl) rfl (by decide) (Nat.le_of_eq rfl) (by decide) (by decide) (by decide) (cells' := 0) (slots' := 0) rfl rfl (pc' := 5) rfl ?_
  show Run _ _ _ _ _ _ _ _ _ _ _ _ _ _ _ _ _ _ _ _ _ (mkF m 5 #[.val (.ref b), .val (.int i.toInt32)] [])
  refine GoKit.aloadN G d30_5 rfl rfl (pc' := 6) rfl ?_
  refine GoKit.iloadN G d30_6 rfl (pc' := 7) rfl ?_
  refine GoKit.callStaticP G d30_7 (wi hw 127 rfl) (wi hw 128 rfl) (wi hw 40 rfl) (wi hw 129 rfl) (by decide) (W := 0) (argsL := [(.ref b), (.int i.toInt32)]) (rest := []) (con_getChar l hw A hi hch HU) rfl (lenOf pd_7 rfl) rfl (by decide) (Nat.le_of_eq rfl) (by decide) (by decide) (by decide) (cells' := 0) (slots' := 0) rfl rfl (pc' := 10) rfl ?_
  show Run _ _ _ _ _ _ _ _ _ _ _ _ _ _ _ _ _ _ _ _ _ (mkF m 10 #[.val (.ref b), .val (.int i.toInt32)] [(.int ch)])
  refine GoKit.retNar G d30_10 (t := .char) rfl (by simp) (by decide) (by decide) ?_
  exact ⟨by rw [nar16 (hch ch (List.mem_of_getElem? hi))], rfl⟩
theorem d13_0 : decode jdk_42_method_56_code 0 = .ok (.aload_n 0, 1) := by decide +kernel
theorem d13_1 : decode jdk_42_method_56_code 1 = .ok (.invokevirtual 492, 3) := by decide +kernel
theorem pd_13 : parseMethodDescriptor "()Z" = some ⟨[], some .boolean⟩ := by decide +kernel
theorem d13_4 : decode jdk_42_method_56_code 4 = .ok (.ifCond .eq 12, 3) := by decide +kernel
theorem d13_7 : decode jdk_42_method_56_code 7 = .ok (.aload_n 0, 1) := by decide +kernel
theorem d13_8 : decode jdk_42_method_56_code 8 = .ok (.getfield 9, 3) := by decide +kernel
theorem d13_11 : decode jdk_42_method_56_code 11 = .ok (.iload_n 1, 1) := by decide +kernel
theorem d13_12 : decode jdk_42_method_56_code 12 = .ok (.invokestatic 495, 3) := by decide +kernel
theorem d13_15 : decode jdk_42_method_56_code 15 = .ok (.ireturn, 1) := by decide +kernel
abbrev rm_con_charSL : Room := { frames := 4, cells := 0, slots := 0, locals := 53 }
set_option maxRecDepth 65536 in
set_option maxHeartbeats 40000000 in
theorem con_charSL (l : Launch) {Z : State} {a0 : Array Value} (hw : ∀ d ∈ tables_1, d.before a0 Z = true) {n0 : Nat} {h0 : Heap} {a : Addr} {cs : List Int32} (S : Lat Z h0 a cs) {i : Nat} {ch : Int32} (hi : cs[i]? = some ch) (HC : Cst Z) (HF : Frm Z) (HU : Ust Z) :
    Con l Z true false ELs n0 (⟨"java/lang/String", "charAt", "(I)C"⟩ : MethodName) jdk_42_method_56_code 2 (some .char) rm_con_charSL [] #[(.ref a), (.int i.toInt32)] h0 [] (fun v h => v = some (.int ch) ∧ h = h0) := by
  refine Con.intro (plainFor_of_name pn_java_lang_String) (hELs hw) ?_
  intro p e s m below meth c hh G
  refine castRun (g' := mkF m 0 #[.val (.ref a), .val (.int i.toInt32)] []) (by first | rfl | (simp [entryFrame, mkF, argsToLocals, Value.category, maxLocals]; done)) ?_
  obtain ⟨E, ⟨b, FV, FC, A⟩, hlat⟩ := id S
  refine GoKit.aloadN G d13_0 rfl rfl (pc' := 1) rfl ?_
  refine GoKit.callVirtualP G d13_1 (wi hw 66 rfl) (wi hw 67 rfl) (wi hw 69 rfl) (wi hw 68 rfl) (wi hw 8 rfl) (wi hw 70 rfl) (by decide) E (W := 0) (argsL := []) (rest := []) (con_isLatL l hw S HC) rfl (lenOf pd_13 rfl) rfl (by decide) (Nat.le_of_eq rfl) (by decide) (by decide) (by decide) (cells' := 0) (slots' := 0) rfl rfl (pc' := 4) rfl ?_
  show Run _ _ _ _ _ _ _ _ _ _ _ _ _ _ _ _ _ _ _ _ _ (mkF m 4 #[.val (.ref a), .val (.int i.toInt32)] [(.int 1)])
  refine GoKit.if_eq_f G d13_4 (by decide) (pc' := 7) rfl ?_
  refine GoKit.aloadN G d13_7 rfl rfl (pc' := 8) rfl ?_
  refine GoKit.getf G d13_8 (wi hw 26 rfl) Via.refl FV (pc' := 11) rfl ?_
  refine GoKit.iloadN G d13_11 rfl (pc' := 12) rfl ?_
  refine GoKit.callStaticP G d13_12 (wi hw 71 rfl) (wi hw 72 rfl) (wi hw 73 rfl) (wi hw 74 rfl) (by decide) (W := 0) (argsL := [(.ref b), (.int i.toInt32)]) (rest := []) (con_latCharAt l hw A hlat hi HF) rfl (lenOf pd_7 rfl) rfl (by decide) (Nat.le_of_eq rfl) (by decide) (by decide) (by decide) (cells' := 0) (slots' := 0) rfl rfl (pc' := 15) rfl ?_
  show Run _ _ _ _ _ _ _ _ _ _ _ _ _ _ _ _ _ _ _ _ _ (mkF m 15 #[.val (.ref a), .val (.int i.toInt32)] [(.int ch)])
  refine GoKit.retNar G d13_15 (t := .char) rfl (by simp) (by decide) (by decide) ?_
  exact ⟨by rw [nar16 (by have := hlat ch (List.mem_of_getElem? hi); omega)], rfl⟩
theorem d13_16 : decode jdk_42_method_56_code 16 = .ok (.aload_n 0, 1) := by decide +kernel
theorem d13_17 : decode jdk_42_method_56_code 17 = .ok (.getfield 9, 3) := by decide +kernel
theorem d13_20 : decode jdk_42_method_56_code 20 = .ok (.iload_n 1, 1) := by decide +kernel
theorem d13_21 : decode jdk_42_method_56_code 21 = .ok (.invokestatic 498, 3) := by decide +kernel
theorem d13_24 : decode jdk_42_method_56_code 24 = .ok (.ireturn, 1) := by decide +kernel
abbrev rm_con_charSU : Room := { frames := 4, cells := 0, slots := 0, locals := 53 }
set_option maxRecDepth 65536 in
set_option maxHeartbeats 40000000 in
theorem con_charSU (l : Launch) {Z : State} {a0 : Array Value} (hw : ∀ d ∈ tables_1, d.before a0 Z = true) {n0 : Nat} {h0 : Heap} {a : Addr} {cs : List Int32} (S : U16 Z h0 a cs) {i : Nat} {ch : Int32} (hi : cs[i]? = some ch) (HC : Cst Z) (HF : Frm Z) (HU : Ust Z) :
    Con l Z true false ELs n0 (⟨"java/lang/String", "charAt", "(I)C"⟩ : MethodName) jdk_42_method_56_code 2 (some .char) rm_con_charSU [] #[(.ref a), (.int i.toInt32)] h0 [] (fun v h => v = some (.int ch) ∧ h = h0) := by
  refine Con.intro (plainFor_of_name pn_java_lang_String) (hELs hw) ?_
  intro p e s m below meth c hh G
  refine castRun (g' := mkF m 0 #[.val (.ref a), .val (.int i.toInt32)] []) (by first | rfl | (simp [entryFrame, mkF, argsToLocals, Value.category, maxLocals]; done)) ?_
  obtain ⟨E, ⟨b, FV, FC, A⟩, hch, hln⟩ := id S
  refine GoKit.aloadN G d13_0 rfl rfl (pc' := 1) rfl ?_
  refine GoKit.callVirtualP G d13_1 (wi hw 66 rfl) (wi hw 67 rfl) (wi hw 69 rfl) (wi hw 68 rfl) (wi hw 8 rfl) (wi hw 70 rfl) (by decide) E (W := 0) (argsL := []) (rest := []) (con_isLatU l hw S HC) rfl (lenOf pd_13 rfl) rfl (by decide) (Nat.le_of_eq rfl) (by decide) (by decide) (by decide) (cells' := 0) (slots' := 0) rfl rfl (pc' := 4) rfl ?_
  show Run _ _ _ _ _ _ _ _ _ _ _ _ _ _ _ _ _ _ _ _ _ (mkF m 4 #[.val (.ref a), .val (.int i.toInt32)] [(.int 0)])
  refine GoKit.if_eq_t G d13_4 (by decide) (by decide) (pc' := 16) rfl ?_
  refine GoKit.aloadN G d13_16 rfl rfl (pc' := 17) rfl ?_
  refine GoKit.getf G d13_17 (wi hw 26 rfl) Via.refl FV (pc' := 20) rfl ?_
  refine GoKit.iloadN G d13_20 rfl (pc' := 21) rfl ?_
  refine GoKit.callStaticP G d13_21 (wi hw 130 rfl) (wi hw 131 rfl) (wi hw 40 rfl) (wi hw 132 rfl) (by decide) (W := 0) (argsL := [(.ref b), (.int i.toInt32)]) (rest := []) (con_uCharAt l hw A hch hln hi HF HU) rfl (lenOf pd_7 rfl) rfl (by decide) (Nat.le_of_eq rfl) (by decide) (by decide) (by decide) (cells' := 0) (slots' := 0) rfl rfl (pc' := 24) rfl ?_
  show Run _ _ _ _ _ _ _ _ _ _ _ _ _ _ _ _ _ _ _ _ _ (mkF m 24 #[.val (.ref a), .val (.int i.toInt32)] [(.int ch)])
  refine GoKit.retNar G d13_24 (t := .char) rfl (by simp) (by decide) (by decide) ?_
  exact ⟨by rw [nar16 (hch ch (List.mem_of_getElem? hi))], rfl⟩
theorem con_charS (l : Launch) {Z : State} {a0 : Array Value} (hw : ∀ d ∈ tables_1, d.before a0 Z = true) {n0 : Nat} {h0 : Heap} {a : Addr} {cs : List Int32} (S : Str Z h0 a cs) {i : Nat} {ch : Int32} (hi : cs[i]? = some ch) (HC : Cst Z) (HF : Frm Z) (HU : Ust Z) :
    Con l Z true false ELs n0 (⟨"java/lang/String", "charAt", "(I)C"⟩ : MethodName) jdk_42_method_56_code 2 (some .char) rm_con_charSL [] #[(.ref a), (.int i.toInt32)] h0 [] (fun v h => v = some (.int ch) ∧ h = h0) := by
  rcases S with S | S
  · exact con_charSL l hw S hi HC HF HU
  · exact con_charSU l hw S hi HC HF HU
theorem d6_0 : decode jdk_42_method_55_code 0 = .ok (.aload_n 0, 1) := by decide +kernel
theorem d6_1 : decode jdk_42_method_55_code 1 = .ok (.getfield 9, 3) := by decide +kernel
theorem d6_4 : decode jdk_42_method_55_code 4 = .ok (.arraylength, 1) := by decide +kernel
theorem d6_5 : decode jdk_42_method_55_code 5 = .ok (.ifCond .ne 7, 3) := by decide +kernel
theorem d6_12 : decode jdk_42_method_55_code 12 = .ok (.iconst 0, 1) := by decide +kernel
theorem d6_13 : decode jdk_42_method_55_code 13 = .ok (.ireturn, 1) := by decide +kernel
abbrev rm_con_isEmpSL : Room := { frames := 0, cells := 0, slots := 0, locals := 0 }
set_option maxRecDepth 65536 in
set_option maxHeartbeats 40000000 in
theorem con_isEmpSL (l : Launch) {Z : State} {a0 : Array Value} (hw : ∀ d ∈ tables_1, d.before a0 Z = true) {n0 : Nat} {h0 : Heap} {a : Addr} {cs : List Int32} (S : Lat Z h0 a cs) (hne : cs ≠ []) (hl30 : cs.length < 2 ^ 30) :
    Con l Z true false ELs n0 (⟨"java/lang/String", "isEmpty", "()Z"⟩ : MethodName) jdk_42_method_55_code 1 (some .boolean) rm_con_isEmpSL [] #[(.ref a)] h0 [] (fun v h => v = some (.int 0) ∧ h = h0) := by
  refine Con.intro (plainFor_of_name pn_java_lang_String) (hELs hw) ?_
  intro p e s m below meth c hh G
  refine castRun (g' := mkF m 0 #[.val (.ref a)] []) (by first | rfl | (simp [entryFrame, mkF, argsToLocals, Value.category, maxLocals]; done)) ?_
  obtain ⟨E, ⟨b, FV, FC, A⟩, hlat⟩ := id S
  have hl2 : cs.length < 2 ^ 30 := by exact hl30
  refine GoKit.aloadN G d6_0 rfl rfl (pc' := 1) rfl ?_
  refine GoKit.getf G d6_1 (wi hw 26 rfl) Via.refl FV (pc' := 4) rfl ?_
  refine GoKit.arrlenI G d6_4 A (z := cs.length.toInt32) (by simp) (pc' := 5) rfl ?_
  refine GoKit.if_ne_t G d6_5 (fun q => hne (List.length_eq_zero_iff.mp ((toI_eq (k := 0) (by omega) (by decide)).mp q))) (by decide) (pc' := 12) rfl ?_
  refine GoKit.iconst G (0 : Int32) d6_12 rfl (pc' := 13) rfl ?_
  refine GoKit.retNar G d6_13 (t := .boolean) rfl (by simp) (by decide) (by decide) ?_
  exact ⟨rfl, rfl⟩
abbrev rm_con_isEmpSU : Room := { frames := 0, cells := 0, slots := 0, locals := 0 }
set_option maxRecDepth 65536 in
set_option maxHeartbeats 40000000 in
theorem con_isEmpSU (l : Launch) {Z : State} {a0 : Array Value} (hw : ∀ d ∈ tables_1, d.before a0 Z = true) {n0 : Nat} {h0 : Heap} {a : Addr} {cs : List Int32} (S : U16 Z h0 a cs) (hne : cs ≠ []) (hl30 : cs.length < 2 ^ 30) :
    Con l Z true false ELs n0 (⟨"java/lang/String", "isEmpty", "()Z"⟩ : MethodName) jdk_42_method_55_code 1 (some .boolean) rm_con_isEmpSU [] #[(.ref a)] h0 [] (fun v h => v = some (.int 0) ∧ h = h0) := by
  refine Con.intro (plainFor_of_name pn_java_lang_String) (hELs hw) ?_
  intro p e s m below meth c hh G
  refine castRun (g' := mkF m 0 #[.val (.ref a)] []) (by first | rfl | (simp [entryFrame, mkF, argsToLocals, Value.category, maxLocals]; done)) ?_
  obtain ⟨E, ⟨b, FV, FC, A⟩, hch, hln⟩ := id S
  have hl2 : cs.length < 2 ^ 30 := by omega
  refine GoKit.aloadN G d6_0 rfl rfl (pc' := 1) rfl ?_
  refine GoKit.getf G d6_1 (wi hw 26 rfl) Via.refl FV (pc' := 4) rfl ?_
  refine GoKit.arrlenI G d6_4 A (z := (2 * cs.length).toInt32) (by rw [u16_len]) (pc' := 5) rfl ?_
  refine GoKit.if_ne_t G d6_5 (fun q => hne (List.length_eq_zero_iff.mp (by have := (toI_eq (i := 2 * cs.length) (k := 0) (by omega) (by decide)).mp q; omega))) (by decide) (pc' := 12) rfl ?_
  refine GoKit.iconst G (0 : Int32) d6_12 rfl (pc' := 13) rfl ?_
  refine GoKit.retNar G d6_13 (t := .boolean) rfl (by simp) (by decide) (by decide) ?_
  exact ⟨rfl, rfl⟩
theorem con_isEmpS (l : Launch) {Z : State} {a0 : Array Value} (hw : ∀ d ∈ tables_1, d.before a0 Z = true) {n0 : Nat} {h0 : Heap} {a : Addr} {cs : List Int32} (S : Str Z h0 a cs) (hne : cs ≠ []) (hl30 : cs.length < 2 ^ 30) :
    Con l Z true false ELs n0 (⟨"java/lang/String", "isEmpty", "()Z"⟩ : MethodName) jdk_42_method_55_code 1 (some .boolean) rm_con_isEmpSL [] #[(.ref a)] h0 [] (fun v h => v = some (.int 0) ∧ h = h0) := by
  rcases S with S | S
  · exact con_isEmpSL l hw S hne hl30
  · exact con_isEmpSU l hw S hne hl30
def max32 (x z : Int32) : Int32 := if x < z then z else x
theorem d22_0 : decode jdk_29_method_65_code 0 = .ok (.iload_n 0, 1) := by decide +kernel
theorem d22_1 : decode jdk_29_method_65_code 1 = .ok (.iload_n 1, 1) := by decide +kernel
theorem d22_2 : decode jdk_29_method_65_code 2 = .ok (.if_icmp .lt 7, 3) := by decide +kernel
theorem d22_9 : decode jdk_29_method_65_code 9 = .ok (.iload_n 1, 1) := by decide +kernel
theorem d22_10 : decode jdk_29_method_65_code 10 = .ok (.ireturn, 1) := by decide +kernel
theorem d22_5 : decode jdk_29_method_65_code 5 = .ok (.iload_n 0, 1) := by decide +kernel
theorem d22_6 : decode jdk_29_method_65_code 6 = .ok (.goto 4, 3) := by decide +kernel
abbrev rm_con_max : Room := { frames := 0, cells := 0, slots := 0, locals := 0 }
set_option maxRecDepth 65536 in
set_option maxHeartbeats 40000000 in
theorem con_max (l : Launch) {Z : State} {a0 : Array Value} (hw : ∀ d ∈ tables_1, d.before a0 Z = true) {n0 : Nat} {h0 : Heap} (x z : Int32) :
    Con l Z true false ELs n0 (⟨"java/lang/Math", "max", "(II)I"⟩ : MethodName) jdk_29_method_65_code 2 (some .int) rm_con_max [] #[(.int x), (.int z)] h0 [] (fun v h => v = some (.int (max32 x z)) ∧ h = h0) := by
  refine Con.intro (Jvm.Free.JP.mathPlain rfl (by decide +kernel)) (hELs hw) ?_
  intro p e s m below meth c hh G
  refine castRun (g' := mkF m 0 #[.val (.int x), .val (.int z)] []) (by first | rfl | (simp [entryFrame, mkF, argsToLocals, Value.category, maxLocals]; done)) ?_
  refine GoKit.iloadN G d22_0 rfl (pc' := 1) rfl ?_
  refine GoKit.iloadN G d22_1 rfl (pc' := 2) rfl ?_
  refine GoKit.icmp_lt G d22_2 (by decide) (pt := 9) (pf := 5) rfl rfl (fun hb1 => ?_) (fun hb1 => ?_)
  · refine GoKit.iloadN G d22_9 rfl (pc' := 10) rfl ?_
    refine GoKit.retInt G d22_10 rfl (by decide) (by decide) ?_
    exact ⟨by simp [max32, hb1], rfl⟩
  · refine GoKit.iloadN G d22_5 rfl (pc' := 6) rfl ?_
    refine GoKit.goto G d22_6 (by decide) (pc' := 10) rfl ?_
    refine GoKit.retInt G d22_10 rfl (by decide) (by decide) ?_
    exact ⟨by simp [max32, hb1], rfl⟩
def min32 (x z : Int32) : Int32 := if z < x then z else x
theorem d23_0 : decode jdk_29_method_69_code 0 = .ok (.iload_n 0, 1) := by decide +kernel
theorem d23_1 : decode jdk_29_method_69_code 1 = .ok (.iload_n 1, 1) := by decide +kernel
theorem d23_2 : decode jdk_29_method_69_code 2 = .ok (.if_icmp .gt 7, 3) := by decide +kernel
theorem d23_9 : decode jdk_29_method_69_code 9 = .ok (.iload_n 1, 1) := by decide +kernel
theorem d23_10 : decode jdk_29_method_69_code 10 = .ok (.ireturn, 1) := by decide +kernel
theorem d23_5 : decode jdk_29_method_69_code 5 = .ok (.iload_n 0, 1) := by decide +kernel
theorem d23_6 : decode jdk_29_method_69_code 6 = .ok (.goto 4, 3) := by decide +kernel
abbrev rm_con_min : Room := { frames := 0, cells := 0, slots := 0, locals := 0 }
set_option maxRecDepth 65536 in
set_option maxHeartbeats 40000000 in
theorem con_min (l : Launch) {Z : State} {a0 : Array Value} (hw : ∀ d ∈ tables_1, d.before a0 Z = true) {n0 : Nat} {h0 : Heap} (x z : Int32) :
    Con l Z true false ELs n0 (⟨"java/lang/Math", "min", "(II)I"⟩ : MethodName) jdk_29_method_69_code 2 (some .int) rm_con_min [] #[(.int x), (.int z)] h0 [] (fun v h => v = some (.int (min32 x z)) ∧ h = h0) := by
  refine Con.intro (Jvm.Free.JP.mathPlain rfl (by decide +kernel)) (hELs hw) ?_
  intro p e s m below meth c hh G
  refine castRun (g' := mkF m 0 #[.val (.int x), .val (.int z)] []) (by first | rfl | (simp [entryFrame, mkF, argsToLocals, Value.category, maxLocals]; done)) ?_
  refine GoKit.iloadN G d23_0 rfl (pc' := 1) rfl ?_
  refine GoKit.iloadN G d23_1 rfl (pc' := 2) rfl ?_
  refine GoKit.icmp_gt G d23_2 (by decide) (pt := 9) (pf := 5) rfl rfl (fun hb1 => ?_) (fun hb1 => ?_)
  · refine GoKit.iloadN G d23_9 rfl (pc' := 10) rfl ?_
    refine GoKit.retInt G d23_10 rfl (by decide) (by decide) ?_
    exact ⟨by simp [min32, hb1], rfl⟩
  · refine GoKit.iloadN G d23_5 rfl (pc' := 6) rfl ?_
    refine GoKit.goto G d23_6 (by decide) (pc' := 10) rfl ?_
    refine GoKit.retInt G d23_10 rfl (by decide) (by decide) ?_
    exact ⟨by simp [min32, hb1], rfl⟩
def idxFrom : List Int32 → Int32 → Nat → Int32
  | [], _, _ => -1
  | c :: cs, x, i => if c = x then i.toInt32 else idxFrom cs x (i + 1)
theorem idx_hit {cs : List Int32} {i : Nat} {c x : Int32} (h : cs[i]? = some c) (hd : c = x) : idxFrom (cs.drop i) x i = i.toInt32 := by
  obtain ⟨hi, rfl⟩ := List.getElem?_eq_some_iff.mp h
  rw [List.drop_eq_getElem_cons hi, idxFrom, if_pos hd]
theorem idx_miss {cs : List Int32} {i : Nat} {c x : Int32} (h : cs[i]? = some c) (hd : ¬ c = x) : idxFrom (cs.drop i) x i = idxFrom (cs.drop (i + 1)) x (i + 1) := by
  obtain ⟨hi, rfl⟩ := List.getElem?_eq_some_iff.mp h
  rw [List.drop_eq_getElem_cons hi, idxFrom, if_neg hd]
theorem idx_none {x : Int32} : ∀ {cs : List Int32} {i : Nat}, x ∉ cs → idxFrom cs x i = -1
  | [], _, _ => rfl
  | c :: cs, i, h => by
    rw [idxFrom, if_neg (fun (q : c = x) => h (by rw [q]; exact List.Mem.head _))]
    exact idx_none fun q => h (List.Mem.tail _ q)
theorem idx_some {x : Int32} : ∀ {cs : List Int32} {i : Nat}, i + cs.length < 2 ^ 31 → x ∈ cs → ¬ idxFrom cs x i < 0
  | c :: cs, i, hl, h => by
    rw [idxFrom]
    simp only [List.length_cons] at hl
    split
    · exact toI_nn (by omega)
    · rename_i hn
      rcases List.mem_cons.mp h with rfl | h
      · exact absurd rfl hn
      · exact idx_some (by omega) h
theorem min_self (x : Int32) : min32 x x = x := by simp [min32]
theorem b8_inj {c d : Int32} (hc : 0 ≤ c.toInt ∧ c.toInt < 256) (hd : 0 ≤ d.toInt ∧ d.toInt < 256) (h : c.toInt8.toInt32 = d.toInt8.toInt32) : c = d := by
  rw [← lo8_mask c hc, ← lo8_mask d hd, h]
theorem i2c_rng {x v : Int32} (h : v = x.toUInt32.toUInt16.toUInt32.toInt32) : 0 ≤ v.toInt ∧ v.toInt < 65536 := by
  subst h
  have e : (x.toUInt32.toUInt16.toUInt32.toInt32).toInt = (((x.toBitVec.setWidth 16).setWidth 32).toInt) := rfl
  rw [e, BitVec.toInt_eq_toNat_of_lt (by simp; omega)]; simp; omega
theorem ite_f {P : Prop} [Decidable P] (h : (if P then (1 : Int32) else 0) = 0) : ¬ P := fun q => by rw [if_pos q] at h; exact absurd h (by decide)
theorem ite_t {P : Prop} [Decidable P] (h : ¬ (if P then (1 : Int32) else 0) = 0) : P := Classical.byContradiction fun q => h (if_neg q)
theorem d21_0 : decode jdk_43_method_4_code 0 = .ok (.iload_n 0, 1) := by decide +kernel
theorem d21_1 : decode jdk_43_method_4_code 1 = .ok (.ifCond .lt 14, 3) := by decide +kernel
theorem d21_15 : decode jdk_43_method_4_code 15 = .ok (.iconst 0, 1) := by decide +kernel
theorem d21_16 : decode jdk_43_method_4_code 16 = .ok (.ireturn, 1) := by decide +kernel
theorem d21_4 : decode jdk_43_method_4_code 4 = .ok (.iload_n 0, 1) := by decide +kernel
theorem d21_5 : decode jdk_43_method_4_code 5 = .ok (.sipush 255, 3) := by decide +kernel
theorem d21_8 : decode jdk_43_method_4_code 8 = .ok (.if_icmp .gt 7, 3) := by decide +kernel
theorem d21_11 : decode jdk_43_method_4_code 11 = .ok (.iconst 1, 1) := by decide +kernel
theorem d21_12 : decode jdk_43_method_4_code 12 = .ok (.goto 4, 3) := by decide +kernel
abbrev rm_con_canEnc : Room := { frames := 0, cells := 0, slots := 0, locals := 0 }
set_option maxRecDepth 65536 in
set_option maxHeartbeats 40000000 in
theorem con_canEnc (l : Launch) {Z : State} {a0 : Array Value} (hw : ∀ d ∈ tables_1, d.before a0 Z = true) {n0 : Nat} {h0 : Heap} (x : Int32) :
    Con l Z true false ELs n0 (⟨"java/lang/StringLatin1", "canEncode", "(I)Z"⟩ : MethodName) jdk_43_method_4_code 1 (some .boolean) rm_con_canEnc [] #[(.int x)] h0 [] (fun v h => v = some (.int (if 0 ≤ x.toInt ∧ x.toInt < 256 then 1 else 0)) ∧ h = h0) := by
  refine Con.intro (plainFor_of_name pn_java_lang_StringLatin1) (hELs hw) ?_
  intro p e s m below meth c hh G
  refine castRun (g' := mkF m 0 #[.val (.int x)] []) (by first | rfl | (simp [entryFrame, mkF, argsToLocals, Value.category, maxLocals]; done)) ?_
  refine GoKit.iloadN G d21_0 rfl (pc' := 1) rfl ?_
  refine GoKit.if_lt G d21_1 (by decide) (pt := 15) (pf := 4) rfl rfl (fun hb1 => ?_) (fun hb1 => ?_)
  · refine GoKit.iconst G (0 : Int32) d21_15 rfl (pc' := 16) rfl ?_
    refine GoKit.retNar G d21_16 (t := .boolean) rfl (by simp) (by decide) (by decide) ?_
    exact ⟨by rw [if_neg (by simp only [gt_iff_lt, ge_iff_le, ne_eq, Int32.lt_iff_toInt_lt, Int32.le_iff_toInt_le, ← Int32.toInt_inj, show (0 : Int32).toInt = 0 from rfl, show (255 : Int32).toInt = 255 from rfl] at hb1; omega)]; rfl, rfl⟩
  · refine GoKit.iloadN G d21_4 rfl (pc' := 5) rfl ?_
    refine GoKit.sipush G (255 : Int32) d21_5 rfl (pc' := 8) rfl ?_
    refine GoKit.icmp_gt G d21_8 (by decide) (pt := 15) (pf := 11) rfl rfl (fun hb2 => ?_) (fun hb2 => ?_)
    · refine GoKit.iconst G (0 : Int32) d21_15 rfl (pc' := 16) rfl ?_
      refine GoKit.retNar G d21_16 (t := .boolean) rfl (by simp) (by decide) (by decide) ?_
      exact ⟨by rw [if_neg (by simp only [gt_iff_lt, ge_iff_le, ne_eq, Int32.lt_iff_toInt_lt, Int32.le_iff_toInt_le, ← Int32.toInt_inj, show (0 : Int32).toInt = 0 from rfl, show (255 : Int32).toInt = 255 from rfl] at hb1 hb2; omega)]; rfl, rfl⟩
    · refine GoKit.iconst G (1 : Int32) d21_11 rfl (pc' := 12) rfl ?_
      refine GoKit.goto G d21_12 (by decide) (pc' := 16) rfl ?_
      refine GoKit.retNar G d21_16 (t := .boolean) rfl (by simp) (by decide) (by decide) ?_
      exact ⟨by rw [if_pos (by simp only [gt_iff_lt, ge_iff_le, ne_eq, Int32.lt_iff_toInt_lt, Int32.le_iff_toInt_le, ← Int32.toInt_inj, show (0 : Int32).toInt = 0 from rfl, show (255 : Int32).toInt = 255 from rfl] at hb1 hb2; omega)]; rfl, rfl⟩
theorem d24_7 : decode jdk_43_method_23_code 7 = .ok (.iload 5, 2) := by decide +kernel
theorem d24_9 : decode jdk_43_method_23_code 9 = .ok (.iload_n 3, 1) := by decide +kernel
theorem d24_10 : decode jdk_43_method_23_code 10 = .ok (.if_icmp .ge 21, 3) := by decide +kernel
theorem d24_31 : decode jdk_43_method_23_code 31 = .ok (.iconst (-1), 1) := by decide +kernel
theorem d24_32 : decode jdk_43_method_23_code 32 = .ok (.ireturn, 1) := by decide +kernel
theorem d24_13 : decode jdk_43_method_23_code 13 = .ok (.aload_n 0, 1) := by decide +kernel
theorem d24_14 : decode jdk_43_method_23_code 14 = .ok (.iload 5, 2) := by decide +kernel
theorem d24_16 : decode jdk_43_method_23_code 16 = .ok (.baload, 1) := by decide +kernel
theorem d24_17 : decode jdk_43_method_23_code 17 = .ok (.iload 4, 2) := by decide +kernel
theorem d24_19 : decode jdk_43_method_23_code 19 = .ok (.if_icmp .ne 6, 3) := by decide +kernel
theorem d24_25 : decode jdk_43_method_23_code 25 = .ok (.iinc 5 1, 3) := by decide +kernel
theorem d24_28 : decode jdk_43_method_23_code 28 = .ok (.goto (-21), 3) := by decide +kernel
theorem d24_22 : decode jdk_43_method_23_code 22 = .ok (.iload 5, 2) := by decide +kernel
theorem d24_24 : decode jdk_43_method_23_code 24 = .ok (.ireturn, 1) := by decide +kernel
theorem d24_0 : decode jdk_43_method_23_code 0 = .ok (.iload_n 1, 1) := by decide +kernel
theorem d24_1 : decode jdk_43_method_23_code 1 = .ok (.i2b, 1) := by decide +kernel
theorem d24_2 : decode jdk_43_method_23_code 2 = .ok (.istore 4, 2) := by decide +kernel
theorem d24_4 : decode jdk_43_method_23_code 4 = .ok (.iload_n 2, 1) := by decide +kernel
theorem d24_5 : decode jdk_43_method_23_code 5 = .ok (.istore 5, 2) := by decide +kernel
abbrev rm_con_idxChar : Room := { frames := 0, cells := 0, slots := 0, locals := 0 }
set_option maxRecDepth 65536 in
set_option maxHeartbeats 40000000 in
theorem con_idxChar (l : Launch) {Z : State} {a0 : Array Value} (hw : ∀ d ∈ tables_1, d.before a0 Z = true) {n0 : Nat} {h0 : Heap} {b : Addr} {cs : List Int32} {x : Int32} (A : IA Z h0 b .byte (cs.map fun c => c.toInt8.toInt32)) (hlat : ∀ c ∈ cs, 0 ≤ c.toInt ∧ c.toInt < 256) (hx : 0 ≤ x.toInt ∧ x.toInt < 256) :
    Con l Z true false ELs n0 (⟨"java/lang/StringLatin1", "indexOfChar", "([BIII)I"⟩ : MethodName) jdk_43_method_23_code 6 (some .int) rm_con_idxChar [] #[(.ref b), (.int x), (.int (0 : Int32)), (.int cs.length.toInt32)] h0 [] (fun v h => v = some (.int (idxFrom cs x 0)) ∧ h = h0) := by
  refine Con.intro (plainFor_of_name pn_java_lang_StringLatin1) (hELs hw) ?_
  intro p e s m below meth c hh G
  refine castRun (g' := mkF m 0 #[.val (.ref b), .val (.int x), .val (.int (0 : Int32)), .val (.int cs.length.toInt32), .unset, .unset] []) (by first | rfl | (simp [entryFrame, mkF, argsToLocals, Value.category, maxLocals]; done)) ?_
  have hl := A.len
  rw [List.length_map] at hl
  have loop : ∀ (k i : Nat), i + k = cs.length → idxFrom (cs.drop i) x i = idxFrom cs x 0 →
      Run p l e rm_con_idxChar s m #[.ref b, .int x, .int (0 : Int32), .int cs.length.toInt32] below meth c Z true false ELs n0 [] (fun v h => v = some (.int (idxFrom cs x 0)) ∧ h = h0) h0 [] 0 0 (mkF m 7 #[.val (.ref b), .val (.int x), .val (.int (0 : Int32)), .val (.int cs.length.toInt32), .val (.int x.toInt8.toInt32), .val (.int i.toInt32)] []) := by
    intro k; induction k with
    | zero =>
      intro i hik hF
      have hi : i = cs.length := by omega
      subst hi
      refine GoKit.iload G d24_7 rfl (pc' := 9) rfl ?_
      refine GoKit.iloadN G d24_9 rfl (pc' := 10) rfl ?_
      refine GoKit.icmp_ge_t G d24_10 Int32.lt_irrefl (by decide) (pc' := 31) rfl ?_
      refine GoKit.iconst G (-1 : Int32) d24_31 rfl (pc' := 32) rfl ?_
      refine GoKit.retInt G d24_32 rfl (by decide) (by decide) ?_
      exact ⟨by rw [← hF]; simp [idxFrom], rfl⟩
    | succ k ih =>
      intro i hik hF
      have hi : i < cs.length := by omega
      obtain ⟨ch, hch⟩ : ∃ ch, cs[i]? = some ch := ⟨cs[i], List.getElem?_eq_getElem hi⟩
      refine GoKit.iload G d24_7 rfl (pc' := 9) rfl ?_
      refine GoKit.iloadN G d24_9 rfl (pc' := 10) rfl ?_
      refine GoKit.icmp_ge_f G d24_10 ((toI_lt (by omega) (by omega)).mpr hi) (pc' := 13) rfl ?_
      refine GoKit.aloadN G d24_13 rfl rfl (pc' := 14) rfl ?_
      refine GoKit.iload G d24_14 rfl (pc' := 16) rfl ?_
      refine GoKit.baloadI G d24_16 A (i := i) (toI_clamp (by omega)) (toI_nn (by omega)) (x := ch.toInt8.toInt32) (by simp [hch]) (pc' := 17) rfl ?_
      refine GoKit.iload G d24_17 rfl (pc' := 19) rfl ?_
      refine GoKit.icmp_ne G d24_19 (by decide) (pt := 25) (pf := 22) rfl rfl (fun hb1 => ?_) (fun hb1 => ?_)
      · refine GoKit.iinc G (1 : Int32) d24_25 rfl rfl (Ls' := #[.val (.ref b), .val (.int x), .val (.int (0 : Int32)), .val (.int cs.length.toInt32), .val (.int x.toInt8.toInt32), .val (.int (i.toInt32 + (1 : Int32)))]) rfl (pc' := 28) rfl ?_
        generalize hqv2 : (i.toInt32 + (1 : Int32)) = v2
        refine GoKit.goto G d24_28 (by decide) (pc' := 7) rfl ?_
        rw [toI_succ] at hqv2; subst hqv2
        exact ih (i + 1) (by omega) (by rw [← hF, idx_miss hch (fun q => (by simpa using hb1 : ¬ _) (by rw [q]))])
      · refine GoKit.iload G d24_22 rfl (pc' := 24) rfl ?_
        refine GoKit.retInt G d24_24 rfl (by decide) (by decide) ?_
        exact ⟨by rw [← hF, idx_hit hch (b8_inj (hlat ch (List.mem_of_getElem? hch)) hx (by simpa using hb1))], rfl⟩
  refine GoKit.iloadN G d24_0 rfl (pc' := 1) rfl ?_
  refine GoKit.i2b G d24_1 (pc' := 2) rfl (fun v3 hqv3 => ?_)
  refine GoKit.istore G d24_2 (Ls' := #[.val (.ref b), .val (.int x), .val (.int (0 : Int32)), .val (.int cs.length.toInt32), .val (.int v3), .unset]) rfl (pc' := 4) rfl ?_
  refine GoKit.iloadN G d24_4 rfl (pc' := 5) rfl ?_
  refine GoKit.istore G d24_5 (Ls' := #[.val (.ref b), .val (.int x), .val (.int (0 : Int32)), .val (.int cs.length.toInt32), .val (.int v3), .val (.int (0 : Int32))]) rfl (pc' := 7) rfl ?_
  subst hqv3
  exact loop cs.length 0 (by omega) rfl
theorem d20_0 : decode jdk_43_method_22_code 0 = .ok (.iload_n 1, 1) := by decide +kernel
theorem d20_1 : decode jdk_43_method_22_code 1 = .ok (.invokestatic 88, 3) := by decide +kernel
theorem pd_14 : parseMethodDescriptor "(I)Z" = some ⟨[.int], some .boolean⟩ := by decide +kernel
theorem d20_4 : decode jdk_43_method_22_code 4 = .ok (.ifCond .ne 5, 3) := by decide +kernel
theorem d20_9 : decode jdk_43_method_22_code 9 = .ok (.iload_n 2, 1) := by decide +kernel
theorem d20_10 : decode jdk_43_method_22_code 10 = .ok (.iconst 0, 1) := by decide +kernel
theorem d20_11 : decode jdk_43_method_22_code 11 = .ok (.invokestatic 92, 3) := by decide +kernel
theorem pd_15 : parseMethodDescriptor "(II)I" = some ⟨[.int, .int], some .int⟩ := by decide +kernel
theorem d20_14 : decode jdk_43_method_22_code 14 = .ok (.istore_n 2, 1) := by decide +kernel
theorem d20_15 : decode jdk_43_method_22_code 15 = .ok (.iload_n 3, 1) := by decide +kernel
theorem d20_16 : decode jdk_43_method_22_code 16 = .ok (.aload_n 0, 1) := by decide +kernel
theorem d20_17 : decode jdk_43_method_22_code 17 = .ok (.arraylength, 1) := by decide +kernel
theorem d20_18 : decode jdk_43_method_22_code 18 = .ok (.invokestatic 38, 3) := by decide +kernel
theorem d20_21 : decode jdk_43_method_22_code 21 = .ok (.istore_n 3, 1) := by decide +kernel
theorem d20_22 : decode jdk_43_method_22_code 22 = .ok (.iload_n 2, 1) := by decide +kernel
theorem d20_23 : decode jdk_43_method_22_code 23 = .ok (.iload_n 3, 1) := by decide +kernel
theorem d20_24 : decode jdk_43_method_22_code 24 = .ok (.if_icmp .lt 5, 3) := by decide +kernel
theorem d20_29 : decode jdk_43_method_22_code 29 = .ok (.aload_n 0, 1) := by decide +kernel
theorem d20_30 : decode jdk_43_method_22_code 30 = .ok (.iload_n 1, 1) := by decide +kernel
theorem d20_31 : decode jdk_43_method_22_code 31 = .ok (.iload_n 2, 1) := by decide +kernel
theorem d20_32 : decode jdk_43_method_22_code 32 = .ok (.iload_n 3, 1) := by decide +kernel
theorem d20_33 : decode jdk_43_method_22_code 33 = .ok (.invokestatic 95, 3) := by decide +kernel
theorem pd_16 : parseMethodDescriptor "([BIII)I" = some ⟨[(.array .byte), .int, .int, .int], some .int⟩ := by decide +kernel
theorem d20_36 : decode jdk_43_method_22_code 36 = .ok (.ireturn, 1) := by decide +kernel
theorem d20_27 : decode jdk_43_method_22_code 27 = .ok (.iconst (-1), 1) := by decide +kernel
theorem d20_28 : decode jdk_43_method_22_code 28 = .ok (.ireturn, 1) := by decide +kernel
theorem d20_7 : decode jdk_43_method_22_code 7 = .ok (.iconst (-1), 1) := by decide +kernel
theorem d20_8 : decode jdk_43_method_22_code 8 = .ok (.ireturn, 1) := by decide +kernel
abbrev rm_con_latIdx : Room := { frames := 1, cells := 0, slots := 0, locals := 17 }
set_option maxRecDepth 65536 in
set_option maxHeartbeats 40000000 in
theorem con_latIdx (l : Launch) {Z : State} {a0 : Array Value} (hw : ∀ d ∈ tables_1, d.before a0 Z = true) {n0 : Nat} {h0 : Heap} {b : Addr} {cs : List Int32} (x : Int32) (A : IA Z h0 b .byte (cs.map fun c => c.toInt8.toInt32)) (hlat : ∀ c ∈ cs, 0 ≤ c.toInt ∧ c.toInt < 256) :
    Con l Z true false ELs n0 (⟨"java/lang/StringLatin1", "indexOf", "([BIII)I"⟩ : MethodName) jdk_43_method_22_code 4 (some .int) rm_con_latIdx [] #[(.ref b), (.int x), (.int (0 : Int32)), (.int cs.length.toInt32)] h0 [] (fun v h => v = some (.int (idxFrom cs x 0)) ∧ h = h0) := by
  refine Con.intro (plainFor_of_name pn_java_lang_StringLatin1) (hELs hw) ?_
  intro p e s m below meth c hh G
  refine castRun (g' := mkF m 0 #[.val (.ref b), .val (.int x), .val (.int (0 : Int32)), .val (.int cs.length.toInt32)] []) (by first | rfl | (simp [entryFrame, mkF, argsToLocals, Value.category, maxLocals]; done)) ?_
  have hl := A.len
  rw [List.length_map] at hl
  refine GoKit.iloadN G d20_0 rfl (pc' := 1) rfl ?_
  refine GoKit.callStaticP G d20_1 (wi hw 98 rfl) (wi hw 99 rfl) (wi hw 73 rfl) (wi hw 100 rfl) (by decide) (W := 0) (argsL := [(.int x)]) (rest := []) (con_canEnc l hw x) rfl (lenOf pd_14 rfl) rfl (by decide) (Nat.le_of_eq rfl) (by decide) (by decide) (by decide) (cells' := 0) (slots' := 0) rfl rfl (pc' := 4) rfl ?_
  show Run _ _ _ _ _ _ _ _ _ _ _ _ _ _ _ _ _ _ _ _ _ (mkF m 4 #[.val (.ref b), .val (.int x), .val (.int (0 : Int32)), .val (.int cs.length.toInt32)] [(.int (if 0 ≤ x.toInt ∧ x.toInt < 256 then 1 else 0))])
  refine GoKit.if_ne G d20_4 (by decide) (pt := 9) (pf := 7) rfl rfl (fun hb1 => ?_) (fun hb1 => ?_)
  · refine GoKit.iloadN G d20_9 rfl (pc' := 10) rfl ?_
    refine GoKit.iconst G (0 : Int32) d20_10 rfl (pc' := 11) rfl ?_
    refine GoKit.callStaticP G d20_11 (wi hw 101 rfl) (wi hw 102 rfl) (wi hw 103 rfl) (wi hw 104 rfl) (by decide) (W := 0) (argsL := [(.int (0 : Int32)), (.int (0 : Int32))]) (rest := []) (con_max l hw (0 : Int32) (0 : Int32)) rfl (lenOf pd_15 rfl) rfl (by decide) (Nat.le_of_eq rfl) (by decide) (by decide) (by decide) (cells' := 0) (slots' := 0) rfl rfl (pc' := 14) rfl ?_
    show Run _ _ _ _ _ _ _ _ _ _ _ _ _ _ _ _ _ _ _ _ _ (mkF m 14 #[.val (.ref b), .val (.int x), .val (.int (0 : Int32)), .val (.int cs.length.toInt32)] [(.int (max32 (0 : Int32) (0 : Int32)))])
    rw [show max32 0 0 = 0 from rfl]
    refine GoKit.istoreN G d20_14 (Ls' := #[.val (.ref b), .val (.int x), .val (.int (0 : Int32)), .val (.int cs.length.toInt32)]) rfl (pc' := 15) rfl ?_
    refine GoKit.iloadN G d20_15 rfl (pc' := 16) rfl ?_
    refine GoKit.aloadN G d20_16 rfl rfl (pc' := 17) rfl ?_
    refine GoKit.arrlenI G d20_17 A (z := cs.length.toInt32) (by simp) (pc' := 18) rfl ?_
    refine GoKit.callStaticP G d20_18 (wi hw 105 rfl) (wi hw 106 rfl) (wi hw 103 rfl) (wi hw 107 rfl) (by decide) (W := 0) (argsL := [(.int cs.length.toInt32), (.int cs.length.toInt32)]) (rest := []) (con_min l hw cs.length.toInt32 cs.length.toInt32) rfl (lenOf pd_15 rfl) rfl (by decide) (Nat.le_of_eq rfl) (by decide) (by decide) (by decide) (cells' := 0) (slots' := 0) rfl rfl (pc' := 21) rfl ?_
    show Run _ _ _ _ _ _ _ _ _ _ _ _ _ _ _ _ _ _ _ _ _ (mkF m 21 #[.val (.ref b), .val (.int x), .val (.int (0 : Int32)), .val (.int cs.length.toInt32)] [(.int (min32 cs.length.toInt32 cs.length.toInt32))])
    rw [min_self]
    refine GoKit.istoreN G d20_21 (Ls' := #[.val (.ref b), .val (.int x), .val (.int (0 : Int32)), .val (.int cs.length.toInt32)]) rfl (pc' := 22) rfl ?_
    refine GoKit.iloadN G d20_22 rfl (pc' := 23) rfl ?_
    refine GoKit.iloadN G d20_23 rfl (pc' := 24) rfl ?_
    refine GoKit.icmp_lt G d20_24 (by decide) (pt := 29) (pf := 27) rfl rfl (fun hb2 => ?_) (fun hb2 => ?_)
    · refine GoKit.aloadN G d20_29 rfl rfl (pc' := 30) rfl ?_
      refine GoKit.iloadN G d20_30 rfl (pc' := 31) rfl ?_
      refine GoKit.iloadN G d20_31 rfl (pc' := 32) rfl ?_
      refine GoKit.iloadN G d20_32 rfl (pc' := 33) rfl ?_
      refine GoKit.callStaticP G d20_33 (wi hw 108 rfl) (wi hw 109 rfl) (wi hw 73 rfl) (wi hw 110 rfl) (by decide) (W := 0) (argsL := [(.ref b), (.int x), (.int (0 : Int32)), (.int cs.length.toInt32)]) (rest := []) (con_idxChar l hw A hlat (Classical.byContradiction fun q => hb1 (if_neg q))) rfl (lenOf pd_16 rfl) rfl (by decide) (Nat.le_of_eq rfl) (by decide) (by decide) (by decide) (cells' := 0) (slots' := 0) rfl rfl (pc' := 36) rfl ?_
      show Run _ _ _ _ _ _ _ _ _ _ _ _ _ _ _ _ _ _ _ _ _ (mkF m 36 #[.val (.ref b), .val (.int x), .val (.int (0 : Int32)), .val (.int cs.length.toInt32)] [(.int (idxFrom cs x 0))])
      refine GoKit.retInt G d20_36 rfl (by decide) (by decide) ?_
      exact ⟨rfl, rfl⟩
    · refine GoKit.iconst G (-1 : Int32) d20_27 rfl (pc' := 28) rfl ?_
      refine GoKit.retInt G d20_28 rfl (by decide) (by decide) ?_
      exact ⟨by rw [List.length_eq_zero_iff.mp (Nat.le_zero.mp (Nat.le_of_not_lt fun q => hb2 ((toI_lt (i := 0) (by decide) hl).mpr q)))]; rfl, rfl⟩
  · refine GoKit.iconst G (-1 : Int32) d20_7 rfl (pc' := 8) rfl ?_
    refine GoKit.retInt G d20_8 rfl (by decide) (by decide) ?_
    exact ⟨by rw [idx_none (fun q => ite_f (by simpa using hb1) (hlat x q))], rfl⟩
theorem d19_0 : decode jdk_42_method_80_code 0 = .ok (.aload_n 0, 1) := by decide +kernel
theorem d19_1 : decode jdk_42_method_80_code 1 = .ok (.invokevirtual 492, 3) := by decide +kernel
theorem d19_4 : decode jdk_42_method_80_code 4 = .ok (.ifCond .eq 19, 3) := by decide +kernel
theorem d19_7 : decode jdk_42_method_80_code 7 = .ok (.aload_n 0, 1) := by decide +kernel
theorem d19_8 : decode jdk_42_method_80_code 8 = .ok (.getfield 9, 3) := by decide +kernel
theorem d19_11 : decode jdk_42_method_80_code 11 = .ok (.iload_n 1, 1) := by decide +kernel
theorem d19_12 : decode jdk_42_method_80_code 12 = .ok (.iload_n 2, 1) := by decide +kernel
theorem d19_13 : decode jdk_42_method_80_code 13 = .ok (.aload_n 0, 1) := by decide +kernel
theorem d19_14 : decode jdk_42_method_80_code 14 = .ok (.invokevirtual 505, 3) := by decide +kernel
theorem pd_17 : parseMethodDescriptor "()I" = some ⟨[], some .int⟩ := by decide +kernel
theorem d19_17 : decode jdk_42_method_80_code 17 = .ok (.invokestatic 637, 3) := by decide +kernel
theorem d19_20 : decode jdk_42_method_80_code 20 = .ok (.goto 16, 3) := by decide +kernel
theorem d19_36 : decode jdk_42_method_80_code 36 = .ok (.ireturn, 1) := by decide +kernel
abbrev rm_con_idx2L : Room := { frames := 2, cells := 0, slots := 0, locals := 32 }
set_option maxRecDepth 65536 in
set_option maxHeartbeats 40000000 in
theorem con_idx2L (l : Launch) {Z : State} {a0 : Array Value} (hw : ∀ d ∈ tables_1, d.before a0 Z = true) {n0 : Nat} {h0 : Heap} {a : Addr} {cs : List Int32} (x : Int32) (S : Lat Z h0 a cs) (HC : Cst Z) :
    Con l Z true false ELs n0 (⟨"java/lang/String", "indexOf", "(II)I"⟩ : MethodName) jdk_42_method_80_code 3 (some .int) rm_con_idx2L [] #[(.ref a), (.int x), (.int (0 : Int32))] h0 [] (fun v h => v = some (.int (idxFrom cs x 0)) ∧ h = h0) := by
  refine Con.intro (plainFor_of_name pn_java_lang_String) (hELs hw) ?_
  intro p e s m below meth c hh G
  refine castRun (g' := mkF m 0 #[.val (.ref a), .val (.int x), .val (.int (0 : Int32))] []) (by first | rfl | (simp [entryFrame, mkF, argsToLocals, Value.category, maxLocals]; done)) ?_
  obtain ⟨E, ⟨b, FV, FC, A⟩, hlat⟩ := id S
  refine GoKit.aloadN G d19_0 rfl rfl (pc' := 1) rfl ?_
  refine GoKit.callVirtualP G d19_1 (wi hw 66 rfl) (wi hw 67 rfl) (wi hw 69 rfl) (wi hw 68 rfl) (wi hw 8 rfl) (wi hw 70 rfl) (by decide) E (W := 0) (argsL := []) (rest := []) (con_isLatL l hw S HC) rfl (lenOf pd_13 rfl) rfl (by decide) (Nat.le_of_eq rfl) (by decide) (by decide) (by decide) (cells' := 0) (slots' := 0) rfl rfl (pc' := 4) rfl ?_
  show Run _ _ _ _ _ _ _ _ _ _ _ _ _ _ _ _ _ _ _ _ _ (mkF m 4 #[.val (.ref a), .val (.int x), .val (.int (0 : Int32))] [(.int 1)])
  refine GoKit.if_eq_f G d19_4 (by decide) (pc' := 7) rfl ?_
  refine GoKit.aloadN G d19_7 rfl rfl (pc' := 8) rfl ?_
  refine GoKit.getf G d19_8 (wi hw 26 rfl) Via.refl FV (pc' := 11) rfl ?_
  refine GoKit.iloadN G d19_11 rfl (pc' := 12) rfl ?_
  refine GoKit.iloadN G d19_12 rfl (pc' := 13) rfl ?_
  refine GoKit.aloadN G d19_13 rfl rfl (pc' := 14) rfl ?_
  refine GoKit.callVirtualP G d19_14 (wi hw 94 rfl) (wi hw 52 rfl) (wi hw 54 rfl) (wi hw 53 rfl) (wi hw 8 rfl) (wi hw 55 rfl) (by decide) E (W := 3) (argsL := []) (rest := [(.int (0 : Int32)), (.int x), (.ref b)]) (con_lenSL l hw S HC) rfl (lenOf pd_17 rfl) rfl (by decide) (Nat.le_of_eq rfl) (by decide) (by decide) (by decide) (cells' := 0) (slots' := 0) rfl rfl (pc' := 17) rfl ?_
  show Run _ _ _ _ _ _ _ _ _ _ _ _ _ _ _ _ _ _ _ _ _ (mkF m 17 #[.val (.ref a), .val (.int x), .val (.int (0 : Int32))] [(.int cs.length.toInt32), (.int (0 : Int32)), (.int x), (.ref b)])
  refine GoKit.callStaticP G d19_17 (wi hw 95 rfl) (wi hw 96 rfl) (wi hw 73 rfl) (wi hw 97 rfl) (by decide) (W := 0) (argsL := [(.ref b), (.int x), (.int (0 : Int32)), (.int cs.length.toInt32)]) (rest := []) (con_latIdx l hw x A hlat) rfl (lenOf pd_16 rfl) rfl (by decide) (Nat.le_of_eq rfl) (by decide) (by decide) (by decide) (cells' := 0) (slots' := 0) rfl rfl (pc' := 20) rfl ?_
  show Run _ _ _ _ _ _ _ _ _ _ _ _ _ _ _ _ _ _ _ _ _ (mkF m 20 #[.val (.ref a), .val (.int x), .val (.int (0 : Int32))] [(.int (idxFrom cs x 0))])
  refine GoKit.goto G d19_20 (by decide) (pc' := 36) rfl ?_
  refine GoKit.retInt G d19_36 rfl (by decide) (by decide) ?_
  exact ⟨rfl, rfl⟩
theorem d18_0 : decode jdk_42_method_79_code 0 = .ok (.aload_n 0, 1) := by decide +kernel
theorem d18_1 : decode jdk_42_method_79_code 1 = .ok (.iload_n 1, 1) := by decide +kernel
theorem d18_2 : decode jdk_42_method_79_code 2 = .ok (.iconst 0, 1) := by decide +kernel
theorem d18_3 : decode jdk_42_method_79_code 3 = .ok (.invokevirtual 633, 3) := by decide +kernel
theorem d18_6 : decode jdk_42_method_79_code 6 = .ok (.ireturn, 1) := by decide +kernel
abbrev rm_con_idxL : Room := { frames := 3, cells := 0, slots := 0, locals := 46 }
set_option maxRecDepth 65536 in
set_option maxHeartbeats 40000000 in
theorem con_idxL (l : Launch) {Z : State} {a0 : Array Value} (hw : ∀ d ∈ tables_1, d.before a0 Z = true) {n0 : Nat} {h0 : Heap} {a : Addr} {cs : List Int32} (x : Int32) (S : Lat Z h0 a cs) (HC : Cst Z) :
    Con l Z true false ELs n0 (⟨"java/lang/String", "indexOf", "(I)I"⟩ : MethodName) jdk_42_method_79_code 2 (some .int) rm_con_idxL [] #[(.ref a), (.int x)] h0 [] (fun v h => v = some (.int (idxFrom cs x 0)) ∧ h = h0) := by
  refine Con.intro (plainFor_of_name pn_java_lang_String) (hELs hw) ?_
  intro p e s m below meth c hh G
  refine castRun (g' := mkF m 0 #[.val (.ref a), .val (.int x)] []) (by first | rfl | (simp [entryFrame, mkF, argsToLocals, Value.category, maxLocals]; done)) ?_
  refine GoKit.aloadN G d18_0 rfl rfl (pc' := 1) rfl ?_
  refine GoKit.iloadN G d18_1 rfl (pc' := 2) rfl ?_
  refine GoKit.iconst G (0 : Int32) d18_2 rfl (pc' := 3) rfl ?_
  refine GoKit.callVirtualP G d18_3 (wi hw 89 rfl) (wi hw 90 rfl) (wi hw 92 rfl) (wi hw 91 rfl) (wi hw 8 rfl) (wi hw 93 rfl) (by decide) S.1 (W := 0) (argsL := [(.int x), (.int (0 : Int32))]) (rest := []) (con_idx2L l hw x S HC) rfl (lenOf pd_15 rfl) rfl (by decide) (Nat.le_of_eq rfl) (by decide) (by decide) (by decide) (cells' := 0) (slots' := 0) rfl rfl (pc' := 6) rfl ?_
  show Run _ _ _ _ _ _ _ _ _ _ _ _ _ _ _ _ _ _ _ _ _ (mkF m 6 #[.val (.ref a), .val (.int x)] [(.int (idxFrom cs x 0))])
  refine GoKit.retInt G d18_6 rfl (by decide) (by decide) ?_
  exact ⟨rfl, rfl⟩
theorem cases5 {v : Int32} (h : 0 ≤ v.toInt ∧ v.toInt < 5) : v = 0 ∨ v = 1 ∨ v = 2 ∨ v = 3 ∨ v = 4 := by
  have h2 : v.toInt = 0 ∨ v.toInt = 1 ∨ v.toInt = 2 ∨ v.toInt = 3 ∨ v.toInt = 4 := by omega
  rcases h2 with h2 | h2 | h2 | h2 | h2
  · exact Or.inl (Int32.toInt_inj.mp h2)
  · exact Or.inr (Or.inl (Int32.toInt_inj.mp h2))
  · exact Or.inr (Or.inr (Or.inl (Int32.toInt_inj.mp h2)))
  · exact Or.inr (Or.inr (Or.inr (Or.inl (Int32.toInt_inj.mp h2))))
  · exact Or.inr (Or.inr (Or.inr (Or.inr (Int32.toInt_inj.mp h2))))
def litL : List Int32 := [(33 : Int32), (35 : Int32), (36 : Int32), (37 : Int32), (38 : Int32), (39 : Int32), (42 : Int32), (43 : Int32), (45 : Int32), (46 : Int32), (94 : Int32), (95 : Int32), (96 : Int32), (124 : Int32), (126 : Int32)]
def tch (c : Int32) : Prop := (97 ≤ c.toInt ∧ c.toInt ≤ 122) ∨ (65 ≤ c.toInt ∧ c.toInt ≤ 90) ∨ (48 ≤ c.toInt ∧ c.toInt ≤ 57) ∨ (c.toInt = 33 ∨ c.toInt = 35 ∨ c.toInt = 36 ∨ c.toInt = 37 ∨ c.toInt = 38 ∨ c.toInt = 39 ∨ c.toInt = 42 ∨ c.toInt = 43 ∨ c.toInt = 45 ∨ c.toInt = 46 ∨ c.toInt = 94 ∨ c.toInt = 95 ∨ c.toInt = 96 ∨ c.toInt = 124 ∨ c.toInt = 126)
instance (c : Int32) : Decidable (tch c) := by unfold tch; exact inferInstance
def T (cs : List Int32) : Prop := cs ≠ [] ∧ ∀ c ∈ cs, tch c
instance (cs : List Int32) : Decidable (T cs) := by unfold T; exact inferInstance
theorem lit_tch {x : Int32} (h : x ∈ litL) : tch x := by
  simp only [litL, List.mem_cons, List.not_mem_nil, or_false] at h
  unfold tch
  rcases h with rfl | rfl | rfl | rfl | rfl | rfl | rfl | rfl | rfl | rfl | rfl | rfl | rfl | rfl | rfl <;> decide
theorem lit_no {x : Int32} (h : x ∉ litL) : x.toInt ≠ 33 ∧ x.toInt ≠ 35 ∧ x.toInt ≠ 36 ∧ x.toInt ≠ 37 ∧ x.toInt ≠ 38 ∧ x.toInt ≠ 39 ∧ x.toInt ≠ 42 ∧ x.toInt ≠ 43 ∧ x.toInt ≠ 45 ∧ x.toInt ≠ 46 ∧ x.toInt ≠ 94 ∧ x.toInt ≠ 95 ∧ x.toInt ≠ 96 ∧ x.toInt ≠ 124 ∧ x.toInt ≠ 126 := by
  simp only [litL, List.mem_cons, List.not_mem_nil, or_false, not_or, ← Int32.toInt_inj, show (33 : Int32).toInt = 33 from rfl, show (35 : Int32).toInt = 35 from rfl, show (36 : Int32).toInt = 36 from rfl, show (37 : Int32).toInt = 37 from rfl, show (38 : Int32).toInt = 38 from rfl, show (39 : Int32).toInt = 39 from rfl, show (42 : Int32).toInt = 42 from rfl, show (43 : Int32).toInt = 43 from rfl, show (45 : Int32).toInt = 45 from rfl, show (46 : Int32).toInt = 46 from rfl, show (94 : Int32).toInt = 94 from rfl, show (95 : Int32).toInt = 95 from rfl, show (96 : Int32).toInt = 96 from rfl, show (124 : Int32).toInt = 124 from rfl, show (126 : Int32).toInt = 126 from rfl] at h
  omega
theorem lit_sm : 0 + litL.length < 2 ^ 31 := by decide
theorem drop_step {cs : List Int32} {k : Nat} {ch : Int32} (h : cs[k]? = some ch) (ht : tch ch) : (∀ c ∈ cs.drop k, tch c) ↔ (∀ c ∈ cs.drop (k + 1), tch c) := by
  obtain ⟨hi, rfl⟩ := List.getElem?_eq_some_iff.mp h
  rw [List.drop_eq_getElem_cons hi]
  exact ⟨fun q c hc => q c (List.Mem.tail _ hc), fun q c hc => by
    rcases List.mem_cons.mp hc with rfl | hc
    · exact ht
    · exact q c hc⟩
theorem mem_drop {cs : List Int32} {k : Nat} {ch : Int32} (h : cs[k]? = some ch) : ch ∈ cs.drop k := by
  obtain ⟨hi, rfl⟩ := List.getElem?_eq_some_iff.mp h
  rw [List.drop_eq_getElem_cons hi]; exact List.Mem.head _
theorem d1_0 : decode method_3_code 0 = .ok (.iload_n 0, 1) := by decide +kernel
theorem d1_1 : decode method_3_code 1 = .ok (.ifCond .ne 14, 3) := by decide +kernel
theorem d1_4 : decode method_3_code 4 = .ok (.new 25, 3) := by decide +kernel
theorem d1_7 : decode method_3_code 7 = .ok (.dup, 1) := by decide +kernel
theorem d1_8 : decode method_3_code 8 = .ok (.iconst 0, 1) := by decide +kernel
theorem d1_9 : decode method_3_code 9 = .ok (.newarray .char, 2) := by decide +kernel
theorem d1_11 : decode method_3_code 11 = .ok (.invokespecial 27, 3) := by decide +kernel
theorem pd_18 : parseMethodDescriptor "([C)V" = some ⟨[(.array .char)], none⟩ := by decide +kernel
theorem d1_14 : decode method_3_code 14 = .ok (.areturn, 1) := by decide +kernel
theorem pn_com_example_bowline_internal_AsciiIsTokenPinLaw : plainName "com/example/bowline/internal/AsciiIsTokenPinLaw" = true := by first | (simp [plainName, overriddenIn]; done) | decide +kernel
abbrev rm_con_make0 : Room := { frames := 3, cells := 6, slots := 12, locals := 43 }
set_option maxRecDepth 65536 in
set_option maxHeartbeats 40000000 in
theorem con_make0 (l : Launch) {Z : State} {a0 : Array Value} (hw : ∀ d ∈ tables_1, d.before a0 Z = true) {n0 : Nat} {h0 : Heap} {x0 : Int32} (H0 : 0 ≤ x0.toInt ∧ x0.toInt < 65536) {x1 : Int32} (H1 : 0 ≤ x1.toInt ∧ x1.toInt < 65536) {x2 : Int32} (H2 : 0 ≤ x2.toInt ∧ x2.toInt < 65536) {x3 : Int32} (H3 : 0 ≤ x3.toInt ∧ x3.toInt < 65536) (HC : Cst Z) (HU : Ust Z) :
    Con l Z true false ELs n0 (⟨"com/example/bowline/internal/AsciiIsTokenPinLaw", "make", "(ICCCC)Ljava/lang/String;"⟩ : MethodName) method_3_code 5 (some (.object "java/lang/String")) rm_con_make0 [] #[(.int (0 : Int32)), (.int x0), (.int x1), (.int x2), (.int x3)] h0 [] (fun v h => ∃ a, v = some (.ref a) ∧ Lat Z h a []) := by
  refine Con.intro (plainFor_of_name pn_com_example_bowline_internal_AsciiIsTokenPinLaw) (hELs hw) ?_
  intro p e s m below meth c hh G
  refine castRun (g' := mkF m 0 #[.val (.int (0 : Int32)), .val (.int x0), .val (.int x1), .val (.int x2), .val (.int x3)] []) (by first | rfl | (simp [entryFrame, mkF, argsToLocals, Value.category, maxLocals]; done)) ?_
  refine GoKit.iloadN G d1_0 rfl (pc' := 1) rfl ?_
  refine GoKit.if_ne_f G d1_1 (by decide) (pc' := 4) rfl ?_
  refine GoKit.newobj G d1_4 (wi hw 6 rfl) (wi hw 7 rfl) (wi hw 8 rfl) (by decide) (by decide) (cells' := 1) (slots' := 4) rfl rfl (pc' := 7) rfl (fun h5 a1 ga1 E2 X3 D4 => ?_)
  have F6 : Fld Z h5 a1 "java/lang/String" "value" "[B" .null := D4 (Or.inr (wi hw 22 rfl)) (ty := (.array .byte)) (by decide)
  have F7 : Fld Z h5 a1 "java/lang/String" "coder" "B" (.int 0) := D4 (Or.inr (wi hw 23 rfl)) (ty := .byte) (by decide)
  refine GoKit.dup G d1_7 rfl (pc' := 8) rfl ?_
  refine GoKit.iconst G (0 : Int32) d1_8 rfl (pc' := 9) rfl ?_
  refine GoKit.newcI G d1_9 (wi hw 9 rfl) (by decide) (k := 0) (cap := 0) rfl (Nat.le_refl _) (by decide) (by decide) (by decide) (cells' := 2) (slots' := 4) rfl rfl (pc' := 11) rfl (fun h11 a8 ga8 E9 A10 => ?_)
  refine GoKit.callSpecial G d1_11 rfl (wi hw 10 rfl) (wi hw 11 rfl) (wi hw 8 rfl) (wi hw 12 rfl) (by decide) (owc := [a1]) (W := 1) (argsL := [(.ref a8)]) (rest := [(.ref a1)]) (con_strInitE l hw (X3.ext E9) (F6.ext E9) (F7.ext E9) A10) rfl (lenOf pd_18 rfl) rfl (by decide) (Nat.le_of_eq rfl) (by decide) (by decide) (by decide) (by intro x hx; simp only [List.mem_cons, List.not_mem_nil, or_false] at hx ⊢; simp [hx]) (cells' := 6) (slots' := 12) rfl rfl (pc' := 14) rfl (fun r12 h15 q13 K14 => ?_)
  obtain ⟨rfl, S16⟩ := q13
  show Run _ _ _ _ _ _ _ _ _ _ _ _ _ _ _ _ _ _ _ _ _ (mkF m 14 #[.val (.int (0 : Int32)), .val (.int x0), .val (.int x1), .val (.int x2), .val (.int x3)] [(.ref a1)])
  refine GoKit.retRef G rfl d1_14 rfl rfl rfl (by decide) (by decide) ?_
  exact ⟨_, rfl, S16⟩
theorem d1_15 : decode method_3_code 15 = .ok (.iload_n 0, 1) := by decide +kernel
theorem d1_16 : decode method_3_code 16 = .ok (.iconst 1, 1) := by decide +kernel
theorem d1_17 : decode method_3_code 17 = .ok (.if_icmp .ne 18, 3) := by decide +kernel
theorem d1_20 : decode method_3_code 20 = .ok (.new 25, 3) := by decide +kernel
theorem d1_23 : decode method_3_code 23 = .ok (.dup, 1) := by decide +kernel
theorem d1_24 : decode method_3_code 24 = .ok (.iconst 1, 1) := by decide +kernel
theorem d1_25 : decode method_3_code 25 = .ok (.newarray .char, 2) := by decide +kernel
theorem d1_27 : decode method_3_code 27 = .ok (.dup, 1) := by decide +kernel
theorem d1_28 : decode method_3_code 28 = .ok (.iconst 0, 1) := by decide +kernel
theorem d1_29 : decode method_3_code 29 = .ok (.iload_n 1, 1) := by decide +kernel
theorem d1_30 : decode method_3_code 30 = .ok (.castore, 1) := by decide +kernel
theorem d1_31 : decode method_3_code 31 = .ok (.invokespecial 27, 3) := by decide +kernel
theorem d1_34 : decode method_3_code 34 = .ok (.areturn, 1) := by decide +kernel
abbrev rm_con_make1 : Room := { frames := 6, cells := 4, slots := 17, locals := 88 }
set_option maxRecDepth 65536 in
set_option maxHeartbeats 40000000 in
theorem con_make1 (l : Launch) {Z : State} {a0 : Array Value} (hw : ∀ d ∈ tables_1, d.before a0 Z = true) {n0 : Nat} {h0 : Heap} {x0 : Int32} (H0 : 0 ≤ x0.toInt ∧ x0.toInt < 65536) {x1 : Int32} (H1 : 0 ≤ x1.toInt ∧ x1.toInt < 65536) {x2 : Int32} (H2 : 0 ≤ x2.toInt ∧ x2.toInt < 65536) {x3 : Int32} (H3 : 0 ≤ x3.toInt ∧ x3.toInt < 65536) (HC : Cst Z) (HU : Ust Z) :
    Con l Z true false ELs n0 (⟨"com/example/bowline/internal/AsciiIsTokenPinLaw", "make", "(ICCCC)Ljava/lang/String;"⟩ : MethodName) method_3_code 5 (some (.object "java/lang/String")) rm_con_make1 [] #[(.int (1 : Int32)), (.int x0), (.int x1), (.int x2), (.int x3)] h0 [] (fun v h => ∃ a, v = some (.ref a) ∧ Str Z h a [x0]) := by
  refine Con.intro (plainFor_of_name pn_com_example_bowline_internal_AsciiIsTokenPinLaw) (hELs hw) ?_
  intro p e s m below meth c hh G
  refine castRun (g' := mkF m 0 #[.val (.int (1 : Int32)), .val (.int x0), .val (.int x1), .val (.int x2), .val (.int x3)] []) (by first | rfl | (simp [entryFrame, mkF, argsToLocals, Value.category, maxLocals]; done)) ?_
  refine GoKit.iloadN G d1_0 rfl (pc' := 1) rfl ?_
  refine GoKit.if_ne_t G d1_1 (by decide) (by decide) (pc' := 15) rfl ?_
  refine GoKit.iloadN G d1_15 rfl (pc' := 16) rfl ?_
  refine GoKit.iconst G (1 : Int32) d1_16 rfl (pc' := 17) rfl ?_
  refine GoKit.icmp_ne_f G d1_17 (by decide) (pc' := 20) rfl ?_
  refine GoKit.newobj G d1_20 (wi hw 6 rfl) (wi hw 7 rfl) (wi hw 8 rfl) (by decide) (by decide) (cells' := 1) (slots' := 4) rfl rfl (pc' := 23) rfl (fun h5 a1 ga1 E2 X3 D4 => ?_)
  have F6 : Fld Z h5 a1 "java/lang/String" "value" "[B" .null := D4 (Or.inr (wi hw 22 rfl)) (ty := (.array .byte)) (by decide)
  have F7 : Fld Z h5 a1 "java/lang/String" "coder" "B" (.int 0) := D4 (Or.inr (wi hw 23 rfl)) (ty := .byte) (by decide)
  refine GoKit.dup G d1_23 rfl (pc' := 24) rfl ?_
  refine GoKit.iconst G (1 : Int32) d1_24 rfl (pc' := 25) rfl ?_
  refine GoKit.newcI G d1_25 (wi hw 9 rfl) (by decide) (k := 1) (cap := 1) rfl (Nat.le_refl _) (by decide) (by decide) (by decide) (cells' := 2) (slots' := 5) rfl rfl (pc' := 27) rfl (fun h11 a8 ga8 E9 A10 => ?_)
  refine GoKit.dup G d1_27 rfl (pc' := 28) rfl ?_
  refine GoKit.iconst G (0 : Int32) d1_28 rfl (pc' := 29) rfl ?_
  refine GoKit.iloadN G d1_29 rfl (pc' := 30) rfl ?_
  refine GoKit.castI G d1_30 A10 (i := 0) rfl (by decide) (Nat.le_of_ble_eq_true rfl) (nar16 H0) (List.Mem.head _) (pc' := 31) rfl (fun h14 W12 A13 => ?_)
  change IA Z h14 a8 .char [x0] at A13
  have ha15 : ∀ c ∈ ([x0] : List Int32), 0 ≤ c.toInt ∧ c.toInt < 65536 := by
    intro c hc
    simp only [List.mem_cons, List.not_mem_nil, or_false] at hc
    rcases hc with hc
    · rw [hc]; exact H0
  refine GoKit.callSpecial G d1_31 rfl (wi hw 10 rfl) (wi hw 11 rfl) (wi hw 8 rfl) (wi hw 12 rfl) (by decide) (owc := [a1]) (W := 1) (argsL := [(.ref a8)]) (rest := [(.ref a1)]) (con_strInitS l hw ((X3.ext E9).wr W12) ((F6.ext E9).other W12 (Or.inl (Nat.ne_of_lt (Nat.lt_of_lt_of_le (X3).lt (Nat.le_of_eq ga8.symm))))) ((F7.ext E9).other W12 (Or.inl (Nat.ne_of_lt (Nat.lt_of_lt_of_le (X3).lt (Nat.le_of_eq ga8.symm))))) A13 (Nat.le_of_ble_eq_true rfl) ha15 (by simp) HC HU) rfl (lenOf pd_18 rfl) rfl (by decide) (Nat.le_of_eq rfl) (by decide) (by decide) (by decide) (by intro x hx; simp only [List.mem_cons, List.not_mem_nil, or_false] at hx ⊢; simp [hx]) (cells' := 4) (slots' := 17) rfl rfl (pc' := 34) rfl (fun r16 h19 q17 K18 => ?_)
  obtain ⟨rfl, S20⟩ := q17
  show Run _ _ _ _ _ _ _ _ _ _ _ _ _ _ _ _ _ _ _ _ _ (mkF m 34 #[.val (.int (1 : Int32)), .val (.int x0), .val (.int x1), .val (.int x2), .val (.int x3)] [(.ref a1)])
  refine GoKit.retRef G rfl d1_34 rfl rfl rfl (by decide) (by decide) ?_
  exact ⟨_, rfl, S20⟩
theorem d1_35 : decode method_3_code 35 = .ok (.iload_n 0, 1) := by decide +kernel
theorem d1_36 : decode method_3_code 36 = .ok (.iconst 2, 1) := by decide +kernel
theorem d1_37 : decode method_3_code 37 = .ok (.if_icmp .ne 22, 3) := by decide +kernel
theorem d1_40 : decode method_3_code 40 = .ok (.new 25, 3) := by decide +kernel
theorem d1_43 : decode method_3_code 43 = .ok (.dup, 1) := by decide +kernel
theorem d1_44 : decode method_3_code 44 = .ok (.iconst 2, 1) := by decide +kernel
theorem d1_45 : decode method_3_code 45 = .ok (.newarray .char, 2) := by decide +kernel
theorem d1_47 : decode method_3_code 47 = .ok (.dup, 1) := by decide +kernel
theorem d1_48 : decode method_3_code 48 = .ok (.iconst 0, 1) := by decide +kernel
theorem d1_49 : decode method_3_code 49 = .ok (.iload_n 1, 1) := by decide +kernel
theorem d1_50 : decode method_3_code 50 = .ok (.castore, 1) := by decide +kernel
theorem d1_51 : decode method_3_code 51 = .ok (.dup, 1) := by decide +kernel
theorem d1_52 : decode method_3_code 52 = .ok (.iconst 1, 1) := by decide +kernel
theorem d1_53 : decode method_3_code 53 = .ok (.iload_n 2, 1) := by decide +kernel
theorem d1_54 : decode method_3_code 54 = .ok (.castore, 1) := by decide +kernel
theorem d1_55 : decode method_3_code 55 = .ok (.invokespecial 27, 3) := by decide +kernel
theorem d1_58 : decode method_3_code 58 = .ok (.areturn, 1) := by decide +kernel
abbrev rm_con_make2 : Room := { frames := 6, cells := 4, slots := 18, locals := 88 }
set_option maxRecDepth 65536 in
set_option maxHeartbeats 40000000 in
theorem con_make2 (l : Launch) {Z : State} {a0 : Array Value} (hw : ∀ d ∈ tables_1, d.before a0 Z = true) {n0 : Nat} {h0 : Heap} {x0 : Int32} (H0 : 0 ≤ x0.toInt ∧ x0.toInt < 65536) {x1 : Int32} (H1 : 0 ≤ x1.toInt ∧ x1.toInt < 65536) {x2 : Int32} (H2 : 0 ≤ x2.toInt ∧ x2.toInt < 65536) {x3 : Int32} (H3 : 0 ≤ x3.toInt ∧ x3.toInt < 65536) (HC : Cst Z) (HU : Ust Z) :
    Con l Z true false ELs n0 (⟨"com/example/bowline/internal/AsciiIsTokenPinLaw", "make", "(ICCCC)Ljava/lang/String;"⟩ : MethodName) method_3_code 5 (some (.object "java/lang/String")) rm_con_make2 [] #[(.int (2 : Int32)), (.int x0), (.int x1), (.int x2), (.int x3)] h0 [] (fun v h => ∃ a, v = some (.ref a) ∧ Str Z h a [x0, x1]) := by
  refine Con.intro (plainFor_of_name pn_com_example_bowline_internal_AsciiIsTokenPinLaw) (hELs hw) ?_
  intro p e s m below meth c hh G
  refine castRun (g' := mkF m 0 #[.val (.int (2 : Int32)), .val (.int x0), .val (.int x1), .val (.int x2), .val (.int x3)] []) (by first | rfl | (simp [entryFrame, mkF, argsToLocals, Value.category, maxLocals]; done)) ?_
  refine GoKit.iloadN G d1_0 rfl (pc' := 1) rfl ?_
  refine GoKit.if_ne_t G d1_1 (by decide) (by decide) (pc' := 15) rfl ?_
  refine GoKit.iloadN G d1_15 rfl (pc' := 16) rfl ?_
  refine GoKit.iconst G (1 : Int32) d1_16 rfl (pc' := 17) rfl ?_
  refine GoKit.icmp_ne_t G d1_17 (by decide) (by decide) (pc' := 35) rfl ?_
  refine GoKit.iloadN G d1_35 rfl (pc' := 36) rfl ?_
  refine GoKit.iconst G (2 : Int32) d1_36 rfl (pc' := 37) rfl ?_
  refine GoKit.icmp_ne_f G d1_37 (by decide) (pc' := 40) rfl ?_
  refine GoKit.newobj G d1_40 (wi hw 6 rfl) (wi hw 7 rfl) (wi hw 8 rfl) (by decide) (by decide) (cells' := 1) (slots' := 4) rfl rfl (pc' := 43) rfl (fun h5 a1 ga1 E2 X3 D4 => ?_)
  have F6 : Fld Z h5 a1 "java/lang/String" "value" "[B" .null := D4 (Or.inr (wi hw 22 rfl)) (ty := (.array .byte)) (by decide)
  have F7 : Fld Z h5 a1 "java/lang/String" "coder" "B" (.int 0) := D4 (Or.inr (wi hw 23 rfl)) (ty := .byte) (by decide)
  refine GoKit.dup G d1_43 rfl (pc' := 44) rfl ?_
  refine GoKit.iconst G (2 : Int32) d1_44 rfl (pc' := 45) rfl ?_
  refine GoKit.newcI G d1_45 (wi hw 9 rfl) (by decide) (k := 2) (cap := 2) rfl (Nat.le_refl _) (by decide) (by decide) (by decide) (cells' := 2) (slots' := 6) rfl rfl (pc' := 47) rfl (fun h11 a8 ga8 E9 A10 => ?_)
  refine GoKit.dup G d1_47 rfl (pc' := 48) rfl ?_
  refine GoKit.iconst G (0 : Int32) d1_48 rfl (pc' := 49) rfl ?_
  refine GoKit.iloadN G d1_49 rfl (pc' := 50) rfl ?_
  refine GoKit.castI G d1_50 A10 (i := 0) rfl (by decide) (Nat.le_of_ble_eq_true rfl) (nar16 H0) (List.Mem.head _) (pc' := 51) rfl (fun h14 W12 A13 => ?_)
  change IA Z h14 a8 .char [x0, 0] at A13
  refine GoKit.dup G d1_51 rfl (pc' := 52) rfl ?_
  refine GoKit.iconst G (1 : Int32) d1_52 rfl (pc' := 53) rfl ?_
  refine GoKit.iloadN G d1_53 rfl (pc' := 54) rfl ?_
  refine GoKit.castI G d1_54 A13 (i := 1) rfl (by decide) (Nat.le_of_ble_eq_true rfl) (nar16 H1) (List.Mem.head _) (pc' := 55) rfl (fun h17 W15 A16 => ?_)
  change IA Z h17 a8 .char [x0, x1] at A16
  have ha18 : ∀ c ∈ ([x0, x1] : List Int32), 0 ≤ c.toInt ∧ c.toInt < 65536 := by
    intro c hc
    simp only [List.mem_cons, List.not_mem_nil, or_false] at hc
    rcases hc with hc | hc
    · rw [hc]; exact H0
    · rw [hc]; exact H1
  refine GoKit.callSpecial G d1_55 rfl (wi hw 10 rfl) (wi hw 11 rfl) (wi hw 8 rfl) (wi hw 12 rfl) (by decide) (owc := [a1]) (W := 1) (argsL := [(.ref a8)]) (rest := [(.ref a1)]) (con_strInitS l hw (((X3.ext E9).wr W12).wr W15) (((F6.ext E9).other W12 (Or.inl (Nat.ne_of_lt (Nat.lt_of_lt_of_le (X3).lt (Nat.le_of_eq ga8.symm))))).other W15 (Or.inl (Nat.ne_of_lt (Nat.lt_of_lt_of_le (X3).lt (Nat.le_of_eq ga8.symm))))) (((F7.ext E9).other W12 (Or.inl (Nat.ne_of_lt (Nat.lt_of_lt_of_le (X3).lt (Nat.le_of_eq ga8.symm))))).other W15 (Or.inl (Nat.ne_of_lt (Nat.lt_of_lt_of_le (X3).lt (Nat.le_of_eq ga8.symm))))) A16 (Nat.le_of_ble_eq_true rfl) ha18 (by simp) HC HU) rfl (lenOf pd_18 rfl) rfl (by decide) (Nat.le_of_eq rfl) (by decide) (by decide) (by decide) (by intro x hx; simp only [List.mem_cons, List.not_mem_nil, or_false] at hx ⊢; simp [hx]) (cells' := 4) (slots' := 18) rfl rfl (pc' := 58) rfl (fun r19 h22 q20 K21 => ?_)
  obtain ⟨rfl, S23⟩ := q20
  show Run _ _ _ _ _ _ _ _ _ _ _ _ _ _ _ _ _ _ _ _ _ (mkF m 58 #[.val (.int (2 : Int32)), .val (.int x0), .val (.int x1), .val (.int x2), .val (.int x3)] [(.ref a1)])
  refine GoKit.retRef G rfl d1_58 rfl rfl rfl (by decide) (by decide) ?_
  exact ⟨_, rfl, S23⟩
theorem d1_59 : decode method_3_code 59 = .ok (.iload_n 0, 1) := by decide +kernel
theorem d1_60 : decode method_3_code 60 = .ok (.iconst 3, 1) := by decide +kernel
theorem d1_61 : decode method_3_code 61 = .ok (.if_icmp .ne 26, 3) := by decide +kernel
theorem d1_64 : decode method_3_code 64 = .ok (.new 25, 3) := by decide +kernel
theorem d1_67 : decode method_3_code 67 = .ok (.dup, 1) := by decide +kernel
theorem d1_68 : decode method_3_code 68 = .ok (.iconst 3, 1) := by decide +kernel
theorem d1_69 : decode method_3_code 69 = .ok (.newarray .char, 2) := by decide +kernel
theorem d1_71 : decode method_3_code 71 = .ok (.dup, 1) := by decide +kernel
theorem d1_72 : decode method_3_code 72 = .ok (.iconst 0, 1) := by decide +kernel
theorem d1_73 : decode method_3_code 73 = .ok (.iload_n 1, 1) := by decide +kernel
theorem d1_74 : decode method_3_code 74 = .ok (.castore, 1) := by decide +kernel
theorem d1_75 : decode method_3_code 75 = .ok (.dup, 1) := by decide +kernel
theorem d1_76 : decode method_3_code 76 = .ok (.iconst 1, 1) := by decide +kernel
theorem d1_77 : decode method_3_code 77 = .ok (.iload_n 2, 1) := by decide +kernel
theorem d1_78 : decode method_3_code 78 = .ok (.castore, 1) := by decide +kernel
theorem d1_79 : decode method_3_code 79 = .ok (.dup, 1) := by decide +kernel
theorem d1_80 : decode method_3_code 80 = .ok (.iconst 2, 1) := by decide +kernel
theorem d1_81 : decode method_3_code 81 = .ok (.iload_n 3, 1) := by decide +kernel
theorem d1_82 : decode method_3_code 82 = .ok (.castore, 1) := by decide +kernel
theorem d1_83 : decode method_3_code 83 = .ok (.invokespecial 27, 3) := by decide +kernel
theorem d1_86 : decode method_3_code 86 = .ok (.areturn, 1) := by decide +kernel
abbrev rm_con_make3 : Room := { frames := 6, cells := 4, slots := 19, locals := 88 }
set_option maxRecDepth 65536 in
set_option maxHeartbeats 40000000 in
theorem con_make3 (l : Launch) {Z : State} {a0 : Array Value} (hw : ∀ d ∈ tables_1, d.before a0 Z = true) {n0 : Nat} {h0 : Heap} {x0 : Int32} (H0 : 0 ≤ x0.toInt ∧ x0.toInt < 65536) {x1 : Int32} (H1 : 0 ≤ x1.toInt ∧ x1.toInt < 65536) {x2 : Int32} (H2 : 0 ≤ x2.toInt ∧ x2.toInt < 65536) {x3 : Int32} (H3 : 0 ≤ x3.toInt ∧ x3.toInt < 65536) (HC : Cst Z) (HU : Ust Z) :
    Con l Z true false ELs n0 (⟨"com/example/bowline/internal/AsciiIsTokenPinLaw", "make", "(ICCCC)Ljava/lang/String;"⟩ : MethodName) method_3_code 5 (some (.object "java/lang/String")) rm_con_make3 [] #[(.int (3 : Int32)), (.int x0), (.int x1), (.int x2), (.int x3)] h0 [] (fun v h => ∃ a, v = some (.ref a) ∧ Str Z h a [x0, x1, x2]) := by
  refine Con.intro (plainFor_of_name pn_com_example_bowline_internal_AsciiIsTokenPinLaw) (hELs hw) ?_
  intro p e s m below meth c hh G
  refine castRun (g' := mkF m 0 #[.val (.int (3 : Int32)), .val (.int x0), .val (.int x1), .val (.int x2), .val (.int x3)] []) (by first | rfl | (simp [entryFrame, mkF, argsToLocals, Value.category, maxLocals]; done)) ?_
  refine GoKit.iloadN G d1_0 rfl (pc' := 1) rfl ?_
  refine GoKit.if_ne_t G d1_1 (by decide) (by decide) (pc' := 15) rfl ?_
  refine GoKit.iloadN G d1_15 rfl (pc' := 16) rfl ?_
  refine GoKit.iconst G (1 : Int32) d1_16 rfl (pc' := 17) rfl ?_
  refine GoKit.icmp_ne_t G d1_17 (by decide) (by decide) (pc' := 35) rfl ?_
  refine GoKit.iloadN G d1_35 rfl (pc' := 36) rfl ?_
  refine GoKit.iconst G (2 : Int32) d1_36 rfl (pc' := 37) rfl ?_
  refine GoKit.icmp_ne_t G d1_37 (by decide) (by decide) (pc' := 59) rfl ?_
  refine GoKit.iloadN G d1_59 rfl (pc' := 60) rfl ?_
  refine GoKit.iconst G (3 : Int32) d1_60 rfl (pc' := 61) rfl ?_
  refine GoKit.icmp_ne_f G d1_61 (by decide) (pc' := 64) rfl ?_
  refine GoKit.newobj G d1_64 (wi hw 6 rfl) (wi hw 7 rfl) (wi hw 8 rfl) (by decide) (by decide) (cells' := 1) (slots' := 4) rfl rfl (pc' := 67) rfl (fun h5 a1 ga1 E2 X3 D4 => ?_)
  have F6 : Fld Z h5 a1 "java/lang/String" "value" "[B" .null := D4 (Or.inr (wi hw 22 rfl)) (ty := (.array .byte)) (by decide)
  have F7 : Fld Z h5 a1 "java/lang/String" "coder" "B" (.int 0) := D4 (Or.inr (wi hw 23 rfl)) (ty := .byte) (by decide)
  refine GoKit.dup G d1_67 rfl (pc' := 68) rfl ?_
  refine GoKit.iconst G (3 : Int32) d1_68 rfl (pc' := 69) rfl ?_
  refine GoKit.newcI G d1_69 (wi hw 9 rfl) (by decide) (k := 3) (cap := 3) rfl (Nat.le_refl _) (by decide) (by decide) (by decide) (cells' := 2) (slots' := 7) rfl rfl (pc' := 71) rfl (fun h11 a8 ga8 E9 A10 => ?_)
  refine GoKit.dup G d1_71 rfl (pc' := 72) rfl ?_
  refine GoKit.iconst G (0 : Int32) d1_72 rfl (pc' := 73) rfl ?_
  refine GoKit.iloadN G d1_73 rfl (pc' := 74) rfl ?_
  refine GoKit.castI G d1_74 A10 (i := 0) rfl (by decide) (Nat.le_of_ble_eq_true rfl) (nar16 H0) (List.Mem.head _) (pc' := 75) rfl (fun h14 W12 A13 => ?_)
  change IA Z h14 a8 .char [x0, 0, 0] at A13
  refine GoKit.dup G d1_75 rfl (pc' := 76) rfl ?_
  refine GoKit.iconst G (1 : Int32) d1_76 rfl (pc' := 77) rfl ?_
  refine GoKit.iloadN G d1_77 rfl (pc' := 78) rfl ?_
  refine GoKit.castI G d1_78 A13 (i := 1) rfl (by decide) (Nat.le_of_ble_eq_true rfl) (nar16 H1) (List.Mem.head _) (pc' := 79) rfl (fun h17 W15 A16 => ?_)
  change IA Z h17 a8 .char [x0, x1, 0] at A16
  refine GoKit.dup G d1_79 rfl (pc' := 80) rfl ?_
  refine GoKit.iconst G (2 : Int32) d1_80 rfl (pc' := 81) rfl ?_
  refine GoKit.iloadN G d1_81 rfl (pc' := 82) rfl ?_
  refine GoKit.castI G d1_82 A16 (i := 2) rfl (by decide) (Nat.le_of_ble_eq_true rfl) (nar16 H2) (List.Mem.head _) (pc' := 83) rfl (fun h20 W18 A19 => ?_)
  change IA Z h20 a8 .char [x0, x1, x2] at A19
  have ha21 : ∀ c ∈ ([x0, x1, x2] : List Int32), 0 ≤ c.toInt ∧ c.toInt < 65536 := by
    intro c hc
    simp only [List.mem_cons, List.not_mem_nil, or_false] at hc
    rcases hc with hc | hc | hc
    · rw [hc]; exact H0
    · rw [hc]; exact H1
    · rw [hc]; exact H2
  refine GoKit.callSpecial G d1_83 rfl (wi hw 10 rfl) (wi hw 11 rfl) (wi hw 8 rfl) (wi hw 12 rfl) (by decide) (owc := [a1]) (W := 1) (argsL := [(.ref a8)]) (rest := [(.ref a1)]) (con_strInitS l hw ((((X3.ext E9).wr W12).wr W15).wr W18) ((((F6.ext E9).other W12 (Or.inl (Nat.ne_of_lt (Nat.lt_of_lt_of_le (X3).lt (Nat.le_of_eq ga8.symm))))).other W15 (Or.inl (Nat.ne_of_lt (Nat.lt_of_lt_of_le (X3).lt (Nat.le_of_eq ga8.symm))))).other W18 (Or.inl (Nat.ne_of_lt (Nat.lt_of_lt_of_le (X3).lt (Nat.le_of_eq ga8.symm))))) ((((F7.ext E9).other W12 (Or.inl (Nat.ne_of_lt (Nat.lt_of_lt_of_le (X3).lt (Nat.le_of_eq ga8.symm))))).other W15 (Or.inl (Nat.ne_of_lt (Nat.lt_of_lt_of_le (X3).lt (Nat.le_of_eq ga8.symm))))).other W18 (Or.inl (Nat.ne_of_lt (Nat.lt_of_lt_of_le (X3).lt (Nat.le_of_eq ga8.symm))))) A19 (Nat.le_of_ble_eq_true rfl) ha21 (by simp) HC HU) rfl (lenOf pd_18 rfl) rfl (by decide) (Nat.le_of_eq rfl) (by decide) (by decide) (by decide) (by intro x hx; simp only [List.mem_cons, List.not_mem_nil, or_false] at hx ⊢; simp [hx]) (cells' := 4) (slots' := 19) rfl rfl (pc' := 86) rfl (fun r22 h25 q23 K24 => ?_)
  obtain ⟨rfl, S26⟩ := q23
  show Run _ _ _ _ _ _ _ _ _ _ _ _ _ _ _ _ _ _ _ _ _ (mkF m 86 #[.val (.int (3 : Int32)), .val (.int x0), .val (.int x1), .val (.int x2), .val (.int x3)] [(.ref a1)])
  refine GoKit.retRef G rfl d1_86 rfl rfl rfl (by decide) (by decide) ?_
  exact ⟨_, rfl, S26⟩
theorem d1_87 : decode method_3_code 87 = .ok (.new 25, 3) := by decide +kernel
theorem d1_90 : decode method_3_code 90 = .ok (.dup, 1) := by decide +kernel
theorem d1_91 : decode method_3_code 91 = .ok (.iconst 4, 1) := by decide +kernel
theorem d1_92 : decode method_3_code 92 = .ok (.newarray .char, 2) := by decide +kernel
theorem d1_94 : decode method_3_code 94 = .ok (.dup, 1) := by decide +kernel
theorem d1_95 : decode method_3_code 95 = .ok (.iconst 0, 1) := by decide +kernel
theorem d1_96 : decode method_3_code 96 = .ok (.iload_n 1, 1) := by decide +kernel
theorem d1_97 : decode method_3_code 97 = .ok (.castore, 1) := by decide +kernel
theorem d1_98 : decode method_3_code 98 = .ok (.dup, 1) := by decide +kernel
theorem d1_99 : decode method_3_code 99 = .ok (.iconst 1, 1) := by decide +kernel
theorem d1_100 : decode method_3_code 100 = .ok (.iload_n 2, 1) := by decide +kernel
theorem d1_101 : decode method_3_code 101 = .ok (.castore, 1) := by decide +kernel
theorem d1_102 : decode method_3_code 102 = .ok (.dup, 1) := by decide +kernel
theorem d1_103 : decode method_3_code 103 = .ok (.iconst 2, 1) := by decide +kernel
theorem d1_104 : decode method_3_code 104 = .ok (.iload_n 3, 1) := by decide +kernel
theorem d1_105 : decode method_3_code 105 = .ok (.castore, 1) := by decide +kernel
theorem d1_106 : decode method_3_code 106 = .ok (.dup, 1) := by decide +kernel
theorem d1_107 : decode method_3_code 107 = .ok (.iconst 3, 1) := by decide +kernel
theorem d1_108 : decode method_3_code 108 = .ok (.iload 4, 2) := by decide +kernel
theorem d1_110 : decode method_3_code 110 = .ok (.castore, 1) := by decide +kernel
theorem d1_111 : decode method_3_code 111 = .ok (.invokespecial 27, 3) := by decide +kernel
theorem d1_114 : decode method_3_code 114 = .ok (.areturn, 1) := by decide +kernel
abbrev rm_con_make4 : Room := { frames := 6, cells := 4, slots := 20, locals := 88 }
set_option maxRecDepth 65536 in
set_option maxHeartbeats 40000000 in
theorem con_make4 (l : Launch) {Z : State} {a0 : Array Value} (hw : ∀ d ∈ tables_1, d.before a0 Z = true) {n0 : Nat} {h0 : Heap} {x0 : Int32} (H0 : 0 ≤ x0.toInt ∧ x0.toInt < 65536) {x1 : Int32} (H1 : 0 ≤ x1.toInt ∧ x1.toInt < 65536) {x2 : Int32} (H2 : 0 ≤ x2.toInt ∧ x2.toInt < 65536) {x3 : Int32} (H3 : 0 ≤ x3.toInt ∧ x3.toInt < 65536) (HC : Cst Z) (HU : Ust Z) :
    Con l Z true false ELs n0 (⟨"com/example/bowline/internal/AsciiIsTokenPinLaw", "make", "(ICCCC)Ljava/lang/String;"⟩ : MethodName) method_3_code 5 (some (.object "java/lang/String")) rm_con_make4 [] #[(.int (4 : Int32)), (.int x0), (.int x1), (.int x2), (.int x3)] h0 [] (fun v h => ∃ a, v = some (.ref a) ∧ Str Z h a [x0, x1, x2, x3]) := by
  refine Con.intro (plainFor_of_name pn_com_example_bowline_internal_AsciiIsTokenPinLaw) (hELs hw) ?_
  intro p e s m below meth c hh G
  refine castRun (g' := mkF m 0 #[.val (.int (4 : Int32)), .val (.int x0), .val (.int x1), .val (.int x2), .val (.int x3)] []) (by first | rfl | (simp [entryFrame, mkF, argsToLocals, Value.category, maxLocals]; done)) ?_
  refine GoKit.iloadN G d1_0 rfl (pc' := 1) rfl ?_
  refine GoKit.if_ne_t G d1_1 (by decide) (by decide) (pc' := 15) rfl ?_
  refine GoKit.iloadN G d1_15 rfl (pc' := 16) rfl ?_
  refine GoKit.iconst G (1 : Int32) d1_16 rfl (pc' := 17) rfl ?_
  refine GoKit.icmp_ne_t G d1_17 (by decide) (by decide) (pc' := 35) rfl ?_
  refine GoKit.iloadN G d1_35 rfl (pc' := 36) rfl ?_
  refine GoKit.iconst G (2 : Int32) d1_36 rfl (pc' := 37) rfl ?_
  refine GoKit.icmp_ne_t G d1_37 (by decide) (by decide) (pc' := 59) rfl ?_
  refine GoKit.iloadN G d1_59 rfl (pc' := 60) rfl ?_
  refine GoKit.iconst G (3 : Int32) d1_60 rfl (pc' := 61) rfl ?_
  refine GoKit.icmp_ne_t G d1_61 (by decide) (by decide) (pc' := 87) rfl ?_
  refine GoKit.newobj G d1_87 (wi hw 6 rfl) (wi hw 7 rfl) (wi hw 8 rfl) (by decide) (by decide) (cells' := 1) (slots' := 4) rfl rfl (pc' := 90) rfl (fun h5 a1 ga1 E2 X3 D4 => ?_)
  have F6 : Fld Z h5 a1 "java/lang/String" "value" "[B" .null := D4 (Or.inr (wi hw 22 rfl)) (ty := (.array .byte)) (by decide)
  have F7 : Fld Z h5 a1 "java/lang/String" "coder" "B" (.int 0) := D4 (Or.inr (wi hw 23 rfl)) (ty := .byte) (by decide)
  refine GoKit.dup G d1_90 rfl (pc' := 91) rfl ?_
  refine GoKit.iconst G (4 : Int32) d1_91 rfl (pc' := 92) rfl ?_
  refine GoKit.newcI G d1_92 (wi hw 9 rfl) (by decide) (k := 4) (cap := 4) rfl (Nat.le_refl _) (by decide) (by decide) (by decide) (cells' := 2) (slots' := 8) rfl rfl (pc' := 94) rfl (fun h11 a8 ga8 E9 A10 => ?_)
  refine GoKit.dup G d1_94 rfl (pc' := 95) rfl ?_
  refine GoKit.iconst G (0 : Int32) d1_95 rfl (pc' := 96) rfl ?_
  refine GoKit.iloadN G d1_96 rfl (pc' := 97) rfl ?_
  refine GoKit.castI G d1_97 A10 (i := 0) rfl (by decide) (Nat.le_of_ble_eq_true rfl) (nar16 H0) (List.Mem.head _) (pc' := 98) rfl (fun h14 W12 A13 => ?_)
  change IA Z h14 a8 .char [x0, 0, 0, 0] at A13
  refine GoKit.dup G d1_98 rfl (pc' := 99) rfl ?_
  refine GoKit.iconst G (1 : Int32) d1_99 rfl (pc' := 100) rfl ?_
  refine GoKit.iloadN G d1_100 rfl (pc' := 101) rfl ?_
  refine GoKit.castI G d1_101 A13 (i := 1) rfl (by decide) (Nat.le_of_ble_eq_true rfl) (nar16 H1) (List.Mem.head _) (pc' := 102) rfl (fun h17 W15 A16 => ?_)
  change IA Z h17 a8 .char [x0, x1, 0, 0] at A16
  refine GoKit.dup G d1_102 rfl (pc' := 103) rfl ?_
  refine GoKit.iconst G (2 : Int32) d1_103 rfl (pc' := 104) rfl ?_
  refine GoKit.iloadN G d1_104 rfl (pc' := 105) rfl ?_
  refine GoKit.castI G d1_105 A16 (i := 2) rfl (by decide) (Nat.le_of_ble_eq_true rfl) (nar16 H2) (List.Mem.head _) (pc' := 106) rfl (fun h20 W18 A19 => ?_)
  change IA Z h20 a8 .char [x0, x1, x2, 0] at A19
  refine GoKit.dup G d1_106 rfl (pc' := 107) rfl ?_
  refine GoKit.iconst G (3 : Int32) d1_107 rfl (pc' := 108) rfl ?_
  refine GoKit.iload G d1_108 rfl (pc' := 110) rfl ?_
  refine GoKit.castI G d1_110 A19 (i := 3) rfl (by decide) (Nat.le_of_ble_eq_true rfl) (nar16 H3) (List.Mem.head _) (pc' := 111) rfl (fun h23 W21 A22 => ?_)
  change IA Z h23 a8 .char [x0, x1, x2, x3] at A22
  have ha24 : ∀ c ∈ ([x0, x1, x2, x3] : List Int32), 0 ≤ c.toInt ∧ c.toInt < 65536 := by
    intro c hc
    simp only [List.mem_cons, List.not_mem_nil, or_false] at hc
    rcases hc with hc | hc | hc | hc
    · rw [hc]; exact H0
    · rw [hc]; exact H1
    · rw [hc]; exact H2
    · rw [hc]; exact H3
  refine GoKit.callSpecial G d1_111 rfl (wi hw 10 rfl) (wi hw 11 rfl) (wi hw 8 rfl) (wi hw 12 rfl) (by decide) (owc := [a1]) (W := 1) (argsL := [(.ref a8)]) (rest := [(.ref a1)]) (con_strInitS l hw (((((X3.ext E9).wr W12).wr W15).wr W18).wr W21) (((((F6.ext E9).other W12 (Or.inl (Nat.ne_of_lt (Nat.lt_of_lt_of_le (X3).lt (Nat.le_of_eq ga8.symm))))).other W15 (Or.inl (Nat.ne_of_lt (Nat.lt_of_lt_of_le (X3).lt (Nat.le_of_eq ga8.symm))))).other W18 (Or.inl (Nat.ne_of_lt (Nat.lt_of_lt_of_le (X3).lt (Nat.le_of_eq ga8.symm))))).other W21 (Or.inl (Nat.ne_of_lt (Nat.lt_of_lt_of_le (X3).lt (Nat.le_of_eq ga8.symm))))) (((((F7.ext E9).other W12 (Or.inl (Nat.ne_of_lt (Nat.lt_of_lt_of_le (X3).lt (Nat.le_of_eq ga8.symm))))).other W15 (Or.inl (Nat.ne_of_lt (Nat.lt_of_lt_of_le (X3).lt (Nat.le_of_eq ga8.symm))))).other W18 (Or.inl (Nat.ne_of_lt (Nat.lt_of_lt_of_le (X3).lt (Nat.le_of_eq ga8.symm))))).other W21 (Or.inl (Nat.ne_of_lt (Nat.lt_of_lt_of_le (X3).lt (Nat.le_of_eq ga8.symm))))) A22 (Nat.le_of_ble_eq_true rfl) ha24 (by simp) HC HU) rfl (lenOf pd_18 rfl) rfl (by decide) (Nat.le_of_eq rfl) (by decide) (by decide) (by decide) (by intro x hx; simp only [List.mem_cons, List.not_mem_nil, or_false] at hx ⊢; simp [hx]) (cells' := 4) (slots' := 20) rfl rfl (pc' := 114) rfl (fun r25 h28 q26 K27 => ?_)
  obtain ⟨rfl, S29⟩ := q26
  show Run _ _ _ _ _ _ _ _ _ _ _ _ _ _ _ _ _ _ _ _ _ (mkF m 114 #[.val (.int (4 : Int32)), .val (.int x0), .val (.int x1), .val (.int x2), .val (.int x3)] [(.ref a1)])
  refine GoKit.retRef G rfl d1_114 rfl rfl rfl (by decide) (by decide) ?_
  exact ⟨_, rfl, S29⟩
theorem d10_0 : decode method_4_code 0 = .ok (.iload_n 0, 1) := by decide +kernel
theorem d10_1 : decode method_4_code 1 = .ok (.bipush 97, 2) := by decide +kernel
theorem d10_3 : decode method_4_code 3 = .ok (.if_icmp .lt 11, 3) := by decide +kernel
theorem d10_14 : decode method_4_code 14 = .ok (.iload_n 0, 1) := by decide +kernel
theorem d10_15 : decode method_4_code 15 = .ok (.bipush 65, 2) := by decide +kernel
theorem d10_17 : decode method_4_code 17 = .ok (.if_icmp .lt 11, 3) := by decide +kernel
theorem d10_28 : decode method_4_code 28 = .ok (.iload_n 0, 1) := by decide +kernel
theorem d10_29 : decode method_4_code 29 = .ok (.bipush 48, 2) := by decide +kernel
theorem d10_31 : decode method_4_code 31 = .ok (.if_icmp .lt 11, 3) := by decide +kernel
theorem d10_42 : decode method_4_code 42 = .ok (.iload_n 0, 1) := by decide +kernel
theorem d10_43 : decode method_4_code 43 = .ok (.bipush 33, 2) := by decide +kernel
theorem d10_45 : decode method_4_code 45 = .ok (.if_icmp .eq 87, 3) := by decide +kernel
theorem d10_132 : decode method_4_code 132 = .ok (.iconst 1, 1) := by decide +kernel
theorem d10_133 : decode method_4_code 133 = .ok (.goto 4, 3) := by decide +kernel
theorem d10_137 : decode method_4_code 137 = .ok (.ireturn, 1) := by decide +kernel
theorem d10_48 : decode method_4_code 48 = .ok (.iload_n 0, 1) := by decide +kernel
theorem d10_49 : decode method_4_code 49 = .ok (.bipush 35, 2) := by decide +kernel
theorem d10_51 : decode method_4_code 51 = .ok (.if_icmp .eq 81, 3) := by decide +kernel
theorem d10_54 : decode method_4_code 54 = .ok (.iload_n 0, 1) := by decide +kernel
theorem d10_55 : decode method_4_code 55 = .ok (.bipush 36, 2) := by decide +kernel
theorem d10_57 : decode method_4_code 57 = .ok (.if_icmp .eq 75, 3) := by decide +kernel
theorem d10_60 : decode method_4_code 60 = .ok (.iload_n 0, 1) := by decide +kernel
theorem d10_61 : decode method_4_code 61 = .ok (.bipush 37, 2) := by decide +kernel
theorem d10_63 : decode method_4_code 63 = .ok (.if_icmp .eq 69, 3) := by decide +kernel
theorem d10_66 : decode method_4_code 66 = .ok (.iload_n 0, 1) := by decide +kernel
theorem d10_67 : decode method_4_code 67 = .ok (.bipush 38, 2) := by decide +kernel
theorem d10_69 : decode method_4_code 69 = .ok (.if_icmp .eq 63, 3) := by decide +kernel
theorem d10_72 : decode method_4_code 72 = .ok (.iload_n 0, 1) := by decide +kernel
theorem d10_73 : decode method_4_code 73 = .ok (.bipush 39, 2) := by decide +kernel
theorem d10_75 : decode method_4_code 75 = .ok (.if_icmp .eq 57, 3) := by decide +kernel
theorem d10_78 : decode method_4_code 78 = .ok (.iload_n 0, 1) := by decide +kernel
theorem d10_79 : decode method_4_code 79 = .ok (.bipush 42, 2) := by decide +kernel
theorem d10_81 : decode method_4_code 81 = .ok (.if_icmp .eq 51, 3) := by decide +kernel
theorem d10_84 : decode method_4_code 84 = .ok (.iload_n 0, 1) := by decide +kernel
theorem d10_85 : decode method_4_code 85 = .ok (.bipush 43, 2) := by decide +kernel
theorem d10_87 : decode method_4_code 87 = .ok (.if_icmp .eq 45, 3) := by decide +kernel
theorem d10_90 : decode method_4_code 90 = .ok (.iload_n 0, 1) := by decide +kernel
theorem d10_91 : decode method_4_code 91 = .ok (.bipush 45, 2) := by decide +kernel
theorem d10_93 : decode method_4_code 93 = .ok (.if_icmp .eq 39, 3) := by decide +kernel
theorem d10_96 : decode method_4_code 96 = .ok (.iload_n 0, 1) := by decide +kernel
theorem d10_97 : decode method_4_code 97 = .ok (.bipush 46, 2) := by decide +kernel
theorem d10_99 : decode method_4_code 99 = .ok (.if_icmp .eq 33, 3) := by decide +kernel
theorem d10_102 : decode method_4_code 102 = .ok (.iload_n 0, 1) := by decide +kernel
theorem d10_103 : decode method_4_code 103 = .ok (.bipush 94, 2) := by decide +kernel
theorem d10_105 : decode method_4_code 105 = .ok (.if_icmp .eq 27, 3) := by decide +kernel
theorem d10_108 : decode method_4_code 108 = .ok (.iload_n 0, 1) := by decide +kernel
theorem d10_109 : decode method_4_code 109 = .ok (.bipush 95, 2) := by decide +kernel
theorem d10_111 : decode method_4_code 111 = .ok (.if_icmp .eq 21, 3) := by decide +kernel
theorem d10_114 : decode method_4_code 114 = .ok (.iload_n 0, 1) := by decide +kernel
theorem d10_115 : decode method_4_code 115 = .ok (.bipush 96, 2) := by decide +kernel
theorem d10_117 : decode method_4_code 117 = .ok (.if_icmp .eq 15, 3) := by decide +kernel
theorem d10_120 : decode method_4_code 120 = .ok (.iload_n 0, 1) := by decide +kernel
theorem d10_121 : decode method_4_code 121 = .ok (.bipush 124, 2) := by decide +kernel
theorem d10_123 : decode method_4_code 123 = .ok (.if_icmp .eq 9, 3) := by decide +kernel
theorem d10_126 : decode method_4_code 126 = .ok (.iload_n 0, 1) := by decide +kernel
theorem d10_127 : decode method_4_code 127 = .ok (.bipush 126, 2) := by decide +kernel
theorem d10_129 : decode method_4_code 129 = .ok (.if_icmp .ne 7, 3) := by decide +kernel
theorem d10_136 : decode method_4_code 136 = .ok (.iconst 0, 1) := by decide +kernel
theorem d10_34 : decode method_4_code 34 = .ok (.iload_n 0, 1) := by decide +kernel
theorem d10_35 : decode method_4_code 35 = .ok (.bipush 57, 2) := by decide +kernel
theorem d10_37 : decode method_4_code 37 = .ok (.if_icmp .gt 5, 3) := by decide +kernel
theorem d10_40 : decode method_4_code 40 = .ok (.iconst 1, 1) := by decide +kernel
theorem d10_41 : decode method_4_code 41 = .ok (.ireturn, 1) := by decide +kernel
theorem d10_20 : decode method_4_code 20 = .ok (.iload_n 0, 1) := by decide +kernel
theorem d10_21 : decode method_4_code 21 = .ok (.bipush 90, 2) := by decide +kernel
theorem d10_23 : decode method_4_code 23 = .ok (.if_icmp .gt 5, 3) := by decide +kernel
theorem d10_26 : decode method_4_code 26 = .ok (.iconst 1, 1) := by decide +kernel
theorem d10_27 : decode method_4_code 27 = .ok (.ireturn, 1) := by decide +kernel
theorem d10_6 : decode method_4_code 6 = .ok (.iload_n 0, 1) := by decide +kernel
theorem d10_7 : decode method_4_code 7 = .ok (.bipush 122, 2) := by decide +kernel
theorem d10_9 : decode method_4_code 9 = .ok (.if_icmp .gt 5, 3) := by decide +kernel
theorem d10_12 : decode method_4_code 12 = .ok (.iconst 1, 1) := by decide +kernel
theorem d10_13 : decode method_4_code 13 = .ok (.ireturn, 1) := by decide +kernel
abbrev rm_con_tchar : Room := { frames := 0, cells := 0, slots := 0, locals := 0 }
set_option maxRecDepth 65536 in
set_option maxHeartbeats 40000000 in
theorem con_tchar (l : Launch) {Z : State} {a0 : Array Value} (hw : ∀ d ∈ tables_1, d.before a0 Z = true) {n0 : Nat} {h0 : Heap} (x : Int32) :
    Con l Z true false ELs n0 (⟨"com/example/bowline/internal/AsciiIsTokenPinLaw", "tchar", "(C)Z"⟩ : MethodName) method_4_code 1 (some .boolean) rm_con_tchar [] #[(.int x)] h0 [] (fun v h => v = some (.int (if tch x then 1 else 0)) ∧ h = h0) := by
  refine Con.intro (plainFor_of_name pn_com_example_bowline_internal_AsciiIsTokenPinLaw) (hELs hw) ?_
  intro p e s m below meth c hh G
  refine castRun (g' := mkF m 0 #[.val (.int x)] []) (by first | rfl | (simp [entryFrame, mkF, argsToLocals, Value.category, maxLocals]; done)) ?_
  refine GoKit.iloadN G d10_0 rfl (pc' := 1) rfl ?_
  refine GoKit.bipush G (97 : Int32) d10_1 rfl (pc' := 3) rfl ?_
  refine GoKit.icmp_lt G d10_3 (by decide) (pt := 14) (pf := 6) rfl rfl (fun hb1 => ?_) (fun hb1 => ?_)
  · refine GoKit.iloadN G d10_14 rfl (pc' := 15) rfl ?_
    refine GoKit.bipush G (65 : Int32) d10_15 rfl (pc' := 17) rfl ?_
    refine GoKit.icmp_lt G d10_17 (by decide) (pt := 28) (pf := 20) rfl rfl (fun hb2 => ?_) (fun hb2 => ?_)
    · refine GoKit.iloadN G d10_28 rfl (pc' := 29) rfl ?_
      refine GoKit.bipush G (48 : Int32) d10_29 rfl (pc' := 31) rfl ?_
      refine GoKit.icmp_lt G d10_31 (by decide) (pt := 42) (pf := 34) rfl rfl (fun hb3 => ?_) (fun hb3 => ?_)
      · refine GoKit.iloadN G d10_42 rfl (pc' := 43) rfl ?_
        refine GoKit.bipush G (33 : Int32) d10_43 rfl (pc' := 45) rfl ?_
        refine GoKit.icmp_eq G d10_45 (by decide) (pt := 132) (pf := 48) rfl rfl (fun hb4 => ?_) (fun hb4 => ?_)
        · refine GoKit.iconst G (1 : Int32) d10_132 rfl (pc' := 133) rfl ?_
          refine GoKit.goto G d10_133 (by decide) (pc' := 137) rfl ?_
          refine GoKit.retNar G d10_137 (t := .boolean) rfl (by simp) (by decide) (by decide) ?_
          exact ⟨by rw [if_pos (by unfold tch; simp only [gt_iff_lt, ge_iff_le, ne_eq, Int32.lt_iff_toInt_lt, Int32.le_iff_toInt_le, ← Int32.toInt_inj, show (33 : Int32).toInt = 33 from rfl, show (35 : Int32).toInt = 35 from rfl, show (36 : Int32).toInt = 36 from rfl, show (37 : Int32).toInt = 37 from rfl, show (38 : Int32).toInt = 38 from rfl, show (39 : Int32).toInt = 39 from rfl, show (42 : Int32).toInt = 42 from rfl, show (43 : Int32).toInt = 43 from rfl, show (45 : Int32).toInt = 45 from rfl, show (46 : Int32).toInt = 46 from rfl, show (48 : Int32).toInt = 48 from rfl, show (57 : Int32).toInt = 57 from rfl, show (65 : Int32).toInt = 65 from rfl, show (90 : Int32).toInt = 90 from rfl, show (94 : Int32).toInt = 94 from rfl, show (95 : Int32).toInt = 95 from rfl, show (96 : Int32).toInt = 96 from rfl, show (97 : Int32).toInt = 97 from rfl, show (122 : Int32).toInt = 122 from rfl, show (124 : Int32).toInt = 124 from rfl, show (126 : Int32).toInt = 126 from rfl] at hb1 hb2 hb3 hb4; omega)]; rfl, rfl⟩
        · refine GoKit.iloadN G d10_48 rfl (pc' := 49) rfl ?_
          refine GoKit.bipush G (35 : Int32) d10_49 rfl (pc' := 51) rfl ?_
          refine GoKit.icmp_eq G d10_51 (by decide) (pt := 132) (pf := 54) rfl rfl (fun hb5 => ?_) (fun hb5 => ?_)
          · refine GoKit.iconst G (1 : Int32) d10_132 rfl (pc' := 133) rfl ?_
            refine GoKit.goto G d10_133 (by decide) (pc' := 137) rfl ?_
            refine GoKit.retNar G d10_137 (t := .boolean) rfl (by simp) (by decide) (by decide) ?_
            exact ⟨by rw [if_pos (by unfold tch; simp only [gt_iff_lt, ge_iff_le, ne_eq, Int32.lt_iff_toInt_lt, Int32.le_iff_toInt_le, ← Int32.toInt_inj, show (33 : Int32).toInt = 33 from rfl, show (35 : Int32).toInt = 35 from rfl, show (36 : Int32).toInt = 36 from rfl, show (37 : Int32).toInt = 37 from rfl, show (38 : Int32).toInt = 38 from rfl, show (39 : Int32).toInt = 39 from rfl, show (42 : Int32).toInt = 42 from rfl, show (43 : Int32).toInt = 43 from rfl, show (45 : Int32).toInt = 45 from rfl, show (46 : Int32).toInt = 46 from rfl, show (48 : Int32).toInt = 48 from rfl, show (57 : Int32).toInt = 57 from rfl, show (65 : Int32).toInt = 65 from rfl, show (90 : Int32).toInt = 90 from rfl, show (94 : Int32).toInt = 94 from rfl, show (95 : Int32).toInt = 95 from rfl, show (96 : Int32).toInt = 96 from rfl, show (97 : Int32).toInt = 97 from rfl, show (122 : Int32).toInt = 122 from rfl, show (124 : Int32).toInt = 124 from rfl, show (126 : Int32).toInt = 126 from rfl] at hb1 hb2 hb3 hb4 hb5; omega)]; rfl, rfl⟩
          · refine GoKit.iloadN G d10_54 rfl (pc' := 55) rfl ?_
            refine GoKit.bipush G (36 : Int32) d10_55 rfl (pc' := 57) rfl ?_
            refine GoKit.icmp_eq G d10_57 (by decide) (pt := 132) (pf := 60) rfl rfl (fun hb6 => ?_) (fun hb6 => ?_)
            · refine GoKit.iconst G (1 : Int32) d10_132 rfl (pc' := 133) rfl ?_
              refine GoKit.goto G d10_133 (by decide) (pc' := 137) rfl ?_
              refine GoKit.retNar G d10_137 (t := .boolean) rfl (by simp) (by decide) (by decide) ?_
              exact ⟨by rw [if_pos (by unfold tch; simp only [gt_iff_lt, ge_iff_le, ne_eq, Int32.lt_iff_toInt_lt, Int32.le_iff_toInt_le, ← Int32.toInt_inj, show (33 : Int32).toInt = 33 from rfl, show (35 : Int32).toInt = 35 from rfl, show (36 : Int32).toInt = 36 from rfl, show (37 : Int32).toInt = 37 from rfl, show (38 : Int32).toInt = 38 from rfl, show (39 : Int32).toInt = 39 from rfl, show (42 : Int32).toInt = 42 from rfl, show (43 : Int32).toInt = 43 from rfl, show (45 : Int32).toInt = 45 from rfl, show (46 : Int32).toInt = 46 from rfl, show (48 : Int32).toInt = 48 from rfl, show (57 : Int32).toInt = 57 from rfl, show (65 : Int32).toInt = 65 from rfl, show (90 : Int32).toInt = 90 from rfl, show (94 : Int32).toInt = 94 from rfl, show (95 : Int32).toInt = 95 from rfl, show (96 : Int32).toInt = 96 from rfl, show (97 : Int32).toInt = 97 from rfl, show (122 : Int32).toInt = 122 from rfl, show (124 : Int32).toInt = 124 from rfl, show (126 : Int32).toInt = 126 from rfl] at hb1 hb2 hb3 hb4 hb5 hb6; omega)]; rfl, rfl⟩
            · refine GoKit.iloadN G d10_60 rfl (pc' := 61) rfl ?_
              refine GoKit.bipush G (37 : Int32) d10_61 rfl (pc' := 63) rfl ?_
              refine GoKit.icmp_eq G d10_63 (by decide) (pt := 132) (pf := 66) rfl rfl (fun hb7 => ?_) (fun hb7 => ?_)
              · refine GoKit.iconst G (1 : Int32) d10_132 rfl (pc' := 133) rfl ?_
                refine GoKit.goto G d10_133 (by decide) (pc' := 137) rfl ?_
                refine GoKit.retNar G d10_137 (t := .boolean) rfl (by simp) (by decide) (by decide) ?_
                exact ⟨by rw [if_pos (by unfold tch; simp only [gt_iff_lt, ge_iff_le, ne_eq, Int32.lt_iff_toInt_lt, Int32.le_iff_toInt_le, ← Int32.toInt_inj, show (33 : Int32).toInt = 33 from rfl, show (35 : Int32).toInt = 35 from rfl, show (36 : Int32).toInt = 36 from rfl, show (37 : Int32).toInt = 37 from rfl, show (38 : Int32).toInt = 38 from rfl, show (39 : Int32).toInt = 39 from rfl, show (42 : Int32).toInt = 42 from rfl, show (43 : Int32).toInt = 43 from rfl, show (45 : Int32).toInt = 45 from rfl, show (46 : Int32).toInt = 46 from rfl, show (48 : Int32).toInt = 48 from rfl, show (57 : Int32).toInt = 57 from rfl, show (65 : Int32).toInt = 65 from rfl, show (90 : Int32).toInt = 90 from rfl, show (94 : Int32).toInt = 94 from rfl, show (95 : Int32).toInt = 95 from rfl, show (96 : Int32).toInt = 96 from rfl, show (97 : Int32).toInt = 97 from rfl, show (122 : Int32).toInt = 122 from rfl, show (124 : Int32).toInt = 124 from rfl, show (126 : Int32).toInt = 126 from rfl] at hb1 hb2 hb3 hb4 hb5 hb6 hb7; omega)]; rfl, rfl⟩
              · refine GoKit.iloadN G d10_66 rfl (pc' := 67) rfl ?_
                refine GoKit.bipush G (38 : Int32) d10_67 rfl (pc' := 69) rfl ?_
                refine GoKit.icmp_eq G d10_69 (by decide) (pt := 132) (pf := 72) rfl rfl (fun hb8 => ?_) (fun hb8 => ?_)
                · refine GoKit.iconst G (1 : Int32) d10_132 rfl (pc' := 133) rfl ?_
                  refine GoKit.goto G d10_133 (by decide) (pc' := 137) rfl ?_
                  refine GoKit.retNar G d10_137 (t := .boolean) rfl (by simp) (by decide) (by decide) ?_
                  exact ⟨by rw [if_pos (by unfold tch; simp only [gt_iff_lt, ge_iff_le, ne_eq, Int32.lt_iff_toInt_lt, Int32.le_iff_toInt_le, ← Int32.toInt_inj, show (33 : Int32).toInt = 33 from rfl, show (35 : Int32).toInt = 35 from rfl, show (36 : Int32).toInt = 36 from rfl, show (37 : Int32).toInt = 37 from rfl, show (38 : Int32).toInt = 38 from rfl, show (39 : Int32).toInt = 39 from rfl, show (42 : Int32).toInt = 42 from rfl, show (43 : Int32).toInt = 43 from rfl, show (45 : Int32).toInt = 45 from rfl, show (46 : Int32).toInt = 46 from rfl, show (48 : Int32).toInt = 48 from rfl, show (57 : Int32).toInt = 57 from rfl, show (65 : Int32).toInt = 65 from rfl, show (90 : Int32).toInt = 90 from rfl, show (94 : Int32).toInt = 94 from rfl, show (95 : Int32).toInt = 95 from rfl, show (96 : Int32).toInt = 96 from rfl, show (97 : Int32).toInt = 97 from rfl, show (122 : Int32).toInt = 122 from rfl, show (124 : Int32).toInt = 124 from rfl, show (126 : Int32).toInt = 126 from rfl] at hb1 hb2 hb3 hb4 hb5 hb6 hb7 hb8; omega)]; rfl, rfl⟩
                · refine GoKit.iloadN G d10_72 rfl (pc' := 73) rfl ?_
                  refine GoKit.bipush G (39 : Int32) d10_73 rfl (pc' := 75) rfl ?_
                  refine GoKit.icmp_eq G d10_75 (by decide) (pt := 132) (pf := 78) rfl rfl (fun hb9 => ?_) (fun hb9 => ?_)
                  · refine GoKit.iconst G (1 : Int32) d10_132 rfl (pc' := 133) rfl ?_
                    refine GoKit.goto G d10_133 (by decide) (pc' := 137) rfl ?_
                    refine GoKit.retNar G d10_137 (t := .boolean) rfl (by simp) (by decide) (by decide) ?_
                    exact ⟨by rw [if_pos (by unfold tch; simp only [gt_iff_lt, ge_iff_le, ne_eq, Int32.lt_iff_toInt_lt, Int32.le_iff_toInt_le, ← Int32.toInt_inj, show (33 : Int32).toInt = 33 from rfl, show (35 : Int32).toInt = 35 from rfl, show (36 : Int32).toInt = 36 from rfl, show (37 : Int32).toInt = 37 from rfl, show (38 : Int32).toInt = 38 from rfl, show (39 : Int32).toInt = 39 from rfl, show (42 : Int32).toInt = 42 from rfl, show (43 : Int32).toInt = 43 from rfl, show (45 : Int32).toInt = 45 from rfl, show (46 : Int32).toInt = 46 from rfl, show (48 : Int32).toInt = 48 from rfl, show (57 : Int32).toInt = 57 from rfl, show (65 : Int32).toInt = 65 from rfl, show (90 : Int32).toInt = 90 from rfl, show (94 : Int32).toInt = 94 from rfl, show (95 : Int32).toInt = 95 from rfl, show (96 : Int32).toInt = 96 from rfl, show (97 : Int32).toInt = 97 from rfl, show (122 : Int32).toInt = 122 from rfl, show (124 : Int32).toInt = 124 from rfl, show (126 : Int32).toInt = 126 from rfl] at hb1 hb2 hb3 hb4 hb5 hb6 hb7 hb8 hb9; omega)]; rfl, rfl⟩
                  · refine GoKit.iloadN G d10_78 rfl (pc' := 79) rfl ?_
                    refine GoKit.bipush G (42 : Int32) d10_79 rfl (pc' := 81) rfl ?_
                    refine GoKit.icmp_eq G d10_81 (by decide) (pt := 132) (pf := 84) rfl rfl (fun hb10 => ?_) (fun hb10 => ?_)
                    · refine GoKit.iconst G (1 : Int32) d10_132 rfl (pc' := 133) rfl ?_
                      refine GoKit.goto G d10_133 (by decide) (pc' := 137) rfl ?_
                      refine GoKit.retNar G d10_137 (t := .boolean) rfl (by simp) (by decide) (by decide) ?_
                      exact ⟨by rw [if_pos (by unfold tch; simp only [gt_iff_lt, ge_iff_le, ne_eq, Int32.lt_iff_toInt_lt, Int32.le_iff_toInt_le, ← Int32.toInt_inj, show (33 : Int32).toInt = 33 from rfl, show (35 : Int32).toInt = 35 from rfl, show (36 : Int32).toInt = 36 from rfl, show (37 : Int32).toInt = 37 from rfl, show (38 : Int32).toInt = 38 from rfl, show (39 : Int32).toInt = 39 from rfl, show (42 : Int32).toInt = 42 from rfl, show (43 : Int32).toInt = 43 from rfl, show (45 : Int32).toInt = 45 from rfl, show (46 : Int32).toInt = 46 from rfl, show (48 : Int32).toInt = 48 from rfl, show (57 : Int32).toInt = 57 from rfl, show (65 : Int32).toInt = 65 from rfl, show (90 : Int32).toInt = 90 from rfl, show (94 : Int32).toInt = 94 from rfl, show (95 : Int32).toInt = 95 from rfl, show (96 : Int32).toInt = 96 from rfl, show (97 : Int32).toInt = 97 from rfl, show (122 : Int32).toInt = 122 from rfl, show (124 : Int32).toInt = 124 from rfl, show (126 : Int32).toInt = 126 from rfl] at hb1 hb2 hb3 hb4 hb5 hb6 hb7 hb8 hb9 hb10; omega)]; rfl, rfl⟩
                    · refine GoKit.iloadN G d10_84 rfl (pc' := 85) rfl ?_
                      refine GoKit.bipush G (43 : Int32) d10_85 rfl (pc' := 87) rfl ?_
                      refine GoKit.icmp_eq G d10_87 (by decide) (pt := 132) (pf := 90) rfl rfl (fun hb11 => ?_) (fun hb11 => ?_)
                      · refine GoKit.iconst G (1 : Int32) d10_132 rfl (pc' := 133) rfl ?_
                        refine GoKit.goto G d10_133 (by decide) (pc' := 137) rfl ?_
                        refine GoKit.retNar G d10_137 (t := .boolean) rfl (by simp) (by decide) (by decide) ?_
                        exact ⟨by rw [if_pos (by unfold tch; simp only [gt_iff_lt, ge_iff_le, ne_eq, Int32.lt_iff_toInt_lt, Int32.le_iff_toInt_le, ← Int32.toInt_inj, show (33 : Int32).toInt = 33 from rfl, show (35 : Int32).toInt = 35 from rfl, show (36 : Int32).toInt = 36 from rfl, show (37 : Int32).toInt = 37 from rfl, show (38 : Int32).toInt = 38 from rfl, show (39 : Int32).toInt = 39 from rfl, show (42 : Int32).toInt = 42 from rfl, show (43 : Int32).toInt = 43 from rfl, show (45 : Int32).toInt = 45 from rfl, show (46 : Int32).toInt = 46 from rfl, show (48 : Int32).toInt = 48 from rfl, show (57 : Int32).toInt = 57 from rfl, show (65 : Int32).toInt = 65 from rfl, show (90 : Int32).toInt = 90 from rfl, show (94 : Int32).toInt = 94 from rfl, show (95 : Int32).toInt = 95 from rfl, show (96 : Int32).toInt = 96 from rfl, show (97 : Int32).toInt = 97 from rfl, show (122 : Int32).toInt = 122 from rfl, show (124 : Int32).toInt = 124 from rfl, show (126 : Int32).toInt = 126 from rfl] at hb1 hb2 hb3 hb4 hb5 hb6 hb7 hb8 hb9 hb10 hb11; omega)]; rfl, rfl⟩
                      · refine GoKit.iloadN G d10_90 rfl (pc' := 91) rfl ?_
                        refine GoKit.bipush G (45 : Int32) d10_91 rfl (pc' := 93) rfl ?_
                        refine GoKit.icmp_eq G d10_93 (by decide) (pt := 132) (pf := 96) rfl rfl (fun hb12 => ?_) (fun hb12 => ?_)
                        · refine GoKit.iconst G (1 : Int32) d10_132 rfl (pc' := 133) rfl ?_
                          refine GoKit.goto G d10_133 (by decide) (pc' := 137) rfl ?_
                          refine GoKit.retNar G d10_137 (t := .boolean) rfl (by simp) (by decide) (by decide) ?_
                          exact ⟨by rw [if_pos (by unfold tch; simp only [gt_iff_lt, ge_iff_le, ne_eq, Int32.lt_iff_toInt_lt, Int32.le_iff_toInt_le, ← Int32.toInt_inj, show (33 : Int32).toInt = 33 from rfl, show (35 : Int32).toInt = 35 from rfl, show (36 : Int32).toInt = 36 from rfl, show (37 : Int32).toInt = 37 from rfl, show (38 : Int32).toInt = 38 from rfl, show (39 : Int32).toInt = 39 from rfl, show (42 : Int32).toInt = 42 from rfl, show (43 : Int32).toInt = 43 from rfl, show (45 : Int32).toInt = 45 from rfl, show (46 : Int32).toInt = 46 from rfl, show (48 : Int32).toInt = 48 from rfl, show (57 : Int32).toInt = 57 from rfl, show (65 : Int32).toInt = 65 from rfl, show (90 : Int32).toInt = 90 from rfl, show (94 : Int32).toInt = 94 from rfl, show (95 : Int32).toInt = 95 from rfl, show (96 : Int32).toInt = 96 from rfl, show (97 : Int32).toInt = 97 from rfl, show (122 : Int32).toInt = 122 from rfl, show (124 : Int32).toInt = 124 from rfl, show (126 : Int32).toInt = 126 from rfl] at hb1 hb2 hb3 hb4 hb5 hb6 hb7 hb8 hb9 hb10 hb11 hb12; omega)]; rfl, rfl⟩
                        · refine GoKit.iloadN G d10_96 rfl (pc' := 97) rfl ?_
                          refine GoKit.bipush G (46 : Int32) d10_97 rfl (pc' := 99) rfl ?_
                          refine GoKit.icmp_eq G d10_99 (by decide) (pt := 132) (pf := 102) rfl rfl (fun hb13 => ?_) (fun hb13 => ?_)
                          · refine GoKit.iconst G (1 : Int32) d10_132 rfl (pc' := 133) rfl ?_
                            refine GoKit.goto G d10_133 (by decide) (pc' := 137) rfl ?_
                            refine GoKit.retNar G d10_137 (t := .boolean) rfl (by simp) (by decide) (by decide) ?_
                            exact ⟨by rw [if_pos (by unfold tch; simp only [gt_iff_lt, ge_iff_le, ne_eq, Int32.lt_iff_toInt_lt, Int32.le_iff_toInt_le, ← Int32.toInt_inj, show (33 : Int32).toInt = 33 from rfl, show (35 : Int32).toInt = 35 from rfl, show (36 : Int32).toInt = 36 from rfl, show (37 : Int32).toInt = 37 from rfl, show (38 : Int32).toInt = 38 from rfl, show (39 : Int32).toInt = 39 from rfl, show (42 : Int32).toInt = 42 from rfl, show (43 : Int32).toInt = 43 from rfl, show (45 : Int32).toInt = 45 from rfl, show (46 : Int32).toInt = 46 from rfl, show (48 : Int32).toInt = 48 from rfl, show (57 : Int32).toInt = 57 from rfl, show (65 : Int32).toInt = 65 from rfl, show (90 : Int32).toInt = 90 from rfl, show (94 : Int32).toInt = 94 from rfl, show (95 : Int32).toInt = 95 from rfl, show (96 : Int32).toInt = 96 from rfl, show (97 : Int32).toInt = 97 from rfl, show (122 : Int32).toInt = 122 from rfl, show (124 : Int32).toInt = 124 from rfl, show (126 : Int32).toInt = 126 from rfl] at hb1 hb2 hb3 hb4 hb5 hb6 hb7 hb8 hb9 hb10 hb11 hb12 hb13; omega)]; rfl, rfl⟩
                          · refine GoKit.iloadN G d10_102 rfl (pc' := 103) rfl ?_
                            refine GoKit.bipush G (94 : Int32) d10_103 rfl (pc' := 105) rfl ?_
                            refine GoKit.icmp_eq G d10_105 (by decide) (pt := 132) (pf := 108) rfl rfl (fun hb14 => ?_) (fun hb14 => ?_)
                            · refine GoKit.iconst G (1 : Int32) d10_132 rfl (pc' := 133) rfl ?_
                              refine GoKit.goto G d10_133 (by decide) (pc' := 137) rfl ?_
                              refine GoKit.retNar G d10_137 (t := .boolean) rfl (by simp) (by decide) (by decide) ?_
                              exact ⟨by rw [if_pos (by unfold tch; simp only [gt_iff_lt, ge_iff_le, ne_eq, Int32.lt_iff_toInt_lt, Int32.le_iff_toInt_le, ← Int32.toInt_inj, show (33 : Int32).toInt = 33 from rfl, show (35 : Int32).toInt = 35 from rfl, show (36 : Int32).toInt = 36 from rfl, show (37 : Int32).toInt = 37 from rfl, show (38 : Int32).toInt = 38 from rfl, show (39 : Int32).toInt = 39 from rfl, show (42 : Int32).toInt = 42 from rfl, show (43 : Int32).toInt = 43 from rfl, show (45 : Int32).toInt = 45 from rfl, show (46 : Int32).toInt = 46 from rfl, show (48 : Int32).toInt = 48 from rfl, show (57 : Int32).toInt = 57 from rfl, show (65 : Int32).toInt = 65 from rfl, show (90 : Int32).toInt = 90 from rfl, show (94 : Int32).toInt = 94 from rfl, show (95 : Int32).toInt = 95 from rfl, show (96 : Int32).toInt = 96 from rfl, show (97 : Int32).toInt = 97 from rfl, show (122 : Int32).toInt = 122 from rfl, show (124 : Int32).toInt = 124 from rfl, show (126 : Int32).toInt = 126 from rfl] at hb1 hb2 hb3 hb4 hb5 hb6 hb7 hb8 hb9 hb10 hb11 hb12 hb13 hb14; omega)]; rfl, rfl⟩
                            · refine GoKit.iloadN G d10_108 rfl (pc' := 109) rfl ?_
                              refine GoKit.bipush G (95 : Int32) d10_109 rfl (pc' := 111) rfl ?_
                              refine GoKit.icmp_eq G d10_111 (by decide) (pt := 132) (pf := 114) rfl rfl (fun hb15 => ?_) (fun hb15 => ?_)
                              · refine GoKit.iconst G (1 : Int32) d10_132 rfl (pc' := 133) rfl ?_
                                refine GoKit.goto G d10_133 (by decide) (pc' := 137) rfl ?_
                                refine GoKit.retNar G d10_137 (t := .boolean) rfl (by simp) (by decide) (by decide) ?_
                                exact ⟨by rw [if_pos (by unfold tch; simp only [gt_iff_lt, ge_iff_le, ne_eq, Int32.lt_iff_toInt_lt, Int32.le_iff_toInt_le, ← Int32.toInt_inj, show (33 : Int32).toInt = 33 from rfl, show (35 : Int32).toInt = 35 from rfl, show (36 : Int32).toInt = 36 from rfl, show (37 : Int32).toInt = 37 from rfl, show (38 : Int32).toInt = 38 from rfl, show (39 : Int32).toInt = 39 from rfl, show (42 : Int32).toInt = 42 from rfl, show (43 : Int32).toInt = 43 from rfl, show (45 : Int32).toInt = 45 from rfl, show (46 : Int32).toInt = 46 from rfl, show (48 : Int32).toInt = 48 from rfl, show (57 : Int32).toInt = 57 from rfl, show (65 : Int32).toInt = 65 from rfl, show (90 : Int32).toInt = 90 from rfl, show (94 : Int32).toInt = 94 from rfl, show (95 : Int32).toInt = 95 from rfl, show (96 : Int32).toInt = 96 from rfl, show (97 : Int32).toInt = 97 from rfl, show (122 : Int32).toInt = 122 from rfl, show (124 : Int32).toInt = 124 from rfl, show (126 : Int32).toInt = 126 from rfl] at hb1 hb2 hb3 hb4 hb5 hb6 hb7 hb8 hb9 hb10 hb11 hb12 hb13 hb14 hb15; omega)]; rfl, rfl⟩
                              · refine GoKit.iloadN G d10_114 rfl (pc' := 115) rfl ?_
                                refine GoKit.bipush G (96 : Int32) d10_115 rfl (pc' := 117) rfl ?_
                                refine GoKit.icmp_eq G d10_117 (by decide) (pt := 132) (pf := 120) rfl rfl (fun hb16 => ?_) (fun hb16 => ?_)
                                · refine GoKit.iconst G (1 : Int32) d10_132 rfl (pc' := 133) rfl ?_
                                  refine GoKit.goto G d10_133 (by decide) (pc' := 137) rfl ?_
                                  refine GoKit.retNar G d10_137 (t := .boolean) rfl (by simp) (by decide) (by decide) ?_
                                  exact ⟨by rw [if_pos (by unfold tch; simp only [gt_iff_lt, ge_iff_le, ne_eq, Int32.lt_iff_toInt_lt, Int32.le_iff_toInt_le, ← Int32.toInt_inj, show (33 : Int32).toInt = 33 from rfl, show (35 : Int32).toInt = 35 from rfl, show (36 : Int32).toInt = 36 from rfl, show (37 : Int32).toInt = 37 from rfl, show (38 : Int32).toInt = 38 from rfl, show (39 : Int32).toInt = 39 from rfl, show (42 : Int32).toInt = 42 from rfl, show (43 : Int32).toInt = 43 from rfl, show (45 : Int32).toInt = 45 from rfl, show (46 : Int32).toInt = 46 from rfl, show (48 : Int32).toInt = 48 from rfl, show (57 : Int32).toInt = 57 from rfl, show (65 : Int32).toInt = 65 from rfl, show (90 : Int32).toInt = 90 from rfl, show (94 : Int32).toInt = 94 from rfl, show (95 : Int32).toInt = 95 from rfl, show (96 : Int32).toInt = 96 from rfl, show (97 : Int32).toInt = 97 from rfl, show (122 : Int32).toInt = 122 from rfl, show (124 : Int32).toInt = 124 from rfl, show (126 : Int32).toInt = 126 from rfl] at hb1 hb2 hb3 hb4 hb5 hb6 hb7 hb8 hb9 hb10 hb11 hb12 hb13 hb14 hb15 hb16; omega)]; rfl, rfl⟩
                                · refine GoKit.iloadN G d10_120 rfl (pc' := 121) rfl ?_
                                  refine GoKit.bipush G (124 : Int32) d10_121 rfl (pc' := 123) rfl ?_
                                  refine GoKit.icmp_eq G d10_123 (by decide) (pt := 132) (pf := 126) rfl rfl (fun hb17 => ?_) (fun hb17 => ?_)
                                  · refine GoKit.iconst G (1 : Int32) d10_132 rfl (pc' := 133) rfl ?_
                                    refine GoKit.goto G d10_133 (by decide) (pc' := 137) rfl ?_
                                    refine GoKit.retNar G d10_137 (t := .boolean) rfl (by simp) (by decide) (by decide) ?_
                                    exact ⟨by rw [if_pos (by unfold tch; simp only [gt_iff_lt, ge_iff_le, ne_eq, Int32.lt_iff_toInt_lt, Int32.le_iff_toInt_le, ← Int32.toInt_inj, show (33 : Int32).toInt = 33 from rfl, show (35 : Int32).toInt = 35 from rfl, show (36 : Int32).toInt = 36 from rfl, show (37 : Int32).toInt = 37 from rfl, show (38 : Int32).toInt = 38 from rfl, show (39 : Int32).toInt = 39 from rfl, show (42 : Int32).toInt = 42 from rfl, show (43 : Int32).toInt = 43 from rfl, show (45 : Int32).toInt = 45 from rfl, show (46 : Int32).toInt = 46 from rfl, show (48 : Int32).toInt = 48 from rfl, show (57 : Int32).toInt = 57 from rfl, show (65 : Int32).toInt = 65 from rfl, show (90 : Int32).toInt = 90 from rfl, show (94 : Int32).toInt = 94 from rfl, show (95 : Int32).toInt = 95 from rfl, show (96 : Int32).toInt = 96 from rfl, show (97 : Int32).toInt = 97 from rfl, show (122 : Int32).toInt = 122 from rfl, show (124 : Int32).toInt = 124 from rfl, show (126 : Int32).toInt = 126 from rfl] at hb1 hb2 hb3 hb4 hb5 hb6 hb7 hb8 hb9 hb10 hb11 hb12 hb13 hb14 hb15 hb16 hb17; omega)]; rfl, rfl⟩
                                  · refine GoKit.iloadN G d10_126 rfl (pc' := 127) rfl ?_
                                    refine GoKit.bipush G (126 : Int32) d10_127 rfl (pc' := 129) rfl ?_
                                    refine GoKit.icmp_ne G d10_129 (by decide) (pt := 136) (pf := 132) rfl rfl (fun hb18 => ?_) (fun hb18 => ?_)
                                    · refine GoKit.iconst G (0 : Int32) d10_136 rfl (pc' := 137) rfl ?_
                                      refine GoKit.retNar G d10_137 (t := .boolean) rfl (by simp) (by decide) (by decide) ?_
                                      exact ⟨by rw [if_neg (by unfold tch; simp only [gt_iff_lt, ge_iff_le, ne_eq, Int32.lt_iff_toInt_lt, Int32.le_iff_toInt_le, ← Int32.toInt_inj, show (33 : Int32).toInt = 33 from rfl, show (35 : Int32).toInt = 35 from rfl, show (36 : Int32).toInt = 36 from rfl, show (37 : Int32).toInt = 37 from rfl, show (38 : Int32).toInt = 38 from rfl, show (39 : Int32).toInt = 39 from rfl, show (42 : Int32).toInt = 42 from rfl, show (43 : Int32).toInt = 43 from rfl, show (45 : Int32).toInt = 45 from rfl, show (46 : Int32).toInt = 46 from rfl, show (48 : Int32).toInt = 48 from rfl, show (57 : Int32).toInt = 57 from rfl, show (65 : Int32).toInt = 65 from rfl, show (90 : Int32).toInt = 90 from rfl, show (94 : Int32).toInt = 94 from rfl, show (95 : Int32).toInt = 95 from rfl, show (96 : Int32).toInt = 96 from rfl, show (97 : Int32).toInt = 97 from rfl, show (122 : Int32).toInt = 122 from rfl, show (124 : Int32).toInt = 124 from rfl, show (126 : Int32).toInt = 126 from rfl] at hb1 hb2 hb3 hb4 hb5 hb6 hb7 hb8 hb9 hb10 hb11 hb12 hb13 hb14 hb15 hb16 hb17 hb18; omega)]; rfl, rfl⟩
                                    · refine GoKit.iconst G (1 : Int32) d10_132 rfl (pc' := 133) rfl ?_
                                      refine GoKit.goto G d10_133 (by decide) (pc' := 137) rfl ?_
                                      refine GoKit.retNar G d10_137 (t := .boolean) rfl (by simp) (by decide) (by decide) ?_
                                      exact ⟨by rw [if_pos (by unfold tch; simp only [gt_iff_lt, ge_iff_le, ne_eq, Int32.lt_iff_toInt_lt, Int32.le_iff_toInt_le, ← Int32.toInt_inj, show (33 : Int32).toInt = 33 from rfl, show (35 : Int32).toInt = 35 from rfl, show (36 : Int32).toInt = 36 from rfl, show (37 : Int32).toInt = 37 from rfl, show (38 : Int32).toInt = 38 from rfl, show (39 : Int32).toInt = 39 from rfl, show (42 : Int32).toInt = 42 from rfl, show (43 : Int32).toInt = 43 from rfl, show (45 : Int32).toInt = 45 from rfl, show (46 : Int32).toInt = 46 from rfl, show (48 : Int32).toInt = 48 from rfl, show (57 : Int32).toInt = 57 from rfl, show (65 : Int32).toInt = 65 from rfl, show (90 : Int32).toInt = 90 from rfl, show (94 : Int32).toInt = 94 from rfl, show (95 : Int32).toInt = 95 from rfl, show (96 : Int32).toInt = 96 from rfl, show (97 : Int32).toInt = 97 from rfl, show (122 : Int32).toInt = 122 from rfl, show (124 : Int32).toInt = 124 from rfl, show (126 : Int32).toInt = 126 from rfl] at hb1 hb2 hb3 hb4 hb5 hb6 hb7 hb8 hb9 hb10 hb11 hb12 hb13 hb14 hb15 hb16 hb17 hb18; omega)]; rfl, rfl⟩
      · refine GoKit.iloadN G d10_34 rfl (pc' := 35) rfl ?_
        refine GoKit.bipush G (57 : Int32) d10_35 rfl (pc' := 37) rfl ?_
        refine GoKit.icmp_gt G d10_37 (by decide) (pt := 42) (pf := 40) rfl rfl (fun hb19 => ?_) (fun hb19 => ?_)
        · refine GoKit.iloadN G d10_42 rfl (pc' := 43) rfl ?_
          refine GoKit.bipush G (33 : Int32) d10_43 rfl (pc' := 45) rfl ?_
          refine GoKit.icmp_eq G d10_45 (by decide) (pt := 132) (pf := 48) rfl rfl (fun hb20 => ?_) (fun hb20 => ?_)
          · refine GoKit.iconst G (1 : Int32) d10_132 rfl (pc' := 133) rfl ?_
            refine GoKit.goto G d10_133 (by decide) (pc' := 137) rfl ?_
            refine GoKit.retNar G d10_137 (t := .boolean) rfl (by simp) (by decide) (by decide) ?_
            exact ⟨by rw [if_pos (by unfold tch; simp only [gt_iff_lt, ge_iff_le, ne_eq, Int32.lt_iff_toInt_lt, Int32.le_iff_toInt_le, ← Int32.toInt_inj, show (33 : Int32).toInt = 33 from rfl, show (35 : Int32).toInt = 35 from rfl, show (36 : Int32).toInt = 36 from rfl, show (37 : Int32).toInt = 37 from rfl, show (38 : Int32).toInt = 38 from rfl, show (39 : Int32).toInt = 39 from rfl, show (42 : Int32).toInt = 42 from rfl, show (43 : Int32).toInt = 43 from rfl, show (45 : Int32).toInt = 45 from rfl, show (46 : Int32).toInt = 46 from rfl, show (48 : Int32).toInt = 48 from rfl, show (57 : Int32).toInt = 57 from rfl, show (65 : Int32).toInt = 65 from rfl, show (90 : Int32).toInt = 90 from rfl, show (94 : Int32).toInt = 94 from rfl, show (95 : Int32).toInt = 95 from rfl, show (96 : Int32).toInt = 96 from rfl, show (97 : Int32).toInt = 97 from rfl, show (122 : Int32).toInt = 122 from rfl, show (124 : Int32).toInt = 124 from rfl, show (126 : Int32).toInt = 126 from rfl] at hb1 hb2 hb3 hb19 hb20; omega)]; rfl, rfl⟩
          · refine GoKit.iloadN G d10_48 rfl (pc' := 49) rfl ?_
            refine GoKit.bipush G (35 : Int32) d10_49 rfl (pc' := 51) rfl ?_
            refine GoKit.icmp_eq G d10_51 (by decide) (pt := 132) (pf := 54) rfl rfl (fun hb21 => ?_) (fun hb21 => ?_)
            · refine GoKit.iconst G (1 : Int32) d10_132 rfl (pc' := 133) rfl ?_
              refine GoKit.goto G d10_133 (by decide) (pc' := 137) rfl ?_
              refine GoKit.retNar G d10_137 (t := .boolean) rfl (by simp) (by decide) (by decide) ?_
              exact ⟨by rw [if_pos (by unfold tch; simp only [gt_iff_lt, ge_iff_le, ne_eq, Int32.lt_iff_toInt_lt, Int32.le_iff_toInt_le, ← Int32.toInt_inj, show (33 : Int32).toInt = 33 from rfl, show (35 : Int32).toInt = 35 from rfl, show (36 : Int32).toInt = 36 from rfl, show (37 : Int32).toInt = 37 from rfl, show (38 : Int32).toInt = 38 from rfl, show (39 : Int32).toInt = 39 from rfl, show (42 : Int32).toInt = 42 from rfl, show (43 : Int32).toInt = 43 from rfl, show (45 : Int32).toInt = 45 from rfl, show (46 : Int32).toInt = 46 from rfl, show (48 : Int32).toInt = 48 from rfl, show (57 : Int32).toInt = 57 from rfl, show (65 : Int32).toInt = 65 from rfl, show (90 : Int32).toInt = 90 from rfl, show (94 : Int32).toInt = 94 from rfl, show (95 : Int32).toInt = 95 from rfl, show (96 : Int32).toInt = 96 from rfl, show (97 : Int32).toInt = 97 from rfl, show (122 : Int32).toInt = 122 from rfl, show (124 : Int32).toInt = 124 from rfl, show (126 : Int32).toInt = 126 from rfl] at hb1 hb2 hb3 hb19 hb20 hb21; omega)]; rfl, rfl⟩
            · refine GoKit.iloadN G d10_54 rfl (pc' := 55) rfl ?_
              refine GoKit.bipush G (36 : Int32) d10_55 rfl (pc' := 57) rfl ?_
              refine GoKit.icmp_eq G d10_57 (by decide) (pt := 132) (pf := 60) rfl rfl (fun hb22 => ?_) (fun hb22 => ?_)
              · refine GoKit.iconst G (1 : Int32) d10_132 rfl (pc' := 133) rfl ?_
                refine GoKit.goto G d10_133 (by decide) (pc' := 137) rfl ?_
                refine GoKit.retNar G d10_137 (t := .boolean) rfl (by simp) (by decide) (by decide) ?_
                exact ⟨by rw [if_pos (by unfold tch; simp only [gt_iff_lt, ge_iff_le, ne_eq, Int32.lt_iff_toInt_lt, Int32.le_iff_toInt_le, ← Int32.toInt_inj, show (33 : Int32).toInt = 33 from rfl, show (35 : Int32).toInt = 35 from rfl, show (36 : Int32).toInt = 36 from rfl, show (37 : Int32).toInt = 37 from rfl, show (38 : Int32).toInt = 38 from rfl, show (39 : Int32).toInt = 39 from rfl, show (42 : Int32).toInt = 42 from rfl, show (43 : Int32).toInt = 43 from rfl, show (45 : Int32).toInt = 45 from rfl, show (46 : Int32).toInt = 46 from rfl, show (48 : Int32).toInt = 48 from rfl, show (57 : Int32).toInt = 57 from rfl, show (65 : Int32).toInt = 65 from rfl, show (90 : Int32).toInt = 90 from rfl, show (94 : Int32).toInt = 94 from rfl, show (95 : Int32).toInt = 95 from rfl, show (96 : Int32).toInt = 96 from rfl, show (97 : Int32).toInt = 97 from rfl, show (122 : Int32).toInt = 122 from rfl, show (124 : Int32).toInt = 124 from rfl, show (126 : Int32).toInt = 126 from rfl] at hb1 hb2 hb3 hb19 hb20 hb21 hb22; omega)]; rfl, rfl⟩
              · refine GoKit.iloadN G d10_60 rfl (pc' := 61) rfl ?_
                refine GoKit.bipush G (37 : Int32) d10_61 rfl (pc' := 63) rfl ?_
                refine GoKit.icmp_eq G d10_63 (by decide) (pt := 132) (pf := 66) rfl rfl (fun hb23 => ?_) (fun hb23 => ?_)
                · refine GoKit.iconst G (1 : Int32) d10_132 rfl (pc' := 133) rfl ?_
                  refine GoKit.goto G d10_133 (by decide) (pc' := 137) rfl ?_
                  refine GoKit.retNar G d10_137 (t := .boolean) rfl (by simp) (by decide) (by decide) ?_
                  exact ⟨by rw [if_pos (by unfold tch; simp only [gt_iff_lt, ge_iff_le, ne_eq, Int32.lt_iff_toInt_lt, Int32.le_iff_toInt_le, ← Int32.toInt_inj, show (33 : Int32).toInt = 33 from rfl, show (35 : Int32).toInt = 35 from rfl, show (36 : Int32).toInt = 36 from rfl, show (37 : Int32).toInt = 37 from rfl, show (38 : Int32).toInt = 38 from rfl, show (39 : Int32).toInt = 39 from rfl, show (42 : Int32).toInt = 42 from rfl, show (43 : Int32).toInt = 43 from rfl, show (45 : Int32).toInt = 45 from rfl, show (46 : Int32).toInt = 46 from rfl, show (48 : Int32).toInt = 48 from rfl, show (57 : Int32).toInt = 57 from rfl, show (65 : Int32).toInt = 65 from rfl, show (90 : Int32).toInt = 90 from rfl, show (94 : Int32).toInt = 94 from rfl, show (95 : Int32).toInt = 95 from rfl, show (96 : Int32).toInt = 96 from rfl, show (97 : Int32).toInt = 97 from rfl, show (122 : Int32).toInt = 122 from rfl, show (124 : Int32).toInt = 124 from rfl, show (126 : Int32).toInt = 126 from rfl] at hb1 hb2 hb3 hb19 hb20 hb21 hb22 hb23; omega)]; rfl, rfl⟩
                · refine GoKit.iloadN G d10_66 rfl (pc' := 67) rfl ?_
                  refine GoKit.bipush G (38 : Int32) d10_67 rfl (pc' := 69) rfl ?_
                  refine GoKit.icmp_eq G d10_69 (by decide) (pt := 132) (pf := 72) rfl rfl (fun hb24 => ?_) (fun hb24 => ?_)
                  · refine GoKit.iconst G (1 : Int32) d10_132 rfl (pc' := 133) rfl ?_
                    refine GoKit.goto G d10_133 (by decide) (pc' := 137) rfl ?_
                    refine GoKit.retNar G d10_137 (t := .boolean) rfl (by simp) (by decide) (by decide) ?_
                    exact ⟨by rw [if_pos (by unfold tch; simp only [gt_iff_lt, ge_iff_le, ne_eq, Int32.lt_iff_toInt_lt, Int32.le_iff_toInt_le, ← Int32.toInt_inj, show (33 : Int32).toInt = 33 from rfl, show (35 : Int32).toInt = 35 from rfl, show (36 : Int32).toInt = 36 from rfl, show (37 : Int32).toInt = 37 from rfl, show (38 : Int32).toInt = 38 from rfl, show (39 : Int32).toInt = 39 from rfl, show (42 : Int32).toInt = 42 from rfl, show (43 : Int32).toInt = 43 from rfl, show (45 : Int32).toInt = 45 from rfl, show (46 : Int32).toInt = 46 from rfl, show (48 : Int32).toInt = 48 from rfl, show (57 : Int32).toInt = 57 from rfl, show (65 : Int32).toInt = 65 from rfl, show (90 : Int32).toInt = 90 from rfl, show (94 : Int32).toInt = 94 from rfl, show (95 : Int32).toInt = 95 from rfl, show (96 : Int32).toInt = 96 from rfl, show (97 : Int32).toInt = 97 from rfl, show (122 : Int32).toInt = 122 from rfl, show (124 : Int32).toInt = 124 from rfl, show (126 : Int32).toInt = 126 from rfl] at hb1 hb2 hb3 hb19 hb20 hb21 hb22 hb23 hb24; omega)]; rfl, rfl⟩
                  · refine GoKit.iloadN G d10_72 rfl (pc' := 73) rfl ?_
                    refine GoKit.bipush G (39 : Int32) d10_73 rfl (pc' := 75) rfl ?_
                    refine GoKit.icmp_eq G d10_75 (by decide) (pt := 132) (pf := 78) rfl rfl (fun hb25 => ?_) (fun hb25 => ?_)
                    · refine GoKit.iconst G (1 : Int32) d10_132 rfl (pc' := 133) rfl ?_
                      refine GoKit.goto G d10_133 (by decide) (pc' := 137) rfl ?_
                      refine GoKit.retNar G d10_137 (t := .boolean) rfl (by simp) (by decide) (by decide) ?_
                      exact ⟨by rw [if_pos (by unfold tch; simp only [gt_iff_lt, ge_iff_le, ne_eq, Int32.lt_iff_toInt_lt, Int32.le_iff_toInt_le, ← Int32.toInt_inj, show (33 : Int32).toInt = 33 from rfl, show (35 : Int32).toInt = 35 from rfl, show (36 : Int32).toInt = 36 from rfl, show (37 : Int32).toInt = 37 from rfl, show (38 : Int32).toInt = 38 from rfl, show (39 : Int32).toInt = 39 from rfl, show (42 : Int32).toInt = 42 from rfl, show (43 : Int32).toInt = 43 from rfl, show (45 : Int32).toInt = 45 from rfl, show (46 : Int32).toInt = 46 from rfl, show (48 : Int32).toInt = 48 from rfl, show (57 : Int32).toInt = 57 from rfl, show (65 : Int32).toInt = 65 from rfl, show (90 : Int32).toInt = 90 from rfl, show (94 : Int32).toInt = 94 from rfl, show (95 : Int32).toInt = 95 from rfl, show (96 : Int32).toInt = 96 from rfl, show (97 : Int32).toInt = 97 from rfl, show (122 : Int32).toInt = 122 from rfl, show (124 : Int32).toInt = 124 from rfl, show (126 : Int32).toInt = 126 from rfl] at hb1 hb2 hb3 hb19 hb20 hb21 hb22 hb23 hb24 hb25; omega)]; rfl, rfl⟩
                    · refine GoKit.iloadN G d10_78 rfl (pc' := 79) rfl ?_
                      refine GoKit.bipush G (42 : Int32) d10_79 rfl (pc' := 81) rfl ?_
                      refine GoKit.icmp_eq G d10_81 (by decide) (pt := 132) (pf := 84) rfl rfl (fun hb26 => ?_) (fun hb26 => ?_)
                      · refine GoKit.iconst G (1 : Int32) d10_132 rfl (pc' := 133) rfl ?_
                        refine GoKit.goto G d10_133 (by decide) (pc' := 137) rfl ?_
                        refine GoKit.retNar G d10_137 (t := .boolean) rfl (by simp) (by decide) (by decide) ?_
                        exact ⟨by rw [if_pos (by unfold tch; simp only [gt_iff_lt, ge_iff_le, ne_eq, Int32.lt_iff_toInt_lt, Int32.le_iff_toInt_le, ← Int32.toInt_inj, show (33 : Int32).toInt = 33 from rfl, show (35 : Int32).toInt = 35 from rfl, show (36 : Int32).toInt = 36 from rfl, show (37 : Int32).toInt = 37 from rfl, show (38 : Int32).toInt = 38 from rfl, show (39 : Int32).toInt = 39 from rfl, show (42 : Int32).toInt = 42 from rfl, show (43 : Int32).toInt = 43 from rfl, show (45 : Int32).toInt = 45 from rfl, show (46 : Int32).toInt = 46 from rfl, show (48 : Int32).toInt = 48 from rfl, show (57 : Int32).toInt = 57 from rfl, show (65 : Int32).toInt = 65 from rfl, show (90 : Int32).toInt = 90 from rfl, show (94 : Int32).toInt = 94 from rfl, show (95 : Int32).toInt = 95 from rfl, show (96 : Int32).toInt = 96 from rfl, show (97 : Int32).toInt = 97 from rfl, show (122 : Int32).toInt = 122 from rfl, show (124 : Int32).toInt = 124 from rfl, show (126 : Int32).toInt = 126 from rfl] at hb1 hb2 hb3 hb19 hb20 hb21 hb22 hb23 hb24 hb25 hb26; omega)]; rfl, rfl⟩
                      · refine GoKit.iloadN G d10_84 rfl (pc' := 85) rfl ?_
                        refine GoKit.bipush G (43 : Int32) d10_85 rfl (pc' := 87) rfl ?_
                        refine GoKit.icmp_eq G d10_87 (by decide) (pt := 132) (pf := 90) rfl rfl (fun hb27 => ?_) (fun hb27 => ?_)
                        · refine GoKit.iconst G (1 : Int32) d10_132 rfl (pc' := 133) rfl ?_
                          refine GoKit.goto G d10_133 (by decide) (pc' := 137) rfl ?_
                          refine GoKit.retNar G d10_137 (t := .boolean) rfl (by simp) (by decide) (by decide) ?_
                          exact ⟨by rw [if_pos (by unfold tch; simp only [gt_iff_lt, ge_iff_le, ne_eq, Int32.lt_iff_toInt_lt, Int32.le_iff_toInt_le, ← Int32.toInt_inj, show (33 : Int32).toInt = 33 from rfl, show (35 : Int32).toInt = 35 from rfl, show (36 : Int32).toInt = 36 from rfl, show (37 : Int32).toInt = 37 from rfl, show (38 : Int32).toInt = 38 from rfl, show (39 : Int32).toInt = 39 from rfl, show (42 : Int32).toInt = 42 from rfl, show (43 : Int32).toInt = 43 from rfl, show (45 : Int32).toInt = 45 from rfl, show (46 : Int32).toInt = 46 from rfl, show (48 : Int32).toInt = 48 from rfl, show (57 : Int32).toInt = 57 from rfl, show (65 : Int32).toInt = 65 from rfl, show (90 : Int32).toInt = 90 from rfl, show (94 : Int32).toInt = 94 from rfl, show (95 : Int32).toInt = 95 from rfl, show (96 : Int32).toInt = 96 from rfl, show (97 : Int32).toInt = 97 from rfl, show (122 : Int32).toInt = 122 from rfl, show (124 : Int32).toInt = 124 from rfl, show (126 : Int32).toInt = 126 from rfl] at hb1 hb2 hb3 hb19 hb20 hb21 hb22 hb23 hb24 hb25 hb26 hb27; omega)]; rfl, rfl⟩
                        · refine GoKit.iloadN G d10_90 rfl (pc' := 91) rfl ?_
                          refine GoKit.bipush G (45 : Int32) d10_91 rfl (pc' := 93) rfl ?_
                          refine GoKit.icmp_eq G d10_93 (by decide) (pt := 132) (pf := 96) rfl rfl (fun hb28 => ?_) (fun hb28 => ?_)
                          · refine GoKit.iconst G (1 : Int32) d10_132 rfl (pc' := 133) rfl ?_
                            refine GoKit.goto G d10_133 (by decide) (pc' := 137) rfl ?_
                            refine GoKit.retNar G d10_137 (t := .boolean) rfl (by simp) (by decide) (by decide) ?_
                            exact ⟨by rw [if_pos (by unfold tch; simp only [gt_iff_lt, ge_iff_le, ne_eq, Int32.lt_iff_toInt_lt, Int32.le_iff_toInt_le, ← Int32.toInt_inj, show (33 : Int32).toInt = 33 from rfl, show (35 : Int32).toInt = 35 from rfl, show (36 : Int32).toInt = 36 from rfl, show (37 : Int32).toInt = 37 from rfl, show (38 : Int32).toInt = 38 from rfl, show (39 : Int32).toInt = 39 from rfl, show (42 : Int32).toInt = 42 from rfl, show (43 : Int32).toInt = 43 from rfl, show (45 : Int32).toInt = 45 from rfl, show (46 : Int32).toInt = 46 from rfl, show (48 : Int32).toInt = 48 from rfl, show (57 : Int32).toInt = 57 from rfl, show (65 : Int32).toInt = 65 from rfl, show (90 : Int32).toInt = 90 from rfl, show (94 : Int32).toInt = 94 from rfl, show (95 : Int32).toInt = 95 from rfl, show (96 : Int32).toInt = 96 from rfl, show (97 : Int32).toInt = 97 from rfl, show (122 : Int32).toInt = 122 from rfl, show (124 : Int32).toInt = 124 from rfl, show (126 : Int32).toInt = 126 from rfl] at hb1 hb2 hb3 hb19 hb20 hb21 hb22 hb23 hb24 hb25 hb26 hb27 hb28; omega)]; rfl, rfl⟩
                          · refine GoKit.iloadN G d10_96 rfl (pc' := 97) rfl ?_
                            refine GoKit.bipush G (46 : Int32) d10_97 rfl (pc' := 99) rfl ?_
                            refine GoKit.icmp_eq G d10_99 (by decide) (pt := 132) (pf := 102) rfl rfl (fun hb29 => ?_) (fun hb29 => ?_)
                            · refine GoKit.iconst G (1 : Int32) d10_132 rfl (pc' := 133) rfl ?_
                              refine GoKit.goto G d10_133 (by decide) (pc' := 137) rfl ?_
                              refine GoKit.retNar G d10_137 (t := .boolean) rfl (by simp) (by decide) (by decide) ?_
                              exact ⟨by rw [if_pos (by unfold tch; simp only [gt_iff_lt, ge_iff_le, ne_eq, Int32.lt_iff_toInt_lt, Int32.le_iff_toInt_le, ← Int32.toInt_inj, show (33 : Int32).toInt = 33 from rfl, show (35 : Int32).toInt = 35 from rfl, show (36 : Int32).toInt = 36 from rfl, show (37 : Int32).toInt = 37 from rfl, show (38 : Int32).toInt = 38 from rfl, show (39 : Int32).toInt = 39 from rfl, show (42 : Int32).toInt = 42 from rfl, show (43 : Int32).toInt = 43 from rfl, show (45 : Int32).toInt = 45 from rfl, show (46 : Int32).toInt = 46 from rfl, show (48 : Int32).toInt = 48 from rfl, show (57 : Int32).toInt = 57 from rfl, show (65 : Int32).toInt = 65 from rfl, show (90 : Int32).toInt = 90 from rfl, show (94 : Int32).toInt = 94 from rfl, show (95 : Int32).toInt = 95 from rfl, show (96 : Int32).toInt = 96 from rfl, show (97 : Int32).toInt = 97 from rfl, show (122 : Int32).toInt = 122 from rfl, show (124 : Int32).toInt = 124 from rfl, show (126 : Int32).toInt = 126 from rfl] at hb1 hb2 hb3 hb19 hb20 hb21 hb22 hb23 hb24 hb25 hb26 hb27 hb28 hb29; omega)]; rfl, rfl⟩
                            · refine GoKit.iloadN G d10_102 rfl (pc' := 103) rfl ?_
                              refine GoKit.bipush G (94 : Int32) d10_103 rfl (pc' := 105) rfl ?_
                              refine GoKit.icmp_eq G d10_105 (by decide) (pt := 132) (pf := 108) rfl rfl (fun hb30 => ?_) (fun hb30 => ?_)
                              · refine GoKit.iconst G (1 : Int32) d10_132 rfl (pc' := 133) rfl ?_
                                refine GoKit.goto G d10_133 (by decide) (pc' := 137) rfl ?_
                                refine GoKit.retNar G d10_137 (t := .boolean) rfl (by simp) (by decide) (by decide) ?_
                                exact ⟨by rw [if_pos (by unfold tch; simp only [gt_iff_lt, ge_iff_le, ne_eq, Int32.lt_iff_toInt_lt, Int32.le_iff_toInt_le, ← Int32.toInt_inj, show (33 : Int32).toInt = 33 from rfl, show (35 : Int32).toInt = 35 from rfl, show (36 : Int32).toInt = 36 from rfl, show (37 : Int32).toInt = 37 from rfl, show (38 : Int32).toInt = 38 from rfl, show (39 : Int32).toInt = 39 from rfl, show (42 : Int32).toInt = 42 from rfl, show (43 : Int32).toInt = 43 from rfl, show (45 : Int32).toInt = 45 from rfl, show (46 : Int32).toInt = 46 from rfl, show (48 : Int32).toInt = 48 from rfl, show (57 : Int32).toInt = 57 from rfl, show (65 : Int32).toInt = 65 from rfl, show (90 : Int32).toInt = 90 from rfl, show (94 : Int32).toInt = 94 from rfl, show (95 : Int32).toInt = 95 from rfl, show (96 : Int32).toInt = 96 from rfl, show (97 : Int32).toInt = 97 from rfl, show (122 : Int32).toInt = 122 from rfl, show (124 : Int32).toInt = 124 from rfl, show (126 : Int32).toInt = 126 from rfl] at hb1 hb2 hb3 hb19 hb20 hb21 hb22 hb23 hb24 hb25 hb26 hb27 hb28 hb29 hb30; omega)]; rfl, rfl⟩
                              · refine GoKit.iloadN G d10_108 rfl (pc' := 109) rfl ?_
                                refine GoKit.bipush G (95 : Int32) d10_109 rfl (pc' := 111) rfl ?_
                                refine GoKit.icmp_eq G d10_111 (by decide) (pt := 132) (pf := 114) rfl rfl (fun hb31 => ?_) (fun hb31 => ?_)
                                · refine GoKit.iconst G (1 : Int32) d10_132 rfl (pc' := 133) rfl ?_
                                  refine GoKit.goto G d10_133 (by decide) (pc' := 137) rfl ?_
                                  refine GoKit.retNar G d10_137 (t := .boolean) rfl (by simp) (by decide) (by decide) ?_
                                  exact ⟨by rw [if_pos (by unfold tch; simp only [gt_iff_lt, ge_iff_le, ne_eq, Int32.lt_iff_toInt_lt, Int32.le_iff_toInt_le, ← Int32.toInt_inj, show (33 : Int32).toInt = 33 from rfl, show (35 : Int32).toInt = 35 from rfl, show (36 : Int32).toInt = 36 from rfl, show (37 : Int32).toInt = 37 from rfl, show (38 : Int32).toInt = 38 from rfl, show (39 : Int32).toInt = 39 from rfl, show (42 : Int32).toInt = 42 from rfl, show (43 : Int32).toInt = 43 from rfl, show (45 : Int32).toInt = 45 from rfl, show (46 : Int32).toInt = 46 from rfl, show (48 : Int32).toInt = 48 from rfl, show (57 : Int32).toInt = 57 from rfl, show (65 : Int32).toInt = 65 from rfl, show (90 : Int32).toInt = 90 from rfl, show (94 : Int32).toInt = 94 from rfl, show (95 : Int32).toInt = 95 from rfl, show (96 : Int32).toInt = 96 from rfl, show (97 : Int32).toInt = 97 from rfl, show (122 : Int32).toInt = 122 from rfl, show (124 : Int32).toInt = 124 from rfl, show (126 : Int32).toInt = 126 from rfl] at hb1 hb2 hb3 hb19 hb20 hb21 hb22 hb23 hb24 hb25 hb26 hb27 hb28 hb29 hb30 hb31; omega)]; rfl, rfl⟩
                                · refine GoKit.iloadN G d10_114 rfl (pc' := 115) rfl ?_
                                  refine GoKit.bipush G (96 : Int32) d10_115 rfl (pc' := 117) rfl ?_
                                  refine GoKit.icmp_eq G d10_117 (by decide) (pt := 132) (pf := 120) rfl rfl (fun hb32 => ?_) (fun hb32 => ?_)
                                  · refine GoKit.iconst G (1 : Int32) d10_132 rfl (pc' := 133) rfl ?_
                                    refine GoKit.goto G d10_133 (by decide) (pc' := 137) rfl ?_
                                    refine GoKit.retNar G d10_137 (t := .boolean) rfl (by simp) (by decide) (by decide) ?_
                                    exact ⟨by rw [if_pos (by unfold tch; simp only [gt_iff_lt, ge_iff_le, ne_eq, Int32.lt_iff_toInt_lt, Int32.le_iff_toInt_le, ← Int32.toInt_inj, show (33 : Int32).toInt = 33 from rfl, show (35 : Int32).toInt = 35 from rfl, show (36 : Int32).toInt = 36 from rfl, show (37 : Int32).toInt = 37 from rfl, show (38 : Int32).toInt = 38 from rfl, show (39 : Int32).toInt = 39 from rfl, show (42 : Int32).toInt = 42 from rfl, show (43 : Int32).toInt = 43 from rfl, show (45 : Int32).toInt = 45 from rfl, show (46 : Int32).toInt = 46 from rfl, show (48 : Int32).toInt = 48 from rfl, show (57 : Int32).toInt = 57 from rfl, show (65 : Int32).toInt = 65 from rfl, show (90 : Int32).toInt = 90 from rfl, show (94 : Int32).toInt = 94 from rfl, show (95 : Int32).toInt = 95 from rfl, show (96 : Int32).toInt = 96 from rfl, show (97 : Int32).toInt = 97 from rfl, show (122 : Int32).toInt = 122 from rfl, show (124 : Int32).toInt = 124 from rfl, show (126 : Int32).toInt = 126 from rfl] at hb1 hb2 hb3 hb19 hb20 hb21 hb22 hb23 hb24 hb25 hb26 hb27 hb28 hb29 hb30 hb31 hb32; omega)]; rfl, rfl⟩
                                  · refine GoKit.iloadN G d10_120 rfl (pc' := 121) rfl ?_
                                    refine GoKit.bipush G (124 : Int32) d10_121 rfl (pc' := 123) rfl ?_
                                    refine GoKit.icmp_eq G d10_123 (by decide) (pt := 132) (pf := 126) rfl rfl (fun hb33 => ?_) (fun hb33 => ?_)
                                    · refine GoKit.iconst G (1 : Int32) d10_132 rfl (pc' := 133) rfl ?_
                                      refine GoKit.goto G d10_133 (by decide) (pc' := 137) rfl ?_
                                      refine GoKit.retNar G d10_137 (t := .boolean) rfl (by simp) (by decide) (by decide) ?_
                                      exact ⟨by rw [if_pos (by unfold tch; simp only [gt_iff_lt, ge_iff_le, ne_eq, Int32.lt_iff_toInt_lt, Int32.le_iff_toInt_le, ← Int32.toInt_inj, show (33 : Int32).toInt = 33 from rfl, show (35 : Int32).toInt = 35 from rfl, show (36 : Int32).toInt = 36 from rfl, show (37 : Int32).toInt = 37 from rfl, show (38 : Int32).toInt = 38 from rfl, show (39 : Int32).toInt = 39 from rfl, show (42 : Int32).toInt = 42 from rfl, show (43 : Int32).toInt = 43 from rfl, show (45 : Int32).toInt = 45 from rfl, show (46 : Int32).toInt = 46 from rfl, show (48 : Int32).toInt = 48 from rfl, show (57 : Int32).toInt = 57 from rfl, show (65 : Int32).toInt = 65 from rfl, show (90 : Int32).toInt = 90 from rfl, show (94 : Int32).toInt = 94 from rfl, show (95 : Int32).toInt = 95 from rfl, show (96 : Int32).toInt = 96 from rfl, show (97 : Int32).toInt = 97 from rfl, show (122 : Int32).toInt = 122 from rfl, show (124 : Int32).toInt = 124 from rfl, show (126 : Int32).toInt = 126 from rfl] at hb1 hb2 hb3 hb19 hb20 hb21 hb22 hb23 hb24 hb25 hb26 hb27 hb28 hb29 hb30 hb31 hb32 hb33; omega)]; rfl, rfl⟩
                                    · refine GoKit.iloadN G d10_126 rfl (pc' := 127) rfl ?_
                                      refine GoKit.bipush G (126 : Int32) d10_127 rfl (pc' := 129) rfl ?_
                                      refine GoKit.icmp_ne G d10_129 (by decide) (pt := 136) (pf := 132) rfl rfl (fun hb34 => ?_) (fun hb34 => ?_)
                                      · refine GoKit.iconst G (0 : Int32) d10_136 rfl (pc' := 137) rfl ?_
                                        refine GoKit.retNar G d10_137 (t := .boolean) rfl (by simp) (by decide) (by decide) ?_
                                        exact ⟨by rw [if_neg (by unfold tch; simp only [gt_iff_lt, ge_iff_le, ne_eq, Int32.lt_iff_toInt_lt, Int32.le_iff_toInt_le, ← Int32.toInt_inj, show (33 : Int32).toInt = 33 from rfl, show (35 : Int32).toInt = 35 from rfl, show (36 : Int32).toInt = 36 from rfl, show (37 : Int32).toInt = 37 from rfl, show (38 : Int32).toInt = 38 from rfl, show (39 : Int32).toInt = 39 from rfl, show (42 : Int32).toInt = 42 from rfl, show (43 : Int32).toInt = 43 from rfl, show (45 : Int32).toInt = 45 from rfl, show (46 : Int32).toInt = 46 from rfl, show (48 : Int32).toInt = 48 from rfl, show (57 : Int32).toInt = 57 from rfl, show (65 : Int32).toInt = 65 from rfl, show (90 : Int32).toInt = 90 from rfl, show (94 : Int32).toInt = 94 from rfl, show (95 : Int32).toInt = 95 from rfl, show (96 : Int32).toInt = 96 from rfl, show (97 : Int32).toInt = 97 from rfl, show (122 : Int32).toInt = 122 from rfl, show (124 : Int32).toInt = 124 from rfl, show (126 : Int32).toInt = 126 from rfl] at hb1 hb2 hb3 hb19 hb20 hb21 hb22 hb23 hb24 hb25 hb26 hb27 hb28 hb29 hb30 hb31 hb32 hb33 hb34; omega)]; rfl, rfl⟩
                                      · refine GoKit.iconst G (1 : Int32) d10_132 rfl (pc' := 133) rfl ?_
                                        refine GoKit.goto G d10_133 (by decide) (pc' := 137) rfl ?_
                                        refine GoKit.retNar G d10_137 (t := .boolean) rfl (by simp) (by decide) (by decide) ?_
                                        exact ⟨by rw [if_pos (by unfold tch; simp only [gt_iff_lt, ge_iff_le, ne_eq, Int32.lt_iff_toInt_lt, Int32.le_iff_toInt_le, ← Int32.toInt_inj, show (33 : Int32).toInt = 33 from rfl, show (35 : Int32).toInt = 35 from rfl, show (36 : Int32).toInt = 36 from rfl, show (37 : Int32).toInt = 37 from rfl, show (38 : Int32).toInt = 38 from rfl, show (39 : Int32).toInt = 39 from rfl, show (42 : Int32).toInt = 42 from rfl, show (43 : Int32).toInt = 43 from rfl, show (45 : Int32).toInt = 45 from rfl, show (46 : Int32).toInt = 46 from rfl, show (48 : Int32).toInt = 48 from rfl, show (57 : Int32).toInt = 57 from rfl, show (65 : Int32).toInt = 65 from rfl, show (90 : Int32).toInt = 90 from rfl, show (94 : Int32).toInt = 94 from rfl, show (95 : Int32).toInt = 95 from rfl, show (96 : Int32).toInt = 96 from rfl, show (97 : Int32).toInt = 97 from rfl, show (122 : Int32).toInt = 122 from rfl, show (124 : Int32).toInt = 124 from rfl, show (126 : Int32).toInt = 126 from rfl] at hb1 hb2 hb3 hb19 hb20 hb21 hb22 hb23 hb24 hb25 hb26 hb27 hb28 hb29 hb30 hb31 hb32 hb33 hb34; omega)]; rfl, rfl⟩
        · refine GoKit.iconst G (1 : Int32) d10_40 rfl (pc' := 41) rfl ?_
          refine GoKit.retNar G d10_41 (t := .boolean) rfl (by simp) (by decide) (by decide) ?_
          exact ⟨by rw [if_pos (by unfold tch; simp only [gt_iff_lt, ge_iff_le, ne_eq, Int32.lt_iff_toInt_lt, Int32.le_iff_toInt_le, ← Int32.toInt_inj, show (33 : Int32).toInt = 33 from rfl, show (35 : Int32).toInt = 35 from rfl, show (36 : Int32).toInt = 36 from rfl, show (37 : Int32).toInt = 37 from rfl, show (38 : Int32).toInt = 38 from rfl, show (39 : Int32).toInt = 39 from rfl, show (42 : Int32).toInt = 42 from rfl, show (43 : Int32).toInt = 43 from rfl, show (45 : Int32).toInt = 45 from rfl, show (46 : Int32).toInt = 46 from rfl, show (48 : Int32).toInt = 48 from rfl, show (57 : Int32).toInt = 57 from rfl, show (65 : Int32).toInt = 65 from rfl, show (90 : Int32).toInt = 90 from rfl, show (94 : Int32).toInt = 94 from rfl, show (95 : Int32).toInt = 95 from rfl, show (96 : Int32).toInt = 96 from rfl, show (97 : Int32).toInt = 97 from rfl, show (122 : Int32).toInt = 122 from rfl, show (124 : Int32).toInt = 124 from rfl, show (126 : Int32).toInt = 126 from rfl] at hb1 hb2 hb3 hb19; omega)]; rfl, rfl⟩
    · refine GoKit.iloadN G d10_20 rfl (pc' := 21) rfl ?_
      refine GoKit.bipush G (90 : Int32) d10_21 rfl (pc' := 23) rfl ?_
      refine GoKit.icmp_gt G d10_23 (by decide) (pt := 28) (pf := 26) rfl rfl (fun hb35 => ?_) (fun hb35 => ?_)
      · refine GoKit.iloadN G d10_28 rfl (pc' := 29) rfl ?_
        refine GoKit.bipush G (48 : Int32) d10_29 rfl (pc' := 31) rfl ?_
        refine GoKit.icmp_lt G d10_31 (by decide) (pt := 42) (pf := 34) rfl rfl (fun hb36 => ?_) (fun hb36 => ?_)
        · refine GoKit.iloadN G d10_42 rfl (pc' := 43) rfl ?_
          refine GoKit.bipush G (33 : Int32) d10_43 rfl (pc' := 45) rfl ?_
          refine GoKit.icmp_eq G d10_45 (by decide) (pt := 132) (pf := 48) rfl rfl (fun hb37 => ?_) (fun hb37 => ?_)
          · refine GoKit.iconst G (1 : Int32) d10_132 rfl (pc' := 133) rfl ?_
            refine GoKit.goto G d10_133 (by decide) (pc' := 137) rfl ?_
            refine GoKit.retNar G d10_137 (t := .boolean) rfl (by simp) (by decide) (by decide) ?_
            exact ⟨by rw [if_pos (by unfold tch; simp only [gt_iff_lt, ge_iff_le, ne_eq, Int32.lt_iff_toInt_lt, Int32.le_iff_toInt_le, ← Int32.toInt_inj, show (33 : Int32).toInt = 33 from rfl, show (35 : Int32).toInt = 35 from rfl, show (36 : Int32).toInt = 36 from rfl, show (37 : Int32).toInt = 37 from rfl, show (38 : Int32).toInt = 38 from rfl, show (39 : Int32).toInt = 39 from rfl, show (42 : Int32).toInt = 42 from rfl, show (43 : Int32).toInt = 43 from rfl, show (45 : Int32).toInt = 45 from rfl, show (46 : Int32).toInt = 46 from rfl, show (48 : Int32).toInt = 48 from rfl, show (57 : Int32).toInt = 57 from rfl, show (65 : Int32).toInt = 65 from rfl, show (90 : Int32).toInt = 90 from rfl, show (94 : Int32).toInt = 94 from rfl, show (95 : Int32).toInt = 95 from rfl, show (96 : Int32).toInt = 96 from rfl, show (97 : Int32).toInt = 97 from rfl, show (122 : Int32).toInt = 122 from rfl, show (124 : Int32).toInt = 124 from rfl, show (126 : Int32).toInt = 126 from rfl] at hb1 hb2 hb35 hb36 hb37; omega)]; rfl, rfl⟩
          · refine GoKit.iloadN G d10_48 rfl (pc' := 49) rfl ?_
            refine GoKit.bipush G (35 : Int32) d10_49 rfl (pc' := 51) rfl ?_
            refine GoKit.icmp_eq G d10_51 (by decide) (pt := 132) (pf := 54) rfl rfl (fun hb38 => ?_) (fun hb38 => ?_)
            · refine GoKit.iconst G (1 : Int32) d10_132 rfl (pc' := 133) rfl ?_
              refine GoKit.goto G d10_133 (by decide) (pc' := 137) rfl ?_
              refine GoKit.retNar G d10_137 (t := .boolean) rfl (by simp) (by decide) (by decide) ?_
              exact ⟨by rw [if_pos (by unfold tch; simp only [gt_iff_lt, ge_iff_le, ne_eq, Int32.lt_iff_toInt_lt, Int32.le_iff_toInt_le, ← Int32.toInt_inj, show (33 : Int32).toInt = 33 from rfl, show (35 : Int32).toInt = 35 from rfl, show (36 : Int32).toInt = 36 from rfl, show (37 : Int32).toInt = 37 from rfl, show (38 : Int32).toInt = 38 from rfl, show (39 : Int32).toInt = 39 from rfl, show (42 : Int32).toInt = 42 from rfl, show (43 : Int32).toInt = 43 from rfl, show (45 : Int32).toInt = 45 from rfl, show (46 : Int32).toInt = 46 from rfl, show (48 : Int32).toInt = 48 from rfl, show (57 : Int32).toInt = 57 from rfl, show (65 : Int32).toInt = 65 from rfl, show (90 : Int32).toInt = 90 from rfl, show (94 : Int32).toInt = 94 from rfl, show (95 : Int32).toInt = 95 from rfl, show (96 : Int32).toInt = 96 from rfl, show (97 : Int32).toInt = 97 from rfl, show (122 : Int32).toInt = 122 from rfl, show (124 : Int32).toInt = 124 from rfl, show (126 : Int32).toInt = 126 from rfl] at hb1 hb2 hb35 hb36 hb37 hb38; omega)]; rfl, rfl⟩
            · refine GoKit.iloadN G d10_54 rfl (pc' := 55) rfl ?_
              refine GoKit.bipush G (36 : Int32) d10_55 rfl (pc' := 57) rfl ?_
              refine GoKit.icmp_eq G d10_57 (by decide) (pt := 132) (pf := 60) rfl rfl (fun hb39 => ?_) (fun hb39 => ?_)
              · refine GoKit.iconst G (1 : Int32) d10_132 rfl (pc' := 133) rfl ?_
                refine GoKit.goto G d10_133 (by decide) (pc' := 137) rfl ?_
                refine GoKit.retNar G d10_137 (t := .boolean) rfl (by simp) (by decide) (by decide) ?_
                exact ⟨by rw [if_pos (by unfold tch; simp only [gt_iff_lt, ge_iff_le, ne_eq, Int32.lt_iff_toInt_lt, Int32.le_iff_toInt_le, ← Int32.toInt_inj, show (33 : Int32).toInt = 33 from rfl, show (35 : Int32).toInt = 35 from rfl, show (36 : Int32).toInt = 36 from rfl, show (37 : Int32).toInt = 37 from rfl, show (38 : Int32).toInt = 38 from rfl, show (39 : Int32).toInt = 39 from rfl, show (42 : Int32).toInt = 42 from rfl, show (43 : Int32).toInt = 43 from rfl, show (45 : Int32).toInt = 45 from rfl, show (46 : Int32).toInt = 46 from rfl, show (48 : Int32).toInt = 48 from rfl, show (57 : Int32).toInt = 57 from rfl, show (65 : Int32).toInt = 65 from rfl, show (90 : Int32).toInt = 90 from rfl, show (94 : Int32).toInt = 94 from rfl, show (95 : Int32).toInt = 95 from rfl, show (96 : Int32).toInt = 96 from rfl, show (97 : Int32).toInt = 97 from rfl, show (122 : Int32).toInt = 122 from rfl, show (124 : Int32).toInt = 124 from rfl, show (126 : Int32).toInt = 126 from rfl] at hb1 hb2 hb35 hb36 hb37 hb38 hb39; omega)]; rfl, rfl⟩
              · refine GoKit.iloadN G d10_60 rfl (pc' := 61) rfl ?_
                refine GoKit.bipush G (37 : Int32) d10_61 rfl (pc' := 63) rfl ?_
                refine GoKit.icmp_eq G d10_63 (by decide) (pt := 132) (pf := 66) rfl rfl (fun hb40 => ?_) (fun hb40 => ?_)
                · refine GoKit.iconst G (1 : Int32) d10_132 rfl (pc' := 133) rfl ?_
                  refine GoKit.goto G d10_133 (by decide) (pc' := 137) rfl ?_
                  refine GoKit.retNar G d10_137 (t := .boolean) rfl (by simp) (by decide) (by decide) ?_
                  exact ⟨by rw [if_pos (by unfold tch; simp only [gt_iff_lt, ge_iff_le, ne_eq, Int32.lt_iff_toInt_lt, Int32.le_iff_toInt_le, ← Int32.toInt_inj, show (33 : Int32).toInt = 33 from rfl, show (35 : Int32).toInt = 35 from rfl, show (36 : Int32).toInt = 36 from rfl, show (37 : Int32).toInt = 37 from rfl, show (38 : Int32).toInt = 38 from rfl, show (39 : Int32).toInt = 39 from rfl, show (42 : Int32).toInt = 42 from rfl, show (43 : Int32).toInt = 43 from rfl, show (45 : Int32).toInt = 45 from rfl, show (46 : Int32).toInt = 46 from rfl, show (48 : Int32).toInt = 48 from rfl, show (57 : Int32).toInt = 57 from rfl, show (65 : Int32).toInt = 65 from rfl, show (90 : Int32).toInt = 90 from rfl, show (94 : Int32).toInt = 94 from rfl, show (95 : Int32).toInt = 95 from rfl, show (96 : Int32).toInt = 96 from rfl, show (97 : Int32).toInt = 97 from rfl, show (122 : Int32).toInt = 122 from rfl, show (124 : Int32).toInt = 124 from rfl, show (126 : Int32).toInt = 126 from rfl] at hb1 hb2 hb35 hb36 hb37 hb38 hb39 hb40; omega)]; rfl, rfl⟩
                · refine GoKit.iloadN G d10_66 rfl (pc' := 67) rfl ?_
                  refine GoKit.bipush G (38 : Int32) d10_67 rfl (pc' := 69) rfl ?_
                  refine GoKit.icmp_eq G d10_69 (by decide) (pt := 132) (pf := 72) rfl rfl (fun hb41 => ?_) (fun hb41 => ?_)
                  · refine GoKit.iconst G (1 : Int32) d10_132 rfl (pc' := 133) rfl ?_
                    refine GoKit.goto G d10_133 (by decide) (pc' := 137) rfl ?_
                    refine GoKit.retNar G d10_137 (t := .boolean) rfl (by simp) (by decide) (by decide) ?_
                    exact ⟨by rw [if_pos (by unfold tch; simp only [gt_iff_lt, ge_iff_le, ne_eq, Int32.lt_iff_toInt_lt, Int32.le_iff_toInt_le, ← Int32.toInt_inj, show (33 : Int32).toInt = 33 from rfl, show (35 : Int32).toInt = 35 from rfl, show (36 : Int32).toInt = 36 from rfl, show (37 : Int32).toInt = 37 from rfl, show (38 : Int32).toInt = 38 from rfl, show (39 : Int32).toInt = 39 from rfl, show (42 : Int32).toInt = 42 from rfl, show (43 : Int32).toInt = 43 from rfl, show (45 : Int32).toInt = 45 from rfl, show (46 : Int32).toInt = 46 from rfl, show (48 : Int32).toInt = 48 from rfl, show (57 : Int32).toInt = 57 from rfl, show (65 : Int32).toInt = 65 from rfl, show (90 : Int32).toInt = 90 from rfl, show (94 : Int32).toInt = 94 from rfl, show (95 : Int32).toInt = 95 from rfl, show (96 : Int32).toInt = 96 from rfl, show (97 : Int32).toInt = 97 from rfl, show (122 : Int32).toInt = 122 from rfl, show (124 : Int32).toInt = 124 from rfl, show (126 : Int32).toInt = 126 from rfl] at hb1 hb2 hb35 hb36 hb37 hb38 hb39 hb40 hb41; omega)]; rfl, rfl⟩
                  · refine GoKit.iloadN G d10_72 rfl (pc' := 73) rfl ?_
                    refine GoKit.bipush G (39 : Int32) d10_73 rfl (pc' := 75) rfl ?_
                    refine GoKit.icmp_eq G d10_75 (by decide) (pt := 132) (pf := 78) rfl rfl (fun hb42 => ?_) (fun hb42 => ?_)
                    · refine GoKit.iconst G (1 : Int32) d10_132 rfl (pc' := 133) rfl ?_
                      refine GoKit.goto G d10_133 (by decide) (pc' := 137) rfl ?_
                      refine GoKit.retNar G d10_137 (t := .boolean) rfl (by simp) (by decide) (by decide) ?_
                      exact ⟨by rw [if_pos (by unfold tch; simp only [gt_iff_lt, ge_iff_le, ne_eq, Int32.lt_iff_toInt_lt, Int32.le_iff_toInt_le, ← Int32.toInt_inj, show (33 : Int32).toInt = 33 from rfl, show (35 : Int32).toInt = 35 from rfl, show (36 : Int32).toInt = 36 from rfl, show (37 : Int32).toInt = 37 from rfl, show (38 : Int32).toInt = 38 from rfl, show (39 : Int32).toInt = 39 from rfl, show (42 : Int32).toInt = 42 from rfl, show (43 : Int32).toInt = 43 from rfl, show (45 : Int32).toInt = 45 from rfl, show (46 : Int32).toInt = 46 from rfl, show (48 : Int32).toInt = 48 from rfl, show (57 : Int32).toInt = 57 from rfl, show (65 : Int32).toInt = 65 from rfl, show (90 : Int32).toInt = 90 from rfl, show (94 : Int32).toInt = 94 from rfl, show (95 : Int32).toInt = 95 from rfl, show (96 : Int32).toInt = 96 from rfl, show (97 : Int32).toInt = 97 from rfl, show (122 : Int32).toInt = 122 from rfl, show (124 : Int32).toInt = 124 from rfl, show (126 : Int32).toInt = 126 from rfl] at hb1 hb2 hb35 hb36 hb37 hb38 hb39 hb40 hb41 hb42; omega)]; rfl, rfl⟩
                    · refine GoKit.iloadN G d10_78 rfl (pc' := 79) rfl ?_
                      refine GoKit.bipush G (42 : Int32) d10_79 rfl (pc' := 81) rfl ?_
                      refine GoKit.icmp_eq G d10_81 (by decide) (pt := 132) (pf := 84) rfl rfl (fun hb43 => ?_) (fun hb43 => ?_)
                      · refine GoKit.iconst G (1 : Int32) d10_132 rfl (pc' := 133) rfl ?_
                        refine GoKit.goto G d10_133 (by decide) (pc' := 137) rfl ?_
                        refine GoKit.retNar G d10_137 (t := .boolean) rfl (by simp) (by decide) (by decide) ?_
                        exact ⟨by rw [if_pos (by unfold tch; simp only [gt_iff_lt, ge_iff_le, ne_eq, Int32.lt_iff_toInt_lt, Int32.le_iff_toInt_le, ← Int32.toInt_inj, show (33 : Int32).toInt = 33 from rfl, show (35 : Int32).toInt = 35 from rfl, show (36 : Int32).toInt = 36 from rfl, show (37 : Int32).toInt = 37 from rfl, show (38 : Int32).toInt = 38 from rfl, show (39 : Int32).toInt = 39 from rfl, show (42 : Int32).toInt = 42 from rfl, show (43 : Int32).toInt = 43 from rfl, show (45 : Int32).toInt = 45 from rfl, show (46 : Int32).toInt = 46 from rfl, show (48 : Int32).toInt = 48 from rfl, show (57 : Int32).toInt = 57 from rfl, show (65 : Int32).toInt = 65 from rfl, show (90 : Int32).toInt = 90 from rfl, show (94 : Int32).toInt = 94 from rfl, show (95 : Int32).toInt = 95 from rfl, show (96 : Int32).toInt = 96 from rfl, show (97 : Int32).toInt = 97 from rfl, show (122 : Int32).toInt = 122 from rfl, show (124 : Int32).toInt = 124 from rfl, show (126 : Int32).toInt = 126 from rfl] at hb1 hb2 hb35 hb36 hb37 hb38 hb39 hb40 hb41 hb42 hb43; omega)]; rfl, rfl⟩
                      · refine GoKit.iloadN G d10_84 rfl (pc' := 85) rfl ?_
                        refine GoKit.bipush G (43 : Int32) d10_85 rfl (pc' := 87) rfl ?_
                        refine GoKit.icmp_eq G d10_87 (by decide) (pt := 132) (pf := 90) rfl rfl (fun hb44 => ?_) (fun hb44 => ?_)
                        · refine GoKit.iconst G (1 : Int32) d10_132 rfl (pc' := 133) rfl ?_
                          refine GoKit.goto G d10_133 (by decide) (pc' := 137) rfl ?_
                          refine GoKit.retNar G d10_137 (t := .boolean) rfl (by simp) (by decide) (by decide) ?_
                          exact ⟨by rw [if_pos (by unfold tch; simp only [gt_iff_lt, ge_iff_le, ne_eq, Int32.lt_iff_toInt_lt, Int32.le_iff_toInt_le, ← Int32.toInt_inj, show (33 : Int32).toInt = 33 from rfl, show (35 : Int32).toInt = 35 from rfl, show (36 : Int32).toInt = 36 from rfl, show (37 : Int32).toInt = 37 from rfl, show (38 : Int32).toInt = 38 from rfl, show (39 : Int32).toInt = 39 from rfl, show (42 : Int32).toInt = 42 from rfl, show (43 : Int32).toInt = 43 from rfl, show (45 : Int32).toInt = 45 from rfl, show (46 : Int32).toInt = 46 from rfl, show (48 : Int32).toInt = 48 from rfl, show (57 : Int32).toInt = 57 from rfl, show (65 : Int32).toInt = 65 from rfl, show (90 : Int32).toInt = 90 from rfl, show (94 : Int32).toInt = 94 from rfl, show (95 : Int32).toInt = 95 from rfl, show (96 : Int32).toInt = 96 from rfl, show (97 : Int32).toInt = 97 from rfl, show (122 : Int32).toInt = 122 from rfl, show (124 : Int32).toInt = 124 from rfl, show (126 : Int32).toInt = 126 from rfl] at hb1 hb2 hb35 hb36 hb37 hb38 hb39 hb40 hb41 hb42 hb43 hb44; omega)]; rfl, rfl⟩
                        · refine GoKit.iloadN G d10_90 rfl (pc' := 91) rfl ?_
                          refine GoKit.bipush G (45 : Int32) d10_91 rfl (pc' := 93) rfl ?_
                          refine GoKit.icmp_eq G d10_93 (by decide) (pt := 132) (pf := 96) rfl rfl (fun hb45 => ?_) (fun hb45 => ?_)
                          · refine GoKit.iconst G (1 : Int32) d10_132 rfl (pc' := 133) rfl ?_
                            refine GoKit.goto G d10_133 (by decide) (pc' := 137) rfl ?_
                            refine GoKit.retNar G d10_137 (t := .boolean) rfl (by simp) (by decide) (by decide) ?_
                            exact ⟨by rw [if_pos (by unfold tch; simp only [gt_iff_lt, ge_iff_le, ne_eq, Int32.lt_iff_toInt_lt, Int32.le_iff_toInt_le, ← Int32.toInt_inj, show (33 : Int32).toInt = 33 from rfl, show (35 : Int32).toInt = 35 from rfl, show (36 : Int32).toInt = 36 from rfl, show (37 : Int32).toInt = 37 from rfl, show (38 : Int32).toInt = 38 from rfl, show (39 : Int32).toInt = 39 from rfl, show (42 : Int32).toInt = 42 from rfl, show (43 : Int32).toInt = 43 from rfl, show (45 : Int32).toInt = 45 from rfl, show (46 : Int32).toInt = 46 from rfl, show (48 : Int32).toInt = 48 from rfl, show (57 : Int32).toInt = 57 from rfl, show (65 : Int32).toInt = 65 from rfl, show (90 : Int32).toInt = 90 from rfl, show (94 : Int32).toInt = 94 from rfl, show (95 : Int32).toInt = 95 from rfl, show (96 : Int32).toInt = 96 from rfl, show (97 : Int32).toInt = 97 from rfl, show (122 : Int32).toInt = 122 from rfl, show (124 : Int32).toInt = 124 from rfl, show (126 : Int32).toInt = 126 from rfl] at hb1 hb2 hb35 hb36 hb37 hb38 hb39 hb40 hb41 hb42 hb43 hb44 hb45; omega)]; rfl, rfl⟩
                          · refine GoKit.iloadN G d10_96 rfl (pc' := 97) rfl ?_
                            refine GoKit.bipush G (46 : Int32) d10_97 rfl (pc' := 99) rfl ?_
                            refine GoKit.icmp_eq G d10_99 (by decide) (pt := 132) (pf := 102) rfl rfl (fun hb46 => ?_) (fun hb46 => ?_)
                            · refine GoKit.iconst G (1 : Int32) d10_132 rfl (pc' := 133) rfl ?_
                              refine GoKit.goto G d10_133 (by decide) (pc' := 137) rfl ?_
                              refine GoKit.retNar G d10_137 (t := .boolean) rfl (by simp) (by decide) (by decide) ?_
                              exact ⟨by rw [if_pos (by unfold tch; simp only [gt_iff_lt, ge_iff_le, ne_eq, Int32.lt_iff_toInt_lt, Int32.le_iff_toInt_le, ← Int32.toInt_inj, show (33 : Int32).toInt = 33 from rfl, show (35 : Int32).toInt = 35 from rfl, show (36 : Int32).toInt = 36 from rfl, show (37 : Int32).toInt = 37 from rfl, show (38 : Int32).toInt = 38 from rfl, show (39 : Int32).toInt = 39 from rfl, show (42 : Int32).toInt = 42 from rfl, show (43 : Int32).toInt = 43 from rfl, show (45 : Int32).toInt = 45 from rfl, show (46 : Int32).toInt = 46 from rfl, show (48 : Int32).toInt = 48 from rfl, show (57 : Int32).toInt = 57 from rfl, show (65 : Int32).toInt = 65 from rfl, show (90 : Int32).toInt = 90 from rfl, show (94 : Int32).toInt = 94 from rfl, show (95 : Int32).toInt = 95 from rfl, show (96 : Int32).toInt = 96 from rfl, show (97 : Int32).toInt = 97 from rfl, show (122 : Int32).toInt = 122 from rfl, show (124 : Int32).toInt = 124 from rfl, show (126 : Int32).toInt = 126 from rfl] at hb1 hb2 hb35 hb36 hb37 hb38 hb39 hb40 hb41 hb42 hb43 hb44 hb45 hb46; omega)]; rfl, rfl⟩
                            · refine GoKit.iloadN G d10_102 rfl (pc' := 103) rfl ?_
                              refine GoKit.bipush G (94 : Int32) d10_103 rfl (pc' := 105) rfl ?_
                              refine GoKit.icmp_eq G d10_105 (by decide) (pt := 132) (pf := 108) rfl rfl (fun hb47 => ?_) (fun hb47 => ?_)
                              · refine GoKit.iconst G (1 : Int32) d10_132 rfl (pc' := 133) rfl ?_
                                refine GoKit.goto G d10_133 (by decide) (pc' := 137) rfl ?_
                                refine GoKit.retNar G d10_137 (t := .boolean) rfl (by simp) (by decide) (by decide) ?_
                                exact ⟨by rw [if_pos (by unfold tch; simp only [gt_iff_lt, ge_iff_le, ne_eq, Int32.lt_iff_toInt_lt, Int32.le_iff_toInt_le, ← Int32.toInt_inj, show (33 : Int32).toInt = 33 from rfl, show (35 : Int32).toInt = 35 from rfl, show (36 : Int32).toInt = 36 from rfl, show (37 : Int32).toInt = 37 from rfl, show (38 : Int32).toInt = 38 from rfl, show (39 : Int32).toInt = 39 from rfl, show (42 : Int32).toInt = 42 from rfl, show (43 : Int32).toInt = 43 from rfl, show (45 : Int32).toInt = 45 from rfl, show (46 : Int32).toInt = 46 from rfl, show (48 : Int32).toInt = 48 from rfl, show (57 : Int32).toInt = 57 from rfl, show (65 : Int32).toInt = 65 from rfl, show (90 : Int32).toInt = 90 from rfl, show (94 : Int32).toInt = 94 from rfl, show (95 : Int32).toInt = 95 from rfl, show (96 : Int32).toInt = 96 from rfl, show (97 : Int32).toInt = 97 from rfl, show (122 : Int32).toInt = 122 from rfl, show (124 : Int32).toInt = 124 from rfl, show (126 : Int32).toInt = 126 from rfl] at hb1 hb2 hb35 hb36 hb37 hb38 hb39 hb40 hb41 hb42 hb43 hb44 hb45 hb46 hb47; omega)]; rfl, rfl⟩
                              · refine GoKit.iloadN G d10_108 rfl (pc' := 109) rfl ?_
                                refine GoKit.bipush G (95 : Int32) d10_109 rfl (pc' := 111) rfl ?_
                                refine GoKit.icmp_eq G d10_111 (by decide) (pt := 132) (pf := 114) rfl rfl (fun hb48 => ?_) (fun hb48 => ?_)
                                · refine GoKit.iconst G (1 : Int32) d10_132 rfl (pc' := 133) rfl ?_
                                  refine GoKit.goto G d10_133 (by decide) (pc' := 137) rfl ?_
                                  refine GoKit.retNar G d10_137 (t := .boolean) rfl (by simp) (by decide) (by decide) ?_
                                  exact ⟨by rw [if_pos (by unfold tch; simp only [gt_iff_lt, ge_iff_le, ne_eq, Int32.lt_iff_toInt_lt, Int32.le_iff_toInt_le, ← Int32.toInt_inj, show (33 : Int32).toInt = 33 from rfl, show (35 : Int32).toInt = 35 from rfl, show (36 : Int32).toInt = 36 from rfl, show (37 : Int32).toInt = 37 from rfl, show (38 : Int32).toInt = 38 from rfl, show (39 : Int32).toInt = 39 from rfl, show (42 : Int32).toInt = 42 from rfl, show (43 : Int32).toInt = 43 from rfl, show (45 : Int32).toInt = 45 from rfl, show (46 : Int32).toInt = 46 from rfl, show (48 : Int32).toInt = 48 from rfl, show (57 : Int32).toInt = 57 from rfl, show (65 : Int32).toInt = 65 from rfl, show (90 : Int32).toInt = 90 from rfl, show (94 : Int32).toInt = 94 from rfl, show (95 : Int32).toInt = 95 from rfl, show (96 : Int32).toInt = 96 from rfl, show (97 : Int32).toInt = 97 from rfl, show (122 : Int32).toInt = 122 from rfl, show (124 : Int32).toInt = 124 from rfl, show (126 : Int32).toInt = 126 from rfl] at hb1 hb2 hb35 hb36 hb37 hb38 hb39 hb40 hb41 hb42 hb43 hb44 hb45 hb46 hb47 hb48; omega)]; rfl, rfl⟩
                                · refine GoKit.iloadN G d10_114 rfl (pc' := 115) rfl ?_
                                  refine GoKit.bipush G (96 : Int32) d10_115 rfl (pc' := 117) rfl ?_
                                  refine GoKit.icmp_eq G d10_117 (by decide) (pt := 132) (pf := 120) rfl rfl (fun hb49 => ?_) (fun hb49 => ?_)
                                  · refine GoKit.iconst G (1 : Int32) d10_132 rfl (pc' := 133) rfl ?_
                                    refine GoKit.goto G d10_133 (by decide) (pc' := 137) rfl ?_
                                    refine GoKit.retNar G d10_137 (t := .boolean) rfl (by simp) (by decide) (by decide) ?_
                                    exact ⟨by rw [if_pos (by unfold tch; simp only [gt_iff_lt, ge_iff_le, ne_eq, Int32.lt_iff_toInt_lt, Int32.le_iff_toInt_le, ← Int32.toInt_inj, show (33 : Int32).toInt = 33 from rfl, show (35 : Int32).toInt = 35 from rfl, show (36 : Int32).toInt = 36 from rfl, show (37 : Int32).toInt = 37 from rfl, show (38 : Int32).toInt = 38 from rfl, show (39 : Int32).toInt = 39 from rfl, show (42 : Int32).toInt = 42 from rfl, show (43 : Int32).toInt = 43 from rfl, show (45 : Int32).toInt = 45 from rfl, show (46 : Int32).toInt = 46 from rfl, show (48 : Int32).toInt = 48 from rfl, show (57 : Int32).toInt = 57 from rfl, show (65 : Int32).toInt = 65 from rfl, show (90 : Int32).toInt = 90 from rfl, show (94 : Int32).toInt = 94 from rfl, show (95 : Int32).toInt = 95 from rfl, show (96 : Int32).toInt = 96 from rfl, show (97 : Int32).toInt = 97 from rfl, show (122 : Int32).toInt = 122 from rfl, show (124 : Int32).toInt = 124 from rfl, show (126 : Int32).toInt = 126 from rfl] at hb1 hb2 hb35 hb36 hb37 hb38 hb39 hb40 hb41 hb42 hb43 hb44 hb45 hb46 hb47 hb48 hb49; omega)]; rfl, rfl⟩
                                  · refine GoKit.iloadN G d10_120 rfl (pc' := 121) rfl ?_
                                    refine GoKit.bipush G (124 : Int32) d10_121 rfl (pc' := 123) rfl ?_
                                    refine GoKit.icmp_eq G d10_123 (by decide) (pt := 132) (pf := 126) rfl rfl (fun hb50 => ?_) (fun hb50 => ?_)
                                    · refine GoKit.iconst G (1 : Int32) d10_132 rfl (pc' := 133) rfl ?_
                                      refine GoKit.goto G d10_133 (by decide) (pc' := 137) rfl ?_
                                      refine GoKit.retNar G d10_137 (t := .boolean) rfl (by simp) (by decide) (by decide) ?_
                                      exact ⟨by rw [if_pos (by unfold tch; simp only [gt_iff_lt, ge_iff_le, ne_eq, Int32.lt_iff_toInt_lt, Int32.le_iff_toInt_le, ← Int32.toInt_inj, show (33 : Int32).toInt = 33 from rfl, show (35 : Int32).toInt = 35 from rfl, show (36 : Int32).toInt = 36 from rfl, show (37 : Int32).toInt = 37 from rfl, show (38 : Int32).toInt = 38 from rfl, show (39 : Int32).toInt = 39 from rfl, show (42 : Int32).toInt = 42 from rfl, show (43 : Int32).toInt = 43 from rfl, show (45 : Int32).toInt = 45 from rfl, show (46 : Int32).toInt = 46 from rfl, show (48 : Int32).toInt = 48 from rfl, show (57 : Int32).toInt = 57 from rfl, show (65 : Int32).toInt = 65 from rfl, show (90 : Int32).toInt = 90 from rfl, show (94 : Int32).toInt = 94 from rfl, show (95 : Int32).toInt = 95 from rfl, show (96 : Int32).toInt = 96 from rfl, show (97 : Int32).toInt = 97 from rfl, show (122 : Int32).toInt = 122 from rfl, show (124 : Int32).toInt = 124 from rfl, show (126 : Int32).toInt = 126 from rfl] at hb1 hb2 hb35 hb36 hb37 hb38 hb39 hb40 hb41 hb42 hb43 hb44 hb45 hb46 hb47 hb48 hb49 hb50; omega)]; rfl, rfl⟩
                                    · refine GoKit.iloadN G d10_126 rfl (pc' := 127) rfl ?_
                                      refine GoKit.bipush G (126 : Int32) d10_127 rfl (pc' := 129) rfl ?_
                                      refine GoKit.icmp_ne G d10_129 (by decide) (pt := 136) (pf := 132) rfl rfl (fun hb51 => ?_) (fun hb51 => ?_)
                                      · refine GoKit.iconst G (0 : Int32) d10_136 rfl (pc' := 137) rfl ?_
                                        refine GoKit.retNar G d10_137 (t := .boolean) rfl (by simp) (by decide) (by decide) ?_
                                        exact ⟨by rw [if_neg (by unfold tch; simp only [gt_iff_lt, ge_iff_le, ne_eq, Int32.lt_iff_toInt_lt, Int32.le_iff_toInt_le, ← Int32.toInt_inj, show (33 : Int32).toInt = 33 from rfl, show (35 : Int32).toInt = 35 from rfl, show (36 : Int32).toInt = 36 from rfl, show (37 : Int32).toInt = 37 from rfl, show (38 : Int32).toInt = 38 from rfl, show (39 : Int32).toInt = 39 from rfl, show (42 : Int32).toInt = 42 from rfl, show (43 : Int32).toInt = 43 from rfl, show (45 : Int32).toInt = 45 from rfl, show (46 : Int32).toInt = 46 from rfl, show (48 : Int32).toInt = 48 from rfl, show (57 : Int32).toInt = 57 from rfl, show (65 : Int32).toInt = 65 from rfl, show (90 : Int32).toInt = 90 from rfl, show (94 : Int32).toInt = 94 from rfl, show (95 : Int32).toInt = 95 from rfl, show (96 : Int32).toInt = 96 from rfl, show (97 : Int32).toInt = 97 from rfl, show (122 : Int32).toInt = 122 from rfl, show (124 : Int32).toInt = 124 from rfl, show (126 : Int32).toInt = 126 from rfl] at hb1 hb2 hb35 hb36 hb37 hb38 hb39 hb40 hb41 hb42 hb43 hb44 hb45 hb46 hb47 hb48 hb49 hb50 hb51; omega)]; rfl, rfl⟩
                                      · refine GoKit.iconst G (1 : Int32) d10_132 rfl (pc' := 133) rfl ?_
                                        refine GoKit.goto G d10_133 (by decide) (pc' := 137) rfl ?_
                                        refine GoKit.retNar G d10_137 (t := .boolean) rfl (by simp) (by decide) (by decide) ?_
                                        exact ⟨by rw [if_pos (by unfold tch; simp only [gt_iff_lt, ge_iff_le, ne_eq, Int32.lt_iff_toInt_lt, Int32.le_iff_toInt_le, ← Int32.toInt_inj, show (33 : Int32).toInt = 33 from rfl, show (35 : Int32).toInt = 35 from rfl, show (36 : Int32).toInt = 36 from rfl, show (37 : Int32).toInt = 37 from rfl, show (38 : Int32).toInt = 38 from rfl, show (39 : Int32).toInt = 39 from rfl, show (42 : Int32).toInt = 42 from rfl, show (43 : Int32).toInt = 43 from rfl, show (45 : Int32).toInt = 45 from rfl, show (46 : Int32).toInt = 46 from rfl, show (48 : Int32).toInt = 48 from rfl, show (57 : Int32).toInt = 57 from rfl, show (65 : Int32).toInt = 65 from rfl, show (90 : Int32).toInt = 90 from rfl, show (94 : Int32).toInt = 94 from rfl, show (95 : Int32).toInt = 95 from rfl, show (96 : Int32).toInt = 96 from rfl, show (97 : Int32).toInt = 97 from rfl, show (122 : Int32).toInt = 122 from rfl, show (124 : Int32).toInt = 124 from rfl, show (126 : Int32).toInt = 126 from rfl] at hb1 hb2 hb35 hb36 hb37 hb38 hb39 hb40 hb41 hb42 hb43 hb44 hb45 hb46 hb47 hb48 hb49 hb50 hb51; omega)]; rfl, rfl⟩
        · refine GoKit.iloadN G d10_34 rfl (pc' := 35) rfl ?_
          refine GoKit.bipush G (57 : Int32) d10_35 rfl (pc' := 37) rfl ?_
          refine GoKit.icmp_gt G d10_37 (by decide) (pt := 42) (pf := 40) rfl rfl (fun hb52 => ?_) (fun hb52 => ?_)
          · refine GoKit.iloadN G d10_42 rfl (pc' := 43) rfl ?_
            refine GoKit.bipush G (33 : Int32) d10_43 rfl (pc' := 45) rfl ?_
            refine GoKit.icmp_eq G d10_45 (by decide) (pt := 132) (pf := 48) rfl rfl (fun hb53 => ?_) (fun hb53 => ?_)
            · refine GoKit.iconst G (1 : Int32) d10_132 rfl (pc' := 133) rfl ?_
              refine GoKit.goto G d10_133 (by decide) (pc' := 137) rfl ?_
              refine GoKit.retNar G d10_137 (t := .boolean) rfl (by simp) (by decide) (by decide) ?_
              exact ⟨by rw [if_pos (by unfold tch; simp only [gt_iff_lt, ge_iff_le, ne_eq, Int32.lt_iff_toInt_lt, Int32.le_iff_toInt_le, ← Int32.toInt_inj, show (33 : Int32).toInt = 33 from rfl, show (35 : Int32).toInt = 35 from rfl, show (36 : Int32).toInt = 36 from rfl, show (37 : Int32).toInt = 37 from rfl, show (38 : Int32).toInt = 38 from rfl, show (39 : Int32).toInt = 39 from rfl, show (42 : Int32).toInt = 42 from rfl, show (43 : Int32).toInt = 43 from rfl, show (45 : Int32).toInt = 45 from rfl, show (46 : Int32).toInt = 46 from rfl, show (48 : Int32).toInt = 48 from rfl, show (57 : Int32).toInt = 57 from rfl, show (65 : Int32).toInt = 65 from rfl, show (90 : Int32).toInt = 90 from rfl, show (94 : Int32).toInt = 94 from rfl, show (95 : Int32).toInt = 95 from rfl, show (96 : Int32).toInt = 96 from rfl, show (97 : Int32).toInt = 97 from rfl, show (122 : Int32).toInt = 122 from rfl, show (124 : Int32).toInt = 124 from rfl, show (126 : Int32).toInt = 126 from rfl] at hb1 hb2 hb35 hb36 hb52 hb53; omega)]; rfl, rfl⟩
            · refine GoKit.iloadN G d10_48 rfl (pc' := 49) rfl ?_
              refine GoKit.bipush G (35 : Int32) d10_49 rfl (pc' := 51) rfl ?_
              refine GoKit.icmp_eq G d10_51 (by decide) (pt := 132) (pf := 54) rfl rfl (fun hb54 => ?_) (fun hb54 => ?_)
              · refine GoKit.iconst G (1 : Int32) d10_132 rfl (pc' := 133) rfl ?_
                refine GoKit.goto G d10_133 (by decide) (pc' := 137) rfl ?_
                refine GoKit.retNar G d10_137 (t := .boolean) rfl (by simp) (by decide) (by decide) ?_
                exact ⟨by rw [if_pos (by unfold tch; simp only [gt_iff_lt, ge_iff_le, ne_eq, Int32.lt_iff_toInt_lt, Int32.le_iff_toInt_le, ← Int32.toInt_inj, show (33 : Int32).toInt = 33 from rfl, show (35 : Int32).toInt = 35 from rfl, show (36 : Int32).toInt = 36 from rfl, show (37 : Int32).toInt = 37 from rfl, show (38 : Int32).toInt = 38 from rfl, show (39 : Int32).toInt = 39 from rfl, show (42 : Int32).toInt = 42 from rfl, show (43 : Int32).toInt = 43 from rfl, show (45 : Int32).toInt = 45 from rfl, show (46 : Int32).toInt = 46 from rfl, show (48 : Int32).toInt = 48 from rfl, show (57 : Int32).toInt = 57 from rfl, show (65 : Int32).toInt = 65 from rfl, show (90 : Int32).toInt = 90 from rfl, show (94 : Int32).toInt = 94 from rfl, show (95 : Int32).toInt = 95 from rfl, show (96 : Int32).toInt = 96 from rfl, show (97 : Int32).toInt = 97 from rfl, show (122 : Int32).toInt = 122 from rfl, show (124 : Int32).toInt = 124 from rfl, show (126 : Int32).toInt = 126 from rfl] at hb1 hb2 hb35 hb36 hb52 hb53 hb54; omega)]; rfl, rfl⟩
              · refine GoKit.iloadN G d10_54 rfl (pc' := 55) rfl ?_
                refine GoKit.bipush G (36 : Int32) d10_55 rfl (pc' := 57) rfl ?_
                refine GoKit.icmp_eq G d10_57 (by decide) (pt := 132) (pf := 60) rfl rfl (fun hb55 => ?_) (fun hb55 => ?_)
                · refine GoKit.iconst G (1 : Int32) d10_132 rfl (pc' := 133) rfl ?_
                  refine GoKit.goto G d10_133 (by decide) (pc' := 137) rfl ?_
                  refine GoKit.retNar G d10_137 (t := .boolean) rfl (by simp) (by decide) (by decide) ?_
                  exact ⟨by rw [if_pos (by unfold tch; simp only [gt_iff_lt, ge_iff_le, ne_eq, Int32.lt_iff_toInt_lt, Int32.le_iff_toInt_le, ← Int32.toInt_inj, show (33 : Int32).toInt = 33 from rfl, show (35 : Int32).toInt = 35 from rfl, show (36 : Int32).toInt = 36 from rfl, show (37 : Int32).toInt = 37 from rfl, show (38 : Int32).toInt = 38 from rfl, show (39 : Int32).toInt = 39 from rfl, show (42 : Int32).toInt = 42 from rfl, show (43 : Int32).toInt = 43 from rfl, show (45 : Int32).toInt = 45 from rfl, show (46 : Int32).toInt = 46 from rfl, show (48 : Int32).toInt = 48 from rfl, show (57 : Int32).toInt = 57 from rfl, show (65 : Int32).toInt = 65 from rfl, show (90 : Int32).toInt = 90 from rfl, show (94 : Int32).toInt = 94 from rfl, show (95 : Int32).toInt = 95 from rfl, show (96 : Int32).toInt = 96 from rfl, show (97 : Int32).toInt = 97 from rfl, show (122 : Int32).toInt = 122 from rfl, show (124 : Int32).toInt = 124 from rfl, show (126 : Int32).toInt = 126 from rfl] at hb1 hb2 hb35 hb36 hb52 hb53 hb54 hb55; omega)]; rfl, rfl⟩
                · refine GoKit.iloadN G d10_60 rfl (pc' := 61) rfl ?_
                  refine GoKit.bipush G (37 : Int32) d10_61 rfl (pc' := 63) rfl ?_
                  refine GoKit.icmp_eq G d10_63 (by decide) (pt := 132) (pf := 66) rfl rfl (fun hb56 => ?_) (fun hb56 => ?_)
                  · refine GoKit.iconst G (1 : Int32) d10_132 rfl (pc' := 133) rfl ?_
                    refine GoKit.goto G d10_133 (by decide) (pc' := 137) rfl ?_
                    refine GoKit.retNar G d10_137 (t := .boolean) rfl (by simp) (by decide) (by decide) ?_
                    exact ⟨by rw [if_pos (by unfold tch; simp only [gt_iff_lt, ge_iff_le, ne_eq, Int32.lt_iff_toInt_lt, Int32.le_iff_toInt_le, ← Int32.toInt_inj, show (33 : Int32).toInt = 33 from rfl, show (35 : Int32).toInt = 35 from rfl, show (36 : Int32).toInt = 36 from rfl, show (37 : Int32).toInt = 37 from rfl, show (38 : Int32).toInt = 38 from rfl, show (39 : Int32).toInt = 39 from rfl, show (42 : Int32).toInt = 42 from rfl, show (43 : Int32).toInt = 43 from rfl, show (45 : Int32).toInt = 45 from rfl, show (46 : Int32).toInt = 46 from rfl, show (48 : Int32).toInt = 48 from rfl, show (57 : Int32).toInt = 57 from rfl, show (65 : Int32).toInt = 65 from rfl, show (90 : Int32).toInt = 90 from rfl, show (94 : Int32).toInt = 94 from rfl, show (95 : Int32).toInt = 95 from rfl, show (96 : Int32).toInt = 96 from rfl, show (97 : Int32).toInt = 97 from rfl, show (122 : Int32).toInt = 122 from rfl, show (124 : Int32).toInt = 124 from rfl, show (126 : Int32).toInt = 126 from rfl] at hb1 hb2 hb35 hb36 hb52 hb53 hb54 hb55 hb56; omega)]; rfl, rfl⟩
                  · refine GoKit.iloadN G d10_66 rfl (pc' := 67) rfl ?_
                    refine GoKit.bipush G (38 : Int32) d10_67 rfl (pc' := 69) rfl ?_
                    refine GoKit.icmp_eq G d10_69 (by decide) (pt := 132) (pf := 72) rfl rfl (fun hb57 => ?_) (fun hb57 => ?_)
                    · refine GoKit.iconst G (1 : Int32) d10_132 rfl (pc' := 133) rfl ?_
                      refine GoKit.goto G d10_133 (by decide) (pc' := 137) rfl ?_
                      refine GoKit.retNar G d10_137 (t := .boolean) rfl (by simp) (by decide) (by decide) ?_
                      exact ⟨by rw [if_pos (by unfold tch; simp only [gt_iff_lt, ge_iff_le, ne_eq, Int32.lt_iff_toInt_lt, Int32.le_iff_toInt_le, ← Int32.toInt_inj, show (33 : Int32).toInt = 33 from rfl, show (35 : Int32).toInt = 35 from rfl, show (36 : Int32).toInt = 36 from rfl, show (37 : Int32).toInt = 37 from rfl, show (38 : Int32).toInt = 38 from rfl, show (39 : Int32).toInt = 39 from rfl, show (42 : Int32).toInt = 42 from rfl, show (43 : Int32).toInt = 43 from rfl, show (45 : Int32).toInt = 45 from rfl, show (46 : Int32).toInt = 46 from rfl, show (48 : Int32).toInt = 48 from rfl, show (57 : Int32).toInt = 57 from rfl, show (65 : Int32).toInt = 65 from rfl, show (90 : Int32).toInt = 90 from rfl, show (94 : Int32).toInt = 94 from rfl, show (95 : Int32).toInt = 95 from rfl, show (96 : Int32).toInt = 96 from rfl, show (97 : Int32).toInt = 97 from rfl, show (122 : Int32).toInt = 122 from rfl, show (124 : Int32).toInt = 124 from rfl, show (126 : Int32).toInt = 126 from rfl] at hb1 hb2 hb35 hb36 hb52 hb53 hb54 hb55 hb56 hb57; omega)]; rfl, rfl⟩
                    · refine GoKit.iloadN G d10_72 rfl (pc' := 73) rfl ?_
                      refine GoKit.bipush G (39 : Int32) d10_73 rfl (pc' := 75) rfl ?_
                      refine GoKit.icmp_eq G d10_75 (by decide) (pt := 132) (pf := 78) rfl rfl (fun hb58 => ?_) (fun hb58 => ?_)
                      · refine GoKit.iconst G (1 : Int32) d10_132 rfl (pc' := 133) rfl ?_
                        refine GoKit.goto G d10_133 (by decide) (pc' := 137) rfl ?_
                        refine GoKit.retNar G d10_137 (t := .boolean) rfl (by simp) (by decide) (by decide) ?_
                        exact ⟨by rw [if_pos (by unfold tch; simp only [gt_iff_lt, ge_iff_le, ne_eq, Int32.lt_iff_toInt_lt, Int32.le_iff_toInt_le, ← Int32.toInt_inj, show (33 : Int32).toInt = 33 from rfl, show (35 : Int32).toInt = 35 from rfl, show (36 : Int32).toInt = 36 from rfl, show (37 : Int32).toInt = 37 from rfl, show (38 : Int32).toInt = 38 from rfl, show (39 : Int32).toInt = 39 from rfl, show (42 : Int32).toInt = 42 from rfl, show (43 : Int32).toInt = 43 from rfl, show (45 : Int32).toInt = 45 from rfl, show (46 : Int32).toInt = 46 from rfl, show (48 : Int32).toInt = 48 from rfl, show (57 : Int32).toInt = 57 from rfl, show (65 : Int32).toInt = 65 from rfl, show (90 : Int32).toInt = 90 from rfl, show (94 : Int32).toInt = 94 from rfl, show (95 : Int32).toInt = 95 from rfl, show (96 : Int32).toInt = 96 from rfl, show (97 : Int32).toInt = 97 from rfl, show (122 : Int32).toInt = 122 from rfl, show (124 : Int32).toInt = 124 from rfl, show (126 : Int32).toInt = 126 from rfl] at hb1 hb2 hb35 hb36 hb52 hb53 hb54 hb55 hb56 hb57 hb58; omega)]; rfl, rfl⟩
                      · refine GoKit.iloadN G d10_78 rfl (pc' := 79) rfl ?_
                        refine GoKit.bipush G (42 : Int32) d10_79 rfl (pc' := 81) rfl ?_
                        refine GoKit.icmp_eq G d10_81 (by decide) (pt := 132) (pf := 84) rfl rfl (fun hb59 => ?_) (fun hb59 => ?_)
                        · refine GoKit.iconst G (1 : Int32) d10_132 rfl (pc' := 133) rfl ?_
                          refine GoKit.goto G d10_133 (by decide) (pc' := 137) rfl ?_
                          refine GoKit.retNar G d10_137 (t := .boolean) rfl (by simp) (by decide) (by decide) ?_
                          exact ⟨by rw [if_pos (by unfold tch; simp only [gt_iff_lt, ge_iff_le, ne_eq, Int32.lt_iff_toInt_lt, Int32.le_iff_toInt_le, ← Int32.toInt_inj, show (33 : Int32).toInt = 33 from rfl, show (35 : Int32).toInt = 35 from rfl, show (36 : Int32).toInt = 36 from rfl, show (37 : Int32).toInt = 37 from rfl, show (38 : Int32).toInt = 38 from rfl, show (39 : Int32).toInt = 39 from rfl, show (42 : Int32).toInt = 42 from rfl, show (43 : Int32).toInt = 43 from rfl, show (45 : Int32).toInt = 45 from rfl, show (46 : Int32).toInt = 46 from rfl, show (48 : Int32).toInt = 48 from rfl, show (57 : Int32).toInt = 57 from rfl, show (65 : Int32).toInt = 65 from rfl, show (90 : Int32).toInt = 90 from rfl, show (94 : Int32).toInt = 94 from rfl, show (95 : Int32).toInt = 95 from rfl, show (96 : Int32).toInt = 96 from rfl, show (97 : Int32).toInt = 97 from rfl, show (122 : Int32).toInt = 122 from rfl, show (124 : Int32).toInt = 124 from rfl, show (126 : Int32).toInt = 126 from rfl] at hb1 hb2 hb35 hb36 hb52 hb53 hb54 hb55 hb56 hb57 hb58 hb59; omega)]; rfl, rfl⟩
                        · refine GoKit.iloadN G d10_84 rfl (pc' := 85) rfl ?_
                          refine GoKit.bipush G (43 : Int32) d10_85 rfl (pc' := 87) rfl ?_
                          refine GoKit.icmp_eq G d10_87 (by decide) (pt := 132) (pf := 90) rfl rfl (fun hb60 => ?_) (fun hb60 => ?_)
                          · refine GoKit.iconst G (1 : Int32) d10_132 rfl (pc' := 133) rfl ?_
                            refine GoKit.goto G d10_133 (by decide) (pc' := 137) rfl ?_
                            refine GoKit.retNar G d10_137 (t := .boolean) rfl (by simp) (by decide) (by decide) ?_
                            exact ⟨by rw [if_pos (by unfold tch; simp only [gt_iff_lt, ge_iff_le, ne_eq, Int32.lt_iff_toInt_lt, Int32.le_iff_toInt_le, ← Int32.toInt_inj, show (33 : Int32).toInt = 33 from rfl, show (35 : Int32).toInt = 35 from rfl, show (36 : Int32).toInt = 36 from rfl, show (37 : Int32).toInt = 37 from rfl, show (38 : Int32).toInt = 38 from rfl, show (39 : Int32).toInt = 39 from rfl, show (42 : Int32).toInt = 42 from rfl, show (43 : Int32).toInt = 43 from rfl, show (45 : Int32).toInt = 45 from rfl, show (46 : Int32).toInt = 46 from rfl, show (48 : Int32).toInt = 48 from rfl, show (57 : Int32).toInt = 57 from rfl, show (65 : Int32).toInt = 65 from rfl, show (90 : Int32).toInt = 90 from rfl, show (94 : Int32).toInt = 94 from rfl, show (95 : Int32).toInt = 95 from rfl, show (96 : Int32).toInt = 96 from rfl, show (97 : Int32).toInt = 97 from rfl, show (122 : Int32).toInt = 122 from rfl, show (124 : Int32).toInt = 124 from rfl, show (126 : Int32).toInt = 126 from rfl] at hb1 hb2 hb35 hb36 hb52 hb53 hb54 hb55 hb56 hb57 hb58 hb59 hb60; omega)]; rfl, rfl⟩
                          · refine GoKit.iloadN G d10_90 rfl (pc' := 91) rfl ?_
                            refine GoKit.bipush G (45 : Int32) d10_91 rfl (pc' := 93) rfl ?_
                            refine GoKit.icmp_eq G d10_93 (by decide) (pt := 132) (pf := 96) rfl rfl (fun hb61 => ?_) (fun hb61 => ?_)
                            · refine GoKit.iconst G (1 : Int32) d10_132 rfl (pc' := 133) rfl ?_
                              refine GoKit.goto G d10_133 (by decide) (pc' := 137) rfl ?_
                              refine GoKit.retNar G d10_137 (t := .boolean) rfl (by simp) (by decide) (by decide) ?_
                              exact ⟨by rw [if_pos (by unfold tch; simp only [gt_iff_lt, ge_iff_le, ne_eq, Int32.lt_iff_toInt_lt, Int32.le_iff_toInt_le, ← Int32.toInt_inj, show (33 : Int32).toInt = 33 from rfl, show (35 : Int32).toInt = 35 from rfl, show (36 : Int32).toInt = 36 from rfl, show (37 : Int32).toInt = 37 from rfl, show (38 : Int32).toInt = 38 from rfl, show (39 : Int32).toInt = 39 from rfl, show (42 : Int32).toInt = 42 from rfl, show (43 : Int32).toInt = 43 from rfl, show (45 : Int32).toInt = 45 from rfl, show (46 : Int32).toInt = 46 from rfl, show (48 : Int32).toInt = 48 from rfl, show (57 : Int32).toInt = 57 from rfl, show (65 : Int32).toInt = 65 from rfl, show (90 : Int32).toInt = 90 from rfl, show (94 : Int32).toInt = 94 from rfl, show (95 : Int32).toInt = 95 from rfl, show (96 : Int32).toInt = 96 from rfl, show (97 : Int32).toInt = 97 from rfl, show (122 : Int32).toInt = 122 from rfl, show (124 : Int32).toInt = 124 from rfl, show (126 : Int32).toInt = 126 from rfl] at hb1 hb2 hb35 hb36 hb52 hb53 hb54 hb55 hb56 hb57 hb58 hb59 hb60 hb61; omega)]; rfl, rfl⟩
                            · refine GoKit.iloadN G d10_96 rfl (pc' := 97) rfl ?_
                              refine GoKit.bipush G (46 : Int32) d10_97 rfl (pc' := 99) rfl ?_
                              refine GoKit.icmp_eq G d10_99 (by decide) (pt := 132) (pf := 102) rfl rfl (fun hb62 => ?_) (fun hb62 => ?_)
                              · refine GoKit.iconst G (1 : Int32) d10_132 rfl (pc' := 133) rfl ?_
                                refine GoKit.goto G d10_133 (by decide) (pc' := 137) rfl ?_
                                refine GoKit.retNar G d10_137 (t := .boolean) rfl (by simp) (by decide) (by decide) ?_
                                exact ⟨by rw [if_pos (by unfold tch; simp only [gt_iff_lt, ge_iff_le, ne_eq, Int32.lt_iff_toInt_lt, Int32.le_iff_toInt_le, ← Int32.toInt_inj, show (33 : Int32).toInt = 33 from rfl, show (35 : Int32).toInt = 35 from rfl, show (36 : Int32).toInt = 36 from rfl, show (37 : Int32).toInt = 37 from rfl, show (38 : Int32).toInt = 38 from rfl, show (39 : Int32).toInt = 39 from rfl, show (42 : Int32).toInt = 42 from rfl, show (43 : Int32).toInt = 43 from rfl, show (45 : Int32).toInt = 45 from rfl, show (46 : Int32).toInt = 46 from rfl, show (48 : Int32).toInt = 48 from rfl, show (57 : Int32).toInt = 57 from rfl, show (65 : Int32).toInt = 65 from rfl, show (90 : Int32).toInt = 90 from rfl, show (94 : Int32).toInt = 94 from rfl, show (95 : Int32).toInt = 95 from rfl, show (96 : Int32).toInt = 96 from rfl, show (97 : Int32).toInt = 97 from rfl, show (122 : Int32).toInt = 122 from rfl, show (124 : Int32).toInt = 124 from rfl, show (126 : Int32).toInt = 126 from rfl] at hb1 hb2 hb35 hb36 hb52 hb53 hb54 hb55 hb56 hb57 hb58 hb59 hb60 hb61 hb62; omega)]; rfl, rfl⟩
                              · refine GoKit.iloadN G d10_102 rfl (pc' := 103) rfl ?_
                                refine GoKit.bipush G (94 : Int32) d10_103 rfl (pc' := 105) rfl ?_
                                refine GoKit.icmp_eq G d10_105 (by decide) (pt := 132) (pf := 108) rfl rfl (fun hb63 => ?_) (fun hb63 => ?_)
                                · refine GoKit.iconst G (1 : Int32) d10_132 rfl (pc' := 133) rfl ?_
                                  refine GoKit.goto G d10_133 (by decide) (pc' := 137) rfl ?_
                                  refine GoKit.retNar G d10_137 (t := .boolean) rfl (by simp) (by decide) (by decide) ?_
                                  exact ⟨by rw [if_pos (by unfold tch; simp only [gt_iff_lt, ge_iff_le, ne_eq, Int32.lt_iff_toInt_lt, Int32.le_iff_toInt_le, ← Int32.toInt_inj, show (33 : Int32).toInt = 33 from rfl, show (35 : Int32).toInt = 35 from rfl, show (36 : Int32).toInt = 36 from rfl, show (37 : Int32).toInt = 37 from rfl, show (38 : Int32).toInt = 38 from rfl, show (39 : Int32).toInt = 39 from rfl, show (42 : Int32).toInt = 42 from rfl, show (43 : Int32).toInt = 43 from rfl, show (45 : Int32).toInt = 45 from rfl, show (46 : Int32).toInt = 46 from rfl, show (48 : Int32).toInt = 48 from rfl, show (57 : Int32).toInt = 57 from rfl, show (65 : Int32).toInt = 65 from rfl, show (90 : Int32).toInt = 90 from rfl, show (94 : Int32).toInt = 94 from rfl, show (95 : Int32).toInt = 95 from rfl, show (96 : Int32).toInt = 96 from rfl, show (97 : Int32).toInt = 97 from rfl, show (122 : Int32).toInt = 122 from rfl, show (124 : Int32).toInt = 124 from rfl, show (126 : Int32).toInt = 126 from rfl] at hb1 hb2 hb35 hb36 hb52 hb53 hb54 hb55 hb56 hb57 hb58 hb59 hb60 hb61 hb62 hb63; omega)]; rfl, rfl⟩
                                · refine GoKit.iloadN G d10_108 rfl (pc' := 109) rfl ?_
                                  refine GoKit.bipush G (95 : Int32) d10_109 rfl (pc' := 111) rfl ?_
                                  refine GoKit.icmp_eq G d10_111 (by decide) (pt := 132) (pf := 114) rfl rfl (fun hb64 => ?_) (fun hb64 => ?_)
                                  · refine GoKit.iconst G (1 : Int32) d10_132 rfl (pc' := 133) rfl ?_
                                    refine GoKit.goto G d10_133 (by decide) (pc' := 137) rfl ?_
                                    refine GoKit.retNar G d10_137 (t := .boolean) rfl (by simp) (by decide) (by decide) ?_
                                    exact ⟨by rw [if_pos (by unfold tch; simp only [gt_iff_lt, ge_iff_le, ne_eq, Int32.lt_iff_toInt_lt, Int32.le_iff_toInt_le, ← Int32.toInt_inj, show (33 : Int32).toInt = 33 from rfl, show (35 : Int32).toInt = 35 from rfl, show (36 : Int32).toInt = 36 from rfl, show (37 : Int32).toInt = 37 from rfl, show (38 : Int32).toInt = 38 from rfl, show (39 : Int32).toInt = 39 from rfl, show (42 : Int32).toInt = 42 from rfl, show (43 : Int32).toInt = 43 from rfl, show (45 : Int32).toInt = 45 from rfl, show (46 : Int32).toInt = 46 from rfl, show (48 : Int32).toInt = 48 from rfl, show (57 : Int32).toInt = 57 from rfl, show (65 : Int32).toInt = 65 from rfl, show (90 : Int32).toInt = 90 from rfl, show (94 : Int32).toInt = 94 from rfl, show (95 : Int32).toInt = 95 from rfl, show (96 : Int32).toInt = 96 from rfl, show (97 : Int32).toInt = 97 from rfl, show (122 : Int32).toInt = 122 from rfl, show (124 : Int32).toInt = 124 from rfl, show (126 : Int32).toInt = 126 from rfl] at hb1 hb2 hb35 hb36 hb52 hb53 hb54 hb55 hb56 hb57 hb58 hb59 hb60 hb61 hb62 hb63 hb64; omega)]; rfl, rfl⟩
                                  · refine GoKit.iloadN G d10_114 rfl (pc' := 115) rfl ?_
                                    refine GoKit.bipush G (96 : Int32) d10_115 rfl (pc' := 117) rfl ?_
                                    refine GoKit.icmp_eq G d10_117 (by decide) (pt := 132) (pf := 120) rfl rfl (fun hb65 => ?_) (fun hb65 => ?_)
                                    · refine GoKit.iconst G (1 : Int32) d10_132 rfl (pc' := 133) rfl ?_
                                      refine GoKit.goto G d10_133 (by decide) (pc' := 137) rfl ?_
                                      refine GoKit.retNar G d10_137 (t := .boolean) rfl (by simp) (by decide) (by decide) ?_
                                      exact ⟨by rw [if_pos (by unfold tch; simp only [gt_iff_lt, ge_iff_le, ne_eq, Int32.lt_iff_toInt_lt, Int32.le_iff_toInt_le, ← Int32.toInt_inj, show (33 : Int32).toInt = 33 from rfl, show (35 : Int32).toInt = 35 from rfl, show (36 : Int32).toInt = 36 from rfl, show (37 : Int32).toInt = 37 from rfl, show (38 : Int32).toInt = 38 from rfl, show (39 : Int32).toInt = 39 from rfl, show (42 : Int32).toInt = 42 from rfl, show (43 : Int32).toInt = 43 from rfl, show (45 : Int32).toInt = 45 from rfl, show (46 : Int32).toInt = 46 from rfl, show (48 : Int32).toInt = 48 from rfl, show (57 : Int32).toInt = 57 from rfl, show (65 : Int32).toInt = 65 from rfl, show (90 : Int32).toInt = 90 from rfl, show (94 : Int32).toInt = 94 from rfl, show (95 : Int32).toInt = 95 from rfl, show (96 : Int32).toInt = 96 from rfl, show (97 : Int32).toInt = 97 from rfl, show (122 : Int32).toInt = 122 from rfl, show (124 : Int32).toInt = 124 from rfl, show (126 : Int32).toInt = 126 from rfl] at hb1 hb2 hb35 hb36 hb52 hb53 hb54 hb55 hb56 hb57 hb58 hb59 hb60 hb61 hb62 hb63 hb64 hb65; omega)]; rfl, rfl⟩
                                    · refine GoKit.iloadN G d10_120 rfl (pc' := 121) rfl ?_
                                      refine GoKit.bipush G (124 : Int32) d10_121 rfl (pc' := 123) rfl ?_
                                      refine GoKit.icmp_eq G d10_123 (by decide) (pt := 132) (pf := 126) rfl rfl (fun hb66 => ?_) (fun hb66 => ?_)
                                      · refine GoKit.iconst G (1 : Int32) d10_132 rfl (pc' := 133) rfl ?_
                                        refine GoKit.goto G d10_133 (by decide) (pc' := 137) rfl ?_
                                        refine GoKit.retNar G d10_137 (t := .boolean) rfl (by simp) (by decide) (by decide) ?_
                                        exact ⟨by rw [if_pos (by unfold tch; simp only [gt_iff_lt, ge_iff_le, ne_eq, Int32.lt_iff_toInt_lt, Int32.le_iff_toInt_le, ← Int32.toInt_inj, show (33 : Int32).toInt = 33 from rfl, show (35 : Int32).toInt = 35 from rfl, show (36 : Int32).toInt = 36 from rfl, show (37 : Int32).toInt = 37 from rfl, show (38 : Int32).toInt = 38 from rfl, show (39 : Int32).toInt = 39 from rfl, show (42 : Int32).toInt = 42 from rfl, show (43 : Int32).toInt = 43 from rfl, show (45 : Int32).toInt = 45 from rfl, show (46 : Int32).toInt = 46 from rfl, show (48 : Int32).toInt = 48 from rfl, show (57 : Int32).toInt = 57 from rfl, show (65 : Int32).toInt = 65 from rfl, show (90 : Int32).toInt = 90 from rfl, show (94 : Int32).toInt = 94 from rfl, show (95 : Int32).toInt = 95 from rfl, show (96 : Int32).toInt = 96 from rfl, show (97 : Int32).toInt = 97 from rfl, show (122 : Int32).toInt = 122 from rfl, show (124 : Int32).toInt = 124 from rfl, show (126 : Int32).toInt = 126 from rfl] at hb1 hb2 hb35 hb36 hb52 hb53 hb54 hb55 hb56 hb57 hb58 hb59 hb60 hb61 hb62 hb63 hb64 hb65 hb66; omega)]; rfl, rfl⟩
                                      · refine GoKit.iloadN G d10_126 rfl (pc' := 127) rfl ?_
                                        refine GoKit.bipush G (126 : Int32) d10_127 rfl (pc' := 129) rfl ?_
                                        refine GoKit.icmp_ne G d10_129 (by decide) (pt := 136) (pf := 132) rfl rfl (fun hb67 => ?_) (fun hb67 => ?_)
                                        · refine GoKit.iconst G (0 : Int32) d10_136 rfl (pc' := 137) rfl ?_
                                          refine GoKit.retNar G d10_137 (t := .boolean) rfl (by simp) (by decide) (by decide) ?_
                                          exact ⟨by rw [if_neg (by unfold tch; simp only [gt_iff_lt, ge_iff_le, ne_eq, Int32.lt_iff_toInt_lt, Int32.le_iff_toInt_le, ← Int32.toInt_inj, show (33 : Int32).toInt = 33 from rfl, show (35 : Int32).toInt = 35 from rfl, show (36 : Int32).toInt = 36 from rfl, show (37 : Int32).toInt = 37 from rfl, show (38 : Int32).toInt = 38 from rfl, show (39 : Int32).toInt = 39 from rfl, show (42 : Int32).toInt = 42 from rfl, show (43 : Int32).toInt = 43 from rfl, show (45 : Int32).toInt = 45 from rfl, show (46 : Int32).toInt = 46 from rfl, show (48 : Int32).toInt = 48 from rfl, show (57 : Int32).toInt = 57 from rfl, show (65 : Int32).toInt = 65 from rfl, show (90 : Int32).toInt = 90 from rfl, show (94 : Int32).toInt = 94 from rfl, show (95 : Int32).toInt = 95 from rfl, show (96 : Int32).toInt = 96 from rfl, show (97 : Int32).toInt = 97 from rfl, show (122 : Int32).toInt = 122 from rfl, show (124 : Int32).toInt = 124 from rfl, show (126 : Int32).toInt = 126 from rfl] at hb1 hb2 hb35 hb36 hb52 hb53 hb54 hb55 hb56 hb57 hb58 hb59 hb60 hb61 hb62 hb63 hb64 hb65 hb66 hb67; omega)]; rfl, rfl⟩
                                        · refine GoKit.iconst G (1 : Int32) d10_132 rfl (pc' := 133) rfl ?_
                                          refine GoKit.goto G d10_133 (by decide) (pc' := 137) rfl ?_
                                          refine GoKit.retNar G d10_137 (t := .boolean) rfl (by simp) (by decide) (by decide) ?_
                                          exact ⟨by rw [if_pos (by unfold tch; simp only [gt_iff_lt, ge_iff_le, ne_eq, Int32.lt_iff_toInt_lt, Int32.le_iff_toInt_le, ← Int32.toInt_inj, show (33 : Int32).toInt = 33 from rfl, show (35 : Int32).toInt = 35 from rfl, show (36 : Int32).toInt = 36 from rfl, show (37 : Int32).toInt = 37 from rfl, show (38 : Int32).toInt = 38 from rfl, show (39 : Int32).toInt = 39 from rfl, show (42 : Int32).toInt = 42 from rfl, show (43 : Int32).toInt = 43 from rfl, show (45 : Int32).toInt = 45 from rfl, show (46 : Int32).toInt = 46 from rfl, show (48 : Int32).toInt = 48 from rfl, show (57 : Int32).toInt = 57 from rfl, show (65 : Int32).toInt = 65 from rfl, show (90 : Int32).toInt = 90 from rfl, show (94 : Int32).toInt = 94 from rfl, show (95 : Int32).toInt = 95 from rfl, show (96 : Int32).toInt = 96 from rfl, show (97 : Int32).toInt = 97 from rfl, show (122 : Int32).toInt = 122 from rfl, show (124 : Int32).toInt = 124 from rfl, show (126 : Int32).toInt = 126 from rfl] at hb1 hb2 hb35 hb36 hb52 hb53 hb54 hb55 hb56 hb57 hb58 hb59 hb60 hb61 hb62 hb63 hb64 hb65 hb66 hb67; omega)]; rfl, rfl⟩
          · refine GoKit.iconst G (1 : Int32) d10_40 rfl (pc' := 41) rfl ?_
            refine GoKit.retNar G d10_41 (t := .boolean) rfl (by simp) (by decide) (by decide) ?_
            exact ⟨by rw [if_pos (by unfold tch; simp only [gt_iff_lt, ge_iff_le, ne_eq, Int32.lt_iff_toInt_lt, Int32.le_iff_toInt_le, ← Int32.toInt_inj, show (33 : Int32).toInt = 33 from rfl, show (35 : Int32).toInt = 35 from rfl, show (36 : Int32).toInt = 36 from rfl, show (37 : Int32).toInt = 37 from rfl, show (38 : Int32).toInt = 38 from rfl, show (39 : Int32).toInt = 39 from rfl, show (42 : Int32).toInt = 42 from rfl, show (43 : Int32).toInt = 43 from rfl, show (45 : Int32).toInt = 45 from rfl, show (46 : Int32).toInt = 46 from rfl, show (48 : Int32).toInt = 48 from rfl, show (57 : Int32).toInt = 57 from rfl, show (65 : Int32).toInt = 65 from rfl, show (90 : Int32).toInt = 90 from rfl, show (94 : Int32).toInt = 94 from rfl, show (95 : Int32).toInt = 95 from rfl, show (96 : Int32).toInt = 96 from rfl, show (97 : Int32).toInt = 97 from rfl, show (122 : Int32).toInt = 122 from rfl, show (124 : Int32).toInt = 124 from rfl, show (126 : Int32).toInt = 126 from rfl] at hb1 hb2 hb35 hb36 hb52; omega)]; rfl, rfl⟩
      · refine GoKit.iconst G (1 : Int32) d10_26 rfl (pc' := 27) rfl ?_
        refine GoKit.retNar G d10_27 (t := .boolean) rfl (by simp) (by decide) (by decide) ?_
        exact ⟨by rw [if_pos (by unfold tch; simp only [gt_iff_lt, ge_iff_le, ne_eq, Int32.lt_iff_toInt_lt, Int32.le_iff_toInt_le, ← Int32.toInt_inj, show (33 : Int32).toInt = 33 from rfl, show (35 : Int32).toInt = 35 from rfl, show (36 : Int32).toInt = 36 from rfl, show (37 : Int32).toInt = 37 from rfl, show (38 : Int32).toInt = 38 from rfl, show (39 : Int32).toInt = 39 from rfl, show (42 : Int32).toInt = 42 from rfl, show (43 : Int32).toInt = 43 from rfl, show (45 : Int32).toInt = 45 from rfl, show (46 : Int32).toInt = 46 from rfl, show (48 : Int32).toInt = 48 from rfl, show (57 : Int32).toInt = 57 from rfl, show (65 : Int32).toInt = 65 from rfl, show (90 : Int32).toInt = 90 from rfl, show (94 : Int32).toInt = 94 from rfl, show (95 : Int32).toInt = 95 from rfl, show (96 : Int32).toInt = 96 from rfl, show (97 : Int32).toInt = 97 from rfl, show (122 : Int32).toInt = 122 from rfl, show (124 : Int32).toInt = 124 from rfl, show (126 : Int32).toInt = 126 from rfl] at hb1 hb2 hb35; omega)]; rfl, rfl⟩
  · refine GoKit.iloadN G d10_6 rfl (pc' := 7) rfl ?_
    refine GoKit.bipush G (122 : Int32) d10_7 rfl (pc' := 9) rfl ?_
    refine GoKit.icmp_gt G d10_9 (by decide) (pt := 14) (pf := 12) rfl rfl (fun hb68 => ?_) (fun hb68 => ?_)
    · refine GoKit.iloadN G d10_14 rfl (pc' := 15) rfl ?_
      refine GoKit.bipush G (65 : Int32) d10_15 rfl (pc' := 17) rfl ?_
      refine GoKit.icmp_lt G d10_17 (by decide) (pt := 28) (pf := 20) rfl rfl (fun hb69 => ?_) (fun hb69 => ?_)
      · refine GoKit.iloadN G d10_28 rfl (pc' := 29) rfl ?_
        refine GoKit.bipush G (48 : Int32) d10_29 rfl (pc' := 31) rfl ?_
        refine GoKit.icmp_lt G d10_31 (by decide) (pt := 42) (pf := 34) rfl rfl (fun hb70 => ?_) (fun hb70 => ?_)
        · refine GoKit.iloadN G d10_42 rfl (pc' := 43) rfl ?_
          refine GoKit.bipush G (33 : Int32) d10_43 rfl (pc' := 45) rfl ?_
          refine GoKit.icmp_eq G d10_45 (by decide) (pt := 132) (pf := 48) rfl rfl (fun hb71 => ?_) (fun hb71 => ?_)
          · refine GoKit.iconst G (1 : Int32) d10_132 rfl (pc' := 133) rfl ?_
            refine GoKit.goto G d10_133 (by decide) (pc' := 137) rfl ?_
            refine GoKit.retNar G d10_137 (t := .boolean) rfl (by simp) (by decide) (by decide) ?_
            exact ⟨by rw [if_pos (by unfold tch; simp only [gt_iff_lt, ge_iff_le, ne_eq, Int32.lt_iff_toInt_lt, Int32.le_iff_toInt_le, ← Int32.toInt_inj, show (33 : Int32).toInt = 33 from rfl, show (35 : Int32).toInt = 35 from rfl, show (36 : Int32).toInt = 36 from rfl, show (37 : Int32).toInt = 37 from rfl, show (38 : Int32).toInt = 38 from rfl, show (39 : Int32).toInt = 39 from rfl, show (42 : Int32).toInt = 42 from rfl, show (43 : Int32).toInt = 43 from rfl, show (45 : Int32).toInt = 45 from rfl, show (46 : Int32).toInt = 46 from rfl, show (48 : Int32).toInt = 48 from rfl, show (57 : Int32).toInt = 57 from rfl, show (65 : Int32).toInt = 65 from rfl, show (90 : Int32).toInt = 90 from rfl, show (94 : Int32).toInt = 94 from rfl, show (95 : Int32).toInt = 95 from rfl, show (96 : Int32).toInt = 96 from rfl, show (97 : Int32).toInt = 97 from rfl, show (122 : Int32).toInt = 122 from rfl, show (124 : Int32).toInt = 124 from rfl, show (126 : Int32).toInt = 126 from rfl] at hb1 hb68 hb69 hb70 hb71; omega)]; rfl, rfl⟩
          · refine GoKit.iloadN G d10_48 rfl (pc' := 49) rfl ?_
            refine GoKit.bipush G (35 : Int32) d10_49 rfl (pc' := 51) rfl ?_
            refine GoKit.icmp_eq G d10_51 (by decide) (pt := 132) (pf := 54) rfl rfl (fun hb72 => ?_) (fun hb72 => ?_)
            · refine GoKit.iconst G (1 : Int32) d10_132 rfl (pc' := 133) rfl ?_
              refine GoKit.goto G d10_133 (by decide) (pc' := 137) rfl ?_
              refine GoKit.retNar G d10_137 (t := .boolean) rfl (by simp) (by decide) (by decide) ?_
              exact ⟨by rw [if_pos (by unfold tch; simp only [gt_iff_lt, ge_iff_le, ne_eq, Int32.lt_iff_toInt_lt, Int32.le_iff_toInt_le, ← Int32.toInt_inj, show (33 : Int32).toInt = 33 from rfl, show (35 : Int32).toInt = 35 from rfl, show (36 : Int32).toInt = 36 from rfl, show (37 : Int32).toInt = 37 from rfl, show (38 : Int32).toInt = 38 from rfl, show (39 : Int32).toInt = 39 from rfl, show (42 : Int32).toInt = 42 from rfl, show (43 : Int32).toInt = 43 from rfl, show (45 : Int32).toInt = 45 from rfl, show (46 : Int32).toInt = 46 from rfl, show (48 : Int32).toInt = 48 from rfl, show (57 : Int32).toInt = 57 from rfl, show (65 : Int32).toInt = 65 from rfl, show (90 : Int32).toInt = 90 from rfl, show (94 : Int32).toInt = 94 from rfl, show (95 : Int32).toInt = 95 from rfl, show (96 : Int32).toInt = 96 from rfl, show (97 : Int32).toInt = 97 from rfl, show (122 : Int32).toInt = 122 from rfl, show (124 : Int32).toInt = 124 from rfl, show (126 : Int32).toInt = 126 from rfl] at hb1 hb68 hb69 hb70 hb71 hb72; omega)]; rfl, rfl⟩
            · refine GoKit.iloadN G d10_54 rfl (pc' := 55) rfl ?_
              refine GoKit.bipush G (36 : Int32) d10_55 rfl (pc' := 57) rfl ?_
              refine GoKit.icmp_eq G d10_57 (by decide) (pt := 132) (pf := 60) rfl rfl (fun hb73 => ?_) (fun hb73 => ?_)
              · refine GoKit.iconst G (1 : Int32) d10_132 rfl (pc' := 133) rfl ?_
                refine GoKit.goto G d10_133 (by decide) (pc' := 137) rfl ?_
                refine GoKit.retNar G d10_137 (t := .boolean) rfl (by simp) (by decide) (by decide) ?_
                exact ⟨by rw [if_pos (by unfold tch; simp only [gt_iff_lt, ge_iff_le, ne_eq, Int32.lt_iff_toInt_lt, Int32.le_iff_toInt_le, ← Int32.toInt_inj, show (33 : Int32).toInt = 33 from rfl, show (35 : Int32).toInt = 35 from rfl, show (36 : Int32).toInt = 36 from rfl, show (37 : Int32).toInt = 37 from rfl, show (38 : Int32).toInt = 38 from rfl, show (39 : Int32).toInt = 39 from rfl, show (42 : Int32).toInt = 42 from rfl, show (43 : Int32).toInt = 43 from rfl, show (45 : Int32).toInt = 45 from rfl, show (46 : Int32).toInt = 46 from rfl, show (48 : Int32).toInt = 48 from rfl, show (57 : Int32).toInt = 57 from rfl, show (65 : Int32).toInt = 65 from rfl, show (90 : Int32).toInt = 90 from rfl, show (94 : Int32).toInt = 94 from rfl, show (95 : Int32).toInt = 95 from rfl, show (96 : Int32).toInt = 96 from rfl, show (97 : Int32).toInt = 97 from rfl, show (122 : Int32).toInt = 122 from rfl, show (124 : Int32).toInt = 124 from rfl, show (126 : Int32).toInt = 126 from rfl] at hb1 hb68 hb69 hb70 hb71 hb72 hb73; omega)]; rfl, rfl⟩
              · refine GoKit.iloadN G d10_60 rfl (pc' := 61) rfl ?_
                refine GoKit.bipush G (37 : Int32) d10_61 rfl (pc' := 63) rfl ?_
                refine GoKit.icmp_eq G d10_63 (by decide) (pt := 132) (pf := 66) rfl rfl (fun hb74 => ?_) (fun hb74 => ?_)
                · refine GoKit.iconst G (1 : Int32) d10_132 rfl (pc' := 133) rfl ?_
                  refine GoKit.goto G d10_133 (by decide) (pc' := 137) rfl ?_
                  refine GoKit.retNar G d10_137 (t := .boolean) rfl (by simp) (by decide) (by decide) ?_
                  exact ⟨by rw [if_pos (by unfold tch; simp only [gt_iff_lt, ge_iff_le, ne_eq, Int32.lt_iff_toInt_lt, Int32.le_iff_toInt_le, ← Int32.toInt_inj, show (33 : Int32).toInt = 33 from rfl, show (35 : Int32).toInt = 35 from rfl, show (36 : Int32).toInt = 36 from rfl, show (37 : Int32).toInt = 37 from rfl, show (38 : Int32).toInt = 38 from rfl, show (39 : Int32).toInt = 39 from rfl, show (42 : Int32).toInt = 42 from rfl, show (43 : Int32).toInt = 43 from rfl, show (45 : Int32).toInt = 45 from rfl, show (46 : Int32).toInt = 46 from rfl, show (48 : Int32).toInt = 48 from rfl, show (57 : Int32).toInt = 57 from rfl, show (65 : Int32).toInt = 65 from rfl, show (90 : Int32).toInt = 90 from rfl, show (94 : Int32).toInt = 94 from rfl, show (95 : Int32).toInt = 95 from rfl, show (96 : Int32).toInt = 96 from rfl, show (97 : Int32).toInt = 97 from rfl, show (122 : Int32).toInt = 122 from rfl, show (124 : Int32).toInt = 124 from rfl, show (126 : Int32).toInt = 126 from rfl] at hb1 hb68 hb69 hb70 hb71 hb72 hb73 hb74; omega)]; rfl, rfl⟩
                · refine GoKit.iloadN G d10_66 rfl (pc' := 67) rfl ?_
                  refine GoKit.bipush G (38 : Int32) d10_67 rfl (pc' := 69) rfl ?_
                  refine GoKit.icmp_eq G d10_69 (by decide) (pt := 132) (pf := 72) rfl rfl (fun hb75 => ?_) (fun hb75 => ?_)
                  · refine GoKit.iconst G (1 : Int32) d10_132 rfl (pc' := 133) rfl ?_
                    refine GoKit.goto G d10_133 (by decide) (pc' := 137) rfl ?_
                    refine GoKit.retNar G d10_137 (t := .boolean) rfl (by simp) (by decide) (by decide) ?_
                    exact ⟨by rw [if_pos (by unfold tch; simp only [gt_iff_lt, ge_iff_le, ne_eq, Int32.lt_iff_toInt_lt, Int32.le_iff_toInt_le, ← Int32.toInt_inj, show (33 : Int32).toInt = 33 from rfl, show (35 : Int32).toInt = 35 from rfl, show (36 : Int32).toInt = 36 from rfl, show (37 : Int32).toInt = 37 from rfl, show (38 : Int32).toInt = 38 from rfl, show (39 : Int32).toInt = 39 from rfl, show (42 : Int32).toInt = 42 from rfl, show (43 : Int32).toInt = 43 from rfl, show (45 : Int32).toInt = 45 from rfl, show (46 : Int32).toInt = 46 from rfl, show (48 : Int32).toInt = 48 from rfl, show (57 : Int32).toInt = 57 from rfl, show (65 : Int32).toInt = 65 from rfl, show (90 : Int32).toInt = 90 from rfl, show (94 : Int32).toInt = 94 from rfl, show (95 : Int32).toInt = 95 from rfl, show (96 : Int32).toInt = 96 from rfl, show (97 : Int32).toInt = 97 from rfl, show (122 : Int32).toInt = 122 from rfl, show (124 : Int32).toInt = 124 from rfl, show (126 : Int32).toInt = 126 from rfl] at hb1 hb68 hb69 hb70 hb71 hb72 hb73 hb74 hb75; omega)]; rfl, rfl⟩
                  · refine GoKit.iloadN G d10_72 rfl (pc' := 73) rfl ?_
                    refine GoKit.bipush G (39 : Int32) d10_73 rfl (pc' := 75) rfl ?_
                    refine GoKit.icmp_eq G d10_75 (by decide) (pt := 132) (pf := 78) rfl rfl (fun hb76 => ?_) (fun hb76 => ?_)
                    · refine GoKit.iconst G (1 : Int32) d10_132 rfl (pc' := 133) rfl ?_
                      refine GoKit.goto G d10_133 (by decide) (pc' := 137) rfl ?_
                      refine GoKit.retNar G d10_137 (t := .boolean) rfl (by simp) (by decide) (by decide) ?_
                      exact ⟨by rw [if_pos (by unfold tch; simp only [gt_iff_lt, ge_iff_le, ne_eq, Int32.lt_iff_toInt_lt, Int32.le_iff_toInt_le, ← Int32.toInt_inj, show (33 : Int32).toInt = 33 from rfl, show (35 : Int32).toInt = 35 from rfl, show (36 : Int32).toInt = 36 from rfl, show (37 : Int32).toInt = 37 from rfl, show (38 : Int32).toInt = 38 from rfl, show (39 : Int32).toInt = 39 from rfl, show (42 : Int32).toInt = 42 from rfl, show (43 : Int32).toInt = 43 from rfl, show (45 : Int32).toInt = 45 from rfl, show (46 : Int32).toInt = 46 from rfl, show (48 : Int32).toInt = 48 from rfl, show (57 : Int32).toInt = 57 from rfl, show (65 : Int32).toInt = 65 from rfl, show (90 : Int32).toInt = 90 from rfl, show (94 : Int32).toInt = 94 from rfl, show (95 : Int32).toInt = 95 from rfl, show (96 : Int32).toInt = 96 from rfl, show (97 : Int32).toInt = 97 from rfl, show (122 : Int32).toInt = 122 from rfl, show (124 : Int32).toInt = 124 from rfl, show (126 : Int32).toInt = 126 from rfl] at hb1 hb68 hb69 hb70 hb71 hb72 hb73 hb74 hb75 hb76; omega)]; rfl, rfl⟩
                    · refine GoKit.iloadN G d10_78 rfl (pc' := 79) rfl ?_
                      refine GoKit.bipush G (42 : Int32) d10_79 rfl (pc' := 81) rfl ?_
                      refine GoKit.icmp_eq G d10_81 (by decide) (pt := 132) (pf := 84) rfl rfl (fun hb77 => ?_) (fun hb77 => ?_)
                      · refine GoKit.iconst G (1 : Int32) d10_132 rfl (pc' := 133) rfl ?_
                        refine GoKit.goto G d10_133 (by decide) (pc' := 137) rfl ?_
                        refine GoKit.retNar G d10_137 (t := .boolean) rfl (by simp) (by decide) (by decide) ?_
                        exact ⟨by rw [if_pos (by unfold tch; simp only [gt_iff_lt, ge_iff_le, ne_eq, Int32.lt_iff_toInt_lt, Int32.le_iff_toInt_le, ← Int32.toInt_inj, show (33 : Int32).toInt = 33 from rfl, show (35 : Int32).toInt = 35 from rfl, show (36 : Int32).toInt = 36 from rfl, show (37 : Int32).toInt = 37 from rfl, show (38 : Int32).toInt = 38 from rfl, show (39 : Int32).toInt = 39 from rfl, show (42 : Int32).toInt = 42 from rfl, show (43 : Int32).toInt = 43 from rfl, show (45 : Int32).toInt = 45 from rfl, show (46 : Int32).toInt = 46 from rfl, show (48 : Int32).toInt = 48 from rfl, show (57 : Int32).toInt = 57 from rfl, show (65 : Int32).toInt = 65 from rfl, show (90 : Int32).toInt = 90 from rfl, show (94 : Int32).toInt = 94 from rfl, show (95 : Int32).toInt = 95 from rfl, show (96 : Int32).toInt = 96 from rfl, show (97 : Int32).toInt = 97 from rfl, show (122 : Int32).toInt = 122 from rfl, show (124 : Int32).toInt = 124 from rfl, show (126 : Int32).toInt = 126 from rfl] at hb1 hb68 hb69 hb70 hb71 hb72 hb73 hb74 hb75 hb76 hb77; omega)]; rfl, rfl⟩
                      · refine GoKit.iloadN G d10_84 rfl (pc' := 85) rfl ?_
                        refine GoKit.bipush G (43 : Int32) d10_85 rfl (pc' := 87) rfl ?_
                        refine GoKit.icmp_eq G d10_87 (by decide) (pt := 132) (pf := 90) rfl rfl (fun hb78 => ?_) (fun hb78 => ?_)
                        · refine GoKit.iconst G (1 : Int32) d10_132 rfl (pc' := 133) rfl ?_
                          refine GoKit.goto G d10_133 (by decide) (pc' := 137) rfl ?_
                          refine GoKit.retNar G d10_137 (t := .boolean) rfl (by simp) (by decide) (by decide) ?_
                          exact ⟨by rw [if_pos (by unfold tch; simp only [gt_iff_lt, ge_iff_le, ne_eq, Int32.lt_iff_toInt_lt, Int32.le_iff_toInt_le, ← Int32.toInt_inj, show (33 : Int32).toInt = 33 from rfl, show (35 : Int32).toInt = 35 from rfl, show (36 : Int32).toInt = 36 from rfl, show (37 : Int32).toInt = 37 from rfl, show (38 : Int32).toInt = 38 from rfl, show (39 : Int32).toInt = 39 from rfl, show (42 : Int32).toInt = 42 from rfl, show (43 : Int32).toInt = 43 from rfl, show (45 : Int32).toInt = 45 from rfl, show (46 : Int32).toInt = 46 from rfl, show (48 : Int32).toInt = 48 from rfl, show (57 : Int32).toInt = 57 from rfl, show (65 : Int32).toInt = 65 from rfl, show (90 : Int32).toInt = 90 from rfl, show (94 : Int32).toInt = 94 from rfl, show (95 : Int32).toInt = 95 from rfl, show (96 : Int32).toInt = 96 from rfl, show (97 : Int32).toInt = 97 from rfl, show (122 : Int32).toInt = 122 from rfl, show (124 : Int32).toInt = 124 from rfl, show (126 : Int32).toInt = 126 from rfl] at hb1 hb68 hb69 hb70 hb71 hb72 hb73 hb74 hb75 hb76 hb77 hb78; omega)]; rfl, rfl⟩
                        · refine GoKit.iloadN G d10_90 rfl (pc' := 91) rfl ?_
                          refine GoKit.bipush G (45 : Int32) d10_91 rfl (pc' := 93) rfl ?_
                          refine GoKit.icmp_eq G d10_93 (by decide) (pt := 132) (pf := 96) rfl rfl (fun hb79 => ?_) (fun hb79 => ?_)
                          · refine GoKit.iconst G (1 : Int32) d10_132 rfl (pc' := 133) rfl ?_
                            refine GoKit.goto G d10_133 (by decide) (pc' := 137) rfl ?_
                            refine GoKit.retNar G d10_137 (t := .boolean) rfl (by simp) (by decide) (by decide) ?_
                            exact ⟨by rw [if_pos (by unfold tch; simp only [gt_iff_lt, ge_iff_le, ne_eq, Int32.lt_iff_toInt_lt, Int32.le_iff_toInt_le, ← Int32.toInt_inj, show (33 : Int32).toInt = 33 from rfl, show (35 : Int32).toInt = 35 from rfl, show (36 : Int32).toInt = 36 from rfl, show (37 : Int32).toInt = 37 from rfl, show (38 : Int32).toInt = 38 from rfl, show (39 : Int32).toInt = 39 from rfl, show (42 : Int32).toInt = 42 from rfl, show (43 : Int32).toInt = 43 from rfl, show (45 : Int32).toInt = 45 from rfl, show (46 : Int32).toInt = 46 from rfl, show (48 : Int32).toInt = 48 from rfl, show (57 : Int32).toInt = 57 from rfl, show (65 : Int32).toInt = 65 from rfl, show (90 : Int32).toInt = 90 from rfl, show (94 : Int32).toInt = 94 from rfl, show (95 : Int32).toInt = 95 from rfl, show (96 : Int32).toInt = 96 from rfl, show (97 : Int32).toInt = 97 from rfl, show (122 : Int32).toInt = 122 from rfl, show (124 : Int32).toInt = 124 from rfl, show (126 : Int32).toInt = 126 from rfl] at hb1 hb68 hb69 hb70 hb71 hb72 hb73 hb74 hb75 hb76 hb77 hb78 hb79; omega)]; rfl, rfl⟩
                          · refine GoKit.iloadN G d10_96 rfl (pc' := 97) rfl ?_
                            refine GoKit.bipush G (46 : Int32) d10_97 rfl (pc' := 99) rfl ?_
                            refine GoKit.icmp_eq G d10_99 (by decide) (pt := 132) (pf := 102) rfl rfl (fun hb80 => ?_) (fun hb80 => ?_)
                            · refine GoKit.iconst G (1 : Int32) d10_132 rfl (pc' := 133) rfl ?_
                              refine GoKit.goto G d10_133 (by decide) (pc' := 137) rfl ?_
                              refine GoKit.retNar G d10_137 (t := .boolean) rfl (by simp) (by decide) (by decide) ?_
                              exact ⟨by rw [if_pos (by unfold tch; simp only [gt_iff_lt, ge_iff_le, ne_eq, Int32.lt_iff_toInt_lt, Int32.le_iff_toInt_le, ← Int32.toInt_inj, show (33 : Int32).toInt = 33 from rfl, show (35 : Int32).toInt = 35 from rfl, show (36 : Int32).toInt = 36 from rfl, show (37 : Int32).toInt = 37 from rfl, show (38 : Int32).toInt = 38 from rfl, show (39 : Int32).toInt = 39 from rfl, show (42 : Int32).toInt = 42 from rfl, show (43 : Int32).toInt = 43 from rfl, show (45 : Int32).toInt = 45 from rfl, show (46 : Int32).toInt = 46 from rfl, show (48 : Int32).toInt = 48 from rfl, show (57 : Int32).toInt = 57 from rfl, show (65 : Int32).toInt = 65 from rfl, show (90 : Int32).toInt = 90 from rfl, show (94 : Int32).toInt = 94 from rfl, show (95 : Int32).toInt = 95 from rfl, show (96 : Int32).toInt = 96 from rfl, show (97 : Int32).toInt = 97 from rfl, show (122 : Int32).toInt = 122 from rfl, show (124 : Int32).toInt = 124 from rfl, show (126 : Int32).toInt = 126 from rfl] at hb1 hb68 hb69 hb70 hb71 hb72 hb73 hb74 hb75 hb76 hb77 hb78 hb79 hb80; omega)]; rfl, rfl⟩
                            · refine GoKit.iloadN G d10_102 rfl (pc' := 103) rfl ?_
                              refine GoKit.bipush G (94 : Int32) d10_103 rfl (pc' := 105) rfl ?_
                              refine GoKit.icmp_eq G d10_105 (by decide) (pt := 132) (pf := 108) rfl rfl (fun hb81 => ?_) (fun hb81 => ?_)
                              · refine GoKit.iconst G (1 : Int32) d10_132 rfl (pc' := 133) rfl ?_
                                refine GoKit.goto G d10_133 (by decide) (pc' := 137) rfl ?_
                                refine GoKit.retNar G d10_137 (t := .boolean) rfl (by simp) (by decide) (by decide) ?_
                                exact ⟨by rw [if_pos (by unfold tch; simp only [gt_iff_lt, ge_iff_le, ne_eq, Int32.lt_iff_toInt_lt, Int32.le_iff_toInt_le, ← Int32.toInt_inj, show (33 : Int32).toInt = 33 from rfl, show (35 : Int32).toInt = 35 from rfl, show (36 : Int32).toInt = 36 from rfl, show (37 : Int32).toInt = 37 from rfl, show (38 : Int32).toInt = 38 from rfl, show (39 : Int32).toInt = 39 from rfl, show (42 : Int32).toInt = 42 from rfl, show (43 : Int32).toInt = 43 from rfl, show (45 : Int32).toInt = 45 from rfl, show (46 : Int32).toInt = 46 from rfl, show (48 : Int32).toInt = 48 from rfl, show (57 : Int32).toInt = 57 from rfl, show (65 : Int32).toInt = 65 from rfl, show (90 : Int32).toInt = 90 from rfl, show (94 : Int32).toInt = 94 from rfl, show (95 : Int32).toInt = 95 from rfl, show (96 : Int32).toInt = 96 from rfl, show (97 : Int32).toInt = 97 from rfl, show (122 : Int32).toInt = 122 from rfl, show (124 : Int32).toInt = 124 from rfl, show (126 : Int32).toInt = 126 from rfl] at hb1 hb68 hb69 hb70 hb71 hb72 hb73 hb74 hb75 hb76 hb77 hb78 hb79 hb80 hb81; omega)]; rfl, rfl⟩
                              · refine GoKit.iloadN G d10_108 rfl (pc' := 109) rfl ?_
                                refine GoKit.bipush G (95 : Int32) d10_109 rfl (pc' := 111) rfl ?_
                                refine GoKit.icmp_eq G d10_111 (by decide) (pt := 132) (pf := 114) rfl rfl (fun hb82 => ?_) (fun hb82 => ?_)
                                · refine GoKit.iconst G (1 : Int32) d10_132 rfl (pc' := 133) rfl ?_
                                  refine GoKit.goto G d10_133 (by decide) (pc' := 137) rfl ?_
                                  refine GoKit.retNar G d10_137 (t := .boolean) rfl (by simp) (by decide) (by decide) ?_
                                  exact ⟨by rw [if_pos (by unfold tch; simp only [gt_iff_lt, ge_iff_le, ne_eq, Int32.lt_iff_toInt_lt, Int32.le_iff_toInt_le, ← Int32.toInt_inj, show (33 : Int32).toInt = 33 from rfl, show (35 : Int32).toInt = 35 from rfl, show (36 : Int32).toInt = 36 from rfl, show (37 : Int32).toInt = 37 from rfl, show (38 : Int32).toInt = 38 from rfl, show (39 : Int32).toInt = 39 from rfl, show (42 : Int32).toInt = 42 from rfl, show (43 : Int32).toInt = 43 from rfl, show (45 : Int32).toInt = 45 from rfl, show (46 : Int32).toInt = 46 from rfl, show (48 : Int32).toInt = 48 from rfl, show (57 : Int32).toInt = 57 from rfl, show (65 : Int32).toInt = 65 from rfl, show (90 : Int32).toInt = 90 from rfl, show (94 : Int32).toInt = 94 from rfl, show (95 : Int32).toInt = 95 from rfl, show (96 : Int32).toInt = 96 from rfl, show (97 : Int32).toInt = 97 from rfl, show (122 : Int32).toInt = 122 from rfl, show (124 : Int32).toInt = 124 from rfl, show (126 : Int32).toInt = 126 from rfl] at hb1 hb68 hb69 hb70 hb71 hb72 hb73 hb74 hb75 hb76 hb77 hb78 hb79 hb80 hb81 hb82; omega)]; rfl, rfl⟩
                                · refine GoKit.iloadN G d10_114 rfl (pc' := 115) rfl ?_
                                  refine GoKit.bipush G (96 : Int32) d10_115 rfl (pc' := 117) rfl ?_
                                  refine GoKit.icmp_eq G d10_117 (by decide) (pt := 132) (pf := 120) rfl rfl (fun hb83 => ?_) (fun hb83 => ?_)
                                  · refine GoKit.iconst G (1 : Int32) d10_132 rfl (pc' := 133) rfl ?_
                                    refine GoKit.goto G d10_133 (by decide) (pc' := 137) rfl ?_
                                    refine GoKit.retNar G d10_137 (t := .boolean) rfl (by simp) (by decide) (by decide) ?_
                                    exact ⟨by rw [if_pos (by unfold tch; simp only [gt_iff_lt, ge_iff_le, ne_eq, Int32.lt_iff_toInt_lt, Int32.le_iff_toInt_le, ← Int32.toInt_inj, show (33 : Int32).toInt = 33 from rfl, show (35 : Int32).toInt = 35 from rfl, show (36 : Int32).toInt = 36 from rfl, show (37 : Int32).toInt = 37 from rfl, show (38 : Int32).toInt = 38 from rfl, show (39 : Int32).toInt = 39 from rfl, show (42 : Int32).toInt = 42 from rfl, show (43 : Int32).toInt = 43 from rfl, show (45 : Int32).toInt = 45 from rfl, show (46 : Int32).toInt = 46 from rfl, show (48 : Int32).toInt = 48 from rfl, show (57 : Int32).toInt = 57 from rfl, show (65 : Int32).toInt = 65 from rfl, show (90 : Int32).toInt = 90 from rfl, show (94 : Int32).toInt = 94 from rfl, show (95 : Int32).toInt = 95 from rfl, show (96 : Int32).toInt = 96 from rfl, show (97 : Int32).toInt = 97 from rfl, show (122 : Int32).toInt = 122 from rfl, show (124 : Int32).toInt = 124 from rfl, show (126 : Int32).toInt = 126 from rfl] at hb1 hb68 hb69 hb70 hb71 hb72 hb73 hb74 hb75 hb76 hb77 hb78 hb79 hb80 hb81 hb82 hb83; omega)]; rfl, rfl⟩
                                  · refine GoKit.iloadN G d10_120 rfl (pc' := 121) rfl ?_
                                    refine GoKit.bipush G (124 : Int32) d10_121 rfl (pc' := 123) rfl ?_
                                    refine GoKit.icmp_eq G d10_123 (by decide) (pt := 132) (pf := 126) rfl rfl (fun hb84 => ?_) (fun hb84 => ?_)
                                    · refine GoKit.iconst G (1 : Int32) d10_132 rfl (pc' := 133) rfl ?_
                                      refine GoKit.goto G d10_133 (by decide) (pc' := 137) rfl ?_
                                      refine GoKit.retNar G d10_137 (t := .boolean) rfl (by simp) (by decide) (by decide) ?_
                                      exact ⟨by rw [if_pos (by unfold tch; simp only [gt_iff_lt, ge_iff_le, ne_eq, Int32.lt_iff_toInt_lt, Int32.le_iff_toInt_le, ← Int32.toInt_inj, show (33 : Int32).toInt = 33 from rfl, show (35 : Int32).toInt = 35 from rfl, show (36 : Int32).toInt = 36 from rfl, show (37 : Int32).toInt = 37 from rfl, show (38 : Int32).toInt = 38 from rfl, show (39 : Int32).toInt = 39 from rfl, show (42 : Int32).toInt = 42 from rfl, show (43 : Int32).toInt = 43 from rfl, show (45 : Int32).toInt = 45 from rfl, show (46 : Int32).toInt = 46 from rfl, show (48 : Int32).toInt = 48 from rfl, show (57 : Int32).toInt = 57 from rfl, show (65 : Int32).toInt = 65 from rfl, show (90 : Int32).toInt = 90 from rfl, show (94 : Int32).toInt = 94 from rfl, show (95 : Int32).toInt = 95 from rfl, show (96 : Int32).toInt = 96 from rfl, show (97 : Int32).toInt = 97 from rfl, show (122 : Int32).toInt = 122 from rfl, show (124 : Int32).toInt = 124 from rfl, show (126 : Int32).toInt = 126 from rfl] at hb1 hb68 hb69 hb70 hb71 hb72 hb73 hb74 hb75 hb76 hb77 hb78 hb79 hb80 hb81 hb82 hb83 hb84; omega)]; rfl, rfl⟩
                                    · refine GoKit.iloadN G d10_126 rfl (pc' := 127) rfl ?_
                                      refine GoKit.bipush G (126 : Int32) d10_127 rfl (pc' := 129) rfl ?_
                                      refine GoKit.icmp_ne G d10_129 (by decide) (pt := 136) (pf := 132) rfl rfl (fun hb85 => ?_) (fun hb85 => ?_)
                                      · refine GoKit.iconst G (0 : Int32) d10_136 rfl (pc' := 137) rfl ?_
                                        refine GoKit.retNar G d10_137 (t := .boolean) rfl (by simp) (by decide) (by decide) ?_
                                        exact ⟨by rw [if_neg (by unfold tch; simp only [gt_iff_lt, ge_iff_le, ne_eq, Int32.lt_iff_toInt_lt, Int32.le_iff_toInt_le, ← Int32.toInt_inj, show (33 : Int32).toInt = 33 from rfl, show (35 : Int32).toInt = 35 from rfl, show (36 : Int32).toInt = 36 from rfl, show (37 : Int32).toInt = 37 from rfl, show (38 : Int32).toInt = 38 from rfl, show (39 : Int32).toInt = 39 from rfl, show (42 : Int32).toInt = 42 from rfl, show (43 : Int32).toInt = 43 from rfl, show (45 : Int32).toInt = 45 from rfl, show (46 : Int32).toInt = 46 from rfl, show (48 : Int32).toInt = 48 from rfl, show (57 : Int32).toInt = 57 from rfl, show (65 : Int32).toInt = 65 from rfl, show (90 : Int32).toInt = 90 from rfl, show (94 : Int32).toInt = 94 from rfl, show (95 : Int32).toInt = 95 from rfl, show (96 : Int32).toInt = 96 from rfl, show (97 : Int32).toInt = 97 from rfl, show (122 : Int32).toInt = 122 from rfl, show (124 : Int32).toInt = 124 from rfl, show (126 : Int32).toInt = 126 from rfl] at hb1 hb68 hb69 hb70 hb71 hb72 hb73 hb74 hb75 hb76 hb77 hb78 hb79 hb80 hb81 hb82 hb83 hb84 hb85; omega)]; rfl, rfl⟩
                                      · refine GoKit.iconst G (1 : Int32) d10_132 rfl (pc' := 133) rfl ?_
                                        refine GoKit.goto G d10_133 (by decide) (pc' := 137) rfl ?_
                                        refine GoKit.retNar G d10_137 (t := .boolean) rfl (by simp) (by decide) (by decide) ?_
                                        exact ⟨by rw [if_pos (by unfold tch; simp only [gt_iff_lt, ge_iff_le, ne_eq, Int32.lt_iff_toInt_lt, Int32.le_iff_toInt_le, ← Int32.toInt_inj, show (33 : Int32).toInt = 33 from rfl, show (35 : Int32).toInt = 35 from rfl, show (36 : Int32).toInt = 36 from rfl, show (37 : Int32).toInt = 37 from rfl, show (38 : Int32).toInt = 38 from rfl, show (39 : Int32).toInt = 39 from rfl, show (42 : Int32).toInt = 42 from rfl, show (43 : Int32).toInt = 43 from rfl, show (45 : Int32).toInt = 45 from rfl, show (46 : Int32).toInt = 46 from rfl, show (48 : Int32).toInt = 48 from rfl, show (57 : Int32).toInt = 57 from rfl, show (65 : Int32).toInt = 65 from rfl, show (90 : Int32).toInt = 90 from rfl, show (94 : Int32).toInt = 94 from rfl, show (95 : Int32).toInt = 95 from rfl, show (96 : Int32).toInt = 96 from rfl, show (97 : Int32).toInt = 97 from rfl, show (122 : Int32).toInt = 122 from rfl, show (124 : Int32).toInt = 124 from rfl, show (126 : Int32).toInt = 126 from rfl] at hb1 hb68 hb69 hb70 hb71 hb72 hb73 hb74 hb75 hb76 hb77 hb78 hb79 hb80 hb81 hb82 hb83 hb84 hb85; omega)]; rfl, rfl⟩
        · refine GoKit.iloadN G d10_34 rfl (pc' := 35) rfl ?_
          refine GoKit.bipush G (57 : Int32) d10_35 rfl (pc' := 37) rfl ?_
          refine GoKit.icmp_gt G d10_37 (by decide) (pt := 42) (pf := 40) rfl rfl (fun hb86 => ?_) (fun hb86 => ?_)
          · refine GoKit.iloadN G d10_42 rfl (pc' := 43) rfl ?_
            refine GoKit.bipush G (33 : Int32) d10_43 rfl (pc' := 45) rfl ?_
            refine GoKit.icmp_eq G d10_45 (by decide) (pt := 132) (pf := 48) rfl rfl (fun hb87 => ?_) (fun hb87 => ?_)
            · refine GoKit.iconst G (1 : Int32) d10_132 rfl (pc' := 133) rfl ?_
              refine GoKit.goto G d10_133 (by decide) (pc' := 137) rfl ?_
              refine GoKit.retNar G d10_137 (t := .boolean) rfl (by simp) (by decide) (by decide) ?_
              exact ⟨by rw [if_pos (by unfold tch; simp only [gt_iff_lt, ge_iff_le, ne_eq, Int32.lt_iff_toInt_lt, Int32.le_iff_toInt_le, ← Int32.toInt_inj, show (33 : Int32).toInt = 33 from rfl, show (35 : Int32).toInt = 35 from rfl, show (36 : Int32).toInt = 36 from rfl, show (37 : Int32).toInt = 37 from rfl, show (38 : Int32).toInt = 38 from rfl, show (39 : Int32).toInt = 39 from rfl, show (42 : Int32).toInt = 42 from rfl, show (43 : Int32).toInt = 43 from rfl, show (45 : Int32).toInt = 45 from rfl, show (46 : Int32).toInt = 46 from rfl, show (48 : Int32).toInt = 48 from rfl, show (57 : Int32).toInt = 57 from rfl, show (65 : Int32).toInt = 65 from rfl, show (90 : Int32).toInt = 90 from rfl, show (94 : Int32).toInt = 94 from rfl, show (95 : Int32).toInt = 95 from rfl, show (96 : Int32).toInt = 96 from rfl, show (97 : Int32).toInt = 97 from rfl, show (122 : Int32).toInt = 122 from rfl, show (124 : Int32).toInt = 124 from rfl, show (126 : Int32).toInt = 126 from rfl] at hb1 hb68 hb69 hb70 hb86 hb87; omega)]; rfl, rfl⟩
            · refine GoKit.iloadN G d10_48 rfl (pc' := 49) rfl ?_
              refine GoKit.bipush G (35 : Int32) d10_49 rfl (pc' := 51) rfl ?_
              refine GoKit.icmp_eq G d10_51 (by decide) (pt := 132) (pf := 54) rfl rfl (fun hb88 => ?_) (fun hb88 => ?_)
              · refine GoKit.iconst G (1 : Int32) d10_132 rfl (pc' := 133) rfl ?_
                refine GoKit.goto G d10_133 (by decide) (pc' := 137) rfl ?_
                refine GoKit.retNar G d10_137 (t := .boolean) rfl (by simp) (by decide) (by decide) ?_
                exact ⟨by rw [if_pos (by unfold tch; simp only [gt_iff_lt, ge_iff_le, ne_eq, Int32.lt_iff_toInt_lt, Int32.le_iff_toInt_le, ← Int32.toInt_inj, show (33 : Int32).toInt = 33 from rfl, show (35 : Int32).toInt = 35 from rfl, show (36 : Int32).toInt = 36 from rfl, show (37 : Int32).toInt = 37 from rfl, show (38 : Int32).toInt = 38 from rfl, show (39 : Int32).toInt = 39 from rfl, show (42 : Int32).toInt = 42 from rfl, show (43 : Int32).toInt = 43 from rfl, show (45 : Int32).toInt = 45 from rfl, show (46 : Int32).toInt = 46 from rfl, show (48 : Int32).toInt = 48 from rfl, show (57 : Int32).toInt = 57 from rfl, show (65 : Int32).toInt = 65 from rfl, show (90 : Int32).toInt = 90 from rfl, show (94 : Int32).toInt = 94 from rfl, show (95 : Int32).toInt = 95 from rfl, show (96 : Int32).toInt = 96 from rfl, show (97 : Int32).toInt = 97 from rfl, show (122 : Int32).toInt = 122 from rfl, show (124 : Int32).toInt = 124 from rfl, show (126 : Int32).toInt = 126 from rfl] at hb1 hb68 hb69 hb70 hb86 hb87 hb88; omega)]; rfl, rfl⟩
              · refine GoKit.iloadN G d10_54 rfl (pc' := 55) rfl ?_
                refine GoKit.bipush G (36 : Int32) d10_55 rfl (pc' := 57) rfl ?_
                refine GoKit.icmp_eq G d10_57 (by decide) (pt := 132) (pf := 60) rfl rfl (fun hb89 => ?_) (fun hb89 => ?_)
                · refine GoKit.iconst G (1 : Int32) d10_132 rfl (pc' := 133) rfl ?_
                  refine GoKit.goto G d10_133 (by decide) (pc' := 137) rfl ?_
                  refine GoKit.retNar G d10_137 (t := .boolean) rfl (by simp) (by decide) (by decide) ?_
                  exact ⟨by rw [if_pos (by unfold tch; simp only [gt_iff_lt, ge_iff_le, ne_eq, Int32.lt_iff_toInt_lt, Int32.le_iff_toInt_le, ← Int32.toInt_inj, show (33 : Int32).toInt = 33 from rfl, show (35 : Int32).toInt = 35 from rfl, show (36 : Int32).toInt = 36 from rfl, show (37 : Int32).toInt = 37 from rfl, show (38 : Int32).toInt = 38 from rfl, show (39 : Int32).toInt = 39 from rfl, show (42 : Int32).toInt = 42 from rfl, show (43 : Int32).toInt = 43 from rfl, show (45 : Int32).toInt = 45 from rfl, show (46 : Int32).toInt = 46 from rfl, show (48 : Int32).toInt = 48 from rfl, show (57 : Int32).toInt = 57 from rfl, show (65 : Int32).toInt = 65 from rfl, show (90 : Int32).toInt = 90 from rfl, show (94 : Int32).toInt = 94 from rfl, show (95 : Int32).toInt = 95 from rfl, show (96 : Int32).toInt = 96 from rfl, show (97 : Int32).toInt = 97 from rfl, show (122 : Int32).toInt = 122 from rfl, show (124 : Int32).toInt = 124 from rfl, show (126 : Int32).toInt = 126 from rfl] at hb1 hb68 hb69 hb70 hb86 hb87 hb88 hb89; omega)]; rfl, rfl⟩
                · refine GoKit.iloadN G d10_60 rfl (pc' := 61) rfl ?_
                  refine GoKit.bipush G (37 : Int32) d10_61 rfl (pc' := 63) rfl ?_
                  refine GoKit.icmp_eq G d10_63 (by decide) (pt := 132) (pf := 66) rfl rfl (fun hb90 => ?_) (fun hb90 => ?_)
                  · refine GoKit.iconst G (1 : Int32) d10_132 rfl (pc' := 133) rfl ?_
                    refine GoKit.goto G d10_133 (by decide) (pc' := 137) rfl ?_
                    refine GoKit.retNar G d10_137 (t := .boolean) rfl (by simp) (by decide) (by decide) ?_
                    exact ⟨by rw [if_pos (by unfold tch; simp only [gt_iff_lt, ge_iff_le, ne_eq, Int32.lt_iff_toInt_lt, Int32.le_iff_toInt_le, ← Int32.toInt_inj, show (33 : Int32).toInt = 33 from rfl, show (35 : Int32).toInt = 35 from rfl, show (36 : Int32).toInt = 36 from rfl, show (37 : Int32).toInt = 37 from rfl, show (38 : Int32).toInt = 38 from rfl, show (39 : Int32).toInt = 39 from rfl, show (42 : Int32).toInt = 42 from rfl, show (43 : Int32).toInt = 43 from rfl, show (45 : Int32).toInt = 45 from rfl, show (46 : Int32).toInt = 46 from rfl, show (48 : Int32).toInt = 48 from rfl, show (57 : Int32).toInt = 57 from rfl, show (65 : Int32).toInt = 65 from rfl, show (90 : Int32).toInt = 90 from rfl, show (94 : Int32).toInt = 94 from rfl, show (95 : Int32).toInt = 95 from rfl, show (96 : Int32).toInt = 96 from rfl, show (97 : Int32).toInt = 97 from rfl, show (122 : Int32).toInt = 122 from rfl, show (124 : Int32).toInt = 124 from rfl, show (126 : Int32).toInt = 126 from rfl] at hb1 hb68 hb69 hb70 hb86 hb87 hb88 hb89 hb90; omega)]; rfl, rfl⟩
                  · refine GoKit.iloadN G d10_66 rfl (pc' := 67) rfl ?_
                    refine GoKit.bipush G (38 : Int32) d10_67 rfl (pc' := 69) rfl ?_
                    refine GoKit.icmp_eq G d10_69 (by decide) (pt := 132) (pf := 72) rfl rfl (fun hb91 => ?_) (fun hb91 => ?_)
                    · refine GoKit.iconst G (1 : Int32) d10_132 rfl (pc' := 133) rfl ?_
                      refine GoKit.goto G d10_133 (by decide) (pc' := 137) rfl ?_
                      refine GoKit.retNar G d10_137 (t := .boolean) rfl (by simp) (by decide) (by decide) ?_
                      exact ⟨by rw [if_pos (by unfold tch; simp only [gt_iff_lt, ge_iff_le, ne_eq, Int32.lt_iff_toInt_lt, Int32.le_iff_toInt_le, ← Int32.toInt_inj, show (33 : Int32).toInt = 33 from rfl, show (35 : Int32).toInt = 35 from rfl, show (36 : Int32).toInt = 36 from rfl, show (37 : Int32).toInt = 37 from rfl, show (38 : Int32).toInt = 38 from rfl, show (39 : Int32).toInt = 39 from rfl, show (42 : Int32).toInt = 42 from rfl, show (43 : Int32).toInt = 43 from rfl, show (45 : Int32).toInt = 45 from rfl, show (46 : Int32).toInt = 46 from rfl, show (48 : Int32).toInt = 48 from rfl, show (57 : Int32).toInt = 57 from rfl, show (65 : Int32).toInt = 65 from rfl, show (90 : Int32).toInt = 90 from rfl, show (94 : Int32).toInt = 94 from rfl, show (95 : Int32).toInt = 95 from rfl, show (96 : Int32).toInt = 96 from rfl, show (97 : Int32).toInt = 97 from rfl, show (122 : Int32).toInt = 122 from rfl, show (124 : Int32).toInt = 124 from rfl, show (126 : Int32).toInt = 126 from rfl] at hb1 hb68 hb69 hb70 hb86 hb87 hb88 hb89 hb90 hb91; omega)]; rfl, rfl⟩
                    · refine GoKit.iloadN G d10_72 rfl (pc' := 73) rfl ?_
                      refine GoKit.bipush G (39 : Int32) d10_73 rfl (pc' := 75) rfl ?_
                      refine GoKit.icmp_eq G d10_75 (by decide) (pt := 132) (pf := 78) rfl rfl (fun hb92 => ?_) (fun hb92 => ?_)
                      · refine GoKit.iconst G (1 : Int32) d10_132 rfl (pc' := 133) rfl ?_
                        refine GoKit.goto G d10_133 (by decide) (pc' := 137) rfl ?_
                        refine GoKit.retNar G d10_137 (t := .boolean) rfl (by simp) (by decide) (by decide) ?_
                        exact ⟨by rw [if_pos (by unfold tch; simp only [gt_iff_lt, ge_iff_le, ne_eq, Int32.lt_iff_toInt_lt, Int32.le_iff_toInt_le, ← Int32.toInt_inj, show (33 : Int32).toInt = 33 from rfl, show (35 : Int32).toInt = 35 from rfl, show (36 : Int32).toInt = 36 from rfl, show (37 : Int32).toInt = 37 from rfl, show (38 : Int32).toInt = 38 from rfl, show (39 : Int32).toInt = 39 from rfl, show (42 : Int32).toInt = 42 from rfl, show (43 : Int32).toInt = 43 from rfl, show (45 : Int32).toInt = 45 from rfl, show (46 : Int32).toInt = 46 from rfl, show (48 : Int32).toInt = 48 from rfl, show (57 : Int32).toInt = 57 from rfl, show (65 : Int32).toInt = 65 from rfl, show (90 : Int32).toInt = 90 from rfl, show (94 : Int32).toInt = 94 from rfl, show (95 : Int32).toInt = 95 from rfl, show (96 : Int32).toInt = 96 from rfl, show (97 : Int32).toInt = 97 from rfl, show (122 : Int32).toInt = 122 from rfl, show (124 : Int32).toInt = 124 from rfl, show (126 : Int32).toInt = 126 from rfl] at hb1 hb68 hb69 hb70 hb86 hb87 hb88 hb89 hb90 hb91 hb92; omega)]; rfl, rfl⟩
                      · refine GoKit.iloadN G d10_78 rfl (pc' := 79) rfl ?_
                        refine GoKit.bipush G (42 : Int32) d10_79 rfl (pc' := 81) rfl ?_
                        refine GoKit.icmp_eq G d10_81 (by decide) (pt := 132) (pf := 84) rfl rfl (fun hb93 => ?_) (fun hb93 => ?_)
                        · refine GoKit.iconst G (1 : Int32) d10_132 rfl (pc' := 133) rfl ?_
                          refine GoKit.goto G d10_133 (by decide) (pc' := 137) rfl ?_
                          refine GoKit.retNar G d10_137 (t := .boolean) rfl (by simp) (by decide) (by decide) ?_
                          exact ⟨by rw [if_pos (by unfold tch; simp only [gt_iff_lt, ge_iff_le, ne_eq, Int32.lt_iff_toInt_lt, Int32.le_iff_toInt_le, ← Int32.toInt_inj, show (33 : Int32).toInt = 33 from rfl, show (35 : Int32).toInt = 35 from rfl, show (36 : Int32).toInt = 36 from rfl, show (37 : Int32).toInt = 37 from rfl, show (38 : Int32).toInt = 38 from rfl, show (39 : Int32).toInt = 39 from rfl, show (42 : Int32).toInt = 42 from rfl, show (43 : Int32).toInt = 43 from rfl, show (45 : Int32).toInt = 45 from rfl, show (46 : Int32).toInt = 46 from rfl, show (48 : Int32).toInt = 48 from rfl, show (57 : Int32).toInt = 57 from rfl, show (65 : Int32).toInt = 65 from rfl, show (90 : Int32).toInt = 90 from rfl, show (94 : Int32).toInt = 94 from rfl, show (95 : Int32).toInt = 95 from rfl, show (96 : Int32).toInt = 96 from rfl, show (97 : Int32).toInt = 97 from rfl, show (122 : Int32).toInt = 122 from rfl, show (124 : Int32).toInt = 124 from rfl, show (126 : Int32).toInt = 126 from rfl] at hb1 hb68 hb69 hb70 hb86 hb87 hb88 hb89 hb90 hb91 hb92 hb93; omega)]; rfl, rfl⟩
                        · refine GoKit.iloadN G d10_84 rfl (pc' := 85) rfl ?_
                          refine GoKit.bipush G (43 : Int32) d10_85 rfl (pc' := 87) rfl ?_
                          refine GoKit.icmp_eq G d10_87 (by decide) (pt := 132) (pf := 90) rfl rfl (fun hb94 => ?_) (fun hb94 => ?_)
                          · refine GoKit.iconst G (1 : Int32) d10_132 rfl (pc' := 133) rfl ?_
                            refine GoKit.goto G d10_133 (by decide) (pc' := 137) rfl ?_
                            refine GoKit.retNar G d10_137 (t := .boolean) rfl (by simp) (by decide) (by decide) ?_
                            exact ⟨by rw [if_pos (by unfold tch; simp only [gt_iff_lt, ge_iff_le, ne_eq, Int32.lt_iff_toInt_lt, Int32.le_iff_toInt_le, ← Int32.toInt_inj, show (33 : Int32).toInt = 33 from rfl, show (35 : Int32).toInt = 35 from rfl, show (36 : Int32).toInt = 36 from rfl, show (37 : Int32).toInt = 37 from rfl, show (38 : Int32).toInt = 38 from rfl, show (39 : Int32).toInt = 39 from rfl, show (42 : Int32).toInt = 42 from rfl, show (43 : Int32).toInt = 43 from rfl, show (45 : Int32).toInt = 45 from rfl, show (46 : Int32).toInt = 46 from rfl, show (48 : Int32).toInt = 48 from rfl, show (57 : Int32).toInt = 57 from rfl, show (65 : Int32).toInt = 65 from rfl, show (90 : Int32).toInt = 90 from rfl, show (94 : Int32).toInt = 94 from rfl, show (95 : Int32).toInt = 95 from rfl, show (96 : Int32).toInt = 96 from rfl, show (97 : Int32).toInt = 97 from rfl, show (122 : Int32).toInt = 122 from rfl, show (124 : Int32).toInt = 124 from rfl, show (126 : Int32).toInt = 126 from rfl] at hb1 hb68 hb69 hb70 hb86 hb87 hb88 hb89 hb90 hb91 hb92 hb93 hb94; omega)]; rfl, rfl⟩
                          · refine GoKit.iloadN G d10_90 rfl (pc' := 91) rfl ?_
                            refine GoKit.bipush G (45 : Int32) d10_91 rfl (pc' := 93) rfl ?_
                            refine GoKit.icmp_eq G d10_93 (by decide) (pt := 132) (pf := 96) rfl rfl (fun hb95 => ?_) (fun hb95 => ?_)
                            · refine GoKit.iconst G (1 : Int32) d10_132 rfl (pc' := 133) rfl ?_
                              refine GoKit.goto G d10_133 (by decide) (pc' := 137) rfl ?_
                              refine GoKit.retNar G d10_137 (t := .boolean) rfl (by simp) (by decide) (by decide) ?_
                              exact ⟨by rw [if_pos (by unfold tch; simp only [gt_iff_lt, ge_iff_le, ne_eq, Int32.lt_iff_toInt_lt, Int32.le_iff_toInt_le, ← Int32.toInt_inj, show (33 : Int32).toInt = 33 from rfl, show (35 : Int32).toInt = 35 from rfl, show (36 : Int32).toInt = 36 from rfl, show (37 : Int32).toInt = 37 from rfl, show (38 : Int32).toInt = 38 from rfl, show (39 : Int32).toInt = 39 from rfl, show (42 : Int32).toInt = 42 from rfl, show (43 : Int32).toInt = 43 from rfl, show (45 : Int32).toInt = 45 from rfl, show (46 : Int32).toInt = 46 from rfl, show (48 : Int32).toInt = 48 from rfl, show (57 : Int32).toInt = 57 from rfl, show (65 : Int32).toInt = 65 from rfl, show (90 : Int32).toInt = 90 from rfl, show (94 : Int32).toInt = 94 from rfl, show (95 : Int32).toInt = 95 from rfl, show (96 : Int32).toInt = 96 from rfl, show (97 : Int32).toInt = 97 from rfl, show (122 : Int32).toInt = 122 from rfl, show (124 : Int32).toInt = 124 from rfl, show (126 : Int32).toInt = 126 from rfl] at hb1 hb68 hb69 hb70 hb86 hb87 hb88 hb89 hb90 hb91 hb92 hb93 hb94 hb95; omega)]; rfl, rfl⟩
                            · refine GoKit.iloadN G d10_96 rfl (pc' := 97) rfl ?_
                              refine GoKit.bipush G (46 : Int32) d10_97 rfl (pc' := 99) rfl ?_
                              refine GoKit.icmp_eq G d10_99 (by decide) (pt := 132) (pf := 102) rfl rfl (fun hb96 => ?_) (fun hb96 => ?_)
                              · refine GoKit.iconst G (1 : Int32) d10_132 rfl (pc' := 133) rfl ?_
                                refine GoKit.goto G d10_133 (by decide) (pc' := 137) rfl ?_
                                refine GoKit.retNar G d10_137 (t := .boolean) rfl (by simp) (by decide) (by decide) ?_
                                exact ⟨by rw [if_pos (by unfold tch; simp only [gt_iff_lt, ge_iff_le, ne_eq, Int32.lt_iff_toInt_lt, Int32.le_iff_toInt_le, ← Int32.toInt_inj, show (33 : Int32).toInt = 33 from rfl, show (35 : Int32).toInt = 35 from rfl, show (36 : Int32).toInt = 36 from rfl, show (37 : Int32).toInt = 37 from rfl, show (38 : Int32).toInt = 38 from rfl, show (39 : Int32).toInt = 39 from rfl, show (42 : Int32).toInt = 42 from rfl, show (43 : Int32).toInt = 43 from rfl, show (45 : Int32).toInt = 45 from rfl, show (46 : Int32).toInt = 46 from rfl, show (48 : Int32).toInt = 48 from rfl, show (57 : Int32).toInt = 57 from rfl, show (65 : Int32).toInt = 65 from rfl, show (90 : Int32).toInt = 90 from rfl, show (94 : Int32).toInt = 94 from rfl, show (95 : Int32).toInt = 95 from rfl, show (96 : Int32).toInt = 96 from rfl, show (97 : Int32).toInt = 97 from rfl, show (122 : Int32).toInt = 122 from rfl, show (124 : Int32).toInt = 124 from rfl, show (126 : Int32).toInt = 126 from rfl] at hb1 hb68 hb69 hb70 hb86 hb87 hb88 hb89 hb90 hb91 hb92 hb93 hb94 hb95 hb96; omega)]; rfl, rfl⟩
                              · refine GoKit.iloadN G d10_102 rfl (pc' := 103) rfl ?_
                                refine GoKit.bipush G (94 : Int32) d10_103 rfl (pc' := 105) rfl ?_
                                refine GoKit.icmp_eq G d10_105 (by decide) (pt := 132) (pf := 108) rfl rfl (fun hb97 => ?_) (fun hb97 => ?_)
                                · refine GoKit.iconst G (1 : Int32) d10_132 rfl (pc' := 133) rfl ?_
                                  refine GoKit.goto G d10_133 (by decide) (pc' := 137) rfl ?_
                                  refine GoKit.retNar G d10_137 (t := .boolean) rfl (by simp) (by decide) (by decide) ?_
                                  exact ⟨by rw [if_pos (by unfold tch; simp only [gt_iff_lt, ge_iff_le, ne_eq, Int32.lt_iff_toInt_lt, Int32.le_iff_toInt_le, ← Int32.toInt_inj, show (33 : Int32).toInt = 33 from rfl, show (35 : Int32).toInt = 35 from rfl, show (36 : Int32).toInt = 36 from rfl, show (37 : Int32).toInt = 37 from rfl, show (38 : Int32).toInt = 38 from rfl, show (39 : Int32).toInt = 39 from rfl, show (42 : Int32).toInt = 42 from rfl, show (43 : Int32).toInt = 43 from rfl, show (45 : Int32).toInt = 45 from rfl, show (46 : Int32).toInt = 46 from rfl, show (48 : Int32).toInt = 48 from rfl, show (57 : Int32).toInt = 57 from rfl, show (65 : Int32).toInt = 65 from rfl, show (90 : Int32).toInt = 90 from rfl, show (94 : Int32).toInt = 94 from rfl, show (95 : Int32).toInt = 95 from rfl, show (96 : Int32).toInt = 96 from rfl, show (97 : Int32).toInt = 97 from rfl, show (122 : Int32).toInt = 122 from rfl, show (124 : Int32).toInt = 124 from rfl, show (126 : Int32).toInt = 126 from rfl] at hb1 hb68 hb69 hb70 hb86 hb87 hb88 hb89 hb90 hb91 hb92 hb93 hb94 hb95 hb96 hb97; omega)]; rfl, rfl⟩
                                · refine GoKit.iloadN G d10_108 rfl (pc' := 109) rfl ?_
                                  refine GoKit.bipush G (95 : Int32) d10_109 rfl (pc' := 111) rfl ?_
                                  refine GoKit.icmp_eq G d10_111 (by decide) (pt := 132) (pf := 114) rfl rfl (fun hb98 => ?_) (fun hb98 => ?_)
                                  · refine GoKit.iconst G (1 : Int32) d10_132 rfl (pc' := 133) rfl ?_
                                    refine GoKit.goto G d10_133 (by decide) (pc' := 137) rfl ?_
                                    refine GoKit.retNar G d10_137 (t := .boolean) rfl (by simp) (by decide) (by decide) ?_
                                    exact ⟨by rw [if_pos (by unfold tch; simp only [gt_iff_lt, ge_iff_le, ne_eq, Int32.lt_iff_toInt_lt, Int32.le_iff_toInt_le, ← Int32.toInt_inj, show (33 : Int32).toInt = 33 from rfl, show (35 : Int32).toInt = 35 from rfl, show (36 : Int32).toInt = 36 from rfl, show (37 : Int32).toInt = 37 from rfl, show (38 : Int32).toInt = 38 from rfl, show (39 : Int32).toInt = 39 from rfl, show (42 : Int32).toInt = 42 from rfl, show (43 : Int32).toInt = 43 from rfl, show (45 : Int32).toInt = 45 from rfl, show (46 : Int32).toInt = 46 from rfl, show (48 : Int32).toInt = 48 from rfl, show (57 : Int32).toInt = 57 from rfl, show (65 : Int32).toInt = 65 from rfl, show (90 : Int32).toInt = 90 from rfl, show (94 : Int32).toInt = 94 from rfl, show (95 : Int32).toInt = 95 from rfl, show (96 : Int32).toInt = 96 from rfl, show (97 : Int32).toInt = 97 from rfl, show (122 : Int32).toInt = 122 from rfl, show (124 : Int32).toInt = 124 from rfl, show (126 : Int32).toInt = 126 from rfl] at hb1 hb68 hb69 hb70 hb86 hb87 hb88 hb89 hb90 hb91 hb92 hb93 hb94 hb95 hb96 hb97 hb98; omega)]; rfl, rfl⟩
                                  · refine GoKit.iloadN G d10_114 rfl (pc' := 115) rfl ?_
                                    refine GoKit.bipush G (96 : Int32) d10_115 rfl (pc' := 117) rfl ?_
                                    refine GoKit.icmp_eq G d10_117 (by decide) (pt := 132) (pf := 120) rfl rfl (fun hb99 => ?_) (fun hb99 => ?_)
                                    · refine GoKit.iconst G (1 : Int32) d10_132 rfl (pc' := 133) rfl ?_
                                      refine GoKit.goto G d10_133 (by decide) (pc' := 137) rfl ?_
                                      refine GoKit.retNar G d10_137 (t := .boolean) rfl (by simp) (by decide) (by decide) ?_
                                      exact ⟨by rw [if_pos (by unfold tch; simp only [gt_iff_lt, ge_iff_le, ne_eq, Int32.lt_iff_toInt_lt, Int32.le_iff_toInt_le, ← Int32.toInt_inj, show (33 : Int32).toInt = 33 from rfl, show (35 : Int32).toInt = 35 from rfl, show (36 : Int32).toInt = 36 from rfl, show (37 : Int32).toInt = 37 from rfl, show (38 : Int32).toInt = 38 from rfl, show (39 : Int32).toInt = 39 from rfl, show (42 : Int32).toInt = 42 from rfl, show (43 : Int32).toInt = 43 from rfl, show (45 : Int32).toInt = 45 from rfl, show (46 : Int32).toInt = 46 from rfl, show (48 : Int32).toInt = 48 from rfl, show (57 : Int32).toInt = 57 from rfl, show (65 : Int32).toInt = 65 from rfl, show (90 : Int32).toInt = 90 from rfl, show (94 : Int32).toInt = 94 from rfl, show (95 : Int32).toInt = 95 from rfl, show (96 : Int32).toInt = 96 from rfl, show (97 : Int32).toInt = 97 from rfl, show (122 : Int32).toInt = 122 from rfl, show (124 : Int32).toInt = 124 from rfl, show (126 : Int32).toInt = 126 from rfl] at hb1 hb68 hb69 hb70 hb86 hb87 hb88 hb89 hb90 hb91 hb92 hb93 hb94 hb95 hb96 hb97 hb98 hb99; omega)]; rfl, rfl⟩
                                    · refine GoKit.iloadN G d10_120 rfl (pc' := 121) rfl ?_
                                      refine GoKit.bipush G (124 : Int32) d10_121 rfl (pc' := 123) rfl ?_
                                      refine GoKit.icmp_eq G d10_123 (by decide) (pt := 132) (pf := 126) rfl rfl (fun hb100 => ?_) (fun hb100 => ?_)
                                      · refine GoKit.iconst G (1 : Int32) d10_132 rfl (pc' := 133) rfl ?_
                                        refine GoKit.goto G d10_133 (by decide) (pc' := 137) rfl ?_
                                        refine GoKit.retNar G d10_137 (t := .boolean) rfl (by simp) (by decide) (by decide) ?_
                                        exact ⟨by rw [if_pos (by unfold tch; simp only [gt_iff_lt, ge_iff_le, ne_eq, Int32.lt_iff_toInt_lt, Int32.le_iff_toInt_le, ← Int32.toInt_inj, show (33 : Int32).toInt = 33 from rfl, show (35 : Int32).toInt = 35 from rfl, show (36 : Int32).toInt = 36 from rfl, show (37 : Int32).toInt = 37 from rfl, show (38 : Int32).toInt = 38 from rfl, show (39 : Int32).toInt = 39 from rfl, show (42 : Int32).toInt = 42 from rfl, show (43 : Int32).toInt = 43 from rfl, show (45 : Int32).toInt = 45 from rfl, show (46 : Int32).toInt = 46 from rfl, show (48 : Int32).toInt = 48 from rfl, show (57 : Int32).toInt = 57 from rfl, show (65 : Int32).toInt = 65 from rfl, show (90 : Int32).toInt = 90 from rfl, show (94 : Int32).toInt = 94 from rfl, show (95 : Int32).toInt = 95 from rfl, show (96 : Int32).toInt = 96 from rfl, show (97 : Int32).toInt = 97 from rfl, show (122 : Int32).toInt = 122 from rfl, show (124 : Int32).toInt = 124 from rfl, show (126 : Int32).toInt = 126 from rfl] at hb1 hb68 hb69 hb70 hb86 hb87 hb88 hb89 hb90 hb91 hb92 hb93 hb94 hb95 hb96 hb97 hb98 hb99 hb100; omega)]; rfl, rfl⟩
                                      · refine GoKit.iloadN G d10_126 rfl (pc' := 127) rfl ?_
                                        refine GoKit.bipush G (126 : Int32) d10_127 rfl (pc' := 129) rfl ?_
                                        refine GoKit.icmp_ne G d10_129 (by decide) (pt := 136) (pf := 132) rfl rfl (fun hb101 => ?_) (fun hb101 => ?_)
                                        · refine GoKit.iconst G (0 : Int32) d10_136 rfl (pc' := 137) rfl ?_
                                          refine GoKit.retNar G d10_137 (t := .boolean) rfl (by simp) (by decide) (by decide) ?_
                                          exact ⟨by rw [if_neg (by unfold tch; simp only [gt_iff_lt, ge_iff_le, ne_eq, Int32.lt_iff_toInt_lt, Int32.le_iff_toInt_le, ← Int32.toInt_inj, show (33 : Int32).toInt = 33 from rfl, show (35 : Int32).toInt = 35 from rfl, show (36 : Int32).toInt = 36 from rfl, show (37 : Int32).toInt = 37 from rfl, show (38 : Int32).toInt = 38 from rfl, show (39 : Int32).toInt = 39 from rfl, show (42 : Int32).toInt = 42 from rfl, show (43 : Int32).toInt = 43 from rfl, show (45 : Int32).toInt = 45 from rfl, show (46 : Int32).toInt = 46 from rfl, show (48 : Int32).toInt = 48 from rfl, show (57 : Int32).toInt = 57 from rfl, show (65 : Int32).toInt = 65 from rfl, show (90 : Int32).toInt = 90 from rfl, show (94 : Int32).toInt = 94 from rfl, show (95 : Int32).toInt = 95 from rfl, show (96 : Int32).toInt = 96 from rfl, show (97 : Int32).toInt = 97 from rfl, show (122 : Int32).toInt = 122 from rfl, show (124 : Int32).toInt = 124 from rfl, show (126 : Int32).toInt = 126 from rfl] at hb1 hb68 hb69 hb70 hb86 hb87 hb88 hb89 hb90 hb91 hb92 hb93 hb94 hb95 hb96 hb97 hb98 hb99 hb100 hb101; omega)]; rfl, rfl⟩
                                        · refine GoKit.iconst G (1 : Int32) d10_132 rfl (pc' := 133) rfl ?_
                                          refine GoKit.goto G d10_133 (by decide) (pc' := 137) rfl ?_
                                          refine GoKit.retNar G d10_137 (t := .boolean) rfl (by simp) (by decide) (by decide) ?_
                                          exact ⟨by rw [if_pos (by unfold tch; simp only [gt_iff_lt, ge_iff_le, ne_eq, Int32.lt_iff_toInt_lt, Int32.le_iff_toInt_le, ← Int32.toInt_inj, show (33 : Int32).toInt = 33 from rfl, show (35 : Int32).toInt = 35 from rfl, show (36 : Int32).toInt = 36 from rfl, show (37 : Int32).toInt = 37 from rfl, show (38 : Int32).toInt = 38 from rfl, show (39 : Int32).toInt = 39 from rfl, show (42 : Int32).toInt = 42 from rfl, show (43 : Int32).toInt = 43 from rfl, show (45 : Int32).toInt = 45 from rfl, show (46 : Int32).toInt = 46 from rfl, show (48 : Int32).toInt = 48 from rfl, show (57 : Int32).toInt = 57 from rfl, show (65 : Int32).toInt = 65 from rfl, show (90 : Int32).toInt = 90 from rfl, show (94 : Int32).toInt = 94 from rfl, show (95 : Int32).toInt = 95 from rfl, show (96 : Int32).toInt = 96 from rfl, show (97 : Int32).toInt = 97 from rfl, show (122 : Int32).toInt = 122 from rfl, show (124 : Int32).toInt = 124 from rfl, show (126 : Int32).toInt = 126 from rfl] at hb1 hb68 hb69 hb70 hb86 hb87 hb88 hb89 hb90 hb91 hb92 hb93 hb94 hb95 hb96 hb97 hb98 hb99 hb100 hb101; omega)]; rfl, rfl⟩
          · refine GoKit.iconst G (1 : Int32) d10_40 rfl (pc' := 41) rfl ?_
            refine GoKit.retNar G d10_41 (t := .boolean) rfl (by simp) (by decide) (by decide) ?_
            exact ⟨by rw [if_pos (by unfold tch; simp only [gt_iff_lt, ge_iff_le, ne_eq, Int32.lt_iff_toInt_lt, Int32.le_iff_toInt_le, ← Int32.toInt_inj, show (33 : Int32).toInt = 33 from rfl, show (35 : Int32).toInt = 35 from rfl, show (36 : Int32).toInt = 36 from rfl, show (37 : Int32).toInt = 37 from rfl, show (38 : Int32).toInt = 38 from rfl, show (39 : Int32).toInt = 39 from rfl, show (42 : Int32).toInt = 42 from rfl, show (43 : Int32).toInt = 43 from rfl, show (45 : Int32).toInt = 45 from rfl, show (46 : Int32).toInt = 46 from rfl, show (48 : Int32).toInt = 48 from rfl, show (57 : Int32).toInt = 57 from rfl, show (65 : Int32).toInt = 65 from rfl, show (90 : Int32).toInt = 90 from rfl, show (94 : Int32).toInt = 94 from rfl, show (95 : Int32).toInt = 95 from rfl, show (96 : Int32).toInt = 96 from rfl, show (97 : Int32).toInt = 97 from rfl, show (122 : Int32).toInt = 122 from rfl, show (124 : Int32).toInt = 124 from rfl, show (126 : Int32).toInt = 126 from rfl] at hb1 hb68 hb69 hb70 hb86; omega)]; rfl, rfl⟩
      · refine GoKit.iloadN G d10_20 rfl (pc' := 21) rfl ?_
        refine GoKit.bipush G (90 : Int32) d10_21 rfl (pc' := 23) rfl ?_
        refine GoKit.icmp_gt G d10_23 (by decide) (pt := 28) (pf := 26) rfl rfl (fun hb102 => ?_) (fun hb102 => ?_)
        · refine GoKit.iloadN G d10_28 rfl (pc' := 29) rfl ?_
          refine GoKit.bipush G (48 : Int32) d10_29 rfl (pc' := 31) rfl ?_
          refine GoKit.icmp_lt G d10_31 (by decide) (pt := 42) (pf := 34) rfl rfl (fun hb103 => ?_) (fun hb103 => ?_)
          · refine GoKit.iloadN G d10_42 rfl (pc' := 43) rfl ?_
            refine GoKit.bipush G (33 : Int32) d10_43 rfl (pc' := 45) rfl ?_
            refine GoKit.icmp_eq G d10_45 (by decide) (pt := 132) (pf := 48) rfl rfl (fun hb104 => ?_) (fun hb104 => ?_)
            · refine GoKit.iconst G (1 : Int32) d10_132 rfl (pc' := 133) rfl ?_
              refine GoKit.goto G d10_133 (by decide) (pc' := 137) rfl ?_
              refine GoKit.retNar G d10_137 (t := .boolean) rfl (by simp) (by decide) (by decide) ?_
              exact ⟨by rw [if_pos (by unfold tch; simp only [gt_iff_lt, ge_iff_le, ne_eq, Int32.lt_iff_toInt_lt, Int32.le_iff_toInt_le, ← Int32.toInt_inj, show (33 : Int32).toInt = 33 from rfl, show (35 : Int32).toInt = 35 from rfl, show (36 : Int32).toInt = 36 from rfl, show (37 : Int32).toInt = 37 from rfl, show (38 : Int32).toInt = 38 from rfl, show (39 : Int32).toInt = 39 from rfl, show (42 : Int32).toInt = 42 from rfl, show (43 : Int32).toInt = 43 from rfl, show (45 : Int32).toInt = 45 from rfl, show (46 : Int32).toInt = 46 from rfl, show (48 : Int32).toInt = 48 from rfl, show (57 : Int32).toInt = 57 from rfl, show (65 : Int32).toInt = 65 from rfl, show (90 : Int32).toInt = 90 from rfl, show (94 : Int32).toInt = 94 from rfl, show (95 : Int32).toInt = 95 from rfl, show (96 : Int32).toInt = 96 from rfl, show (97 : Int32).toInt = 97 from rfl, show (122 : Int32).toInt = 122 from rfl, show (124 : Int32).toInt = 124 from rfl, show (126 : Int32).toInt = 126 from rfl] at hb1 hb68 hb69 hb102 hb103 hb104; omega)]; rfl, rfl⟩
            · refine GoKit.iloadN G d10_48 rfl (pc' := 49) rfl ?_
              refine GoKit.bipush G (35 : Int32) d10_49 rfl (pc' := 51) rfl ?_
              refine GoKit.icmp_eq G d10_51 (by decide) (pt := 132) (pf := 54) rfl rfl (fun hb105 => ?_) (fun hb105 => ?_)
              · refine GoKit.iconst G (1 : Int32) d10_132 rfl (pc' := 133) rfl ?_
                refine GoKit.goto G d10_133 (by decide) (pc' := 137) rfl ?_
                refine GoKit.retNar G d10_137 (t := .boolean) rfl (by simp) (by decide) (by decide) ?_
                exact ⟨by rw [if_pos (by unfold tch; simp only [gt_iff_lt, ge_iff_le, ne_eq, Int32.lt_iff_toInt_lt, Int32.le_iff_toInt_le, ← Int32.toInt_inj, show (33 : Int32).toInt = 33 from rfl, show (35 : Int32).toInt = 35 from rfl, show (36 : Int32).toInt = 36 from rfl, show (37 : Int32).toInt = 37 from rfl, show (38 : Int32).toInt = 38 from rfl, show (39 : Int32).toInt = 39 from rfl, show (42 : Int32).toInt = 42 from rfl, show (43 : Int32).toInt = 43 from rfl, show (45 : Int32).toInt = 45 from rfl, show (46 : Int32).toInt = 46 from rfl, show (48 : Int32).toInt = 48 from rfl, show (57 : Int32).toInt = 57 from rfl, show (65 : Int32).toInt = 65 from rfl, show (90 : Int32).toInt = 90 from rfl, show (94 : Int32).toInt = 94 from rfl, show (95 : Int32).toInt = 95 from rfl, show (96 : Int32).toInt = 96 from rfl, show (97 : Int32).toInt = 97 from rfl, show (122 : Int32).toInt = 122 from rfl, show (124 : Int32).toInt = 124 from rfl, show (126 : Int32).toInt = 126 from rfl] at hb1 hb68 hb69 hb102 hb103 hb104 hb105; omega)]; rfl, rfl⟩
              · refine GoKit.iloadN G d10_54 rfl (pc' := 55) rfl ?_
                refine GoKit.bipush G (36 : Int32) d10_55 rfl (pc' := 57) rfl ?_
                refine GoKit.icmp_eq G d10_57 (by decide) (pt := 132) (pf := 60) rfl rfl (fun hb106 => ?_) (fun hb106 => ?_)
                · refine GoKit.iconst G (1 : Int32) d10_132 rfl (pc' := 133) rfl ?_
                  refine GoKit.goto G d10_133 (by decide) (pc' := 137) rfl ?_
                  refine GoKit.retNar G d10_137 (t := .boolean) rfl (by simp) (by decide) (by decide) ?_
                  exact ⟨by rw [if_pos (by unfold tch; simp only [gt_iff_lt, ge_iff_le, ne_eq, Int32.lt_iff_toInt_lt, Int32.le_iff_toInt_le, ← Int32.toInt_inj, show (33 : Int32).toInt = 33 from rfl, show (35 : Int32).toInt = 35 from rfl, show (36 : Int32).toInt = 36 from rfl, show (37 : Int32).toInt = 37 from rfl, show (38 : Int32).toInt = 38 from rfl, show (39 : Int32).toInt = 39 from rfl, show (42 : Int32).toInt = 42 from rfl, show (43 : Int32).toInt = 43 from rfl, show (45 : Int32).toInt = 45 from rfl, show (46 : Int32).toInt = 46 from rfl, show (48 : Int32).toInt = 48 from rfl, show (57 : Int32).toInt = 57 from rfl, show (65 : Int32).toInt = 65 from rfl, show (90 : Int32).toInt = 90 from rfl, show (94 : Int32).toInt = 94 from rfl, show (95 : Int32).toInt = 95 from rfl, show (96 : Int32).toInt = 96 from rfl, show (97 : Int32).toInt = 97 from rfl, show (122 : Int32).toInt = 122 from rfl, show (124 : Int32).toInt = 124 from rfl, show (126 : Int32).toInt = 126 from rfl] at hb1 hb68 hb69 hb102 hb103 hb104 hb105 hb106; omega)]; rfl, rfl⟩
                · refine GoKit.iloadN G d10_60 rfl (pc' := 61) rfl ?_
                  refine GoKit.bipush G (37 : Int32) d10_61 rfl (pc' := 63) rfl ?_
                  refine GoKit.icmp_eq G d10_63 (by decide) (pt := 132) (pf := 66) rfl rfl (fun hb107 => ?_) (fun hb107 => ?_)
                  · refine GoKit.iconst G (1 : Int32) d10_132 rfl (pc' := 133) rfl ?_
                    refine GoKit.goto G d10_133 (by decide) (pc' := 137) rfl ?_
                    refine GoKit.retNar G d10_137 (t := .boolean) rfl (by simp) (by decide) (by decide) ?_
                    exact ⟨by rw [if_pos (by unfold tch; simp only [gt_iff_lt, ge_iff_le, ne_eq, Int32.lt_iff_toInt_lt, Int32.le_iff_toInt_le, ← Int32.toInt_inj, show (33 : Int32).toInt = 33 from rfl, show (35 : Int32).toInt = 35 from rfl, show (36 : Int32).toInt = 36 from rfl, show (37 : Int32).toInt = 37 from rfl, show (38 : Int32).toInt = 38 from rfl, show (39 : Int32).toInt = 39 from rfl, show (42 : Int32).toInt = 42 from rfl, show (43 : Int32).toInt = 43 from rfl, show (45 : Int32).toInt = 45 from rfl, show (46 : Int32).toInt = 46 from rfl, show (48 : Int32).toInt = 48 from rfl, show (57 : Int32).toInt = 57 from rfl, show (65 : Int32).toInt = 65 from rfl, show (90 : Int32).toInt = 90 from rfl, show (94 : Int32).toInt = 94 from rfl, show (95 : Int32).toInt = 95 from rfl, show (96 : Int32).toInt = 96 from rfl, show (97 : Int32).toInt = 97 from rfl, show (122 : Int32).toInt = 122 from rfl, show (124 : Int32).toInt = 124 from rfl, show (126 : Int32).toInt = 126 from rfl] at hb1 hb68 hb69 hb102 hb103 hb104 hb105 hb106 hb107; omega)]; rfl, rfl⟩
                  · refine GoKit.iloadN G d10_66 rfl (pc' := 67) rfl ?_
                    refine GoKit.bipush G (38 : Int32) d10_67 rfl (pc' := 69) rfl ?_
                    refine GoKit.icmp_eq G d10_69 (by decide) (pt := 132) (pf := 72) rfl rfl (fun hb108 => ?_) (fun hb108 => ?_)
                    · refine GoKit.iconst G (1 : Int32) d10_132 rfl (pc' := 133) rfl ?_
                      refine GoKit.goto G d10_133 (by decide) (pc' := 137) rfl ?_
                      refine GoKit.retNar G d10_137 (t := .boolean) rfl (by simp) (by decide) (by decide) ?_
                      exact ⟨by rw [if_pos (by unfold tch; simp only [gt_iff_lt, ge_iff_le, ne_eq, Int32.lt_iff_toInt_lt, Int32.le_iff_toInt_le, ← Int32.toInt_inj, show (33 : Int32).toInt = 33 from rfl, show (35 : Int32).toInt = 35 from rfl, show (36 : Int32).toInt = 36 from rfl, show (37 : Int32).toInt = 37 from rfl, show (38 : Int32).toInt = 38 from rfl, show (39 : Int32).toInt = 39 from rfl, show (42 : Int32).toInt = 42 from rfl, show (43 : Int32).toInt = 43 from rfl, show (45 : Int32).toInt = 45 from rfl, show (46 : Int32).toInt = 46 from rfl, show (48 : Int32).toInt = 48 from rfl, show (57 : Int32).toInt = 57 from rfl, show (65 : Int32).toInt = 65 from rfl, show (90 : Int32).toInt = 90 from rfl, show (94 : Int32).toInt = 94 from rfl, show (95 : Int32).toInt = 95 from rfl, show (96 : Int32).toInt = 96 from rfl, show (97 : Int32).toInt = 97 from rfl, show (122 : Int32).toInt = 122 from rfl, show (124 : Int32).toInt = 124 from rfl, show (126 : Int32).toInt = 126 from rfl] at hb1 hb68 hb69 hb102 hb103 hb104 hb105 hb106 hb107 hb108; omega)]; rfl, rfl⟩
                    · refine GoKit.iloadN G d10_72 rfl (pc' := 73) rfl ?_
                      refine GoKit.bipush G (39 : Int32) d10_73 rfl (pc' := 75) rfl ?_
                      refine GoKit.icmp_eq G d10_75 (by decide) (pt := 132) (pf := 78) rfl rfl (fun hb109 => ?_) (fun hb109 => ?_)
                      · refine GoKit.iconst G (1 : Int32) d10_132 rfl (pc' := 133) rfl ?_
                        refine GoKit.goto G d10_133 (by decide) (pc' := 137) rfl ?_
                        refine GoKit.retNar G d10_137 (t := .boolean) rfl (by simp) (by decide) (by decide) ?_
                        exact ⟨by rw [if_pos (by unfold tch; simp only [gt_iff_lt, ge_iff_le, ne_eq, Int32.lt_iff_toInt_lt, Int32.le_iff_toInt_le, ← Int32.toInt_inj, show (33 : Int32).toInt = 33 from rfl, show (35 : Int32).toInt = 35 from rfl, show (36 : Int32).toInt = 36 from rfl, show (37 : Int32).toInt = 37 from rfl, show (38 : Int32).toInt = 38 from rfl, show (39 : Int32).toInt = 39 from rfl, show (42 : Int32).toInt = 42 from rfl, show (43 : Int32).toInt = 43 from rfl, show (45 : Int32).toInt = 45 from rfl, show (46 : Int32).toInt = 46 from rfl, show (48 : Int32).toInt = 48 from rfl, show (57 : Int32).toInt = 57 from rfl, show (65 : Int32).toInt = 65 from rfl, show (90 : Int32).toInt = 90 from rfl, show (94 : Int32).toInt = 94 from rfl, show (95 : Int32).toInt = 95 from rfl, show (96 : Int32).toInt = 96 from rfl, show (97 : Int32).toInt = 97 from rfl, show (122 : Int32).toInt = 122 from rfl, show (124 : Int32).toInt = 124 from rfl, show (126 : Int32).toInt = 126 from rfl] at hb1 hb68 hb69 hb102 hb103 hb104 hb105 hb106 hb107 hb108 hb109; omega)]; rfl, rfl⟩
                      · refine GoKit.iloadN G d10_78 rfl (pc' := 79) rfl ?_
                        refine GoKit.bipush G (42 : Int32) d10_79 rfl (pc' := 81) rfl ?_
                        refine GoKit.icmp_eq G d10_81 (by decide) (pt := 132) (pf := 84) rfl rfl (fun hb110 => ?_) (fun hb110 => ?_)
                        · refine GoKit.iconst G (1 : Int32) d10_132 rfl (pc' := 133) rfl ?_
                          refine GoKit.goto G d10_133 (by decide) (pc' := 137) rfl ?_
                          refine GoKit.retNar G d10_137 (t := .boolean) rfl (by simp) (by decide) (by decide) ?_
                          exact ⟨by rw [if_pos (by unfold tch; simp only [gt_iff_lt, ge_iff_le, ne_eq, Int32.lt_iff_toInt_lt, Int32.le_iff_toInt_le, ← Int32.toInt_inj, show (33 : Int32).toInt = 33 from rfl, show (35 : Int32).toInt = 35 from rfl, show (36 : Int32).toInt = 36 from rfl, show (37 : Int32).toInt = 37 from rfl, show (38 : Int32).toInt = 38 from rfl, show (39 : Int32).toInt = 39 from rfl, show (42 : Int32).toInt = 42 from rfl, show (43 : Int32).toInt = 43 from rfl, show (45 : Int32).toInt = 45 from rfl, show (46 : Int32).toInt = 46 from rfl, show (48 : Int32).toInt = 48 from rfl, show (57 : Int32).toInt = 57 from rfl, show (65 : Int32).toInt = 65 from rfl, show (90 : Int32).toInt = 90 from rfl, show (94 : Int32).toInt = 94 from rfl, show (95 : Int32).toInt = 95 from rfl, show (96 : Int32).toInt = 96 from rfl, show (97 : Int32).toInt = 97 from rfl, show (122 : Int32).toInt = 122 from rfl, show (124 : Int32).toInt = 124 from rfl, show (126 : Int32).toInt = 126 from rfl] at hb1 hb68 hb69 hb102 hb103 hb104 hb105 hb106 hb107 hb108 hb109 hb110; omega)]; rfl, rfl⟩
                        · refine GoKit.iloadN G d10_84 rfl (pc' := 85) rfl ?_
                          refine GoKit.bipush G (43 : Int32) d10_85 rfl (pc' := 87) rfl ?_
                          refine GoKit.icmp_eq G d10_87 (by decide) (pt := 132) (pf := 90) rfl rfl (fun hb111 => ?_) (fun hb111 => ?_)
                          · refine GoKit.iconst G (1 : Int32) d10_132 rfl (pc' := 133) rfl ?_
                            refine GoKit.goto G d10_133 (by decide) (pc' := 137) rfl ?_
                            refine GoKit.retNar G d10_137 (t := .boolean) rfl (by simp) (by decide) (by decide) ?_
                            exact ⟨by rw [if_pos (by unfold tch; simp only [gt_iff_lt, ge_iff_le, ne_eq, Int32.lt_iff_toInt_lt, Int32.le_iff_toInt_le, ← Int32.toInt_inj, show (33 : Int32).toInt = 33 from rfl, show (35 : Int32).toInt = 35 from rfl, show (36 : Int32).toInt = 36 from rfl, show (37 : Int32).toInt = 37 from rfl, show (38 : Int32).toInt = 38 from rfl, show (39 : Int32).toInt = 39 from rfl, show (42 : Int32).toInt = 42 from rfl, show (43 : Int32).toInt = 43 from rfl, show (45 : Int32).toInt = 45 from rfl, show (46 : Int32).toInt = 46 from rfl, show (48 : Int32).toInt = 48 from rfl, show (57 : Int32).toInt = 57 from rfl, show (65 : Int32).toInt = 65 from rfl, show (90 : Int32).toInt = 90 from rfl, show (94 : Int32).toInt = 94 from rfl, show (95 : Int32).toInt = 95 from rfl, show (96 : Int32).toInt = 96 from rfl, show (97 : Int32).toInt = 97 from rfl, show (122 : Int32).toInt = 122 from rfl, show (124 : Int32).toInt = 124 from rfl, show (126 : Int32).toInt = 126 from rfl] at hb1 hb68 hb69 hb102 hb103 hb104 hb105 hb106 hb107 hb108 hb109 hb110 hb111; omega)]; rfl, rfl⟩
                          · refine GoKit.iloadN G d10_90 rfl (pc' := 91) rfl ?_
                            refine GoKit.bipush G (45 : Int32) d10_91 rfl (pc' := 93) rfl ?_
                            refine GoKit.icmp_eq G d10_93 (by decide) (pt := 132) (pf := 96) rfl rfl (fun hb112 => ?_) (fun hb112 => ?_)
                            · refine GoKit.iconst G (1 : Int32) d10_132 rfl (pc' := 133) rfl ?_
                              refine GoKit.goto G d10_133 (by decide) (pc' := 137) rfl ?_
                              refine GoKit.retNar G d10_137 (t := .boolean) rfl (by simp) (by decide) (by decide) ?_
                              exact ⟨by rw [if_pos (by unfold tch; simp only [gt_iff_lt, ge_iff_le, ne_eq, Int32.lt_iff_toInt_lt, Int32.le_iff_toInt_le, ← Int32.toInt_inj, show (33 : Int32).toInt = 33 from rfl, show (35 : Int32).toInt = 35 from rfl, show (36 : Int32).toInt = 36 from rfl, show (37 : Int32).toInt = 37 from rfl, show (38 : Int32).toInt = 38 from rfl, show (39 : Int32).toInt = 39 from rfl, show (42 : Int32).toInt = 42 from rfl, show (43 : Int32).toInt = 43 from rfl, show (45 : Int32).toInt = 45 from rfl, show (46 : Int32).toInt = 46 from rfl, show (48 : Int32).toInt = 48 from rfl, show (57 : Int32).toInt = 57 from rfl, show (65 : Int32).toInt = 65 from rfl, show (90 : Int32).toInt = 90 from rfl, show (94 : Int32).toInt = 94 from rfl, show (95 : Int32).toInt = 95 from rfl, show (96 : Int32).toInt = 96 from rfl, show (97 : Int32).toInt = 97 from rfl, show (122 : Int32).toInt = 122 from rfl, show (124 : Int32).toInt = 124 from rfl, show (126 : Int32).toInt = 126 from rfl] at hb1 hb68 hb69 hb102 hb103 hb104 hb105 hb106 hb107 hb108 hb109 hb110 hb111 hb112; omega)]; rfl, rfl⟩
                            · refine GoKit.iloadN G d10_96 rfl (pc' := 97) rfl ?_
                              refine GoKit.bipush G (46 : Int32) d10_97 rfl (pc' := 99) rfl ?_
                              refine GoKit.icmp_eq G d10_99 (by decide) (pt := 132) (pf := 102) rfl rfl (fun hb113 => ?_) (fun hb113 => ?_)
                              · refine GoKit.iconst G (1 : Int32) d10_132 rfl (pc' := 133) rfl ?_
                                refine GoKit.goto G d10_133 (by decide) (pc' := 137) rfl ?_
                                refine GoKit.retNar G d10_137 (t := .boolean) rfl (by simp) (by decide) (by decide) ?_
                                exact ⟨by rw [if_pos (by unfold tch; simp only [gt_iff_lt, ge_iff_le, ne_eq, Int32.lt_iff_toInt_lt, Int32.le_iff_toInt_le, ← Int32.toInt_inj, show (33 : Int32).toInt = 33 from rfl, show (35 : Int32).toInt = 35 from rfl, show (36 : Int32).toInt = 36 from rfl, show (37 : Int32).toInt = 37 from rfl, show (38 : Int32).toInt = 38 from rfl, show (39 : Int32).toInt = 39 from rfl, show (42 : Int32).toInt = 42 from rfl, show (43 : Int32).toInt = 43 from rfl, show (45 : Int32).toInt = 45 from rfl, show (46 : Int32).toInt = 46 from rfl, show (48 : Int32).toInt = 48 from rfl, show (57 : Int32).toInt = 57 from rfl, show (65 : Int32).toInt = 65 from rfl, show (90 : Int32).toInt = 90 from rfl, show (94 : Int32).toInt = 94 from rfl, show (95 : Int32).toInt = 95 from rfl, show (96 : Int32).toInt = 96 from rfl, show (97 : Int32).toInt = 97 from rfl, show (122 : Int32).toInt = 122 from rfl, show (124 : Int32).toInt = 124 from rfl, show (126 : Int32).toInt = 126 from rfl] at hb1 hb68 hb69 hb102 hb103 hb104 hb105 hb106 hb107 hb108 hb109 hb110 hb111 hb112 hb113; omega)]; rfl, rfl⟩
                              · refine GoKit.iloadN G d10_102 rfl (pc' := 103) rfl ?_
                                refine GoKit.bipush G (94 : Int32) d10_103 rfl (pc' := 105) rfl ?_
                                refine GoKit.icmp_eq G d10_105 (by decide) (pt := 132) (pf := 108) rfl rfl (fun hb114 => ?_) (fun hb114 => ?_)
                                · refine GoKit.iconst G (1 : Int32) d10_132 rfl (pc' := 133) rfl ?_
                                  refine GoKit.goto G d10_133 (by decide) (pc' := 137) rfl ?_
                                  refine GoKit.retNar G d10_137 (t := .boolean) rfl (by simp) (by decide) (by decide) ?_
                                  exact ⟨by rw [if_pos (by unfold tch; simp only [gt_iff_lt, ge_iff_le, ne_eq, Int32.lt_iff_toInt_lt, Int32.le_iff_toInt_le, ← Int32.toInt_inj, show (33 : Int32).toInt = 33 from rfl, show (35 : Int32).toInt = 35 from rfl, show (36 : Int32).toInt = 36 from rfl, show (37 : Int32).toInt = 37 from rfl, show (38 : Int32).toInt = 38 from rfl, show (39 : Int32).toInt = 39 from rfl, show (42 : Int32).toInt = 42 from rfl, show (43 : Int32).toInt = 43 from rfl, show (45 : Int32).toInt = 45 from rfl, show (46 : Int32).toInt = 46 from rfl, show (48 : Int32).toInt = 48 from rfl, show (57 : Int32).toInt = 57 from rfl, show (65 : Int32).toInt = 65 from rfl, show (90 : Int32).toInt = 90 from rfl, show (94 : Int32).toInt = 94 from rfl, show (95 : Int32).toInt = 95 from rfl, show (96 : Int32).toInt = 96 from rfl, show (97 : Int32).toInt = 97 from rfl, show (122 : Int32).toInt = 122 from rfl, show (124 : Int32).toInt = 124 from rfl, show (126 : Int32).toInt = 126 from rfl] at hb1 hb68 hb69 hb102 hb103 hb104 hb105 hb106 hb107 hb108 hb109 hb110 hb111 hb112 hb113 hb114; omega)]; rfl, rfl⟩
                                · refine GoKit.iloadN G d10_108 rfl (pc' := 109) rfl ?_
                                  refine GoKit.bipush G (95 : Int32) d10_109 rfl (pc' := 111) rfl ?_
                                  refine GoKit.icmp_eq G d10_111 (by decide) (pt := 132) (pf := 114) rfl rfl (fun hb115 => ?_) (fun hb115 => ?_)
                                  · refine GoKit.iconst G (1 : Int32) d10_132 rfl (pc' := 133) rfl ?_
                                    refine GoKit.goto G d10_133 (by decide) (pc' := 137) rfl ?_
                                    refine GoKit.retNar G d10_137 (t := .boolean) rfl (by simp) (by decide) (by decide) ?_
                                    exact ⟨by rw [if_pos (by unfold tch; simp only [gt_iff_lt, ge_iff_le, ne_eq, Int32.lt_iff_toInt_lt, Int32.le_iff_toInt_le, ← Int32.toInt_inj, show (33 : Int32).toInt = 33 from rfl, show (35 : Int32).toInt = 35 from rfl, show (36 : Int32).toInt = 36 from rfl, show (37 : Int32).toInt = 37 from rfl, show (38 : Int32).toInt = 38 from rfl, show (39 : Int32).toInt = 39 from rfl, show (42 : Int32).toInt = 42 from rfl, show (43 : Int32).toInt = 43 from rfl, show (45 : Int32).toInt = 45 from rfl, show (46 : Int32).toInt = 46 from rfl, show (48 : Int32).toInt = 48 from rfl, show (57 : Int32).toInt = 57 from rfl, show (65 : Int32).toInt = 65 from rfl, show (90 : Int32).toInt = 90 from rfl, show (94 : Int32).toInt = 94 from rfl, show (95 : Int32).toInt = 95 from rfl, show (96 : Int32).toInt = 96 from rfl, show (97 : Int32).toInt = 97 from rfl, show (122 : Int32).toInt = 122 from rfl, show (124 : Int32).toInt = 124 from rfl, show (126 : Int32).toInt = 126 from rfl] at hb1 hb68 hb69 hb102 hb103 hb104 hb105 hb106 hb107 hb108 hb109 hb110 hb111 hb112 hb113 hb114 hb115; omega)]; rfl, rfl⟩
                                  · refine GoKit.iloadN G d10_114 rfl (pc' := 115) rfl ?_
                                    refine GoKit.bipush G (96 : Int32) d10_115 rfl (pc' := 117) rfl ?_
                                    refine GoKit.icmp_eq G d10_117 (by decide) (pt := 132) (pf := 120) rfl rfl (fun hb116 => ?_) (fun hb116 => ?_)
                                    · refine GoKit.iconst G (1 : Int32) d10_132 rfl (pc' := 133) rfl ?_
                                      refine GoKit.goto G d10_133 (by decide) (pc' := 137) rfl ?_
                                      refine GoKit.retNar G d10_137 (t := .boolean) rfl (by simp) (by decide) (by decide) ?_
                                      exact ⟨by rw [if_pos (by unfold tch; simp only [gt_iff_lt, ge_iff_le, ne_eq, Int32.lt_iff_toInt_lt, Int32.le_iff_toInt_le, ← Int32.toInt_inj, show (33 : Int32).toInt = 33 from rfl, show (35 : Int32).toInt = 35 from rfl, show (36 : Int32).toInt = 36 from rfl, show (37 : Int32).toInt = 37 from rfl, show (38 : Int32).toInt = 38 from rfl, show (39 : Int32).toInt = 39 from rfl, show (42 : Int32).toInt = 42 from rfl, show (43 : Int32).toInt = 43 from rfl, show (45 : Int32).toInt = 45 from rfl, show (46 : Int32).toInt = 46 from rfl, show (48 : Int32).toInt = 48 from rfl, show (57 : Int32).toInt = 57 from rfl, show (65 : Int32).toInt = 65 from rfl, show (90 : Int32).toInt = 90 from rfl, show (94 : Int32).toInt = 94 from rfl, show (95 : Int32).toInt = 95 from rfl, show (96 : Int32).toInt = 96 from rfl, show (97 : Int32).toInt = 97 from rfl, show (122 : Int32).toInt = 122 from rfl, show (124 : Int32).toInt = 124 from rfl, show (126 : Int32).toInt = 126 from rfl] at hb1 hb68 hb69 hb102 hb103 hb104 hb105 hb106 hb107 hb108 hb109 hb110 hb111 hb112 hb113 hb114 hb115 hb116; omega)]; rfl, rfl⟩
                                    · refine GoKit.iloadN G d10_120 rfl (pc' := 121) rfl ?_
                                      refine GoKit.bipush G (124 : Int32) d10_121 rfl (pc' := 123) rfl ?_
                                      refine GoKit.icmp_eq G d10_123 (by decide) (pt := 132) (pf := 126) rfl rfl (fun hb117 => ?_) (fun hb117 => ?_)
                                      · refine GoKit.iconst G (1 : Int32) d10_132 rfl (pc' := 133) rfl ?_
                                        refine GoKit.goto G d10_133 (by decide) (pc' := 137) rfl ?_
                                        refine GoKit.retNar G d10_137 (t := .boolean) rfl (by simp) (by decide) (by decide) ?_
                                        exact ⟨by rw [if_pos (by unfold tch; simp only [gt_iff_lt, ge_iff_le, ne_eq, Int32.lt_iff_toInt_lt, Int32.le_iff_toInt_le, ← Int32.toInt_inj, show (33 : Int32).toInt = 33 from rfl, show (35 : Int32).toInt = 35 from rfl, show (36 : Int32).toInt = 36 from rfl, show (37 : Int32).toInt = 37 from rfl, show (38 : Int32).toInt = 38 from rfl, show (39 : Int32).toInt = 39 from rfl, show (42 : Int32).toInt = 42 from rfl, show (43 : Int32).toInt = 43 from rfl, show (45 : Int32).toInt = 45 from rfl, show (46 : Int32).toInt = 46 from rfl, show (48 : Int32).toInt = 48 from rfl, show (57 : Int32).toInt = 57 from rfl, show (65 : Int32).toInt = 65 from rfl, show (90 : Int32).toInt = 90 from rfl, show (94 : Int32).toInt = 94 from rfl, show (95 : Int32).toInt = 95 from rfl, show (96 : Int32).toInt = 96 from rfl, show (97 : Int32).toInt = 97 from rfl, show (122 : Int32).toInt = 122 from rfl, show (124 : Int32).toInt = 124 from rfl, show (126 : Int32).toInt = 126 from rfl] at hb1 hb68 hb69 hb102 hb103 hb104 hb105 hb106 hb107 hb108 hb109 hb110 hb111 hb112 hb113 hb114 hb115 hb116 hb117; omega)]; rfl, rfl⟩
                                      · refine GoKit.iloadN G d10_126 rfl (pc' := 127) rfl ?_
                                        refine GoKit.bipush G (126 : Int32) d10_127 rfl (pc' := 129) rfl ?_
                                        refine GoKit.icmp_ne G d10_129 (by decide) (pt := 136) (pf := 132) rfl rfl (fun hb118 => ?_) (fun hb118 => ?_)
                                        · refine GoKit.iconst G (0 : Int32) d10_136 rfl (pc' := 137) rfl ?_
                                          refine GoKit.retNar G d10_137 (t := .boolean) rfl (by simp) (by decide) (by decide) ?_
                                          exact ⟨by rw [if_neg (by unfold tch; simp only [gt_iff_lt, ge_iff_le, ne_eq, Int32.lt_iff_toInt_lt, Int32.le_iff_toInt_le, ← Int32.toInt_inj, show (33 : Int32).toInt = 33 from rfl, show (35 : Int32).toInt = 35 from rfl, show (36 : Int32).toInt = 36 from rfl, show (37 : Int32).toInt = 37 from rfl, show (38 : Int32).toInt = 38 from rfl, show (39 : Int32).toInt = 39 from rfl, show (42 : Int32).toInt = 42 from rfl, show (43 : Int32).toInt = 43 from rfl, show (45 : Int32).toInt = 45 from rfl, show (46 : Int32).toInt = 46 from rfl, show (48 : Int32).toInt = 48 from rfl, show (57 : Int32).toInt = 57 from rfl, show (65 : Int32).toInt = 65 from rfl, show (90 : Int32).toInt = 90 from rfl, show (94 : Int32).toInt = 94 from rfl, show (95 : Int32).toInt = 95 from rfl, show (96 : Int32).toInt = 96 from rfl, show (97 : Int32).toInt = 97 from rfl, show (122 : Int32).toInt = 122 from rfl, show (124 : Int32).toInt = 124 from rfl, show (126 : Int32).toInt = 126 from rfl] at hb1 hb68 hb69 hb102 hb103 hb104 hb105 hb106 hb107 hb108 hb109 hb110 hb111 hb112 hb113 hb114 hb115 hb116 hb117 hb118; omega)]; rfl, rfl⟩
                                        · refine GoKit.iconst G (1 : Int32) d10_132 rfl (pc' := 133) rfl ?_
                                          refine GoKit.goto G d10_133 (by decide) (pc' := 137) rfl ?_
                                          refine GoKit.retNar G d10_137 (t := .boolean) rfl (by simp) (by decide) (by decide) ?_
                                          exact ⟨by rw [if_pos (by unfold tch; simp only [gt_iff_lt, ge_iff_le, ne_eq, Int32.lt_iff_toInt_lt, Int32.le_iff_toInt_le, ← Int32.toInt_inj, show (33 : Int32).toInt = 33 from rfl, show (35 : Int32).toInt = 35 from rfl, show (36 : Int32).toInt = 36 from rfl, show (37 : Int32).toInt = 37 from rfl, show (38 : Int32).toInt = 38 from rfl, show (39 : Int32).toInt = 39 from rfl, show (42 : Int32).toInt = 42 from rfl, show (43 : Int32).toInt = 43 from rfl, show (45 : Int32).toInt = 45 from rfl, show (46 : Int32).toInt = 46 from rfl, show (48 : Int32).toInt = 48 from rfl, show (57 : Int32).toInt = 57 from rfl, show (65 : Int32).toInt = 65 from rfl, show (90 : Int32).toInt = 90 from rfl, show (94 : Int32).toInt = 94 from rfl, show (95 : Int32).toInt = 95 from rfl, show (96 : Int32).toInt = 96 from rfl, show (97 : Int32).toInt = 97 from rfl, show (122 : Int32).toInt = 122 from rfl, show (124 : Int32).toInt = 124 from rfl, show (126 : Int32).toInt = 126 from rfl] at hb1 hb68 hb69 hb102 hb103 hb104 hb105 hb106 hb107 hb108 hb109 hb110 hb111 hb112 hb113 hb114 hb115 hb116 hb117 hb118; omega)]; rfl, rfl⟩
          · refine GoKit.iloadN G d10_34 rfl (pc' := 35) rfl ?_
            refine GoKit.bipush G (57 : Int32) d10_35 rfl (pc' := 37) rfl ?_
            refine GoKit.icmp_gt G d10_37 (by decide) (pt := 42) (pf := 40) rfl rfl (fun hb119 => ?_) (fun hb119 => ?_)
            · refine GoKit.iloadN G d10_42 rfl (pc' := 43) rfl ?_
              refine GoKit.bipush G (33 : Int32) d10_43 rfl (pc' := 45) rfl ?_
              refine GoKit.icmp_eq G d10_45 (by decide) (pt := 132) (pf := 48) rfl rfl (fun hb120 => ?_) (fun hb120 => ?_)
              · refine GoKit.iconst G (1 : Int32) d10_132 rfl (pc' := 133) rfl ?_
                refine GoKit.goto G d10_133 (by decide) (pc' := 137) rfl ?_
                refine GoKit.retNar G d10_137 (t := .boolean) rfl (by simp) (by decide) (by decide) ?_
                exact ⟨by rw [if_pos (by unfold tch; simp only [gt_iff_lt, ge_iff_le, ne_eq, Int32.lt_iff_toInt_lt, Int32.le_iff_toInt_le, ← Int32.toInt_inj, show (33 : Int32).toInt = 33 from rfl, show (35 : Int32).toInt = 35 from rfl, show (36 : Int32).toInt = 36 from rfl, show (37 : Int32).toInt = 37 from rfl, show (38 : Int32).toInt = 38 from rfl, show (39 : Int32).toInt = 39 from rfl, show (42 : Int32).toInt = 42 from rfl, show (43 : Int32).toInt = 43 from rfl, show (45 : Int32).toInt = 45 from rfl, show (46 : Int32).toInt = 46 from rfl, show (48 : Int32).toInt = 48 from rfl, show (57 : Int32).toInt = 57 from rfl, show (65 : Int32).toInt = 65 from rfl, show (90 : Int32).toInt = 90 from rfl, show (94 : Int32).toInt = 94 from rfl, show (95 : Int32).toInt = 95 from rfl, show (96 : Int32).toInt = 96 from rfl, show (97 : Int32).toInt = 97 from rfl, show (122 : Int32).toInt = 122 from rfl, show (124 : Int32).toInt = 124 from rfl, show (126 : Int32).toInt = 126 from rfl] at hb1 hb68 hb69 hb102 hb103 hb119 hb120; omega)]; rfl, rfl⟩
              · refine GoKit.iloadN G d10_48 rfl (pc' := 49) rfl ?_
                refine GoKit.bipush G (35 : Int32) d10_49 rfl (pc' := 51) rfl ?_
                refine GoKit.icmp_eq G d10_51 (by decide) (pt := 132) (pf := 54) rfl rfl (fun hb121 => ?_) (fun hb121 => ?_)
                · refine GoKit.iconst G (1 : Int32) d10_132 rfl (pc' := 133) rfl ?_
                  refine GoKit.goto G d10_133 (by decide) (pc' := 137) rfl ?_
                  refine GoKit.retNar G d10_137 (t := .boolean) rfl (by simp) (by decide) (by decide) ?_
                  exact ⟨by rw [if_pos (by unfold tch; simp only [gt_iff_lt, ge_iff_le, ne_eq, Int32.lt_iff_toInt_lt, Int32.le_iff_toInt_le, ← Int32.toInt_inj, show (33 : Int32).toInt = 33 from rfl, show (35 : Int32).toInt = 35 from rfl, show (36 : Int32).toInt = 36 from rfl, show (37 : Int32).toInt = 37 from rfl, show (38 : Int32).toInt = 38 from rfl, show (39 : Int32).toInt = 39 from rfl, show (42 : Int32).toInt = 42 from rfl, show (43 : Int32).toInt = 43 from rfl, show (45 : Int32).toInt = 45 from rfl, show (46 : Int32).toInt = 46 from rfl, show (48 : Int32).toInt = 48 from rfl, show (57 : Int32).toInt = 57 from rfl, show (65 : Int32).toInt = 65 from rfl, show (90 : Int32).toInt = 90 from rfl, show (94 : Int32).toInt = 94 from rfl, show (95 : Int32).toInt = 95 from rfl, show (96 : Int32).toInt = 96 from rfl, show (97 : Int32).toInt = 97 from rfl, show (122 : Int32).toInt = 122 from rfl, show (124 : Int32).toInt = 124 from rfl, show (126 : Int32).toInt = 126 from rfl] at hb1 hb68 hb69 hb102 hb103 hb119 hb120 hb121; omega)]; rfl, rfl⟩
                · refine GoKit.iloadN G d10_54 rfl (pc' := 55) rfl ?_
                  refine GoKit.bipush G (36 : Int32) d10_55 rfl (pc' := 57) rfl ?_
                  refine GoKit.icmp_eq G d10_57 (by decide) (pt := 132) (pf := 60) rfl rfl (fun hb122 => ?_) (fun hb122 => ?_)
                  · refine GoKit.iconst G (1 : Int32) d10_132 rfl (pc' := 133) rfl ?_
                    refine GoKit.goto G d10_133 (by decide) (pc' := 137) rfl ?_
                    refine GoKit.retNar G d10_137 (t := .boolean) rfl (by simp) (by decide) (by decide) ?_
                    exact ⟨by rw [if_pos (by unfold tch; simp only [gt_iff_lt, ge_iff_le, ne_eq, Int32.lt_iff_toInt_lt, Int32.le_iff_toInt_le, ← Int32.toInt_inj, show (33 : Int32).toInt = 33 from rfl, show (35 : Int32).toInt = 35 from rfl, show (36 : Int32).toInt = 36 from rfl, show (37 : Int32).toInt = 37 from rfl, show (38 : Int32).toInt = 38 from rfl, show (39 : Int32).toInt = 39 from rfl, show (42 : Int32).toInt = 42 from rfl, show (43 : Int32).toInt = 43 from rfl, show (45 : Int32).toInt = 45 from rfl, show (46 : Int32).toInt = 46 from rfl, show (48 : Int32).toInt = 48 from rfl, show (57 : Int32).toInt = 57 from rfl, show (65 : Int32).toInt = 65 from rfl, show (90 : Int32).toInt = 90 from rfl, show (94 : Int32).toInt = 94 from rfl, show (95 : Int32).toInt = 95 from rfl, show (96 : Int32).toInt = 96 from rfl, show (97 : Int32).toInt = 97 from rfl, show (122 : Int32).toInt = 122 from rfl, show (124 : Int32).toInt = 124 from rfl, show (126 : Int32).toInt = 126 from rfl] at hb1 hb68 hb69 hb102 hb103 hb119 hb120 hb121 hb122; omega)]; rfl, rfl⟩
                  · refine GoKit.iloadN G d10_60 rfl (pc' := 61) rfl ?_
                    refine GoKit.bipush G (37 : Int32) d10_61 rfl (pc' := 63) rfl ?_
                    refine GoKit.icmp_eq G d10_63 (by decide) (pt := 132) (pf := 66) rfl rfl (fun hb123 => ?_) (fun hb123 => ?_)
                    · refine GoKit.iconst G (1 : Int32) d10_132 rfl (pc' := 133) rfl ?_
                      refine GoKit.goto G d10_133 (by decide) (pc' := 137) rfl ?_
                      refine GoKit.retNar G d10_137 (t := .boolean) rfl (by simp) (by decide) (by decide) ?_
                      exact ⟨by rw [if_pos (by unfold tch; simp only [gt_iff_lt, ge_iff_le, ne_eq, Int32.lt_iff_toInt_lt, Int32.le_iff_toInt_le, ← Int32.toInt_inj, show (33 : Int32).toInt = 33 from rfl, show (35 : Int32).toInt = 35 from rfl, show (36 : Int32).toInt = 36 from rfl, show (37 : Int32).toInt = 37 from rfl, show (38 : Int32).toInt = 38 from rfl, show (39 : Int32).toInt = 39 from rfl, show (42 : Int32).toInt = 42 from rfl, show (43 : Int32).toInt = 43 from rfl, show (45 : Int32).toInt = 45 from rfl, show (46 : Int32).toInt = 46 from rfl, show (48 : Int32).toInt = 48 from rfl, show (57 : Int32).toInt = 57 from rfl, show (65 : Int32).toInt = 65 from rfl, show (90 : Int32).toInt = 90 from rfl, show (94 : Int32).toInt = 94 from rfl, show (95 : Int32).toInt = 95 from rfl, show (96 : Int32).toInt = 96 from rfl, show (97 : Int32).toInt = 97 from rfl, show (122 : Int32).toInt = 122 from rfl, show (124 : Int32).toInt = 124 from rfl, show (126 : Int32).toInt = 126 from rfl] at hb1 hb68 hb69 hb102 hb103 hb119 hb120 hb121 hb122 hb123; omega)]; rfl, rfl⟩
                    · refine GoKit.iloadN G d10_66 rfl (pc' := 67) rfl ?_
                      refine GoKit.bipush G (38 : Int32) d10_67 rfl (pc' := 69) rfl ?_
                      refine GoKit.icmp_eq G d10_69 (by decide) (pt := 132) (pf := 72) rfl rfl (fun hb124 => ?_) (fun hb124 => ?_)
                      · refine GoKit.iconst G (1 : Int32) d10_132 rfl (pc' := 133) rfl ?_
                        refine GoKit.goto G d10_133 (by decide) (pc' := 137) rfl ?_
                        refine GoKit.retNar G d10_137 (t := .boolean) rfl (by simp) (by decide) (by decide) ?_
                        exact ⟨by rw [if_pos (by unfold tch; simp only [gt_iff_lt, ge_iff_le, ne_eq, Int32.lt_iff_toInt_lt, Int32.le_iff_toInt_le, ← Int32.toInt_inj, show (33 : Int32).toInt = 33 from rfl, show (35 : Int32).toInt = 35 from rfl, show (36 : Int32).toInt = 36 from rfl, show (37 : Int32).toInt = 37 from rfl, show (38 : Int32).toInt = 38 from rfl, show (39 : Int32).toInt = 39 from rfl, show (42 : Int32).toInt = 42 from rfl, show (43 : Int32).toInt = 43 from rfl, show (45 : Int32).toInt = 45 from rfl, show (46 : Int32).toInt = 46 from rfl, show (48 : Int32).toInt = 48 from rfl, show (57 : Int32).toInt = 57 from rfl, show (65 : Int32).toInt = 65 from rfl, show (90 : Int32).toInt = 90 from rfl, show (94 : Int32).toInt = 94 from rfl, show (95 : Int32).toInt = 95 from rfl, show (96 : Int32).toInt = 96 from rfl, show (97 : Int32).toInt = 97 from rfl, show (122 : Int32).toInt = 122 from rfl, show (124 : Int32).toInt = 124 from rfl, show (126 : Int32).toInt = 126 from rfl] at hb1 hb68 hb69 hb102 hb103 hb119 hb120 hb121 hb122 hb123 hb124; omega)]; rfl, rfl⟩
                      · refine GoKit.iloadN G d10_72 rfl (pc' := 73) rfl ?_
                        refine GoKit.bipush G (39 : Int32) d10_73 rfl (pc' := 75) rfl ?_
                        refine GoKit.icmp_eq G d10_75 (by decide) (pt := 132) (pf := 78) rfl rfl (fun hb125 => ?_) (fun hb125 => ?_)
                        · refine GoKit.iconst G (1 : Int32) d10_132 rfl (pc' := 133) rfl ?_
                          refine GoKit.goto G d10_133 (by decide) (pc' := 137) rfl ?_
                          refine GoKit.retNar G d10_137 (t := .boolean) rfl (by simp) (by decide) (by decide) ?_
                          exact ⟨by rw [if_pos (by unfold tch; simp only [gt_iff_lt, ge_iff_le, ne_eq, Int32.lt_iff_toInt_lt, Int32.le_iff_toInt_le, ← Int32.toInt_inj, show (33 : Int32).toInt = 33 from rfl, show (35 : Int32).toInt = 35 from rfl, show (36 : Int32).toInt = 36 from rfl, show (37 : Int32).toInt = 37 from rfl, show (38 : Int32).toInt = 38 from rfl, show (39 : Int32).toInt = 39 from rfl, show (42 : Int32).toInt = 42 from rfl, show (43 : Int32).toInt = 43 from rfl, show (45 : Int32).toInt = 45 from rfl, show (46 : Int32).toInt = 46 from rfl, show (48 : Int32).toInt = 48 from rfl, show (57 : Int32).toInt = 57 from rfl, show (65 : Int32).toInt = 65 from rfl, show (90 : Int32).toInt = 90 from rfl, show (94 : Int32).toInt = 94 from rfl, show (95 : Int32).toInt = 95 from rfl, show (96 : Int32).toInt = 96 from rfl, show (97 : Int32).toInt = 97 from rfl, show (122 : Int32).toInt = 122 from rfl, show (124 : Int32).toInt = 124 from rfl, show (126 : Int32).toInt = 126 from rfl] at hb1 hb68 hb69 hb102 hb103 hb119 hb120 hb121 hb122 hb123 hb124 hb125; omega)]; rfl, rfl⟩
                        · refine GoKit.iloadN G d10_78 rfl (pc' := 79) rfl ?_
                          refine GoKit.bipush G (42 : Int32) d10_79 rfl (pc' := 81) rfl ?_
                          refine GoKit.icmp_eq G d10_81 (by decide) (pt := 132) (pf := 84) rfl rfl (fun hb126 => ?_) (fun hb126 => ?_)
                          · refine GoKit.iconst G (1 : Int32) d10_132 rfl (pc' := 133) rfl ?_
                            refine GoKit.goto G d10_133 (by decide) (pc' := 137) rfl ?_
                            refine GoKit.retNar G d10_137 (t := .boolean) rfl (by simp) (by decide) (by decide) ?_
                            exact ⟨by rw [if_pos (by unfold tch; simp only [gt_iff_lt, ge_iff_le, ne_eq, Int32.lt_iff_toInt_lt, Int32.le_iff_toInt_le, ← Int32.toInt_inj, show (33 : Int32).toInt = 33 from rfl, show (35 : Int32).toInt = 35 from rfl, show (36 : Int32).toInt = 36 from rfl, show (37 : Int32).toInt = 37 from rfl, show (38 : Int32).toInt = 38 from rfl, show (39 : Int32).toInt = 39 from rfl, show (42 : Int32).toInt = 42 from rfl, show (43 : Int32).toInt = 43 from rfl, show (45 : Int32).toInt = 45 from rfl, show (46 : Int32).toInt = 46 from rfl, show (48 : Int32).toInt = 48 from rfl, show (57 : Int32).toInt = 57 from rfl, show (65 : Int32).toInt = 65 from rfl, show (90 : Int32).toInt = 90 from rfl, show (94 : Int32).toInt = 94 from rfl, show (95 : Int32).toInt = 95 from rfl, show (96 : Int32).toInt = 96 from rfl, show (97 : Int32).toInt = 97 from rfl, show (122 : Int32).toInt = 122 from rfl, show (124 : Int32).toInt = 124 from rfl, show (126 : Int32).toInt = 126 from rfl] at hb1 hb68 hb69 hb102 hb103 hb119 hb120 hb121 hb122 hb123 hb124 hb125 hb126; omega)]; rfl, rfl⟩
                          · refine GoKit.iloadN G d10_84 rfl (pc' := 85) rfl ?_
                            refine GoKit.bipush G (43 : Int32) d10_85 rfl (pc' := 87) rfl ?_
                            refine GoKit.icmp_eq G d10_87 (by decide) (pt := 132) (pf := 90) rfl rfl (fun hb127 => ?_) (fun hb127 => ?_)
                            · refine GoKit.iconst G (1 : Int32) d10_132 rfl (pc' := 133) rfl ?_
                              refine GoKit.goto G d10_133 (by decide) (pc' := 137) rfl ?_
                              refine GoKit.retNar G d10_137 (t := .boolean) rfl (by simp) (by decide) (by decide) ?_
                              exact ⟨by rw [if_pos (by unfold tch; simp only [gt_iff_lt, ge_iff_le, ne_eq, Int32.lt_iff_toInt_lt, Int32.le_iff_toInt_le, ← Int32.toInt_inj, show (33 : Int32).toInt = 33 from rfl, show (35 : Int32).toInt = 35 from rfl, show (36 : Int32).toInt = 36 from rfl, show (37 : Int32).toInt = 37 from rfl, show (38 : Int32).toInt = 38 from rfl, show (39 : Int32).toInt = 39 from rfl, show (42 : Int32).toInt = 42 from rfl, show (43 : Int32).toInt = 43 from rfl, show (45 : Int32).toInt = 45 from rfl, show (46 : Int32).toInt = 46 from rfl, show (48 : Int32).toInt = 48 from rfl, show (57 : Int32).toInt = 57 from rfl, show (65 : Int32).toInt = 65 from rfl, show (90 : Int32).toInt = 90 from rfl, show (94 : Int32).toInt = 94 from rfl, show (95 : Int32).toInt = 95 from rfl, show (96 : Int32).toInt = 96 from rfl, show (97 : Int32).toInt = 97 from rfl, show (122 : Int32).toInt = 122 from rfl, show (124 : Int32).toInt = 124 from rfl, show (126 : Int32).toInt = 126 from rfl] at hb1 hb68 hb69 hb102 hb103 hb119 hb120 hb121 hb122 hb123 hb124 hb125 hb126 hb127; omega)]; rfl, rfl⟩
                            · refine GoKit.iloadN G d10_90 rfl (pc' := 91) rfl ?_
                              refine GoKit.bipush G (45 : Int32) d10_91 rfl (pc' := 93) rfl ?_
                              refine GoKit.icmp_eq G d10_93 (by decide) (pt := 132) (pf := 96) rfl rfl (fun hb128 => ?_) (fun hb128 => ?_)
                              · refine GoKit.iconst G (1 : Int32) d10_132 rfl (pc' := 133) rfl ?_
                                refine GoKit.goto G d10_133 (by decide) (pc' := 137) rfl ?_
                                refine GoKit.retNar G d10_137 (t := .boolean) rfl (by simp) (by decide) (by decide) ?_
                                exact ⟨by rw [if_pos (by unfold tch; simp only [gt_iff_lt, ge_iff_le, ne_eq, Int32.lt_iff_toInt_lt, Int32.le_iff_toInt_le, ← Int32.toInt_inj, show (33 : Int32).toInt = 33 from rfl, show (35 : Int32).toInt = 35 from rfl, show (36 : Int32).toInt = 36 from rfl, show (37 : Int32).toInt = 37 from rfl, show (38 : Int32).toInt = 38 from rfl, show (39 : Int32).toInt = 39 from rfl, show (42 : Int32).toInt = 42 from rfl, show (43 : Int32).toInt = 43 from rfl, show (45 : Int32).toInt = 45 from rfl, show (46 : Int32).toInt = 46 from rfl, show (48 : Int32).toInt = 48 from rfl, show (57 : Int32).toInt = 57 from rfl, show (65 : Int32).toInt = 65 from rfl, show (90 : Int32).toInt = 90 from rfl, show (94 : Int32).toInt = 94 from rfl, show (95 : Int32).toInt = 95 from rfl, show (96 : Int32).toInt = 96 from rfl, show (97 : Int32).toInt = 97 from rfl, show (122 : Int32).toInt = 122 from rfl, show (124 : Int32).toInt = 124 from rfl, show (126 : Int32).toInt = 126 from rfl] at hb1 hb68 hb69 hb102 hb103 hb119 hb120 hb121 hb122 hb123 hb124 hb125 hb126 hb127 hb128; omega)]; rfl, rfl⟩
                              · refine GoKit.iloadN G d10_96 rfl (pc' := 97) rfl ?_
                                refine GoKit.bipush G (46 : Int32) d10_97 rfl (pc' := 99) rfl ?_
                                refine GoKit.icmp_eq G d10_99 (by decide) (pt := 132) (pf := 102) rfl rfl (fun hb129 => ?_) (fun hb129 => ?_)
                                · refine GoKit.iconst G (1 : Int32) d10_132 rfl (pc' := 133) rfl ?_
                                  refine GoKit.goto G d10_133 (by decide) (pc' := 137) rfl ?_
                                  refine GoKit.retNar G d10_137 (t := .boolean) rfl (by simp) (by decide) (by decide) ?_
                                  exact ⟨by rw [if_pos (by unfold tch; simp only [gt_iff_lt, ge_iff_le, ne_eq, Int32.lt_iff_toInt_lt, Int32.le_iff_toInt_le, ← Int32.toInt_inj, show (33 : Int32).toInt = 33 from rfl, show (35 : Int32).toInt = 35 from rfl, show (36 : Int32).toInt = 36 from rfl, show (37 : Int32).toInt = 37 from rfl, show (38 : Int32).toInt = 38 from rfl, show (39 : Int32).toInt = 39 from rfl, show (42 : Int32).toInt = 42 from rfl, show (43 : Int32).toInt = 43 from rfl, show (45 : Int32).toInt = 45 from rfl, show (46 : Int32).toInt = 46 from rfl, show (48 : Int32).toInt = 48 from rfl, show (57 : Int32).toInt = 57 from rfl, show (65 : Int32).toInt = 65 from rfl, show (90 : Int32).toInt = 90 from rfl, show (94 : Int32).toInt = 94 from rfl, show (95 : Int32).toInt = 95 from rfl, show (96 : Int32).toInt = 96 from rfl, show (97 : Int32).toInt = 97 from rfl, show (122 : Int32).toInt = 122 from rfl, show (124 : Int32).toInt = 124 from rfl, show (126 : Int32).toInt = 126 from rfl] at hb1 hb68 hb69 hb102 hb103 hb119 hb120 hb121 hb122 hb123 hb124 hb125 hb126 hb127 hb128 hb129; omega)]; rfl, rfl⟩
                                · refine GoKit.iloadN G d10_102 rfl (pc' := 103) rfl ?_
                                  refine GoKit.bipush G (94 : Int32) d10_103 rfl (pc' := 105) rfl ?_
                                  refine GoKit.icmp_eq G d10_105 (by decide) (pt := 132) (pf := 108) rfl rfl (fun hb130 => ?_) (fun hb130 => ?_)
                                  · refine GoKit.iconst G (1 : Int32) d10_132 rfl (pc' := 133) rfl ?_
                                    refine GoKit.goto G d10_133 (by decide) (pc' := 137) rfl ?_
                                    refine GoKit.retNar G d10_137 (t := .boolean) rfl (by simp) (by decide) (by decide) ?_
                                    exact ⟨by rw [if_pos (by unfold tch; simp only [gt_iff_lt, ge_iff_le, ne_eq, Int32.lt_iff_toInt_lt, Int32.le_iff_toInt_le, ← Int32.toInt_inj, show (33 : Int32).toInt = 33 from rfl, show (35 : Int32).toInt = 35 from rfl, show (36 : Int32).toInt = 36 from rfl, show (37 : Int32).toInt = 37 from rfl, show (38 : Int32).toInt = 38 from rfl, show (39 : Int32).toInt = 39 from rfl, show (42 : Int32).toInt = 42 from rfl, show (43 : Int32).toInt = 43 from rfl, show (45 : Int32).toInt = 45 from rfl, show (46 : Int32).toInt = 46 from rfl, show (48 : Int32).toInt = 48 from rfl, show (57 : Int32).toInt = 57 from rfl, show (65 : Int32).toInt = 65 from rfl, show (90 : Int32).toInt = 90 from rfl, show (94 : Int32).toInt = 94 from rfl, show (95 : Int32).toInt = 95 from rfl, show (96 : Int32).toInt = 96 from rfl, show (97 : Int32).toInt = 97 from rfl, show (122 : Int32).toInt = 122 from rfl, show (124 : Int32).toInt = 124 from rfl, show (126 : Int32).toInt = 126 from rfl] at hb1 hb68 hb69 hb102 hb103 hb119 hb120 hb121 hb122 hb123 hb124 hb125 hb126 hb127 hb128 hb129 hb130; omega)]; rfl, rfl⟩
                                  · refine GoKit.iloadN G d10_108 rfl (pc' := 109) rfl ?_
                                    refine GoKit.bipush G (95 : Int32) d10_109 rfl (pc' := 111) rfl ?_
                                    refine GoKit.icmp_eq G d10_111 (by decide) (pt := 132) (pf := 114) rfl rfl (fun hb131 => ?_) (fun hb131 => ?_)
                                    · refine GoKit.iconst G (1 : Int32) d10_132 rfl (pc' := 133) rfl ?_
                                      refine GoKit.goto G d10_133 (by decide) (pc' := 137) rfl ?_
                                      refine GoKit.retNar G d10_137 (t := .boolean) rfl (by simp) (by decide) (by decide) ?_
                                      exact ⟨by rw [if_pos (by unfold tch; simp only [gt_iff_lt, ge_iff_le, ne_eq, Int32.lt_iff_toInt_lt, Int32.le_iff_toInt_le, ← Int32.toInt_inj, show (33 : Int32).toInt = 33 from rfl, show (35 : Int32).toInt = 35 from rfl, show (36 : Int32).toInt = 36 from rfl, show (37 : Int32).toInt = 37 from rfl, show (38 : Int32).toInt = 38 from rfl, show (39 : Int32).toInt = 39 from rfl, show (42 : Int32).toInt = 42 from rfl, show (43 : Int32).toInt = 43 from rfl, show (45 : Int32).toInt = 45 from rfl, show (46 : Int32).toInt = 46 from rfl, show (48 : Int32).toInt = 48 from rfl, show (57 : Int32).toInt = 57 from rfl, show (65 : Int32).toInt = 65 from rfl, show (90 : Int32).toInt = 90 from rfl, show (94 : Int32).toInt = 94 from rfl, show (95 : Int32).toInt = 95 from rfl, show (96 : Int32).toInt = 96 from rfl, show (97 : Int32).toInt = 97 from rfl, show (122 : Int32).toInt = 122 from rfl, show (124 : Int32).toInt = 124 from rfl, show (126 : Int32).toInt = 126 from rfl] at hb1 hb68 hb69 hb102 hb103 hb119 hb120 hb121 hb122 hb123 hb124 hb125 hb126 hb127 hb128 hb129 hb130 hb131; omega)]; rfl, rfl⟩
                                    · refine GoKit.iloadN G d10_114 rfl (pc' := 115) rfl ?_
                                      refine GoKit.bipush G (96 : Int32) d10_115 rfl (pc' := 117) rfl ?_
                                      refine GoKit.icmp_eq G d10_117 (by decide) (pt := 132) (pf := 120) rfl rfl (fun hb132 => ?_) (fun hb132 => ?_)
                                      · refine GoKit.iconst G (1 : Int32) d10_132 rfl (pc' := 133) rfl ?_
                                        refine GoKit.goto G d10_133 (by decide) (pc' := 137) rfl ?_
                                        refine GoKit.retNar G d10_137 (t := .boolean) rfl (by simp) (by decide) (by decide) ?_
                                        exact ⟨by rw [if_pos (by unfold tch; simp only [gt_iff_lt, ge_iff_le, ne_eq, Int32.lt_iff_toInt_lt, Int32.le_iff_toInt_le, ← Int32.toInt_inj, show (33 : Int32).toInt = 33 from rfl, show (35 : Int32).toInt = 35 from rfl, show (36 : Int32).toInt = 36 from rfl, show (37 : Int32).toInt = 37 from rfl, show (38 : Int32).toInt = 38 from rfl, show (39 : Int32).toInt = 39 from rfl, show (42 : Int32).toInt = 42 from rfl, show (43 : Int32).toInt = 43 from rfl, show (45 : Int32).toInt = 45 from rfl, show (46 : Int32).toInt = 46 from rfl, show (48 : Int32).toInt = 48 from rfl, show (57 : Int32).toInt = 57 from rfl, show (65 : Int32).toInt = 65 from rfl, show (90 : Int32).toInt = 90 from rfl, show (94 : Int32).toInt = 94 from rfl, show (95 : Int32).toInt = 95 from rfl, show (96 : Int32).toInt = 96 from rfl, show (97 : Int32).toInt = 97 from rfl, show (122 : Int32).toInt = 122 from rfl, show (124 : Int32).toInt = 124 from rfl, show (126 : Int32).toInt = 126 from rfl] at hb1 hb68 hb69 hb102 hb103 hb119 hb120 hb121 hb122 hb123 hb124 hb125 hb126 hb127 hb128 hb129 hb130 hb131 hb132; omega)]; rfl, rfl⟩
                                      · refine GoKit.iloadN G d10_120 rfl (pc' := 121) rfl ?_
                                        refine GoKit.bipush G (124 : Int32) d10_121 rfl (pc' := 123) rfl ?_
                                        refine GoKit.icmp_eq G d10_123 (by decide) (pt := 132) (pf := 126) rfl rfl (fun hb133 => ?_) (fun hb133 => ?_)
                                        · refine GoKit.iconst G (1 : Int32) d10_132 rfl (pc' := 133) rfl ?_
                                          refine GoKit.goto G d10_133 (by decide) (pc' := 137) rfl ?_
                                          refine GoKit.retNar G d10_137 (t := .boolean) rfl (by simp) (by decide) (by decide) ?_
                                          exact ⟨by rw [if_pos (by unfold tch; simp only [gt_iff_lt, ge_iff_le, ne_eq, Int32.lt_iff_toInt_lt, Int32.le_iff_toInt_le, ← Int32.toInt_inj, show (33 : Int32).toInt = 33 from rfl, show (35 : Int32).toInt = 35 from rfl, show (36 : Int32).toInt = 36 from rfl, show (37 : Int32).toInt = 37 from rfl, show (38 : Int32).toInt = 38 from rfl, show (39 : Int32).toInt = 39 from rfl, show (42 : Int32).toInt = 42 from rfl, show (43 : Int32).toInt = 43 from rfl, show (45 : Int32).toInt = 45 from rfl, show (46 : Int32).toInt = 46 from rfl, show (48 : Int32).toInt = 48 from rfl, show (57 : Int32).toInt = 57 from rfl, show (65 : Int32).toInt = 65 from rfl, show (90 : Int32).toInt = 90 from rfl, show (94 : Int32).toInt = 94 from rfl, show (95 : Int32).toInt = 95 from rfl, show (96 : Int32).toInt = 96 from rfl, show (97 : Int32).toInt = 97 from rfl, show (122 : Int32).toInt = 122 from rfl, show (124 : Int32).toInt = 124 from rfl, show (126 : Int32).toInt = 126 from rfl] at hb1 hb68 hb69 hb102 hb103 hb119 hb120 hb121 hb122 hb123 hb124 hb125 hb126 hb127 hb128 hb129 hb130 hb131 hb132 hb133; omega)]; rfl, rfl⟩
                                        · refine GoKit.iloadN G d10_126 rfl (pc' := 127) rfl ?_
                                          refine GoKit.bipush G (126 : Int32) d10_127 rfl (pc' := 129) rfl ?_
                                          refine GoKit.icmp_ne G d10_129 (by decide) (pt := 136) (pf := 132) rfl rfl (fun hb134 => ?_) (fun hb134 => ?_)
                                          · refine GoKit.iconst G (0 : Int32) d10_136 rfl (pc' := 137) rfl ?_
                                            refine GoKit.retNar G d10_137 (t := .boolean) rfl (by simp) (by decide) (by decide) ?_
                                            exact ⟨by rw [if_neg (by unfold tch; simp only [gt_iff_lt, ge_iff_le, ne_eq, Int32.lt_iff_toInt_lt, Int32.le_iff_toInt_le, ← Int32.toInt_inj, show (33 : Int32).toInt = 33 from rfl, show (35 : Int32).toInt = 35 from rfl, show (36 : Int32).toInt = 36 from rfl, show (37 : Int32).toInt = 37 from rfl, show (38 : Int32).toInt = 38 from rfl, show (39 : Int32).toInt = 39 from rfl, show (42 : Int32).toInt = 42 from rfl, show (43 : Int32).toInt = 43 from rfl, show (45 : Int32).toInt = 45 from rfl, show (46 : Int32).toInt = 46 from rfl, show (48 : Int32).toInt = 48 from rfl, show (57 : Int32).toInt = 57 from rfl, show (65 : Int32).toInt = 65 from rfl, show (90 : Int32).toInt = 90 from rfl, show (94 : Int32).toInt = 94 from rfl, show (95 : Int32).toInt = 95 from rfl, show (96 : Int32).toInt = 96 from rfl, show (97 : Int32).toInt = 97 from rfl, show (122 : Int32).toInt = 122 from rfl, show (124 : Int32).toInt = 124 from rfl, show (126 : Int32).toInt = 126 from rfl] at hb1 hb68 hb69 hb102 hb103 hb119 hb120 hb121 hb122 hb123 hb124 hb125 hb126 hb127 hb128 hb129 hb130 hb131 hb132 hb133 hb134; omega)]; rfl, rfl⟩
                                          · refine GoKit.iconst G (1 : Int32) d10_132 rfl (pc' := 133) rfl ?_
                                            refine GoKit.goto G d10_133 (by decide) (pc' := 137) rfl ?_
                                            refine GoKit.retNar G d10_137 (t := .boolean) rfl (by simp) (by decide) (by decide) ?_
                                            exact ⟨by rw [if_pos (by unfold tch; simp only [gt_iff_lt, ge_iff_le, ne_eq, Int32.lt_iff_toInt_lt, Int32.le_iff_toInt_le, ← Int32.toInt_inj, show (33 : Int32).toInt = 33 from rfl, show (35 : Int32).toInt = 35 from rfl, show (36 : Int32).toInt = 36 from rfl, show (37 : Int32).toInt = 37 from rfl, show (38 : Int32).toInt = 38 from rfl, show (39 : Int32).toInt = 39 from rfl, show (42 : Int32).toInt = 42 from rfl, show (43 : Int32).toInt = 43 from rfl, show (45 : Int32).toInt = 45 from rfl, show (46 : Int32).toInt = 46 from rfl, show (48 : Int32).toInt = 48 from rfl, show (57 : Int32).toInt = 57 from rfl, show (65 : Int32).toInt = 65 from rfl, show (90 : Int32).toInt = 90 from rfl, show (94 : Int32).toInt = 94 from rfl, show (95 : Int32).toInt = 95 from rfl, show (96 : Int32).toInt = 96 from rfl, show (97 : Int32).toInt = 97 from rfl, show (122 : Int32).toInt = 122 from rfl, show (124 : Int32).toInt = 124 from rfl, show (126 : Int32).toInt = 126 from rfl] at hb1 hb68 hb69 hb102 hb103 hb119 hb120 hb121 hb122 hb123 hb124 hb125 hb126 hb127 hb128 hb129 hb130 hb131 hb132 hb133 hb134; omega)]; rfl, rfl⟩
            · refine GoKit.iconst G (1 : Int32) d10_40 rfl (pc' := 41) rfl ?_
              refine GoKit.retNar G d10_41 (t := .boolean) rfl (by simp) (by decide) (by decide) ?_
              exact ⟨by rw [if_pos (by unfold tch; simp only [gt_iff_lt, ge_iff_le, ne_eq, Int32.lt_iff_toInt_lt, Int32.le_iff_toInt_le, ← Int32.toInt_inj, show (33 : Int32).toInt = 33 from rfl, show (35 : Int32).toInt = 35 from rfl, show (36 : Int32).toInt = 36 from rfl, show (37 : Int32).toInt = 37 from rfl, show (38 : Int32).toInt = 38 from rfl, show (39 : Int32).toInt = 39 from rfl, show (42 : Int32).toInt = 42 from rfl, show (43 : Int32).toInt = 43 from rfl, show (45 : Int32).toInt = 45 from rfl, show (46 : Int32).toInt = 46 from rfl, show (48 : Int32).toInt = 48 from rfl, show (57 : Int32).toInt = 57 from rfl, show (65 : Int32).toInt = 65 from rfl, show (90 : Int32).toInt = 90 from rfl, show (94 : Int32).toInt = 94 from rfl, show (95 : Int32).toInt = 95 from rfl, show (96 : Int32).toInt = 96 from rfl, show (97 : Int32).toInt = 97 from rfl, show (122 : Int32).toInt = 122 from rfl, show (124 : Int32).toInt = 124 from rfl, show (126 : Int32).toInt = 126 from rfl] at hb1 hb68 hb69 hb102 hb103 hb119; omega)]; rfl, rfl⟩
        · refine GoKit.iconst G (1 : Int32) d10_26 rfl (pc' := 27) rfl ?_
          refine GoKit.retNar G d10_27 (t := .boolean) rfl (by simp) (by decide) (by decide) ?_
          exact ⟨by rw [if_pos (by unfold tch; simp only [gt_iff_lt, ge_iff_le, ne_eq, Int32.lt_iff_toInt_lt, Int32.le_iff_toInt_le, ← Int32.toInt_inj, show (33 : Int32).toInt = 33 from rfl, show (35 : Int32).toInt = 35 from rfl, show (36 : Int32).toInt = 36 from rfl, show (37 : Int32).toInt = 37 from rfl, show (38 : Int32).toInt = 38 from rfl, show (39 : Int32).toInt = 39 from rfl, show (42 : Int32).toInt = 42 from rfl, show (43 : Int32).toInt = 43 from rfl, show (45 : Int32).toInt = 45 from rfl, show (46 : Int32).toInt = 46 from rfl, show (48 : Int32).toInt = 48 from rfl, show (57 : Int32).toInt = 57 from rfl, show (65 : Int32).toInt = 65 from rfl, show (90 : Int32).toInt = 90 from rfl, show (94 : Int32).toInt = 94 from rfl, show (95 : Int32).toInt = 95 from rfl, show (96 : Int32).toInt = 96 from rfl, show (97 : Int32).toInt = 97 from rfl, show (122 : Int32).toInt = 122 from rfl, show (124 : Int32).toInt = 124 from rfl, show (126 : Int32).toInt = 126 from rfl] at hb1 hb68 hb69 hb102; omega)]; rfl, rfl⟩
    · refine GoKit.iconst G (1 : Int32) d10_12 rfl (pc' := 13) rfl ?_
      refine GoKit.retNar G d10_13 (t := .boolean) rfl (by simp) (by decide) (by decide) ?_
      exact ⟨by rw [if_pos (by unfold tch; simp only [gt_iff_lt, ge_iff_le, ne_eq, Int32.lt_iff_toInt_lt, Int32.le_iff_toInt_le, ← Int32.toInt_inj, show (33 : Int32).toInt = 33 from rfl, show (35 : Int32).toInt = 35 from rfl, show (36 : Int32).toInt = 36 from rfl, show (37 : Int32).toInt = 37 from rfl, show (38 : Int32).toInt = 38 from rfl, show (39 : Int32).toInt = 39 from rfl, show (42 : Int32).toInt = 42 from rfl, show (43 : Int32).toInt = 43 from rfl, show (45 : Int32).toInt = 45 from rfl, show (46 : Int32).toInt = 46 from rfl, show (48 : Int32).toInt = 48 from rfl, show (57 : Int32).toInt = 57 from rfl, show (65 : Int32).toInt = 65 from rfl, show (90 : Int32).toInt = 90 from rfl, show (94 : Int32).toInt = 94 from rfl, show (95 : Int32).toInt = 95 from rfl, show (96 : Int32).toInt = 96 from rfl, show (97 : Int32).toInt = 97 from rfl, show (122 : Int32).toInt = 122 from rfl, show (124 : Int32).toInt = 124 from rfl, show (126 : Int32).toInt = 126 from rfl] at hb1 hb68; omega)]; rfl, rfl⟩
theorem d6_8 : decode jdk_42_method_55_code 8 = .ok (.iconst 1, 1) := by decide +kernel
theorem d6_9 : decode jdk_42_method_55_code 9 = .ok (.goto 4, 3) := by decide +kernel
abbrev rm_con_emp0 : Room := { frames := 0, cells := 0, slots := 0, locals := 0 }
set_option maxRecDepth 65536 in
set_option maxHeartbeats 40000000 in
theorem con_emp0 (l : Launch) {Z : State} {a0 : Array Value} (hw : ∀ d ∈ tables_1, d.before a0 Z = true) {n0 : Nat} {h0 : Heap} {a : Addr} (S : Lat Z h0 a []) :
    Con l Z true false ELs n0 (⟨"java/lang/String", "isEmpty", "()Z"⟩ : MethodName) jdk_42_method_55_code 1 (some .boolean) rm_con_emp0 [] #[(.ref a)] h0 [] (fun v h => v = some (.int 1) ∧ h = h0) := by
  refine Con.intro (plainFor_of_name pn_java_lang_String) (hELs hw) ?_
  intro p e s m below meth c hh G
  refine castRun (g' := mkF m 0 #[.val (.ref a)] []) (by first | rfl | (simp [entryFrame, mkF, argsToLocals, Value.category, maxLocals]; done)) ?_
  obtain ⟨E, ⟨b, FV, FC, A⟩, hlat⟩ := id S
  refine GoKit.aloadN G d6_0 rfl rfl (pc' := 1) rfl ?_
  refine GoKit.getf G d6_1 (wi hw 26 rfl) Via.refl FV (pc' := 4) rfl ?_
  refine GoKit.arrlenI G d6_4 A (z := ([] : List Int32).length.toInt32) (by simp) (pc' := 5) rfl ?_
  refine GoKit.if_ne_f G d6_5 rfl (pc' := 8) rfl ?_
  refine GoKit.iconst G (1 : Int32) d6_8 rfl (pc' := 9) rfl ?_
  refine GoKit.goto G d6_9 (by decide) (pc' := 13) rfl ?_
  refine GoKit.retNar G d6_13 (t := .boolean) rfl (by simp) (by decide) (by decide) ?_
  exact ⟨rfl, rfl⟩
theorem d5_0 : decode prog_23_method_3_code 0 = .ok (.aload_n 0, 1) := by decide +kernel
theorem d5_1 : decode prog_23_method_3_code 1 = .ok (.invokevirtual 24, 3) := by decide +kernel
theorem d5_4 : decode prog_23_method_3_code 4 = .ok (.ifCond .ne 7, 3) := by decide +kernel
theorem d5_11 : decode prog_23_method_3_code 11 = .ok (.iconst 0, 1) := by decide +kernel
theorem d5_12 : decode prog_23_method_3_code 12 = .ok (.istore_n 1, 1) := by decide +kernel
theorem d5_13 : decode prog_23_method_3_code 13 = .ok (.iconst 0, 1) := by decide +kernel
theorem d5_14 : decode prog_23_method_3_code 14 = .ok (.istore_n 2, 1) := by decide +kernel
theorem d5_15 : decode prog_23_method_3_code 15 = .ok (.iload_n 1, 1) := by decide +kernel
theorem d5_16 : decode prog_23_method_3_code 16 = .ok (.ifCond .eq 74, 3) := by decide +kernel
theorem d5_90 : decode prog_23_method_3_code 90 = .ok (.iload_n 1, 1) := by decide +kernel
theorem d5_91 : decode prog_23_method_3_code 91 = .ok (.ireturn, 1) := by decide +kernel
theorem pn_com_example_bowline_internal_Ascii : plainName "com/example/bowline/internal/Ascii" = true := by first | (simp [plainName, overriddenIn]; done) | decide +kernel
abbrev rm_con_tok0 : Room := { frames := 1, cells := 0, slots := 0, locals := 12 }
set_option maxRecDepth 65536 in
set_option maxHeartbeats 40000000 in
theorem con_tok0 (l : Launch) {Z : State} {a0 : Array Value} (hw : ∀ d ∈ tables_1, d.before a0 Z = true) {n0 : Nat} {h0 : Heap} {a : Addr} (S : Lat Z h0 a []) :
    Con l Z true false ELs n0 (⟨"com/example/bowline/internal/Ascii", "isToken", "(Ljava/lang/String;)Z"⟩ : MethodName) prog_23_method_3_code 4 (some .boolean) rm_con_tok0 [] #[(.ref a)] h0 [] (fun v h => v = some (.int (if T [] then 1 else 0))) := by
  refine Con.intro (plainFor_of_name pn_com_example_bowline_internal_Ascii) (hELs hw) ?_
  intro p e s m below meth c hh G
  refine castRun (g' := mkF m 0 #[.val (.ref a), .unset, .unset, .unset] []) (by first | rfl | (simp [entryFrame, mkF, argsToLocals, Value.category, maxLocals]; done)) ?_
  refine GoKit.aloadN G d5_0 rfl rfl (pc' := 1) rfl ?_
  refine GoKit.callVirtualP G d5_1 (wi hw 32 rfl) (wi hw 33 rfl) (wi hw 35 rfl) (wi hw 34 rfl) (wi hw 8 rfl) (wi hw 36 rfl) (by decide) S.1 (W := 0) (argsL := []) (rest := []) (con_emp0 l hw S) rfl (lenOf pd_13 rfl) rfl (by decide) (Nat.le_of_eq rfl) (by decide) (by decide) (by decide) (cells' := 0) (slots' := 0) rfl rfl (pc' := 4) rfl ?_
  show Run _ _ _ _ _ _ _ _ _ _ _ _ _ _ _ _ _ _ _ _ _ (mkF m 4 #[.val (.ref a), .unset, .unset, .unset] [(.int (1 : Int32))])
  refine GoKit.if_ne_t G d5_4 (by decide) (by decide) (pc' := 11) rfl ?_
  refine GoKit.iconst G (0 : Int32) d5_11 rfl (pc' := 12) rfl ?_
  refine GoKit.istoreN G d5_12 (Ls' := #[.val (.ref a), .val (.int (0 : Int32)), .unset, .unset]) rfl (pc' := 13) rfl ?_
  refine GoKit.iconst G (0 : Int32) d5_13 rfl (pc' := 14) rfl ?_
  refine GoKit.istoreN G d5_14 (Ls' := #[.val (.ref a), .val (.int (0 : Int32)), .val (.int (0 : Int32)), .unset]) rfl (pc' := 15) rfl ?_
  refine GoKit.iloadN G d5_15 rfl (pc' := 16) rfl ?_
  refine GoKit.if_eq_t G d5_16 (by decide) (by decide) (pc' := 90) rfl ?_
  refine GoKit.iloadN G d5_90 rfl (pc' := 91) rfl ?_
  refine GoKit.retNar G d5_91 (t := .boolean) rfl (by simp) (by decide) (by decide) ?_
  exact by rw [if_neg (fun q => q.1 rfl)]; rfl
theorem d5_19 : decode prog_23_method_3_code 19 = .ok (.iload_n 2, 1) := by decide +kernel
theorem d5_20 : decode prog_23_method_3_code 20 = .ok (.aload_n 0, 1) := by decide +kernel
theorem d5_21 : decode prog_23_method_3_code 21 = .ok (.invokevirtual 7, 3) := by decide +kernel
theorem d5_24 : decode prog_23_method_3_code 24 = .ok (.if_icmp .ge 66, 3) := by decide +kernel
theorem d5_27 : decode prog_23_method_3_code 27 = .ok (.aload_n 0, 1) := by decide +kernel
theorem d5_28 : decode prog_23_method_3_code 28 = .ok (.iload_n 2, 1) := by decide +kernel
theorem d5_29 : decode prog_23_method_3_code 29 = .ok (.invokevirtual 13, 3) := by decide +kernel
theorem pd_19 : parseMethodDescriptor "(I)C" = some ⟨[.int], some .char⟩ := by decide +kernel
theorem d5_32 : decode prog_23_method_3_code 32 = .ok (.istore_n 3, 1) := by decide +kernel
theorem d5_33 : decode prog_23_method_3_code 33 = .ok (.iload_n 3, 1) := by decide +kernel
theorem d5_34 : decode prog_23_method_3_code 34 = .ok (.bipush 97, 2) := by decide +kernel
theorem d5_36 : decode prog_23_method_3_code 36 = .ok (.if_icmp .lt 9, 3) := by decide +kernel
theorem d5_45 : decode prog_23_method_3_code 45 = .ok (.iload_n 3, 1) := by decide +kernel
theorem d5_46 : decode prog_23_method_3_code 46 = .ok (.bipush 65, 2) := by decide +kernel
theorem d5_48 : decode prog_23_method_3_code 48 = .ok (.if_icmp .lt 9, 3) := by decide +kernel
theorem d5_57 : decode prog_23_method_3_code 57 = .ok (.iload_n 3, 1) := by decide +kernel
theorem d5_58 : decode prog_23_method_3_code 58 = .ok (.bipush 48, 2) := by decide +kernel
theorem d5_60 : decode prog_23_method_3_code 60 = .ok (.if_icmp .lt 9, 3) := by decide +kernel
theorem d5_69 : decode prog_23_method_3_code 69 = .ok (.ldc 30, 2) := by decide +kernel
theorem d5_71 : decode prog_23_method_3_code 71 = .ok (.iload_n 3, 1) := by decide +kernel
theorem d5_72 : decode prog_23_method_3_code 72 = .ok (.invokevirtual 32, 3) := by decide +kernel
theorem d5_75 : decode prog_23_method_3_code 75 = .ok (.ifCond .lt 7, 3) := by decide +kernel
theorem d5_82 : decode prog_23_method_3_code 82 = .ok (.iconst 0, 1) := by decide +kernel
theorem d5_83 : decode prog_23_method_3_code 83 = .ok (.istore_n 1, 1) := by decide +kernel
theorem d5_84 : decode prog_23_method_3_code 84 = .ok (.iinc 2 1, 3) := by decide +kernel
theorem d5_87 : decode prog_23_method_3_code 87 = .ok (.goto (-72), 3) := by decide +kernel
theorem d5_78 : decode prog_23_method_3_code 78 = .ok (.iconst 1, 1) := by decide +kernel
theorem d5_79 : decode prog_23_method_3_code 79 = .ok (.goto 4, 3) := by decide +kernel
theorem d5_63 : decode prog_23_method_3_code 63 = .ok (.iload_n 3, 1) := by decide +kernel
theorem d5_64 : decode prog_23_method_3_code 64 = .ok (.bipush 57, 2) := by decide +kernel
theorem d5_66 : decode prog_23_method_3_code 66 = .ok (.if_icmp .le 12, 3) := by decide +kernel
theorem d5_51 : decode prog_23_method_3_code 51 = .ok (.iload_n 3, 1) := by decide +kernel
theorem d5_52 : decode prog_23_method_3_code 52 = .ok (.bipush 90, 2) := by decide +kernel
theorem d5_54 : decode prog_23_method_3_code 54 = .ok (.if_icmp .le 24, 3) := by decide +kernel
theorem d5_39 : decode prog_23_method_3_code 39 = .ok (.iload_n 3, 1) := by decide +kernel
theorem d5_40 : decode prog_23_method_3_code 40 = .ok (.bipush 122, 2) := by decide +kernel
theorem d5_42 : decode prog_23_method_3_code 42 = .ok (.if_icmp .le 36, 3) := by decide +kernel
theorem d5_7 : decode prog_23_method_3_code 7 = .ok (.iconst 1, 1) := by decide +kernel
theorem d5_8 : decode prog_23_method_3_code 8 = .ok (.goto 4, 3) := by decide +kernel
abbrev rm_con_tok : Room := { frames := 5, cells := 8, slots := 256, locals := 66 }
set_option maxRecDepth 65536 in
set_option maxHeartbeats 40000000 in
theorem con_tok (l : Launch) {Z : State} {a0 : Array Value} (hw : ∀ d ∈ tables_1, d.before a0 Z = true) {n0 : Nat} {h0 : Heap} {a : Addr} {cs : List Int32} (S : Str Z h0 a cs) (hne : cs ≠ []) (hl4 : cs.length ≤ 4) (HC : Cst Z) (HF : Frm Z) (HU : Ust Z) :
    Con l Z true false ELs n0 (⟨"com/example/bowline/internal/Ascii", "isToken", "(Ljava/lang/String;)Z"⟩ : MethodName) prog_23_method_3_code 4 (some .boolean) rm_con_tok [] #[(.ref a)] h0 [] (fun v h => v = some (.int (if T cs then 1 else 0))) := by
  refine Con.intro (plainFor_of_name pn_com_example_bowline_internal_Ascii) (hELs hw) ?_
  intro p e s m below meth c hh G
  refine castRun (g' := mkF m 0 #[.val (.ref a), .unset, .unset, .unset] []) (by first | rfl | (simp [entryFrame, mkF, argsToLocals, Value.category, maxLocals]; done)) ?_
  have J4 : ∀ (h : Heap) (bv : Int32) (sl : Slot), Keep h0 h [] → ((bv = 0 ∧ ¬ T cs) ∨ (bv = 1 ∧ (T cs ↔ ∀ c ∈ cs.drop 4, tch c))) → (sl = .unset ∨ ∃ w, sl = .val w ∧ w.category = 1) →
      Run p l e rm_con_tok s m #[.ref a] below meth c Z true false ELs n0 [] (fun v h => v = some (.int (if T cs then 1 else 0))) h [] 8 256 (mkF m 15 #[.val (.ref a), .val (.int bv), .val (.int (4 : Int32)), sl] []) := by
    intro h bv sl K hI hsl
    have S1 := str_keep S K
    rcases hI with ⟨rfl, hT⟩ | ⟨rfl, hT⟩
    · refine GoKit.iloadN G d5_15 rfl (pc' := 16) rfl ?_
      refine GoKit.if_eq_t G d5_16 (by decide) (by decide) (pc' := 90) rfl ?_
      refine GoKit.iloadN G d5_90 rfl (pc' := 91) rfl ?_
      refine GoKit.retNar G d5_91 (t := .boolean) rfl (by simp) (by decide) (by decide) ?_
      exact by rw [if_neg hT]; rfl
    · by_cases hk : 4 < cs.length
      · omega
      · refine GoKit.iloadN G d5_15 rfl (pc' := 16) rfl ?_
        refine GoKit.if_eq_f G d5_16 (by decide) (pc' := 19) rfl ?_
        refine GoKit.iloadN G d5_19 rfl (pc' := 20) rfl ?_
        refine GoKit.aloadN G d5_20 rfl rfl (pc' := 21) rfl ?_
        refine GoKit.callVirtualP G d5_21 (wi hw 51 rfl) (wi hw 52 rfl) (wi hw 54 rfl) (wi hw 53 rfl) (wi hw 8 rfl) (wi hw 55 rfl) (by decide) (str_exa S1) (W := 1) (argsL := []) (rest := [(.int (4 : Int32))]) (con_lenS l hw S1 HC) rfl (lenOf pd_17 rfl) rfl (by decide) (Nat.le_of_eq rfl) (by decide) (by decide) (by decide) (cells' := 8) (slots' := 256) rfl rfl (pc' := 24) rfl ?_
        show Run _ _ _ _ _ _ _ _ _ _ _ _ _ _ _ _ _ _ _ _ _ (mkF m 24 #[.val (.ref a), .val (.int (1 : Int32)), .val (.int (4 : Int32)), sl] [(.int cs.length.toInt32), (.int (4 : Int32))])
        refine GoKit.icmp_ge_t G d5_24 (fun q => hk ((toI_lt (i := 4) (by decide) (by omega)).mp q)) (by decide) (pc' := 90) rfl ?_
        refine GoKit.iloadN G d5_90 rfl (pc' := 91) rfl ?_
        refine GoKit.retNar G d5_91 (t := .boolean) rfl (by simp) (by decide) (by decide) ?_
        exact by rw [if_pos (hT.mpr (by rw [List.drop_eq_nil_of_le (by omega)]; intro c hc; cases hc))]; rfl
  have J3 : ∀ (h : Heap) (bv : Int32) (sl : Slot), Keep h0 h [] → ((bv = 0 ∧ ¬ T cs) ∨ (bv = 1 ∧ (T cs ↔ ∀ c ∈ cs.drop 3, tch c))) → (sl = .unset ∨ ∃ w, sl = .val w ∧ w.category = 1) →
      Run p l e rm_con_tok s m #[.ref a] below meth c Z true false ELs n0 [] (fun v h => v = some (.int (if T cs then 1 else 0))) h [] 6 192 (mkF m 15 #[.val (.ref a), .val (.int bv), .val (.int (3 : Int32)), sl] []) := by
    intro h bv sl K hI hsl
    have S1 := str_keep S K
    rcases hI with ⟨rfl, hT⟩ | ⟨rfl, hT⟩
    · refine GoKit.iloadN G d5_15 rfl (pc' := 16) rfl ?_
      refine GoKit.if_eq_t G d5_16 (by decide) (by decide) (pc' := 90) rfl ?_
      refine GoKit.iloadN G d5_90 rfl (pc' := 91) rfl ?_
      refine GoKit.retNar G d5_91 (t := .boolean) rfl (by simp) (by decide) (by decide) ?_
      exact by rw [if_neg hT]; rfl
    · by_cases hk : 3 < cs.length
      · obtain ⟨ch, hch⟩ : ∃ ch, cs[3]? = some ch := ⟨cs[3], List.getElem?_eq_getElem hk⟩
        refine GoKit.iloadN G d5_15 rfl (pc' := 16) rfl ?_
        refine GoKit.if_eq_f G d5_16 (by decide) (pc' := 19) rfl ?_
        refine GoKit.iloadN G d5_19 rfl (pc' := 20) rfl ?_
        refine GoKit.aloadN G d5_20 rfl rfl (pc' := 21) rfl ?_
        refine GoKit.callVirtualP G d5_21 (wi hw 51 rfl) (wi hw 52 rfl) (wi hw 54 rfl) (wi hw 53 rfl) (wi hw 8 rfl) (wi hw 55 rfl) (by decide) (str_exa S1) (W := 1) (argsL := []) (rest := [(.int (3 : Int32))]) (con_lenS l hw S1 HC) rfl (lenOf pd_17 rfl) rfl (by decide) (Nat.le_of_eq rfl) (by decide) (by decide) (by decide) (cells' := 6) (slots' := 192) rfl rfl (pc' := 24) rfl ?_
        show Run _ _ _ _ _ _ _ _ _ _ _ _ _ _ _ _ _ _ _ _ _ (mkF m 24 #[.val (.ref a), .val (.int (1 : Int32)), .val (.int (3 : Int32)), sl] [(.int cs.length.toInt32), (.int (3 : Int32))])
        refine GoKit.icmp_ge_f G d5_24 ((toI_lt (i := 3) (by decide) (by omega)).mpr hk) (pc' := 27) rfl ?_
        refine GoKit.aloadN G d5_27 rfl rfl (pc' := 28) rfl ?_
        refine GoKit.iloadN G d5_28 rfl (pc' := 29) rfl ?_
        refine GoKit.callVirtualP G d5_29 (wi hw 61 rfl) (wi hw 62 rfl) (wi hw 64 rfl) (wi hw 63 rfl) (wi hw 8 rfl) (wi hw 65 rfl) (by decide) (str_exa S1) (W := 0) (argsL := [(.int (3 : Int32))]) (rest := []) (con_charS l hw (i := 3) S1 hch HC HF HU) rfl (lenOf pd_19 rfl) rfl (by decide) (Nat.le_of_eq rfl) (by decide) (by decide) (by decide) (cells' := 6) (slots' := 192) rfl rfl (pc' := 32) rfl ?_
        show Run _ _ _ _ _ _ _ _ _ _ _ _ _ _ _ _ _ _ _ _ _ (mkF m 32 #[.val (.ref a), .val (.int (1 : Int32)), .val (.int (3 : Int32)), sl] [(.int ch)])
        refine GoKit.istoreN G d5_32 (Ls' := #[.val (.ref a), .val (.int (1 : Int32)), .val (.int (3 : Int32)), .val (.int ch)]) (XS.store1 rfl hsl rfl) (pc' := 33) rfl ?_
        refine GoKit.iloadN G d5_33 rfl (pc' := 34) rfl ?_
        refine GoKit.bipush G (97 : Int32) d5_34 rfl (pc' := 36) rfl ?_
        refine GoKit.icmp_lt G d5_36 (by decide) (pt := 45) (pf := 39) rfl rfl (fun hb1 => ?_) (fun hb1 => ?_)
        · refine GoKit.iloadN G d5_45 rfl (pc' := 46) rfl ?_
          refine GoKit.bipush G (65 : Int32) d5_46 rfl (pc' := 48) rfl ?_
          refine GoKit.icmp_lt G d5_48 (by decide) (pt := 57) (pf := 51) rfl rfl (fun hb2 => ?_) (fun hb2 => ?_)
          · refine GoKit.iloadN G d5_57 rfl (pc' := 58) rfl ?_
            refine GoKit.bipush G (48 : Int32) d5_58 rfl (pc' := 60) rfl ?_
            refine GoKit.icmp_lt G d5_60 (by decide) (pt := 69) (pf := 63) rfl rfl (fun hb3 => ?_) (fun hb3 => ?_)
            · refine GoKit.ldcStr G d5_69 rfl (wi hw 83 rfl) (wS hw) (by decide) (vs := [.int (33 : Int32), .int (35 : Int32), .int (36 : Int32), .int (37 : Int32), .int (38 : Int32), .int (39 : Int32), .int (42 : Int32), .int (43 : Int32), .int (45 : Int32), .int (46 : Int32), .int (94 : Int32), .int (95 : Int32), .int (96 : Int32), .int (124 : Int32), .int (126 : Int32)]) (z := (15 : Int32)) ⟨by decide +kernel, by decide +kernel⟩ (by decide) rfl (n := 60) (by decide +kernel) (by decide) (by decide) (by decide) (cells' := 8) (slots' := 256) rfl rfl (pc' := 71) rfl (fun a4 b5 k6 h13 E7 X8 FC9 FV10 A11 N12 => ?_)
              have S14 : Lat Z h13 a4 [(33 : Int32), (35 : Int32), (36 : Int32), (37 : Int32), (38 : Int32), (39 : Int32), (42 : Int32), (43 : Int32), (45 : Int32), (46 : Int32), (94 : Int32), (95 : Int32), (96 : Int32), (124 : Int32), (126 : Int32)] := latLit X8 FC9 FV10 A11 rfl (by decide +kernel) (by decide +kernel)
              have A15 : IA Z h13 b5 .byte (([(33 : Int32), (35 : Int32), (36 : Int32), (37 : Int32), (38 : Int32), (39 : Int32), (42 : Int32), (43 : Int32), (45 : Int32), (46 : Int32), (94 : Int32), (95 : Int32), (96 : Int32), (124 : Int32), (126 : Int32)] : List Int32).map fun c => c.toInt8.toInt32) := iaLit A11 rfl (by decide +kernel)
              refine GoKit.iloadN G d5_71 rfl (pc' := 72) rfl ?_
              refine GoKit.callVirtualP G d5_72 (wi hw 84 rfl) (wi hw 85 rfl) (wi hw 87 rfl) (wi hw 86 rfl) (wi hw 8 rfl) (wi hw 88 rfl) (by decide) S14.1 (W := 0) (argsL := [(.int ch)]) (rest := []) (con_idxL l hw (cs := litL) ch S14 HC) rfl (lenOf pd_4 rfl) rfl (by decide) (Nat.le_of_eq rfl) (by decide) (by decide) (by decide) (cells' := 8) (slots' := 256) rfl rfl (pc' := 75) rfl ?_
              show Run _ _ _ _ _ _ _ _ _ _ _ _ _ _ _ _ _ _ _ _ _ (mkF m 75 #[.val (.ref a), .val (.int (1 : Int32)), .val (.int (3 : Int32)), .val (.int ch)] [(.int (idxFrom litL ch 0))])
              refine GoKit.if_lt G d5_75 (by decide) (pt := 82) (pf := 78) rfl rfl (fun hb16 => ?_) (fun hb16 => ?_)
              · refine GoKit.iconst G (0 : Int32) d5_82 rfl (pc' := 83) rfl ?_
                refine GoKit.istoreN G d5_83 (Ls' := #[.val (.ref a), .val (.int (0 : Int32)), .val (.int (3 : Int32)), .val (.int ch)]) rfl (pc' := 84) rfl ?_
                refine GoKit.iinc G (1 : Int32) d5_84 rfl rfl (Ls' := #[.val (.ref a), .val (.int (0 : Int32)), .val (.int ((3 : Int32) + (1 : Int32))), .val (.int ch)]) rfl (pc' := 87) rfl ?_
                show Run _ _ _ _ _ _ _ _ _ _ _ _ _ _ _ _ _ _ _ _ _ (mkF m 87 #[.val (.ref a), .val (.int (0 : Int32)), .val (.int (4 : Int32)), .val (.int ch)] [])
                refine GoKit.goto G d5_87 (by decide) (pc' := 15) rfl ?_
                have KP17 : Keep h h13 [] := ((Keep.refl h []).ext E7)
                refine Run.mono (by decide) (by decide) (J4 _ _ _ (K.trans KP17 all0) ?_ (Or.inr ⟨_, rfl, rfl⟩))
                exact Or.inl ⟨rfl, fun q => (show ¬ tch ch from (by have hn := lit_no (fun q => idx_some lit_sm q hb16); unfold tch; simp only [gt_iff_lt, ge_iff_le, ne_eq, Int32.lt_iff_toInt_lt, Int32.le_iff_toInt_le, ← Int32.toInt_inj, show (33 : Int32).toInt = 33 from rfl, show (35 : Int32).toInt = 35 from rfl, show (36 : Int32).toInt = 36 from rfl, show (37 : Int32).toInt = 37 from rfl, show (38 : Int32).toInt = 38 from rfl, show (39 : Int32).toInt = 39 from rfl, show (42 : Int32).toInt = 42 from rfl, show (43 : Int32).toInt = 43 from rfl, show (45 : Int32).toInt = 45 from rfl, show (46 : Int32).toInt = 46 from rfl, show (48 : Int32).toInt = 48 from rfl, show (57 : Int32).toInt = 57 from rfl, show (65 : Int32).toInt = 65 from rfl, show (90 : Int32).toInt = 90 from rfl, show (94 : Int32).toInt = 94 from rfl, show (95 : Int32).toInt = 95 from rfl, show (96 : Int32).toInt = 96 from rfl, show (97 : Int32).toInt = 97 from rfl, show (122 : Int32).toInt = 122 from rfl, show (124 : Int32).toInt = 124 from rfl, show (126 : Int32).toInt = 126 from rfl] at hb1 hb2 hb3; omega)) (hT.mp q ch (mem_drop hch))⟩
              · refine GoKit.iconst G (1 : Int32) d5_78 rfl (pc' := 79) rfl ?_
                refine GoKit.goto G d5_79 (by decide) (pc' := 83) rfl ?_
                refine GoKit.istoreN G d5_83 (Ls' := #[.val (.ref a), .val (.int (1 : Int32)), .val (.int (3 : Int32)), .val (.int ch)]) rfl (pc' := 84) rfl ?_
                refine GoKit.iinc G (1 : Int32) d5_84 rfl rfl (Ls' := #[.val (.ref a), .val (.int (1 : Int32)), .val (.int ((3 : Int32) + (1 : Int32))), .val (.int ch)]) rfl (pc' := 87) rfl ?_
                show Run _ _ _ _ _ _ _ _ _ _ _ _ _ _ _ _ _ _ _ _ _ (mkF m 87 #[.val (.ref a), .val (.int (1 : Int32)), .val (.int (4 : Int32)), .val (.int ch)] [])
                refine GoKit.goto G d5_87 (by decide) (pc' := 15) rfl ?_
                have KP18 : Keep h h13 [] := ((Keep.refl h []).ext E7)
                refine Run.mono (by decide) (by decide) (J4 _ _ _ (K.trans KP18 all0) ?_ (Or.inr ⟨_, rfl, rfl⟩))
                exact Or.inr ⟨rfl, hT.trans (drop_step hch (lit_tch (Classical.byContradiction fun q => hb16 (by rw [idx_none q]; decide))))⟩
            · refine GoKit.iloadN G d5_63 rfl (pc' := 64) rfl ?_
              refine GoKit.bipush G (57 : Int32) d5_64 rfl (pc' := 66) rfl ?_
              refine GoKit.icmp_le G d5_66 (by decide) (pt := 78) (pf := 69) rfl rfl (fun hb19 => ?_) (fun hb19 => ?_)
              · refine GoKit.iconst G (1 : Int32) d5_78 rfl (pc' := 79) rfl ?_
                refine GoKit.goto G d5_79 (by decide) (pc' := 83) rfl ?_
                refine GoKit.istoreN G d5_83 (Ls' := #[.val (.ref a), .val (.int (1 : Int32)), .val (.int (3 : Int32)), .val (.int ch)]) rfl (pc' := 84) rfl ?_
                refine GoKit.iinc G (1 : Int32) d5_84 rfl rfl (Ls' := #[.val (.ref a), .val (.int (1 : Int32)), .val (.int ((3 : Int32) + (1 : Int32))), .val (.int ch)]) rfl (pc' := 87) rfl ?_
                show Run _ _ _ _ _ _ _ _ _ _ _ _ _ _ _ _ _ _ _ _ _ (mkF m 87 #[.val (.ref a), .val (.int (1 : Int32)), .val (.int (4 : Int32)), .val (.int ch)] [])
                refine GoKit.goto G d5_87 (by decide) (pc' := 15) rfl ?_
                refine Run.mono (by decide) (by decide) (J4 _ _ _ K ?_ (Or.inr ⟨_, rfl, rfl⟩))
                exact Or.inr ⟨rfl, hT.trans (drop_step hch (by unfold tch; simp only [gt_iff_lt, ge_iff_le, ne_eq, Int32.lt_iff_toInt_lt, Int32.le_iff_toInt_le, ← Int32.toInt_inj, show (33 : Int32).toInt = 33 from rfl, show (35 : Int32).toInt = 35 from rfl, show (36 : Int32).toInt = 36 from rfl, show (37 : Int32).toInt = 37 from rfl, show (38 : Int32).toInt = 38 from rfl, show (39 : Int32).toInt = 39 from rfl, show (42 : Int32).toInt = 42 from rfl, show (43 : Int32).toInt = 43 from rfl, show (45 : Int32).toInt = 45 from rfl, show (46 : Int32).toInt = 46 from rfl, show (48 : Int32).toInt = 48 from rfl, show (57 : Int32).toInt = 57 from rfl, show (65 : Int32).toInt = 65 from rfl, show (90 : Int32).toInt = 90 from rfl, show (94 : Int32).toInt = 94 from rfl, show (95 : Int32).toInt = 95 from rfl, show (96 : Int32).toInt = 96 from rfl, show (97 : Int32).toInt = 97 from rfl, show (122 : Int32).toInt = 122 from rfl, show (124 : Int32).toInt = 124 from rfl, show (126 : Int32).toInt = 126 from rfl] at hb1 hb2 hb3 hb19; omega))⟩
              · refine GoKit.ldcStr G d5_69 rfl (wi hw 83 rfl) (wS hw) (by decide) (vs := [.int (33 : Int32), .int (35 : Int32), .int (36 : Int32), .int (37 : Int32), .int (38 : Int32), .int (39 : Int32), .int (42 : Int32), .int (43 : Int32), .int (45 : Int32), .int (46 : Int32), .int (94 : Int32), .int (95 : Int32), .int (96 : Int32), .int (124 : Int32), .int (126 : Int32)]) (z := (15 : Int32)) ⟨by decide +kernel, by decide +kernel⟩ (by decide) rfl (n := 60) (by decide +kernel) (by decide) (by decide) (by decide) (cells' := 8) (slots' := 256) rfl rfl (pc' := 71) rfl (fun a20 b21 k22 h29 E23 X24 FC25 FV26 A27 N28 => ?_)
                have S30 : Lat Z h29 a20 [(33 : Int32), (35 : Int32), (36 : Int32), (37 : Int32), (38 : Int32), (39 : Int32), (42 : Int32), (43 : Int32), (45 : Int32), (46 : Int32), (94 : Int32), (95 : Int32), (96 : Int32), (124 : Int32), (126 : Int32)] := latLit X24 FC25 FV26 A27 rfl (by decide +kernel) (by decide +kernel)
                have A31 : IA Z h29 b21 .byte (([(33 : Int32), (35 : Int32), (36 : Int32), (37 : Int32), (38 : Int32), (39 : Int32), (42 : Int32), (43 : Int32), (45 : Int32), (46 : Int32), (94 : Int32), (95 : Int32), (96 : Int32), (124 : Int32), (126 : Int32)] : List Int32).map fun c => c.toInt8.toInt32) := iaLit A27 rfl (by decide +kernel)
                refine GoKit.iloadN G d5_71 rfl (pc' := 72) rfl ?_
                refine GoKit.callVirtualP G d5_72 (wi hw 84 rfl) (wi hw 85 rfl) (wi hw 87 rfl) (wi hw 86 rfl) (wi hw 8 rfl) (wi hw 88 rfl) (by decide) S30.1 (W := 0) (argsL := [(.int ch)]) (rest := []) (con_idxL l hw (cs := litL) ch S30 HC) rfl (lenOf pd_4 rfl) rfl (by decide) (Nat.le_of_eq rfl) (by decide) (by decide) (by decide) (cells' := 8) (slots' := 256) rfl rfl (pc' := 75) rfl ?_
                show Run _ _ _ _ _ _ _ _ _ _ _ _ _ _ _ _ _ _ _ _ _ (mkF m 75 #[.val (.ref a), .val (.int (1 : Int32)), .val (.int (3 : Int32)), .val (.int ch)] [(.int (idxFrom litL ch 0))])
                refine GoKit.if_lt G d5_75 (by decide) (pt := 82) (pf := 78) rfl rfl (fun hb32 => ?_) (fun hb32 => ?_)
                · refine GoKit.iconst G (0 : Int32) d5_82 rfl (pc' := 83) rfl ?_
                  refine GoKit.istoreN G d5_83 (Ls' := #[.val (.ref a), .val (.int (0 : Int32)), .val (.int (3 : Int32)), .val (.int ch)]) rfl (pc' := 84) rfl ?_
                  refine GoKit.iinc G (1 : Int32) d5_84 rfl rfl (Ls' := #[.val (.ref a), .val (.int (0 : Int32)), .val (.int ((3 : Int32) + (1 : Int32))), .val (.int ch)]) rfl (pc' := 87) rfl ?_
                  show Run _ _ _ _ _ _ _ _ _ _ _ _ _ _ _ _ _ _ _ _ _ (mkF m 87 #[.val (.ref a), .val (.int (0 : Int32)), .val (.int (4 : Int32)), .val (.int ch)] [])
                  refine GoKit.goto G d5_87 (by decide) (pc' := 15) rfl ?_
                  have KP33 : Keep h h29 [] := ((Keep.refl h []).ext E23)
                  refine Run.mono (by decide) (by decide) (J4 _ _ _ (K.trans KP33 all0) ?_ (Or.inr ⟨_, rfl, rfl⟩))
                  exact Or.inl ⟨rfl, fun q => (show ¬ tch ch from (by have hn := lit_no (fun q => idx_some lit_sm q hb32); unfold tch; simp only [gt_iff_lt, ge_iff_le, ne_eq, Int32.lt_iff_toInt_lt, Int32.le_iff_toInt_le, ← Int32.toInt_inj, show (33 : Int32).toInt = 33 from rfl, show (35 : Int32).toInt = 35 from rfl, show (36 : Int32).toInt = 36 from rfl, show (37 : Int32).toInt = 37 from rfl, show (38 : Int32).toInt = 38 from rfl, show (39 : Int32).toInt = 39 from rfl, show (42 : Int32).toInt = 42 from rfl, show (43 : Int32).toInt = 43 from rfl, show (45 : Int32).toInt = 45 from rfl, show (46 : Int32).toInt = 46 from rfl, show (48 : Int32).toInt = 48 from rfl, show (57 : Int32).toInt = 57 from rfl, show (65 : Int32).toInt = 65 from rfl, show (90 : Int32).toInt = 90 from rfl, show (94 : Int32).toInt = 94 from rfl, show (95 : Int32).toInt = 95 from rfl, show (96 : Int32).toInt = 96 from rfl, show (97 : Int32).toInt = 97 from rfl, show (122 : Int32).toInt = 122 from rfl, show (124 : Int32).toInt = 124 from rfl, show (126 : Int32).toInt = 126 from rfl] at hb1 hb2 hb3 hb19; omega)) (hT.mp q ch (mem_drop hch))⟩
                · refine GoKit.iconst G (1 : Int32) d5_78 rfl (pc' := 79) rfl ?_
                  refine GoKit.goto G d5_79 (by decide) (pc' := 83) rfl ?_
                  refine GoKit.istoreN G d5_83 (Ls' := #[.val (.ref a), .val (.int (1 : Int32)), .val (.int (3 : Int32)), .val (.int ch)]) rfl (pc' := 84) rfl ?_
                  refine GoKit.iinc G (1 : Int32) d5_84 rfl rfl (Ls' := #[.val (.ref a), .val (.int (1 : Int32)), .val (.int ((3 : Int32) + (1 : Int32))), .val (.int ch)]) rfl (pc' := 87) rfl ?_
                  show Run _ _ _ _ _ _ _ _ _ _ _ _ _ _ _ _ _ _ _ _ _ (mkF m 87 #[.val (.ref a), .val (.int (1 : Int32)), .val (.int (4 : Int32)), .val (.int ch)] [])
                  refine GoKit.goto G d5_87 (by decide) (pc' := 15) rfl ?_
                  have KP34 : Keep h h29 [] := ((Keep.refl h []).ext E23)
                  refine Run.mono (by decide) (by decide) (J4 _ _ _ (K.trans KP34 all0) ?_ (Or.inr ⟨_, rfl, rfl⟩))
                  exact Or.inr ⟨rfl, hT.trans (drop_step hch (lit_tch (Classical.byContradiction fun q => hb32 (by rw [idx_none q]; decide))))⟩
          · refine GoKit.iloadN G d5_51 rfl (pc' := 52) rfl ?_
            refine GoKit.bipush G (90 : Int32) d5_52 rfl (pc' := 54) rfl ?_
            refine GoKit.icmp_le G d5_54 (by decide) (pt := 78) (pf := 57) rfl rfl (fun hb35 => ?_) (fun hb35 => ?_)
            · refine GoKit.iconst G (1 : Int32) d5_78 rfl (pc' := 79) rfl ?_
              refine GoKit.goto G d5_79 (by decide) (pc' := 83) rfl ?_
              refine GoKit.istoreN G d5_83 (Ls' := #[.val (.ref a), .val (.int (1 : Int32)), .val (.int (3 : Int32)), .val (.int ch)]) rfl (pc' := 84) rfl ?_
              refine GoKit.iinc G (1 : Int32) d5_84 rfl rfl (Ls' := #[.val (.ref a), .val (.int (1 : Int32)), .val (.int ((3 : Int32) + (1 : Int32))), .val (.int ch)]) rfl (pc' := 87) rfl ?_
              show Run _ _ _ _ _ _ _ _ _ _ _ _ _ _ _ _ _ _ _ _ _ (mkF m 87 #[.val (.ref a), .val (.int (1 : Int32)), .val (.int (4 : Int32)), .val (.int ch)] [])
              refine GoKit.goto G d5_87 (by decide) (pc' := 15) rfl ?_
              refine Run.mono (by decide) (by decide) (J4 _ _ _ K ?_ (Or.inr ⟨_, rfl, rfl⟩))
              exact Or.inr ⟨rfl, hT.trans (drop_step hch (by unfold tch; simp only [gt_iff_lt, ge_iff_le, ne_eq, Int32.lt_iff_toInt_lt, Int32.le_iff_toInt_le, ← Int32.toInt_inj, show (33 : Int32).toInt = 33 from rfl, show (35 : Int32).toInt = 35 from rfl, show (36 : Int32).toInt = 36 from rfl, show (37 : Int32).toInt = 37 from rfl, show (38 : Int32).toInt = 38 from rfl, show (39 : Int32).toInt = 39 from rfl, show (42 : Int32).toInt = 42 from rfl, show (43 : Int32).toInt = 43 from rfl, show (45 : Int32).toInt = 45 from rfl, show (46 : Int32).toInt = 46 from rfl, show (48 : Int32).toInt = 48 from rfl, show (57 : Int32).toInt = 57 from rfl, show (65 : Int32).toInt = 65 from rfl, show (90 : Int32).toInt = 90 from rfl, show (94 : Int32).toInt = 94 from rfl, show (95 : Int32).toInt = 95 from rfl, show (96 : Int32).toInt = 96 from rfl, show (97 : Int32).toInt = 97 from rfl, show (122 : Int32).toInt = 122 from rfl, show (124 : Int32).toInt = 124 from rfl, show (126 : Int32).toInt = 126 from rfl] at hb1 hb2 hb35; omega))⟩
            · refine GoKit.iloadN G d5_57 rfl (pc' := 58) rfl ?_
              refine GoKit.bipush G (48 : Int32) d5_58 rfl (pc' := 60) rfl ?_
              refine GoKit.icmp_lt G d5_60 (by decide) (pt := 69) (pf := 63) rfl rfl (fun hb36 => ?_) (fun hb36 => ?_)
              · refine GoKit.ldcStr G d5_69 rfl (wi hw 83 rfl) (wS hw) (by decide) (vs := [.int (33 : Int32), .int (35 : Int32), .int (36 : Int32), .int (37 : Int32), .int (38 : Int32), .int (39 : Int32), .int (42 : Int32), .int (43 : Int32), .int (45 : Int32), .int (46 : Int32), .int (94 : Int32), .int (95 : Int32), .int (96 : Int32), .int (124 : Int32), .int (126 : Int32)]) (z := (15 : Int32)) ⟨by decide +kernel, by decide +kernel⟩ (by decide) rfl (n := 60) (by decide +kernel) (by decide) (by decide) (by decide) (cells' := 8) (slots' := 256) rfl rfl (pc' := 71) rfl (fun a37 b38 k39 h46 E40 X41 FC42 FV43 A44 N45 => ?_)
                have S47 : Lat Z h46 a37 [(33 : Int32), (35 : Int32), (36 : Int32), (37 : Int32), (38 : Int32), (39 : Int32), (42 : Int32), (43 : Int32), (45 : Int32), (46 : Int32), (94 : Int32), (95 : Int32), (96 : Int32), (124 : Int32), (126 : Int32)] := latLit X41 FC42 FV43 A44 rfl (by decide +kernel) (by decide +kernel)
                have A48 : IA Z h46 b38 .byte (([(33 : Int32), (35 : Int32), (36 : Int32), (37 : Int32), (38 : Int32), (39 : Int32), (42 : Int32), (43 : Int32), (45 : Int32), (46 : Int32), (94 : Int32), (95 : Int32), (96 : Int32), (124 : Int32), (126 : Int32)] : List Int32).map fun c => c.toInt8.toInt32) := iaLit A44 rfl (by decide +kernel)
                refine GoKit.iloadN G d5_71 rfl (pc' := 72) rfl ?_
                refine GoKit.callVirtualP G d5_72 (wi hw 84 rfl) (wi hw 85 rfl) (wi hw 87 rfl) (wi hw 86 rfl) (wi hw 8 rfl) (wi hw 88 rfl) (by decide) S47.1 (W := 0) (argsL := [(.int ch)]) (rest := []) (con_idxL l hw (cs := litL) ch S47 HC) rfl (lenOf pd_4 rfl) rfl (by decide) (Nat.le_of_eq rfl) (by decide) (by decide) (by decide) (cells' := 8) (slots' := 256) rfl rfl (pc' := 75) rfl ?_
                show Run _ _ _ _ _ _ _ _ _ _ _ _ _ _ _ _ _ _ _ _ _ (mkF m 75 #[.val (.ref a), .val (.int (1 : Int32)), .val (.int (3 : Int32)), .val (.int ch)] [(.int (idxFrom litL ch 0))])
                refine GoKit.if_lt G d5_75 (by decide) (pt := 82) (pf := 78) rfl rfl (fun hb49 => ?_) (fun hb49 => ?_)
                · refine GoKit.iconst G (0 : Int32) d5_82 rfl (pc' := 83) rfl ?_
                  refine GoKit.istoreN G d5_83 (Ls' := #[.val (.ref a), .val (.int (0 : Int32)), .val (.int (3 : Int32)), .val (.int ch)]) rfl (pc' := 84) rfl ?_
                  refine GoKit.iinc G (1 : Int32) d5_84 rfl rfl (Ls' := #[.val (.ref a), .val (.int (0 : Int32)), .val (.int ((3 : Int32) + (1 : Int32))), .val (.int ch)]) rfl (pc' := 87) rfl ?_
                  show Run _ _ _ _ _ _ _ _ _ _ _ _ _ _ _ _ _ _ _ _ _ (mkF m 87 #[.val (.ref a), .val (.int (0 : Int32)), .val (.int (4 : Int32)), .val (.int ch)] [])
                  refine GoKit.goto G d5_87 (by decide) (pc' := 15) rfl ?_
                  have KP50 : Keep h h46 [] := ((Keep.refl h []).ext E40)
                  refine Run.mono (by decide) (by decide) (J4 _ _ _ (K.trans KP50 all0) ?_ (Or.inr ⟨_, rfl, rfl⟩))
                  exact Or.inl ⟨rfl, fun q => (show ¬ tch ch from (by have hn := lit_no (fun q => idx_some lit_sm q hb49); unfold tch; simp only [gt_iff_lt, ge_iff_le, ne_eq, Int32.lt_iff_toInt_lt, Int32.le_iff_toInt_le, ← Int32.toInt_inj, show (33 : Int32).toInt = 33 from rfl, show (35 : Int32).toInt = 35 from rfl, show (36 : Int32).toInt = 36 from rfl, show (37 : Int32).toInt = 37 from rfl, show (38 : Int32).toInt = 38 from rfl, show (39 : Int32).toInt = 39 from rfl, show (42 : Int32).toInt = 42 from rfl, show (43 : Int32).toInt = 43 from rfl, show (45 : Int32).toInt = 45 from rfl, show (46 : Int32).toInt = 46 from rfl, show (48 : Int32).toInt = 48 from rfl, show (57 : Int32).toInt = 57 from rfl, show (65 : Int32).toInt = 65 from rfl, show (90 : Int32).toInt = 90 from rfl, show (94 : Int32).toInt = 94 from rfl, show (95 : Int32).toInt = 95 from rfl, show (96 : Int32).toInt = 96 from rfl, show (97 : Int32).toInt = 97 from rfl, show (122 : Int32).toInt = 122 from rfl, show (124 : Int32).toInt = 124 from rfl, show (126 : Int32).toInt = 126 from rfl] at hb1 hb2 hb35 hb36; omega)) (hT.mp q ch (mem_drop hch))⟩
                · refine GoKit.iconst G (1 : Int32) d5_78 rfl (pc' := 79) rfl ?_
                  refine GoKit.goto G d5_79 (by decide) (pc' := 83) rfl ?_
                  refine GoKit.istoreN G d5_83 (Ls' := #[.val (.ref a), .val (.int (1 : Int32)), .val (.int (3 : Int32)), .val (.int ch)]) rfl (pc' := 84) rfl ?_
                  refine GoKit.iinc G (1 : Int32) d5_84 rfl rfl (Ls' := #[.val (.ref a), .val (.int (1 : Int32)), .val (.int ((3 : Int32) + (1 : Int32))), .val (.int ch)]) rfl (pc' := 87) rfl ?_
                  show Run _ _ _ _ _ _ _ _ _ _ _ _ _ _ _ _ _ _ _ _ _ (mkF m 87 #[.val (.ref a), .val (.int (1 : Int32)), .val (.int (4 : Int32)), .val (.int ch)] [])
                  refine GoKit.goto G d5_87 (by decide) (pc' := 15) rfl ?_
                  have KP51 : Keep h h46 [] := ((Keep.refl h []).ext E40)
                  refine Run.mono (by decide) (by decide) (J4 _ _ _ (K.trans KP51 all0) ?_ (Or.inr ⟨_, rfl, rfl⟩))
                  exact Or.inr ⟨rfl, hT.trans (drop_step hch (lit_tch (Classical.byContradiction fun q => hb49 (by rw [idx_none q]; decide))))⟩
              · refine GoKit.iloadN G d5_63 rfl (pc' := 64) rfl ?_
                refine GoKit.bipush G (57 : Int32) d5_64 rfl (pc' := 66) rfl ?_
                refine GoKit.icmp_le G d5_66 (by decide) (pt := 78) (pf := 69) rfl rfl (fun hb52 => ?_) (fun hb52 => ?_)
                · refine GoKit.iconst G (1 : Int32) d5_78 rfl (pc' := 79) rfl ?_
                  refine GoKit.goto G d5_79 (by decide) (pc' := 83) rfl ?_
                  refine GoKit.istoreN G d5_83 (Ls' := #[.val (.ref a), .val (.int (1 : Int32)), .val (.int (3 : Int32)), .val (.int ch)]) rfl (pc' := 84) rfl ?_
                  refine GoKit.iinc G (1 : Int32) d5_84 rfl rfl (Ls' := #[.val (.ref a), .val (.int (1 : Int32)), .val (.int ((3 : Int32) + (1 : Int32))), .val (.int ch)]) rfl (pc' := 87) rfl ?_
                  show Run _ _ _ _ _ _ _ _ _ _ _ _ _ _ _ _ _ _ _ _ _ (mkF m 87 #[.val (.ref a), .val (.int (1 : Int32)), .val (.int (4 : Int32)), .val (.int ch)] [])
                  refine GoKit.goto G d5_87 (by decide) (pc' := 15) rfl ?_
                  refine Run.mono (by decide) (by decide) (J4 _ _ _ K ?_ (Or.inr ⟨_, rfl, rfl⟩))
                  exact Or.inr ⟨rfl, hT.trans (drop_step hch (by unfold tch; simp only [gt_iff_lt, ge_iff_le, ne_eq, Int32.lt_iff_toInt_lt, Int32.le_iff_toInt_le, ← Int32.toInt_inj, show (33 : Int32).toInt = 33 from rfl, show (35 : Int32).toInt = 35 from rfl, show (36 : Int32).toInt = 36 from rfl, show (37 : Int32).toInt = 37 from rfl, show (38 : Int32).toInt = 38 from rfl, show (39 : Int32).toInt = 39 from rfl, show (42 : Int32).toInt = 42 from rfl, show (43 : Int32).toInt = 43 from rfl, show (45 : Int32).toInt = 45 from rfl, show (46 : Int32).toInt = 46 from rfl, show (48 : Int32).toInt = 48 from rfl, show (57 : Int32).toInt = 57 from rfl, show (65 : Int32).toInt = 65 from rfl, show (90 : Int32).toInt = 90 from rfl, show (94 : Int32).toInt = 94 from rfl, show (95 : Int32).toInt = 95 from rfl, show (96 : Int32).toInt = 96 from rfl, show (97 : Int32).toInt = 97 from rfl, show (122 : Int32).toInt = 122 from rfl, show (124 : Int32).toInt = 124 from rfl, show (126 : Int32).toInt = 126 from rfl] at hb1 hb2 hb35 hb36 hb52; omega))⟩
                · refine GoKit.ldcStr G d5_69 rfl (wi hw 83 rfl) (wS hw) (by decide) (vs := [.int (33 : Int32), .int (35 : Int32), .int (36 : Int32), .int (37 : Int32), .int (38 : Int32), .int (39 : Int32), .int (42 : Int32), .int (43 : Int32), .int (45 : Int32), .int (46 : Int32), .int (94 : Int32), .int (95 : Int32), .int (96 : Int32), .int (124 : Int32), .int (126 : Int32)]) (z := (15 : Int32)) ⟨by decide +kernel, by decide +kernel⟩ (by decide) rfl (n := 60) (by decide +kernel) (by decide) (by decide) (by decide) (cells' := 8) (slots' := 256) rfl rfl (pc' := 71) rfl (fun a53 b54 k55 h62 E56 X57 FC58 FV59 A60 N61 => ?_)
                  have S63 : Lat Z h62 a53 [(33 : Int32), (35 : Int32), (36 : Int32), (37 : Int32), (38 : Int32), (39 : Int32), (42 : Int32), (43 : Int32), (45 : Int32), (46 : Int32), (94 : Int32), (95 : Int32), (96 : Int32), (124 : Int32), (126 : Int32)] := latLit X57 FC58 FV59 A60 rfl (by decide +kernel) (by decide +kernel)
                  have A64 : IA Z h62 b54 .byte (([(33 : Int32), (35 : Int32), (36 : Int32), (37 : Int32), (38 : Int32), (39 : Int32), (42 : Int32), (43 : Int32), (45 : Int32), (46 : Int32), (94 : Int32), (95 : Int32), (96 : Int32), (124 : Int32), (126 : Int32)] : List Int32).map fun c => c.toInt8.toInt32) := iaLit A60 rfl (by decide +kernel)
                  refine GoKit.iloadN G d5_71 rfl (pc' := 72) rfl ?_
                  refine GoKit.callVirtualP G d5_72 (wi hw 84 rfl) (wi hw 85 rfl) (wi hw 87 rfl) (wi hw 86 rfl) (wi hw 8 rfl) (wi hw 88 rfl) (by decide) S63.1 (W := 0) (argsL := [(.int ch)]) (rest := []) (con_idxL l hw (cs := litL) ch S63 HC) rfl (lenOf pd_4 rfl) rfl (by decide) (Nat.le_of_eq rfl) (by decide) (by decide) (by decide) (cells' := 8) (slots' := 256) rfl rfl (pc' := 75) rfl ?_
                  show Run _ _ _ _ _ _ _ _ _ _ _ _ _ _ _ _ _ _ _ _ _ (mkF m 75 #[.val (.ref a), .val (.int (1 : Int32)), .val (.int (3 : Int32)), .val (.int ch)] [(.int (idxFrom litL ch 0))])
                  refine GoKit.if_lt G d5_75 (by decide) (pt := 82) (pf := 78) rfl rfl (fun hb65 => ?_) (fun hb65 => ?_)
                  · refine GoKit.iconst G (0 : Int32) d5_82 rfl (pc' := 83) rfl ?_
                    refine GoKit.istoreN G d5_83 (Ls' := #[.val (.ref a), .val (.int (0 : Int32)), .val (.int (3 : Int32)), .val (.int ch)]) rfl (pc' := 84) rfl ?_
                    refine GoKit.iinc G (1 : Int32) d5_84 rfl rfl (Ls' := #[.val (.ref a), .val (.int (0 : Int32)), .val (.int ((3 : Int32) + (1 : Int32))), .val (.int ch)]) rfl (pc' := 87) rfl ?_
                    show Run _ _ _ _ _ _ _ _ _ _ _ _ _ _ _ _ _ _ _ _ _ (mkF m 87 #[.val (.ref a), .val (.int (0 : Int32)), .val (.int (4 : Int32)), .val (.int ch)] [])
                    refine GoKit.goto G d5_87 (by decide) (pc' := 15) rfl ?_
                    have KP66 : Keep h h62 [] := ((Keep.refl h []).ext E56)
                    refine Run.mono (by decide) (by decide) (J4 _ _ _ (K.trans KP66 all0) ?_ (Or.inr ⟨_, rfl, rfl⟩))
                    exact Or.inl ⟨rfl, fun q => (show ¬ tch ch from (by have hn := lit_no (fun q => idx_some lit_sm q hb65); unfold tch; simp only [gt_iff_lt, ge_iff_le, ne_eq, Int32.lt_iff_toInt_lt, Int32.le_iff_toInt_le, ← Int32.toInt_inj, show (33 : Int32).toInt = 33 from rfl, show (35 : Int32).toInt = 35 from rfl, show (36 : Int32).toInt = 36 from rfl, show (37 : Int32).toInt = 37 from rfl, show (38 : Int32).toInt = 38 from rfl, show (39 : Int32).toInt = 39 from rfl, show (42 : Int32).toInt = 42 from rfl, show (43 : Int32).toInt = 43 from rfl, show (45 : Int32).toInt = 45 from rfl, show (46 : Int32).toInt = 46 from rfl, show (48 : Int32).toInt = 48 from rfl, show (57 : Int32).toInt = 57 from rfl, show (65 : Int32).toInt = 65 from rfl, show (90 : Int32).toInt = 90 from rfl, show (94 : Int32).toInt = 94 from rfl, show (95 : Int32).toInt = 95 from rfl, show (96 : Int32).toInt = 96 from rfl, show (97 : Int32).toInt = 97 from rfl, show (122 : Int32).toInt = 122 from rfl, show (124 : Int32).toInt = 124 from rfl, show (126 : Int32).toInt = 126 from rfl] at hb1 hb2 hb35 hb36 hb52; omega)) (hT.mp q ch (mem_drop hch))⟩
                  · refine GoKit.iconst G (1 : Int32) d5_78 rfl (pc' := 79) rfl ?_
                    refine GoKit.goto G d5_79 (by decide) (pc' := 83) rfl ?_
                    refine GoKit.istoreN G d5_83 (Ls' := #[.val (.ref a), .val (.int (1 : Int32)), .val (.int (3 : Int32)), .val (.int ch)]) rfl (pc' := 84) rfl ?_
                    refine GoKit.iinc G (1 : Int32) d5_84 rfl rfl (Ls' := #[.val (.ref a), .val (.int (1 : Int32)), .val (.int ((3 : Int32) + (1 : Int32))), .val (.int ch)]) rfl (pc' := 87) rfl ?_
                    show Run _ _ _ _ _ _ _ _ _ _ _ _ _ _ _ _ _ _ _ _ _ (mkF m 87 #[.val (.ref a), .val (.int (1 : Int32)), .val (.int (4 : Int32)), .val (.int ch)] [])
                    refine GoKit.goto G d5_87 (by decide) (pc' := 15) rfl ?_
                    have KP67 : Keep h h62 [] := ((Keep.refl h []).ext E56)
                    refine Run.mono (by decide) (by decide) (J4 _ _ _ (K.trans KP67 all0) ?_ (Or.inr ⟨_, rfl, rfl⟩))
                    exact Or.inr ⟨rfl, hT.trans (drop_step hch (lit_tch (Classical.byContradiction fun q => hb65 (by rw [idx_none q]; decide))))⟩
        · refine GoKit.iloadN G d5_39 rfl (pc' := 40) rfl ?_
          refine GoKit.bipush G (122 : Int32) d5_40 rfl (pc' := 42) rfl ?_
          refine GoKit.icmp_le G d5_42 (by decide) (pt := 78) (pf := 45) rfl rfl (fun hb68 => ?_) (fun hb68 => ?_)
          · refine GoKit.iconst G (1 : Int32) d5_78 rfl (pc' := 79) rfl ?_
            refine GoKit.goto G d5_79 (by decide) (pc' := 83) rfl ?_
            refine GoKit.istoreN G d5_83 (Ls' := #[.val (.ref a), .val (.int (1 : Int32)), .val (.int (3 : Int32)), .val (.int ch)]) rfl (pc' := 84) rfl ?_
            refine GoKit.iinc G (1 : Int32) d5_84 rfl rfl (Ls' := #[.val (.ref a), .val (.int (1 : Int32)), .val (.int ((3 : Int32) + (1 : Int32))), .val (.int ch)]) rfl (pc' := 87) rfl ?_
            show Run _ _ _ _ _ _ _ _ _ _ _ _ _ _ _ _ _ _ _ _ _ (mkF m 87 #[.val (.ref a), .val (.int (1 : Int32)), .val (.int (4 : Int32)), .val (.int ch)] [])
            refine GoKit.goto G d5_87 (by decide) (pc' := 15) rfl ?_
            refine Run.mono (by decide) (by decide) (J4 _ _ _ K ?_ (Or.inr ⟨_, rfl, rfl⟩))
            exact Or.inr ⟨rfl, hT.trans (drop_step hch (by unfold tch; simp only [gt_iff_lt, ge_iff_le, ne_eq, Int32.lt_iff_toInt_lt, Int32.le_iff_toInt_le, ← Int32.toInt_inj, show (33 : Int32).toInt = 33 from rfl, show (35 : Int32).toInt = 35 from rfl, show (36 : Int32).toInt = 36 from rfl, show (37 : Int32).toInt = 37 from rfl, show (38 : Int32).toInt = 38 from rfl, show (39 : Int32).toInt = 39 from rfl, show (42 : Int32).toInt = 42 from rfl, show (43 : Int32).toInt = 43 from rfl, show (45 : Int32).toInt = 45 from rfl, show (46 : Int32).toInt = 46 from rfl, show (48 : Int32).toInt = 48 from rfl, show (57 : Int32).toInt = 57 from rfl, show (65 : Int32).toInt = 65 from rfl, show (90 : Int32).toInt = 90 from rfl, show (94 : Int32).toInt = 94 from rfl, show (95 : Int32).toInt = 95 from rfl, show (96 : Int32).toInt = 96 from rfl, show (97 : Int32).toInt = 97 from rfl, show (122 : Int32).toInt = 122 from rfl, show (124 : Int32).toInt = 124 from rfl, show (126 : Int32).toInt = 126 from rfl] at hb1 hb68; omega))⟩
          · refine GoKit.iloadN G d5_45 rfl (pc' := 46) rfl ?_
            refine GoKit.bipush G (65 : Int32) d5_46 rfl (pc' := 48) rfl ?_
            refine GoKit.icmp_lt G d5_48 (by decide) (pt := 57) (pf := 51) rfl rfl (fun hb69 => ?_) (fun hb69 => ?_)
            · refine GoKit.iloadN G d5_57 rfl (pc' := 58) rfl ?_
              refine GoKit.bipush G (48 : Int32) d5_58 rfl (pc' := 60) rfl ?_
              refine GoKit.icmp_lt G d5_60 (by decide) (pt := 69) (pf := 63) rfl rfl (fun hb70 => ?_) (fun hb70 => ?_)
              · refine GoKit.ldcStr G d5_69 rfl (wi hw 83 rfl) (wS hw) (by decide) (vs := [.int (33 : Int32), .int (35 : Int32), .int (36 : Int32), .int (37 : Int32), .int (38 : Int32), .int (39 : Int32), .int (42 : Int32), .int (43 : Int32), .int (45 : Int32), .int (46 : Int32), .int (94 : Int32), .int (95 : Int32), .int (96 : Int32), .int (124 : Int32), .int (126 : Int32)]) (z := (15 : Int32)) ⟨by decide +kernel, by decide +kernel⟩ (by decide) rfl (n := 60) (by decide +kernel) (by decide) (by decide) (by decide) (cells' := 8) (slots' := 256) rfl rfl (pc' := 71) rfl (fun a71 b72 k73 h80 E74 X75 FC76 FV77 A78 N79 => ?_)
                have S81 : Lat Z h80 a71 [(33 : Int32), (35 : Int32), (36 : Int32), (37 : Int32), (38 : Int32), (39 : Int32), (42 : Int32), (43 : Int32), (45 : Int32), (46 : Int32), (94 : Int32), (95 : Int32), (96 : Int32), (124 : Int32), (126 : Int32)] := latLit X75 FC76 FV77 A78 rfl (by decide +kernel) (by decide +kernel)
                have A82 : IA Z h80 b72 .byte (([(33 : Int32), (35 : Int32), (36 : Int32), (37 : Int32), (38 : Int32), (39 : Int32), (42 : Int32), (43 : Int32), (45 : Int32), (46 : Int32), (94 : Int32), (95 : Int32), (96 : Int32), (124 : Int32), (126 : Int32)] : List Int32).map fun c => c.toInt8.toInt32) := iaLit A78 rfl (by decide +kernel)
                refine GoKit.iloadN G d5_71 rfl (pc' := 72) rfl ?_
                refine GoKit.callVirtualP G d5_72 (wi hw 84 rfl) (wi hw 85 rfl) (wi hw 87 rfl) (wi hw 86 rfl) (wi hw 8 rfl) (wi hw 88 rfl) (by decide) S81.1 (W := 0) (argsL := [(.int ch)]) (rest := []) (con_idxL l hw (cs := litL) ch S81 HC) rfl (lenOf pd_4 rfl) rfl (by decide) (Nat.le_of_eq rfl) (by decide) (by decide) (by decide) (cells' := 8) (slots' := 256) rfl rfl (pc' := 75) rfl ?_
                show Run _ _ _ _ _ _ _ _ _ _ _ _ _ _ _ _ _ _ _ _ _ (mkF m 75 #[.val (.ref a), .val (.int (1 : Int32)), .val (.int (3 : Int32)), .val (.int ch)] [(.int (idxFrom litL ch 0))])
                refine GoKit.if_lt G d5_75 (by decide) (pt := 82) (pf := 78) rfl rfl (fun hb83 => ?_) (fun hb83 => ?_)
                · refine GoKit.iconst G (0 : Int32) d5_82 rfl (pc' := 83) rfl ?_
                  refine GoKit.istoreN G d5_83 (Ls' := #[.val (.ref a), .val (.int (0 : Int32)), .val (.int (3 : Int32)), .val (.int ch)]) rfl (pc' := 84) rfl ?_
                  refine GoKit.iinc G (1 : Int32) d5_84 rfl rfl (Ls' := #[.val (.ref a), .val (.int (0 : Int32)), .val (.int ((3 : Int32) + (1 : Int32))), .val (.int ch)]) rfl (pc' := 87) rfl ?_
                  show Run _ _ _ _ _ _ _ _ _ _ _ _ _ _ _ _ _ _ _ _ _ (mkF m 87 #[.val (.ref a), .val (.int (0 : Int32)), .val (.int (4 : Int32)), .val (.int ch)] [])
                  refine GoKit.goto G d5_87 (by decide) (pc' := 15) rfl ?_
                  have KP84 : Keep h h80 [] := ((Keep.refl h []).ext E74)
                  refine Run.mono (by decide) (by decide) (J4 _ _ _ (K.trans KP84 all0) ?_ (Or.inr ⟨_, rfl, rfl⟩))
                  exact Or.inl ⟨rfl, fun q => (show ¬ tch ch from (by have hn := lit_no (fun q => idx_some lit_sm q hb83); unfold tch; simp only [gt_iff_lt, ge_iff_le, ne_eq, Int32.lt_iff_toInt_lt, Int32.le_iff_toInt_le, ← Int32.toInt_inj, show (33 : Int32).toInt = 33 from rfl, show (35 : Int32).toInt = 35 from rfl, show (36 : Int32).toInt = 36 from rfl, show (37 : Int32).toInt = 37 from rfl, show (38 : Int32).toInt = 38 from rfl, show (39 : Int32).toInt = 39 from rfl, show (42 : Int32).toInt = 42 from rfl, show (43 : Int32).toInt = 43 from rfl, show (45 : Int32).toInt = 45 from rfl, show (46 : Int32).toInt = 46 from rfl, show (48 : Int32).toInt = 48 from rfl, show (57 : Int32).toInt = 57 from rfl, show (65 : Int32).toInt = 65 from rfl, show (90 : Int32).toInt = 90 from rfl, show (94 : Int32).toInt = 94 from rfl, show (95 : Int32).toInt = 95 from rfl, show (96 : Int32).toInt = 96 from rfl, show (97 : Int32).toInt = 97 from rfl, show (122 : Int32).toInt = 122 from rfl, show (124 : Int32).toInt = 124 from rfl, show (126 : Int32).toInt = 126 from rfl] at hb1 hb68 hb69 hb70; omega)) (hT.mp q ch (mem_drop hch))⟩
                · refine GoKit.iconst G (1 : Int32) d5_78 rfl (pc' := 79) rfl ?_
                  refine GoKit.goto G d5_79 (by decide) (pc' := 83) rfl ?_
                  refine GoKit.istoreN G d5_83 (Ls' := #[.val (.ref a), .val (.int (1 : Int32)), .val (.int (3 : Int32)), .val (.int ch)]) rfl (pc' := 84) rfl ?_
                  refine GoKit.iinc G (1 : Int32) d5_84 rfl rfl (Ls' := #[.val (.ref a), .val (.int (1 : Int32)), .val (.int ((3 : Int32) + (1 : Int32))), .val (.int ch)]) rfl (pc' := 87) rfl ?_
                  show Run _ _ _ _ _ _ _ _ _ _ _ _ _ _ _ _ _ _ _ _ _ (mkF m 87 #[.val (.ref a), .val (.int (1 : Int32)), .val (.int (4 : Int32)), .val (.int ch)] [])
                  refine GoKit.goto G d5_87 (by decide) (pc' := 15) rfl ?_
                  have KP85 : Keep h h80 [] := ((Keep.refl h []).ext E74)
                  refine Run.mono (by decide) (by decide) (J4 _ _ _ (K.trans KP85 all0) ?_ (Or.inr ⟨_, rfl, rfl⟩))
                  exact Or.inr ⟨rfl, hT.trans (drop_step hch (lit_tch (Classical.byContradiction fun q => hb83 (by rw [idx_none q]; decide))))⟩
              · refine GoKit.iloadN G d5_63 rfl (pc' := 64) rfl ?_
                refine GoKit.bipush G (57 : Int32) d5_64 rfl (pc' := 66) rfl ?_
                refine GoKit.icmp_le G d5_66 (by decide) (pt := 78) (pf := 69) rfl rfl (fun hb86 => ?_) (fun hb86 => ?_)
                · refine GoKit.iconst G (1 : Int32) d5_78 rfl (pc' := 79) rfl ?_
                  refine GoKit.goto G d5_79 (by decide) (pc' := 83) rfl ?_
                  refine GoKit.istoreN G d5_83 (Ls' := #[.val (.ref a), .val (.int (1 : Int32)), .val (.int (3 : Int32)), .val (.int ch)]) rfl (pc' := 84) rfl ?_
                  refine GoKit.iinc G (1 : Int32) d5_84 rfl rfl (Ls' := #[.val (.ref a), .val (.int (1 : Int32)), .val (.int ((3 : Int32) + (1 : Int32))), .val (.int ch)]) rfl (pc' := 87) rfl ?_
                  show Run _ _ _ _ _ _ _ _ _ _ _ _ _ _ _ _ _ _ _ _ _ (mkF m 87 #[.val (.ref a), .val (.int (1 : Int32)), .val (.int (4 : Int32)), .val (.int ch)] [])
                  refine GoKit.goto G d5_87 (by decide) (pc' := 15) rfl ?_
                  refine Run.mono (by decide) (by decide) (J4 _ _ _ K ?_ (Or.inr ⟨_, rfl, rfl⟩))
                  exact Or.inr ⟨rfl, hT.trans (drop_step hch (by unfold tch; simp only [gt_iff_lt, ge_iff_le, ne_eq, Int32.lt_iff_toInt_lt, Int32.le_iff_toInt_le, ← Int32.toInt_inj, show (33 : Int32).toInt = 33 from rfl, show (35 : Int32).toInt = 35 from rfl, show (36 : Int32).toInt = 36 from rfl, show (37 : Int32).toInt = 37 from rfl, show (38 : Int32).toInt = 38 from rfl, show (39 : Int32).toInt = 39 from rfl, show (42 : Int32).toInt = 42 from rfl, show (43 : Int32).toInt = 43 from rfl, show (45 : Int32).toInt = 45 from rfl, show (46 : Int32).toInt = 46 from rfl, show (48 : Int32).toInt = 48 from rfl, show (57 : Int32).toInt = 57 from rfl, show (65 : Int32).toInt = 65 from rfl, show (90 : Int32).toInt = 90 from rfl, show (94 : Int32).toInt = 94 from rfl, show (95 : Int32).toInt = 95 from rfl, show (96 : Int32).toInt = 96 from rfl, show (97 : Int32).toInt = 97 from rfl, show (122 : Int32).toInt = 122 from rfl, show (124 : Int32).toInt = 124 from rfl, show (126 : Int32).toInt = 126 from rfl] at hb1 hb68 hb69 hb70 hb86; omega))⟩
                · refine GoKit.ldcStr G d5_69 rfl (wi hw 83 rfl) (wS hw) (by decide) (vs := [.int (33 : Int32), .int (35 : Int32), .int (36 : Int32), .int (37 : Int32), .int (38 : Int32), .int (39 : Int32), .int (42 : Int32), .int (43 : Int32), .int (45 : Int32), .int (46 : Int32), .int (94 : Int32), .int (95 : Int32), .int (96 : Int32), .int (124 : Int32), .int (126 : Int32)]) (z := (15 : Int32)) ⟨by decide +kernel, by decide +kernel⟩ (by decide) rfl (n := 60) (by decide +kernel) (by decide) (by decide) (by decide) (cells' := 8) (slots' := 256) rfl rfl (pc' := 71) rfl (fun a87 b88 k89 h96 E90 X91 FC92 FV93 A94 N95 => ?_)
                  have S97 : Lat Z h96 a87 [(33 : Int32), (35 : Int32), (36 : Int32), (37 : Int32), (38 : Int32), (39 : Int32), (42 : Int32), (43 : Int32), (45 : Int32), (46 : Int32), (94 : Int32), (95 : Int32), (96 : Int32), (124 : Int32), (126 : Int32)] := latLit X91 FC92 FV93 A94 rfl (by decide +kernel) (by decide +kernel)
                  have A98 : IA Z h96 b88 .byte (([(33 : Int32), (35 : Int32), (36 : Int32), (37 : Int32), (38 : Int32), (39 : Int32), (42 : Int32), (43 : Int32), (45 : Int32), (46 : Int32), (94 : Int32), (95 : Int32), (96 : Int32), (124 : Int32), (126 : Int32)] : List Int32).map fun c => c.toInt8.toInt32) := iaLit A94 rfl (by decide +kernel)
                  refine GoKit.iloadN G d5_71 rfl (pc' := 72) rfl ?_
                  refine GoKit.callVirtualP G d5_72 (wi hw 84 rfl) (wi hw 85 rfl) (wi hw 87 rfl) (wi hw 86 rfl) (wi hw 8 rfl) (wi hw 88 rfl) (by decide) S97.1 (W := 0) (argsL := [(.int ch)]) (rest := []) (con_idxL l hw (cs := litL) ch S97 HC) rfl (lenOf pd_4 rfl) rfl (by decide) (Nat.le_of_eq rfl) (by decide) (by decide) (by decide) (cells' := 8) (slots' := 256) rfl rfl (pc' := 75) rfl ?_
                  show Run _ _ _ _ _ _ _ _ _ _ _ _ _ _ _ _ _ _ _ _ _ (mkF m 75 #[.val (.ref a), .val (.int (1 : Int32)), .val (.int (3 : Int32)), .val (.int ch)] [(.int (idxFrom litL ch 0))])
                  refine GoKit.if_lt G d5_75 (by decide) (pt := 82) (pf := 78) rfl rfl (fun hb99 => ?_) (fun hb99 => ?_)
                  · refine GoKit.iconst G (0 : Int32) d5_82 rfl (pc' := 83) rfl ?_
                    refine GoKit.istoreN G d5_83 (Ls' := #[.val (.ref a), .val (.int (0 : Int32)), .val (.int (3 : Int32)), .val (.int ch)]) rfl (pc' := 84) rfl ?_
                    refine GoKit.iinc G (1 : Int32) d5_84 rfl rfl (Ls' := #[.val (.ref a), .val (.int (0 : Int32)), .val (.int ((3 : Int32) + (1 : Int32))), .val (.int ch)]) rfl (pc' := 87) rfl ?_
                    show Run _ _ _ _ _ _ _ _ _ _ _ _ _ _ _ _ _ _ _ _ _ (mkF m 87 #[.val (.ref a), .val (.int (0 : Int32)), .val (.int (4 : Int32)), .val (.int ch)] [])
                    refine GoKit.goto G d5_87 (by decide) (pc' := 15) rfl ?_
                    have KP100 : Keep h h96 [] := ((Keep.refl h []).ext E90)
                    refine Run.mono (by decide) (by decide) (J4 _ _ _ (K.trans KP100 all0) ?_ (Or.inr ⟨_, rfl, rfl⟩))
                    exact Or.inl ⟨rfl, fun q => (show ¬ tch ch from (by have hn := lit_no (fun q => idx_some lit_sm q hb99); unfold tch; simp only [gt_iff_lt, ge_iff_le, ne_eq, Int32.lt_iff_toInt_lt, Int32.le_iff_toInt_le, ← Int32.toInt_inj, show (33 : Int32).toInt = 33 from rfl, show (35 : Int32).toInt = 35 from rfl, show (36 : Int32).toInt = 36 from rfl, show (37 : Int32).toInt = 37 from rfl, show (38 : Int32).toInt = 38 from rfl, show (39 : Int32).toInt = 39 from rfl, show (42 : Int32).toInt = 42 from rfl, show (43 : Int32).toInt = 43 from rfl, show (45 : Int32).toInt = 45 from rfl, show (46 : Int32).toInt = 46 from rfl, show (48 : Int32).toInt = 48 from rfl, show (57 : Int32).toInt = 57 from rfl, show (65 : Int32).toInt = 65 from rfl, show (90 : Int32).toInt = 90 from rfl, show (94 : Int32).toInt = 94 from rfl, show (95 : Int32).toInt = 95 from rfl, show (96 : Int32).toInt = 96 from rfl, show (97 : Int32).toInt = 97 from rfl, show (122 : Int32).toInt = 122 from rfl, show (124 : Int32).toInt = 124 from rfl, show (126 : Int32).toInt = 126 from rfl] at hb1 hb68 hb69 hb70 hb86; omega)) (hT.mp q ch (mem_drop hch))⟩
                  · refine GoKit.iconst G (1 : Int32) d5_78 rfl (pc' := 79) rfl ?_
                    refine GoKit.goto G d5_79 (by decide) (pc' := 83) rfl ?_
                    refine GoKit.istoreN G d5_83 (Ls' := #[.val (.ref a), .val (.int (1 : Int32)), .val (.int (3 : Int32)), .val (.int ch)]) rfl (pc' := 84) rfl ?_
                    refine GoKit.iinc G (1 : Int32) d5_84 rfl rfl (Ls' := #[.val (.ref a), .val (.int (1 : Int32)), .val (.int ((3 : Int32) + (1 : Int32))), .val (.int ch)]) rfl (pc' := 87) rfl ?_
                    show Run _ _ _ _ _ _ _ _ _ _ _ _ _ _ _ _ _ _ _ _ _ (mkF m 87 #[.val (.ref a), .val (.int (1 : Int32)), .val (.int (4 : Int32)), .val (.int ch)] [])
                    refine GoKit.goto G d5_87 (by decide) (pc' := 15) rfl ?_
                    have KP101 : Keep h h96 [] := ((Keep.refl h []).ext E90)
                    refine Run.mono (by decide) (by decide) (J4 _ _ _ (K.trans KP101 all0) ?_ (Or.inr ⟨_, rfl, rfl⟩))
                    exact Or.inr ⟨rfl, hT.trans (drop_step hch (lit_tch (Classical.byContradiction fun q => hb99 (by rw [idx_none q]; decide))))⟩
            · refine GoKit.iloadN G d5_51 rfl (pc' := 52) rfl ?_
              refine GoKit.bipush G (90 : Int32) d5_52 rfl (pc' := 54) rfl ?_
              refine GoKit.icmp_le G d5_54 (by decide) (pt := 78) (pf := 57) rfl rfl (fun hb102 => ?_) (fun hb102 => ?_)
              · refine GoKit.iconst G (1 : Int32) d5_78 rfl (pc' := 79) rfl ?_
                refine GoKit.goto G d5_79 (by decide) (pc' := 83) rfl ?_
                refine GoKit.istoreN G d5_83 (Ls' := #[.val (.ref a), .val (.int (1 : Int32)), .val (.int (3 : Int32)), .val (.int ch)]) rfl (pc' := 84) rfl ?_
                refine GoKit.iinc G (1 : Int32) d5_84 rfl rfl (Ls' := #[.val (.ref a), .val (.int (1 : Int32)), .val (.int ((3 : Int32) + (1 : Int32))), .val (.int ch)]) rfl (pc' := 87) rfl ?_
                show Run _ _ _ _ _ _ _ _ _ _ _ _ _ _ _ _ _ _ _ _ _ (mkF m 87 #[.val (.ref a), .val (.int (1 : Int32)), .val (.int (4 : Int32)), .val (.int ch)] [])
                refine GoKit.goto G d5_87 (by decide) (pc' := 15) rfl ?_
                refine Run.mono (by decide) (by decide) (J4 _ _ _ K ?_ (Or.inr ⟨_, rfl, rfl⟩))
                exact Or.inr ⟨rfl, hT.trans (drop_step hch (by unfold tch; simp only [gt_iff_lt, ge_iff_le, ne_eq, Int32.lt_iff_toInt_lt, Int32.le_iff_toInt_le, ← Int32.toInt_inj, show (33 : Int32).toInt = 33 from rfl, show (35 : Int32).toInt = 35 from rfl, show (36 : Int32).toInt = 36 from rfl, show (37 : Int32).toInt = 37 from rfl, show (38 : Int32).toInt = 38 from rfl, show (39 : Int32).toInt = 39 from rfl, show (42 : Int32).toInt = 42 from rfl, show (43 : Int32).toInt = 43 from rfl, show (45 : Int32).toInt = 45 from rfl, show (46 : Int32).toInt = 46 from rfl, show (48 : Int32).toInt = 48 from rfl, show (57 : Int32).toInt = 57 from rfl, show (65 : Int32).toInt = 65 from rfl, show (90 : Int32).toInt = 90 from rfl, show (94 : Int32).toInt = 94 from rfl, show (95 : Int32).toInt = 95 from rfl, show (96 : Int32).toInt = 96 from rfl, show (97 : Int32).toInt = 97 from rfl, show (122 : Int32).toInt = 122 from rfl, show (124 : Int32).toInt = 124 from rfl, show (126 : Int32).toInt = 126 from rfl] at hb1 hb68 hb69 hb102; omega))⟩
              · refine GoKit.iloadN G d5_57 rfl (pc' := 58) rfl ?_
                refine GoKit.bipush G (48 : Int32) d5_58 rfl (pc' := 60) rfl ?_
                refine GoKit.icmp_lt G d5_60 (by decide) (pt := 69) (pf := 63) rfl rfl (fun hb103 => ?_) (fun hb103 => ?_)
                · refine GoKit.ldcStr G d5_69 rfl (wi hw 83 rfl) (wS hw) (by decide) (vs := [.int (33 : Int32), .int (35 : Int32), .int (36 : Int32), .int (37 : Int32), .int (38 : Int32), .int (39 : Int32), .int (42 : Int32), .int (43 : Int32), .int (45 : Int32), .int (46 : Int32), .int (94 : Int32), .int (95 : Int32), .int (96 : Int32), .int (124 : Int32), .int (126 : Int32)]) (z := (15 : Int32)) ⟨by decide +kernel, by decide +kernel⟩ (by decide) rfl (n := 60) (by decide +kernel) (by decide) (by decide) (by decide) (cells' := 8) (slots' := 256) rfl rfl (pc' := 71) rfl (fun a104 b105 k106 h113 E107 X108 FC109 FV110 A111 N112 => ?_)
                  have S114 : Lat Z h113 a104 [(33 : Int32), (35 : Int32), (36 : Int32), (37 : Int32), (38 : Int32), (39 : Int32), (42 : Int32), (43 : Int32), (45 : Int32), (46 : Int32), (94 : Int32), (95 : Int32), (96 : Int32), (124 : Int32), (126 : Int32)] := latLit X108 FC109 FV110 A111 rfl (by decide +kernel) (by decide +kernel)
                  have A115 : IA Z h113 b105 .byte (([(33 : Int32), (35 : Int32), (36 : Int32), (37 : Int32), (38 : Int32), (39 : Int32), (42 : Int32), (43 : Int32), (45 : Int32), (46 : Int32), (94 : Int32), (95 : Int32), (96 : Int32), (124 : Int32), (126 : Int32)] : List Int32).map fun c => c.toInt8.toInt32) := iaLit A111 rfl (by decide +kernel)
                  refine GoKit.iloadN G d5_71 rfl (pc' := 72) rfl ?_
                  refine GoKit.callVirtualP G d5_72 (wi hw 84 rfl) (wi hw 85 rfl) (wi hw 87 rfl) (wi hw 86 rfl) (wi hw 8 rfl) (wi hw 88 rfl) (by decide) S114.1 (W := 0) (argsL := [(.int ch)]) (rest := []) (con_idxL l hw (cs := litL) ch S114 HC) rfl (lenOf pd_4 rfl) rfl (by decide) (Nat.le_of_eq rfl) (by decide) (by decide) (by decide) (cells' := 8) (slots' := 256) rfl rfl (pc' := 75) rfl ?_
                  show Run _ _ _ _ _ _ _ _ _ _ _ _ _ _ _ _ _ _ _ _ _ (mkF m 75 #[.val (.ref a), .val (.int (1 : Int32)), .val (.int (3 : Int32)), .val (.int ch)] [(.int (idxFrom litL ch 0))])
                  refine GoKit.if_lt G d5_75 (by decide) (pt := 82) (pf := 78) rfl rfl (fun hb116 => ?_) (fun hb116 => ?_)
                  · refine GoKit.iconst G (0 : Int32) d5_82 rfl (pc' := 83) rfl ?_
                    refine GoKit.istoreN G d5_83 (Ls' := #[.val (.ref a), .val (.int (0 : Int32)), .val (.int (3 : Int32)), .val (.int ch)]) rfl (pc' := 84) rfl ?_
                    refine GoKit.iinc G (1 : Int32) d5_84 rfl rfl (Ls' := #[.val (.ref a), .val (.int (0 : Int32)), .val (.int ((3 : Int32) + (1 : Int32))), .val (.int ch)]) rfl (pc' := 87) rfl ?_
                    show Run _ _ _ _ _ _ _ _ _ _ _ _ _ _ _ _ _ _ _ _ _ (mkF m 87 #[.val (.ref a), .val (.int (0 : Int32)), .val (.int (4 : Int32)), .val (.int ch)] [])
                    refine GoKit.goto G d5_87 (by decide) (pc' := 15) rfl ?_
                    have KP117 : Keep h h113 [] := ((Keep.refl h []).ext E107)
                    refine Run.mono (by decide) (by decide) (J4 _ _ _ (K.trans KP117 all0) ?_ (Or.inr ⟨_, rfl, rfl⟩))
                    exact Or.inl ⟨rfl, fun q => (show ¬ tch ch from (by have hn := lit_no (fun q => idx_some lit_sm q hb116); unfold tch; simp only [gt_iff_lt, ge_iff_le, ne_eq, Int32.lt_iff_toInt_lt, Int32.le_iff_toInt_le, ← Int32.toInt_inj, show (33 : Int32).toInt = 33 from rfl, show (35 : Int32).toInt = 35 from rfl, show (36 : Int32).toInt = 36 from rfl, show (37 : Int32).toInt = 37 from rfl, show (38 : Int32).toInt = 38 from rfl, show (39 : Int32).toInt = 39 from rfl, show (42 : Int32).toInt = 42 from rfl, show (43 : Int32).toInt = 43 from rfl, show (45 : Int32).toInt = 45 from rfl, show (46 : Int32).toInt = 46 from rfl, show (48 : Int32).toInt = 48 from rfl, show (57 : Int32).toInt = 57 from rfl, show (65 : Int32).toInt = 65 from rfl, show (90 : Int32).toInt = 90 from rfl, show (94 : Int32).toInt = 94 from rfl, show (95 : Int32).toInt = 95 from rfl, show (96 : Int32).toInt = 96 from rfl, show (97 : Int32).toInt = 97 from rfl, show (122 : Int32).toInt = 122 from rfl, show (124 : Int32).toInt = 124 from rfl, show (126 : Int32).toInt = 126 from rfl] at hb1 hb68 hb69 hb102 hb103; omega)) (hT.mp q ch (mem_drop hch))⟩
                  · refine GoKit.iconst G (1 : Int32) d5_78 rfl (pc' := 79) rfl ?_
                    refine GoKit.goto G d5_79 (by decide) (pc' := 83) rfl ?_
                    refine GoKit.istoreN G d5_83 (Ls' := #[.val (.ref a), .val (.int (1 : Int32)), .val (.int (3 : Int32)), .val (.int ch)]) rfl (pc' := 84) rfl ?_
                    refine GoKit.iinc G (1 : Int32) d5_84 rfl rfl (Ls' := #[.val (.ref a), .val (.int (1 : Int32)), .val (.int ((3 : Int32) + (1 : Int32))), .val (.int ch)]) rfl (pc' := 87) rfl ?_
                    show Run _ _ _ _ _ _ _ _ _ _ _ _ _ _ _ _ _ _ _ _ _ (mkF m 87 #[.val (.ref a), .val (.int (1 : Int32)), .val (.int (4 : Int32)), .val (.int ch)] [])
                    refine GoKit.goto G d5_87 (by decide) (pc' := 15) rfl ?_
                    have KP118 : Keep h h113 [] := ((Keep.refl h []).ext E107)
                    refine Run.mono (by decide) (by decide) (J4 _ _ _ (K.trans KP118 all0) ?_ (Or.inr ⟨_, rfl, rfl⟩))
                    exact Or.inr ⟨rfl, hT.trans (drop_step hch (lit_tch (Classical.byContradiction fun q => hb116 (by rw [idx_none q]; decide))))⟩
                · refine GoKit.iloadN G d5_63 rfl (pc' := 64) rfl ?_
                  refine GoKit.bipush G (57 : Int32) d5_64 rfl (pc' := 66) rfl ?_
                  refine GoKit.icmp_le G d5_66 (by decide) (pt := 78) (pf := 69) rfl rfl (fun hb119 => ?_) (fun hb119 => ?_)
                  · refine GoKit.iconst G (1 : Int32) d5_78 rfl (pc' := 79) rfl ?_
                    refine GoKit.goto G d5_79 (by decide) (pc' := 83) rfl ?_
                    refine GoKit.istoreN G d5_83 (Ls' := #[.val (.ref a), .val (.int (1 : Int32)), .val (.int (3 : Int32)), .val (.int ch)]) rfl (pc' := 84) rfl ?_
                    refine GoKit.iinc G (1 : Int32) d5_84 rfl rfl (Ls' := #[.val (.ref a), .val (.int (1 : Int32)), .val (.int ((3 : Int32) + (1 : Int32))), .val (.int ch)]) rfl (pc' := 87) rfl ?_
                    show Run _ _ _ _ _ _ _ _ _ _ _ _ _ _ _ _ _ _ _ _ _ (mkF m 87 #[.val (.ref a), .val (.int (1 : Int32)), .val (.int (4 : Int32)), .val (.int ch)] [])
                    refine GoKit.goto G d5_87 (by decide) (pc' := 15) rfl ?_
                    refine Run.mono (by decide) (by decide) (J4 _ _ _ K ?_ (Or.inr ⟨_, rfl, rfl⟩))
                    exact Or.inr ⟨rfl, hT.trans (drop_step hch (by unfold tch; simp only [gt_iff_lt, ge_iff_le, ne_eq, Int32.lt_iff_toInt_lt, Int32.le_iff_toInt_le, ← Int32.toInt_inj, show (33 : Int32).toInt = 33 from rfl, show (35 : Int32).toInt = 35 from rfl, show (36 : Int32).toInt = 36 from rfl, show (37 : Int32).toInt = 37 from rfl, show (38 : Int32).toInt = 38 from rfl, show (39 : Int32).toInt = 39 from rfl, show (42 : Int32).toInt = 42 from rfl, show (43 : Int32).toInt = 43 from rfl, show (45 : Int32).toInt = 45 from rfl, show (46 : Int32).toInt = 46 from rfl, show (48 : Int32).toInt = 48 from rfl, show (57 : Int32).toInt = 57 from rfl, show (65 : Int32).toInt = 65 from rfl, show (90 : Int32).toInt = 90 from rfl, show (94 : Int32).toInt = 94 from rfl, show (95 : Int32).toInt = 95 from rfl, show (96 : Int32).toInt = 96 from rfl, show (97 : Int32).toInt = 97 from rfl, show (122 : Int32).toInt = 122 from rfl, show (124 : Int32).toInt = 124 from rfl, show (126 : Int32).toInt = 126 from rfl] at hb1 hb68 hb69 hb102 hb103 hb119; omega))⟩
                  · refine GoKit.ldcStr G d5_69 rfl (wi hw 83 rfl) (wS hw) (by decide) (vs := [.int (33 : Int32), .int (35 : Int32), .int (36 : Int32), .int (37 : Int32), .int (38 : Int32), .int (39 : Int32), .int (42 : Int32), .int (43 : Int32), .int (45 : Int32), .int (46 : Int32), .int (94 : Int32), .int (95 : Int32), .int (96 : Int32), .int (124 : Int32), .int (126 : Int32)]) (z := (15 : Int32)) ⟨by decide +kernel, by decide +kernel⟩ (by decide) rfl (n := 60) (by decide +kernel) (by decide) (by decide) (by decide) (cells' := 8) (slots' := 256) rfl rfl (pc' := 71) rfl (fun a120 b121 k122 h129 E123 X124 FC125 FV126 A127 N128 => ?_)
                    have S130 : Lat Z h129 a120 [(33 : Int32), (35 : Int32), (36 : Int32), (37 : Int32), (38 : Int32), (39 : Int32), (42 : Int32), (43 : Int32), (45 : Int32), (46 : Int32), (94 : Int32), (95 : Int32), (96 : Int32), (124 : Int32), (126 : Int32)] := latLit X124 FC125 FV126 A127 rfl (by decide +kernel) (by decide +kernel)
                    have A131 : IA Z h129 b121 .byte (([(33 : Int32), (35 : Int32), (36 : Int32), (37 : Int32), (38 : Int32), (39 : Int32), (42 : Int32), (43 : Int32), (45 : Int32), (46 : Int32), (94 : Int32), (95 : Int32), (96 : Int32), (124 : Int32), (126 : Int32)] : List Int32).map fun c => c.toInt8.toInt32) := iaLit A127 rfl (by decide +kernel)
                    refine GoKit.iloadN G d5_71 rfl (pc' := 72) rfl ?_
                    refine GoKit.callVirtualP G d5_72 (wi hw 84 rfl) (wi hw 85 rfl) (wi hw 87 rfl) (wi hw 86 rfl) (wi hw 8 rfl) (wi hw 88 rfl) (by decide) S130.1 (W := 0) (argsL := [(.int ch)]) (rest := []) (con_idxL l hw (cs := litL) ch S130 HC) rfl (lenOf pd_4 rfl) rfl (by decide) (Nat.le_of_eq rfl) (by decide) (by decide) (by decide) (cells' := 8) (slots' := 256) rfl rfl (pc' := 75) rfl ?_
                    show Run _ _ _ _ _ _ _ _ _ _ _ _ _ _ _ _ _ _ _ _ _ (mkF m 75 #[.val (.ref a), .val (.int (1 : Int32)), .val (.int (3 : Int32)), .val (.int ch)] [(.int (idxFrom litL ch 0))])
                    refine GoKit.if_lt G d5_75 (by decide) (pt := 82) (pf := 78) rfl rfl (fun hb132 => ?_) (fun hb132 => ?_)
                    · refine GoKit.iconst G (0 : Int32) d5_82 rfl (pc' := 83) rfl ?_
                      refine GoKit.istoreN G d5_83 (Ls' := #[.val (.ref a), .val (.int (0 : Int32)), .val (.int (3 : Int32)), .val (.int ch)]) rfl (pc' := 84) rfl ?_
                      refine GoKit.iinc G (1 : Int32) d5_84 rfl rfl (Ls' := #[.val (.ref a), .val (.int (0 : Int32)), .val (.int ((3 : Int32) + (1 : Int32))), .val (.int ch)]) rfl (pc' := 87) rfl ?_
                      show Run _ _ _ _ _ _ _ _ _ _ _ _ _ _ _ _ _ _ _ _ _ (mkF m 87 #[.val (.ref a), .val (.int (0 : Int32)), .val (.int (4 : Int32)), .val (.int ch)] [])
                      refine GoKit.goto G d5_87 (by decide) (pc' := 15) rfl ?_
                      have KP133 : Keep h h129 [] := ((Keep.refl h []).ext E123)
                      refine Run.mono (by decide) (by decide) (J4 _ _ _ (K.trans KP133 all0) ?_ (Or.inr ⟨_, rfl, rfl⟩))
                      exact Or.inl ⟨rfl, fun q => (show ¬ tch ch from (by have hn := lit_no (fun q => idx_some lit_sm q hb132); unfold tch; simp only [gt_iff_lt, ge_iff_le, ne_eq, Int32.lt_iff_toInt_lt, Int32.le_iff_toInt_le, ← Int32.toInt_inj, show (33 : Int32).toInt = 33 from rfl, show (35 : Int32).toInt = 35 from rfl, show (36 : Int32).toInt = 36 from rfl, show (37 : Int32).toInt = 37 from rfl, show (38 : Int32).toInt = 38 from rfl, show (39 : Int32).toInt = 39 from rfl, show (42 : Int32).toInt = 42 from rfl, show (43 : Int32).toInt = 43 from rfl, show (45 : Int32).toInt = 45 from rfl, show (46 : Int32).toInt = 46 from rfl, show (48 : Int32).toInt = 48 from rfl, show (57 : Int32).toInt = 57 from rfl, show (65 : Int32).toInt = 65 from rfl, show (90 : Int32).toInt = 90 from rfl, show (94 : Int32).toInt = 94 from rfl, show (95 : Int32).toInt = 95 from rfl, show (96 : Int32).toInt = 96 from rfl, show (97 : Int32).toInt = 97 from rfl, show (122 : Int32).toInt = 122 from rfl, show (124 : Int32).toInt = 124 from rfl, show (126 : Int32).toInt = 126 from rfl] at hb1 hb68 hb69 hb102 hb103 hb119; omega)) (hT.mp q ch (mem_drop hch))⟩
                    · refine GoKit.iconst G (1 : Int32) d5_78 rfl (pc' := 79) rfl ?_
                      refine GoKit.goto G d5_79 (by decide) (pc' := 83) rfl ?_
                      refine GoKit.istoreN G d5_83 (Ls' := #[.val (.ref a), .val (.int (1 : Int32)), .val (.int (3 : Int32)), .val (.int ch)]) rfl (pc' := 84) rfl ?_
                      refine GoKit.iinc G (1 : Int32) d5_84 rfl rfl (Ls' := #[.val (.ref a), .val (.int (1 : Int32)), .val (.int ((3 : Int32) + (1 : Int32))), .val (.int ch)]) rfl (pc' := 87) rfl ?_
                      show Run _ _ _ _ _ _ _ _ _ _ _ _ _ _ _ _ _ _ _ _ _ (mkF m 87 #[.val (.ref a), .val (.int (1 : Int32)), .val (.int (4 : Int32)), .val (.int ch)] [])
                      refine GoKit.goto G d5_87 (by decide) (pc' := 15) rfl ?_
                      have KP134 : Keep h h129 [] := ((Keep.refl h []).ext E123)
                      refine Run.mono (by decide) (by decide) (J4 _ _ _ (K.trans KP134 all0) ?_ (Or.inr ⟨_, rfl, rfl⟩))
                      exact Or.inr ⟨rfl, hT.trans (drop_step hch (lit_tch (Classical.byContradiction fun q => hb132 (by rw [idx_none q]; decide))))⟩
      · refine GoKit.iloadN G d5_15 rfl (pc' := 16) rfl ?_
        refine GoKit.if_eq_f G d5_16 (by decide) (pc' := 19) rfl ?_
        refine GoKit.iloadN G d5_19 rfl (pc' := 20) rfl ?_
        refine GoKit.aloadN G d5_20 rfl rfl (pc' := 21) rfl ?_
        refine GoKit.callVirtualP G d5_21 (wi hw 51 rfl) (wi hw 52 rfl) (wi hw 54 rfl) (wi hw 53 rfl) (wi hw 8 rfl) (wi hw 55 rfl) (by decide) (str_exa S1) (W := 1) (argsL := []) (rest := [(.int (3 : Int32))]) (con_lenS l hw S1 HC) rfl (lenOf pd_17 rfl) rfl (by decide) (Nat.le_of_eq rfl) (by decide) (by decide) (by decide) (cells' := 6) (slots' := 192) rfl rfl (pc' := 24) rfl ?_
        show Run _ _ _ _ _ _ _ _ _ _ _ _ _ _ _ _ _ _ _ _ _ (mkF m 24 #[.val (.ref a), .val (.int (1 : Int32)), .val (.int (3 : Int32)), sl] [(.int cs.length.toInt32), (.int (3 : Int32))])
        refine GoKit.icmp_ge_t G d5_24 (fun q => hk ((toI_lt (i := 3) (by decide) (by omega)).mp q)) (by decide) (pc' := 90) rfl ?_
        refine GoKit.iloadN G d5_90 rfl (pc' := 91) rfl ?_
        refine GoKit.retNar G d5_91 (t := .boolean) rfl (by simp) (by decide) (by decide) ?_
        exact by rw [if_pos (hT.mpr (by rw [List.drop_eq_nil_of_le (by omega)]; intro c hc; cases hc))]; rfl
  have J2 : ∀ (h : Heap) (bv : Int32) (sl : Slot), Keep h0 h [] → ((bv = 0 ∧ ¬ T cs) ∨ (bv = 1 ∧ (T cs ↔ ∀ c ∈ cs.drop 2, tch c))) → (sl = .unset ∨ ∃ w, sl = .val w ∧ w.category = 1) →
      Run p l e rm_con_tok s m #[.ref a] below meth c Z true false ELs n0 [] (fun v h => v = some (.int (if T cs then 1 else 0))) h [] 4 128 (mkF m 15 #[.val (.ref a), .val (.int bv), .val (.int (2 : Int32)), sl] []) := by
    intro h bv sl K hI hsl
    have S1 := str_keep S K
    rcases hI with ⟨rfl, hT⟩ | ⟨rfl, hT⟩
    · refine GoKit.iloadN G d5_15 rfl (pc' := 16) rfl ?_
      refine GoKit.if_eq_t G d5_16 (by decide) (by decide) (pc' := 90) rfl ?_
      refine GoKit.iloadN G d5_90 rfl (pc' := 91) rfl ?_
      refine GoKit.retNar G d5_91 (t := .boolean) rfl (by simp) (by decide) (by decide) ?_
      exact by rw [if_neg hT]; rfl
    · by_cases hk : 2 < cs.length
      · obtain ⟨ch, hch⟩ : ∃ ch, cs[2]? = some ch := ⟨cs[2], List.getElem?_eq_getElem hk⟩
        refine GoKit.iloadN G d5_15 rfl (pc' := 16) rfl ?_
        refine GoKit.if_eq_f G d5_16 (by decide) (pc' := 19) rfl ?_
        refine GoKit.iloadN G d5_19 rfl (pc' := 20) rfl ?_
        refine GoKit.aloadN G d5_20 rfl rfl (pc' := 21) rfl ?_
        refine GoKit.callVirtualP G d5_21 (wi hw 51 rfl) (wi hw 52 rfl) (wi hw 54 rfl) (wi hw 53 rfl) (wi hw 8 rfl) (wi hw 55 rfl) (by decide) (str_exa S1) (W := 1) (argsL := []) (rest := [(.int (2 : Int32))]) (con_lenS l hw S1 HC) rfl (lenOf pd_17 rfl) rfl (by decide) (Nat.le_of_eq rfl) (by decide) (by decide) (by decide) (cells' := 4) (slots' := 128) rfl rfl (pc' := 24) rfl ?_
        show Run _ _ _ _ _ _ _ _ _ _ _ _ _ _ _ _ _ _ _ _ _ (mkF m 24 #[.val (.ref a), .val (.int (1 : Int32)), .val (.int (2 : Int32)), sl] [(.int cs.length.toInt32), (.int (2 : Int32))])
        refine GoKit.icmp_ge_f G d5_24 ((toI_lt (i := 2) (by decide) (by omega)).mpr hk) (pc' := 27) rfl ?_
        refine GoKit.aloadN G d5_27 rfl rfl (pc' := 28) rfl ?_
        refine GoKit.iloadN G d5_28 rfl (pc' := 29) rfl ?_
        refine GoKit.callVirtualP G d5_29 (wi hw 61 rfl) (wi hw 62 rfl) (wi hw 64 rfl) (wi hw 63 rfl) (wi hw 8 rfl) (wi hw 65 rfl) (by decide) (str_exa S1) (W := 0) (argsL := [(.int (2 : Int32))]) (rest := []) (con_charS l hw (i := 2) S1 hch HC HF HU) rfl (lenOf pd_19 rfl) rfl (by decide) (Nat.le_of_eq rfl) (by decide) (by decide) (by decide) (cells' := 4) (slots' := 128) rfl rfl (pc' := 32) rfl ?_
        show Run _ _ _ _ _ _ _ _ _ _ _ _ _ _ _ _ _ _ _ _ _ (mkF m 32 #[.val (.ref a), .val (.int (1 : Int32)), .val (.int (2 : Int32)), sl] [(.int ch)])
        refine GoKit.istoreN G d5_32 (Ls' := #[.val (.ref a), .val (.int (1 : Int32)), .val (.int (2 : Int32)), .val (.int ch)]) (XS.store1 rfl hsl rfl) (pc' := 33) rfl ?_
        refine GoKit.iloadN G d5_33 rfl (pc' := 34) rfl ?_
        refine GoKit.bipush G (97 : Int32) d5_34 rfl (pc' := 36) rfl ?_
        refine GoKit.icmp_lt G d5_36 (by decide) (pt := 45) (pf := 39) rfl rfl (fun hb135 => ?_) (fun hb135 => ?_)
        · refine GoKit.iloadN G d5_45 rfl (pc' := 46) rfl ?_
          refine GoKit.bipush G (65 : Int32) d5_46 rfl (pc' := 48) rfl ?_
          refine GoKit.icmp_lt G d5_48 (by decide) (pt := 57) (pf := 51) rfl rfl (fun hb136 => ?_) (fun hb136 => ?_)
          · refine GoKit.iloadN G d5_57 rfl (pc' := 58) rfl ?_
            refine GoKit.bipush G (48 : Int32) d5_58 rfl (pc' := 60) rfl ?_
            refine GoKit.icmp_lt G d5_60 (by decide) (pt := 69) (pf := 63) rfl rfl (fun hb137 => ?_) (fun hb137 => ?_)
            · refine GoKit.ldcStr G d5_69 rfl (wi hw 83 rfl) (wS hw) (by decide) (vs := [.int (33 : Int32), .int (35 : Int32), .int (36 : Int32), .int (37 : Int32), .int (38 : Int32), .int (39 : Int32), .int (42 : Int32), .int (43 : Int32), .int (45 : Int32), .int (46 : Int32), .int (94 : Int32), .int (95 : Int32), .int (96 : Int32), .int (124 : Int32), .int (126 : Int32)]) (z := (15 : Int32)) ⟨by decide +kernel, by decide +kernel⟩ (by decide) rfl (n := 60) (by decide +kernel) (by decide) (by decide) (by decide) (cells' := 6) (slots' := 192) rfl rfl (pc' := 71) rfl (fun a138 b139 k140 h147 E141 X142 FC143 FV144 A145 N146 => ?_)
              have S148 : Lat Z h147 a138 [(33 : Int32), (35 : Int32), (36 : Int32), (37 : Int32), (38 : Int32), (39 : Int32), (42 : Int32), (43 : Int32), (45 : Int32), (46 : Int32), (94 : Int32), (95 : Int32), (96 : Int32), (124 : Int32), (126 : Int32)] := latLit X142 FC143 FV144 A145 rfl (by decide +kernel) (by decide +kernel)
              have A149 : IA Z h147 b139 .byte (([(33 : Int32), (35 : Int32), (36 : Int32), (37 : Int32), (38 : Int32), (39 : Int32), (42 : Int32), (43 : Int32), (45 : Int32), (46 : Int32), (94 : Int32), (95 : Int32), (96 : Int32), (124 : Int32), (126 : Int32)] : List Int32).map fun c => c.toInt8.toInt32) := iaLit A145 rfl (by decide +kernel)
              refine GoKit.iloadN G d5_71 rfl (pc' := 72) rfl ?_
              refine GoKit.callVirtualP G d5_72 (wi hw 84 rfl) (wi hw 85 rfl) (wi hw 87 rfl) (wi hw 86 rfl) (wi hw 8 rfl) (wi hw 88 rfl) (by decide) S148.1 (W := 0) (argsL := [(.int ch)]) (rest := []) (con_idxL l hw (cs := litL) ch S148 HC) rfl (lenOf pd_4 rfl) rfl (by decide) (Nat.le_of_eq rfl) (by decide) (by decide) (by decide) (cells' := 6) (slots' := 192) rfl rfl (pc' := 75) rfl ?_
              show Run _ _ _ _ _ _ _ _ _ _ _ _ _ _ _ _ _ _ _ _ _ (mkF m 75 #[.val (.ref a), .val (.int (1 : Int32)), .val (.int (2 : Int32)), .val (.int ch)] [(.int (idxFrom litL ch 0))])
              refine GoKit.if_lt G d5_75 (by decide) (pt := 82) (pf := 78) rfl rfl (fun hb150 => ?_) (fun hb150 => ?_)
              · refine GoKit.iconst G (0 : Int32) d5_82 rfl (pc' := 83) rfl ?_
                refine GoKit.istoreN G d5_83 (Ls' := #[.val (.ref a), .val (.int (0 : Int32)), .val (.int (2 : Int32)), .val (.int ch)]) rfl (pc' := 84) rfl ?_
                refine GoKit.iinc G (1 : Int32) d5_84 rfl rfl (Ls' := #[.val (.ref a), .val (.int (0 : Int32)), .val (.int ((2 : Int32) + (1 : Int32))), .val (.int ch)]) rfl (pc' := 87) rfl ?_
                show Run _ _ _ _ _ _ _ _ _ _ _ _ _ _ _ _ _ _ _ _ _ (mkF m 87 #[.val (.ref a), .val (.int (0 : Int32)), .val (.int (3 : Int32)), .val (.int ch)] [])
                refine GoKit.goto G d5_87 (by decide) (pc' := 15) rfl ?_
                have KP151 : Keep h h147 [] := ((Keep.refl h []).ext E141)
                refine Run.mono (by decide) (by decide) (J3 _ _ _ (K.trans KP151 all0) ?_ (Or.inr ⟨_, rfl, rfl⟩))
                exact Or.inl ⟨rfl, fun q => (show ¬ tch ch from (by have hn := lit_no (fun q => idx_some lit_sm q hb150); unfold tch; simp only [gt_iff_lt, ge_iff_le, ne_eq, Int32.lt_iff_toInt_lt, Int32.le_iff_toInt_le, ← Int32.toInt_inj, show (33 : Int32).toInt = 33 from rfl, show (35 : Int32).toInt = 35 from rfl, show (36 : Int32).toInt = 36 from rfl, show (37 : Int32).toInt = 37 from rfl, show (38 : Int32).toInt = 38 from rfl, show (39 : Int32).toInt = 39 from rfl, show (42 : Int32).toInt = 42 from rfl, show (43 : Int32).toInt = 43 from rfl, show (45 : Int32).toInt = 45 from rfl, show (46 : Int32).toInt = 46 from rfl, show (48 : Int32).toInt = 48 from rfl, show (57 : Int32).toInt = 57 from rfl, show (65 : Int32).toInt = 65 from rfl, show (90 : Int32).toInt = 90 from rfl, show (94 : Int32).toInt = 94 from rfl, show (95 : Int32).toInt = 95 from rfl, show (96 : Int32).toInt = 96 from rfl, show (97 : Int32).toInt = 97 from rfl, show (122 : Int32).toInt = 122 from rfl, show (124 : Int32).toInt = 124 from rfl, show (126 : Int32).toInt = 126 from rfl] at hb135 hb136 hb137; omega)) (hT.mp q ch (mem_drop hch))⟩
              · refine GoKit.iconst G (1 : Int32) d5_78 rfl (pc' := 79) rfl ?_
                refine GoKit.goto G d5_79 (by decide) (pc' := 83) rfl ?_
                refine GoKit.istoreN G d5_83 (Ls' := #[.val (.ref a), .val (.int (1 : Int32)), .val (.int (2 : Int32)), .val (.int ch)]) rfl (pc' := 84) rfl ?_
                refine GoKit.iinc G (1 : Int32) d5_84 rfl rfl (Ls' := #[.val (.ref a), .val (.int (1 : Int32)), .val (.int ((2 : Int32) + (1 : Int32))), .val (.int ch)]) rfl (pc' := 87) rfl ?_
                show Run _ _ _ _ _ _ _ _ _ _ _ _ _ _ _ _ _ _ _ _ _ (mkF m 87 #[.val (.ref a), .val (.int (1 : Int32)), .val (.int (3 : Int32)), .val (.int ch)] [])
                refine GoKit.goto G d5_87 (by decide) (pc' := 15) rfl ?_
                have KP152 : Keep h h147 [] := ((Keep.refl h []).ext E141)
                refine Run.mono (by decide) (by decide) (J3 _ _ _ (K.trans KP152 all0) ?_ (Or.inr ⟨_, rfl, rfl⟩))
                exact Or.inr ⟨rfl, hT.trans (drop_step hch (lit_tch (Classical.byContradiction fun q => hb150 (by rw [idx_none q]; decide))))⟩
            · refine GoKit.iloadN G d5_63 rfl (pc' := 64) rfl ?_
              refine GoKit.bipush G (57 : Int32) d5_64 rfl (pc' := 66) rfl ?_
              refine GoKit.icmp_le G d5_66 (by decide) (pt := 78) (pf := 69) rfl rfl (fun hb153 => ?_) (fun hb153 => ?_)
              · refine GoKit.iconst G (1 : Int32) d5_78 rfl (pc' := 79) rfl ?_
                refine GoKit.goto G d5_79 (by decide) (pc' := 83) rfl ?_
                refine GoKit.istoreN G d5_83 (Ls' := #[.val (.ref a), .val (.int (1 : Int32)), .val (.int (2 : Int32)), .val (.int ch)]) rfl (pc' := 84) rfl ?_
                refine GoKit.iinc G (1 : Int32) d5_84 rfl rfl (Ls' := #[.val (.ref a), .val (.int (1 : Int32)), .val (.int ((2 : Int32) + (1 : Int32))), .val (.int ch)]) rfl (pc' := 87) rfl ?_
                show Run _ _ _ _ _ _ _ _ _ _ _ _ _ _ _ _ _ _ _ _ _ (mkF m 87 #[.val (.ref a), .val (.int (1 : Int32)), .val (.int (3 : Int32)), .val (.int ch)] [])
                refine GoKit.goto G d5_87 (by decide) (pc' := 15) rfl ?_
                refine Run.mono (by decide) (by decide) (J3 _ _ _ K ?_ (Or.inr ⟨_, rfl, rfl⟩))
                exact Or.inr ⟨rfl, hT.trans (drop_step hch (by unfold tch; simp only [gt_iff_lt, ge_iff_le, ne_eq, Int32.lt_iff_toInt_lt, Int32.le_iff_toInt_le, ← Int32.toInt_inj, show (33 : Int32).toInt = 33 from rfl, show (35 : Int32).toInt = 35 from rfl, show (36 : Int32).toInt = 36 from rfl, show (37 : Int32).toInt = 37 from rfl, show (38 : Int32).toInt = 38 from rfl, show (39 : Int32).toInt = 39 from rfl, show (42 : Int32).toInt = 42 from rfl, show (43 : Int32).toInt = 43 from rfl, show (45 : Int32).toInt = 45 from rfl, show (46 : Int32).toInt = 46 from rfl, show (48 : Int32).toInt = 48 from rfl, show (57 : Int32).toInt = 57 from rfl, show (65 : Int32).toInt = 65 from rfl, show (90 : Int32).toInt = 90 from rfl, show (94 : Int32).toInt = 94 from rfl, show (95 : Int32).toInt = 95 from rfl, show (96 : Int32).toInt = 96 from rfl, show (97 : Int32).toInt = 97 from rfl, show (122 : Int32).toInt = 122 from rfl, show (124 : Int32).toInt = 124 from rfl, show (126 : Int32).toInt = 126 from rfl] at hb135 hb136 hb137 hb153; omega))⟩
              · refine GoKit.ldcStr G d5_69 rfl (wi hw 83 rfl) (wS hw) (by decide) (vs := [.int (33 : Int32), .int (35 : Int32), .int (36 : Int32), .int (37 : Int32), .int (38 : Int32), .int (39 : Int32), .int (42 : Int32), .int (43 : Int32), .int (45 : Int32), .int (46 : Int32), .int (94 : Int32), .int (95 : Int32), .int (96 : Int32), .int (124 : Int32), .int (126 : Int32)]) (z := (15 : Int32)) ⟨by decide +kernel, by decide +kernel⟩ (by decide) rfl (n := 60) (by decide +kernel) (by decide) (by decide) (by decide) (cells' := 6) (slots' := 192) rfl rfl (pc' := 71) rfl (fun a154 b155 k156 h163 E157 X158 FC159 FV160 A161 N162 => ?_)
                have S164 : Lat Z h163 a154 [(33 : Int32), (35 : Int32), (36 : Int32), (37 : Int32), (38 : Int32), (39 : Int32), (42 : Int32), (43 : Int32), (45 : Int32), (46 : Int32), (94 : Int32), (95 : Int32), (96 : Int32), (124 : Int32), (126 : Int32)] := latLit X158 FC159 FV160 A161 rfl (by decide +kernel) (by decide +kernel)
                have A165 : IA Z h163 b155 .byte (([(33 : Int32), (35 : Int32), (36 : Int32), (37 : Int32), (38 : Int32), (39 : Int32), (42 : Int32), (43 : Int32), (45 : Int32), (46 : Int32), (94 : Int32), (95 : Int32), (96 : Int32), (124 : Int32), (126 : Int32)] : List Int32).map fun c => c.toInt8.toInt32) := iaLit A161 rfl (by decide +kernel)
                refine GoKit.iloadN G d5_71 rfl (pc' := 72) rfl ?_
                refine GoKit.callVirtualP G d5_72 (wi hw 84 rfl) (wi hw 85 rfl) (wi hw 87 rfl) (wi hw 86 rfl) (wi hw 8 rfl) (wi hw 88 rfl) (by decide) S164.1 (W := 0) (argsL := [(.int ch)]) (rest := []) (con_idxL l hw (cs := litL) ch S164 HC) rfl (lenOf pd_4 rfl) rfl (by decide) (Nat.le_of_eq rfl) (by decide) (by decide) (by decide) (cells' := 6) (slots' := 192) rfl rfl (pc' := 75) rfl ?_
                show Run _ _ _ _ _ _ _ _ _ _ _ _ _ _ _ _ _ _ _ _ _ (mkF m 75 #[.val (.ref a), .val (.int (1 : Int32)), .val (.int (2 : Int32)), .val (.int ch)] [(.int (idxFrom litL ch 0))])
                refine GoKit.if_lt G d5_75 (by decide) (pt := 82) (pf := 78) rfl rfl (fun hb166 => ?_) (fun hb166 => ?_)
                · refine GoKit.iconst G (0 : Int32) d5_82 rfl (pc' := 83) rfl ?_
                  refine GoKit.istoreN G d5_83 (Ls' := #[.val (.ref a), .val (.int (0 : Int32)), .val (.int (2 : Int32)), .val (.int ch)]) rfl (pc' := 84) rfl ?_
                  refine GoKit.iinc G (1 : Int32) d5_84 rfl rfl (Ls' := #[.val (.ref a), .val (.int (0 : Int32)), .val (.int ((2 : Int32) + (1 : Int32))), .val (.int ch)]) rfl (pc' := 87) rfl ?_
                  show Run _ _ _ _ _ _ _ _ _ _ _ _ _ _ _ _ _ _ _ _ _ (mkF m 87 #[.val (.ref a), .val (.int (0 : Int32)), .val (.int (3 : Int32)), .val (.int ch)] [])
                  refine GoKit.goto G d5_87 (by decide) (pc' := 15) rfl ?_
                  have KP167 : Keep h h163 [] := ((Keep.refl h []).ext E157)
                  refine Run.mono (by decide) (by decide) (J3 _ _ _ (K.trans KP167 all0) ?_ (Or.inr ⟨_, rfl, rfl⟩))
                  exact Or.inl ⟨rfl, fun q => (show ¬ tch ch from (by have hn := lit_no (fun q => idx_some lit_sm q hb166); unfold tch; simp only [gt_iff_lt, ge_iff_le, ne_eq, Int32.lt_iff_toInt_lt, Int32.le_iff_toInt_le, ← Int32.toInt_inj, show (33 : Int32).toInt = 33 from rfl, show (35 : Int32).toInt = 35 from rfl, show (36 : Int32).toInt = 36 from rfl, show (37 : Int32).toInt = 37 from rfl, show (38 : Int32).toInt = 38 from rfl, show (39 : Int32).toInt = 39 from rfl, show (42 : Int32).toInt = 42 from rfl, show (43 : Int32).toInt = 43 from rfl, show (45 : Int32).toInt = 45 from rfl, show (46 : Int32).toInt = 46 from rfl, show (48 : Int32).toInt = 48 from rfl, show (57 : Int32).toInt = 57 from rfl, show (65 : Int32).toInt = 65 from rfl, show (90 : Int32).toInt = 90 from rfl, show (94 : Int32).toInt = 94 from rfl, show (95 : Int32).toInt = 95 from rfl, show (96 : Int32).toInt = 96 from rfl, show (97 : Int32).toInt = 97 from rfl, show (122 : Int32).toInt = 122 from rfl, show (124 : Int32).toInt = 124 from rfl, show (126 : Int32).toInt = 126 from rfl] at hb135 hb136 hb137 hb153; omega)) (hT.mp q ch (mem_drop hch))⟩
                · refine GoKit.iconst G (1 : Int32) d5_78 rfl (pc' := 79) rfl ?_
                  refine GoKit.goto G d5_79 (by decide) (pc' := 83) rfl ?_
                  refine GoKit.istoreN G d5_83 (Ls' := #[.val (.ref a), .val (.int (1 : Int32)), .val (.int (2 : Int32)), .val (.int ch)]) rfl (pc' := 84) rfl ?_
                  refine GoKit.iinc G (1 : Int32) d5_84 rfl rfl (Ls' := #[.val (.ref a), .val (.int (1 : Int32)), .val (.int ((2 : Int32) + (1 : Int32))), .val (.int ch)]) rfl (pc' := 87) rfl ?_
                  show Run _ _ _ _ _ _ _ _ _ _ _ _ _ _ _ _ _ _ _ _ _ (mkF m 87 #[.val (.ref a), .val (.int (1 : Int32)), .val (.int (3 : Int32)), .val (.int ch)] [])
                  refine GoKit.goto G d5_87 (by decide) (pc' := 15) rfl ?_
                  have KP168 : Keep h h163 [] := ((Keep.refl h []).ext E157)
                  refine Run.mono (by decide) (by decide) (J3 _ _ _ (K.trans KP168 all0) ?_ (Or.inr ⟨_, rfl, rfl⟩))
                  exact Or.inr ⟨rfl, hT.trans (drop_step hch (lit_tch (Classical.byContradiction fun q => hb166 (by rw [idx_none q]; decide))))⟩
          · refine GoKit.iloadN G d5_51 rfl (pc' := 52) rfl ?_
            refine GoKit.bipush G (90 : Int32) d5_52 rfl (pc' := 54) rfl ?_
            refine GoKit.icmp_le G d5_54 (by decide) (pt := 78) (pf := 57) rfl rfl (fun hb169 => ?_) (fun hb169 => ?_)
            · refine GoKit.iconst G (1 : Int32) d5_78 rfl (pc' := 79) rfl ?_
              refine GoKit.goto G d5_79 (by decide) (pc' := 83) rfl ?_
              refine GoKit.istoreN G d5_83 (Ls' := #[.val (.ref a), .val (.int (1 : Int32)), .val (.int (2 : Int32)), .val (.int ch)]) rfl (pc' := 84) rfl ?_
              refine GoKit.iinc G (1 : Int32) d5_84 rfl rfl (Ls' := #[.val (.ref a), .val (.int (1 : Int32)), .val (.int ((2 : Int32) + (1 : Int32))), .val (.int ch)]) rfl (pc' := 87) rfl ?_
              show Run _ _ _ _ _ _ _ _ _ _ _ _ _ _ _ _ _ _ _ _ _ (mkF m 87 #[.val (.ref a), .val (.int (1 : Int32)), .val (.int (3 : Int32)), .val (.int ch)] [])
              refine GoKit.goto G d5_87 (by decide) (pc' := 15) rfl ?_
              refine Run.mono (by decide) (by decide) (J3 _ _ _ K ?_ (Or.inr ⟨_, rfl, rfl⟩))
              exact Or.inr ⟨rfl, hT.trans (drop_step hch (by unfold tch; simp only [gt_iff_lt, ge_iff_le, ne_eq, Int32.lt_iff_toInt_lt, Int32.le_iff_toInt_le, ← Int32.toInt_inj, show (33 : Int32).toInt = 33 from rfl, show (35 : Int32).toInt = 35 from rfl, show (36 : Int32).toInt = 36 from rfl, show (37 : Int32).toInt = 37 from rfl, show (38 : Int32).toInt = 38 from rfl, show (39 : Int32).toInt = 39 from rfl, show (42 : Int32).toInt = 42 from rfl, show (43 : Int32).toInt = 43 from rfl, show (45 : Int32).toInt = 45 from rfl, show (46 : Int32).toInt = 46 from rfl, show (48 : Int32).toInt = 48 from rfl, show (57 : Int32).toInt = 57 from rfl, show (65 : Int32).toInt = 65 from rfl, show (90 : Int32).toInt = 90 from rfl, show (94 : Int32).toInt = 94 from rfl, show (95 : Int32).toInt = 95 from rfl, show (96 : Int32).toInt = 96 from rfl, show (97 : Int32).toInt = 97 from rfl, show (122 : Int32).toInt = 122 from rfl, show (124 : Int32).toInt = 124 from rfl, show (126 : Int32).toInt = 126 from rfl] at hb135 hb136 hb169; omega))⟩
            · refine GoKit.iloadN G d5_57 rfl (pc' := 58) rfl ?_
              refine GoKit.bipush G (48 : Int32) d5_58 rfl (pc' := 60) rfl ?_
              refine GoKit.icmp_lt G d5_60 (by decide) (pt := 69) (pf := 63) rfl rfl (fun hb170 => ?_) (fun hb170 => ?_)
              · refine GoKit.ldcStr G d5_69 rfl (wi hw 83 rfl) (wS hw) (by decide) (vs := [.int (33 : Int32), .int (35 : Int32), .int (36 : Int32), .int (37 : Int32), .int (38 : Int32), .int (39 : Int32), .int (42 : Int32), .int (43 : Int32), .int (45 : Int32), .int (46 : Int32), .int (94 : Int32), .int (95 : Int32), .int (96 : Int32), .int (124 : Int32), .int (126 : Int32)]) (z := (15 : Int32)) ⟨by decide +kernel, by decide +kernel⟩ (by decide) rfl (n := 60) (by decide +kernel) (by decide) (by decide) (by decide) (cells' := 6) (slots' := 192) rfl rfl (pc' := 71) rfl (fun a171 b172 k173 h180 E174 X175 FC176 FV177 A178 N179 => ?_)
                have S181 : Lat Z h180 a171 [(33 : Int32), (35 : Int32), (36 : Int32), (37 : Int32), (38 : Int32), (39 : Int32), (42 : Int32), (43 : Int32), (45 : Int32), (46 : Int32), (94 : Int32), (95 : Int32), (96 : Int32), (124 : Int32), (126 : Int32)] := latLit X175 FC176 FV177 A178 rfl (by decide +kernel) (by decide +kernel)
                have A182 : IA Z h180 b172 .byte (([(33 : Int32), (35 : Int32), (36 : Int32), (37 : Int32), (38 : Int32), (39 : Int32), (42 : Int32), (43 : Int32), (45 : Int32), (46 : Int32), (94 : Int32), (95 : Int32), (96 : Int32), (124 : Int32), (126 : Int32)] : List Int32).map fun c => c.toInt8.toInt32) := iaLit A178 rfl (by decide +kernel)
                refine GoKit.iloadN G d5_71 rfl (pc' := 72) rfl ?_
                refine GoKit.callVirtualP G d5_72 (wi hw 84 rfl) (wi hw 85 rfl) (wi hw 87 rfl) (wi hw 86 rfl) (wi hw 8 rfl) (wi hw 88 rfl) (by decide) S181.1 (W := 0) (argsL := [(.int ch)]) (rest := []) (con_idxL l hw (cs := litL) ch S181 HC) rfl (lenOf pd_4 rfl) rfl (by decide) (Nat.le_of_eq rfl) (by decide) (by decide) (by decide) (cells' := 6) (slots' := 192) rfl rfl (pc' := 75) rfl ?_
                show Run _ _ _ _ _ _ _ _ _ _ _ _ _ _ _ _ _ _ _ _ _ (mkF m 75 #[.val (.ref a), .val (.int (1 : Int32)), .val (.int (2 : Int32)), .val (.int ch)] [(.int (idxFrom litL ch 0))])
                refine GoKit.if_lt G d5_75 (by decide) (pt := 82) (pf := 78) rfl rfl (fun hb183 => ?_) (fun hb183 => ?_)
                · refine GoKit.iconst G (0 : Int32) d5_82 rfl (pc' := 83) rfl ?_
                  refine GoKit.istoreN G d5_83 (Ls' := #[.val (.ref a), .val (.int (0 : Int32)), .val (.int (2 : Int32)), .val (.int ch)]) rfl (pc' := 84) rfl ?_
                  refine GoKit.iinc G (1 : Int32) d5_84 rfl rfl (Ls' := #[.val (.ref a), .val (.int (0 : Int32)), .val (.int ((2 : Int32) + (1 : Int32))), .val (.int ch)]) rfl (pc' := 87) rfl ?_
                  show Run _ _ _ _ _ _ _ _ _ _ _ _ _ _ _ _ _ _ _ _ _ (mkF m 87 #[.val (.ref a), .val (.int (0 : Int32)), .val (.int (3 : Int32)), .val (.int ch)] [])
                  refine GoKit.goto G d5_87 (by decide) (pc' := 15) rfl ?_
                  have KP184 : Keep h h180 [] := ((Keep.refl h []).ext E174)
                  refine Run.mono (by decide) (by decide) (J3 _ _ _ (K.trans KP184 all0) ?_ (Or.inr ⟨_, rfl, rfl⟩))
                  exact Or.inl ⟨rfl, fun q => (show ¬ tch ch from (by have hn := lit_no (fun q => idx_some lit_sm q hb183); unfold tch; simp only [gt_iff_lt, ge_iff_le, ne_eq, Int32.lt_iff_toInt_lt, Int32.le_iff_toInt_le, ← Int32.toInt_inj, show (33 : Int32).toInt = 33 from rfl, show (35 : Int32).toInt = 35 from rfl, show (36 : Int32).toInt = 36 from rfl, show (37 : Int32).toInt = 37 from rfl, show (38 : Int32).toInt = 38 from rfl, show (39 : Int32).toInt = 39 from rfl, show (42 : Int32).toInt = 42 from rfl, show (43 : Int32).toInt = 43 from rfl, show (45 : Int32).toInt = 45 from rfl, show (46 : Int32).toInt = 46 from rfl, show (48 : Int32).toInt = 48 from rfl, show (57 : Int32).toInt = 57 from rfl, show (65 : Int32).toInt = 65 from rfl, show (90 : Int32).toInt = 90 from rfl, show (94 : Int32).toInt = 94 from rfl, show (95 : Int32).toInt = 95 from rfl, show (96 : Int32).toInt = 96 from rfl, show (97 : Int32).toInt = 97 from rfl, show (122 : Int32).toInt = 122 from rfl, show (124 : Int32).toInt = 124 from rfl, show (126 : Int32).toInt = 126 from rfl] at hb135 hb136 hb169 hb170; omega)) (hT.mp q ch (mem_drop hch))⟩
                · refine GoKit.iconst G (1 : Int32) d5_78 rfl (pc' := 79) rfl ?_
                  refine GoKit.goto G d5_79 (by decide) (pc' := 83) rfl ?_
                  refine GoKit.istoreN G d5_83 (Ls' := #[.val (.ref a), .val (.int (1 : Int32)), .val (.int (2 : Int32)), .val (.int ch)]) rfl (pc' := 84) rfl ?_
                  refine GoKit.iinc G (1 : Int32) d5_84 rfl rfl (Ls' := #[.val (.ref a), .val (.int (1 : Int32)), .val (.int ((2 : Int32) + (1 : Int32))), .val (.int ch)]) rfl (pc' := 87) rfl ?_
                  show Run _ _ _ _ _ _ _ _ _ _ _ _ _ _ _ _ _ _ _ _ _ (mkF m 87 #[.val (.ref a), .val (.int (1 : Int32)), .val (.int (3 : Int32)), .val (.int ch)] [])
                  refine GoKit.goto G d5_87 (by decide) (pc' := 15) rfl ?_
                  have KP185 : Keep h h180 [] := ((Keep.refl h []).ext E174)
                  refine Run.mono (by decide) (by decide) (J3 _ _ _ (K.trans KP185 all0) ?_ (Or.inr ⟨_, rfl, rfl⟩))
                  exact Or.inr ⟨rfl, hT.trans (drop_step hch (lit_tch (Classical.byContradiction fun q => hb183 (by rw [idx_none q]; decide))))⟩
              · refine GoKit.iloadN G d5_63 rfl (pc' := 64) rfl ?_
                refine GoKit.bipush G (57 : Int32) d5_64 rfl (pc' := 66) rfl ?_
                refine GoKit.icmp_le G d5_66 (by decide) (pt := 78) (pf := 69) rfl rfl (fun hb186 => ?_) (fun hb186 => ?_)
                · refine GoKit.iconst G (1 : Int32) d5_78 rfl (pc' := 79) rfl ?_
                  refine GoKit.goto G d5_79 (by decide) (pc' := 83) rfl ?_
                  refine GoKit.istoreN G d5_83 (Ls' := #[.val (.ref a), .val (.int (1 : Int32)), .val (.int (2 : Int32)), .val (.int ch)]) rfl (pc' := 84) rfl ?_
                  refine GoKit.iinc G (1 : Int32) d5_84 rfl rfl (Ls' := #[.val (.ref a), .val (.int (1 : Int32)), .val (.int ((2 : Int32) + (1 : Int32))), .val (.int ch)]) rfl (pc' := 87) rfl ?_
                  show Run _ _ _ _ _ _ _ _ _ _ _ _ _ _ _ _ _ _ _ _ _ (mkF m 87 #[.val (.ref a), .val (.int (1 : Int32)), .val (.int (3 : Int32)), .val (.int ch)] [])
                  refine GoKit.goto G d5_87 (by decide) (pc' := 15) rfl ?_
                  refine Run.mono (by decide) (by decide) (J3 _ _ _ K ?_ (Or.inr ⟨_, rfl, rfl⟩))
                  exact Or.inr ⟨rfl, hT.trans (drop_step hch (by unfold tch; simp only [gt_iff_lt, ge_iff_le, ne_eq, Int32.lt_iff_toInt_lt, Int32.le_iff_toInt_le, ← Int32.toInt_inj, show (33 : Int32).toInt = 33 from rfl, show (35 : Int32).toInt = 35 from rfl, show (36 : Int32).toInt = 36 from rfl, show (37 : Int32).toInt = 37 from rfl, show (38 : Int32).toInt = 38 from rfl, show (39 : Int32).toInt = 39 from rfl, show (42 : Int32).toInt = 42 from rfl, show (43 : Int32).toInt = 43 from rfl, show (45 : Int32).toInt = 45 from rfl, show (46 : Int32).toInt = 46 from rfl, show (48 : Int32).toInt = 48 from rfl, show (57 : Int32).toInt = 57 from rfl, show (65 : Int32).toInt = 65 from rfl, show (90 : Int32).toInt = 90 from rfl, show (94 : Int32).toInt = 94 from rfl, show (95 : Int32).toInt = 95 from rfl, show (96 : Int32).toInt = 96 from rfl, show (97 : Int32).toInt = 97 from rfl, show (122 : Int32).toInt = 122 from rfl, show (124 : Int32).toInt = 124 from rfl, show (126 : Int32).toInt = 126 from rfl] at hb135 hb136 hb169 hb170 hb186; omega))⟩
                · refine GoKit.ldcStr G d5_69 rfl (wi hw 83 rfl) (wS hw) (by decide) (vs := [.int (33 : Int32), .int (35 : Int32), .int (36 : Int32), .int (37 : Int32), .int (38 : Int32), .int (39 : Int32), .int (42 : Int32), .int (43 : Int32), .int (45 : Int32), .int (46 : Int32), .int (94 : Int32), .int (95 : Int32), .int (96 : Int32), .int (124 : Int32), .int (126 : Int32)]) (z := (15 : Int32)) ⟨by decide +kernel, by decide +kernel⟩ (by decide) rfl (n := 60) (by decide +kernel) (by decide) (by decide) (by decide) (cells' := 6) (slots' := 192) rfl rfl (pc' := 71) rfl (fun a187 b188 k189 h196 E190 X191 FC192 FV193 A194 N195 => ?_)
                  have S197 : Lat Z h196 a187 [(33 : Int32), (35 : Int32), (36 : Int32), (37 : Int32), (38 : Int32), (39 : Int32), (42 : Int32), (43 : Int32), (45 : Int32), (46 : Int32), (94 : Int32), (95 : Int32), (96 : Int32), (124 : Int32), (126 : Int32)] := latLit X191 FC192 FV193 A194 rfl (by decide +kernel) (by decide +kernel)
                  have A198 : IA Z h196 b188 .byte (([(33 : Int32), (35 : Int32), (36 : Int32), (37 : Int32), (38 : Int32), (39 : Int32), (42 : Int32), (43 : Int32), (45 : Int32), (46 : Int32), (94 : Int32), (95 : Int32), (96 : Int32), (124 : Int32), (126 : Int32)] : List Int32).map fun c => c.toInt8.toInt32) := iaLit A194 rfl (by decide +kernel)
                  refine GoKit.iloadN G d5_71 rfl (pc' := 72) rfl ?_
                  refine GoKit.callVirtualP G d5_72 (wi hw 84 rfl) (wi hw 85 rfl) (wi hw 87 rfl) (wi hw 86 rfl) (wi hw 8 rfl) (wi hw 88 rfl) (by decide) S197.1 (W := 0) (argsL := [(.int ch)]) (rest := []) (con_idxL l hw (cs := litL) ch S197 HC) rfl (lenOf pd_4 rfl) rfl (by decide) (Nat.le_of_eq rfl) (by decide) (by decide) (by decide) (cells' := 6) (slots' := 192) rfl rfl (pc' := 75) rfl ?_
                  show Run _ _ _ _ _ _ _ _ _ _ _ _ _ _ _ _ _ _ _ _ _ (mkF m 75 #[.val (.ref a), .val (.int (1 : Int32)), .val (.int (2 : Int32)), .val (.int ch)] [(.int (idxFrom litL ch 0))])
                  refine GoKit.if_lt G d5_75 (by decide) (pt := 82) (pf := 78) rfl rfl (fun hb199 => ?_) (fun hb199 => ?_)
                  · refine GoKit.iconst G (0 : Int32) d5_82 rfl (pc' := 83) rfl ?_
                    refine GoKit.istoreN G d5_83 (Ls' := #[.val (.ref a), .val (.int (0 : Int32)), .val (.int (2 : Int32)), .val (.int ch)]) rfl (pc' := 84) rfl ?_
                    refine GoKit.iinc G (1 : Int32) d5_84 rfl rfl (Ls' := #[.val (.ref a), .val (.int (0 : Int32)), .val (.int ((2 : Int32) + (1 : Int32))), .val (.int ch)]) rfl (pc' := 87) rfl ?_
                    show Run _ _ _ _ _ _ _ _ _ _ _ _ _ _ _ _ _ _ _ _ _ (mkF m 87 #[.val (.ref a), .val (.int (0 : Int32)), .val (.int (3 : Int32)), .val (.int ch)] [])
                    refine GoKit.goto G d5_87 (by decide) (pc' := 15) rfl ?_
                    have KP200 : Keep h h196 [] := ((Keep.refl h []).ext E190)
                    refine Run.mono (by decide) (by decide) (J3 _ _ _ (K.trans KP200 all0) ?_ (Or.inr ⟨_, rfl, rfl⟩))
                    exact Or.inl ⟨rfl, fun q => (show ¬ tch ch from (by have hn := lit_no (fun q => idx_some lit_sm q hb199); unfold tch; simp only [gt_iff_lt, ge_iff_le, ne_eq, Int32.lt_iff_toInt_lt, Int32.le_iff_toInt_le, ← Int32.toInt_inj, show (33 : Int32).toInt = 33 from rfl, show (35 : Int32).toInt = 35 from rfl, show (36 : Int32).toInt = 36 from rfl, show (37 : Int32).toInt = 37 from rfl, show (38 : Int32).toInt = 38 from rfl, show (39 : Int32).toInt = 39 from rfl, show (42 : Int32).toInt = 42 from rfl, show (43 : Int32).toInt = 43 from rfl, show (45 : Int32).toInt = 45 from rfl, show (46 : Int32).toInt = 46 from rfl, show (48 : Int32).toInt = 48 from rfl, show (57 : Int32).toInt = 57 from rfl, show (65 : Int32).toInt = 65 from rfl, show (90 : Int32).toInt = 90 from rfl, show (94 : Int32).toInt = 94 from rfl, show (95 : Int32).toInt = 95 from rfl, show (96 : Int32).toInt = 96 from rfl, show (97 : Int32).toInt = 97 from rfl, show (122 : Int32).toInt = 122 from rfl, show (124 : Int32).toInt = 124 from rfl, show (126 : Int32).toInt = 126 from rfl] at hb135 hb136 hb169 hb170 hb186; omega)) (hT.mp q ch (mem_drop hch))⟩
                  · refine GoKit.iconst G (1 : Int32) d5_78 rfl (pc' := 79) rfl ?_
                    refine GoKit.goto G d5_79 (by decide) (pc' := 83) rfl ?_
                    refine GoKit.istoreN G d5_83 (Ls' := #[.val (.ref a), .val (.int (1 : Int32)), .val (.int (2 : Int32)), .val (.int ch)]) rfl (pc' := 84) rfl ?_
                    refine GoKit.iinc G (1 : Int32) d5_84 rfl rfl (Ls' := #[.val (.ref a), .val (.int (1 : Int32)), .val (.int ((2 : Int32) + (1 : Int32))), .val (.int ch)]) rfl (pc' := 87) rfl ?_
                    show Run _ _ _ _ _ _ _ _ _ _ _ _ _ _ _ _ _ _ _ _ _ (mkF m 87 #[.val (.ref a), .val (.int (1 : Int32)), .val (.int (3 : Int32)), .val (.int ch)] [])
                    refine GoKit.goto G d5_87 (by decide) (pc' := 15) rfl ?_
                    have KP201 : Keep h h196 [] := ((Keep.refl h []).ext E190)
                    refine Run.mono (by decide) (by decide) (J3 _ _ _ (K.trans KP201 all0) ?_ (Or.inr ⟨_, rfl, rfl⟩))
                    exact Or.inr ⟨rfl, hT.trans (drop_step hch (lit_tch (Classical.byContradiction fun q => hb199 (by rw [idx_none q]; decide))))⟩
        · refine GoKit.iloadN G d5_39 rfl (pc' := 40) rfl ?_
          refine GoKit.bipush G (122 : Int32) d5_40 rfl (pc' := 42) rfl ?_
          refine GoKit.icmp_le G d5_42 (by decide) (pt := 78) (pf := 45) rfl rfl (fun hb202 => ?_) (fun hb202 => ?_)
          · refine GoKit.iconst G (1 : Int32) d5_78 rfl (pc' := 79) rfl ?_
            refine GoKit.goto G d5_79 (by decide) (pc' := 83) rfl ?_
            refine GoKit.istoreN G d5_83 (Ls' := #[.val (.ref a), .val (.int (1 : Int32)), .val (.int (2 : Int32)), .val (.int ch)]) rfl (pc' := 84) rfl ?_
            refine GoKit.iinc G (1 : Int32) d5_84 rfl rfl (Ls' := #[.val (.ref a), .val (.int (1 : Int32)), .val (.int ((2 : Int32) + (1 : Int32))), .val (.int ch)]) rfl (pc' := 87) rfl ?_
            show Run _ _ _ _ _ _ _ _ _ _ _ _ _ _ _ _ _ _ _ _ _ (mkF m 87 #[.val (.ref a), .val (.int (1 : Int32)), .val (.int (3 : Int32)), .val (.int ch)] [])
            refine GoKit.goto G d5_87 (by decide) (pc' := 15) rfl ?_
            refine Run.mono (by decide) (by decide) (J3 _ _ _ K ?_ (Or.inr ⟨_, rfl, rfl⟩))
            exact Or.inr ⟨rfl, hT.trans (drop_step hch (by unfold tch; simp only [gt_iff_lt, ge_iff_le, ne_eq, Int32.lt_iff_toInt_lt, Int32.le_iff_toInt_le, ← Int32.toInt_inj, show (33 : Int32).toInt = 33 from rfl, show (35 : Int32).toInt = 35 from rfl, show (36 : Int32).toInt = 36 from rfl, show (37 : Int32).toInt = 37 from rfl, show (38 : Int32).toInt = 38 from rfl, show (39 : Int32).toInt = 39 from rfl, show (42 : Int32).toInt = 42 from rfl, show (43 : Int32).toInt = 43 from rfl, show (45 : Int32).toInt = 45 from rfl, show (46 : Int32).toInt = 46 from rfl, show (48 : Int32).toInt = 48 from rfl, show (57 : Int32).toInt = 57 from rfl, show (65 : Int32).toInt = 65 from rfl, show (90 : Int32).toInt = 90 from rfl, show (94 : Int32).toInt = 94 from rfl, show (95 : Int32).toInt = 95 from rfl, show (96 : Int32).toInt = 96 from rfl, show (97 : Int32).toInt = 97 from rfl, show (122 : Int32).toInt = 122 from rfl, show (124 : Int32).toInt = 124 from rfl, show (126 : Int32).toInt = 126 from rfl] at hb135 hb202; omega))⟩
          · refine GoKit.iloadN G d5_45 rfl (pc' := 46) rfl ?_
            refine GoKit.bipush G (65 : Int32) d5_46 rfl (pc' := 48) rfl ?_
            refine GoKit.icmp_lt G d5_48 (by decide) (pt := 57) (pf := 51) rfl rfl (fun hb203 => ?_) (fun hb203 => ?_)
            · refine GoKit.iloadN G d5_57 rfl (pc' := 58) rfl ?_
              refine GoKit.bipush G (48 : Int32) d5_58 rfl (pc' := 60) rfl ?_
              refine GoKit.icmp_lt G d5_60 (by decide) (pt := 69) (pf := 63) rfl rfl (fun hb204 => ?_) (fun hb204 => ?_)
              · refine GoKit.ldcStr G d5_69 rfl (wi hw 83 rfl) (wS hw) (by decide) (vs := [.int (33 : Int32), .int (35 : Int32), .int (36 : Int32), .int (37 : Int32), .int (38 : Int32), .int (39 : Int32), .int (42 : Int32), .int (43 : Int32), .int (45 : Int32), .int (46 : Int32), .int (94 : Int32), .int (95 : Int32), .int (96 : Int32), .int (124 : Int32), .int (126 : Int32)]) (z := (15 : Int32)) ⟨by decide +kernel, by decide +kernel⟩ (by decide) rfl (n := 60) (by decide +kernel) (by decide) (by decide) (by decide) (cells' := 6) (slots' := 192) rfl rfl (pc' := 71) rfl (fun a205 b206 k207 h214 E208 X209 FC210 FV211 A212 N213 => ?_)
                have S215 : Lat Z h214 a205 [(33 : Int32), (35 : Int32), (36 : Int32), (37 : Int32), (38 : Int32), (39 : Int32), (42 : Int32), (43 : Int32), (45 : Int32), (46 : Int32), (94 : Int32), (95 : Int32), (96 : Int32), (124 : Int32), (126 : Int32)] := latLit X209 FC210 FV211 A212 rfl (by decide +kernel) (by decide +kernel)
                have A216 : IA Z h214 b206 .byte (([(33 : Int32), (35 : Int32), (36 : Int32), (37 : Int32), (38 : Int32), (39 : Int32), (42 : Int32), (43 : Int32), (45 : Int32), (46 : Int32), (94 : Int32), (95 : Int32), (96 : Int32), (124 : Int32), (126 : Int32)] : List Int32).map fun c => c.toInt8.toInt32) := iaLit A212 rfl (by decide +kernel)
                refine GoKit.iloadN G d5_71 rfl (pc' := 72) rfl ?_
                refine GoKit.callVirtualP G d5_72 (wi hw 84 rfl) (wi hw 85 rfl) (wi hw 87 rfl) (wi hw 86 rfl) (wi hw 8 rfl) (wi hw 88 rfl) (by decide) S215.1 (W := 0) (argsL := [(.int ch)]) (rest := []) (con_idxL l hw (cs := litL) ch S215 HC) rfl (lenOf pd_4 rfl) rfl (by decide) (Nat.le_of_eq rfl) (by decide) (by decide) (by decide) (cells' := 6) (slots' := 192) rfl rfl (pc' := 75) rfl ?_
                show Run _ _ _ _ _ _ _ _ _ _ _ _ _ _ _ _ _ _ _ _ _ (mkF m 75 #[.val (.ref a), .val (.int (1 : Int32)), .val (.int (2 : Int32)), .val (.int ch)] [(.int (idxFrom litL ch 0))])
                refine GoKit.if_lt G d5_75 (by decide) (pt := 82) (pf := 78) rfl rfl (fun hb217 => ?_) (fun hb217 => ?_)
                · refine GoKit.iconst G (0 : Int32) d5_82 rfl (pc' := 83) rfl ?_
                  refine GoKit.istoreN G d5_83 (Ls' := #[.val (.ref a), .val (.int (0 : Int32)), .val (.int (2 : Int32)), .val (.int ch)]) rfl (pc' := 84) rfl ?_
                  refine GoKit.iinc G (1 : Int32) d5_84 rfl rfl (Ls' := #[.val (.ref a), .val (.int (0 : Int32)), .val (.int ((2 : Int32) + (1 : Int32))), .val (.int ch)]) rfl (pc' := 87) rfl ?_
                  show Run _ _ _ _ _ _ _ _ _ _ _ _ _ _ _ _ _ _ _ _ _ (mkF m 87 #[.val (.ref a), .val (.int (0 : Int32)), .val (.int (3 : Int32)), .val (.int ch)] [])
                  refine GoKit.goto G d5_87 (by decide) (pc' := 15) rfl ?_
                  have KP218 : Keep h h214 [] := ((Keep.refl h []).ext E208)
                  refine Run.mono (by decide) (by decide) (J3 _ _ _ (K.trans KP218 all0) ?_ (Or.inr ⟨_, rfl, rfl⟩))
                  exact Or.inl ⟨rfl, fun q => (show ¬ tch ch from (by have hn := lit_no (fun q => idx_some lit_sm q hb217); unfold tch; simp only [gt_iff_lt, ge_iff_le, ne_eq, Int32.lt_iff_toInt_lt, Int32.le_iff_toInt_le, ← Int32.toInt_inj, show (33 : Int32).toInt = 33 from rfl, show (35 : Int32).toInt = 35 from rfl, show (36 : Int32).toInt = 36 from rfl, show (37 : Int32).toInt = 37 from rfl, show (38 : Int32).toInt = 38 from rfl, show (39 : Int32).toInt = 39 from rfl, show (42 : Int32).toInt = 42 from rfl, show (43 : Int32).toInt = 43 from rfl, show (45 : Int32).toInt = 45 from rfl, show (46 : Int32).toInt = 46 from rfl, show (48 : Int32).toInt = 48 from rfl, show (57 : Int32).toInt = 57 from rfl, show (65 : Int32).toInt = 65 from rfl, show (90 : Int32).toInt = 90 from rfl, show (94 : Int32).toInt = 94 from rfl, show (95 : Int32).toInt = 95 from rfl, show (96 : Int32).toInt = 96 from rfl, show (97 : Int32).toInt = 97 from rfl, show (122 : Int32).toInt = 122 from rfl, show (124 : Int32).toInt = 124 from rfl, show (126 : Int32).toInt = 126 from rfl] at hb135 hb202 hb203 hb204; omega)) (hT.mp q ch (mem_drop hch))⟩
                · refine GoKit.iconst G (1 : Int32) d5_78 rfl (pc' := 79) rfl ?_
                  refine GoKit.goto G d5_79 (by decide) (pc' := 83) rfl ?_
                  refine GoKit.istoreN G d5_83 (Ls' := #[.val (.ref a), .val (.int (1 : Int32)), .val (.int (2 : Int32)), .val (.int ch)]) rfl (pc' := 84) rfl ?_
                  refine GoKit.iinc G (1 : Int32) d5_84 rfl rfl (Ls' := #[.val (.ref a), .val (.int (1 : Int32)), .val (.int ((2 : Int32) + (1 : Int32))), .val (.int ch)]) rfl (pc' := 87) rfl ?_
                  show Run _ _ _ _ _ _ _ _ _ _ _ _ _ _ _ _ _ _ _ _ _ (mkF m 87 #[.val (.ref a), .val (.int (1 : Int32)), .val (.int (3 : Int32)), .val (.int ch)] [])
                  refine GoKit.goto G d5_87 (by decide) (pc' := 15) rfl ?_
                  have KP219 : Keep h h214 [] := ((Keep.refl h []).ext E208)
                  refine Run.mono (by decide) (by decide) (J3 _ _ _ (K.trans KP219 all0) ?_ (Or.inr ⟨_, rfl, rfl⟩))
                  exact Or.inr ⟨rfl, hT.trans (drop_step hch (lit_tch (Classical.byContradiction fun q => hb217 (by rw [idx_none q]; decide))))⟩
              · refine GoKit.iloadN G d5_63 rfl (pc' := 64) rfl ?_
                refine GoKit.bipush G (57 : Int32) d5_64 rfl (pc' := 66) rfl ?_
                refine GoKit.icmp_le G d5_66 (by decide) (pt := 78) (pf := 69) rfl rfl (fun hb220 => ?_) (fun hb220 => ?_)
                · refine GoKit.iconst G (1 : Int32) d5_78 rfl (pc' := 79) rfl ?_
                  refine GoKit.goto G d5_79 (by decide) (pc' := 83) rfl ?_
                  refine GoKit.istoreN G d5_83 (Ls' := #[.val (.ref a), .val (.int (1 : Int32)), .val (.int (2 : Int32)), .val (.int ch)]) rfl (pc' := 84) rfl ?_
                  refine GoKit.iinc G (1 : Int32) d5_84 rfl rfl (Ls' := #[.val (.ref a), .val (.int (1 : Int32)), .val (.int ((2 : Int32) + (1 : Int32))), .val (.int ch)]) rfl (pc' := 87) rfl ?_
                  show Run _ _ _ _ _ _ _ _ _ _ _ _ _ _ _ _ _ _ _ _ _ (mkF m 87 #[.val (.ref a), .val (.int (1 : Int32)), .val (.int (3 : Int32)), .val (.int ch)] [])
                  refine GoKit.goto G d5_87 (by decide) (pc' := 15) rfl ?_
                  refine Run.mono (by decide) (by decide) (J3 _ _ _ K ?_ (Or.inr ⟨_, rfl, rfl⟩))
                  exact Or.inr ⟨rfl, hT.trans (drop_step hch (by unfold tch; simp only [gt_iff_lt, ge_iff_le, ne_eq, Int32.lt_iff_toInt_lt, Int32.le_iff_toInt_le, ← Int32.toInt_inj, show (33 : Int32).toInt = 33 from rfl, show (35 : Int32).toInt = 35 from rfl, show (36 : Int32).toInt = 36 from rfl, show (37 : Int32).toInt = 37 from rfl, show (38 : Int32).toInt = 38 from rfl, show (39 : Int32).toInt = 39 from rfl, show (42 : Int32).toInt = 42 from rfl, show (43 : Int32).toInt = 43 from rfl, show (45 : Int32).toInt = 45 from rfl, show (46 : Int32).toInt = 46 from rfl, show (48 : Int32).toInt = 48 from rfl, show (57 : Int32).toInt = 57 from rfl, show (65 : Int32).toInt = 65 from rfl, show (90 : Int32).toInt = 90 from rfl, show (94 : Int32).toInt = 94 from rfl, show (95 : Int32).toInt = 95 from rfl, show (96 : Int32).toInt = 96 from rfl, show (97 : Int32).toInt = 97 from rfl, show (122 : Int32).toInt = 122 from rfl, show (124 : Int32).toInt = 124 from rfl, show (126 : Int32).toInt = 126 from rfl] at hb135 hb202 hb203 hb204 hb220; omega))⟩
                · refine GoKit.ldcStr G d5_69 rfl (wi hw 83 rfl) (wS hw) (by decide) (vs := [.int (33 : Int32), .int (35 : Int32), .int (36 : Int32), .int (37 : Int32), .int (38 : Int32), .int (39 : Int32), .int (42 : Int32), .int (43 : Int32), .int (45 : Int32), .int (46 : Int32), .int (94 : Int32), .int (95 : Int32), .int (96 : Int32), .int (124 : Int32), .int (126 : Int32)]) (z := (15 : Int32)) ⟨by decide +kernel, by decide +kernel⟩ (by decide) rfl (n := 60) (by decide +kernel) (by decide) (by decide) (by decide) (cells' := 6) (slots' := 192) rfl rfl (pc' := 71) rfl (fun a221 b222 k223 h230 E224 X225 FC226 FV227 A228 N229 => ?_)
                  have S231 : Lat Z h230 a221 [(33 : Int32), (35 : Int32), (36 : Int32), (37 : Int32), (38 : Int32), (39 : Int32), (42 : Int32), (43 : Int32), (45 : Int32), (46 : Int32), (94 : Int32), (95 : Int32), (96 : Int32), (124 : Int32), (126 : Int32)] := latLit X225 FC226 FV227 A228 rfl (by decide +kernel) (by decide +kernel)
                  have A232 : IA Z h230 b222 .byte (([(33 : Int32), (35 : Int32), (36 : Int32), (37 : Int32), (38 : Int32), (39 : Int32), (42 : Int32), (43 : Int32), (45 : Int32), (46 : Int32), (94 : Int32), (95 : Int32), (96 : Int32), (124 : Int32), (126 : Int32)] : List Int32).map fun c => c.toInt8.toInt32) := iaLit A228 rfl (by decide +kernel)
                  refine GoKit.iloadN G d5_71 rfl (pc' := 72) rfl ?_
                  refine GoKit.callVirtualP G d5_72 (wi hw 84 rfl) (wi hw 85 rfl) (wi hw 87 rfl) (wi hw 86 rfl) (wi hw 8 rfl) (wi hw 88 rfl) (by decide) S231.1 (W := 0) (argsL := [(.int ch)]) (rest := []) (con_idxL l hw (cs := litL) ch S231 HC) rfl (lenOf pd_4 rfl) rfl (by decide) (Nat.le_of_eq rfl) (by decide) (by decide) (by decide) (cells' := 6) (slots' := 192) rfl rfl (pc' := 75) rfl ?_
                  show Run _ _ _ _ _ _ _ _ _ _ _ _ _ _ _ _ _ _ _ _ _ (mkF m 75 #[.val (.ref a), .val (.int (1 : Int32)), .val (.int (2 : Int32)), .val (.int ch)] [(.int (idxFrom litL ch 0))])
                  refine GoKit.if_lt G d5_75 (by decide) (pt := 82) (pf := 78) rfl rfl (fun hb233 => ?_) (fun hb233 => ?_)
                  · refine GoKit.iconst G (0 : Int32) d5_82 rfl (pc' := 83) rfl ?_
                    refine GoKit.istoreN G d5_83 (Ls' := #[.val (.ref a), .val (.int (0 : Int32)), .val (.int (2 : Int32)), .val (.int ch)]) rfl (pc' := 84) rfl ?_
                    refine GoKit.iinc G (1 : Int32) d5_84 rfl rfl (Ls' := #[.val (.ref a), .val (.int (0 : Int32)), .val (.int ((2 : Int32) + (1 : Int32))), .val (.int ch)]) rfl (pc' := 87) rfl ?_
                    show Run _ _ _ _ _ _ _ _ _ _ _ _ _ _ _ _ _ _ _ _ _ (mkF m 87 #[.val (.ref a), .val (.int (0 : Int32)), .val (.int (3 : Int32)), .val (.int ch)] [])
                    refine GoKit.goto G d5_87 (by decide) (pc' := 15) rfl ?_
                    have KP234 : Keep h h230 [] := ((Keep.refl h []).ext E224)
                    refine Run.mono (by decide) (by decide) (J3 _ _ _ (K.trans KP234 all0) ?_ (Or.inr ⟨_, rfl, rfl⟩))
                    exact Or.inl ⟨rfl, fun q => (show ¬ tch ch from (by have hn := lit_no (fun q => idx_some lit_sm q hb233); unfold tch; simp only [gt_iff_lt, ge_iff_le, ne_eq, Int32.lt_iff_toInt_lt, Int32.le_iff_toInt_le, ← Int32.toInt_inj, show (33 : Int32).toInt = 33 from rfl, show (35 : Int32).toInt = 35 from rfl, show (36 : Int32).toInt = 36 from rfl, show (37 : Int32).toInt = 37 from rfl, show (38 : Int32).toInt = 38 from rfl, show (39 : Int32).toInt = 39 from rfl, show (42 : Int32).toInt = 42 from rfl, show (43 : Int32).toInt = 43 from rfl, show (45 : Int32).toInt = 45 from rfl, show (46 : Int32).toInt = 46 from rfl, show (48 : Int32).toInt = 48 from rfl, show (57 : Int32).toInt = 57 from rfl, show (65 : Int32).toInt = 65 from rfl, show (90 : Int32).toInt = 90 from rfl, show (94 : Int32).toInt = 94 from rfl, show (95 : Int32).toInt = 95 from rfl, show (96 : Int32).toInt = 96 from rfl, show (97 : Int32).toInt = 97 from rfl, show (122 : Int32).toInt = 122 from rfl, show (124 : Int32).toInt = 124 from rfl, show (126 : Int32).toInt = 126 from rfl] at hb135 hb202 hb203 hb204 hb220; omega)) (hT.mp q ch (mem_drop hch))⟩
                  · refine GoKit.iconst G (1 : Int32) d5_78 rfl (pc' := 79) rfl ?_
                    refine GoKit.goto G d5_79 (by decide) (pc' := 83) rfl ?_
                    refine GoKit.istoreN G d5_83 (Ls' := #[.val (.ref a), .val (.int (1 : Int32)), .val (.int (2 : Int32)), .val (.int ch)]) rfl (pc' := 84) rfl ?_
                    refine GoKit.iinc G (1 : Int32) d5_84 rfl rfl (Ls' := #[.val (.ref a), .val (.int (1 : Int32)), .val (.int ((2 : Int32) + (1 : Int32))), .val (.int ch)]) rfl (pc' := 87) rfl ?_
                    show Run _ _ _ _ _ _ _ _ _ _ _ _ _ _ _ _ _ _ _ _ _ (mkF m 87 #[.val (.ref a), .val (.int (1 : Int32)), .val (.int (3 : Int32)), .val (.int ch)] [])
                    refine GoKit.goto G d5_87 (by decide) (pc' := 15) rfl ?_
                    have KP235 : Keep h h230 [] := ((Keep.refl h []).ext E224)
                    refine Run.mono (by decide) (by decide) (J3 _ _ _ (K.trans KP235 all0) ?_ (Or.inr ⟨_, rfl, rfl⟩))
                    exact Or.inr ⟨rfl, hT.trans (drop_step hch (lit_tch (Classical.byContradiction fun q => hb233 (by rw [idx_none q]; decide))))⟩
            · refine GoKit.iloadN G d5_51 rfl (pc' := 52) rfl ?_
              refine GoKit.bipush G (90 : Int32) d5_52 rfl (pc' := 54) rfl ?_
              refine GoKit.icmp_le G d5_54 (by decide) (pt := 78) (pf := 57) rfl rfl (fun hb236 => ?_) (fun hb236 => ?_)
              · refine GoKit.iconst G (1 : Int32) d5_78 rfl (pc' := 79) rfl ?_
                refine GoKit.goto G d5_79 (by decide) (pc' := 83) rfl ?_
                refine GoKit.istoreN G d5_83 (Ls' := #[.val (.ref a), .val (.int (1 : Int32)), .val (.int (2 : Int32)), .val (.int ch)]) rfl (pc' := 84) rfl ?_
                refine GoKit.iinc G (1 : Int32) d5_84 rfl rfl (Ls' := #[.val (.ref a), .val (.int (1 : Int32)), .val (.int ((2 : Int32) + (1 : Int32))), .val (.int ch)]) rfl (pc' := 87) rfl ?_
                show Run _ _ _ _ _ _ _ _ _ _ _ _ _ _ _ _ _ _ _ _ _ (mkF m 87 #[.val (.ref a), .val (.int (1 : Int32)), .val (.int (3 : Int32)), .val (.int ch)] [])
                refine GoKit.goto G d5_87 (by decide) (pc' := 15) rfl ?_
                refine Run.mono (by decide) (by decide) (J3 _ _ _ K ?_ (Or.inr ⟨_, rfl, rfl⟩))
                exact Or.inr ⟨rfl, hT.trans (drop_step hch (by unfold tch; simp only [gt_iff_lt, ge_iff_le, ne_eq, Int32.lt_iff_toInt_lt, Int32.le_iff_toInt_le, ← Int32.toInt_inj, show (33 : Int32).toInt = 33 from rfl, show (35 : Int32).toInt = 35 from rfl, show (36 : Int32).toInt = 36 from rfl, show (37 : Int32).toInt = 37 from rfl, show (38 : Int32).toInt = 38 from rfl, show (39 : Int32).toInt = 39 from rfl, show (42 : Int32).toInt = 42 from rfl, show (43 : Int32).toInt = 43 from rfl, show (45 : Int32).toInt = 45 from rfl, show (46 : Int32).toInt = 46 from rfl, show (48 : Int32).toInt = 48 from rfl, show (57 : Int32).toInt = 57 from rfl, show (65 : Int32).toInt = 65 from rfl, show (90 : Int32).toInt = 90 from rfl, show (94 : Int32).toInt = 94 from rfl, show (95 : Int32).toInt = 95 from rfl, show (96 : Int32).toInt = 96 from rfl, show (97 : Int32).toInt = 97 from rfl, show (122 : Int32).toInt = 122 from rfl, show (124 : Int32).toInt = 124 from rfl, show (126 : Int32).toInt = 126 from rfl] at hb135 hb202 hb203 hb236; omega))⟩
              · refine GoKit.iloadN G d5_57 rfl (pc' := 58) rfl ?_
                refine GoKit.bipush G (48 : Int32) d5_58 rfl (pc' := 60) rfl ?_
                refine GoKit.icmp_lt G d5_60 (by decide) (pt := 69) (pf := 63) rfl rfl (fun hb237 => ?_) (fun hb237 => ?_)
                · refine GoKit.ldcStr G d5_69 rfl (wi hw 83 rfl) (wS hw) (by decide) (vs := [.int (33 : Int32), .int (35 : Int32), .int (36 : Int32), .int (37 : Int32), .int (38 : Int32), .int (39 : Int32), .int (42 : Int32), .int (43 : Int32), .int (45 : Int32), .int (46 : Int32), .int (94 : Int32), .int (95 : Int32), .int (96 : Int32), .int (124 : Int32), .int (126 : Int32)]) (z := (15 : Int32)) ⟨by decide +kernel, by decide +kernel⟩ (by decide) rfl (n := 60) (by decide +kernel) (by decide) (by decide) (by decide) (cells' := 6) (slots' := 192) rfl rfl (pc' := 71) rfl (fun a238 b239 k240 h247 E241 X242 FC243 FV244 A245 N246 => ?_)
                  have S248 : Lat Z h247 a238 [(33 : Int32), (35 : Int32), (36 : Int32), (37 : Int32), (38 : Int32), (39 : Int32), (42 : Int32), (43 : Int32), (45 : Int32), (46 : Int32), (94 : Int32), (95 : Int32), (96 : Int32), (124 : Int32), (126 : Int32)] := latLit X242 FC243 FV244 A245 rfl (by decide +kernel) (by decide +kernel)
                  have A249 : IA Z h247 b239 .byte (([(33 : Int32), (35 : Int32), (36 : Int32), (37 : Int32), (38 : Int32), (39 : Int32), (42 : Int32), (43 : Int32), (45 : Int32), (46 : Int32), (94 : Int32), (95 : Int32), (96 : Int32), (124 : Int32), (126 : Int32)] : List Int32).map fun c => c.toInt8.toInt32) := iaLit A245 rfl (by decide +kernel)
                  refine GoKit.iloadN G d5_71 rfl (pc' := 72) rfl ?_
                  refine GoKit.callVirtualP G d5_72 (wi hw 84 rfl) (wi hw 85 rfl) (wi hw 87 rfl) (wi hw 86 rfl) (wi hw 8 rfl) (wi hw 88 rfl) (by decide) S248.1 (W := 0) (argsL := [(.int ch)]) (rest := []) (con_idxL l hw (cs := litL) ch S248 HC) rfl (lenOf pd_4 rfl) rfl (by decide) (Nat.le_of_eq rfl) (by decide) (by decide) (by decide) (cells' := 6) (slots' := 192) rfl rfl (pc' := 75) rfl ?_
                  show Run _ _ _ _ _ _ _ _ _ _ _ _ _ _ _ _ _ _ _ _ _ (mkF m 75 #[.val (.ref a), .val (.int (1 : Int32)), .val (.int (2 : Int32)), .val (.int ch)] [(.int (idxFrom litL ch 0))])
                  refine GoKit.if_lt G d5_75 (by decide) (pt := 82) (pf := 78) rfl rfl (fun hb250 => ?_) (fun hb250 => ?_)
                  · refine GoKit.iconst G (0 : Int32) d5_82 rfl (pc' := 83) rfl ?_
                    refine GoKit.istoreN G d5_83 (Ls' := #[.val (.ref a), .val (.int (0 : Int32)), .val (.int (2 : Int32)), .val (.int ch)]) rfl (pc' := 84) rfl ?_
                    refine GoKit.iinc G (1 : Int32) d5_84 rfl rfl (Ls' := #[.val (.ref a), .val (.int (0 : Int32)), .val (.int ((2 : Int32) + (1 : Int32))), .val (.int ch)]) rfl (pc' := 87) rfl ?_
                    show Run _ _ _ _ _ _ _ _ _ _ _ _ _ _ _ _ _ _ _ _ _ (mkF m 87 #[.val (.ref a), .val (.int (0 : Int32)), .val (.int (3 : Int32)), .val (.int ch)] [])
                    refine GoKit.goto G d5_87 (by decide) (pc' := 15) rfl ?_
                    have KP251 : Keep h h247 [] := ((Keep.refl h []).ext E241)
                    refine Run.mono (by decide) (by decide) (J3 _ _ _ (K.trans KP251 all0) ?_ (Or.inr ⟨_, rfl, rfl⟩))
                    exact Or.inl ⟨rfl, fun q => (show ¬ tch ch from (by have hn := lit_no (fun q => idx_some lit_sm q hb250); unfold tch; simp only [gt_iff_lt, ge_iff_le, ne_eq, Int32.lt_iff_toInt_lt, Int32.le_iff_toInt_le, ← Int32.toInt_inj, show (33 : Int32).toInt = 33 from rfl, show (35 : Int32).toInt = 35 from rfl, show (36 : Int32).toInt = 36 from rfl, show (37 : Int32).toInt = 37 from rfl, show (38 : Int32).toInt = 38 from rfl, show (39 : Int32).toInt = 39 from rfl, show (42 : Int32).toInt = 42 from rfl, show (43 : Int32).toInt = 43 from rfl, show (45 : Int32).toInt = 45 from rfl, show (46 : Int32).toInt = 46 from rfl, show (48 : Int32).toInt = 48 from rfl, show (57 : Int32).toInt = 57 from rfl, show (65 : Int32).toInt = 65 from rfl, show (90 : Int32).toInt = 90 from rfl, show (94 : Int32).toInt = 94 from rfl, show (95 : Int32).toInt = 95 from rfl, show (96 : Int32).toInt = 96 from rfl, show (97 : Int32).toInt = 97 from rfl, show (122 : Int32).toInt = 122 from rfl, show (124 : Int32).toInt = 124 from rfl, show (126 : Int32).toInt = 126 from rfl] at hb135 hb202 hb203 hb236 hb237; omega)) (hT.mp q ch (mem_drop hch))⟩
                  · refine GoKit.iconst G (1 : Int32) d5_78 rfl (pc' := 79) rfl ?_
                    refine GoKit.goto G d5_79 (by decide) (pc' := 83) rfl ?_
                    refine GoKit.istoreN G d5_83 (Ls' := #[.val (.ref a), .val (.int (1 : Int32)), .val (.int (2 : Int32)), .val (.int ch)]) rfl (pc' := 84) rfl ?_
                    refine GoKit.iinc G (1 : Int32) d5_84 rfl rfl (Ls' := #[.val (.ref a), .val (.int (1 : Int32)), .val (.int ((2 : Int32) + (1 : Int32))), .val (.int ch)]) rfl (pc' := 87) rfl ?_
                    show Run _ _ _ _ _ _ _ _ _ _ _ _ _ _ _ _ _ _ _ _ _ (mkF m 87 #[.val (.ref a), .val (.int (1 : Int32)), .val (.int (3 : Int32)), .val (.int ch)] [])
                    refine GoKit.goto G d5_87 (by decide) (pc' := 15) rfl ?_
                    have KP252 : Keep h h247 [] := ((Keep.refl h []).ext E241)
                    refine Run.mono (by decide) (by decide) (J3 _ _ _ (K.trans KP252 all0) ?_ (Or.inr ⟨_, rfl, rfl⟩))
                    exact Or.inr ⟨rfl, hT.trans (drop_step hch (lit_tch (Classical.byContradiction fun q => hb250 (by rw [idx_none q]; decide))))⟩
                · refine GoKit.iloadN G d5_63 rfl (pc' := 64) rfl ?_
                  refine GoKit.bipush G (57 : Int32) d5_64 rfl (pc' := 66) rfl ?_
                  refine GoKit.icmp_le G d5_66 (by decide) (pt := 78) (pf := 69) rfl rfl (fun hb253 => ?_) (fun hb253 => ?_)
                  · refine GoKit.iconst G (1 : Int32) d5_78 rfl (pc' := 79) rfl ?_
                    refine GoKit.goto G d5_79 (by decide) (pc' := 83) rfl ?_
                    refine GoKit.istoreN G d5_83 (Ls' := #[.val (.ref a), .val (.int (1 : Int32)), .val (.int (2 : Int32)), .val (.int ch)]) rfl (pc' := 84) rfl ?_
                    refine GoKit.iinc G (1 : Int32) d5_84 rfl rfl (Ls' := #[.val (.ref a), .val (.int (1 : Int32)), .val (.int ((2 : Int32) + (1 : Int32))), .val (.int ch)]) rfl (pc' := 87) rfl ?_
                    show Run _ _ _ _ _ _ _ _ _ _ _ _ _ _ _ _ _ _ _ _ _ (mkF m 87 #[.val (.ref a), .val (.int (1 : Int32)), .val (.int (3 : Int32)), .val (.int ch)] [])
                    refine GoKit.goto G d5_87 (by decide) (pc' := 15) rfl ?_
                    refine Run.mono (by decide) (by decide) (J3 _ _ _ K ?_ (Or.inr ⟨_, rfl, rfl⟩))
                    exact Or.inr ⟨rfl, hT.trans (drop_step hch (by unfold tch; simp only [gt_iff_lt, ge_iff_le, ne_eq, Int32.lt_iff_toInt_lt, Int32.le_iff_toInt_le, ← Int32.toInt_inj, show (33 : Int32).toInt = 33 from rfl, show (35 : Int32).toInt = 35 from rfl, show (36 : Int32).toInt = 36 from rfl, show (37 : Int32).toInt = 37 from rfl, show (38 : Int32).toInt = 38 from rfl, show (39 : Int32).toInt = 39 from rfl, show (42 : Int32).toInt = 42 from rfl, show (43 : Int32).toInt = 43 from rfl, show (45 : Int32).toInt = 45 from rfl, show (46 : Int32).toInt = 46 from rfl, show (48 : Int32).toInt = 48 from rfl, show (57 : Int32).toInt = 57 from rfl, show (65 : Int32).toInt = 65 from rfl, show (90 : Int32).toInt = 90 from rfl, show (94 : Int32).toInt = 94 from rfl, show (95 : Int32).toInt = 95 from rfl, show (96 : Int32).toInt = 96 from rfl, show (97 : Int32).toInt = 97 from rfl, show (122 : Int32).toInt = 122 from rfl, show (124 : Int32).toInt = 124 from rfl, show (126 : Int32).toInt = 126 from rfl] at hb135 hb202 hb203 hb236 hb237 hb253; omega))⟩
                  · refine GoKit.ldcStr G d5_69 rfl (wi hw 83 rfl) (wS hw) (by decide) (vs := [.int (33 : Int32), .int (35 : Int32), .int (36 : Int32), .int (37 : Int32), .int (38 : Int32), .int (39 : Int32), .int (42 : Int32), .int (43 : Int32), .int (45 : Int32), .int (46 : Int32), .int (94 : Int32), .int (95 : Int32), .int (96 : Int32), .int (124 : Int32), .int (126 : Int32)]) (z := (15 : Int32)) ⟨by decide +kernel, by decide +kernel⟩ (by decide) rfl (n := 60) (by decide +kernel) (by decide) (by decide) (by decide) (cells' := 6) (slots' := 192) rfl rfl (pc' := 71) rfl (fun a254 b255 k256 h263 E257 X258 FC259 FV260 A261 N262 => ?_)
                    have S264 : Lat Z h263 a254 [(33 : Int32), (35 : Int32), (36 : Int32), (37 : Int32), (38 : Int32), (39 : Int32), (42 : Int32), (43 : Int32), (45 : Int32), (46 : Int32), (94 : Int32), (95 : Int32), (96 : Int32), (124 : Int32), (126 : Int32)] := latLit X258 FC259 FV260 A261 rfl (by decide +kernel) (by decide +kernel)
                    have A265 : IA Z h263 b255 .byte (([(33 : Int32), (35 : Int32), (36 : Int32), (37 : Int32), (38 : Int32), (39 : Int32), (42 : Int32), (43 : Int32), (45 : Int32), (46 : Int32), (94 : Int32), (95 : Int32), (96 : Int32), (124 : Int32), (126 : Int32)] : List Int32).map fun c => c.toInt8.toInt32) := iaLit A261 rfl (by decide +kernel)
                    refine GoKit.iloadN G d5_71 rfl (pc' := 72) rfl ?_
                    refine GoKit.callVirtualP G d5_72 (wi hw 84 rfl) (wi hw 85 rfl) (wi hw 87 rfl) (wi hw 86 rfl) (wi hw 8 rfl) (wi hw 88 rfl) (by decide) S264.1 (W := 0) (argsL := [(.int ch)]) (rest := []) (con_idxL l hw (cs := litL) ch S264 HC) rfl (lenOf pd_4 rfl) rfl (by decide) (Nat.le_of_eq rfl) (by decide) (by decide) (by decide) (cells' := 6) (slots' := 192) rfl rfl (pc' := 75) rfl ?_
                    show Run _ _ _ _ _ _ _ _ _ _ _ _ _ _ _ _ _ _ _ _ _ (mkF m 75 #[.val (.ref a), .val (.int (1 : Int32)), .val (.int (2 : Int32)), .val (.int ch)] [(.int (idxFrom litL ch 0))])
                    refine GoKit.if_lt G d5_75 (by decide) (pt := 82) (pf := 78) rfl rfl (fun hb266 => ?_) (fun hb266 => ?_)
                    · refine GoKit.iconst G (0 : Int32) d5_82 rfl (pc' := 83) rfl ?_
                      refine GoKit.istoreN G d5_83 (Ls' := #[.val (.ref a), .val (.int (0 : Int32)), .val (.int (2 : Int32)), .val (.int ch)]) rfl (pc' := 84) rfl ?_
                      refine GoKit.iinc G (1 : Int32) d5_84 rfl rfl (Ls' := #[.val (.ref a), .val (.int (0 : Int32)), .val (.int ((2 : Int32) + (1 : Int32))), .val (.int ch)]) rfl (pc' := 87) rfl ?_
                      show Run _ _ _ _ _ _ _ _ _ _ _ _ _ _ _ _ _ _ _ _ _ (mkF m 87 #[.val (.ref a), .val (.int (0 : Int32)), .val (.int (3 : Int32)), .val (.int ch)] [])
                      refine GoKit.goto G d5_87 (by decide) (pc' := 15) rfl ?_
                      have KP267 : Keep h h263 [] := ((Keep.refl h []).ext E257)
                      refine Run.mono (by decide) (by decide) (J3 _ _ _ (K.trans KP267 all0) ?_ (Or.inr ⟨_, rfl, rfl⟩))
                      exact Or.inl ⟨rfl, fun q => (show ¬ tch ch from (by have hn := lit_no (fun q => idx_some lit_sm q hb266); unfold tch; simp only [gt_iff_lt, ge_iff_le, ne_eq, Int32.lt_iff_toInt_lt, Int32.le_iff_toInt_le, ← Int32.toInt_inj, show (33 : Int32).toInt = 33 from rfl, show (35 : Int32).toInt = 35 from rfl, show (36 : Int32).toInt = 36 from rfl, show (37 : Int32).toInt = 37 from rfl, show (38 : Int32).toInt = 38 from rfl, show (39 : Int32).toInt = 39 from rfl, show (42 : Int32).toInt = 42 from rfl, show (43 : Int32).toInt = 43 from rfl, show (45 : Int32).toInt = 45 from rfl, show (46 : Int32).toInt = 46 from rfl, show (48 : Int32).toInt = 48 from rfl, show (57 : Int32).toInt = 57 from rfl, show (65 : Int32).toInt = 65 from rfl, show (90 : Int32).toInt = 90 from rfl, show (94 : Int32).toInt = 94 from rfl, show (95 : Int32).toInt = 95 from rfl, show (96 : Int32).toInt = 96 from rfl, show (97 : Int32).toInt = 97 from rfl, show (122 : Int32).toInt = 122 from rfl, show (124 : Int32).toInt = 124 from rfl, show (126 : Int32).toInt = 126 from rfl] at hb135 hb202 hb203 hb236 hb237 hb253; omega)) (hT.mp q ch (mem_drop hch))⟩
                    · refine GoKit.iconst G (1 : Int32) d5_78 rfl (pc' := 79) rfl ?_
                      refine GoKit.goto G d5_79 (by decide) (pc' := 83) rfl ?_
                      refine GoKit.istoreN G d5_83 (Ls' := #[.val (.ref a), .val (.int (1 : Int32)), .val (.int (2 : Int32)), .val (.int ch)]) rfl (pc' := 84) rfl ?_
                      refine GoKit.iinc G (1 : Int32) d5_84 rfl rfl (Ls' := #[.val (.ref a), .val (.int (1 : Int32)), .val (.int ((2 : Int32) + (1 : Int32))), .val (.int ch)]) rfl (pc' := 87) rfl ?_
                      show Run _ _ _ _ _ _ _ _ _ _ _ _ _ _ _ _ _ _ _ _ _ (mkF m 87 #[.val (.ref a), .val (.int (1 : Int32)), .val (.int (3 : Int32)), .val (.int ch)] [])
                      refine GoKit.goto G d5_87 (by decide) (pc' := 15) rfl ?_
                      have KP268 : Keep h h263 [] := ((Keep.refl h []).ext E257)
                      refine Run.mono (by decide) (by decide) (J3 _ _ _ (K.trans KP268 all0) ?_ (Or.inr ⟨_, rfl, rfl⟩))
                      exact Or.inr ⟨rfl, hT.trans (drop_step hch (lit_tch (Classical.byContradiction fun q => hb266 (by rw [idx_none q]; decide))))⟩
      · refine GoKit.iloadN G d5_15 rfl (pc' := 16) rfl ?_
        refine GoKit.if_eq_f G d5_16 (by decide) (pc' := 19) rfl ?_
        refine GoKit.iloadN G d5_19 rfl (pc' := 20) rfl ?_
        refine GoKit.aloadN G d5_20 rfl rfl (pc' := 21) rfl ?_
        refine GoKit.callVirtualP G d5_21 (wi hw 51 rfl) (wi hw 52 rfl) (wi hw 54 rfl) (wi hw 53 rfl) (wi hw 8 rfl) (wi hw 55 rfl) (by decide) (str_exa S1) (W := 1) (argsL := []) (rest := [(.int (2 : Int32))]) (con_lenS l hw S1 HC) rfl (lenOf pd_17 rfl) rfl (by decide) (Nat.le_of_eq rfl) (by decide) (by decide) (by decide) (cells' := 4) (slots' := 128) rfl rfl (pc' := 24) rfl ?_
        show Run _ _ _ _ _ _ _ _ _ _ _ _ _ _ _ _ _ _ _ _ _ (mkF m 24 #[.val (.ref a), .val (.int (1 : Int32)), .val (.int (2 : Int32)), sl] [(.int cs.length.toInt32), (.int (2 : Int32))])
        refine GoKit.icmp_ge_t G d5_24 (fun q => hk ((toI_lt (i := 2) (by decide) (by omega)).mp q)) (by decide) (pc' := 90) rfl ?_
        refine GoKit.iloadN G d5_90 rfl (pc' := 91) rfl ?_
        refine GoKit.retNar G d5_91 (t := .boolean) rfl (by simp) (by decide) (by decide) ?_
        exact by rw [if_pos (hT.mpr (by rw [List.drop_eq_nil_of_le (by omega)]; intro c hc; cases hc))]; rfl
  have J1 : ∀ (h : Heap) (bv : Int32) (sl : Slot), Keep h0 h [] → ((bv = 0 ∧ ¬ T cs) ∨ (bv = 1 ∧ (T cs ↔ ∀ c ∈ cs.drop 1, tch c))) → (sl = .unset ∨ ∃ w, sl = .val w ∧ w.category = 1) →
      Run p l e rm_con_tok s m #[.ref a] below meth c Z true false ELs n0 [] (fun v h => v = some (.int (if T cs then 1 else 0))) h [] 2 64 (mkF m 15 #[.val (.ref a), .val (.int bv), .val (.int (1 : Int32)), sl] []) := by
    intro h bv sl K hI hsl
    have S1 := str_keep S K
    rcases hI with ⟨rfl, hT⟩ | ⟨rfl, hT⟩
    · refine GoKit.iloadN G d5_15 rfl (pc' := 16) rfl ?_
      refine GoKit.if_eq_t G d5_16 (by decide) (by decide) (pc' := 90) rfl ?_
      refine GoKit.iloadN G d5_90 rfl (pc' := 91) rfl ?_
      refine GoKit.retNar G d5_91 (t := .boolean) rfl (by simp) (by decide) (by decide) ?_
      exact by rw [if_neg hT]; rfl
    · by_cases hk : 1 < cs.length
      · obtain ⟨ch, hch⟩ : ∃ ch, cs[1]? = some ch := ⟨cs[1], List.getElem?_eq_getElem hk⟩
        refine GoKit.iloadN G d5_15 rfl (pc' := 16) rfl ?_
        refine GoKit.if_eq_f G d5_16 (by decide) (pc' := 19) rfl ?_
        refine GoKit.iloadN G d5_19 rfl (pc' := 20) rfl ?_
        refine GoKit.aloadN G d5_20 rfl rfl (pc' := 21) rfl ?_
        refine GoKit.callVirtualP G d5_21 (wi hw 51 rfl) (wi hw 52 rfl) (wi hw 54 rfl) (wi hw 53 rfl) (wi hw 8 rfl) (wi hw 55 rfl) (by decide) (str_exa S1) (W := 1) (argsL := []) (rest := [(.int (1 : Int32))]) (con_lenS l hw S1 HC) rfl (lenOf pd_17 rfl) rfl (by decide) (Nat.le_of_eq rfl) (by decide) (by decide) (by decide) (cells' := 2) (slots' := 64) rfl rfl (pc' := 24) rfl ?_
        show Run _ _ _ _ _ _ _ _ _ _ _ _ _ _ _ _ _ _ _ _ _ (mkF m 24 #[.val (.ref a), .val (.int (1 : Int32)), .val (.int (1 : Int32)), sl] [(.int cs.length.toInt32), (.int (1 : Int32))])
        refine GoKit.icmp_ge_f G d5_24 ((toI_lt (i := 1) (by decide) (by omega)).mpr hk) (pc' := 27) rfl ?_
        refine GoKit.aloadN G d5_27 rfl rfl (pc' := 28) rfl ?_
        refine GoKit.iloadN G d5_28 rfl (pc' := 29) rfl ?_
        refine GoKit.callVirtualP G d5_29 (wi hw 61 rfl) (wi hw 62 rfl) (wi hw 64 rfl) (wi hw 63 rfl) (wi hw 8 rfl) (wi hw 65 rfl) (by decide) (str_exa S1) (W := 0) (argsL := [(.int (1 : Int32))]) (rest := []) (con_charS l hw (i := 1) S1 hch HC HF HU) rfl (lenOf pd_19 rfl) rfl (by decide) (Nat.le_of_eq rfl) (by decide) (by decide) (by decide) (cells' := 2) (slots' := 64) rfl rfl (pc' := 32) rfl ?_
        show Run _ _ _ _ _ _ _ _ _ _ _ _ _ _ _ _ _ _ _ _ _ (mkF m 32 #[.val (.ref a), .val (.int (1 : Int32)), .val (.int (1 : Int32)), sl] [(.int ch)])
        refine GoKit.istoreN G d5_32 (Ls' := #[.val (.ref a), .val (.int (1 : Int32)), .val (.int (1 : Int32)), .val (.int ch)]) (XS.store1 rfl hsl rfl) (pc' := 33) rfl ?_
        refine GoKit.iloadN G d5_33 rfl (pc' := 34) rfl ?_
        refine GoKit.bipush G (97 : Int32) d5_34 rfl (pc' := 36) rfl ?_
        refine GoKit.icmp_lt G d5_36 (by decide) (pt := 45) (pf := 39) rfl rfl (fun hb269 => ?_) (fun hb269 => ?_)
        · refine GoKit.iloadN G d5_45 rfl (pc' := 46) rfl ?_
          refine GoKit.bipush G (65 : Int32) d5_46 rfl (pc' := 48) rfl ?_
          refine GoKit.icmp_lt G d5_48 (by decide) (pt := 57) (pf := 51) rfl rfl (fun hb270 => ?_) (fun hb270 => ?_)
          · refine GoKit.iloadN G d5_57 rfl (pc' := 58) rfl ?_
            refine GoKit.bipush G (48 : Int32) d5_58 rfl (pc' := 60) rfl ?_
            refine GoKit.icmp_lt G d5_60 (by decide) (pt := 69) (pf := 63) rfl rfl (fun hb271 => ?_) (fun hb271 => ?_)
            · refine GoKit.ldcStr G d5_69 rfl (wi hw 83 rfl) (wS hw) (by decide) (vs := [.int (33 : Int32), .int (35 : Int32), .int (36 : Int32), .int (37 : Int32), .int (38 : Int32), .int (39 : Int32), .int (42 : Int32), .int (43 : Int32), .int (45 : Int32), .int (46 : Int32), .int (94 : Int32), .int (95 : Int32), .int (96 : Int32), .int (124 : Int32), .int (126 : Int32)]) (z := (15 : Int32)) ⟨by decide +kernel, by decide +kernel⟩ (by decide) rfl (n := 60) (by decide +kernel) (by decide) (by decide) (by decide) (cells' := 4) (slots' := 128) rfl rfl (pc' := 71) rfl (fun a272 b273 k274 h281 E275 X276 FC277 FV278 A279 N280 => ?_)
              have S282 : Lat Z h281 a272 [(33 : Int32), (35 : Int32), (36 : Int32), (37 : Int32), (38 : Int32), (39 : Int32), (42 : Int32), (43 : Int32), (45 : Int32), (46 : Int32), (94 : Int32), (95 : Int32), (96 : Int32), (124 : Int32), (126 : Int32)] := latLit X276 FC277 FV278 A279 rfl (by decide +kernel) (by decide +kernel)
              have A283 : IA Z h281 b273 .byte (([(33 : Int32), (35 : Int32), (36 : Int32), (37 : Int32), (38 : Int32), (39 : Int32), (42 : Int32), (43 : Int32), (45 : Int32), (46 : Int32), (94 : Int32), (95 : Int32), (96 : Int32), (124 : Int32), (126 : Int32)] : List Int32).map fun c => c.toInt8.toInt32) := iaLit A279 rfl (by decide +kernel)
              refine GoKit.iloadN G d5_71 rfl (pc' := 72) rfl ?_
              refine GoKit.callVirtualP G d5_72 (wi hw 84 rfl) (wi hw 85 rfl) (wi hw 87 rfl) (wi hw 86 rfl) (wi hw 8 rfl) (wi hw 88 rfl) (by decide) S282.1 (W := 0) (argsL := [(.int ch)]) (rest := []) (con_idxL l hw (cs := litL) ch S282 HC) rfl (lenOf pd_4 rfl) rfl (by decide) (Nat.le_of_eq rfl) (by decide) (by decide) (by decide) (cells' := 4) (slots' := 128) rfl rfl (pc' := 75) rfl ?_
              show Run _ _ _ _ _ _ _ _ _ _ _ _ _ _ _ _ _ _ _ _ _ (mkF m 75 #[.val (.ref a), .val (.int (1 : Int32)), .val (.int (1 : Int32)), .val (.int ch)] [(.int (idxFrom litL ch 0))])
              refine GoKit.if_lt G d5_75 (by decide) (pt := 82) (pf := 78) rfl rfl (fun hb284 => ?_) (fun hb284 => ?_)
              · refine GoKit.iconst G (0 : Int32) d5_82 rfl (pc' := 83) rfl ?_
                refine GoKit.istoreN G d5_83 (Ls' := #[.val (.ref a), .val (.int (0 : Int32)), .val (.int (1 : Int32)), .val (.int ch)]) rfl (pc' := 84) rfl ?_
                refine GoKit.iinc G (1 : Int32) d5_84 rfl rfl (Ls' := #[.val (.ref a), .val (.int (0 : Int32)), .val (.int ((1 : Int32) + (1 : Int32))), .val (.int ch)]) rfl (pc' := 87) rfl ?_
                show Run _ _ _ _ _ _ _ _ _ _ _ _ _ _ _ _ _ _ _ _ _ (mkF m 87 #[.val (.ref a), .val (.int (0 : Int32)), .val (.int (2 : Int32)), .val (.int ch)] [])
                refine GoKit.goto G d5_87 (by decide) (pc' := 15) rfl ?_
                have KP285 : Keep h h281 [] := ((Keep.refl h []).ext E275)
                refine Run.mono (by decide) (by decide) (J2 _ _ _ (K.trans KP285 all0) ?_ (Or.inr ⟨_, rfl, rfl⟩))
                exact Or.inl ⟨rfl, fun q => (show ¬ tch ch from (by have hn := lit_no (fun q => idx_some lit_sm q hb284); unfold tch; simp only [gt_iff_lt, ge_iff_le, ne_eq, Int32.lt_iff_toInt_lt, Int32.le_iff_toInt_le, ← Int32.toInt_inj, show (33 : Int32).toInt = 33 from rfl, show (35 : Int32).toInt = 35 from rfl, show (36 : Int32).toInt = 36 from rfl, show (37 : Int32).toInt = 37 from rfl, show (38 : Int32).toInt = 38 from rfl, show (39 : Int32).toInt = 39 from rfl, show (42 : Int32).toInt = 42 from rfl, show (43 : Int32).toInt = 43 from rfl, show (45 : Int32).toInt = 45 from rfl, show (46 : Int32).toInt = 46 from rfl, show (48 : Int32).toInt = 48 from rfl, show (57 : Int32).toInt = 57 from rfl, show (65 : Int32).toInt = 65 from rfl, show (90 : Int32).toInt = 90 from rfl, show (94 : Int32).toInt = 94 from rfl, show (95 : Int32).toInt = 95 from rfl, show (96 : Int32).toInt = 96 from rfl, show (97 : Int32).toInt = 97 from rfl, show (122 : Int32).toInt = 122 from rfl, show (124 : Int32).toInt = 124 from rfl, show (126 : Int32).toInt = 126 from rfl] at hb269 hb270 hb271; omega)) (hT.mp q ch (mem_drop hch))⟩
              · refine GoKit.iconst G (1 : Int32) d5_78 rfl (pc' := 79) rfl ?_
                refine GoKit.goto G d5_79 (by decide) (pc' := 83) rfl ?_
                refine GoKit.istoreN G d5_83 (Ls' := #[.val (.ref a), .val (.int (1 : Int32)), .val (.int (1 : Int32)), .val (.int ch)]) rfl (pc' := 84) rfl ?_
                refine GoKit.iinc G (1 : Int32) d5_84 rfl rfl (Ls' := #[.val (.ref a), .val (.int (1 : Int32)), .val (.int ((1 : Int32) + (1 : Int32))), .val (.int ch)]) rfl (pc' := 87) rfl ?_
                show Run _ _ _ _ _ _ _ _ _ _ _ _ _ _ _ _ _ _ _ _ _ (mkF m 87 #[.val (.ref a), .val (.int (1 : Int32)), .val (.int (2 : Int32)), .val (.int ch)] [])
                refine GoKit.goto G d5_87 (by decide) (pc' := 15) rfl ?_
                have KP286 : Keep h h281 [] := ((Keep.refl h []).ext E275)
                refine Run.mono (by decide) (by decide) (J2 _ _ _ (K.trans KP286 all0) ?_ (Or.inr ⟨_, rfl, rfl⟩))
                exact Or.inr ⟨rfl, hT.trans (drop_step hch (lit_tch (Classical.byContradiction fun q => hb284 (by rw [idx_none q]; decide))))⟩
            · refine GoKit.iloadN G d5_63 rfl (pc' := 64) rfl ?_
              refine GoKit.bipush G (57 : Int32) d5_64 rfl (pc' := 66) rfl ?_
              refine GoKit.icmp_le G d5_66 (by decide) (pt := 78) (pf := 69) rfl rfl (fun hb287 => ?_) (fun hb287 => ?_)
              · refine GoKit.iconst G (1 : Int32) d5_78 rfl (pc' := 79) rfl ?_
                refine GoKit.goto G d5_79 (by decide) (pc' := 83) rfl ?_
                refine GoKit.istoreN G d5_83 (Ls' := #[.val (.ref a), .val (.int (1 : Int32)), .val (.int (1 : Int32)), .val (.int ch)]) rfl (pc' := 84) rfl ?_
                refine GoKit.iinc G (1 : Int32) d5_84 rfl rfl (Ls' := #[.val (.ref a), .val (.int (1 : Int32)), .val (.int ((1 : Int32) + (1 : Int32))), .val (.int ch)]) rfl (pc' := 87) rfl ?_
                show Run _ _ _ _ _ _ _ _ _ _ _ _ _ _ _ _ _ _ _ _ _ (mkF m 87 #[.val (.ref a), .val (.int (1 : Int32)), .val (.int (2 : Int32)), .val (.int ch)] [])
                refine GoKit.goto G d5_87 (by decide) (pc' := 15) rfl ?_
                refine Run.mono (by decide) (by decide) (J2 _ _ _ K ?_ (Or.inr ⟨_, rfl, rfl⟩))
                exact Or.inr ⟨rfl, hT.trans (drop_step hch (by unfold tch; simp only [gt_iff_lt, ge_iff_le, ne_eq, Int32.lt_iff_toInt_lt, Int32.le_iff_toInt_le, ← Int32.toInt_inj, show (33 : Int32).toInt = 33 from rfl, show (35 : Int32).toInt = 35 from rfl, show (36 : Int32).toInt = 36 from rfl, show (37 : Int32).toInt = 37 from rfl, show (38 : Int32).toInt = 38 from rfl, show (39 : Int32).toInt = 39 from rfl, show (42 : Int32).toInt = 42 from rfl, show (43 : Int32).toInt = 43 from rfl, show (45 : Int32).toInt = 45 from rfl, show (46 : Int32).toInt = 46 from rfl, show (48 : Int32).toInt = 48 from rfl, show (57 : Int32).toInt = 57 from rfl, show (65 : Int32).toInt = 65 from rfl, show (90 : Int32).toInt = 90 from rfl, show (94 : Int32).toInt = 94 from rfl, show (95 : Int32).toInt = 95 from rfl, show (96 : Int32).toInt = 96 from rfl, show (97 : Int32).toInt = 97 from rfl, show (122 : Int32).toInt = 122 from rfl, show (124 : Int32).toInt = 124 from rfl, show (126 : Int32).toInt = 126 from rfl] at hb269 hb270 hb271 hb287; omega))⟩
              · refine GoKit.ldcStr G d5_69 rfl (wi hw 83 rfl) (wS hw) (by decide) (vs := [.int (33 : Int32), .int (35 : Int32), .int (36 : Int32), .int (37 : Int32), .int (38 : Int32), .int (39 : Int32), .int (42 : Int32), .int (43 : Int32), .int (45 : Int32), .int (46 : Int32), .int (94 : Int32), .int (95 : Int32), .int (96 : Int32), .int (124 : Int32), .int (126 : Int32)]) (z := (15 : Int32)) ⟨by decide +kernel, by decide +kernel⟩ (by decide) rfl (n := 60) (by decide +kernel) (by decide) (by decide) (by decide) (cells' := 4) (slots' := 128) rfl rfl (pc' := 71) rfl (fun a288 b289 k290 h297 E291 X292 FC293 FV294 A295 N296 => ?_)
                have S298 : Lat Z h297 a288 [(33 : Int32), (35 : Int32), (36 : Int32), (37 : Int32), (38 : Int32), (39 : Int32), (42 : Int32), (43 : Int32), (45 : Int32), (46 : Int32), (94 : Int32), (95 : Int32), (96 : Int32), (124 : Int32), (126 : Int32)] := latLit X292 FC293 FV294 A295 rfl (by decide +kernel) (by decide +kernel)
                have A299 : IA Z h297 b289 .byte (([(33 : Int32), (35 : Int32), (36 : Int32), (37 : Int32), (38 : Int32), (39 : Int32), (42 : Int32), (43 : Int32), (45 : Int32), (46 : Int32), (94 : Int32), (95 : Int32), (96 : Int32), (124 : Int32), (126 : Int32)] : List Int32).map fun c => c.toInt8.toInt32) := iaLit A295 rfl (by decide +kernel)
                refine GoKit.iloadN G d5_71 rfl (pc' := 72) rfl ?_
                refine GoKit.callVirtualP G d5_72 (wi hw 84 rfl) (wi hw 85 rfl) (wi hw 87 rfl) (wi hw 86 rfl) (wi hw 8 rfl) (wi hw 88 rfl) (by decide) S298.1 (W := 0) (argsL := [(.int ch)]) (rest := []) (con_idxL l hw (cs := litL) ch S298 HC) rfl (lenOf pd_4 rfl) rfl (by decide) (Nat.le_of_eq rfl) (by decide) (by decide) (by decide) (cells' := 4) (slots' := 128) rfl rfl (pc' := 75) rfl ?_
                show Run _ _ _ _ _ _ _ _ _ _ _ _ _ _ _ _ _ _ _ _ _ (mkF m 75 #[.val (.ref a), .val (.int (1 : Int32)), .val (.int (1 : Int32)), .val (.int ch)] [(.int (idxFrom litL ch 0))])
                refine GoKit.if_lt G d5_75 (by decide) (pt := 82) (pf := 78) rfl rfl (fun hb300 => ?_) (fun hb300 => ?_)
                · refine GoKit.iconst G (0 : Int32) d5_82 rfl (pc' := 83) rfl ?_
                  refine GoKit.istoreN G d5_83 (Ls' := #[.val (.ref a), .val (.int (0 : Int32)), .val (.int (1 : Int32)), .val (.int ch)]) rfl (pc' := 84) rfl ?_
                  refine GoKit.iinc G (1 : Int32) d5_84 rfl rfl (Ls' := #[.val (.ref a), .val (.int (0 : Int32)), .val (.int ((1 : Int32) + (1 : Int32))), .val (.int ch)]) rfl (pc' := 87) rfl ?_
                  show Run _ _ _ _ _ _ _ _ _ _ _ _ _ _ _ _ _ _ _ _ _ (mkF m 87 #[.val (.ref a), .val (.int (0 : Int32)), .val (.int (2 : Int32)), .val (.int ch)] [])
                  refine GoKit.goto G d5_87 (by decide) (pc' := 15) rfl ?_
                  have KP301 : Keep h h297 [] := ((Keep.refl h []).ext E291)
                  refine Run.mono (by decide) (by decide) (J2 _ _ _ (K.trans KP301 all0) ?_ (Or.inr ⟨_, rfl, rfl⟩))
                  exact Or.inl ⟨rfl, fun q => (show ¬ tch ch from (by have hn := lit_no (fun q => idx_some lit_sm q hb300); unfold tch; simp only [gt_iff_lt, ge_iff_le, ne_eq, Int32.lt_iff_toInt_lt, Int32.le_iff_toInt_le, ← Int32.toInt_inj, show (33 : Int32).toInt = 33 from rfl, show (35 : Int32).toInt = 35 from rfl, show (36 : Int32).toInt = 36 from rfl, show (37 : Int32).toInt = 37 from rfl, show (38 : Int32).toInt = 38 from rfl, show (39 : Int32).toInt = 39 from rfl, show (42 : Int32).toInt = 42 from rfl, show (43 : Int32).toInt = 43 from rfl, show (45 : Int32).toInt = 45 from rfl, show (46 : Int32).toInt = 46 from rfl, show (48 : Int32).toInt = 48 from rfl, show (57 : Int32).toInt = 57 from rfl, show (65 : Int32).toInt = 65 from rfl, show (90 : Int32).toInt = 90 from rfl, show (94 : Int32).toInt = 94 from rfl, show (95 : Int32).toInt = 95 from rfl, show (96 : Int32).toInt = 96 from rfl, show (97 : Int32).toInt = 97 from rfl, show (122 : Int32).toInt = 122 from rfl, show (124 : Int32).toInt = 124 from rfl, show (126 : Int32).toInt = 126 from rfl] at hb269 hb270 hb271 hb287; omega)) (hT.mp q ch (mem_drop hch))⟩
                · refine GoKit.iconst G (1 : Int32) d5_78 rfl (pc' := 79) rfl ?_
                  refine GoKit.goto G d5_79 (by decide) (pc' := 83) rfl ?_
                  refine GoKit.istoreN G d5_83 (Ls' := #[.val (.ref a), .val (.int (1 : Int32)), .val (.int (1 : Int32)), .val (.int ch)]) rfl (pc' := 84) rfl ?_
                  refine GoKit.iinc G (1 : Int32) d5_84 rfl rfl (Ls' := #[.val (.ref a), .val (.int (1 : Int32)), .val (.int ((1 : Int32) + (1 : Int32))), .val (.int ch)]) rfl (pc' := 87) rfl ?_
                  show Run _ _ _ _ _ _ _ _ _ _ _ _ _ _ _ _ _ _ _ _ _ (mkF m 87 #[.val (.ref a), .val (.int (1 : Int32)), .val (.int (2 : Int32)), .val (.int ch)] [])
                  refine GoKit.goto G d5_87 (by decide) (pc' := 15) rfl ?_
                  have KP302 : Keep h h297 [] := ((Keep.refl h []).ext E291)
                  refine Run.mono (by decide) (by decide) (J2 _ _ _ (K.trans KP302 all0) ?_ (Or.inr ⟨_, rfl, rfl⟩))
                  exact Or.inr ⟨rfl, hT.trans (drop_step hch (lit_tch (Classical.byContradiction fun q => hb300 (by rw [idx_none q]; decide))))⟩
          · refine GoKit.iloadN G d5_51 rfl (pc' := 52) rfl ?_
            refine GoKit.bipush G (90 : Int32) d5_52 rfl (pc' := 54) rfl ?_
            refine GoKit.icmp_le G d5_54 (by decide) (pt := 78) (pf := 57) rfl rfl (fun hb303 => ?_) (fun hb303 => ?_)
            · refine GoKit.iconst G (1 : Int32) d5_78 rfl (pc' := 79) rfl ?_
              refine GoKit.goto G d5_79 (by decide) (pc' := 83) rfl ?_
              refine GoKit.istoreN G d5_83 (Ls' := #[.val (.ref a), .val (.int (1 : Int32)), .val (.int (1 : Int32)), .val (.int ch)]) rfl (pc' := 84) rfl ?_
              refine GoKit.iinc G (1 : Int32) d5_84 rfl rfl (Ls' := #[.val (.ref a), .val (.int (1 : Int32)), .val (.int ((1 : Int32) + (1 : Int32))), .val (.int ch)]) rfl (pc' := 87) rfl ?_
              show Run _ _ _ _ _ _ _ _ _ _ _ _ _ _ _ _ _ _ _ _ _ (mkF m 87 #[.val (.ref a), .val (.int (1 : Int32)), .val (.int (2 : Int32)), .val (.int ch)] [])
              refine GoKit.goto G d5_87 (by decide) (pc' := 15) rfl ?_
              refine Run.mono (by decide) (by decide) (J2 _ _ _ K ?_ (Or.inr ⟨_, rfl, rfl⟩))
              exact Or.inr ⟨rfl, hT.trans (drop_step hch (by unfold tch; simp only [gt_iff_lt, ge_iff_le, ne_eq, Int32.lt_iff_toInt_lt, Int32.le_iff_toInt_le, ← Int32.toInt_inj, show (33 : Int32).toInt = 33 from rfl, show (35 : Int32).toInt = 35 from rfl, show (36 : Int32).toInt = 36 from rfl, show (37 : Int32).toInt = 37 from rfl, show (38 : Int32).toInt = 38 from rfl, show (39 : Int32).toInt = 39 from rfl, show (42 : Int32).toInt = 42 from rfl, show (43 : Int32).toInt = 43 from rfl, show (45 : Int32).toInt = 45 from rfl, show (46 : Int32).toInt = 46 from rfl, show (48 : Int32).toInt = 48 from rfl, show (57 : Int32).toInt = 57 from rfl, show (65 : Int32).toInt = 65 from rfl, show (90 : Int32).toInt = 90 from rfl, show (94 : Int32).toInt = 94 from rfl, show (95 : Int32).toInt = 95 from rfl, show (96 : Int32).toInt = 96 from rfl, show (97 : Int32).toInt = 97 from rfl, show (122 : Int32).toInt = 122 from rfl, show (124 : Int32).toInt = 124 from rfl, show (126 : Int32).toInt = 126 from rfl] at hb269 hb270 hb303; omega))⟩
            · refine GoKit.iloadN G d5_57 rfl (pc' := 58) rfl ?_
              refine GoKit.bipush G (48 : Int32) d5_58 rfl (pc' := 60) rfl ?_
              refine GoKit.icmp_lt G d5_60 (by decide) (pt := 69) (pf := 63) rfl rfl (fun hb304 => ?_) (fun hb304 => ?_)
              · refine GoKit.ldcStr G d5_69 rfl (wi hw 83 rfl) (wS hw) (by decide) (vs := [.int (33 : Int32), .int (35 : Int32), .int (36 : Int32), .int (37 : Int32), .int (38 : Int32), .int (39 : Int32), .int (42 : Int32), .int (43 : Int32), .int (45 : Int32), .int (46 : Int32), .int (94 : Int32), .int (95 : Int32), .int (96 : Int32), .int (124 : Int32), .int (126 : Int32)]) (z := (15 : Int32)) ⟨by decide +kernel, by decide +kernel⟩ (by decide) rfl (n := 60) (by decide +kernel) (by decide) (by decide) (by decide) (cells' := 4) (slots' := 128) rfl rfl (pc' := 71) rfl (fun a305 b306 k307 h314 E308 X309 FC310 FV311 A312 N313 => ?_)
                have S315 : Lat Z h314 a305 [(33 : Int32), (35 : Int32), (36 : Int32), (37 : Int32), (38 : Int32), (39 : Int32), (42 : Int32), (43 : Int32), (45 : Int32), (46 : Int32), (94 : Int32), (95 : Int32), (96 : Int32), (124 : Int32), (126 : Int32)] := latLit X309 FC310 FV311 A312 rfl (by decide +kernel) (by decide +kernel)
                have A316 : IA Z h314 b306 .byte (([(33 : Int32), (35 : Int32), (36 : Int32), (37 : Int32), (38 : Int32), (39 : Int32), (42 : Int32), (43 : Int32), (45 : Int32), (46 : Int32), (94 : Int32), (95 : Int32), (96 : Int32), (124 : Int32), (126 : Int32)] : List Int32).map fun c => c.toInt8.toInt32) := iaLit A312 rfl (by decide +kernel)
                refine GoKit.iloadN G d5_71 rfl (pc' := 72) rfl ?_
                refine GoKit.callVirtualP G d5_72 (wi hw 84 rfl) (wi hw 85 rfl) (wi hw 87 rfl) (wi hw 86 rfl) (wi hw 8 rfl) (wi hw 88 rfl) (by decide) S315.1 (W := 0) (argsL := [(.int ch)]) (rest := []) (con_idxL l hw (cs := litL) ch S315 HC) rfl (lenOf pd_4 rfl) rfl (by decide) (Nat.le_of_eq rfl) (by decide) (by decide) (by decide) (cells' := 4) (slots' := 128) rfl rfl (pc' := 75) rfl ?_
                show Run _ _ _ _ _ _ _ _ _ _ _ _ _ _ _ _ _ _ _ _ _ (mkF m 75 #[.val (.ref a), .val (.int (1 : Int32)), .val (.int (1 : Int32)), .val (.int ch)] [(.int (idxFrom litL ch 0))])
                refine GoKit.if_lt G d5_75 (by decide) (pt := 82) (pf := 78) rfl rfl (fun hb317 => ?_) (fun hb317 => ?_)
                · refine GoKit.iconst G (0 : Int32) d5_82 rfl (pc' := 83) rfl ?_
                  refine GoKit.istoreN G d5_83 (Ls' := #[.val (.ref a), .val (.int (0 : Int32)), .val (.int (1 : Int32)), .val (.int ch)]) rfl (pc' := 84) rfl ?_
                  refine GoKit.iinc G (1 : Int32) d5_84 rfl rfl (Ls' := #[.val (.ref a), .val (.int (0 : Int32)), .val (.int ((1 : Int32) + (1 : Int32))), .val (.int ch)]) rfl (pc' := 87) rfl ?_
                  show Run _ _ _ _ _ _ _ _ _ _ _ _ _ _ _ _ _ _ _ _ _ (mkF m 87 #[.val (.ref a), .val (.int (0 : Int32)), .val (.int (2 : Int32)), .val (.int ch)] [])
                  refine GoKit.goto G d5_87 (by decide) (pc' := 15) rfl ?_
                  have KP318 : Keep h h314 [] := ((Keep.refl h []).ext E308)
                  refine Run.mono (by decide) (by decide) (J2 _ _ _ (K.trans KP318 all0) ?_ (Or.inr ⟨_, rfl, rfl⟩))
                  exact Or.inl ⟨rfl, fun q => (show ¬ tch ch from (by have hn := lit_no (fun q => idx_some lit_sm q hb317); unfold tch; simp only [gt_iff_lt, ge_iff_le, ne_eq, Int32.lt_iff_toInt_lt, Int32.le_iff_toInt_le, ← Int32.toInt_inj, show (33 : Int32).toInt = 33 from rfl, show (35 : Int32).toInt = 35 from rfl, show (36 : Int32).toInt = 36 from rfl, show (37 : Int32).toInt = 37 from rfl, show (38 : Int32).toInt = 38 from rfl, show (39 : Int32).toInt = 39 from rfl, show (42 : Int32).toInt = 42 from rfl, show (43 : Int32).toInt = 43 from rfl, show (45 : Int32).toInt = 45 from rfl, show (46 : Int32).toInt = 46 from rfl, show (48 : Int32).toInt = 48 from rfl, show (57 : Int32).toInt = 57 from rfl, show (65 : Int32).toInt = 65 from rfl, show (90 : Int32).toInt = 90 from rfl, show (94 : Int32).toInt = 94 from rfl, show (95 : Int32).toInt = 95 from rfl, show (96 : Int32).toInt = 96 from rfl, show (97 : Int32).toInt = 97 from rfl, show (122 : Int32).toInt = 122 from rfl, show (124 : Int32).toInt = 124 from rfl, show (126 : Int32).toInt = 126 from rfl] at hb269 hb270 hb303 hb304; omega)) (hT.mp q ch (mem_drop hch))⟩
                · refine GoKit.iconst G (1 : Int32) d5_78 rfl (pc' := 79) rfl ?_
                  refine GoKit.goto G d5_79 (by decide) (pc' := 83) rfl ?_
                  refine GoKit.istoreN G d5_83 (Ls' := #[.val (.ref a), .val (.int (1 : Int32)), .val (.int (1 : Int32)), .val (.int ch)]) rfl (pc' := 84) rfl ?_
                  refine GoKit.iinc G (1 : Int32) d5_84 rfl rfl (Ls' := #[.val (.ref a), .val (.int (1 : Int32)), .val (.int ((1 : Int32) + (1 : Int32))), .val (.int ch)]) rfl (pc' := 87) rfl ?_
                  show Run _ _ _ _ _ _ _ _ _ _ _ _ _ _ _ _ _ _ _ _ _ (mkF m 87 #[.val (.ref a), .val (.int (1 : Int32)), .val (.int (2 : Int32)), .val (.int ch)] [])
                  refine GoKit.goto G d5_87 (by decide) (pc' := 15) rfl ?_
                  have KP319 : Keep h h314 [] := ((Keep.refl h []).ext E308)
                  refine Run.mono (by decide) (by decide) (J2 _ _ _ (K.trans KP319 all0) ?_ (Or.inr ⟨_, rfl, rfl⟩))
                  exact Or.inr ⟨rfl, hT.trans (drop_step hch (lit_tch (Classical.byContradiction fun q => hb317 (by rw [idx_none q]; decide))))⟩
              · refine GoKit.iloadN G d5_63 rfl (pc' := 64) rfl ?_
                refine GoKit.bipush G (57 : Int32) d5_64 rfl (pc' := 66) rfl ?_
                refine GoKit.icmp_le G d5_66 (by decide) (pt := 78) (pf := 69) rfl rfl (fun hb320 => ?_) (fun hb320 => ?_)
                · refine GoKit.iconst G (1 : Int32) d5_78 rfl (pc' := 79) rfl ?_
                  refine GoKit.goto G d5_79 (by decide) (pc' := 83) rfl ?_
                  refine GoKit.istoreN G d5_83 (Ls' := #[.val (.ref a), .val (.int (1 : Int32)), .val (.int (1 : Int32)), .val (.int ch)]) rfl (pc' := 84) rfl ?_
                  refine GoKit.iinc G (1 : Int32) d5_84 rfl rfl (Ls' := #[.val (.ref a), .val (.int (1 : Int32)), .val (.int ((1 : Int32) + (1 : Int32))), .val (.int ch)]) rfl (pc' := 87) rfl ?_
                  show Run _ _ _ _ _ _ _ _ _ _ _ _ _ _ _ _ _ _ _ _ _ (mkF m 87 #[.val (.ref a), .val (.int (1 : Int32)), .val (.int (2 : Int32)), .val (.int ch)] [])
                  refine GoKit.goto G d5_87 (by decide) (pc' := 15) rfl ?_
                  refine Run.mono (by decide) (by decide) (J2 _ _ _ K ?_ (Or.inr ⟨_, rfl, rfl⟩))
                  exact Or.inr ⟨rfl, hT.trans (drop_step hch (by unfold tch; simp only [gt_iff_lt, ge_iff_le, ne_eq, Int32.lt_iff_toInt_lt, Int32.le_iff_toInt_le, ← Int32.toInt_inj, show (33 : Int32).toInt = 33 from rfl, show (35 : Int32).toInt = 35 from rfl, show (36 : Int32).toInt = 36 from rfl, show (37 : Int32).toInt = 37 from rfl, show (38 : Int32).toInt = 38 from rfl, show (39 : Int32).toInt = 39 from rfl, show (42 : Int32).toInt = 42 from rfl, show (43 : Int32).toInt = 43 from rfl, show (45 : Int32).toInt = 45 from rfl, show (46 : Int32).toInt = 46 from rfl, show (48 : Int32).toInt = 48 from rfl, show (57 : Int32).toInt = 57 from rfl, show (65 : Int32).toInt = 65 from rfl, show (90 : Int32).toInt = 90 from rfl, show (94 : Int32).toInt = 94 from rfl, show (95 : Int32).toInt = 95 from rfl, show (96 : Int32).toInt = 96 from rfl, show (97 : Int32).toInt = 97 from rfl, show (122 : Int32).toInt = 122 from rfl, show (124 : Int32).toInt = 124 from rfl, show (126 : Int32).toInt = 126 from rfl] at hb269 hb270 hb303 hb304 hb320; omega))⟩
                · refine GoKit.ldcStr G d5_69 rfl (wi hw 83 rfl) (wS hw) (by decide) (vs := [.int (33 : Int32), .int (35 : Int32), .int (36 : Int32), .int (37 : Int32), .int (38 : Int32), .int (39 : Int32), .int (42 : Int32), .int (43 : Int32), .int (45 : Int32), .int (46 : Int32), .int (94 : Int32), .int (95 : Int32), .int (96 : Int32), .int (124 : Int32), .int (126 : Int32)]) (z := (15 : Int32)) ⟨by decide +kernel, by decide +kernel⟩ (by decide) rfl (n := 60) (by decide +kernel) (by decide) (by decide) (by decide) (cells' := 4) (slots' := 128) rfl rfl (pc' := 71) rfl (fun a321 b322 k323 h330 E324 X325 FC326 FV327 A328 N329 => ?_)
                  have S331 : Lat Z h330 a321 [(33 : Int32), (35 : Int32), (36 : Int32), (37 : Int32), (38 : Int32), (39 : Int32), (42 : Int32), (43 : Int32), (45 : Int32), (46 : Int32), (94 : Int32), (95 : Int32), (96 : Int32), (124 : Int32), (126 : Int32)] := latLit X325 FC326 FV327 A328 rfl (by decide +kernel) (by decide +kernel)
                  have A332 : IA Z h330 b322 .byte (([(33 : Int32), (35 : Int32), (36 : Int32), (37 : Int32), (38 : Int32), (39 : Int32), (42 : Int32), (43 : Int32), (45 : Int32), (46 : Int32), (94 : Int32), (95 : Int32), (96 : Int32), (124 : Int32), (126 : Int32)] : List Int32).map fun c => c.toInt8.toInt32) := iaLit A328 rfl (by decide +kernel)
                  refine GoKit.iloadN G d5_71 rfl (pc' := 72) rfl ?_
                  refine GoKit.callVirtualP G d5_72 (wi hw 84 rfl) (wi hw 85 rfl) (wi hw 87 rfl) (wi hw 86 rfl) (wi hw 8 rfl) (wi hw 88 rfl) (by decide) S331.1 (W := 0) (argsL := [(.int ch)]) (rest := []) (con_idxL l hw (cs := litL) ch S331 HC) rfl (lenOf pd_4 rfl) rfl (by decide) (Nat.le_of_eq rfl) (by decide) (by decide) (by decide) (cells' := 4) (slots' := 128) rfl rfl (pc' := 75) rfl ?_
                  show Run _ _ _ _ _ _ _ _ _ _ _ _ _ _ _ _ _ _ _ _ _ (mkF m 75 #[.val (.ref a), .val (.int (1 : Int32)), .val (.int (1 : Int32)), .val (.int ch)] [(.int (idxFrom litL ch 0))])
                  refine GoKit.if_lt G d5_75 (by decide) (pt := 82) (pf := 78) rfl rfl (fun hb333 => ?_) (fun hb333 => ?_)
                  · refine GoKit.iconst G (0 : Int32) d5_82 rfl (pc' := 83) rfl ?_
                    refine GoKit.istoreN G d5_83 (Ls' := #[.val (.ref a), .val (.int (0 : Int32)), .val (.int (1 : Int32)), .val (.int ch)]) rfl (pc' := 84) rfl ?_
                    refine GoKit.iinc G (1 : Int32) d5_84 rfl rfl (Ls' := #[.val (.ref a), .val (.int (0 : Int32)), .val (.int ((1 : Int32) + (1 : Int32))), .val (.int ch)]) rfl (pc' := 87) rfl ?_
                    show Run _ _ _ _ _ _ _ _ _ _ _ _ _ _ _ _ _ _ _ _ _ (mkF m 87 #[.val (.ref a), .val (.int (0 : Int32)), .val (.int (2 : Int32)), .val (.int ch)] [])
                    refine GoKit.goto G d5_87 (by decide) (pc' := 15) rfl ?_
                    have KP334 : Keep h h330 [] := ((Keep.refl h []).ext E324)
                    refine Run.mono (by decide) (by decide) (J2 _ _ _ (K.trans KP334 all0) ?_ (Or.inr ⟨_, rfl, rfl⟩))
                    exact Or.inl ⟨rfl, fun q => (show ¬ tch ch from (by have hn := lit_no (fun q => idx_some lit_sm q hb333); unfold tch; simp only [gt_iff_lt, ge_iff_le, ne_eq, Int32.lt_iff_toInt_lt, Int32.le_iff_toInt_le, ← Int32.toInt_inj, show (33 : Int32).toInt = 33 from rfl, show (35 : Int32).toInt = 35 from rfl, show (36 : Int32).toInt = 36 from rfl, show (37 : Int32).toInt = 37 from rfl, show (38 : Int32).toInt = 38 from rfl, show (39 : Int32).toInt = 39 from rfl, show (42 : Int32).toInt = 42 from rfl, show (43 : Int32).toInt = 43 from rfl, show (45 : Int32).toInt = 45 from rfl, show (46 : Int32).toInt = 46 from rfl, show (48 : Int32).toInt = 48 from rfl, show (57 : Int32).toInt = 57 from rfl, show (65 : Int32).toInt = 65 from rfl, show (90 : Int32).toInt = 90 from rfl, show (94 : Int32).toInt = 94 from rfl, show (95 : Int32).toInt = 95 from rfl, show (96 : Int32).toInt = 96 from rfl, show (97 : Int32).toInt = 97 from rfl, show (122 : Int32).toInt = 122 from rfl, show (124 : Int32).toInt = 124 from rfl, show (126 : Int32).toInt = 126 from rfl] at hb269 hb270 hb303 hb304 hb320; omega)) (hT.mp q ch (mem_drop hch))⟩
                  · refine GoKit.iconst G (1 : Int32) d5_78 rfl (pc' := 79) rfl ?_
                    refine GoKit.goto G d5_79 (by decide) (pc' := 83) rfl ?_
                    refine GoKit.istoreN G d5_83 (Ls' := #[.val (.ref a), .val (.int (1 : Int32)), .val (.int (1 : Int32)), .val (.int ch)]) rfl (pc' := 84) rfl ?_
                    refine GoKit.iinc G (1 : Int32) d5_84 rfl rfl (Ls' := #[.val (.ref a), .val (.int (1 : Int32)), .val (.int ((1 : Int32) + (1 : Int32))), .val (.int ch)]) rfl (pc' := 87) rfl ?_
                    show Run _ _ _ _ _ _ _ _ _ _ _ _ _ _ _ _ _ _ _ _ _ (mkF m 87 #[.val (.ref a), .val (.int (1 : Int32)), .val (.int (2 : Int32)), .val (.int ch)] [])
                    refine GoKit.goto G d5_87 (by decide) (pc' := 15) rfl ?_
                    have KP335 : Keep h h330 [] := ((Keep.refl h []).ext E324)
                    refine Run.mono (by decide) (by decide) (J2 _ _ _ (K.trans KP335 all0) ?_ (Or.inr ⟨_, rfl, rfl⟩))
                    exact Or.inr ⟨rfl, hT.trans (drop_step hch (lit_tch (Classical.byContradiction fun q => hb333 (by rw [idx_none q]; decide))))⟩
        · refine GoKit.iloadN G d5_39 rfl (pc' := 40) rfl ?_
          refine GoKit.bipush G (122 : Int32) d5_40 rfl (pc' := 42) rfl ?_
          refine GoKit.icmp_le G d5_42 (by decide) (pt := 78) (pf := 45) rfl rfl (fun hb336 => ?_) (fun hb336 => ?_)
          · refine GoKit.iconst G (1 : Int32) d5_78 rfl (pc' := 79) rfl ?_
            refine GoKit.goto G d5_79 (by decide) (pc' := 83) rfl ?_
            refine GoKit.istoreN G d5_83 (Ls' := #[.val (.ref a), .val (.int (1 : Int32)), .val (.int (1 : Int32)), .val (.int ch)]) rfl (pc' := 84) rfl ?_
            refine GoKit.iinc G (1 : Int32) d5_84 rfl rfl (Ls' := #[.val (.ref a), .val (.int (1 : Int32)), .val (.int ((1 : Int32) + (1 : Int32))), .val (.int ch)]) rfl (pc' := 87) rfl ?_
            show Run _ _ _ _ _ _ _ _ _ _ _ _ _ _ _ _ _ _ _ _ _ (mkF m 87 #[.val (.ref a), .val (.int (1 : Int32)), .val (.int (2 : Int32)), .val (.int ch)] [])
            refine GoKit.goto G d5_87 (by decide) (pc' := 15) rfl ?_
            refine Run.mono (by decide) (by decide) (J2 _ _ _ K ?_ (Or.inr ⟨_, rfl, rfl⟩))
            exact Or.inr ⟨rfl, hT.trans (drop_step hch (by unfold tch; simp only [gt_iff_lt, ge_iff_le, ne_eq, Int32.lt_iff_toInt_lt, Int32.le_iff_toInt_le, ← Int32.toInt_inj, show (33 : Int32).toInt = 33 from rfl, show (35 : Int32).toInt = 35 from rfl, show (36 : Int32).toInt = 36 from rfl, show (37 : Int32).toInt = 37 from rfl, show (38 : Int32).toInt = 38 from rfl, show (39 : Int32).toInt = 39 from rfl, show (42 : Int32).toInt = 42 from rfl, show (43 : Int32).toInt = 43 from rfl, show (45 : Int32).toInt = 45 from rfl, show (46 : Int32).toInt = 46 from rfl, show (48 : Int32).toInt = 48 from rfl, show (57 : Int32).toInt = 57 from rfl, show (65 : Int32).toInt = 65 from rfl, show (90 : Int32).toInt = 90 from rfl, show (94 : Int32).toInt = 94 from rfl, show (95 : Int32).toInt = 95 from rfl, show (96 : Int32).toInt = 96 from rfl, show (97 : Int32).toInt = 97 from rfl, show (122 : Int32).toInt = 122 from rfl, show (124 : Int32).toInt = 124 from rfl, show (126 : Int32).toInt = 126 from rfl] at hb269 hb336; omega))⟩
          · refine GoKit.iloadN G d5_45 rfl (pc' := 46) rfl ?_
            refine GoKit.bipush G (65 : Int32) d5_46 rfl (pc' := 48) rfl ?_
            refine GoKit.icmp_lt G d5_48 (by decide) (pt := 57) (pf := 51) rfl rfl (fun hb337 => ?_) (fun hb337 => ?_)
            · refine GoKit.iloadN G d5_57 rfl (pc' := 58) rfl ?_
              refine GoKit.bipush G (48 : Int32) d5_58 rfl (pc' := 60) rfl ?_
              refine GoKit.icmp_lt G d5_60 (by decide) (pt := 69) (pf := 63) rfl rfl (fun hb338 => ?_) (fun hb338 => ?_)
              · refine GoKit.ldcStr G d5_69 rfl (wi hw 83 rfl) (wS hw) (by decide) (vs := [.int (33 : Int32), .int (35 : Int32), .int (36 : Int32), .int (37 : Int32), .int (38 : Int32), .int (39 : Int32), .int (42 : Int32), .int (43 : Int32), .int (45 : Int32), .int (46 : Int32), .int (94 : Int32), .int (95 : Int32), .int (96 : Int32), .int (124 : Int32), .int (126 : Int32)]) (z := (15 : Int32)) ⟨by decide +kernel, by decide +kernel⟩ (by decide) rfl (n := 60) (by decide +kernel) (by decide) (by decide) (by decide) (cells' := 4) (slots' := 128) rfl rfl (pc' := 71) rfl (fun a339 b340 k341 h348 E342 X343 FC344 FV345 A346 N347 => ?_)
                have S349 : Lat Z h348 a339 [(33 : Int32), (35 : Int32), (36 : Int32), (37 : Int32), (38 : Int32), (39 : Int32), (42 : Int32), (43 : Int32), (45 : Int32), (46 : Int32), (94 : Int32), (95 : Int32), (96 : Int32), (124 : Int32), (126 : Int32)] := latLit X343 FC344 FV345 A346 rfl (by decide +kernel) (by decide +kernel)
                have A350 : IA Z h348 b340 .byte (([(33 : Int32), (35 : Int32), (36 : Int32), (37 : Int32), (38 : Int32), (39 : Int32), (42 : Int32), (43 : Int32), (45 : Int32), (46 : Int32), (94 : Int32), (95 : Int32), (96 : Int32), (124 : Int32), (126 : Int32)] : List Int32).map fun c => c.toInt8.toInt32) := iaLit A346 rfl (by decide +kernel)
                refine GoKit.iloadN G d5_71 rfl (pc' := 72) rfl ?_
                refine GoKit.callVirtualP G d5_72 (wi hw 84 rfl) (wi hw 85 rfl) (wi hw 87 rfl) (wi hw 86 rfl) (wi hw 8 rfl) (wi hw 88 rfl) (by decide) S349.1 (W := 0) (argsL := [(.int ch)]) (rest := []) (con_idxL l hw (cs := litL) ch S349 HC) rfl (lenOf pd_4 rfl) rfl (by decide) (Nat.le_of_eq rfl) (by decide) (by decide) (by decide) (cells' := 4) (slots' := 128) rfl rfl (pc' := 75) rfl ?_
                show Run _ _ _ _ _ _ _ _ _ _ _ _ _ _ _ _ _ _ _ _ _ (mkF m 75 #[.val (.ref a), .val (.int (1 : Int32)), .val (.int (1 : Int32)), .val (.int ch)] [(.int (idxFrom litL ch 0))])
                refine GoKit.if_lt G d5_75 (by decide) (pt := 82) (pf := 78) rfl rfl (fun hb351 => ?_) (fun hb351 => ?_)
                · refine GoKit.iconst G (0 : Int32) d5_82 rfl (pc' := 83) rfl ?_
                  refine GoKit.istoreN G d5_83 (Ls' := #[.val (.ref a), .val (.int (0 : Int32)), .val (.int (1 : Int32)), .val (.int ch)]) rfl (pc' := 84) rfl ?_
                  refine GoKit.iinc G (1 : Int32) d5_84 rfl rfl (Ls' := #[.val (.ref a), .val (.int (0 : Int32)), .val (.int ((1 : Int32) + (1 : Int32))), .val (.int ch)]) rfl (pc' := 87) rfl ?_
                  show Run _ _ _ _ _ _ _ _ _ _ _ _ _ _ _ _ _ _ _ _ _ (mkF m 87 #[.val (.ref a), .val (.int (0 : Int32)), .val (.int (2 : Int32)), .val (.int ch)] [])
                  refine GoKit.goto G d5_87 (by decide) (pc' := 15) rfl ?_
                  have KP352 : Keep h h348 [] := ((Keep.refl h []).ext E342)
                  refine Run.mono (by decide) (by decide) (J2 _ _ _ (K.trans KP352 all0) ?_ (Or.inr ⟨_, rfl, rfl⟩))
                  exact Or.inl ⟨rfl, fun q => (show ¬ tch ch from (by have hn := lit_no (fun q => idx_some lit_sm q hb351); unfold tch; simp only [gt_iff_lt, ge_iff_le, ne_eq, Int32.lt_iff_toInt_lt, Int32.le_iff_toInt_le, ← Int32.toInt_inj, show (33 : Int32).toInt = 33 from rfl, show (35 : Int32).toInt = 35 from rfl, show (36 : Int32).toInt = 36 from rfl, show (37 : Int32).toInt = 37 from rfl, show (38 : Int32).toInt = 38 from rfl, show (39 : Int32).toInt = 39 from rfl, show (42 : Int32).toInt = 42 from rfl, show (43 : Int32).toInt = 43 from rfl, show (45 : Int32).toInt = 45 from rfl, show (46 : Int32).toInt = 46 from rfl, show (48 : Int32).toInt = 48 from rfl, show (57 : Int32).toInt = 57 from rfl, show (65 : Int32).toInt = 65 from rfl, show (90 : Int32).toInt = 90 from rfl, show (94 : Int32).toInt = 94 from rfl, show (95 : Int32).toInt = 95 from rfl, show (96 : Int32).toInt = 96 from rfl, show (97 : Int32).toInt = 97 from rfl, show (122 : Int32).toInt = 122 from rfl, show (124 : Int32).toInt = 124 from rfl, show (126 : Int32).toInt = 126 from rfl] at hb269 hb336 hb337 hb338; omega)) (hT.mp q ch (mem_drop hch))⟩
                · refine GoKit.iconst G (1 : Int32) d5_78 rfl (pc' := 79) rfl ?_
                  refine GoKit.goto G d5_79 (by decide) (pc' := 83) rfl ?_
                  refine GoKit.istoreN G d5_83 (Ls' := #[.val (.ref a), .val (.int (1 : Int32)), .val (.int (1 : Int32)), .val (.int ch)]) rfl (pc' := 84) rfl ?_
                  refine GoKit.iinc G (1 : Int32) d5_84 rfl rfl (Ls' := #[.val (.ref a), .val (.int (1 : Int32)), .val (.int ((1 : Int32) + (1 : Int32))), .val (.int ch)]) rfl (pc' := 87) rfl ?_
                  show Run _ _ _ _ _ _ _ _ _ _ _ _ _ _ _ _ _ _ _ _ _ (mkF m 87 #[.val (.ref a), .val (.int (1 : Int32)), .val (.int (2 : Int32)), .val (.int ch)] [])
                  refine GoKit.goto G d5_87 (by decide) (pc' := 15) rfl ?_
                  have KP353 : Keep h h348 [] := ((Keep.refl h []).ext E342)
                  refine Run.mono (by decide) (by decide) (J2 _ _ _ (K.trans KP353 all0) ?_ (Or.inr ⟨_, rfl, rfl⟩))
                  exact Or.inr ⟨rfl, hT.trans (drop_step hch (lit_tch (Classical.byContradiction fun q => hb351 (by rw [idx_none q]; decide))))⟩
              · refine GoKit.iloadN G d5_63 rfl (pc' := 64) rfl ?_
                refine GoKit.bipush G (57 : Int32) d5_64 rfl (pc' := 66) rfl ?_
                refine GoKit.icmp_le G d5_66 (by decide) (pt := 78) (pf := 69) rfl rfl (fun hb354 => ?_) (fun hb354 => ?_)
                · refine GoKit.iconst G (1 : Int32) d5_78 rfl (pc' := 79) rfl ?_
                  refine GoKit.goto G d5_79 (by decide) (pc' := 83) rfl ?_
                  refine GoKit.istoreN G d5_83 (Ls' := #[.val (.ref a), .val (.int (1 : Int32)), .val (.int (1 : Int32)), .val (.int ch)]) rfl (pc' := 84) rfl ?_
                  refine GoKit.iinc G (1 : Int32) d5_84 rfl rfl (Ls' := #[.val (.ref a), .val (.int (1 : Int32)), .val (.int ((1 : Int32) + (1 : Int32))), .val (.int ch)]) rfl (pc' := 87) rfl ?_
                  show Run _ _ _ _ _ _ _ _ _ _ _ _ _ _ _ _ _ _ _ _ _ (mkF m 87 #[.val (.ref a), .val (.int (1 : Int32)), .val (.int (2 : Int32)), .val (.int ch)] [])
                  refine GoKit.goto G d5_87 (by decide) (pc' := 15) rfl ?_
                  refine Run.mono (by decide) (by decide) (J2 _ _ _ K ?_ (Or.inr ⟨_, rfl, rfl⟩))
                  exact Or.inr ⟨rfl, hT.trans (drop_step hch (by unfold tch; simp only [gt_iff_lt, ge_iff_le, ne_eq, Int32.lt_iff_toInt_lt, Int32.le_iff_toInt_le, ← Int32.toInt_inj, show (33 : Int32).toInt = 33 from rfl, show (35 : Int32).toInt = 35 from rfl, show (36 : Int32).toInt = 36 from rfl, show (37 : Int32).toInt = 37 from rfl, show (38 : Int32).toInt = 38 from rfl, show (39 : Int32).toInt = 39 from rfl, show (42 : Int32).toInt = 42 from rfl, show (43 : Int32).toInt = 43 from rfl, show (45 : Int32).toInt = 45 from rfl, show (46 : Int32).toInt = 46 from rfl, show (48 : Int32).toInt = 48 from rfl, show (57 : Int32).toInt = 57 from rfl, show (65 : Int32).toInt = 65 from rfl, show (90 : Int32).toInt = 90 from rfl, show (94 : Int32).toInt = 94 from rfl, show (95 : Int32).toInt = 95 from rfl, show (96 : Int32).toInt = 96 from rfl, show (97 : Int32).toInt = 97 from rfl, show (122 : Int32).toInt = 122 from rfl, show (124 : Int32).toInt = 124 from rfl, show (126 : Int32).toInt = 126 from rfl] at hb269 hb336 hb337 hb338 hb354; omega))⟩
                · refine GoKit.ldcStr G d5_69 rfl (wi hw 83 rfl) (wS hw) (by decide) (vs := [.int (33 : Int32), .int (35 : Int32), .int (36 : Int32), .int (37 : Int32), .int (38 : Int32), .int (39 : Int32), .int (42 : Int32), .int (43 : Int32), .int (45 : Int32), .int (46 : Int32), .int (94 : Int32), .int (95 : Int32), .int (96 : Int32), .int (124 : Int32), .int (126 : Int32)]) (z := (15 : Int32)) ⟨by decide +kernel, by decide +kernel⟩ (by decide) rfl (n := 60) (by decide +kernel) (by decide) (by decide) (by decide) (cells' := 4) (slots' := 128) rfl rfl (pc' := 71) rfl (fun a355 b356 k357 h364 E358 X359 FC360 FV361 A362 N363 => ?_)
                  have S365 : Lat Z h364 a355 [(33 : Int32), (35 : Int32), (36 : Int32), (37 : Int32), (38 : Int32), (39 : Int32), (42 : Int32), (43 : Int32), (45 : Int32), (46 : Int32), (94 : Int32), (95 : Int32), (96 : Int32), (124 : Int32), (126 : Int32)] := latLit X359 FC360 FV361 A362 rfl (by decide +kernel) (by decide +kernel)
                  have A366 : IA Z h364 b356 .byte (([(33 : Int32), (35 : Int32), (36 : Int32), (37 : Int32), (38 : Int32), (39 : Int32), (42 : Int32), (43 : Int32), (45 : Int32), (46 : Int32), (94 : Int32), (95 : Int32), (96 : Int32), (124 : Int32), (126 : Int32)] : List Int32).map fun c => c.toInt8.toInt32) := iaLit A362 rfl (by decide +kernel)
                  refine GoKit.iloadN G d5_71 rfl (pc' := 72) rfl ?_
                  refine GoKit.callVirtualP G d5_72 (wi hw 84 rfl) (wi hw 85 rfl) (wi hw 87 rfl) (wi hw 86 rfl) (wi hw 8 rfl) (wi hw 88 rfl) (by decide) S365.1 (W := 0) (argsL := [(.int ch)]) (rest := []) (con_idxL l hw (cs := litL) ch S365 HC) rfl (lenOf pd_4 rfl) rfl (by decide) (Nat.le_of_eq rfl) (by decide) (by decide) (by decide) (cells' := 4) (slots' := 128) rfl rfl (pc' := 75) rfl ?_
                  show Run _ _ _ _ _ _ _ _ _ _ _ _ _ _ _ _ _ _ _ _ _ (mkF m 75 #[.val (.ref a), .val (.int (1 : Int32)), .val (.int (1 : Int32)), .val (.int ch)] [(.int (idxFrom litL ch 0))])
                  refine GoKit.if_lt G d5_75 (by decide) (pt := 82) (pf := 78) rfl rfl (fun hb367 => ?_) (fun hb367 => ?_)
                  · refine GoKit.iconst G (0 : Int32) d5_82 rfl (pc' := 83) rfl ?_
                    refine GoKit.istoreN G d5_83 (Ls' := #[.val (.ref a), .val (.int (0 : Int32)), .val (.int (1 : Int32)), .val (.int ch)]) rfl (pc' := 84) rfl ?_
                    refine GoKit.iinc G (1 : Int32) d5_84 rfl rfl (Ls' := #[.val (.ref a), .val (.int (0 : Int32)), .val (.int ((1 : Int32) + (1 : Int32))), .val (.int ch)]) rfl (pc' := 87) rfl ?_
                    show Run _ _ _ _ _ _ _ _ _ _ _ _ _ _ _ _ _ _ _ _ _ (mkF m 87 #[.val (.ref a), .val (.int (0 : Int32)), .val (.int (2 : Int32)), .val (.int ch)] [])
                    refine GoKit.goto G d5_87 (by decide) (pc' := 15) rfl ?_
                    have KP368 : Keep h h364 [] := ((Keep.refl h []).ext E358)
                    refine Run.mono (by decide) (by decide) (J2 _ _ _ (K.trans KP368 all0) ?_ (Or.inr ⟨_, rfl, rfl⟩))
                    exact Or.inl ⟨rfl, fun q => (show ¬ tch ch from (by have hn := lit_no (fun q => idx_some lit_sm q hb367); unfold tch; simp only [gt_iff_lt, ge_iff_le, ne_eq, Int32.lt_iff_toInt_lt, Int32.le_iff_toInt_le, ← Int32.toInt_inj, show (33 : Int32).toInt = 33 from rfl, show (35 : Int32).toInt = 35 from rfl, show (36 : Int32).toInt = 36 from rfl, show (37 : Int32).toInt = 37 from rfl, show (38 : Int32).toInt = 38 from rfl, show (39 : Int32).toInt = 39 from rfl, show (42 : Int32).toInt = 42 from rfl, show (43 : Int32).toInt = 43 from rfl, show (45 : Int32).toInt = 45 from rfl, show (46 : Int32).toInt = 46 from rfl, show (48 : Int32).toInt = 48 from rfl, show (57 : Int32).toInt = 57 from rfl, show (65 : Int32).toInt = 65 from rfl, show (90 : Int32).toInt = 90 from rfl, show (94 : Int32).toInt = 94 from rfl, show (95 : Int32).toInt = 95 from rfl, show (96 : Int32).toInt = 96 from rfl, show (97 : Int32).toInt = 97 from rfl, show (122 : Int32).toInt = 122 from rfl, show (124 : Int32).toInt = 124 from rfl, show (126 : Int32).toInt = 126 from rfl] at hb269 hb336 hb337 hb338 hb354; omega)) (hT.mp q ch (mem_drop hch))⟩
                  · refine GoKit.iconst G (1 : Int32) d5_78 rfl (pc' := 79) rfl ?_
                    refine GoKit.goto G d5_79 (by decide) (pc' := 83) rfl ?_
                    refine GoKit.istoreN G d5_83 (Ls' := #[.val (.ref a), .val (.int (1 : Int32)), .val (.int (1 : Int32)), .val (.int ch)]) rfl (pc' := 84) rfl ?_
                    refine GoKit.iinc G (1 : Int32) d5_84 rfl rfl (Ls' := #[.val (.ref a), .val (.int (1 : Int32)), .val (.int ((1 : Int32) + (1 : Int32))), .val (.int ch)]) rfl (pc' := 87) rfl ?_
                    show Run _ _ _ _ _ _ _ _ _ _ _ _ _ _ _ _ _ _ _ _ _ (mkF m 87 #[.val (.ref a), .val (.int (1 : Int32)), .val (.int (2 : Int32)), .val (.int ch)] [])
                    refine GoKit.goto G d5_87 (by decide) (pc' := 15) rfl ?_
                    have KP369 : Keep h h364 [] := ((Keep.refl h []).ext E358)
                    refine Run.mono (by decide) (by decide) (J2 _ _ _ (K.trans KP369 all0) ?_ (Or.inr ⟨_, rfl, rfl⟩))
                    exact Or.inr ⟨rfl, hT.trans (drop_step hch (lit_tch (Classical.byContradiction fun q => hb367 (by rw [idx_none q]; decide))))⟩
            · refine GoKit.iloadN G d5_51 rfl (pc' := 52) rfl ?_
              refine GoKit.bipush G (90 : Int32) d5_52 rfl (pc' := 54) rfl ?_
              refine GoKit.icmp_le G d5_54 (by decide) (pt := 78) (pf := 57) rfl rfl (fun hb370 => ?_) (fun hb370 => ?_)
              · refine GoKit.iconst G (1 : Int32) d5_78 rfl (pc' := 79) rfl ?_
                refine GoKit.goto G d5_79 (by decide) (pc' := 83) rfl ?_
                refine GoKit.istoreN G d5_83 (Ls' := #[.val (.ref a), .val (.int (1 : Int32)), .val (.int (1 : Int32)), .val (.int ch)]) rfl (pc' := 84) rfl ?_
                refine GoKit.iinc G (1 : Int32) d5_84 rfl rfl (Ls' := #[.val (.ref a), .val (.int (1 : Int32)), .val (.int ((1 : Int32) + (1 : Int32))), .val (.int ch)]) rfl (pc' := 87) rfl ?_
                show Run _ _ _ _ _ _ _ _ _ _ _ _ _ _ _ _ _ _ _ _ _ (mkF m 87 #[.val (.ref a), .val (.int (1 : Int32)), .val (.int (2 : Int32)), .val (.int ch)] [])
                refine GoKit.goto G d5_87 (by decide) (pc' := 15) rfl ?_
                refine Run.mono (by decide) (by decide) (J2 _ _ _ K ?_ (Or.inr ⟨_, rfl, rfl⟩))
                exact Or.inr ⟨rfl, hT.trans (drop_step hch (by unfold tch; simp only [gt_iff_lt, ge_iff_le, ne_eq, Int32.lt_iff_toInt_lt, Int32.le_iff_toInt_le, ← Int32.toInt_inj, show (33 : Int32).toInt = 33 from rfl, show (35 : Int32).toInt = 35 from rfl, show (36 : Int32).toInt = 36 from rfl, show (37 : Int32).toInt = 37 from rfl, show (38 : Int32).toInt = 38 from rfl, show (39 : Int32).toInt = 39 from rfl, show (42 : Int32).toInt = 42 from rfl, show (43 : Int32).toInt = 43 from rfl, show (45 : Int32).toInt = 45 from rfl, show (46 : Int32).toInt = 46 from rfl, show (48 : Int32).toInt = 48 from rfl, show (57 : Int32).toInt = 57 from rfl, show (65 : Int32).toInt = 65 from rfl, show (90 : Int32).toInt = 90 from rfl, show (94 : Int32).toInt = 94 from rfl, show (95 : Int32).toInt = 95 from rfl, show (96 : Int32).toInt = 96 from rfl, show (97 : Int32).toInt = 97 from rfl, show (122 : Int32).toInt = 122 from rfl, show (124 : Int32).toInt = 124 from rfl, show (126 : Int32).toInt = 126 from rfl] at hb269 hb336 hb337 hb370; omega))⟩
              · refine GoKit.iloadN G d5_57 rfl (pc' := 58) rfl ?_
                refine GoKit.bipush G (48 : Int32) d5_58 rfl (pc' := 60) rfl ?_
                refine GoKit.icmp_lt G d5_60 (by decide) (pt := 69) (pf := 63) rfl rfl (fun hb371 => ?_) (fun hb371 => ?_)
                · refine GoKit.ldcStr G d5_69 rfl (wi hw 83 rfl) (wS hw) (by decide) (vs := [.int (33 : Int32), .int (35 : Int32), .int (36 : Int32), .int (37 : Int32), .int (38 : Int32), .int (39 : Int32), .int (42 : Int32), .int (43 : Int32), .int (45 : Int32), .int (46 : Int32), .int (94 : Int32), .int (95 : Int32), .int (96 : Int32), .int (124 : Int32), .int (126 : Int32)]) (z := (15 : Int32)) ⟨by decide +kernel, by decide +kernel⟩ (by decide) rfl (n := 60) (by decide +kernel) (by decide) (by decide) (by decide) (cells' := 4) (slots' := 128) rfl rfl (pc' := 71) rfl (fun a372 b373 k374 h381 E375 X376 FC377 FV378 A379 N380 => ?_)
                  have S382 : Lat Z h381 a372 [(33 : Int32), (35 : Int32), (36 : Int32), (37 : Int32), (38 : Int32), (39 : Int32), (42 : Int32), (43 : Int32), (45 : Int32), (46 : Int32), (94 : Int32), (95 : Int32), (96 : Int32), (124 : Int32), (126 : Int32)] := latLit X376 FC377 FV378 A379 rfl (by decide +kernel) (by decide +kernel)
                  have A383 : IA Z h381 b373 .byte (([(33 : Int32), (35 : Int32), (36 : Int32), (37 : Int32), (38 : Int32), (39 : Int32), (42 : Int32), (43 : Int32), (45 : Int32), (46 : Int32), (94 : Int32), (95 : Int32), (96 : Int32), (124 : Int32), (126 : Int32)] : List Int32).map fun c => c.toInt8.toInt32) := iaLit A379 rfl (by decide +kernel)
                  refine GoKit.iloadN G d5_71 rfl (pc' := 72) rfl ?_
                  refine GoKit.callVirtualP G d5_72 (wi hw 84 rfl) (wi hw 85 rfl) (wi hw 87 rfl) (wi hw 86 rfl) (wi hw 8 rfl) (wi hw 88 rfl) (by decide) S382.1 (W := 0) (argsL := [(.int ch)]) (rest := []) (con_idxL l hw (cs := litL) ch S382 HC) rfl (lenOf pd_4 rfl) rfl (by decide) (Nat.le_of_eq rfl) (by decide) (by decide) (by decide) (cells' := 4) (slots' := 128) rfl rfl (pc' := 75) rfl ?_
                  show Run _ _ _ _ _ _ _ _ _ _ _ _ _ _ _ _ _ _ _ _ _ (mkF m 75 #[.val (.ref a), .val (.int (1 : Int32)), .val (.int (1 : Int32)), .val (.int ch)] [(.int (idxFrom litL ch 0))])
                  refine GoKit.if_lt G d5_75 (by decide) (pt := 82) (pf := 78) rfl rfl (fun hb384 => ?_) (fun hb384 => ?_)
                  · refine GoKit.iconst G (0 : Int32) d5_82 rfl (pc' := 83) rfl ?_
                    refine GoKit.istoreN G d5_83 (Ls' := #[.val (.ref a), .val (.int (0 : Int32)), .val (.int (1 : Int32)), .val (.int ch)]) rfl (pc' := 84) rfl ?_
                    refine GoKit.iinc G (1 : Int32) d5_84 rfl rfl (Ls' := #[.val (.ref a), .val (.int (0 : Int32)), .val (.int ((1 : Int32) + (1 : Int32))), .val (.int ch)]) rfl (pc' := 87) rfl ?_
                    show Run _ _ _ _ _ _ _ _ _ _ _ _ _ _ _ _ _ _ _ _ _ (mkF m 87 #[.val (.ref a), .val (.int (0 : Int32)), .val (.int (2 : Int32)), .val (.int ch)] [])
                    refine GoKit.goto G d5_87 (by decide) (pc' := 15) rfl ?_
                    have KP385 : Keep h h381 [] := ((Keep.refl h []).ext E375)
                    refine Run.mono (by decide) (by decide) (J2 _ _ _ (K.trans KP385 all0) ?_ (Or.inr ⟨_, rfl, rfl⟩))
                    exact Or.inl ⟨rfl, fun q => (show ¬ tch ch from (by have hn := lit_no (fun q => idx_some lit_sm q hb384); unfold tch; simp only [gt_iff_lt, ge_iff_le, ne_eq, Int32.lt_iff_toInt_lt, Int32.le_iff_toInt_le, ← Int32.toInt_inj, show (33 : Int32).toInt = 33 from rfl, show (35 : Int32).toInt = 35 from rfl, show (36 : Int32).toInt = 36 from rfl, show (37 : Int32).toInt = 37 from rfl, show (38 : Int32).toInt = 38 from rfl, show (39 : Int32).toInt = 39 from rfl, show (42 : Int32).toInt = 42 from rfl, show (43 : Int32).toInt = 43 from rfl, show (45 : Int32).toInt = 45 from rfl, show (46 : Int32).toInt = 46 from rfl, show (48 : Int32).toInt = 48 from rfl, show (57 : Int32).toInt = 57 from rfl, show (65 : Int32).toInt = 65 from rfl, show (90 : Int32).toInt = 90 from rfl, show (94 : Int32).toInt = 94 from rfl, show (95 : Int32).toInt = 95 from rfl, show (96 : Int32).toInt = 96 from rfl, show (97 : Int32).toInt = 97 from rfl, show (122 : Int32).toInt = 122 from rfl, show (124 : Int32).toInt = 124 from rfl, show (126 : Int32).toInt = 126 from rfl] at hb269 hb336 hb337 hb370 hb371; omega)) (hT.mp q ch (mem_drop hch))⟩
                  · refine GoKit.iconst G (1 : Int32) d5_78 rfl (pc' := 79) rfl ?_
                    refine GoKit.goto G d5_79 (by decide) (pc' := 83) rfl ?_
                    refine GoKit.istoreN G d5_83 (Ls' := #[.val (.ref a), .val (.int (1 : Int32)), .val (.int (1 : Int32)), .val (.int ch)]) rfl (pc' := 84) rfl ?_
                    refine GoKit.iinc G (1 : Int32) d5_84 rfl rfl (Ls' := #[.val (.ref a), .val (.int (1 : Int32)), .val (.int ((1 : Int32) + (1 : Int32))), .val (.int ch)]) rfl (pc' := 87) rfl ?_
                    show Run _ _ _ _ _ _ _ _ _ _ _ _ _ _ _ _ _ _ _ _ _ (mkF m 87 #[.val (.ref a), .val (.int (1 : Int32)), .val (.int (2 : Int32)), .val (.int ch)] [])
                    refine GoKit.goto G d5_87 (by decide) (pc' := 15) rfl ?_
                    have KP386 : Keep h h381 [] := ((Keep.refl h []).ext E375)
                    refine Run.mono (by decide) (by decide) (J2 _ _ _ (K.trans KP386 all0) ?_ (Or.inr ⟨_, rfl, rfl⟩))
                    exact Or.inr ⟨rfl, hT.trans (drop_step hch (lit_tch (Classical.byContradiction fun q => hb384 (by rw [idx_none q]; decide))))⟩
                · refine GoKit.iloadN G d5_63 rfl (pc' := 64) rfl ?_
                  refine GoKit.bipush G (57 : Int32) d5_64 rfl (pc' := 66) rfl ?_
                  refine GoKit.icmp_le G d5_66 (by decide) (pt := 78) (pf := 69) rfl rfl (fun hb387 => ?_) (fun hb387 => ?_)
                  · refine GoKit.iconst G (1 : Int32) d5_78 rfl (pc' := 79) rfl ?_
                    refine GoKit.goto G d5_79 (by decide) (pc' := 83) rfl ?_
                    refine GoKit.istoreN G d5_83 (Ls' := #[.val (.ref a), .val (.int (1 : Int32)), .val (.int (1 : Int32)), .val (.int ch)]) rfl (pc' := 84) rfl ?_
                    refine GoKit.iinc G (1 : Int32) d5_84 rfl rfl (Ls' := #[.val (.ref a), .val (.int (1 : Int32)), .val (.int ((1 : Int32) + (1 : Int32))), .val (.int ch)]) rfl (pc' := 87) rfl ?_
                    show Run _ _ _ _ _ _ _ _ _ _ _ _ _ _ _ _ _ _ _ _ _ (mkF m 87 #[.val (.ref a), .val (.int (1 : Int32)), .val (.int (2 : Int32)), .val (.int ch)] [])
                    refine GoKit.goto G d5_87 (by decide) (pc' := 15) rfl ?_
                    refine Run.mono (by decide) (by decide) (J2 _ _ _ K ?_ (Or.inr ⟨_, rfl, rfl⟩))
                    exact Or.inr ⟨rfl, hT.trans (drop_step hch (by unfold tch; simp only [gt_iff_lt, ge_iff_le, ne_eq, Int32.lt_iff_toInt_lt, Int32.le_iff_toInt_le, ← Int32.toInt_inj, show (33 : Int32).toInt = 33 from rfl, show (35 : Int32).toInt = 35 from rfl, show (36 : Int32).toInt = 36 from rfl, show (37 : Int32).toInt = 37 from rfl, show (38 : Int32).toInt = 38 from rfl, show (39 : Int32).toInt = 39 from rfl, show (42 : Int32).toInt = 42 from rfl, show (43 : Int32).toInt = 43 from rfl, show (45 : Int32).toInt = 45 from rfl, show (46 : Int32).toInt = 46 from rfl, show (48 : Int32).toInt = 48 from rfl, show (57 : Int32).toInt = 57 from rfl, show (65 : Int32).toInt = 65 from rfl, show (90 : Int32).toInt = 90 from rfl, show (94 : Int32).toInt = 94 from rfl, show (95 : Int32).toInt = 95 from rfl, show (96 : Int32).toInt = 96 from rfl, show (97 : Int32).toInt = 97 from rfl, show (122 : Int32).toInt = 122 from rfl, show (124 : Int32).toInt = 124 from rfl, show (126 : Int32).toInt = 126 from rfl] at hb269 hb336 hb337 hb370 hb371 hb387; omega))⟩
                  · refine GoKit.ldcStr G d5_69 rfl (wi hw 83 rfl) (wS hw) (by decide) (vs := [.int (33 : Int32), .int (35 : Int32), .int (36 : Int32), .int (37 : Int32), .int (38 : Int32), .int (39 : Int32), .int (42 : Int32), .int (43 : Int32), .int (45 : Int32), .int (46 : Int32), .int (94 : Int32), .int (95 : Int32), .int (96 : Int32), .int (124 : Int32), .int (126 : Int32)]) (z := (15 : Int32)) ⟨by decide +kernel, by decide +kernel⟩ (by decide) rfl (n := 60) (by decide +kernel) (by decide) (by decide) (by decide) (cells' := 4) (slots' := 128) rfl rfl (pc' := 71) rfl (fun a388 b389 k390 h397 E391 X392 FC393 FV394 A395 N396 => ?_)
                    have S398 : Lat Z h397 a388 [(33 : Int32), (35 : Int32), (36 : Int32), (37 : Int32), (38 : Int32), (39 : Int32), (42 : Int32), (43 : Int32), (45 : Int32), (46 : Int32), (94 : Int32), (95 : Int32), (96 : Int32), (124 : Int32), (126 : Int32)] := latLit X392 FC393 FV394 A395 rfl (by decide +kernel) (by decide +kernel)
                    have A399 : IA Z h397 b389 .byte (([(33 : Int32), (35 : Int32), (36 : Int32), (37 : Int32), (38 : Int32), (39 : Int32), (42 : Int32), (43 : Int32), (45 : Int32), (46 : Int32), (94 : Int32), (95 : Int32), (96 : Int32), (124 : Int32), (126 : Int32)] : List Int32).map fun c => c.toInt8.toInt32) := iaLit A395 rfl (by decide +kernel)
                    refine GoKit.iloadN G d5_71 rfl (pc' := 72) rfl ?_
                    refine GoKit.callVirtualP G d5_72 (wi hw 84 rfl) (wi hw 85 rfl) (wi hw 87 rfl) (wi hw 86 rfl) (wi hw 8 rfl) (wi hw 88 rfl) (by decide) S398.1 (W := 0) (argsL := [(.int ch)]) (rest := []) (con_idxL l hw (cs := litL) ch S398 HC) rfl (lenOf pd_4 rfl) rfl (by decide) (Nat.le_of_eq rfl) (by decide) (by decide) (by decide) (cells' := 4) (slots' := 128) rfl rfl (pc' := 75) rfl ?_
                    show Run _ _ _ _ _ _ _ _ _ _ _ _ _ _ _ _ _ _ _ _ _ (mkF m 75 #[.val (.ref a), .val (.int (1 : Int32)), .val (.int (1 : Int32)), .val (.int ch)] [(.int (idxFrom litL ch 0))])
                    refine GoKit.if_lt G d5_75 (by decide) (pt := 82) (pf := 78) rfl rfl (fun hb400 => ?_) (fun hb400 => ?_)
                    · refine GoKit.iconst G (0 : Int32) d5_82 rfl (pc' := 83) rfl ?_
                      refine GoKit.istoreN G d5_83 (Ls' := #[.val (.ref a), .val (.int (0 : Int32)), .val (.int (1 : Int32)), .val (.int ch)]) rfl (pc' := 84) rfl ?_
                      refine GoKit.iinc G (1 : Int32) d5_84 rfl rfl (Ls' := #[.val (.ref a), .val (.int (0 : Int32)), .val (.int ((1 : Int32) + (1 : Int32))), .val (.int ch)]) rfl (pc' := 87) rfl ?_
                      show Run _ _ _ _ _ _ _ _ _ _ _ _ _ _ _ _ _ _ _ _ _ (mkF m 87 #[.val (.ref a), .val (.int (0 : Int32)), .val (.int (2 : Int32)), .val (.int ch)] [])
                      refine GoKit.goto G d5_87 (by decide) (pc' := 15) rfl ?_
                      have KP401 : Keep h h397 [] := ((Keep.refl h []).ext E391)
                      refine Run.mono (by decide) (by decide) (J2 _ _ _ (K.trans KP401 all0) ?_ (Or.inr ⟨_, rfl, rfl⟩))
                      exact Or.inl ⟨rfl, fun q => (show ¬ tch ch from (by have hn := lit_no (fun q => idx_some lit_sm q hb400); unfold tch; simp only [gt_iff_lt, ge_iff_le, ne_eq, Int32.lt_iff_toInt_lt, Int32.le_iff_toInt_le, ← Int32.toInt_inj, show (33 : Int32).toInt = 33 from rfl, show (35 : Int32).toInt = 35 from rfl, show (36 : Int32).toInt = 36 from rfl, show (37 : Int32).toInt = 37 from rfl, show (38 : Int32).toInt = 38 from rfl, show (39 : Int32).toInt = 39 from rfl, show (42 : Int32).toInt = 42 from rfl, show (43 : Int32).toInt = 43 from rfl, show (45 : Int32).toInt = 45 from rfl, show (46 : Int32).toInt = 46 from rfl, show (48 : Int32).toInt = 48 from rfl, show (57 : Int32).toInt = 57 from rfl, show (65 : Int32).toInt = 65 from rfl, show (90 : Int32).toInt = 90 from rfl, show (94 : Int32).toInt = 94 from rfl, show (95 : Int32).toInt = 95 from rfl, show (96 : Int32).toInt = 96 from rfl, show (97 : Int32).toInt = 97 from rfl, show (122 : Int32).toInt = 122 from rfl, show (124 : Int32).toInt = 124 from rfl, show (126 : Int32).toInt = 126 from rfl] at hb269 hb336 hb337 hb370 hb371 hb387; omega)) (hT.mp q ch (mem_drop hch))⟩
                    · refine GoKit.iconst G (1 : Int32) d5_78 rfl (pc' := 79) rfl ?_
                      refine GoKit.goto G d5_79 (by decide) (pc' := 83) rfl ?_
                      refine GoKit.istoreN G d5_83 (Ls' := #[.val (.ref a), .val (.int (1 : Int32)), .val (.int (1 : Int32)), .val (.int ch)]) rfl (pc' := 84) rfl ?_
                      refine GoKit.iinc G (1 : Int32) d5_84 rfl rfl (Ls' := #[.val (.ref a), .val (.int (1 : Int32)), .val (.int ((1 : Int32) + (1 : Int32))), .val (.int ch)]) rfl (pc' := 87) rfl ?_
                      show Run _ _ _ _ _ _ _ _ _ _ _ _ _ _ _ _ _ _ _ _ _ (mkF m 87 #[.val (.ref a), .val (.int (1 : Int32)), .val (.int (2 : Int32)), .val (.int ch)] [])
                      refine GoKit.goto G d5_87 (by decide) (pc' := 15) rfl ?_
                      have KP402 : Keep h h397 [] := ((Keep.refl h []).ext E391)
                      refine Run.mono (by decide) (by decide) (J2 _ _ _ (K.trans KP402 all0) ?_ (Or.inr ⟨_, rfl, rfl⟩))
                      exact Or.inr ⟨rfl, hT.trans (drop_step hch (lit_tch (Classical.byContradiction fun q => hb400 (by rw [idx_none q]; decide))))⟩
      · refine GoKit.iloadN G d5_15 rfl (pc' := 16) rfl ?_
        refine GoKit.if_eq_f G d5_16 (by decide) (pc' := 19) rfl ?_
        refine GoKit.iloadN G d5_19 rfl (pc' := 20) rfl ?_
        refine GoKit.aloadN G d5_20 rfl rfl (pc' := 21) rfl ?_
        refine GoKit.callVirtualP G d5_21 (wi hw 51 rfl) (wi hw 52 rfl) (wi hw 54 rfl) (wi hw 53 rfl) (wi hw 8 rfl) (wi hw 55 rfl) (by decide) (str_exa S1) (W := 1) (argsL := []) (rest := [(.int (1 : Int32))]) (con_lenS l hw S1 HC) rfl (lenOf pd_17 rfl) rfl (by decide) (Nat.le_of_eq rfl) (by decide) (by decide) (by decide) (cells' := 2) (slots' := 64) rfl rfl (pc' := 24) rfl ?_
        show Run _ _ _ _ _ _ _ _ _ _ _ _ _ _ _ _ _ _ _ _ _ (mkF m 24 #[.val (.ref a), .val (.int (1 : Int32)), .val (.int (1 : Int32)), sl] [(.int cs.length.toInt32), (.int (1 : Int32))])
        refine GoKit.icmp_ge_t G d5_24 (fun q => hk ((toI_lt (i := 1) (by decide) (by omega)).mp q)) (by decide) (pc' := 90) rfl ?_
        refine GoKit.iloadN G d5_90 rfl (pc' := 91) rfl ?_
        refine GoKit.retNar G d5_91 (t := .boolean) rfl (by simp) (by decide) (by decide) ?_
        exact by rw [if_pos (hT.mpr (by rw [List.drop_eq_nil_of_le (by omega)]; intro c hc; cases hc))]; rfl
  have J0 : ∀ (h : Heap) (bv : Int32) (sl : Slot), Keep h0 h [] → ((bv = 0 ∧ ¬ T cs) ∨ (bv = 1 ∧ (T cs ↔ ∀ c ∈ cs.drop 0, tch c))) → (sl = .unset ∨ ∃ w, sl = .val w ∧ w.category = 1) →
      Run p l e rm_con_tok s m #[.ref a] below meth c Z true false ELs n0 [] (fun v h => v = some (.int (if T cs then 1 else 0))) h [] 0 0 (mkF m 15 #[.val (.ref a), .val (.int bv), .val (.int (0 : Int32)), sl] []) := by
    intro h bv sl K hI hsl
    have S1 := str_keep S K
    rcases hI with ⟨rfl, hT⟩ | ⟨rfl, hT⟩
    · refine GoKit.iloadN G d5_15 rfl (pc' := 16) rfl ?_
      refine GoKit.if_eq_t G d5_16 (by decide) (by decide) (pc' := 90) rfl ?_
      refine GoKit.iloadN G d5_90 rfl (pc' := 91) rfl ?_
      refine GoKit.retNar G d5_91 (t := .boolean) rfl (by simp) (by decide) (by decide) ?_
      exact by rw [if_neg hT]; rfl
    · by_cases hk : 0 < cs.length
      · obtain ⟨ch, hch⟩ : ∃ ch, cs[0]? = some ch := ⟨cs[0], List.getElem?_eq_getElem hk⟩
        refine GoKit.iloadN G d5_15 rfl (pc' := 16) rfl ?_
        refine GoKit.if_eq_f G d5_16 (by decide) (pc' := 19) rfl ?_
        refine GoKit.iloadN G d5_19 rfl (pc' := 20) rfl ?_
        refine GoKit.aloadN G d5_20 rfl rfl (pc' := 21) rfl ?_
        refine GoKit.callVirtualP G d5_21 (wi hw 51 rfl) (wi hw 52 rfl) (wi hw 54 rfl) (wi hw 53 rfl) (wi hw 8 rfl) (wi hw 55 rfl) (by decide) (str_exa S1) (W := 1) (argsL := []) (rest := [(.int (0 : Int32))]) (con_lenS l hw S1 HC) rfl (lenOf pd_17 rfl) rfl (by decide) (Nat.le_of_eq rfl) (by decide) (by decide) (by decide) (cells' := 0) (slots' := 0) rfl rfl (pc' := 24) rfl ?_
        show Run _ _ _ _ _ _ _ _ _ _ _ _ _ _ _ _ _ _ _ _ _ (mkF m 24 #[.val (.ref a), .val (.int (1 : Int32)), .val (.int (0 : Int32)), sl] [(.int cs.length.toInt32), (.int (0 : Int32))])
        refine GoKit.icmp_ge_f G d5_24 ((toI_lt (i := 0) (by decide) (by omega)).mpr hk) (pc' := 27) rfl ?_
        refine GoKit.aloadN G d5_27 rfl rfl (pc' := 28) rfl ?_
        refine GoKit.iloadN G d5_28 rfl (pc' := 29) rfl ?_
        refine GoKit.callVirtualP G d5_29 (wi hw 61 rfl) (wi hw 62 rfl) (wi hw 64 rfl) (wi hw 63 rfl) (wi hw 8 rfl) (wi hw 65 rfl) (by decide) (str_exa S1) (W := 0) (argsL := [(.int (0 : Int32))]) (rest := []) (con_charS l hw (i := 0) S1 hch HC HF HU) rfl (lenOf pd_19 rfl) rfl (by decide) (Nat.le_of_eq rfl) (by decide) (by decide) (by decide) (cells' := 0) (slots' := 0) rfl rfl (pc' := 32) rfl ?_
        show Run _ _ _ _ _ _ _ _ _ _ _ _ _ _ _ _ _ _ _ _ _ (mkF m 32 #[.val (.ref a), .val (.int (1 : Int32)), .val (.int (0 : Int32)), sl] [(.int ch)])
        refine GoKit.istoreN G d5_32 (Ls' := #[.val (.ref a), .val (.int (1 : Int32)), .val (.int (0 : Int32)), .val (.int ch)]) (XS.store1 rfl hsl rfl) (pc' := 33) rfl ?_
        refine GoKit.iloadN G d5_33 rfl (pc' := 34) rfl ?_
        refine GoKit.bipush G (97 : Int32) d5_34 rfl (pc' := 36) rfl ?_
        refine GoKit.icmp_lt G d5_36 (by decide) (pt := 45) (pf := 39) rfl rfl (fun hb403 => ?_) (fun hb403 => ?_)
        · refine GoKit.iloadN G d5_45 rfl (pc' := 46) rfl ?_
          refine GoKit.bipush G (65 : Int32) d5_46 rfl (pc' := 48) rfl ?_
          refine GoKit.icmp_lt G d5_48 (by decide) (pt := 57) (pf := 51) rfl rfl (fun hb404 => ?_) (fun hb404 => ?_)
          · refine GoKit.iloadN G d5_57 rfl (pc' := 58) rfl ?_
            refine GoKit.bipush G (48 : Int32) d5_58 rfl (pc' := 60) rfl ?_
            refine GoKit.icmp_lt G d5_60 (by decide) (pt := 69) (pf := 63) rfl rfl (fun hb405 => ?_) (fun hb405 => ?_)
            · refine GoKit.ldcStr G d5_69 rfl (wi hw 83 rfl) (wS hw) (by decide) (vs := [.int (33 : Int32), .int (35 : Int32), .int (36 : Int32), .int (37 : Int32), .int (38 : Int32), .int (39 : Int32), .int (42 : Int32), .int (43 : Int32), .int (45 : Int32), .int (46 : Int32), .int (94 : Int32), .int (95 : Int32), .int (96 : Int32), .int (124 : Int32), .int (126 : Int32)]) (z := (15 : Int32)) ⟨by decide +kernel, by decide +kernel⟩ (by decide) rfl (n := 60) (by decide +kernel) (by decide) (by decide) (by decide) (cells' := 2) (slots' := 64) rfl rfl (pc' := 71) rfl (fun a406 b407 k408 h415 E409 X410 FC411 FV412 A413 N414 => ?_)
              have S416 : Lat Z h415 a406 [(33 : Int32), (35 : Int32), (36 : Int32), (37 : Int32), (38 : Int32), (39 : Int32), (42 : Int32), (43 : Int32), (45 : Int32), (46 : Int32), (94 : Int32), (95 : Int32), (96 : Int32), (124 : Int32), (126 : Int32)] := latLit X410 FC411 FV412 A413 rfl (by decide +kernel) (by decide +kernel)
              have A417 : IA Z h415 b407 .byte (([(33 : Int32), (35 : Int32), (36 : Int32), (37 : Int32), (38 : Int32), (39 : Int32), (42 : Int32), (43 : Int32), (45 : Int32), (46 : Int32), (94 : Int32), (95 : Int32), (96 : Int32), (124 : Int32), (126 : Int32)] : List Int32).map fun c => c.toInt8.toInt32) := iaLit A413 rfl (by decide +kernel)
              refine GoKit.iloadN G d5_71 rfl (pc' := 72) rfl ?_
              refine GoKit.callVirtualP G d5_72 (wi hw 84 rfl) (wi hw 85 rfl) (wi hw 87 rfl) (wi hw 86 rfl) (wi hw 8 rfl) (wi hw 88 rfl) (by decide) S416.1 (W := 0) (argsL := [(.int ch)]) (rest := []) (con_idxL l hw (cs := litL) ch S416 HC) rfl (lenOf pd_4 rfl) rfl (by decide) (Nat.le_of_eq rfl) (by decide) (by decide) (by decide) (cells' := 2) (slots' := 64) rfl rfl (pc' := 75) rfl ?_
              show Run _ _ _ _ _ _ _ _ _ _ _ _ _ _ _ _ _ _ _ _ _ (mkF m 75 #[.val (.ref a), .val (.int (1 : Int32)), .val (.int (0 : Int32)), .val (.int ch)] [(.int (idxFrom litL ch 0))])
              refine GoKit.if_lt G d5_75 (by decide) (pt := 82) (pf := 78) rfl rfl (fun hb418 => ?_) (fun hb418 => ?_)
              · refine GoKit.iconst G (0 : Int32) d5_82 rfl (pc' := 83) rfl ?_
                refine GoKit.istoreN G d5_83 (Ls' := #[.val (.ref a), .val (.int (0 : Int32)), .val (.int (0 : Int32)), .val (.int ch)]) rfl (pc' := 84) rfl ?_
                refine GoKit.iinc G (1 : Int32) d5_84 rfl rfl (Ls' := #[.val (.ref a), .val (.int (0 : Int32)), .val (.int ((0 : Int32) + (1 : Int32))), .val (.int ch)]) rfl (pc' := 87) rfl ?_
                show Run _ _ _ _ _ _ _ _ _ _ _ _ _ _ _ _ _ _ _ _ _ (mkF m 87 #[.val (.ref a), .val (.int (0 : Int32)), .val (.int (1 : Int32)), .val (.int ch)] [])
                refine GoKit.goto G d5_87 (by decide) (pc' := 15) rfl ?_
                have KP419 : Keep h h415 [] := ((Keep.refl h []).ext E409)
                refine Run.mono (by decide) (by decide) (J1 _ _ _ (K.trans KP419 all0) ?_ (Or.inr ⟨_, rfl, rfl⟩))
                exact Or.inl ⟨rfl, fun q => (show ¬ tch ch from (by have hn := lit_no (fun q => idx_some lit_sm q hb418); unfold tch; simp only [gt_iff_lt, ge_iff_le, ne_eq, Int32.lt_iff_toInt_lt, Int32.le_iff_toInt_le, ← Int32.toInt_inj, show (33 : Int32).toInt = 33 from rfl, show (35 : Int32).toInt = 35 from rfl, show (36 : Int32).toInt = 36 from rfl, show (37 : Int32).toInt = 37 from rfl, show (38 : Int32).toInt = 38 from rfl, show (39 : Int32).toInt = 39 from rfl, show (42 : Int32).toInt = 42 from rfl, show (43 : Int32).toInt = 43 from rfl, show (45 : Int32).toInt = 45 from rfl, show (46 : Int32).toInt = 46 from rfl, show (48 : Int32).toInt = 48 from rfl, show (57 : Int32).toInt = 57 from rfl, show (65 : Int32).toInt = 65 from rfl, show (90 : Int32).toInt = 90 from rfl, show (94 : Int32).toInt = 94 from rfl, show (95 : Int32).toInt = 95 from rfl, show (96 : Int32).toInt = 96 from rfl, show (97 : Int32).toInt = 97 from rfl, show (122 : Int32).toInt = 122 from rfl, show (124 : Int32).toInt = 124 from rfl, show (126 : Int32).toInt = 126 from rfl] at hb403 hb404 hb405; omega)) (hT.mp q ch (mem_drop hch))⟩
              · refine GoKit.iconst G (1 : Int32) d5_78 rfl (pc' := 79) rfl ?_
                refine GoKit.goto G d5_79 (by decide) (pc' := 83) rfl ?_
                refine GoKit.istoreN G d5_83 (Ls' := #[.val (.ref a), .val (.int (1 : Int32)), .val (.int (0 : Int32)), .val (.int ch)]) rfl (pc' := 84) rfl ?_
                refine GoKit.iinc G (1 : Int32) d5_84 rfl rfl (Ls' := #[.val (.ref a), .val (.int (1 : Int32)), .val (.int ((0 : Int32) + (1 : Int32))), .val (.int ch)]) rfl (pc' := 87) rfl ?_
                show Run _ _ _ _ _ _ _ _ _ _ _ _ _ _ _ _ _ _ _ _ _ (mkF m 87 #[.val (.ref a), .val (.int (1 : Int32)), .val (.int (1 : Int32)), .val (.int ch)] [])
                refine GoKit.goto G d5_87 (by decide) (pc' := 15) rfl ?_
                have KP420 : Keep h h415 [] := ((Keep.refl h []).ext E409)
                refine Run.mono (by decide) (by decide) (J1 _ _ _ (K.trans KP420 all0) ?_ (Or.inr ⟨_, rfl, rfl⟩))
                exact Or.inr ⟨rfl, hT.trans (drop_step hch (lit_tch (Classical.byContradiction fun q => hb418 (by rw [idx_none q]; decide))))⟩
            · refine GoKit.iloadN G d5_63 rfl (pc' := 64) rfl ?_
              refine GoKit.bipush G (57 : Int32) d5_64 rfl (pc' := 66) rfl ?_
              refine GoKit.icmp_le G d5_66 (by decide) (pt := 78) (pf := 69) rfl rfl (fun hb421 => ?_) (fun hb421 => ?_)
              · refine GoKit.iconst G (1 : Int32) d5_78 rfl (pc' := 79) rfl ?_
                refine GoKit.goto G d5_79 (by decide) (pc' := 83) rfl ?_
                refine GoKit.istoreN G d5_83 (Ls' := #[.val (.ref a), .val (.int (1 : Int32)), .val (.int (0 : Int32)), .val (.int ch)]) rfl (pc' := 84) rfl ?_
                refine GoKit.iinc G (1 : Int32) d5_84 rfl rfl (Ls' := #[.val (.ref a), .val (.int (1 : Int32)), .val (.int ((0 : Int32) + (1 : Int32))), .val (.int ch)]) rfl (pc' := 87) rfl ?_
                show Run _ _ _ _ _ _ _ _ _ _ _ _ _ _ _ _ _ _ _ _ _ (mkF m 87 #[.val (.ref a), .val (.int (1 : Int32)), .val (.int (1 : Int32)), .val (.int ch)] [])
                refine GoKit.goto G d5_87 (by decide) (pc' := 15) rfl ?_
                refine Run.mono (by decide) (by decide) (J1 _ _ _ K ?_ (Or.inr ⟨_, rfl, rfl⟩))
                exact Or.inr ⟨rfl, hT.trans (drop_step hch (by unfold tch; simp only [gt_iff_lt, ge_iff_le, ne_eq, Int32.lt_iff_toInt_lt, Int32.le_iff_toInt_le, ← Int32.toInt_inj, show (33 : Int32).toInt = 33 from rfl, show (35 : Int32).toInt = 35 from rfl, show (36 : Int32).toInt = 36 from rfl, show (37 : Int32).toInt = 37 from rfl, show (38 : Int32).toInt = 38 from rfl, show (39 : Int32).toInt = 39 from rfl, show (42 : Int32).toInt = 42 from rfl, show (43 : Int32).toInt = 43 from rfl, show (45 : Int32).toInt = 45 from rfl, show (46 : Int32).toInt = 46 from rfl, show (48 : Int32).toInt = 48 from rfl, show (57 : Int32).toInt = 57 from rfl, show (65 : Int32).toInt = 65 from rfl, show (90 : Int32).toInt = 90 from rfl, show (94 : Int32).toInt = 94 from rfl, show (95 : Int32).toInt = 95 from rfl, show (96 : Int32).toInt = 96 from rfl, show (97 : Int32).toInt = 97 from rfl, show (122 : Int32).toInt = 122 from rfl, show (124 : Int32).toInt = 124 from rfl, show (126 : Int32).toInt = 126 from rfl] at hb403 hb404 hb405 hb421; omega))⟩
              · refine GoKit.ldcStr G d5_69 rfl (wi hw 83 rfl) (wS hw) (by decide) (vs := [.int (33 : Int32), .int (35 : Int32), .int (36 : Int32), .int (37 : Int32), .int (38 : Int32), .int (39 : Int32), .int (42 : Int32), .int (43 : Int32), .int (45 : Int32), .int (46 : Int32), .int (94 : Int32), .int (95 : Int32), .int (96 : Int32), .int (124 : Int32), .int (126 : Int32)]) (z := (15 : Int32)) ⟨by decide +kernel, by decide +kernel⟩ (by decide) rfl (n := 60) (by decide +kernel) (by decide) (by decide) (by decide) (cells' := 2) (slots' := 64) rfl rfl (pc' := 71) rfl (fun a422 b423 k424 h431 E425 X426 FC427 FV428 A429 N430 => ?_)
                have S432 : Lat Z h431 a422 [(33 : Int32), (35 : Int32), (36 : Int32), (37 : Int32), (38 : Int32), (39 : Int32), (42 : Int32), (43 : Int32), (45 : Int32), (46 : Int32), (94 : Int32), (95 : Int32), (96 : Int32), (124 : Int32), (126 : Int32)] := latLit X426 FC427 FV428 A429 rfl (by decide +kernel) (by decide +kernel)
                have A433 : IA Z h431 b423 .byte (([(33 : Int32), (35 : Int32), (36 : Int32), (37 : Int32), (38 : Int32), (39 : Int32), (42 : Int32), (43 : Int32), (45 : Int32), (46 : Int32), (94 : Int32), (95 : Int32), (96 : Int32), (124 : Int32), (126 : Int32)] : List Int32).map fun c => c.toInt8.toInt32) := iaLit A429 rfl (by decide +kernel)
                refine GoKit.iloadN G d5_71 rfl (pc' := 72) rfl ?_
                refine GoKit.callVirtualP G d5_72 (wi hw 84 rfl) (wi hw 85 rfl) (wi hw 87 rfl) (wi hw 86 rfl) (wi hw 8 rfl) (wi hw 88 rfl) (by decide) S432.1 (W := 0) (argsL := [(.int ch)]) (rest := []) (con_idxL l hw (cs := litL) ch S432 HC) rfl (lenOf pd_4 rfl) rfl (by decide) (Nat.le_of_eq rfl) (by decide) (by decide) (by decide) (cells' := 2) (slots' := 64) rfl rfl (pc' := 75) rfl ?_
                show Run _ _ _ _ _ _ _ _ _ _ _ _ _ _ _ _ _ _ _ _ _ (mkF m 75 #[.val (.ref a), .val (.int (1 : Int32)), .val (.int (0 : Int32)), .val (.int ch)] [(.int (idxFrom litL ch 0))])
                refine GoKit.if_lt G d5_75 (by decide) (pt := 82) (pf := 78) rfl rfl (fun hb434 => ?_) (fun hb434 => ?_)
                · refine GoKit.iconst G (0 : Int32) d5_82 rfl (pc' := 83) rfl ?_
                  refine GoKit.istoreN G d5_83 (Ls' := #[.val (.ref a), .val (.int (0 : Int32)), .val (.int (0 : Int32)), .val (.int ch)]) rfl (pc' := 84) rfl ?_
                  refine GoKit.iinc G (1 : Int32) d5_84 rfl rfl (Ls' := #[.val (.ref a), .val (.int (0 : Int32)), .val (.int ((0 : Int32) + (1 : Int32))), .val (.int ch)]) rfl (pc' := 87) rfl ?_
                  show Run _ _ _ _ _ _ _ _ _ _ _ _ _ _ _ _ _ _ _ _ _ (mkF m 87 #[.val (.ref a), .val (.int (0 : Int32)), .val (.int (1 : Int32)), .val (.int ch)] [])
                  refine GoKit.goto G d5_87 (by decide) (pc' := 15) rfl ?_
                  have KP435 : Keep h h431 [] := ((Keep.refl h []).ext E425)
                  refine Run.mono (by decide) (by decide) (J1 _ _ _ (K.trans KP435 all0) ?_ (Or.inr ⟨_, rfl, rfl⟩))
                  exact Or.inl ⟨rfl, fun q => (show ¬ tch ch from (by have hn := lit_no (fun q => idx_some lit_sm q hb434); unfold tch; simp only [gt_iff_lt, ge_iff_le, ne_eq, Int32.lt_iff_toInt_lt, Int32.le_iff_toInt_le, ← Int32.toInt_inj, show (33 : Int32).toInt = 33 from rfl, show (35 : Int32).toInt = 35 from rfl, show (36 : Int32).toInt = 36 from rfl, show (37 : Int32).toInt = 37 from rfl, show (38 : Int32).toInt = 38 from rfl, show (39 : Int32).toInt = 39 from rfl, show (42 : Int32).toInt = 42 from rfl, show (43 : Int32).toInt = 43 from rfl, show (45 : Int32).toInt = 45 from rfl, show (46 : Int32).toInt = 46 from rfl, show (48 : Int32).toInt = 48 from rfl, show (57 : Int32).toInt = 57 from rfl, show (65 : Int32).toInt = 65 from rfl, show (90 : Int32).toInt = 90 from rfl, show (94 : Int32).toInt = 94 from rfl, show (95 : Int32).toInt = 95 from rfl, show (96 : Int32).toInt = 96 from rfl, show (97 : Int32).toInt = 97 from rfl, show (122 : Int32).toInt = 122 from rfl, show (124 : Int32).toInt = 124 from rfl, show (126 : Int32).toInt = 126 from rfl] at hb403 hb404 hb405 hb421; omega)) (hT.mp q ch (mem_drop hch))⟩
                · refine GoKit.iconst G (1 : Int32) d5_78 rfl (pc' := 79) rfl ?_
                  refine GoKit.goto G d5_79 (by decide) (pc' := 83) rfl ?_
                  refine GoKit.istoreN G d5_83 (Ls' := #[.val (.ref a), .val (.int (1 : Int32)), .val (.int (0 : Int32)), .val (.int ch)]) rfl (pc' := 84) rfl ?_
                  refine GoKit.iinc G (1 : Int32) d5_84 rfl rfl (Ls' := #[.val (.ref a), .val (.int (1 : Int32)), .val (.int ((0 : Int32) + (1 : Int32))), .val (.int ch)]) rfl (pc' := 87) rfl ?_
                  show Run _ _ _ _ _ _ _ _ _ _ _ _ _ _ _ _ _ _ _ _ _ (mkF m 87 #[.val (.ref a), .val (.int (1 : Int32)), .val (.int (1 : Int32)), .val (.int ch)] [])
                  refine GoKit.goto G d5_87 (by decide) (pc' := 15) rfl ?_
                  have KP436 : Keep h h431 [] := ((Keep.refl h []).ext E425)
                  refine Run.mono (by decide) (by decide) (J1 _ _ _ (K.trans KP436 all0) ?_ (Or.inr ⟨_, rfl, rfl⟩))
                  exact Or.inr ⟨rfl, hT.trans (drop_step hch (lit_tch (Classical.byContradiction fun q => hb434 (by rw [idx_none q]; decide))))⟩
          · refine GoKit.iloadN G d5_51 rfl (pc' := 52) rfl ?_
            refine GoKit.bipush G (90 : Int32) d5_52 rfl (pc' := 54) rfl ?_
            refine GoKit.icmp_le G d5_54 (by decide) (pt := 78) (pf := 57) rfl rfl (fun hb437 => ?_) (fun hb437 => ?_)
            · refine GoKit.iconst G (1 : Int32) d5_78 rfl (pc' := 79) rfl ?_
              refine GoKit.goto G d5_79 (by decide) (pc' := 83) rfl ?_
              refine GoKit.istoreN G d5_83 (Ls' := #[.val (.ref a), .val (.int (1 : Int32)), .val (.int (0 : Int32)), .val (.int ch)]) rfl (pc' := 84) rfl ?_
              refine GoKit.iinc G (1 : Int32) d5_84 rfl rfl (Ls' := #[.val (.ref a), .val (.int (1 : Int32)), .val (.int ((0 : Int32) + (1 : Int32))), .val (.int ch)]) rfl (pc' := 87) rfl ?_
              show Run _ _ _ _ _ _ _ _ _ _ _ _ _ _ _ _ _ _ _ _ _ (mkF m 87 #[.val (.ref a), .val (.int (1 : Int32)), .val (.int (1 : Int32)), .val (.int ch)] [])
              refine GoKit.goto G d5_87 (by decide) (pc' := 15) rfl ?_
              refine Run.mono (by decide) (by decide) (J1 _ _ _ K ?_ (Or.inr ⟨_, rfl, rfl⟩))
              exact Or.inr ⟨rfl, hT.trans (drop_step hch (by unfold tch; simp only [gt_iff_lt, ge_iff_le, ne_eq, Int32.lt_iff_toInt_lt, Int32.le_iff_toInt_le, ← Int32.toInt_inj, show (33 : Int32).toInt = 33 from rfl, show (35 : Int32).toInt = 35 from rfl, show (36 : Int32).toInt = 36 from rfl, show (37 : Int32).toInt = 37 from rfl, show (38 : Int32).toInt = 38 from rfl, show (39 : Int32).toInt = 39 from rfl, show (42 : Int32).toInt = 42 from rfl, show (43 : Int32).toInt = 43 from rfl, show (45 : Int32).toInt = 45 from rfl, show (46 : Int32).toInt = 46 from rfl, show (48 : Int32).toInt = 48 from rfl, show (57 : Int32).toInt = 57 from rfl, show (65 : Int32).toInt = 65 from rfl, show (90 : Int32).toInt = 90 from rfl, show (94 : Int32).toInt = 94 from rfl, show (95 : Int32).toInt = 95 from rfl, show (96 : Int32).toInt = 96 from rfl, show (97 : Int32).toInt = 97 from rfl, show (122 : Int32).toInt = 122 from rfl, show (124 : Int32).toInt = 124 from rfl, show (126 : Int32).toInt = 126 from rfl] at hb403 hb404 hb437; omega))⟩
            · refine GoKit.iloadN G d5_57 rfl (pc' := 58) rfl ?_
              refine GoKit.bipush G (48 : Int32) d5_58 rfl (pc' := 60) rfl ?_
              refine GoKit.icmp_lt G d5_60 (by decide) (pt := 69) (pf := 63) rfl rfl (fun hb438 => ?_) (fun hb438 => ?_)
              · refine GoKit.ldcStr G d5_69 rfl (wi hw 83 rfl) (wS hw) (by decide) (vs := [.int (33 : Int32), .int (35 : Int32), .int (36 : Int32), .int (37 : Int32), .int (38 : Int32), .int (39 : Int32), .int (42 : Int32), .int (43 : Int32), .int (45 : Int32), .int (46 : Int32), .int (94 : Int32), .int (95 : Int32), .int (96 : Int32), .int (124 : Int32), .int (126 : Int32)]) (z := (15 : Int32)) ⟨by decide +kernel, by decide +kernel⟩ (by decide) rfl (n := 60) (by decide +kernel) (by decide) (by decide) (by decide) (cells' := 2) (slots' := 64) rfl rfl (pc' := 71) rfl (fun a439 b440 k441 h448 E442 X443 FC444 FV445 A446 N447 => ?_)
                have S449 : Lat Z h448 a439 [(33 : Int32), (35 : Int32), (36 : Int32), (37 : Int32), (38 : Int32), (39 : Int32), (42 : Int32), (43 : Int32), (45 : Int32), (46 : Int32), (94 : Int32), (95 : Int32), (96 : Int32), (124 : Int32), (126 : Int32)] := latLit X443 FC444 FV445 A446 rfl (by decide +kernel) (by decide +kernel)
                have A450 : IA Z h448 b440 .byte (([(33 : Int32), (35 : Int32), (36 : Int32), (37 : Int32), (38 : Int32), (39 : Int32), (42 : Int32), (43 : Int32), (45 : Int32), (46 : Int32), (94 : Int32), (95 : Int32), (96 : Int32), (124 : Int32), (126 : Int32)] : List Int32).map fun c => c.toInt8.toInt32) := iaLit A446 rfl (by decide +kernel)
                refine GoKit.iloadN G d5_71 rfl (pc' := 72) rfl ?_
                refine GoKit.callVirtualP G d5_72 (wi hw 84 rfl) (wi hw 85 rfl) (wi hw 87 rfl) (wi hw 86 rfl) (wi hw 8 rfl) (wi hw 88 rfl) (by decide) S449.1 (W := 0) (argsL := [(.int ch)]) (rest := []) (con_idxL l hw (cs := litL) ch S449 HC) rfl (lenOf pd_4 rfl) rfl (by decide) (Nat.le_of_eq rfl) (by decide) (by decide) (by decide) (cells' := 2) (slots' := 64) rfl rfl (pc' := 75) rfl ?_
                show Run _ _ _ _ _ _ _ _ _ _ _ _ _ _ _ _ _ _ _ _ _ (mkF m 75 #[.val (.ref a), .val (.int (1 : Int32)), .val (.int (0 : Int32)), .val (.int ch)] [(.int (idxFrom litL ch 0))])
                refine GoKit.if_lt G d5_75 (by decide) (pt := 82) (pf := 78) rfl rfl (fun hb451 => ?_) (fun hb451 => ?_)
                · refine GoKit.iconst G (0 : Int32) d5_82 rfl (pc' := 83) rfl ?_
                  refine GoKit.istoreN G d5_83 (Ls' := #[.val (.ref a), .val (.int (0 : Int32)), .val (.int (0 : Int32)), .val (.int ch)]) rfl (pc' := 84) rfl ?_
                  refine GoKit.iinc G (1 : Int32) d5_84 rfl rfl (Ls' := #[.val (.ref a), .val (.int (0 : Int32)), .val (.int ((0 : Int32) + (1 : Int32))), .val (.int ch)]) rfl (pc' := 87) rfl ?_
                  show Run _ _ _ _ _ _ _ _ _ _ _ _ _ _ _ _ _ _ _ _ _ (mkF m 87 #[.val (.ref a), .val (.int (0 : Int32)), .val (.int (1 : Int32)), .val (.int ch)] [])
                  refine GoKit.goto G d5_87 (by decide) (pc' := 15) rfl ?_
                  have KP452 : Keep h h448 [] := ((Keep.refl h []).ext E442)
                  refine Run.mono (by decide) (by decide) (J1 _ _ _ (K.trans KP452 all0) ?_ (Or.inr ⟨_, rfl, rfl⟩))
                  exact Or.inl ⟨rfl, fun q => (show ¬ tch ch from (by have hn := lit_no (fun q => idx_some lit_sm q hb451); unfold tch; simp only [gt_iff_lt, ge_iff_le, ne_eq, Int32.lt_iff_toInt_lt, Int32.le_iff_toInt_le, ← Int32.toInt_inj, show (33 : Int32).toInt = 33 from rfl, show (35 : Int32).toInt = 35 from rfl, show (36 : Int32).toInt = 36 from rfl, show (37 : Int32).toInt = 37 from rfl, show (38 : Int32).toInt = 38 from rfl, show (39 : Int32).toInt = 39 from rfl, show (42 : Int32).toInt = 42 from rfl, show (43 : Int32).toInt = 43 from rfl, show (45 : Int32).toInt = 45 from rfl, show (46 : Int32).toInt = 46 from rfl, show (48 : Int32).toInt = 48 from rfl, show (57 : Int32).toInt = 57 from rfl, show (65 : Int32).toInt = 65 from rfl, show (90 : Int32).toInt = 90 from rfl, show (94 : Int32).toInt = 94 from rfl, show (95 : Int32).toInt = 95 from rfl, show (96 : Int32).toInt = 96 from rfl, show (97 : Int32).toInt = 97 from rfl, show (122 : Int32).toInt = 122 from rfl, show (124 : Int32).toInt = 124 from rfl, show (126 : Int32).toInt = 126 from rfl] at hb403 hb404 hb437 hb438; omega)) (hT.mp q ch (mem_drop hch))⟩
                · refine GoKit.iconst G (1 : Int32) d5_78 rfl (pc' := 79) rfl ?_
                  refine GoKit.goto G d5_79 (by decide) (pc' := 83) rfl ?_
                  refine GoKit.istoreN G d5_83 (Ls' := #[.val (.ref a), .val (.int (1 : Int32)), .val (.int (0 : Int32)), .val (.int ch)]) rfl (pc' := 84) rfl ?_
                  refine GoKit.iinc G (1 : Int32) d5_84 rfl rfl (Ls' := #[.val (.ref a), .val (.int (1 : Int32)), .val (.int ((0 : Int32) + (1 : Int32))), .val (.int ch)]) rfl (pc' := 87) rfl ?_
                  show Run _ _ _ _ _ _ _ _ _ _ _ _ _ _ _ _ _ _ _ _ _ (mkF m 87 #[.val (.ref a), .val (.int (1 : Int32)), .val (.int (1 : Int32)), .val (.int ch)] [])
                  refine GoKit.goto G d5_87 (by decide) (pc' := 15) rfl ?_
                  have KP453 : Keep h h448 [] := ((Keep.refl h []).ext E442)
                  refine Run.mono (by decide) (by decide) (J1 _ _ _ (K.trans KP453 all0) ?_ (Or.inr ⟨_, rfl, rfl⟩))
                  exact Or.inr ⟨rfl, hT.trans (drop_step hch (lit_tch (Classical.byContradiction fun q => hb451 (by rw [idx_none q]; decide))))⟩
              · refine GoKit.iloadN G d5_63 rfl (pc' := 64) rfl ?_
                refine GoKit.bipush G (57 : Int32) d5_64 rfl (pc' := 66) rfl ?_
                refine GoKit.icmp_le G d5_66 (by decide) (pt := 78) (pf := 69) rfl rfl (fun hb454 => ?_) (fun hb454 => ?_)
                · refine GoKit.iconst G (1 : Int32) d5_78 rfl (pc' := 79) rfl ?_
                  refine GoKit.goto G d5_79 (by decide) (pc' := 83) rfl ?_
                  refine GoKit.istoreN G d5_83 (Ls' := #[.val (.ref a), .val (.int (1 : Int32)), .val (.int (0 : Int32)), .val (.int ch)]) rfl (pc' := 84) rfl ?_
                  refine GoKit.iinc G (1 : Int32) d5_84 rfl rfl (Ls' := #[.val (.ref a), .val (.int (1 : Int32)), .val (.int ((0 : Int32) + (1 : Int32))), .val (.int ch)]) rfl (pc' := 87) rfl ?_
                  show Run _ _ _ _ _ _ _ _ _ _ _ _ _ _ _ _ _ _ _ _ _ (mkF m 87 #[.val (.ref a), .val (.int (1 : Int32)), .val (.int (1 : Int32)), .val (.int ch)] [])
                  refine GoKit.goto G d5_87 (by decide) (pc' := 15) rfl ?_
                  refine Run.mono (by decide) (by decide) (J1 _ _ _ K ?_ (Or.inr ⟨_, rfl, rfl⟩))
                  exact Or.inr ⟨rfl, hT.trans (drop_step hch (by unfold tch; simp only [gt_iff_lt, ge_iff_le, ne_eq, Int32.lt_iff_toInt_lt, Int32.le_iff_toInt_le, ← Int32.toInt_inj, show (33 : Int32).toInt = 33 from rfl, show (35 : Int32).toInt = 35 from rfl, show (36 : Int32).toInt = 36 from rfl, show (37 : Int32).toInt = 37 from rfl, show (38 : Int32).toInt = 38 from rfl, show (39 : Int32).toInt = 39 from rfl, show (42 : Int32).toInt = 42 from rfl, show (43 : Int32).toInt = 43 from rfl, show (45 : Int32).toInt = 45 from rfl, show (46 : Int32).toInt = 46 from rfl, show (48 : Int32).toInt = 48 from rfl, show (57 : Int32).toInt = 57 from rfl, show (65 : Int32).toInt = 65 from rfl, show (90 : Int32).toInt = 90 from rfl, show (94 : Int32).toInt = 94 from rfl, show (95 : Int32).toInt = 95 from rfl, show (96 : Int32).toInt = 96 from rfl, show (97 : Int32).toInt = 97 from rfl, show (122 : Int32).toInt = 122 from rfl, show (124 : Int32).toInt = 124 from rfl, show (126 : Int32).toInt = 126 from rfl] at hb403 hb404 hb437 hb438 hb454; omega))⟩
                · refine GoKit.ldcStr G d5_69 rfl (wi hw 83 rfl) (wS hw) (by decide) (vs := [.int (33 : Int32), .int (35 : Int32), .int (36 : Int32), .int (37 : Int32), .int (38 : Int32), .int (39 : Int32), .int (42 : Int32), .int (43 : Int32), .int (45 : Int32), .int (46 : Int32), .int (94 : Int32), .int (95 : Int32), .int (96 : Int32), .int (124 : Int32), .int (126 : Int32)]) (z := (15 : Int32)) ⟨by decide +kernel, by decide +kernel⟩ (by decide) rfl (n := 60) (by decide +kernel) (by decide) (by decide) (by decide) (cells' := 2) (slots' := 64) rfl rfl (pc' := 71) rfl (fun a455 b456 k457 h464 E458 X459 FC460 FV461 A462 N463 => ?_)
                  have S465 : Lat Z h464 a455 [(33 : Int32), (35 : Int32), (36 : Int32), (37 : Int32), (38 : Int32), (39 : Int32), (42 : Int32), (43 : Int32), (45 : Int32), (46 : Int32), (94 : Int32), (95 : Int32), (96 : Int32), (124 : Int32), (126 : Int32)] := latLit X459 FC460 FV461 A462 rfl (by decide +kernel) (by decide +kernel)
                  have A466 : IA Z h464 b456 .byte (([(33 : Int32), (35 : Int32), (36 : Int32), (37 : Int32), (38 : Int32), (39 : Int32), (42 : Int32), (43 : Int32), (45 : Int32), (46 : Int32), (94 : Int32), (95 : Int32), (96 : Int32), (124 : Int32), (126 : Int32)] : List Int32).map fun c => c.toInt8.toInt32) := iaLit A462 rfl (by decide +kernel)
                  refine GoKit.iloadN G d5_71 rfl (pc' := 72) rfl ?_
                  refine GoKit.callVirtualP G d5_72 (wi hw 84 rfl) (wi hw 85 rfl) (wi hw 87 rfl) (wi hw 86 rfl) (wi hw 8 rfl) (wi hw 88 rfl) (by decide) S465.1 (W := 0) (argsL := [(.int ch)]) (rest := []) (con_idxL l hw (cs := litL) ch S465 HC) rfl (lenOf pd_4 rfl) rfl (by decide) (Nat.le_of_eq rfl) (by decide) (by decide) (by decide) (cells' := 2) (slots' := 64) rfl rfl (pc' := 75) rfl ?_
                  show Run _ _ _ _ _ _ _ _ _ _ _ _ _ _ _ _ _ _ _ _ _ (mkF m 75 #[.val (.ref a), .val (.int (1 : Int32)), .val (.int (0 : Int32)), .val (.int ch)] [(.int (idxFrom litL ch 0))])
                  refine GoKit.if_lt G d5_75 (by decide) (pt := 82) (pf := 78) rfl rfl (fun hb467 => ?_) (fun hb467 => ?_)
                  · refine GoKit.iconst G (0 : Int32) d5_82 rfl (pc' := 83) rfl ?_
                    refine GoKit.istoreN G d5_83 (Ls' := #[.val (.ref a), .val (.int (0 : Int32)), .val (.int (0 : Int32)), .val (.int ch)]) rfl (pc' := 84) rfl ?_
                    refine GoKit.iinc G (1 : Int32) d5_84 rfl rfl (Ls' := #[.val (.ref a), .val (.int (0 : Int32)), .val (.int ((0 : Int32) + (1 : Int32))), .val (.int ch)]) rfl (pc' := 87) rfl ?_
                    show Run _ _ _ _ _ _ _ _ _ _ _ _ _ _ _ _ _ _ _ _ _ (mkF m 87 #[.val (.ref a), .val (.int (0 : Int32)), .val (.int (1 : Int32)), .val (.int ch)] [])
                    refine GoKit.goto G d5_87 (by decide) (pc' := 15) rfl ?_
                    have KP468 : Keep h h464 [] := ((Keep.refl h []).ext E458)
                    refine Run.mono (by decide) (by decide) (J1 _ _ _ (K.trans KP468 all0) ?_ (Or.inr ⟨_, rfl, rfl⟩))
                    exact Or.inl ⟨rfl, fun q => (show ¬ tch ch from (by have hn := lit_no (fun q => idx_some lit_sm q hb467); unfold tch; simp only [gt_iff_lt, ge_iff_le, ne_eq, Int32.lt_iff_toInt_lt, Int32.le_iff_toInt_le, ← Int32.toInt_inj, show (33 : Int32).toInt = 33 from rfl, show (35 : Int32).toInt = 35 from rfl, show (36 : Int32).toInt = 36 from rfl, show (37 : Int32).toInt = 37 from rfl, show (38 : Int32).toInt = 38 from rfl, show (39 : Int32).toInt = 39 from rfl, show (42 : Int32).toInt = 42 from rfl, show (43 : Int32).toInt = 43 from rfl, show (45 : Int32).toInt = 45 from rfl, show (46 : Int32).toInt = 46 from rfl, show (48 : Int32).toInt = 48 from rfl, show (57 : Int32).toInt = 57 from rfl, show (65 : Int32).toInt = 65 from rfl, show (90 : Int32).toInt = 90 from rfl, show (94 : Int32).toInt = 94 from rfl, show (95 : Int32).toInt = 95 from rfl, show (96 : Int32).toInt = 96 from rfl, show (97 : Int32).toInt = 97 from rfl, show (122 : Int32).toInt = 122 from rfl, show (124 : Int32).toInt = 124 from rfl, show (126 : Int32).toInt = 126 from rfl] at hb403 hb404 hb437 hb438 hb454; omega)) (hT.mp q ch (mem_drop hch))⟩
                  · refine GoKit.iconst G (1 : Int32) d5_78 rfl (pc' := 79) rfl ?_
                    refine GoKit.goto G d5_79 (by decide) (pc' := 83) rfl ?_
                    refine GoKit.istoreN G d5_83 (Ls' := #[.val (.ref a), .val (.int (1 : Int32)), .val (.int (0 : Int32)), .val (.int ch)]) rfl (pc' := 84) rfl ?_
                    refine GoKit.iinc G (1 : Int32) d5_84 rfl rfl (Ls' := #[.val (.ref a), .val (.int (1 : Int32)), .val (.int ((0 : Int32) + (1 : Int32))), .val (.int ch)]) rfl (pc' := 87) rfl ?_
                    show Run _ _ _ _ _ _ _ _ _ _ _ _ _ _ _ _ _ _ _ _ _ (mkF m 87 #[.val (.ref a), .val (.int (1 : Int32)), .val (.int (1 : Int32)), .val (.int ch)] [])
                    refine GoKit.goto G d5_87 (by decide) (pc' := 15) rfl ?_
                    have KP469 : Keep h h464 [] := ((Keep.refl h []).ext E458)
                    refine Run.mono (by decide) (by decide) (J1 _ _ _ (K.trans KP469 all0) ?_ (Or.inr ⟨_, rfl, rfl⟩))
                    exact Or.inr ⟨rfl, hT.trans (drop_step hch (lit_tch (Classical.byContradiction fun q => hb467 (by rw [idx_none q]; decide))))⟩
        · refine GoKit.iloadN G d5_39 rfl (pc' := 40) rfl ?_
          refine GoKit.bipush G (122 : Int32) d5_40 rfl (pc' := 42) rfl ?_
          refine GoKit.icmp_le G d5_42 (by decide) (pt := 78) (pf := 45) rfl rfl (fun hb470 => ?_) (fun hb470 => ?_)
          · refine GoKit.iconst G (1 : Int32) d5_78 rfl (pc' := 79) rfl ?_
            refine GoKit.goto G d5_79 (by decide) (pc' := 83) rfl ?_
            refine GoKit.istoreN G d5_83 (Ls' := #[.val (.ref a), .val (.int (1 : Int32)), .val (.int (0 : Int32)), .val (.int ch)]) rfl (pc' := 84) rfl ?_
            refine GoKit.iinc G (1 : Int32) d5_84 rfl rfl (Ls' := #[.val (.ref a), .val (.int (1 : Int32)), .val (.int ((0 : Int32) + (1 : Int32))), .val (.int ch)]) rfl (pc' := 87) rfl ?_
            show Run _ _ _ _ _ _ _ _ _ _ _ _ _ _ _ _ _ _ _ _ _ (mkF m 87 #[.val (.ref a), .val (.int (1 : Int32)), .val (.int (1 : Int32)), .val (.int ch)] [])
            refine GoKit.goto G d5_87 (by decide) (pc' := 15) rfl ?_
            refine Run.mono (by decide) (by decide) (J1 _ _ _ K ?_ (Or.inr ⟨_, rfl, rfl⟩))
            exact Or.inr ⟨rfl, hT.trans (drop_step hch (by unfold tch; simp only [gt_iff_lt, ge_iff_le, ne_eq, Int32.lt_iff_toInt_lt, Int32.le_iff_toInt_le, ← Int32.toInt_inj, show (33 : Int32).toInt = 33 from rfl, show (35 : Int32).toInt = 35 from rfl, show (36 : Int32).toInt = 36 from rfl, show (37 : Int32).toInt = 37 from rfl, show (38 : Int32).toInt = 38 from rfl, show (39 : Int32).toInt = 39 from rfl, show (42 : Int32).toInt = 42 from rfl, show (43 : Int32).toInt = 43 from rfl, show (45 : Int32).toInt = 45 from rfl, show (46 : Int32).toInt = 46 from rfl, show (48 : Int32).toInt = 48 from rfl, show (57 : Int32).toInt = 57 from rfl, show (65 : Int32).toInt = 65 from rfl, show (90 : Int32).toInt = 90 from rfl, show (94 : Int32).toInt = 94 from rfl, show (95 : Int32).toInt = 95 from rfl, show (96 : Int32).toInt = 96 from rfl, show (97 : Int32).toInt = 97 from rfl, show (122 : Int32).toInt = 122 from rfl, show (124 : Int32).toInt = 124 from rfl, show (126 : Int32).toInt = 126 from rfl] at hb403 hb470; omega))⟩
          · refine GoKit.iloadN G d5_45 rfl (pc' := 46) rfl ?_
            refine GoKit.bipush G (65 : Int32) d5_46 rfl (pc' := 48) rfl ?_
            refine GoKit.icmp_lt G d5_48 (by decide) (pt := 57) (pf := 51) rfl rfl (fun hb471 => ?_) (fun hb471 => ?_)
            · refine GoKit.iloadN G d5_57 rfl (pc' := 58) rfl ?_
              refine GoKit.bipush G (48 : Int32) d5_58 rfl (pc' := 60) rfl ?_
              refine GoKit.icmp_lt G d5_60 (by decide) (pt := 69) (pf := 63) rfl rfl (fun hb472 => ?_) (fun hb472 => ?_)
              · refine GoKit.ldcStr G d5_69 rfl (wi hw 83 rfl) (wS hw) (by decide) (vs := [.int (33 : Int32), .int (35 : Int32), .int (36 : Int32), .int (37 : Int32), .int (38 : Int32), .int (39 : Int32), .int (42 : Int32), .int (43 : Int32), .int (45 : Int32), .int (46 : Int32), .int (94 : Int32), .int (95 : Int32), .int (96 : Int32), .int (124 : Int32), .int (126 : Int32)]) (z := (15 : Int32)) ⟨by decide +kernel, by decide +kernel⟩ (by decide) rfl (n := 60) (by decide +kernel) (by decide) (by decide) (by decide) (cells' := 2) (slots' := 64) rfl rfl (pc' := 71) rfl (fun a473 b474 k475 h482 E476 X477 FC478 FV479 A480 N481 => ?_)
                have S483 : Lat Z h482 a473 [(33 : Int32), (35 : Int32), (36 : Int32), (37 : Int32), (38 : Int32), (39 : Int32), (42 : Int32), (43 : Int32), (45 : Int32), (46 : Int32), (94 : Int32), (95 : Int32), (96 : Int32), (124 : Int32), (126 : Int32)] := latLit X477 FC478 FV479 A480 rfl (by decide +kernel) (by decide +kernel)
                have A484 : IA Z h482 b474 .byte (([(33 : Int32), (35 : Int32), (36 : Int32), (37 : Int32), (38 : Int32), (39 : Int32), (42 : Int32), (43 : Int32), (45 : Int32), (46 : Int32), (94 : Int32), (95 : Int32), (96 : Int32), (124 : Int32), (126 : Int32)] : List Int32).map fun c => c.toInt8.toInt32) := iaLit A480 rfl (by decide +kernel)
                refine GoKit.iloadN G d5_71 rfl (pc' := 72) rfl ?_
                refine GoKit.callVirtualP G d5_72 (wi hw 84 rfl) (wi hw 85 rfl) (wi hw 87 rfl) (wi hw 86 rfl) (wi hw 8 rfl) (wi hw 88 rfl) (by decide) S483.1 (W := 0) (argsL := [(.int ch)]) (rest := []) (con_idxL l hw (cs := litL) ch S483 HC) rfl (lenOf pd_4 rfl) rfl (by decide) (Nat.le_of_eq rfl) (by decide) (by decide) (by decide) (cells' := 2) (slots' := 64) rfl rfl (pc' := 75) rfl ?_
                show Run _ _ _ _ _ _ _ _ _ _ _ _ _ _ _ _ _ _ _ _ _ (mkF m 75 #[.val (.ref a), .val (.int (1 : Int32)), .val (.int (0 : Int32)), .val (.int ch)] [(.int (idxFrom litL ch 0))])
                refine GoKit.if_lt G d5_75 (by decide) (pt := 82) (pf := 78) rfl rfl (fun hb485 => ?_) (fun hb485 => ?_)
                · refine GoKit.iconst G (0 : Int32) d5_82 rfl (pc' := 83) rfl ?_
                  refine GoKit.istoreN G d5_83 (Ls' := #[.val (.ref a), .val (.int (0 : Int32)), .val (.int (0 : Int32)), .val (.int ch)]) rfl (pc' := 84) rfl ?_
                  refine GoKit.iinc G (1 : Int32) d5_84 rfl rfl (Ls' := #[.val (.ref a), .val (.int (0 : Int32)), .val (.int ((0 : Int32) + (1 : Int32))), .val (.int ch)]) rfl (pc' := 87) rfl ?_
                  show Run _ _ _ _ _ _ _ _ _ _ _ _ _ _ _ _ _ _ _ _ _ (mkF m 87 #[.val (.ref a), .val (.int (0 : Int32)), .val (.int (1 : Int32)), .val (.int ch)] [])
                  refine GoKit.goto G d5_87 (by decide) (pc' := 15) rfl ?_
                  have KP486 : Keep h h482 [] := ((Keep.refl h []).ext E476)
                  refine Run.mono (by decide) (by decide) (J1 _ _ _ (K.trans KP486 all0) ?_ (Or.inr ⟨_, rfl, rfl⟩))
                  exact Or.inl ⟨rfl, fun q => (show ¬ tch ch from (by have hn := lit_no (fun q => idx_some lit_sm q hb485); unfold tch; simp only [gt_iff_lt, ge_iff_le, ne_eq, Int32.lt_iff_toInt_lt, Int32.le_iff_toInt_le, ← Int32.toInt_inj, show (33 : Int32).toInt = 33 from rfl, show (35 : Int32).toInt = 35 from rfl, show (36 : Int32).toInt = 36 from rfl, show (37 : Int32).toInt = 37 from rfl, show (38 : Int32).toInt = 38 from rfl, show (39 : Int32).toInt = 39 from rfl, show (42 : Int32).toInt = 42 from rfl, show (43 : Int32).toInt = 43 from rfl, show (45 : Int32).toInt = 45 from rfl, show (46 : Int32).toInt = 46 from rfl, show (48 : Int32).toInt = 48 from rfl, show (57 : Int32).toInt = 57 from rfl, show (65 : Int32).toInt = 65 from rfl, show (90 : Int32).toInt = 90 from rfl, show (94 : Int32).toInt = 94 from rfl, show (95 : Int32).toInt = 95 from rfl, show (96 : Int32).toInt = 96 from rfl, show (97 : Int32).toInt = 97 from rfl, show (122 : Int32).toInt = 122 from rfl, show (124 : Int32).toInt = 124 from rfl, show (126 : Int32).toInt = 126 from rfl] at hb403 hb470 hb471 hb472; omega)) (hT.mp q ch (mem_drop hch))⟩
                · refine GoKit.iconst G (1 : Int32) d5_78 rfl (pc' := 79) rfl ?_
                  refine GoKit.goto G d5_79 (by decide) (pc' := 83) rfl ?_
                  refine GoKit.istoreN G d5_83 (Ls' := #[.val (.ref a), .val (.int (1 : Int32)), .val (.int (0 : Int32)), .val (.int ch)]) rfl (pc' := 84) rfl ?_
                  refine GoKit.iinc G (1 : Int32) d5_84 rfl rfl (Ls' := #[.val (.ref a), .val (.int (1 : Int32)), .val (.int ((0 : Int32) + (1 : Int32))), .val (.int ch)]) rfl (pc' := 87) rfl ?_
                  show Run _ _ _ _ _ _ _ _ _ _ _ _ _ _ _ _ _ _ _ _ _ (mkF m 87 #[.val (.ref a), .val (.int (1 : Int32)), .val (.int (1 : Int32)), .val (.int ch)] [])
                  refine GoKit.goto G d5_87 (by decide) (pc' := 15) rfl ?_
                  have KP487 : Keep h h482 [] := ((Keep.refl h []).ext E476)
                  refine Run.mono (by decide) (by decide) (J1 _ _ _ (K.trans KP487 all0) ?_ (Or.inr ⟨_, rfl, rfl⟩))
                  exact Or.inr ⟨rfl, hT.trans (drop_step hch (lit_tch (Classical.byContradiction fun q => hb485 (by rw [idx_none q]; decide))))⟩
              · refine GoKit.iloadN G d5_63 rfl (pc' := 64) rfl ?_
                refine GoKit.bipush G (57 : Int32) d5_64 rfl (pc' := 66) rfl ?_
                refine GoKit.icmp_le G d5_66 (by decide) (pt := 78) (pf := 69) rfl rfl (fun hb488 => ?_) (fun hb488 => ?_)
                · refine GoKit.iconst G (1 : Int32) d5_78 rfl (pc' := 79) rfl ?_
                  refine GoKit.goto G d5_79 (by decide) (pc' := 83) rfl ?_
                  refine GoKit.istoreN G d5_83 (Ls' := #[.val (.ref a), .val (.int (1 : Int32)), .val (.int (0 : Int32)), .val (.int ch)]) rfl (pc' := 84) rfl ?_
                  refine GoKit.iinc G (1 : Int32) d5_84 rfl rfl (Ls' := #[.val (.ref a), .val (.int (1 : Int32)), .val (.int ((0 : Int32) + (1 : Int32))), .val (.int ch)]) rfl (pc' := 87) rfl ?_
                  show Run _ _ _ _ _ _ _ _ _ _ _ _ _ _ _ _ _ _ _ _ _ (mkF m 87 #[.val (.ref a), .val (.int (1 : Int32)), .val (.int (1 : Int32)), .val (.int ch)] [])
                  refine GoKit.goto G d5_87 (by decide) (pc' := 15) rfl ?_
                  refine Run.mono (by decide) (by decide) (J1 _ _ _ K ?_ (Or.inr ⟨_, rfl, rfl⟩))
                  exact Or.inr ⟨rfl, hT.trans (drop_step hch (by unfold tch; simp only [gt_iff_lt, ge_iff_le, ne_eq, Int32.lt_iff_toInt_lt, Int32.le_iff_toInt_le, ← Int32.toInt_inj, show (33 : Int32).toInt = 33 from rfl, show (35 : Int32).toInt = 35 from rfl, show (36 : Int32).toInt = 36 from rfl, show (37 : Int32).toInt = 37 from rfl, show (38 : Int32).toInt = 38 from rfl, show (39 : Int32).toInt = 39 from rfl, show (42 : Int32).toInt = 42 from rfl, show (43 : Int32).toInt = 43 from rfl, show (45 : Int32).toInt = 45 from rfl, show (46 : Int32).toInt = 46 from rfl, show (48 : Int32).toInt = 48 from rfl, show (57 : Int32).toInt = 57 from rfl, show (65 : Int32).toInt = 65 from rfl, show (90 : Int32).toInt = 90 from rfl, show (94 : Int32).toInt = 94 from rfl, show (95 : Int32).toInt = 95 from rfl, show (96 : Int32).toInt = 96 from rfl, show (97 : Int32).toInt = 97 from rfl, show (122 : Int32).toInt = 122 from rfl, show (124 : Int32).toInt = 124 from rfl, show (126 : Int32).toInt = 126 from rfl] at hb403 hb470 hb471 hb472 hb488; omega))⟩
                · refine GoKit.ldcStr G d5_69 rfl (wi hw 83 rfl) (wS hw) (by decide) (vs := [.int (33 : Int32), .int (35 : Int32), .int (36 : Int32), .int (37 : Int32), .int (38 : Int32), .int (39 : Int32), .int (42 : Int32), .int (43 : Int32), .int (45 : Int32), .int (46 : Int32), .int (94 : Int32), .int (95 : Int32), .int (96 : Int32), .int (124 : Int32), .int (126 : Int32)]) (z := (15 : Int32)) ⟨by decide +kernel, by decide +kernel⟩ (by decide) rfl (n := 60) (by decide +kernel) (by decide) (by decide) (by decide) (cells' := 2) (slots' := 64) rfl rfl (pc' := 71) rfl (fun a489 b490 k491 h498 E492 X493 FC494 FV495 A496 N497 => ?_)
                  have S499 : Lat Z h498 a489 [(33 : Int32), (35 : Int32), (36 : Int32), (37 : Int32), (38 : Int32), (39 : Int32), (42 : Int32), (43 : Int32), (45 : Int32), (46 : Int32), (94 : Int32), (95 : Int32), (96 : Int32), (124 : Int32), (126 : Int32)] := latLit X493 FC494 FV495 A496 rfl (by decide +kernel) (by decide +kernel)
                  have A500 : IA Z h498 b490 .byte (([(33 : Int32), (35 : Int32), (36 : Int32), (37 : Int32), (38 : Int32), (39 : Int32), (42 : Int32), (43 : Int32), (45 : Int32), (46 : Int32), (94 : Int32), (95 : Int32), (96 : Int32), (124 : Int32), (126 : Int32)] : List Int32).map fun c => c.toInt8.toInt32) := iaLit A496 rfl (by decide +kernel)
                  refine GoKit.iloadN G d5_71 rfl (pc' := 72) rfl ?_
                  refine GoKit.callVirtualP G d5_72 (wi hw 84 rfl) (wi hw 85 rfl) (wi hw 87 rfl) (wi hw 86 rfl) (wi hw 8 rfl) (wi hw 88 rfl) (by decide) S499.1 (W := 0) (argsL := [(.int ch)]) (rest := []) (con_idxL l hw (cs := litL) ch S499 HC) rfl (lenOf pd_4 rfl) rfl (by decide) (Nat.le_of_eq rfl) (by decide) (by decide) (by decide) (cells' := 2) (slots' := 64) rfl rfl (pc' := 75) rfl ?_
                  show Run _ _ _ _ _ _ _ _ _ _ _ _ _ _ _ _ _ _ _ _ _ (mkF m 75 #[.val (.ref a), .val (.int (1 : Int32)), .val (.int (0 : Int32)), .val (.int ch)] [(.int (idxFrom litL ch 0))])
                  refine GoKit.if_lt G d5_75 (by decide) (pt := 82) (pf := 78) rfl rfl (fun hb501 => ?_) (fun hb501 => ?_)
                  · refine GoKit.iconst G (0 : Int32) d5_82 rfl (pc' := 83) rfl ?_
                    refine GoKit.istoreN G d5_83 (Ls' := #[.val (.ref a), .val (.int (0 : Int32)), .val (.int (0 : Int32)), .val (.int ch)]) rfl (pc' := 84) rfl ?_
                    refine GoKit.iinc G (1 : Int32) d5_84 rfl rfl (Ls' := #[.val (.ref a), .val (.int (0 : Int32)), .val (.int ((0 : Int32) + (1 : Int32))), .val (.int ch)]) rfl (pc' := 87) rfl ?_
                    show Run _ _ _ _ _ _ _ _ _ _ _ _ _ _ _ _ _ _ _ _ _ (mkF m 87 #[.val (.ref a), .val (.int (0 : Int32)), .val (.int (1 : Int32)), .val (.int ch)] [])
                    refine GoKit.goto G d5_87 (by decide) (pc' := 15) rfl ?_
                    have KP502 : Keep h h498 [] := ((Keep.refl h []).ext E492)
                    refine Run.mono (by decide) (by decide) (J1 _ _ _ (K.trans KP502 all0) ?_ (Or.inr ⟨_, rfl, rfl⟩))
                    exact Or.inl ⟨rfl, fun q => (show ¬ tch ch from (by have hn := lit_no (fun q => idx_some lit_sm q hb501); unfold tch; simp only [gt_iff_lt, ge_iff_le, ne_eq, Int32.lt_iff_toInt_lt, Int32.le_iff_toInt_le, ← Int32.toInt_inj, show (33 : Int32).toInt = 33 from rfl, show (35 : Int32).toInt = 35 from rfl, show (36 : Int32).toInt = 36 from rfl, show (37 : Int32).toInt = 37 from rfl, show (38 : Int32).toInt = 38 from rfl, show (39 : Int32).toInt = 39 from rfl, show (42 : Int32).toInt = 42 from rfl, show (43 : Int32).toInt = 43 from rfl, show (45 : Int32).toInt = 45 from rfl, show (46 : Int32).toInt = 46 from rfl, show (48 : Int32).toInt = 48 from rfl, show (57 : Int32).toInt = 57 from rfl, show (65 : Int32).toInt = 65 from rfl, show (90 : Int32).toInt = 90 from rfl, show (94 : Int32).toInt = 94 from rfl, show (95 : Int32).toInt = 95 from rfl, show (96 : Int32).toInt = 96 from rfl, show (97 : Int32).toInt = 97 from rfl, show (122 : Int32).toInt = 122 from rfl, show (124 : Int32).toInt = 124 from rfl, show (126 : Int32).toInt = 126 from rfl] at hb403 hb470 hb471 hb472 hb488; omega)) (hT.mp q ch (mem_drop hch))⟩
                  · refine GoKit.iconst G (1 : Int32) d5_78 rfl (pc' := 79) rfl ?_
                    refine GoKit.goto G d5_79 (by decide) (pc' := 83) rfl ?_
                    refine GoKit.istoreN G d5_83 (Ls' := #[.val (.ref a), .val (.int (1 : Int32)), .val (.int (0 : Int32)), .val (.int ch)]) rfl (pc' := 84) rfl ?_
                    refine GoKit.iinc G (1 : Int32) d5_84 rfl rfl (Ls' := #[.val (.ref a), .val (.int (1 : Int32)), .val (.int ((0 : Int32) + (1 : Int32))), .val (.int ch)]) rfl (pc' := 87) rfl ?_
                    show Run _ _ _ _ _ _ _ _ _ _ _ _ _ _ _ _ _ _ _ _ _ (mkF m 87 #[.val (.ref a), .val (.int (1 : Int32)), .val (.int (1 : Int32)), .val (.int ch)] [])
                    refine GoKit.goto G d5_87 (by decide) (pc' := 15) rfl ?_
                    have KP503 : Keep h h498 [] := ((Keep.refl h []).ext E492)
                    refine Run.mono (by decide) (by decide) (J1 _ _ _ (K.trans KP503 all0) ?_ (Or.inr ⟨_, rfl, rfl⟩))
                    exact Or.inr ⟨rfl, hT.trans (drop_step hch (lit_tch (Classical.byContradiction fun q => hb501 (by rw [idx_none q]; decide))))⟩
            · refine GoKit.iloadN G d5_51 rfl (pc' := 52) rfl ?_
              refine GoKit.bipush G (90 : Int32) d5_52 rfl (pc' := 54) rfl ?_
              refine GoKit.icmp_le G d5_54 (by decide) (pt := 78) (pf := 57) rfl rfl (fun hb504 => ?_) (fun hb504 => ?_)
              · refine GoKit.iconst G (1 : Int32) d5_78 rfl (pc' := 79) rfl ?_
                refine GoKit.goto G d5_79 (by decide) (pc' := 83) rfl ?_
                refine GoKit.istoreN G d5_83 (Ls' := #[.val (.ref a), .val (.int (1 : Int32)), .val (.int (0 : Int32)), .val (.int ch)]) rfl (pc' := 84) rfl ?_
                refine GoKit.iinc G (1 : Int32) d5_84 rfl rfl (Ls' := #[.val (.ref a), .val (.int (1 : Int32)), .val (.int ((0 : Int32) + (1 : Int32))), .val (.int ch)]) rfl (pc' := 87) rfl ?_
                show Run _ _ _ _ _ _ _ _ _ _ _ _ _ _ _ _ _ _ _ _ _ (mkF m 87 #[.val (.ref a), .val (.int (1 : Int32)), .val (.int (1 : Int32)), .val (.int ch)] [])
                refine GoKit.goto G d5_87 (by decide) (pc' := 15) rfl ?_
                refine Run.mono (by decide) (by decide) (J1 _ _ _ K ?_ (Or.inr ⟨_, rfl, rfl⟩))
                exact Or.inr ⟨rfl, hT.trans (drop_step hch (by unfold tch; simp only [gt_iff_lt, ge_iff_le, ne_eq, Int32.lt_iff_toInt_lt, Int32.le_iff_toInt_le, ← Int32.toInt_inj, show (33 : Int32).toInt = 33 from rfl, show (35 : Int32).toInt = 35 from rfl, show (36 : Int32).toInt = 36 from rfl, show (37 : Int32).toInt = 37 from rfl, show (38 : Int32).toInt = 38 from rfl, show (39 : Int32).toInt = 39 from rfl, show (42 : Int32).toInt = 42 from rfl, show (43 : Int32).toInt = 43 from rfl, show (45 : Int32).toInt = 45 from rfl, show (46 : Int32).toInt = 46 from rfl, show (48 : Int32).toInt = 48 from rfl, show (57 : Int32).toInt = 57 from rfl, show (65 : Int32).toInt = 65 from rfl, show (90 : Int32).toInt = 90 from rfl, show (94 : Int32).toInt = 94 from rfl, show (95 : Int32).toInt = 95 from rfl, show (96 : Int32).toInt = 96 from rfl, show (97 : Int32).toInt = 97 from rfl, show (122 : Int32).toInt = 122 from rfl, show (124 : Int32).toInt = 124 from rfl, show (126 : Int32).toInt = 126 from rfl] at hb403 hb470 hb471 hb504; omega))⟩
              · refine GoKit.iloadN G d5_57 rfl (pc' := 58) rfl ?_
                refine GoKit.bipush G (48 : Int32) d5_58 rfl (pc' := 60) rfl ?_
                refine GoKit.icmp_lt G d5_60 (by decide) (pt := 69) (pf := 63) rfl rfl (fun hb505 => ?_) (fun hb505 => ?_)
                · refine GoKit.ldcStr G d5_69 rfl (wi hw 83 rfl) (wS hw) (by decide) (vs := [.int (33 : Int32), .int (35 : Int32), .int (36 : Int32), .int (37 : Int32), .int (38 : Int32), .int (39 : Int32), .int (42 : Int32), .int (43 : Int32), .int (45 : Int32), .int (46 : Int32), .int (94 : Int32), .int (95 : Int32), .int (96 : Int32), .int (124 : Int32), .int (126 : Int32)]) (z := (15 : Int32)) ⟨by decide +kernel, by decide +kernel⟩ (by decide) rfl (n := 60) (by decide +kernel) (by decide) (by decide) (by decide) (cells' := 2) (slots' := 64) rfl rfl (pc' := 71) rfl (fun a506 b507 k508 h515 E509 X510 FC511 FV512 A513 N514 => ?_)
                  have S516 : Lat Z h515 a506 [(33 : Int32), (35 : Int32), (36 : Int32), (37 : Int32), (38 : Int32), (39 : Int32), (42 : Int32), (43 : Int32), (45 : Int32), (46 : Int32), (94 : Int32), (95 : Int32), (96 : Int32), (124 : Int32), (126 : Int32)] := latLit X510 FC511 FV512 A513 rfl (by decide +kernel) (by decide +kernel)
                  have A517 : IA Z h515 b507 .byte (([(33 : Int32), (35 : Int32), (36 : Int32), (37 : Int32), (38 : Int32), (39 : Int32), (42 : Int32), (43 : Int32), (45 : Int32), (46 : Int32), (94 : Int32), (95 : Int32), (96 : Int32), (124 : Int32), (126 : Int32)] : List Int32).map fun c => c.toInt8.toInt32) := iaLit A513 rfl (by decide +kernel)
                  refine GoKit.iloadN G d5_71 rfl (pc' := 72) rfl ?_
                  refine GoKit.callVirtualP G d5_72 (wi hw 84 rfl) (wi hw 85 rfl) (wi hw 87 rfl) (wi hw 86 rfl) (wi hw 8 rfl) (wi hw 88 rfl) (by decide) S516.1 (W := 0) (argsL := [(.int ch)]) (rest := []) (con_idxL l hw (cs := litL) ch S516 HC) rfl (lenOf pd_4 rfl) rfl (by decide) (Nat.le_of_eq rfl) (by decide) (by decide) (by decide) (cells' := 2) (slots' := 64) rfl rfl (pc' := 75) rfl ?_
                  show Run _ _ _ _ _ _ _ _ _ _ _ _ _ _ _ _ _ _ _ _ _ (mkF m 75 #[.val (.ref a), .val (.int (1 : Int32)), .val (.int (0 : Int32)), .val (.int ch)] [(.int (idxFrom litL ch 0))])
                  refine GoKit.if_lt G d5_75 (by decide) (pt := 82) (pf := 78) rfl rfl (fun hb518 => ?_) (fun hb518 => ?_)
                  · refine GoKit.iconst G (0 : Int32) d5_82 rfl (pc' := 83) rfl ?_
                    refine GoKit.istoreN G d5_83 (Ls' := #[.val (.ref a), .val (.int (0 : Int32)), .val (.int (0 : Int32)), .val (.int ch)]) rfl (pc' := 84) rfl ?_
                    refine GoKit.iinc G (1 : Int32) d5_84 rfl rfl (Ls' := #[.val (.ref a), .val (.int (0 : Int32)), .val (.int ((0 : Int32) + (1 : Int32))), .val (.int ch)]) rfl (pc' := 87) rfl ?_
                    show Run _ _ _ _ _ _ _ _ _ _ _ _ _ _ _ _ _ _ _ _ _ (mkF m 87 #[.val (.ref a), .val (.int (0 : Int32)), .val (.int (1 : Int32)), .val (.int ch)] [])
                    refine GoKit.goto G d5_87 (by decide) (pc' := 15) rfl ?_
                    have KP519 : Keep h h515 [] := ((Keep.refl h []).ext E509)
                    refine Run.mono (by decide) (by decide) (J1 _ _ _ (K.trans KP519 all0) ?_ (Or.inr ⟨_, rfl, rfl⟩))
                    exact Or.inl ⟨rfl, fun q => (show ¬ tch ch from (by have hn := lit_no (fun q => idx_some lit_sm q hb518); unfold tch; simp only [gt_iff_lt, ge_iff_le, ne_eq, Int32.lt_iff_toInt_lt, Int32.le_iff_toInt_le, ← Int32.toInt_inj, show (33 : Int32).toInt = 33 from rfl, show (35 : Int32).toInt = 35 from rfl, show (36 : Int32).toInt = 36 from rfl, show (37 : Int32).toInt = 37 from rfl, show (38 : Int32).toInt = 38 from rfl, show (39 : Int32).toInt = 39 from rfl, show (42 : Int32).toInt = 42 from rfl, show (43 : Int32).toInt = 43 from rfl, show (45 : Int32).toInt = 45 from rfl, show (46 : Int32).toInt = 46 from rfl, show (48 : Int32).toInt = 48 from rfl, show (57 : Int32).toInt = 57 from rfl, show (65 : Int32).toInt = 65 from rfl, show (90 : Int32).toInt = 90 from rfl, show (94 : Int32).toInt = 94 from rfl, show (95 : Int32).toInt = 95 from rfl, show (96 : Int32).toInt = 96 from rfl, show (97 : Int32).toInt = 97 from rfl, show (122 : Int32).toInt = 122 from rfl, show (124 : Int32).toInt = 124 from rfl, show (126 : Int32).toInt = 126 from rfl] at hb403 hb470 hb471 hb504 hb505; omega)) (hT.mp q ch (mem_drop hch))⟩
                  · refine GoKit.iconst G (1 : Int32) d5_78 rfl (pc' := 79) rfl ?_
                    refine GoKit.goto G d5_79 (by decide) (pc' := 83) rfl ?_
                    refine GoKit.istoreN G d5_83 (Ls' := #[.val (.ref a), .val (.int (1 : Int32)), .val (.int (0 : Int32)), .val (.int ch)]) rfl (pc' := 84) rfl ?_
                    refine GoKit.iinc G (1 : Int32) d5_84 rfl rfl (Ls' := #[.val (.ref a), .val (.int (1 : Int32)), .val (.int ((0 : Int32) + (1 : Int32))), .val (.int ch)]) rfl (pc' := 87) rfl ?_
                    show Run _ _ _ _ _ _ _ _ _ _ _ _ _ _ _ _ _ _ _ _ _ (mkF m 87 #[.val (.ref a), .val (.int (1 : Int32)), .val (.int (1 : Int32)), .val (.int ch)] [])
                    refine GoKit.goto G d5_87 (by decide) (pc' := 15) rfl ?_
                    have KP520 : Keep h h515 [] := ((Keep.refl h []).ext E509)
                    refine Run.mono (by decide) (by decide) (J1 _ _ _ (K.trans KP520 all0) ?_ (Or.inr ⟨_, rfl, rfl⟩))
                    exact Or.inr ⟨rfl, hT.trans (drop_step hch (lit_tch (Classical.byContradiction fun q => hb518 (by rw [idx_none q]; decide))))⟩
                · refine GoKit.iloadN G d5_63 rfl (pc' := 64) rfl ?_
                  refine GoKit.bipush G (57 : Int32) d5_64 rfl (pc' := 66) rfl ?_
                  refine GoKit.icmp_le G d5_66 (by decide) (pt := 78) (pf := 69) rfl rfl (fun hb521 => ?_) (fun hb521 => ?_)
                  · refine GoKit.iconst G (1 : Int32) d5_78 rfl (pc' := 79) rfl ?_
                    refine GoKit.goto G d5_79 (by decide) (pc' := 83) rfl ?_
                    refine GoKit.istoreN G d5_83 (Ls' := #[.val (.ref a), .val (.int (1 : Int32)), .val (.int (0 : Int32)), .val (.int ch)]) rfl (pc' := 84) rfl ?_
                    refine GoKit.iinc G (1 : Int32) d5_84 rfl rfl (Ls' := #[.val (.ref a), .val (.int (1 : Int32)), .val (.int ((0 : Int32) + (1 : Int32))), .val (.int ch)]) rfl (pc' := 87) rfl ?_
                    show Run _ _ _ _ _ _ _ _ _ _ _ _ _ _ _ _ _ _ _ _ _ (mkF m 87 #[.val (.ref a), .val (.int (1 : Int32)), .val (.int (1 : Int32)), .val (.int ch)] [])
                    refine GoKit.goto G d5_87 (by decide) (pc' := 15) rfl ?_
                    refine Run.mono (by decide) (by decide) (J1 _ _ _ K ?_ (Or.inr ⟨_, rfl, rfl⟩))
                    exact Or.inr ⟨rfl, hT.trans (drop_step hch (by unfold tch; simp only [gt_iff_lt, ge_iff_le, ne_eq, Int32.lt_iff_toInt_lt, Int32.le_iff_toInt_le, ← Int32.toInt_inj, show (33 : Int32).toInt = 33 from rfl, show (35 : Int32).toInt = 35 from rfl, show (36 : Int32).toInt = 36 from rfl, show (37 : Int32).toInt = 37 from rfl, show (38 : Int32).toInt = 38 from rfl, show (39 : Int32).toInt = 39 from rfl, show (42 : Int32).toInt = 42 from rfl, show (43 : Int32).toInt = 43 from rfl, show (45 : Int32).toInt = 45 from rfl, show (46 : Int32).toInt = 46 from rfl, show (48 : Int32).toInt = 48 from rfl, show (57 : Int32).toInt = 57 from rfl, show (65 : Int32).toInt = 65 from rfl, show (90 : Int32).toInt = 90 from rfl, show (94 : Int32).toInt = 94 from rfl, show (95 : Int32).toInt = 95 from rfl, show (96 : Int32).toInt = 96 from rfl, show (97 : Int32).toInt = 97 from rfl, show (122 : Int32).toInt = 122 from rfl, show (124 : Int32).toInt = 124 from rfl, show (126 : Int32).toInt = 126 from rfl] at hb403 hb470 hb471 hb504 hb505 hb521; omega))⟩
                  · refine GoKit.ldcStr G d5_69 rfl (wi hw 83 rfl) (wS hw) (by decide) (vs := [.int (33 : Int32), .int (35 : Int32), .int (36 : Int32), .int (37 : Int32), .int (38 : Int32), .int (39 : Int32), .int (42 : Int32), .int (43 : Int32), .int (45 : Int32), .int (46 : Int32), .int (94 : Int32), .int (95 : Int32), .int (96 : Int32), .int (124 : Int32), .int (126 : Int32)]) (z := (15 : Int32)) ⟨by decide +kernel, by decide +kernel⟩ (by decide) rfl (n := 60) (by decide +kernel) (by decide) (by decide) (by decide) (cells' := 2) (slots' := 64) rfl rfl (pc' := 71) rfl (fun a522 b523 k524 h531 E525 X526 FC527 FV528 A529 N530 => ?_)
                    have S532 : Lat Z h531 a522 [(33 : Int32), (35 : Int32), (36 : Int32), (37 : Int32), (38 : Int32), (39 : Int32), (42 : Int32), (43 : Int32), (45 : Int32), (46 : Int32), (94 : Int32), (95 : Int32), (96 : Int32), (124 : Int32), (126 : Int32)] := latLit X526 FC527 FV528 A529 rfl (by decide +kernel) (by decide +kernel)
                    have A533 : IA Z h531 b523 .byte (([(33 : Int32), (35 : Int32), (36 : Int32), (37 : Int32), (38 : Int32), (39 : Int32), (42 : Int32), (43 : Int32), (45 : Int32), (46 : Int32), (94 : Int32), (95 : Int32), (96 : Int32), (124 : Int32), (126 : Int32)] : List Int32).map fun c => c.toInt8.toInt32) := iaLit A529 rfl (by decide +kernel)
                    refine GoKit.iloadN G d5_71 rfl (pc' := 72) rfl ?_
                    refine GoKit.callVirtualP G d5_72 (wi hw 84 rfl) (wi hw 85 rfl) (wi hw 87 rfl) (wi hw 86 rfl) (wi hw 8 rfl) (wi hw 88 rfl) (by decide) S532.1 (W := 0) (argsL := [(.int ch)]) (rest := []) (con_idxL l hw (cs := litL) ch S532 HC) rfl (lenOf pd_4 rfl) rfl (by decide) (Nat.le_of_eq rfl) (by decide) (by decide) (by decide) (cells' := 2) (slots' := 64) rfl rfl (pc' := 75) rfl ?_
                    show Run _ _ _ _ _ _ _ _ _ _ _ _ _ _ _ _ _ _ _ _ _ (mkF m 75 #[.val (.ref a), .val (.int (1 : Int32)), .val (.int (0 : Int32)), .val (.int ch)] [(.int (idxFrom litL ch 0))])
                    refine GoKit.if_lt G d5_75 (by decide) (pt := 82) (pf := 78) rfl rfl (fun hb534 => ?_) (fun hb534 => ?_)
                    · refine GoKit.iconst G (0 : Int32) d5_82 rfl (pc' := 83) rfl ?_
                      refine GoKit.istoreN G d5_83 (Ls' := #[.val (.ref a), .val (.int (0 : Int32)), .val (.int (0 : Int32)), .val (.int ch)]) rfl (pc' := 84) rfl ?_
                      refine GoKit.iinc G (1 : Int32) d5_84 rfl rfl (Ls' := #[.val (.ref a), .val (.int (0 : Int32)), .val (.int ((0 : Int32) + (1 : Int32))), .val (.int ch)]) rfl (pc' := 87) rfl ?_
                      show Run _ _ _ _ _ _ _ _ _ _ _ _ _ _ _ _ _ _ _ _ _ (mkF m 87 #[.val (.ref a), .val (.int (0 : Int32)), .val (.int (1 : Int32)), .val (.int ch)] [])
                      refine GoKit.goto G d5_87 (by decide) (pc' := 15) rfl ?_
                      have KP535 : Keep h h531 [] := ((Keep.refl h []).ext E525)
                      refine Run.mono (by decide) (by decide) (J1 _ _ _ (K.trans KP535 all0) ?_ (Or.inr ⟨_, rfl, rfl⟩))
                      exact Or.inl ⟨rfl, fun q => (show ¬ tch ch from (by have hn := lit_no (fun q => idx_some lit_sm q hb534); unfold tch; simp only [gt_iff_lt, ge_iff_le, ne_eq, Int32.lt_iff_toInt_lt, Int32.le_iff_toInt_le, ← Int32.toInt_inj, show (33 : Int32).toInt = 33 from rfl, show (35 : Int32).toInt = 35 from rfl, show (36 : Int32).toInt = 36 from rfl, show (37 : Int32).toInt = 37 from rfl, show (38 : Int32).toInt = 38 from rfl, show (39 : Int32).toInt = 39 from rfl, show (42 : Int32).toInt = 42 from rfl, show (43 : Int32).toInt = 43 from rfl, show (45 : Int32).toInt = 45 from rfl, show (46 : Int32).toInt = 46 from rfl, show (48 : Int32).toInt = 48 from rfl, show (57 : Int32).toInt = 57 from rfl, show (65 : Int32).toInt = 65 from rfl, show (90 : Int32).toInt = 90 from rfl, show (94 : Int32).toInt = 94 from rfl, show (95 : Int32).toInt = 95 from rfl, show (96 : Int32).toInt = 96 from rfl, show (97 : Int32).toInt = 97 from rfl, show (122 : Int32).toInt = 122 from rfl, show (124 : Int32).toInt = 124 from rfl, show (126 : Int32).toInt = 126 from rfl] at hb403 hb470 hb471 hb504 hb505 hb521; omega)) (hT.mp q ch (mem_drop hch))⟩
                    · refine GoKit.iconst G (1 : Int32) d5_78 rfl (pc' := 79) rfl ?_
                      refine GoKit.goto G d5_79 (by decide) (pc' := 83) rfl ?_
                      refine GoKit.istoreN G d5_83 (Ls' := #[.val (.ref a), .val (.int (1 : Int32)), .val (.int (0 : Int32)), .val (.int ch)]) rfl (pc' := 84) rfl ?_
                      refine GoKit.iinc G (1 : Int32) d5_84 rfl rfl (Ls' := #[.val (.ref a), .val (.int (1 : Int32)), .val (.int ((0 : Int32) + (1 : Int32))), .val (.int ch)]) rfl (pc' := 87) rfl ?_
                      show Run _ _ _ _ _ _ _ _ _ _ _ _ _ _ _ _ _ _ _ _ _ (mkF m 87 #[.val (.ref a), .val (.int (1 : Int32)), .val (.int (1 : Int32)), .val (.int ch)] [])
                      refine GoKit.goto G d5_87 (by decide) (pc' := 15) rfl ?_
                      have KP536 : Keep h h531 [] := ((Keep.refl h []).ext E525)
                      refine Run.mono (by decide) (by decide) (J1 _ _ _ (K.trans KP536 all0) ?_ (Or.inr ⟨_, rfl, rfl⟩))
                      exact Or.inr ⟨rfl, hT.trans (drop_step hch (lit_tch (Classical.byContradiction fun q => hb534 (by rw [idx_none q]; decide))))⟩
      · refine GoKit.iloadN G d5_15 rfl (pc' := 16) rfl ?_
        refine GoKit.if_eq_f G d5_16 (by decide) (pc' := 19) rfl ?_
        refine GoKit.iloadN G d5_19 rfl (pc' := 20) rfl ?_
        refine GoKit.aloadN G d5_20 rfl rfl (pc' := 21) rfl ?_
        refine GoKit.callVirtualP G d5_21 (wi hw 51 rfl) (wi hw 52 rfl) (wi hw 54 rfl) (wi hw 53 rfl) (wi hw 8 rfl) (wi hw 55 rfl) (by decide) (str_exa S1) (W := 1) (argsL := []) (rest := [(.int (0 : Int32))]) (con_lenS l hw S1 HC) rfl (lenOf pd_17 rfl) rfl (by decide) (Nat.le_of_eq rfl) (by decide) (by decide) (by decide) (cells' := 0) (slots' := 0) rfl rfl (pc' := 24) rfl ?_
        show Run _ _ _ _ _ _ _ _ _ _ _ _ _ _ _ _ _ _ _ _ _ (mkF m 24 #[.val (.ref a), .val (.int (1 : Int32)), .val (.int (0 : Int32)), sl] [(.int cs.length.toInt32), (.int (0 : Int32))])
        refine GoKit.icmp_ge_t G d5_24 (fun q => hk ((toI_lt (i := 0) (by decide) (by omega)).mp q)) (by decide) (pc' := 90) rfl ?_
        refine GoKit.iloadN G d5_90 rfl (pc' := 91) rfl ?_
        refine GoKit.retNar G d5_91 (t := .boolean) rfl (by simp) (by decide) (by decide) ?_
        exact by rw [if_pos (hT.mpr (by rw [List.drop_eq_nil_of_le (by omega)]; intro c hc; cases hc))]; rfl
  refine GoKit.aloadN G d5_0 rfl rfl (pc' := 1) rfl ?_
  refine GoKit.callVirtualP G d5_1 (wi hw 32 rfl) (wi hw 33 rfl) (wi hw 35 rfl) (wi hw 34 rfl) (wi hw 8 rfl) (wi hw 36 rfl) (by decide) (str_exa S) (W := 0) (argsL := []) (rest := []) (con_isEmpS l hw S hne (by omega)) rfl (lenOf pd_13 rfl) rfl (by decide) (Nat.le_of_eq rfl) (by decide) (by decide) (by decide) (cells' := 0) (slots' := 0) rfl rfl (pc' := 4) rfl ?_
  show Run _ _ _ _ _ _ _ _ _ _ _ _ _ _ _ _ _ _ _ _ _ (mkF m 4 #[.val (.ref a), .unset, .unset, .unset] [(.int (0 : Int32))])
  refine GoKit.if_ne_f G d5_4 (by decide) (pc' := 7) rfl ?_
  refine GoKit.iconst G (1 : Int32) d5_7 rfl (pc' := 8) rfl ?_
  refine GoKit.goto G d5_8 (by decide) (pc' := 12) rfl ?_
  refine GoKit.istoreN G d5_12 (Ls' := #[.val (.ref a), .val (.int (1 : Int32)), .unset, .unset]) rfl (pc' := 13) rfl ?_
  refine GoKit.iconst G (0 : Int32) d5_13 rfl (pc' := 14) rfl ?_
  refine GoKit.istoreN G d5_14 (Ls' := #[.val (.ref a), .val (.int (1 : Int32)), .val (.int (0 : Int32)), .unset]) rfl (pc' := 15) rfl ?_
  exact J0 _ 1 .unset (Keep.refl _ _) (Or.inr ⟨rfl, fun q => q.2, fun q => ⟨hne, q⟩⟩) (Or.inl rfl)
theorem pd_20 : parseMethodDescriptor "(ICCCC)Ljava/lang/String;" = some ⟨[.int, .char, .char, .char, .char], some (.object "java/lang/String")⟩ := by decide +kernel
theorem pd_21 : parseMethodDescriptor "(Ljava/lang/String;)Z" = some ⟨[(.object "java/lang/String")], some .boolean⟩ := by decide +kernel
theorem pd_22 : parseMethodDescriptor "(C)Z" = some ⟨[.char], some .boolean⟩ := by decide +kernel
set_option maxRecDepth 65536 in
set_option maxHeartbeats 40000000 in
theorem con_law (l : Launch) {Z : State} {a0 : Array Value} (hw : ∀ d ∈ tables_1, d.before a0 Z = true) {n0 : Nat} {h0 : Heap} (p0 : Int32) (p1 : Int32) (p2 : Int32) (p3 : Int32) (p4 : Int32) (HC : Cst Z) (HF : Frm Z) (HU : Ust Z) :
    Con l Z true false ELs n0 x code maxLocals ret room_1 tables_1 #[(.int p0), (.int p1), (.int p2), (.int p3), (.int p4)] h0 [] (fun v h => v = some (.int 1)) := by
  refine Con.intro (plainFor_of_name pn_com_example_bowline_internal_AsciiIsTokenPinLaw) (hELs hw) ?_
  intro p e s m below meth c hh G
  refine castRun (g' := mkF m 0 #[.val (.int p0), .val (.int p1), .val (.int p2), .val (.int p3), .val (.int p4), .unset, .unset, .unset, .unset, .unset, .unset, .unset] []) (by first | rfl | (simp [entryFrame, mkF, argsToLocals, Value.category, maxLocals]; done)) ?_
  refine GoKit.iloadN G at_0 rfl (pc' := 1) rfl ?_
  refine GoKit.ldcInt G at_1 (wi hw 0 rfl) (pc' := 3) rfl ?_
  refine GoKit.iand G at_3 (pc' := 4) rfl (fun v1 hqv1 => ?_)
  refine GoKit.iconst G (5 : Int32) at_4 rfl (pc' := 5) rfl ?_
  refine GoKit.irem G at_5 (by decide) (pc' := 6) rfl (fun v2 hqv2 => ?_)
  rcases cases5 (v := v2) (and31_rem hqv1 hqv2 (by decide)) with rfl | rfl | rfl | rfl | rfl
  · refine GoKit.istore G at_6 (Ls' := #[.val (.int p0), .val (.int p1), .val (.int p2), .val (.int p3), .val (.int p4), .val (.int (0 : Int32)), .unset, .unset, .unset, .unset, .unset, .unset]) rfl (pc' := 8) rfl ?_
    refine GoKit.iloadN G at_8 rfl (pc' := 9) rfl ?_
    refine GoKit.ldcInt G at_9 (wi hw 1 rfl) (pc' := 11) rfl ?_
    refine GoKit.iand G at_11 (pc' := 12) rfl (fun v3 hqv3 => ?_)
    refine GoKit.i2c G at_12 (pc' := 13) rfl (fun v4 hqv4 => ?_)
    have c5 : nar .char v4 = v4 := by rw [hqv4]; exact nar_i2c _
    have l6 := i2c_rng hqv4
    refine GoKit.istore G at_13 (Ls' := #[.val (.int p0), .val (.int p1), .val (.int p2), .val (.int p3), .val (.int p4), .val (.int (0 : Int32)), .val (.int v4), .unset, .unset, .unset, .unset, .unset]) rfl (pc' := 15) rfl ?_
    refine GoKit.iloadN G at_15 rfl (pc' := 16) rfl ?_
    refine GoKit.ldcInt G at_16 (wi hw 1 rfl) (pc' := 18) rfl ?_
    refine GoKit.iand G at_18 (pc' := 19) rfl (fun v7 hqv7 => ?_)
    refine GoKit.i2c G at_19 (pc' := 20) rfl (fun v8 hqv8 => ?_)
    have c9 : nar .char v8 = v8 := by rw [hqv8]; exact nar_i2c _
    have l10 := i2c_rng hqv8
    refine GoKit.istore G at_20 (Ls' := #[.val (.int p0), .val (.int p1), .val (.int p2), .val (.int p3), .val (.int p4), .val (.int (0 : Int32)), .val (.int v4), .val (.int v8), .unset, .unset, .unset, .unset]) rfl (pc' := 22) rfl ?_
    refine GoKit.iloadN G at_22 rfl (pc' := 23) rfl ?_
    refine GoKit.ldcInt G at_23 (wi hw 1 rfl) (pc' := 25) rfl ?_
    refine GoKit.iand G at_25 (pc' := 26) rfl (fun v11 hqv11 => ?_)
    refine GoKit.i2c G at_26 (pc' := 27) rfl (fun v12 hqv12 => ?_)
    have c13 : nar .char v12 = v12 := by rw [hqv12]; exact nar_i2c _
    have l14 := i2c_rng hqv12
    refine GoKit.istore G at_27 (Ls' := #[.val (.int p0), .val (.int p1), .val (.int p2), .val (.int p3), .val (.int p4), .val (.int (0 : Int32)), .val (.int v4), .val (.int v8), .val (.int v12), .unset, .unset, .unset]) rfl (pc' := 29) rfl ?_
    refine GoKit.iload G at_29 rfl (pc' := 31) rfl ?_
    refine GoKit.ldcInt G at_31 (wi hw 1 rfl) (pc' := 33) rfl ?_
    refine GoKit.iand G at_33 (pc' := 34) rfl (fun v15 hqv15 => ?_)
    refine GoKit.i2c G at_34 (pc' := 35) rfl (fun v16 hqv16 => ?_)
    have c17 : nar .char v16 = v16 := by rw [hqv16]; exact nar_i2c _
    have l18 := i2c_rng hqv16
    refine GoKit.istore G at_35 (Ls' := #[.val (.int p0), .val (.int p1), .val (.int p2), .val (.int p3), .val (.int p4), .val (.int (0 : Int32)), .val (.int v4), .val (.int v8), .val (.int v12), .val (.int v16), .unset, .unset]) rfl (pc' := 37) rfl ?_
    refine GoKit.iload G at_37 rfl (pc' := 39) rfl ?_
    refine GoKit.iload G at_39 rfl (pc' := 41) rfl ?_
    refine GoKit.iload G at_41 rfl (pc' := 43) rfl ?_
    refine GoKit.iload G at_43 rfl (pc' := 45) rfl ?_
    refine GoKit.iload G at_45 rfl (pc' := 47) rfl ?_
    refine GoKit.callStatic G at_47 (wi hw 2 rfl) (wi hw 3 rfl) (wi hw 4 rfl) (wi hw 5 rfl) (by decide) (owc := []) (W := 0) (argsL := [(.int (0 : Int32)), (.int v4), (.int v8), (.int v12), (.int v16)]) (rest := []) (con_make0 l hw l6 l10 l14 l18 HC HU) rfl (lenOf pd_20 rfl) rfl (by decide) (Nat.le_of_eq rfl) (by decide) (by decide) (by decide) (fun _ q => nomatch q) (cells' := 6) (slots' := 12) rfl rfl (pc' := 50) rfl (fun r19 h22 q20 K21 => ?_)
    obtain ⟨a23, rfl, S24⟩ := q20
    show Run _ _ _ _ _ _ _ _ _ _ _ _ _ _ _ _ _ _ _ _ _ (mkF m 50 #[.val (.int p0), .val (.int p1), .val (.int p2), .val (.int p3), .val (.int p4), .val (.int (0 : Int32)), .val (.int v4), .val (.int v8), .val (.int v12), .val (.int v16), .unset, .unset] [(.ref a23)])
    refine GoKit.astore G at_50 rfl (Ls' := #[.val (.int p0), .val (.int p1), .val (.int p2), .val (.int p3), .val (.int p4), .val (.int (0 : Int32)), .val (.int v4), .val (.int v8), .val (.int v12), .val (.int v16), .val (.ref a23), .unset]) rfl (pc' := 52) rfl ?_
    refine GoKit.iload G at_52 rfl (pc' := 54) rfl ?_
    refine GoKit.if_le_t G at_54 (by decide) (by decide) (pc' := 117) rfl ?_
    refine GoKit.iconst G (0 : Int32) at_117 rfl (pc' := 118) rfl ?_
    refine GoKit.istore G at_118 (Ls' := #[.val (.int p0), .val (.int p1), .val (.int p2), .val (.int p3), .val (.int p4), .val (.int (0 : Int32)), .val (.int v4), .val (.int v8), .val (.int v12), .val (.int v16), .val (.ref a23), .val (.int (0 : Int32))]) rfl (pc' := 120) rfl ?_
    refine GoKit.aload G at_120 rfl rfl (pc' := 122) rfl ?_
    refine GoKit.callStatic G at_122 (wi hw 28 rfl) (wi hw 29 rfl) (wi hw 30 rfl) (wi hw 31 rfl) (by decide) (owc := []) (W := 0) (argsL := [(.ref a23)]) (rest := []) (con_tok0 l hw S24) rfl (lenOf pd_21 rfl) rfl (by decide) (Nat.le_of_eq rfl) (by decide) (by decide) (by decide) (fun _ q => nomatch q) (cells' := 6) (slots' := 12) rfl rfl (pc' := 125) rfl (fun r25 h28 q26 K27 => ?_)
    obtain rfl := q26
    show Run _ _ _ _ _ _ _ _ _ _ _ _ _ _ _ _ _ _ _ _ _ (mkF m 125 #[.val (.int p0), .val (.int p1), .val (.int p2), .val (.int p3), .val (.int p4), .val (.int (0 : Int32)), .val (.int v4), .val (.int v8), .val (.int v12), .val (.int v16), .val (.ref a23), .val (.int (0 : Int32))] [(.int (if T ([] : List Int32) then 1 else 0))])
    refine GoKit.iload G at_125 rfl (pc' := 127) rfl ?_
    refine GoKit.icmp_ne_f G at_127 (if_neg (fun r => r.1 rfl)) (pc' := 130) rfl ?_
    refine GoKit.iconst G (1 : Int32) at_130 rfl (pc' := 131) rfl ?_
    refine GoKit.goto G at_131 (by decide) (pc' := 135) rfl ?_
    refine GoKit.retNar G at_135 (t := .boolean) rfl (by simp) (by decide) (by decide) ?_
    exact rfl
  · refine GoKit.istore G at_6 (Ls' := #[.val (.int p0), .val (.int p1), .val (.int p2), .val (.int p3), .val (.int p4), .val (.int (1 : Int32)), .unset, .unset, .unset, .unset, .unset, .unset]) rfl (pc' := 8) rfl ?_
    refine GoKit.iloadN G at_8 rfl (pc' := 9) rfl ?_
    refine GoKit.ldcInt G at_9 (wi hw 1 rfl) (pc' := 11) rfl ?_
    refine GoKit.iand G at_11 (pc' := 12) rfl (fun v29 hqv29 => ?_)
    refine GoKit.i2c G at_12 (pc' := 13) rfl (fun v30 hqv30 => ?_)
    have c31 : nar .char v30 = v30 := by rw [hqv30]; exact nar_i2c _
    have l32 := i2c_rng hqv30
    refine GoKit.istore G at_13 (Ls' := #[.val (.int p0), .val (.int p1), .val (.int p2), .val (.int p3), .val (.int p4), .val (.int (1 : Int32)), .val (.int v30), .unset, .unset, .unset, .unset, .unset]) rfl (pc' := 15) rfl ?_
    refine GoKit.iloadN G at_15 rfl (pc' := 16) rfl ?_
    refine GoKit.ldcInt G at_16 (wi hw 1 rfl) (pc' := 18) rfl ?_
    refine GoKit.iand G at_18 (pc' := 19) rfl (fun v33 hqv33 => ?_)
    refine GoKit.i2c G at_19 (pc' := 20) rfl (fun v34 hqv34 => ?_)
    have c35 : nar .char v34 = v34 := by rw [hqv34]; exact nar_i2c _
    have l36 := i2c_rng hqv34
    refine GoKit.istore G at_20 (Ls' := #[.val (.int p0), .val (.int p1), .val (.int p2), .val (.int p3), .val (.int p4), .val (.int (1 : Int32)), .val (.int v30), .val (.int v34), .unset, .unset, .unset, .unset]) rfl (pc' := 22) rfl ?_
    refine GoKit.iloadN G at_22 rfl (pc' := 23) rfl ?_
    refine GoKit.ldcInt G at_23 (wi hw 1 rfl) (pc' := 25) rfl ?_
    refine GoKit.iand G at_25 (pc' := 26) rfl (fun v37 hqv37 => ?_)
    refine GoKit.i2c G at_26 (pc' := 27) rfl (fun v38 hqv38 => ?_)
    have c39 : nar .char v38 = v38 := by rw [hqv38]; exact nar_i2c _
    have l40 := i2c_rng hqv38
    refine GoKit.istore G at_27 (Ls' := #[.val (.int p0), .val (.int p1), .val (.int p2), .val (.int p3), .val (.int p4), .val (.int (1 : Int32)), .val (.int v30), .val (.int v34), .val (.int v38), .unset, .unset, .unset]) rfl (pc' := 29) rfl ?_
    refine GoKit.iload G at_29 rfl (pc' := 31) rfl ?_
    refine GoKit.ldcInt G at_31 (wi hw 1 rfl) (pc' := 33) rfl ?_
    refine GoKit.iand G at_33 (pc' := 34) rfl (fun v41 hqv41 => ?_)
    refine GoKit.i2c G at_34 (pc' := 35) rfl (fun v42 hqv42 => ?_)
    have c43 : nar .char v42 = v42 := by rw [hqv42]; exact nar_i2c _
    have l44 := i2c_rng hqv42
    refine GoKit.istore G at_35 (Ls' := #[.val (.int p0), .val (.int p1), .val (.int p2), .val (.int p3), .val (.int p4), .val (.int (1 : Int32)), .val (.int v30), .val (.int v34), .val (.int v38), .val (.int v42), .unset, .unset]) rfl (pc' := 37) rfl ?_
    refine GoKit.iload G at_37 rfl (pc' := 39) rfl ?_
    refine GoKit.iload G at_39 rfl (pc' := 41) rfl ?_
    refine GoKit.iload G at_41 rfl (pc' := 43) rfl ?_
    refine GoKit.iload G at_43 rfl (pc' := 45) rfl ?_
    refine GoKit.iload G at_45 rfl (pc' := 47) rfl ?_
    refine GoKit.callStatic G at_47 (wi hw 2 rfl) (wi hw 3 rfl) (wi hw 4 rfl) (wi hw 5 rfl) (by decide) (owc := []) (W := 0) (argsL := [(.int (1 : Int32)), (.int v30), (.int v34), (.int v38), (.int v42)]) (rest := []) (con_make1 l hw l32 l36 l40 l44 HC HU) rfl (lenOf pd_20 rfl) rfl (by decide) (Nat.le_of_eq rfl) (by decide) (by decide) (by decide) (fun _ q => nomatch q) (cells' := 4) (slots' := 17) rfl rfl (pc' := 50) rfl (fun r45 h48 q46 K47 => ?_)
    obtain ⟨a49, rfl, S50⟩ := q46
    show Run _ _ _ _ _ _ _ _ _ _ _ _ _ _ _ _ _ _ _ _ _ (mkF m 50 #[.val (.int p0), .val (.int p1), .val (.int p2), .val (.int p3), .val (.int p4), .val (.int (1 : Int32)), .val (.int v30), .val (.int v34), .val (.int v38), .val (.int v42), .unset, .unset] [(.ref a49)])
    refine GoKit.astore G at_50 rfl (Ls' := #[.val (.int p0), .val (.int p1), .val (.int p2), .val (.int p3), .val (.int p4), .val (.int (1 : Int32)), .val (.int v30), .val (.int v34), .val (.int v38), .val (.int v42), .val (.ref a49), .unset]) rfl (pc' := 52) rfl ?_
    refine GoKit.iload G at_52 rfl (pc' := 54) rfl ?_
    refine GoKit.if_le_f G at_54 (by decide) (pc' := 57) rfl ?_
    refine GoKit.iload G at_57 rfl (pc' := 59) rfl ?_
    refine GoKit.iconst G (1 : Int32) at_59 rfl (pc' := 60) rfl ?_
    refine GoKit.icmp_lt_f G at_60 (by decide) (pc' := 63) rfl ?_
    refine GoKit.iload G at_63 rfl (pc' := 65) rfl ?_
    refine GoKit.callStaticP G at_65 (wi hw 48 rfl) (wi hw 49 rfl) (wi hw 4 rfl) (wi hw 50 rfl) (by decide) (W := 0) (argsL := [(.int v30)]) (rest := []) (con_tchar l hw v30) rfl (lenOf pd_22 rfl) rfl (by decide) (Nat.le_of_eq rfl) (by decide) (by decide) (by decide) (cells' := 4) (slots' := 17) rfl rfl (pc' := 68) rfl ?_
    show Run _ _ _ _ _ _ _ _ _ _ _ _ _ _ _ _ _ _ _ _ _ (mkF m 68 #[.val (.int p0), .val (.int p1), .val (.int p2), .val (.int p3), .val (.int p4), .val (.int (1 : Int32)), .val (.int v30), .val (.int v34), .val (.int v38), .val (.int v42), .val (.ref a49), .unset] [(.int (if tch v30 then 1 else 0))])
    refine GoKit.if_eq G at_68 (by decide) (pt := 117) (pf := 71) rfl rfl (fun hb51 => ?_) (fun hb51 => ?_)
    · refine GoKit.iconst G (0 : Int32) at_117 rfl (pc' := 118) rfl ?_
      refine GoKit.istore G at_118 (Ls' := #[.val (.int p0), .val (.int p1), .val (.int p2), .val (.int p3), .val (.int p4), .val (.int (1 : Int32)), .val (.int v30), .val (.int v34), .val (.int v38), .val (.int v42), .val (.ref a49), .val (.int (0 : Int32))]) rfl (pc' := 120) rfl ?_
      refine GoKit.aload G at_120 rfl rfl (pc' := 122) rfl ?_
      refine GoKit.callStatic G at_122 (wi hw 28 rfl) (wi hw 29 rfl) (wi hw 30 rfl) (wi hw 31 rfl) (by decide) (owc := []) (W := 0) (argsL := [(.ref a49)]) (rest := []) (con_tok l hw S50 (by simp) (by simp) HC HF HU) rfl (lenOf pd_21 rfl) rfl (by decide) (Nat.le_of_eq rfl) (by decide) (by decide) (by decide) (fun _ q => nomatch q) (cells' := 12) (slots' := 273) rfl rfl (pc' := 125) rfl (fun r52 h55 q53 K54 => ?_)
      obtain rfl := q53
      show Run _ _ _ _ _ _ _ _ _ _ _ _ _ _ _ _ _ _ _ _ _ (mkF m 125 #[.val (.int p0), .val (.int p1), .val (.int p2), .val (.int p3), .val (.int p4), .val (.int (1 : Int32)), .val (.int v30), .val (.int v34), .val (.int v38), .val (.int v42), .val (.ref a49), .val (.int (0 : Int32))] [(.int (if T ([v30] : List Int32) then 1 else 0))])
      refine GoKit.iload G at_125 rfl (pc' := 127) rfl ?_
      refine GoKit.icmp_ne_f G at_127 (if_neg (fun r => (ite_f hb51) (r.2 _ (by simp)))) (pc' := 130) rfl ?_
      refine GoKit.iconst G (1 : Int32) at_130 rfl (pc' := 131) rfl ?_
      refine GoKit.goto G at_131 (by decide) (pc' := 135) rfl ?_
      refine GoKit.retNar G at_135 (t := .boolean) rfl (by simp) (by decide) (by decide) ?_
      exact rfl
    · refine GoKit.iload G at_71 rfl (pc' := 73) rfl ?_
      refine GoKit.iconst G (2 : Int32) at_73 rfl (pc' := 74) rfl ?_
      refine GoKit.icmp_lt_t G at_74 (by decide) (by decide) (pc' := 85) rfl ?_
      refine GoKit.iload G at_85 rfl (pc' := 87) rfl ?_
      refine GoKit.iconst G (3 : Int32) at_87 rfl (pc' := 88) rfl ?_
      refine GoKit.icmp_lt_t G at_88 (by decide) (by decide) (pc' := 99) rfl ?_
      refine GoKit.iload G at_99 rfl (pc' := 101) rfl ?_
      refine GoKit.iconst G (4 : Int32) at_101 rfl (pc' := 102) rfl ?_
      refine GoKit.icmp_lt_t G at_102 (by decide) (by decide) (pc' := 113) rfl ?_
      refine GoKit.iconst G (1 : Int32) at_113 rfl (pc' := 114) rfl ?_
      refine GoKit.goto G at_114 (by decide) (pc' := 118) rfl ?_
      refine GoKit.istore G at_118 (Ls' := #[.val (.int p0), .val (.int p1), .val (.int p2), .val (.int p3), .val (.int p4), .val (.int (1 : Int32)), .val (.int v30), .val (.int v34), .val (.int v38), .val (.int v42), .val (.ref a49), .val (.int (1 : Int32))]) rfl (pc' := 120) rfl ?_
      refine GoKit.aload G at_120 rfl rfl (pc' := 122) rfl ?_
      refine GoKit.callStatic G at_122 (wi hw 28 rfl) (wi hw 29 rfl) (wi hw 30 rfl) (wi hw 31 rfl) (by decide) (owc := []) (W := 0) (argsL := [(.ref a49)]) (rest := []) (con_tok l hw S50 (by simp) (by simp) HC HF HU) rfl (lenOf pd_21 rfl) rfl (by decide) (Nat.le_of_eq rfl) (by decide) (by decide) (by decide) (fun _ q => nomatch q) (cells' := 12) (slots' := 273) rfl rfl (pc' := 125) rfl (fun r56 h59 q57 K58 => ?_)
      obtain rfl := q57
      show Run _ _ _ _ _ _ _ _ _ _ _ _ _ _ _ _ _ _ _ _ _ (mkF m 125 #[.val (.int p0), .val (.int p1), .val (.int p2), .val (.int p3), .val (.int p4), .val (.int (1 : Int32)), .val (.int v30), .val (.int v34), .val (.int v38), .val (.int v42), .val (.ref a49), .val (.int (1 : Int32))] [(.int (if T ([v30] : List Int32) then 1 else 0))])
      refine GoKit.iload G at_125 rfl (pc' := 127) rfl ?_
      refine GoKit.icmp_ne_f G at_127 (if_pos ⟨by simp, by simp [(ite_t hb51)]⟩) (pc' := 130) rfl ?_
      refine GoKit.iconst G (1 : Int32) at_130 rfl (pc' := 131) rfl ?_
      refine GoKit.goto G at_131 (by decide) (pc' := 135) rfl ?_
      refine GoKit.retNar G at_135 (t := .boolean) rfl (by simp) (by decide) (by decide) ?_
      exact rfl
  · refine GoKit.istore G at_6 (Ls' := #[.val (.int p0), .val (.int p1), .val (.int p2), .val (.int p3), .val (.int p4), .val (.int (2 : Int32)), .unset, .unset, .unset, .unset, .unset, .unset]) rfl (pc' := 8) rfl ?_
    refine GoKit.iloadN G at_8 rfl (pc' := 9) rfl ?_
    refine GoKit.ldcInt G at_9 (wi hw 1 rfl) (pc' := 11) rfl ?_
    refine GoKit.iand G at_11 (pc' := 12) rfl (fun v60 hqv60 => ?_)
    refine GoKit.i2c G at_12 (pc' := 13) rfl (fun v61 hqv61 => ?_)
    have c62 : nar .char v61 = v61 := by rw [hqv61]; exact nar_i2c _
    have l63 := i2c_rng hqv61
    refine GoKit.istore G at_13 (Ls' := #[.val (.int p0), .val (.int p1), .val (.int p2), .val (.int p3), .val (.int p4), .val (.int (2 : Int32)), .val (.int v61), .unset, .unset, .unset, .unset, .unset]) rfl (pc' := 15) rfl ?_
    refine GoKit.iloadN G at_15 rfl (pc' := 16) rfl ?_
    refine GoKit.ldcInt G at_16 (wi hw 1 rfl) (pc' := 18) rfl ?_
    refine GoKit.iand G at_18 (pc' := 19) rfl (fun v64 hqv64 => ?_)
    refine GoKit.i2c G at_19 (pc' := 20) rfl (fun v65 hqv65 => ?_)
    have c66 : nar .char v65 = v65 := by rw [hqv65]; exact nar_i2c _
    have l67 := i2c_rng hqv65
    refine GoKit.istore G at_20 (Ls' := #[.val (.int p0), .val (.int p1), .val (.int p2), .val (.int p3), .val (.int p4), .val (.int (2 : Int32)), .val (.int v61), .val (.int v65), .unset, .unset, .unset, .unset]) rfl (pc' := 22) rfl ?_
    refine GoKit.iloadN G at_22 rfl (pc' := 23) rfl ?_
    refine GoKit.ldcInt G at_23 (wi hw 1 rfl) (pc' := 25) rfl ?_
    refine GoKit.iand G at_25 (pc' := 26) rfl (fun v68 hqv68 => ?_)
    refine GoKit.i2c G at_26 (pc' := 27) rfl (fun v69 hqv69 => ?_)
    have c70 : nar .char v69 = v69 := by rw [hqv69]; exact nar_i2c _
    have l71 := i2c_rng hqv69
    refine GoKit.istore G at_27 (Ls' := #[.val (.int p0), .val (.int p1), .val (.int p2), .val (.int p3), .val (.int p4), .val (.int (2 : Int32)), .val (.int v61), .val (.int v65), .val (.int v69), .unset, .unset, .unset]) rfl (pc' := 29) rfl ?_
    refine GoKit.iload G at_29 rfl (pc' := 31) rfl ?_
    refine GoKit.ldcInt G at_31 (wi hw 1 rfl) (pc' := 33) rfl ?_
    refine GoKit.iand G at_33 (pc' := 34) rfl (fun v72 hqv72 => ?_)
    refine GoKit.i2c G at_34 (pc' := 35) rfl (fun v73 hqv73 => ?_)
    have c74 : nar .char v73 = v73 := by rw [hqv73]; exact nar_i2c _
    have l75 := i2c_rng hqv73
    refine GoKit.istore G at_35 (Ls' := #[.val (.int p0), .val (.int p1), .val (.int p2), .val (.int p3), .val (.int p4), .val (.int (2 : Int32)), .val (.int v61), .val (.int v65), .val (.int v69), .val (.int v73), .unset, .unset]) rfl (pc' := 37) rfl ?_
    refine GoKit.iload G at_37 rfl (pc' := 39) rfl ?_
    refine GoKit.iload G at_39 rfl (pc' := 41) rfl ?_
    refine GoKit.iload G at_41 rfl (pc' := 43) rfl ?_
    refine GoKit.iload G at_43 rfl (pc' := 45) rfl ?_
    refine GoKit.iload G at_45 rfl (pc' := 47) rfl ?_
    refine GoKit.callStatic G at_47 (wi hw 2 rfl) (wi hw 3 rfl) (wi hw 4 rfl) (wi hw 5 rfl) (by decide) (owc := []) (W := 0) (argsL := [(.int (2 : Int32)), (.int v61), (.int v65), (.int v69), (.int v73)]) (rest := []) (con_make2 l hw l63 l67 l71 l75 HC HU) rfl (lenOf pd_20 rfl) rfl (by decide) (Nat.le_of_eq rfl) (by decide) (by decide) (by decide) (fun _ q => nomatch q) (cells' := 4) (slots' := 18) rfl rfl (pc' := 50) rfl (fun r76 h79 q77 K78 => ?_)
    obtain ⟨a80, rfl, S81⟩ := q77
    show Run _ _ _ _ _ _ _ _ _ _ _ _ _ _ _ _ _ _ _ _ _ (mkF m 50 #[.val (.int p0), .val (.int p1), .val (.int p2), .val (.int p3), .val (.int p4), .val (.int (2 : Int32)), .val (.int v61), .val (.int v65), .val (.int v69), .val (.int v73), .unset, .unset] [(.ref a80)])
    refine GoKit.astore G at_50 rfl (Ls' := #[.val (.int p0), .val (.int p1), .val (.int p2), .val (.int p3), .val (.int p4), .val (.int (2 : Int32)), .val (.int v61), .val (.int v65), .val (.int v69), .val (.int v73), .val (.ref a80), .unset]) rfl (pc' := 52) rfl ?_
    refine GoKit.iload G at_52 rfl (pc' := 54) rfl ?_
    refine GoKit.if_le_f G at_54 (by decide) (pc' := 57) rfl ?_
    refine GoKit.iload G at_57 rfl (pc' := 59) rfl ?_
    refine GoKit.iconst G (1 : Int32) at_59 rfl (pc' := 60) rfl ?_
    refine GoKit.icmp_lt_f G at_60 (by decide) (pc' := 63) rfl ?_
    refine GoKit.iload G at_63 rfl (pc' := 65) rfl ?_
    refine GoKit.callStaticP G at_65 (wi hw 48 rfl) (wi hw 49 rfl) (wi hw 4 rfl) (wi hw 50 rfl) (by decide) (W := 0) (argsL := [(.int v61)]) (rest := []) (con_tchar l hw v61) rfl (lenOf pd_22 rfl) rfl (by decide) (Nat.le_of_eq rfl) (by decide) (by decide) (by decide) (cells' := 4) (slots' := 18) rfl rfl (pc' := 68) rfl ?_
    show Run _ _ _ _ _ _ _ _ _ _ _ _ _ _ _ _ _ _ _ _ _ (mkF m 68 #[.val (.int p0), .val (.int p1), .val (.int p2), .val (.int p3), .val (.int p4), .val (.int (2 : Int32)), .val (.int v61), .val (.int v65), .val (.int v69), .val (.int v73), .val (.ref a80), .unset] [(.int (if tch v61 then 1 else 0))])
    refine GoKit.if_eq G at_68 (by decide) (pt := 117) (pf := 71) rfl rfl (fun hb82 => ?_) (fun hb82 => ?_)
    · refine GoKit.iconst G (0 : Int32) at_117 rfl (pc' := 118) rfl ?_
      refine GoKit.istore G at_118 (Ls' := #[.val (.int p0), .val (.int p1), .val (.int p2), .val (.int p3), .val (.int p4), .val (.int (2 : Int32)), .val (.int v61), .val (.int v65), .val (.int v69), .val (.int v73), .val (.ref a80), .val (.int (0 : Int32))]) rfl (pc' := 120) rfl ?_
      refine GoKit.aload G at_120 rfl rfl (pc' := 122) rfl ?_
      refine GoKit.callStatic G at_122 (wi hw 28 rfl) (wi hw 29 rfl) (wi hw 30 rfl) (wi hw 31 rfl) (by decide) (owc := []) (W := 0) (argsL := [(.ref a80)]) (rest := []) (con_tok l hw S81 (by simp) (by simp) HC HF HU) rfl (lenOf pd_21 rfl) rfl (by decide) (Nat.le_of_eq rfl) (by decide) (by decide) (by decide) (fun _ q => nomatch q) (cells' := 12) (slots' := 274) rfl rfl (pc' := 125) rfl (fun r83 h86 q84 K85 => ?_)
      obtain rfl := q84
      show Run _ _ _ _ _ _ _ _ _ _ _ _ _ _ _ _ _ _ _ _ _ (mkF m 125 #[.val (.int p0), .val (.int p1), .val (.int p2), .val (.int p3), .val (.int p4), .val (.int (2 : Int32)), .val (.int v61), .val (.int v65), .val (.int v69), .val (.int v73), .val (.ref a80), .val (.int (0 : Int32))] [(.int (if T ([v61, v65] : List Int32) then 1 else 0))])
      refine GoKit.iload G at_125 rfl (pc' := 127) rfl ?_
      refine GoKit.icmp_ne_f G at_127 (if_neg (fun r => (ite_f hb82) (r.2 _ (by simp)))) (pc' := 130) rfl ?_
      refine GoKit.iconst G (1 : Int32) at_130 rfl (pc' := 131) rfl ?_
      refine GoKit.goto G at_131 (by decide) (pc' := 135) rfl ?_
      refine GoKit.retNar G at_135 (t := .boolean) rfl (by simp) (by decide) (by decide) ?_
      exact rfl
    · refine GoKit.iload G at_71 rfl (pc' := 73) rfl ?_
      refine GoKit.iconst G (2 : Int32) at_73 rfl (pc' := 74) rfl ?_
      refine GoKit.icmp_lt_f G at_74 (by decide) (pc' := 77) rfl ?_
      refine GoKit.iload G at_77 rfl (pc' := 79) rfl ?_
      refine GoKit.callStaticP G at_79 (wi hw 48 rfl) (wi hw 49 rfl) (wi hw 4 rfl) (wi hw 50 rfl) (by decide) (W := 0) (argsL := [(.int v65)]) (rest := []) (con_tchar l hw v65) rfl (lenOf pd_22 rfl) rfl (by decide) (Nat.le_of_eq rfl) (by decide) (by decide) (by decide) (cells' := 4) (slots' := 18) rfl rfl (pc' := 82) rfl ?_
      show Run _ _ _ _ _ _ _ _ _ _ _ _ _ _ _ _ _ _ _ _ _ (mkF m 82 #[.val (.int p0), .val (.int p1), .val (.int p2), .val (.int p3), .val (.int p4), .val (.int (2 : Int32)), .val (.int v61), .val (.int v65), .val (.int v69), .val (.int v73), .val (.ref a80), .unset] [(.int (if tch v65 then 1 else 0))])
      refine GoKit.if_eq G at_82 (by decide) (pt := 117) (pf := 85) rfl rfl (fun hb87 => ?_) (fun hb87 => ?_)
      · refine GoKit.iconst G (0 : Int32) at_117 rfl (pc' := 118) rfl ?_
        refine GoKit.istore G at_118 (Ls' := #[.val (.int p0), .val (.int p1), .val (.int p2), .val (.int p3), .val (.int p4), .val (.int (2 : Int32)), .val (.int v61), .val (.int v65), .val (.int v69), .val (.int v73), .val (.ref a80), .val (.int (0 : Int32))]) rfl (pc' := 120) rfl ?_
        refine GoKit.aload G at_120 rfl rfl (pc' := 122) rfl ?_
        refine GoKit.callStatic G at_122 (wi hw 28 rfl) (wi hw 29 rfl) (wi hw 30 rfl) (wi hw 31 rfl) (by decide) (owc := []) (W := 0) (argsL := [(.ref a80)]) (rest := []) (con_tok l hw S81 (by simp) (by simp) HC HF HU) rfl (lenOf pd_21 rfl) rfl (by decide) (Nat.le_of_eq rfl) (by decide) (by decide) (by decide) (fun _ q => nomatch q) (cells' := 12) (slots' := 274) rfl rfl (pc' := 125) rfl (fun r88 h91 q89 K90 => ?_)
        obtain rfl := q89
        show Run _ _ _ _ _ _ _ _ _ _ _ _ _ _ _ _ _ _ _ _ _ (mkF m 125 #[.val (.int p0), .val (.int p1), .val (.int p2), .val (.int p3), .val (.int p4), .val (.int (2 : Int32)), .val (.int v61), .val (.int v65), .val (.int v69), .val (.int v73), .val (.ref a80), .val (.int (0 : Int32))] [(.int (if T ([v61, v65] : List Int32) then 1 else 0))])
        refine GoKit.iload G at_125 rfl (pc' := 127) rfl ?_
        refine GoKit.icmp_ne_f G at_127 (if_neg (fun r => (ite_f hb87) (r.2 _ (by simp)))) (pc' := 130) rfl ?_
        refine GoKit.iconst G (1 : Int32) at_130 rfl (pc' := 131) rfl ?_
        refine GoKit.goto G at_131 (by decide) (pc' := 135) rfl ?_
        refine GoKit.retNar G at_135 (t := .boolean) rfl (by simp) (by decide) (by decide) ?_
        exact rfl
      · refine GoKit.iload G at_85 rfl (pc' := 87) rfl ?_
        refine GoKit.iconst G (3 : Int32) at_87 rfl (pc' := 88) rfl ?_
        refine GoKit.icmp_lt_t G at_88 (by decide) (by decide) (pc' := 99) rfl ?_
        refine GoKit.iload G at_99 rfl (pc' := 101) rfl ?_
        refine GoKit.iconst G (4 : Int32) at_101 rfl (pc' := 102) rfl ?_
        refine GoKit.icmp_lt_t G at_102 (by decide) (by decide) (pc' := 113) rfl ?_
        refine GoKit.iconst G (1 : Int32) at_113 rfl (pc' := 114) rfl ?_
        refine GoKit.goto G at_114 (by decide) (pc' := 118) rfl ?_
        refine GoKit.istore G at_118 (Ls' := #[.val (.int p0), .val (.int p1), .val (.int p2), .val (.int p3), .val (.int p4), .val (.int (2 : Int32)), .val (.int v61), .val (.int v65), .val (.int v69), .val (.int v73), .val (.ref a80), .val (.int (1 : Int32))]) rfl (pc' := 120) rfl ?_
        refine GoKit.aload G at_120 rfl rfl (pc' := 122) rfl ?_
        refine GoKit.callStatic G at_122 (wi hw 28 rfl) (wi hw 29 rfl) (wi hw 30 rfl) (wi hw 31 rfl) (by decide) (owc := []) (W := 0) (argsL := [(.ref a80)]) (rest := []) (con_tok l hw S81 (by simp) (by simp) HC HF HU) rfl (lenOf pd_21 rfl) rfl (by decide) (Nat.le_of_eq rfl) (by decide) (by decide) (by decide) (fun _ q => nomatch q) (cells' := 12) (slots' := 274) rfl rfl (pc' := 125) rfl (fun r92 h95 q93 K94 => ?_)
        obtain rfl := q93
        show Run _ _ _ _ _ _ _ _ _ _ _ _ _ _ _ _ _ _ _ _ _ (mkF m 125 #[.val (.int p0), .val (.int p1), .val (.int p2), .val (.int p3), .val (.int p4), .val (.int (2 : Int32)), .val (.int v61), .val (.int v65), .val (.int v69), .val (.int v73), .val (.ref a80), .val (.int (1 : Int32))] [(.int (if T ([v61, v65] : List Int32) then 1 else 0))])
        refine GoKit.iload G at_125 rfl (pc' := 127) rfl ?_
        refine GoKit.icmp_ne_f G at_127 (if_pos ⟨by simp, by simp [(ite_t hb82), (ite_t hb87)]⟩) (pc' := 130) rfl ?_
        refine GoKit.iconst G (1 : Int32) at_130 rfl (pc' := 131) rfl ?_
        refine GoKit.goto G at_131 (by decide) (pc' := 135) rfl ?_
        refine GoKit.retNar G at_135 (t := .boolean) rfl (by simp) (by decide) (by decide) ?_
        exact rfl
  · refine GoKit.istore G at_6 (Ls' := #[.val (.int p0), .val (.int p1), .val (.int p2), .val (.int p3), .val (.int p4), .val (.int (3 : Int32)), .unset, .unset, .unset, .unset, .unset, .unset]) rfl (pc' := 8) rfl ?_
    refine GoKit.iloadN G at_8 rfl (pc' := 9) rfl ?_
    refine GoKit.ldcInt G at_9 (wi hw 1 rfl) (pc' := 11) rfl ?_
    refine GoKit.iand G at_11 (pc' := 12) rfl (fun v96 hqv96 => ?_)
    refine GoKit.i2c G at_12 (pc' := 13) rfl (fun v97 hqv97 => ?_)
    have c98 : nar .char v97 = v97 := by rw [hqv97]; exact nar_i2c _
    have l99 := i2c_rng hqv97
    refine GoKit.istore G at_13 (Ls' := #[.val (.int p0), .val (.int p1), .val (.int p2), .val (.int p3), .val (.int p4), .val (.int (3 : Int32)), .val (.int v97), .unset, .unset, .unset, .unset, .unset]) rfl (pc' := 15) rfl ?_
    refine GoKit.iloadN G at_15 rfl (pc' := 16) rfl ?_
    refine GoKit.ldcInt G at_16 (wi hw 1 rfl) (pc' := 18) rfl ?_
    refine GoKit.iand G at_18 (pc' := 19) rfl (fun v100 hqv100 => ?_)
    refine GoKit.i2c G at_19 (pc' := 20) rfl (fun v101 hqv101 => ?_)
    have c102 : nar .char v101 = v101 := by rw [hqv101]; exact nar_i2c _
    have l103 := i2c_rng hqv101
    refine GoKit.istore G at_20 (Ls' := #[.val (.int p0), .val (.int p1), .val (.int p2), .val (.int p3), .val (.int p4), .val (.int (3 : Int32)), .val (.int v97), .val (.int v101), .unset, .unset, .unset, .unset]) rfl (pc' := 22) rfl ?_
    refine GoKit.iloadN G at_22 rfl (pc' := 23) rfl ?_
    refine GoKit.ldcInt G at_23 (wi hw 1 rfl) (pc' := 25) rfl ?_
    refine GoKit.iand G at_25 (pc' := 26) rfl (fun v104 hqv104 => ?_)
    refine GoKit.i2c G at_26 (pc' := 27) rfl (fun v105 hqv105 => ?_)
    have c106 : nar .char v105 = v105 := by rw [hqv105]; exact nar_i2c _
    have l107 := i2c_rng hqv105
    refine GoKit.istore G at_27 (Ls' := #[.val (.int p0), .val (.int p1), .val (.int p2), .val (.int p3), .val (.int p4), .val (.int (3 : Int32)), .val (.int v97), .val (.int v101), .val (.int v105), .unset, .unset, .unset]) rfl (pc' := 29) rfl ?_
    refine GoKit.iload G at_29 rfl (pc' := 31) rfl ?_
    refine GoKit.ldcInt G at_31 (wi hw 1 rfl) (pc' := 33) rfl ?_
    refine GoKit.iand G at_33 (pc' := 34) rfl (fun v108 hqv108 => ?_)
    refine GoKit.i2c G at_34 (pc' := 35) rfl (fun v109 hqv109 => ?_)
    have c110 : nar .char v109 = v109 := by rw [hqv109]; exact nar_i2c _
    have l111 := i2c_rng hqv109
    refine GoKit.istore G at_35 (Ls' := #[.val (.int p0), .val (.int p1), .val (.int p2), .val (.int p3), .val (.int p4), .val (.int (3 : Int32)), .val (.int v97), .val (.int v101), .val (.int v105), .val (.int v109), .unset, .unset]) rfl (pc' := 37) rfl ?_
    refine GoKit.iload G at_37 rfl (pc' := 39) rfl ?_
    refine GoKit.iload G at_39 rfl (pc' := 41) rfl ?_
    refine GoKit.iload G at_41 rfl (pc' := 43) rfl ?_
    refine GoKit.iload G at_43 rfl (pc' := 45) rfl ?_
    refine GoKit.iload G at_45 rfl (pc' := 47) rfl ?_
    refine GoKit.callStatic G at_47 (wi hw 2 rfl) (wi hw 3 rfl) (wi hw 4 rfl) (wi hw 5 rfl) (by decide) (owc := []) (W := 0) (argsL := [(.int (3 : Int32)), (.int v97), (.int v101), (.int v105), (.int v109)]) (rest := []) (con_make3 l hw l99 l103 l107 l111 HC HU) rfl (lenOf pd_20 rfl) rfl (by decide) (Nat.le_of_eq rfl) (by decide) (by decide) (by decide) (fun _ q => nomatch q) (cells' := 4) (slots' := 19) rfl rfl (pc' := 50) rfl (fun r112 h115 q113 K114 => ?_)
    obtain ⟨a116, rfl, S117⟩ := q113
    show Run _ _ _ _ _ _ _ _ _ _ _ _ _ _ _ _ _ _ _ _ _ (mkF m 50 #[.val (.int p0), .val (.int p1), .val (.int p2), .val (.int p3), .val (.int p4), .val (.int (3 : Int32)), .val (.int v97), .val (.int v101), .val (.int v105), .val (.int v109), .unset, .unset] [(.ref a116)])
    refine GoKit.astore G at_50 rfl (Ls' := #[.val (.int p0), .val (.int p1), .val (.int p2), .val (.int p3), .val (.int p4), .val (.int (3 : Int32)), .val (.int v97), .val (.int v101), .val (.int v105), .val (.int v109), .val (.ref a116), .unset]) rfl (pc' := 52) rfl ?_
    refine GoKit.iload G at_52 rfl (pc' := 54) rfl ?_
    refine GoKit.if_le_f G at_54 (by decide) (pc' := 57) rfl ?_
    refine GoKit.iload G at_57 rfl (pc' := 59) rfl ?_
    refine GoKit.iconst G (1 : Int32) at_59 rfl (pc' := 60) rfl ?_
    refine GoKit.icmp_lt_f G at_60 (by decide) (pc' := 63) rfl ?_
    refine GoKit.iload G at_63 rfl (pc' := 65) rfl ?_
    refine GoKit.callStaticP G at_65 (wi hw 48 rfl) (wi hw 49 rfl) (wi hw 4 rfl) (wi hw 50 rfl) (by decide) (W := 0) (argsL := [(.int v97)]) (rest := []) (con_tchar l hw v97) rfl (lenOf pd_22 rfl) rfl (by decide) (Nat.le_of_eq rfl) (by decide) (by decide) (by decide) (cells' := 4) (slots' := 19) rfl rfl (pc' := 68) rfl ?_
    show Run _ _ _ _ _ _ _ _ _ _ _ _ _ _ _ _ _ _ _ _ _ (mkF m 68 #[.val (.int p0), .val (.int p1), .val (.int p2), .val (.int p3), .val (.int p4), .val (.int (3 : Int32)), .val (.int v97), .val (.int v101), .val (.int v105), .val (.int v109), .val (.ref a116), .unset] [(.int (if tch v97 then 1 else 0))])
    refine GoKit.if_eq G at_68 (by decide) (pt := 117) (pf := 71) rfl rfl (fun hb118 => ?_) (fun hb118 => ?_)
    · refine GoKit.iconst G (0 : Int32) at_117 rfl (pc' := 118) rfl ?_
      refine GoKit.istore G at_118 (Ls' := #[.val (.int p0), .val (.int p1), .val (.int p2), .val (.int p3), .val (.int p4), .val (.int (3 : Int32)), .val (.int v97), .val (.int v101), .val (.int v105), .val (.int v109), .val (.ref a116), .val (.int (0 : Int32))]) rfl (pc' := 120) rfl ?_
      refine GoKit.aload G at_120 rfl rfl (pc' := 122) rfl ?_
      refine GoKit.callStatic G at_122 (wi hw 28 rfl) (wi hw 29 rfl) (wi hw 30 rfl) (wi hw 31 rfl) (by decide) (owc := []) (W := 0) (argsL := [(.ref a116)]) (rest := []) (con_tok l hw S117 (by simp) (by simp) HC HF HU) rfl (lenOf pd_21 rfl) rfl (by decide) (Nat.le_of_eq rfl) (by decide) (by decide) (by decide) (fun _ q => nomatch q) (cells' := 12) (slots' := 275) rfl rfl (pc' := 125) rfl (fun r119 h122 q120 K121 => ?_)
      obtain rfl := q120
      show Run _ _ _ _ _ _ _ _ _ _ _ _ _ _ _ _ _ _ _ _ _ (mkF m 125 #[.val (.int p0), .val (.int p1), .val (.int p2), .val (.int p3), .val (.int p4), .val (.int (3 : Int32)), .val (.int v97), .val (.int v101), .val (.int v105), .val (.int v109), .val (.ref a116), .val (.int (0 : Int32))] [(.int (if T ([v97, v101, v105] : List Int32) then 1 else 0))])
      refine GoKit.iload G at_125 rfl (pc' := 127) rfl ?_
      refine GoKit.icmp_ne_f G at_127 (if_neg (fun r => (ite_f hb118) (r.2 _ (by simp)))) (pc' := 130) rfl ?_
      refine GoKit.iconst G (1 : Int32) at_130 rfl (pc' := 131) rfl ?_
      refine GoKit.goto G at_131 (by decide) (pc' := 135) rfl ?_
      refine GoKit.retNar G at_135 (t := .boolean) rfl (by simp) (by decide) (by decide) ?_
      exact rfl
    · refine GoKit.iload G at_71 rfl (pc' := 73) rfl ?_
      refine GoKit.iconst G (2 : Int32) at_73 rfl (pc' := 74) rfl ?_
      refine GoKit.icmp_lt_f G at_74 (by decide) (pc' := 77) rfl ?_
      refine GoKit.iload G at_77 rfl (pc' := 79) rfl ?_
      refine GoKit.callStaticP G at_79 (wi hw 48 rfl) (wi hw 49 rfl) (wi hw 4 rfl) (wi hw 50 rfl) (by decide) (W := 0) (argsL := [(.int v101)]) (rest := []) (con_tchar l hw v101) rfl (lenOf pd_22 rfl) rfl (by decide) (Nat.le_of_eq rfl) (by decide) (by decide) (by decide) (cells' := 4) (slots' := 19) rfl rfl (pc' := 82) rfl ?_
      show Run _ _ _ _ _ _ _ _ _ _ _ _ _ _ _ _ _ _ _ _ _ (mkF m 82 #[.val (.int p0), .val (.int p1), .val (.int p2), .val (.int p3), .val (.int p4), .val (.int (3 : Int32)), .val (.int v97), .val (.int v101), .val (.int v105), .val (.int v109), .val (.ref a116), .unset] [(.int (if tch v101 then 1 else 0))])
      refine GoKit.if_eq G at_82 (by decide) (pt := 117) (pf := 85) rfl rfl (fun hb123 => ?_) (fun hb123 => ?_)
      · refine GoKit.iconst G (0 : Int32) at_117 rfl (pc' := 118) rfl ?_
        refine GoKit.istore G at_118 (Ls' := #[.val (.int p0), .val (.int p1), .val (.int p2), .val (.int p3), .val (.int p4), .val (.int (3 : Int32)), .val (.int v97), .val (.int v101), .val (.int v105), .val (.int v109), .val (.ref a116), .val (.int (0 : Int32))]) rfl (pc' := 120) rfl ?_
        refine GoKit.aload G at_120 rfl rfl (pc' := 122) rfl ?_
        refine GoKit.callStatic G at_122 (wi hw 28 rfl) (wi hw 29 rfl) (wi hw 30 rfl) (wi hw 31 rfl) (by decide) (owc := []) (W := 0) (argsL := [(.ref a116)]) (rest := []) (con_tok l hw S117 (by simp) (by simp) HC HF HU) rfl (lenOf pd_21 rfl) rfl (by decide) (Nat.le_of_eq rfl) (by decide) (by decide) (by decide) (fun _ q => nomatch q) (cells' := 12) (slots' := 275) rfl rfl (pc' := 125) rfl (fun r124 h127 q125 K126 => ?_)
        obtain rfl := q125
        show Run _ _ _ _ _ _ _ _ _ _ _ _ _ _ _ _ _ _ _ _ _ (mkF m 125 #[.val (.int p0), .val (.int p1), .val (.int p2), .val (.int p3), .val (.int p4), .val (.int (3 : Int32)), .val (.int v97), .val (.int v101), .val (.int v105), .val (.int v109), .val (.ref a116), .val (.int (0 : Int32))] [(.int (if T ([v97, v101, v105] : List Int32) then 1 else 0))])
        refine GoKit.iload G at_125 rfl (pc' := 127) rfl ?_
        refine GoKit.icmp_ne_f G at_127 (if_neg (fun r => (ite_f hb123) (r.2 _ (by simp)))) (pc' := 130) rfl ?_
        refine GoKit.iconst G (1 : Int32) at_130 rfl (pc' := 131) rfl ?_
        refine GoKit.goto G at_131 (by decide) (pc' := 135) rfl ?_
        refine GoKit.retNar G at_135 (t := .boolean) rfl (by simp) (by decide) (by decide) ?_
        exact rfl
      · refine GoKit.iload G at_85 rfl (pc' := 87) rfl ?_
        refine GoKit.iconst G (3 : Int32) at_87 rfl (pc' := 88) rfl ?_
        refine GoKit.icmp_lt_f G at_88 (by decide) (pc' := 91) rfl ?_
        refine GoKit.iload G at_91 rfl (pc' := 93) rfl ?_
        refine GoKit.callStaticP G at_93 (wi hw 48 rfl) (wi hw 49 rfl) (wi hw 4 rfl) (wi hw 50 rfl) (by decide) (W := 0) (argsL := [(.int v105)]) (rest := []) (con_tchar l hw v105) rfl (lenOf pd_22 rfl) rfl (by decide) (Nat.le_of_eq rfl) (by decide) (by decide) (by decide) (cells' := 4) (slots' := 19) rfl rfl (pc' := 96) rfl ?_
        show Run _ _ _ _ _ _ _ _ _ _ _ _ _ _ _ _ _ _ _ _ _ (mkF m 96 #[.val (.int p0), .val (.int p1), .val (.int p2), .val (.int p3), .val (.int p4), .val (.int (3 : Int32)), .val (.int v97), .val (.int v101), .val (.int v105), .val (.int v109), .val (.ref a116), .unset] [(.int (if tch v105 then 1 else 0))])
        refine GoKit.if_eq G at_96 (by decide) (pt := 117) (pf := 99) rfl rfl (fun hb128 => ?_) (fun hb128 => ?_)
        · refine GoKit.iconst G (0 : Int32) at_117 rfl (pc' := 118) rfl ?_
          refine GoKit.istore G at_118 (Ls' := #[.val (.int p0), .val (.int p1), .val (.int p2), .val (.int p3), .val (.int p4), .val (.int (3 : Int32)), .val (.int v97), .val (.int v101), .val (.int v105), .val (.int v109), .val (.ref a116), .val (.int (0 : Int32))]) rfl (pc' := 120) rfl ?_
          refine GoKit.aload G at_120 rfl rfl (pc' := 122) rfl ?_
          refine GoKit.callStatic G at_122 (wi hw 28 rfl) (wi hw 29 rfl) (wi hw 30 rfl) (wi hw 31 rfl) (by decide) (owc := []) (W := 0) (argsL := [(.ref a116)]) (rest := []) (con_tok l hw S117 (by simp) (by simp) HC HF HU) rfl (lenOf pd_21 rfl) rfl (by decide) (Nat.le_of_eq rfl) (by decide) (by decide) (by decide) (fun _ q => nomatch q) (cells' := 12) (slots' := 275) rfl rfl (pc' := 125) rfl (fun r129 h132 q130 K131 => ?_)
          obtain rfl := q130
          show Run _ _ _ _ _ _ _ _ _ _ _ _ _ _ _ _ _ _ _ _ _ (mkF m 125 #[.val (.int p0), .val (.int p1), .val (.int p2), .val (.int p3), .val (.int p4), .val (.int (3 : Int32)), .val (.int v97), .val (.int v101), .val (.int v105), .val (.int v109), .val (.ref a116), .val (.int (0 : Int32))] [(.int (if T ([v97, v101, v105] : List Int32) then 1 else 0))])
          refine GoKit.iload G at_125 rfl (pc' := 127) rfl ?_
          refine GoKit.icmp_ne_f G at_127 (if_neg (fun r => (ite_f hb128) (r.2 _ (by simp)))) (pc' := 130) rfl ?_
          refine GoKit.iconst G (1 : Int32) at_130 rfl (pc' := 131) rfl ?_
          refine GoKit.goto G at_131 (by decide) (pc' := 135) rfl ?_
          refine GoKit.retNar G at_135 (t := .boolean) rfl (by simp) (by decide) (by decide) ?_
          exact rfl
        · refine GoKit.iload G at_99 rfl (pc' := 101) rfl ?_
          refine GoKit.iconst G (4 : Int32) at_101 rfl (pc' := 102) rfl ?_
          refine GoKit.icmp_lt_t G at_102 (by decide) (by decide) (pc' := 113) rfl ?_
          refine GoKit.iconst G (1 : Int32) at_113 rfl (pc' := 114) rfl ?_
          refine GoKit.goto G at_114 (by decide) (pc' := 118) rfl ?_
          refine GoKit.istore G at_118 (Ls' := #[.val (.int p0), .val (.int p1), .val (.int p2), .val (.int p3), .val (.int p4), .val (.int (3 : Int32)), .val (.int v97), .val (.int v101), .val (.int v105), .val (.int v109), .val (.ref a116), .val (.int (1 : Int32))]) rfl (pc' := 120) rfl ?_
          refine GoKit.aload G at_120 rfl rfl (pc' := 122) rfl ?_
          refine GoKit.callStatic G at_122 (wi hw 28 rfl) (wi hw 29 rfl) (wi hw 30 rfl) (wi hw 31 rfl) (by decide) (owc := []) (W := 0) (argsL := [(.ref a116)]) (rest := []) (con_tok l hw S117 (by simp) (by simp) HC HF HU) rfl (lenOf pd_21 rfl) rfl (by decide) (Nat.le_of_eq rfl) (by decide) (by decide) (by decide) (fun _ q => nomatch q) (cells' := 12) (slots' := 275) rfl rfl (pc' := 125) rfl (fun r133 h136 q134 K135 => ?_)
          obtain rfl := q134
          show Run _ _ _ _ _ _ _ _ _ _ _ _ _ _ _ _ _ _ _ _ _ (mkF m 125 #[.val (.int p0), .val (.int p1), .val (.int p2), .val (.int p3), .val (.int p4), .val (.int (3 : Int32)), .val (.int v97), .val (.int v101), .val (.int v105), .val (.int v109), .val (.ref a116), .val (.int (1 : Int32))] [(.int (if T ([v97, v101, v105] : List Int32) then 1 else 0))])
          refine GoKit.iload G at_125 rfl (pc' := 127) rfl ?_
          refine GoKit.icmp_ne_f G at_127 (if_pos ⟨by simp, by simp [(ite_t hb118), (ite_t hb123), (ite_t hb128)]⟩) (pc' := 130) rfl ?_
          refine GoKit.iconst G (1 : Int32) at_130 rfl (pc' := 131) rfl ?_
          refine GoKit.goto G at_131 (by decide) (pc' := 135) rfl ?_
          refine GoKit.retNar G at_135 (t := .boolean) rfl (by simp) (by decide) (by decide) ?_
          exact rfl
  · refine GoKit.istore G at_6 (Ls' := #[.val (.int p0), .val (.int p1), .val (.int p2), .val (.int p3), .val (.int p4), .val (.int (4 : Int32)), .unset, .unset, .unset, .unset, .unset, .unset]) rfl (pc' := 8) rfl ?_
    refine GoKit.iloadN G at_8 rfl (pc' := 9) rfl ?_
    refine GoKit.ldcInt G at_9 (wi hw 1 rfl) (pc' := 11) rfl ?_
    refine GoKit.iand G at_11 (pc' := 12) rfl (fun v137 hqv137 => ?_)
    refine GoKit.i2c G at_12 (pc' := 13) rfl (fun v138 hqv138 => ?_)
    have c139 : nar .char v138 = v138 := by rw [hqv138]; exact nar_i2c _
    have l140 := i2c_rng hqv138
    refine GoKit.istore G at_13 (Ls' := #[.val (.int p0), .val (.int p1), .val (.int p2), .val (.int p3), .val (.int p4), .val (.int (4 : Int32)), .val (.int v138), .unset, .unset, .unset, .unset, .unset]) rfl (pc' := 15) rfl ?_
    refine GoKit.iloadN G at_15 rfl (pc' := 16) rfl ?_
    refine GoKit.ldcInt G at_16 (wi hw 1 rfl) (pc' := 18) rfl ?_
    refine GoKit.iand G at_18 (pc' := 19) rfl (fun v141 hqv141 => ?_)
    refine GoKit.i2c G at_19 (pc' := 20) rfl (fun v142 hqv142 => ?_)
    have c143 : nar .char v142 = v142 := by rw [hqv142]; exact nar_i2c _
    have l144 := i2c_rng hqv142
    refine GoKit.istore G at_20 (Ls' := #[.val (.int p0), .val (.int p1), .val (.int p2), .val (.int p3), .val (.int p4), .val (.int (4 : Int32)), .val (.int v138), .val (.int v142), .unset, .unset, .unset, .unset]) rfl (pc' := 22) rfl ?_
    refine GoKit.iloadN G at_22 rfl (pc' := 23) rfl ?_
    refine GoKit.ldcInt G at_23 (wi hw 1 rfl) (pc' := 25) rfl ?_
    refine GoKit.iand G at_25 (pc' := 26) rfl (fun v145 hqv145 => ?_)
    refine GoKit.i2c G at_26 (pc' := 27) rfl (fun v146 hqv146 => ?_)
    have c147 : nar .char v146 = v146 := by rw [hqv146]; exact nar_i2c _
    have l148 := i2c_rng hqv146
    refine GoKit.istore G at_27 (Ls' := #[.val (.int p0), .val (.int p1), .val (.int p2), .val (.int p3), .val (.int p4), .val (.int (4 : Int32)), .val (.int v138), .val (.int v142), .val (.int v146), .unset, .unset, .unset]) rfl (pc' := 29) rfl ?_
    refine GoKit.iload G at_29 rfl (pc' := 31) rfl ?_
    refine GoKit.ldcInt G at_31 (wi hw 1 rfl) (pc' := 33) rfl ?_
    refine GoKit.iand G at_33 (pc' := 34) rfl (fun v149 hqv149 => ?_)
    refine GoKit.i2c G at_34 (pc' := 35) rfl (fun v150 hqv150 => ?_)
    have c151 : nar .char v150 = v150 := by rw [hqv150]; exact nar_i2c _
    have l152 := i2c_rng hqv150
    refine GoKit.istore G at_35 (Ls' := #[.val (.int p0), .val (.int p1), .val (.int p2), .val (.int p3), .val (.int p4), .val (.int (4 : Int32)), .val (.int v138), .val (.int v142), .val (.int v146), .val (.int v150), .unset, .unset]) rfl (pc' := 37) rfl ?_
    refine GoKit.iload G at_37 rfl (pc' := 39) rfl ?_
    refine GoKit.iload G at_39 rfl (pc' := 41) rfl ?_
    refine GoKit.iload G at_41 rfl (pc' := 43) rfl ?_
    refine GoKit.iload G at_43 rfl (pc' := 45) rfl ?_
    refine GoKit.iload G at_45 rfl (pc' := 47) rfl ?_
    refine GoKit.callStatic G at_47 (wi hw 2 rfl) (wi hw 3 rfl) (wi hw 4 rfl) (wi hw 5 rfl) (by decide) (owc := []) (W := 0) (argsL := [(.int (4 : Int32)), (.int v138), (.int v142), (.int v146), (.int v150)]) (rest := []) (con_make4 l hw l140 l144 l148 l152 HC HU) rfl (lenOf pd_20 rfl) rfl (by decide) (Nat.le_of_eq rfl) (by decide) (by decide) (by decide) (fun _ q => nomatch q) (cells' := 4) (slots' := 20) rfl rfl (pc' := 50) rfl (fun r153 h156 q154 K155 => ?_)
    obtain ⟨a157, rfl, S158⟩ := q154
    show Run _ _ _ _ _ _ _ _ _ _ _ _ _ _ _ _ _ _ _ _ _ (mkF m 50 #[.val (.int p0), .val (.int p1), .val (.int p2), .val (.int p3), .val (.int p4), .val (.int (4 : Int32)), .val (.int v138), .val (.int v142), .val (.int v146), .val (.int v150), .unset, .unset] [(.ref a157)])
    refine GoKit.astore G at_50 rfl (Ls' := #[.val (.int p0), .val (.int p1), .val (.int p2), .val (.int p3), .val (.int p4), .val (.int (4 : Int32)), .val (.int v138), .val (.int v142), .val (.int v146), .val (.int v150), .val (.ref a157), .unset]) rfl (pc' := 52) rfl ?_
    refine GoKit.iload G at_52 rfl (pc' := 54) rfl ?_
    refine GoKit.if_le_f G at_54 (by decide) (pc' := 57) rfl ?_
    refine GoKit.iload G at_57 rfl (pc' := 59) rfl ?_
    refine GoKit.iconst G (1 : Int32) at_59 rfl (pc' := 60) rfl ?_
    refine GoKit.icmp_lt_f G at_60 (by decide) (pc' := 63) rfl ?_
    refine GoKit.iload G at_63 rfl (pc' := 65) rfl ?_
    refine GoKit.callStaticP G at_65 (wi hw 48 rfl) (wi hw 49 rfl) (wi hw 4 rfl) (wi hw 50 rfl) (by decide) (W := 0) (argsL := [(.int v138)]) (rest := []) (con_tchar l hw v138) rfl (lenOf pd_22 rfl) rfl (by decide) (Nat.le_of_eq rfl) (by decide) (by decide) (by decide) (cells' := 4) (slots' := 20) rfl rfl (pc' := 68) rfl ?_
    show Run _ _ _ _ _ _ _ _ _ _ _ _ _ _ _ _ _ _ _ _ _ (mkF m 68 #[.val (.int p0), .val (.int p1), .val (.int p2), .val (.int p3), .val (.int p4), .val (.int (4 : Int32)), .val (.int v138), .val (.int v142), .val (.int v146), .val (.int v150), .val (.ref a157), .unset] [(.int (if tch v138 then 1 else 0))])
    refine GoKit.if_eq G at_68 (by decide) (pt := 117) (pf := 71) rfl rfl (fun hb159 => ?_) (fun hb159 => ?_)
    · refine GoKit.iconst G (0 : Int32) at_117 rfl (pc' := 118) rfl ?_
      refine GoKit.istore G at_118 (Ls' := #[.val (.int p0), .val (.int p1), .val (.int p2), .val (.int p3), .val (.int p4), .val (.int (4 : Int32)), .val (.int v138), .val (.int v142), .val (.int v146), .val (.int v150), .val (.ref a157), .val (.int (0 : Int32))]) rfl (pc' := 120) rfl ?_
      refine GoKit.aload G at_120 rfl rfl (pc' := 122) rfl ?_
      refine GoKit.callStatic G at_122 (wi hw 28 rfl) (wi hw 29 rfl) (wi hw 30 rfl) (wi hw 31 rfl) (by decide) (owc := []) (W := 0) (argsL := [(.ref a157)]) (rest := []) (con_tok l hw S158 (by simp) (by simp) HC HF HU) rfl (lenOf pd_21 rfl) rfl (by decide) (Nat.le_of_eq rfl) (by decide) (by decide) (by decide) (fun _ q => nomatch q) (cells' := 12) (slots' := 276) rfl rfl (pc' := 125) rfl (fun r160 h163 q161 K162 => ?_)
      obtain rfl := q161
      show Run _ _ _ _ _ _ _ _ _ _ _ _ _ _ _ _ _ _ _ _ _ (mkF m 125 #[.val (.int p0), .val (.int p1), .val (.int p2), .val (.int p3), .val (.int p4), .val (.int (4 : Int32)), .val (.int v138), .val (.int v142), .val (.int v146), .val (.int v150), .val (.ref a157), .val (.int (0 : Int32))] [(.int (if T ([v138, v142, v146, v150] : List Int32) then 1 else 0))])
      refine GoKit.iload G at_125 rfl (pc' := 127) rfl ?_
      refine GoKit.icmp_ne_f G at_127 (if_neg (fun r => (ite_f hb159) (r.2 _ (by simp)))) (pc' := 130) rfl ?_
      refine GoKit.iconst G (1 : Int32) at_130 rfl (pc' := 131) rfl ?_
      refine GoKit.goto G at_131 (by decide) (pc' := 135) rfl ?_
      refine GoKit.retNar G at_135 (t := .boolean) rfl (by simp) (by decide) (by decide) ?_
      exact rfl
    · refine GoKit.iload G at_71 rfl (pc' := 73) rfl ?_
      refine GoKit.iconst G (2 : Int32) at_73 rfl (pc' := 74) rfl ?_
      refine GoKit.icmp_lt_f G at_74 (by decide) (pc' := 77) rfl ?_
      refine GoKit.iload G at_77 rfl (pc' := 79) rfl ?_
      refine GoKit.callStaticP G at_79 (wi hw 48 rfl) (wi hw 49 rfl) (wi hw 4 rfl) (wi hw 50 rfl) (by decide) (W := 0) (argsL := [(.int v142)]) (rest := []) (con_tchar l hw v142) rfl (lenOf pd_22 rfl) rfl (by decide) (Nat.le_of_eq rfl) (by decide) (by decide) (by decide) (cells' := 4) (slots' := 20) rfl rfl (pc' := 82) rfl ?_
      show Run _ _ _ _ _ _ _ _ _ _ _ _ _ _ _ _ _ _ _ _ _ (mkF m 82 #[.val (.int p0), .val (.int p1), .val (.int p2), .val (.int p3), .val (.int p4), .val (.int (4 : Int32)), .val (.int v138), .val (.int v142), .val (.int v146), .val (.int v150), .val (.ref a157), .unset] [(.int (if tch v142 then 1 else 0))])
      refine GoKit.if_eq G at_82 (by decide) (pt := 117) (pf := 85) rfl rfl (fun hb164 => ?_) (fun hb164 => ?_)
      · refine GoKit.iconst G (0 : Int32) at_117 rfl (pc' := 118) rfl ?_
        refine GoKit.istore G at_118 (Ls' := #[.val (.int p0), .val (.int p1), .val (.int p2), .val (.int p3), .val (.int p4), .val (.int (4 : Int32)), .val (.int v138), .val (.int v142), .val (.int v146), .val (.int v150), .val (.ref a157), .val (.int (0 : Int32))]) rfl (pc' := 120) rfl ?_
        refine GoKit.aload G at_120 rfl rfl (pc' := 122) rfl ?_
        refine GoKit.callStatic G at_122 (wi hw 28 rfl) (wi hw 29 rfl) (wi hw 30 rfl) (wi hw 31 rfl) (by decide) (owc := []) (W := 0) (argsL := [(.ref a157)]) (rest := []) (con_tok l hw S158 (by simp) (by simp) HC HF HU) rfl (lenOf pd_21 rfl) rfl (by decide) (Nat.le_of_eq rfl) (by decide) (by decide) (by decide) (fun _ q => nomatch q) (cells' := 12) (slots' := 276) rfl rfl (pc' := 125) rfl (fun r165 h168 q166 K167 => ?_)
        obtain rfl := q166
        show Run _ _ _ _ _ _ _ _ _ _ _ _ _ _ _ _ _ _ _ _ _ (mkF m 125 #[.val (.int p0), .val (.int p1), .val (.int p2), .val (.int p3), .val (.int p4), .val (.int (4 : Int32)), .val (.int v138), .val (.int v142), .val (.int v146), .val (.int v150), .val (.ref a157), .val (.int (0 : Int32))] [(.int (if T ([v138, v142, v146, v150] : List Int32) then 1 else 0))])
        refine GoKit.iload G at_125 rfl (pc' := 127) rfl ?_
        refine GoKit.icmp_ne_f G at_127 (if_neg (fun r => (ite_f hb164) (r.2 _ (by simp)))) (pc' := 130) rfl ?_
        refine GoKit.iconst G (1 : Int32) at_130 rfl (pc' := 131) rfl ?_
        refine GoKit.goto G at_131 (by decide) (pc' := 135) rfl ?_
        refine GoKit.retNar G at_135 (t := .boolean) rfl (by simp) (by decide) (by decide) ?_
        exact rfl
      · refine GoKit.iload G at_85 rfl (pc' := 87) rfl ?_
        refine GoKit.iconst G (3 : Int32) at_87 rfl (pc' := 88) rfl ?_
        refine GoKit.icmp_lt_f G at_88 (by decide) (pc' := 91) rfl ?_
        refine GoKit.iload G at_91 rfl (pc' := 93) rfl ?_
        refine GoKit.callStaticP G at_93 (wi hw 48 rfl) (wi hw 49 rfl) (wi hw 4 rfl) (wi hw 50 rfl) (by decide) (W := 0) (argsL := [(.int v146)]) (rest := []) (con_tchar l hw v146) rfl (lenOf pd_22 rfl) rfl (by decide) (Nat.le_of_eq rfl) (by decide) (by decide) (by decide) (cells' := 4) (slots' := 20) rfl rfl (pc' := 96) rfl ?_
        show Run _ _ _ _ _ _ _ _ _ _ _ _ _ _ _ _ _ _ _ _ _ (mkF m 96 #[.val (.int p0), .val (.int p1), .val (.int p2), .val (.int p3), .val (.int p4), .val (.int (4 : Int32)), .val (.int v138), .val (.int v142), .val (.int v146), .val (.int v150), .val (.ref a157), .unset] [(.int (if tch v146 then 1 else 0))])
        refine GoKit.if_eq G at_96 (by decide) (pt := 117) (pf := 99) rfl rfl (fun hb169 => ?_) (fun hb169 => ?_)
        · refine GoKit.iconst G (0 : Int32) at_117 rfl (pc' := 118) rfl ?_
          refine GoKit.istore G at_118 (Ls' := #[.val (.int p0), .val (.int p1), .val (.int p2), .val (.int p3), .val (.int p4), .val (.int (4 : Int32)), .val (.int v138), .val (.int v142), .val (.int v146), .val (.int v150), .val (.ref a157), .val (.int (0 : Int32))]) rfl (pc' := 120) rfl ?_
          refine GoKit.aload G at_120 rfl rfl (pc' := 122) rfl ?_
          refine GoKit.callStatic G at_122 (wi hw 28 rfl) (wi hw 29 rfl) (wi hw 30 rfl) (wi hw 31 rfl) (by decide) (owc := []) (W := 0) (argsL := [(.ref a157)]) (rest := []) (con_tok l hw S158 (by simp) (by simp) HC HF HU) rfl (lenOf pd_21 rfl) rfl (by decide) (Nat.le_of_eq rfl) (by decide) (by decide) (by decide) (fun _ q => nomatch q) (cells' := 12) (slots' := 276) rfl rfl (pc' := 125) rfl (fun r170 h173 q171 K172 => ?_)
          obtain rfl := q171
          show Run _ _ _ _ _ _ _ _ _ _ _ _ _ _ _ _ _ _ _ _ _ (mkF m 125 #[.val (.int p0), .val (.int p1), .val (.int p2), .val (.int p3), .val (.int p4), .val (.int (4 : Int32)), .val (.int v138), .val (.int v142), .val (.int v146), .val (.int v150), .val (.ref a157), .val (.int (0 : Int32))] [(.int (if T ([v138, v142, v146, v150] : List Int32) then 1 else 0))])
          refine GoKit.iload G at_125 rfl (pc' := 127) rfl ?_
          refine GoKit.icmp_ne_f G at_127 (if_neg (fun r => (ite_f hb169) (r.2 _ (by simp)))) (pc' := 130) rfl ?_
          refine GoKit.iconst G (1 : Int32) at_130 rfl (pc' := 131) rfl ?_
          refine GoKit.goto G at_131 (by decide) (pc' := 135) rfl ?_
          refine GoKit.retNar G at_135 (t := .boolean) rfl (by simp) (by decide) (by decide) ?_
          exact rfl
        · refine GoKit.iload G at_99 rfl (pc' := 101) rfl ?_
          refine GoKit.iconst G (4 : Int32) at_101 rfl (pc' := 102) rfl ?_
          refine GoKit.icmp_lt_f G at_102 (by decide) (pc' := 105) rfl ?_
          refine GoKit.iload G at_105 rfl (pc' := 107) rfl ?_
          refine GoKit.callStaticP G at_107 (wi hw 48 rfl) (wi hw 49 rfl) (wi hw 4 rfl) (wi hw 50 rfl) (by decide) (W := 0) (argsL := [(.int v150)]) (rest := []) (con_tchar l hw v150) rfl (lenOf pd_22 rfl) rfl (by decide) (Nat.le_of_eq rfl) (by decide) (by decide) (by decide) (cells' := 4) (slots' := 20) rfl rfl (pc' := 110) rfl ?_
          show Run _ _ _ _ _ _ _ _ _ _ _ _ _ _ _ _ _ _ _ _ _ (mkF m 110 #[.val (.int p0), .val (.int p1), .val (.int p2), .val (.int p3), .val (.int p4), .val (.int (4 : Int32)), .val (.int v138), .val (.int v142), .val (.int v146), .val (.int v150), .val (.ref a157), .unset] [(.int (if tch v150 then 1 else 0))])
          refine GoKit.if_eq G at_110 (by decide) (pt := 117) (pf := 113) rfl rfl (fun hb174 => ?_) (fun hb174 => ?_)
          · refine GoKit.iconst G (0 : Int32) at_117 rfl (pc' := 118) rfl ?_
            refine GoKit.istore G at_118 (Ls' := #[.val (.int p0), .val (.int p1), .val (.int p2), .val (.int p3), .val (.int p4), .val (.int (4 : Int32)), .val (.int v138), .val (.int v142), .val (.int v146), .val (.int v150), .val (.ref a157), .val (.int (0 : Int32))]) rfl (pc' := 120) rfl ?_
            refine GoKit.aload G at_120 rfl rfl (pc' := 122) rfl ?_
            refine GoKit.callStatic G at_122 (wi hw 28 rfl) (wi hw 29 rfl) (wi hw 30 rfl) (wi hw 31 rfl) (by decide) (owc := []) (W := 0) (argsL := [(.ref a157)]) (rest := []) (con_tok l hw S158 (by simp) (by simp) HC HF HU) rfl (lenOf pd_21 rfl) rfl (by decide) (Nat.le_of_eq rfl) (by decide) (by decide) (by decide) (fun _ q => nomatch q) (cells' := 12) (slots' := 276) rfl rfl (pc' := 125) rfl (fun r175 h178 q176 K177 => ?_)
            obtain rfl := q176
            show Run _ _ _ _ _ _ _ _ _ _ _ _ _ _ _ _ _ _ _ _ _ (mkF m 125 #[.val (.int p0), .val (.int p1), .val (.int p2), .val (.int p3), .val (.int p4), .val (.int (4 : Int32)), .val (.int v138), .val (.int v142), .val (.int v146), .val (.int v150), .val (.ref a157), .val (.int (0 : Int32))] [(.int (if T ([v138, v142, v146, v150] : List Int32) then 1 else 0))])
            refine GoKit.iload G at_125 rfl (pc' := 127) rfl ?_
            refine GoKit.icmp_ne_f G at_127 (if_neg (fun r => (ite_f hb174) (r.2 _ (by simp)))) (pc' := 130) rfl ?_
            refine GoKit.iconst G (1 : Int32) at_130 rfl (pc' := 131) rfl ?_
            refine GoKit.goto G at_131 (by decide) (pc' := 135) rfl ?_
            refine GoKit.retNar G at_135 (t := .boolean) rfl (by simp) (by decide) (by decide) ?_
            exact rfl
          · refine GoKit.iconst G (1 : Int32) at_113 rfl (pc' := 114) rfl ?_
            refine GoKit.goto G at_114 (by decide) (pc' := 118) rfl ?_
            refine GoKit.istore G at_118 (Ls' := #[.val (.int p0), .val (.int p1), .val (.int p2), .val (.int p3), .val (.int p4), .val (.int (4 : Int32)), .val (.int v138), .val (.int v142), .val (.int v146), .val (.int v150), .val (.ref a157), .val (.int (1 : Int32))]) rfl (pc' := 120) rfl ?_
            refine GoKit.aload G at_120 rfl rfl (pc' := 122) rfl ?_
            refine GoKit.callStatic G at_122 (wi hw 28 rfl) (wi hw 29 rfl) (wi hw 30 rfl) (wi hw 31 rfl) (by decide) (owc := []) (W := 0) (argsL := [(.ref a157)]) (rest := []) (con_tok l hw S158 (by simp) (by simp) HC HF HU) rfl (lenOf pd_21 rfl) rfl (by decide) (Nat.le_of_eq rfl) (by decide) (by decide) (by decide) (fun _ q => nomatch q) (cells' := 12) (slots' := 276) rfl rfl (pc' := 125) rfl (fun r179 h182 q180 K181 => ?_)
            obtain rfl := q180
            show Run _ _ _ _ _ _ _ _ _ _ _ _ _ _ _ _ _ _ _ _ _ (mkF m 125 #[.val (.int p0), .val (.int p1), .val (.int p2), .val (.int p3), .val (.int p4), .val (.int (4 : Int32)), .val (.int v138), .val (.int v142), .val (.int v146), .val (.int v150), .val (.ref a157), .val (.int (1 : Int32))] [(.int (if T ([v138, v142, v146, v150] : List Int32) then 1 else 0))])
            refine GoKit.iload G at_125 rfl (pc' := 127) rfl ?_
            refine GoKit.icmp_ne_f G at_127 (if_pos ⟨by simp, by simp [(ite_t hb159), (ite_t hb164), (ite_t hb169), (ite_t hb174)]⟩) (pc' := 130) rfl ?_
            refine GoKit.iconst G (1 : Int32) at_130 rfl (pc' := 131) rfl ?_
            refine GoKit.goto G at_131 (by decide) (pc' := 135) rfl ?_
            refine GoKit.retNar G at_135 (t := .boolean) rfl (by simp) (by decide) (by decide) ?_
            exact rfl
set_option maxRecDepth 65536 in
set_option maxHeartbeats 40000000 in
theorem comes_1 {Post : Tables → Env → Array Value → State → Outcome → State → Prop} (hpost : ∀ tb e args s v u, (limb_1_1.after args s (.returned v) u = true ∧ limb_1_2.after args s (.returned v) u = true ∧ True) → ReturnedEndW s (.returned v) u (Jvm.fieldLocs frame_1_writes args s ++ Jvm.arrayLocs frame_1_arrays args s ++ Jvm.staticLocs frame_1_statics s) 24 2176 → Post tb e args s (.returned v) u) :
    ArmFor flags0 classFile x code maxLocals ret World_1 tables_1 room_1 Calls_1 rest_1 Pre_1 Post := by
  intro l hfl _ _ p e ha hc hk s m args below hf hA hF happ hP
  obtain ⟨hcalls, hrest, hpre⟩ := hP
  obtain ⟨-, -, -, hnamed, -, -, -, hat⟩ := (Spec.applies_iff hf).mp happ
  obtain ⟨hg, hn⟩ := and_e (Cond.before_iff.mp (show (Jvm.Cond.and given_1 narrow_1).before args s = true from hpre))
  obtain ⟨gc, g0⟩ := and_e hg
  obtain ⟨t0, g1⟩ := and_e g0
  obtain ⟨t1, g2⟩ := and_e g1
  obtain ⟨t2, g3⟩ := and_e g2
  obtain ⟨t3, g4⟩ := and_e g3
  have t4 := g4
  obtain ⟨w0, w1, w2, w3, w4, rfl⟩ : ∃ w0 w1 w2 w3 w4 : Value, args = #[w0, w1, w2, w3, w4] := by
    have hs : args.size = 5 := by simpa [Cond.value, given_1] using gc
    obtain ⟨L⟩ := args
    match L, hs with
    | [w0, w1, w2, w3, w4], _ => exact ⟨w0, w1, w2, w3, w4, rfl⟩
  have hw := fun d (hd : d ∈ tables_1) => atoms_spec (ws := Jvm.Cond.code x code maxLocals ret :: tables_1) hat d (List.mem_cons_of_mem _ hd)
  have hfit : Fit s := fun {y c} hc i hi => by
    obtain ⟨ha, rfl⟩ := Array.getElem?_eq_some_iff.mp hc
    have q := List.all_eq_true.mp ((Array.all_eq_true_iff_forall_mem.mp hF) _ (Array.getElem_mem ha)) i (List.mem_range.mpr hi)
    simpa [Array.getElem?_eq_getElem hi] using q
  obtain ⟨hsets, hown0⟩ := atoms_of _ (rest_1_c_eq ▸ (show rest_1_c.before _ s = true from hrest))
  obtain ⟨i0, ei0⟩ := is_v t0
  obtain rfl : w0 = (.int i0) := Option.some.inj ei0
  obtain ⟨i1, ei1⟩ := is_v t1
  obtain rfl : w1 = (.int i1) := Option.some.inj ei1
  obtain ⟨i2, ei2⟩ := is_v t2
  obtain rfl : w2 = (.int i2) := Option.some.inj ei2
  obtain ⟨i3, ei3⟩ := is_v t3
  obtain rfl : w3 = (.int i3) := Option.some.inj ei3
  obtain ⟨i4, ei4⟩ := is_v t4
  obtain rfl : w4 = (.int i4) := Option.some.inj ei4
  have HC : Cst s := by
    obtain ⟨cz, ecz⟩ := is_v (Cond.before_iff.mp (hsets _ (List.mem_of_getElem? (i := 1) rfl)))
    refine ⟨cz, Sta.start ecz (Or.inl (hsets _ (List.mem_of_getElem? (i := 0) rfl))), fun q => ?_⟩
    have := Cond.before_iff.mp (hsets _ (List.mem_of_getElem? (i := 2) rfl))
    subst q
    simp [Cond.value, ecz, Term.int_eval] at this
  have HF : Frm s := by
    have q := Cond.before_iff.mp (hsets _ (List.mem_of_getElem? (i := 8) rfl))
    cases ev : (Term.static "jdk/internal/util/Preconditions" "SIOOBE_FORMATTER" "Ljava/util/function/BiFunction;").eval #[.int i0, .int i1, .int i2, .int i3, .int i4] s none [] s with
    | none => simp [Cond.value, ev] at q
    | some fv => exact ⟨fv, Sta.start ev (Or.inl (hsets _ (List.mem_of_getElem? (i := 7) rfl))), by cases fv <;> first | rfl | (simp [Cond.value, ev] at q)⟩
  have HU : Ust s := ⟨Sta.start (eqv_i (Term.int_eval 1) (Cond.before_iff.mp (hsets _ (List.mem_of_getElem? (i := 12) rfl)))) (Or.inl (hsets _ (List.mem_of_getElem? (i := 11) rfl))), Sta.start (eqv_i (Term.int_eval 0) (Cond.before_iff.mp (hsets _ (List.mem_of_getElem? (i := 15) rfl)))) (Or.inl (hsets _ (List.mem_of_getElem? (i := 14) rfl))), Sta.start (eqv_i (Term.int_eval 8) (Cond.before_iff.mp (hsets _ (List.mem_of_getElem? (i := 18) rfl)))) (Or.inl (hsets _ (List.mem_of_getElem? (i := 17) rfl)))⟩
  have hCH : CHv s ELs s.vm s.heap := CHv.start (hELs hw) (fun q hq => hcalls.1 q hq) (hsets _ (List.mem_of_getElem? (i := 2) rfl)) (wi hw 21 rfl) (wi hw 7 rfl)
  obtain ⟨n, o, h1, h2, h3, v, L, rfl, rfl, N, -, -, hE, hWd, -⟩ := (con_law l hw i0 i1 i2 i3 i4 HC HF HU) p e ha hc hk s m _ below hf ((Spec.applies_iff_loose hf).mp happ).1 ⟨rfl, State.Warmed39.refl s, rfl, Old.start s, hCH, all0⟩ trivial
  exact ⟨n, _, h1, h2, h3, hpost _ _ _ _ _ _ ⟨Cond.after_iff.mpr rfl, Cond.after_iff.mpr (eq_i res_at (Term.int_eval (1)) rfl), trivial⟩ ⟨hE.1, hE.2.1, hE.2.2.1, (hE.2.2.2.sift fun y hy => Or.inr (N y hy)).mono (by decide) (by decide)⟩⟩
theorem main_1_1 : Claimed_1_1 := comes_1 fun _ _ _ _ _ _ h hF => ⟨h.1, hF⟩
theorem main_1_2 : Claimed_1_2 := comes_1 fun _ _ _ _ _ _ h hF => ⟨h.2.1, hF⟩
end Jvm.Pilot.@@N@@
namespace Jvm.Pilot.@@N@@
open Jvm Jvm.ClassFile Sem Op Lib Jvm.Free Jvm.Stand Jvm.Pilot.@@N@@.Jvm.D
/-! MADE BY PROGRAM (witnessworld.py) out of the Statement's table words and the real class files: 21 classes; the members and pool entries that the words name. The judged class is class 1, her method 1. -/
namespace start1
open Jvm.ClassFile
def u (s : String) : CpInfo := .utf8 (stringToUtf16 s)
/-- a pool by its gaps: so many unusable entries, then the entry; so many at the end -/
def gap : Nat → List CpInfo → List CpInfo
  | 0, r => r
  | n + 1, r => .unusable :: gap n r
def poolList (es : List (Nat × CpInfo)) (last : Nat) : List CpInfo := es.foldr (fun e r => gap e.1 (e.2 :: r)) (gap last [])
def pool (es : List (Nat × CpInfo)) (last : Nat) : Array CpInfo := ⟨poolList es last⟩
def fileOf (pool : Array CpInfo) (this : Nat) (attrs : Array Attribute := #[]) (ms : Array MethodInfo := #[]) (fl : Nat := 33) (sup : Nat := 0) (ifs : Array Nat := #[]) (fds : Array FieldInfo := #[]) : ClassFile where
  minorVersion := 0
  majorVersion := 65
  constantPool := pool
  accessFlags := fl
  thisClass := this
  superClass := sup
  interfaces := ifs
  fields := fds
  methods := ms
  attributes := attrs
def plain (name : String) (sup : Option ClassId) : Class where
  name := name
  kind := .ordinary
  loader := none
  accessFlags := 33
  super := sup
  interfaces := #[]
  cf := none
  fields := #[]
  methods := #[]
  instanceTypes := #[]
  staticTypes := #[]
  resolved := #[]
  callSites := []
  init := .initialized
  statics := none
  mirror := none

def pool0 : Array CpInfo := pool [(5, u "<init>"), (0, u "()V"), (1, .class_ 10), (1, u "java/lang/Object")] 113

def k0c0 : Code := { maxStack := 0, maxLocals := 1, code := object_method_1_code, exceptionTable := #[], attributes := #[] }
def k0m0 : Method := { name := "<init>", desc := "()V", sig := { parameters := [], returnType := none }, accessFlags := 1, code := some k0c0 }
/-- java/lang/Object -/
def k0 : Class := { plain "java/lang/Object" none with
  accessFlags := 33
  interfaces := #[]
  cf := some (fileOf pool0 8 #[] #[{ accessFlags := 1, nameIndex := 5, descriptorIndex := 6, attributes := #[] }] 33 0 #[] #[])
  fields := #[]
  methods := #[k0m0]
  instanceTypes := #[]
  staticTypes := #[]
  resolved := Array.replicate 124 none
  statics := none }

def pool1 : Array CpInfo := pool [(2, .class_ 4), (1, u "java/lang/Object"), (0, u "<init>"), (0, u "()V"), (0, .integer 2147483647), (0, .integer 65535), (0, .methodref 10 11), (0, .class_ 12), (0, .nameAndType 13 14), (0, u "com/example/bowline/internal/AsciiIsTokenPinLaw"), (0, u "make"), (0, u "(ICCCC)Ljava/lang/String;"), (0, .methodref 10 16), (0, .nameAndType 17 18), (0, u "tchar"), (0, u "(C)Z"), (0, .methodref 20 21), (0, .class_ 22), (0, .nameAndType 23 24), (0, u "com/example/bowline/internal/Ascii"), (0, u "isToken"), (0, u "(Ljava/lang/String;)Z"), (0, .class_ 26), (0, u "java/lang/String"), (0, .methodref 25 28), (0, .nameAndType 5 29), (0, u "([C)V"), (2, u "law"), (0, u "(IIIII)Z")] 3

def k1m0 : Method := { name := "<init>", desc := "()V", sig := { parameters := [], returnType := none }, accessFlags := 1, code := none }
def k1c1 : Code := { maxStack := 5, maxLocals := 12, code := code, exceptionTable := #[], attributes := #[] }
def k1m1 : Method := { name := "law", desc := "(IIIII)Z", sig := { parameters := [.int, .int, .int, .int, .int], returnType := some .boolean }, accessFlags := 9, code := some k1c1 }
def k1c2 : Code := { maxStack := 6, maxLocals := 5, code := method_3_code, exceptionTable := #[], attributes := #[] }
def k1m2 : Method := { name := "make", desc := "(ICCCC)Ljava/lang/String;", sig := { parameters := [.int, .char, .char, .char, .char], returnType := some (.object "java/lang/String") }, accessFlags := 10, code := some k1c2 }
def k1c3 : Code := { maxStack := 2, maxLocals := 1, code := method_4_code, exceptionTable := #[], attributes := #[] }
def k1m3 : Method := { name := "tchar", desc := "(C)Z", sig := { parameters := [.char], returnType := some .boolean }, accessFlags := 10, code := some k1c3 }
/-- com/example/bowline/internal/AsciiIsTokenPinLaw -/
def k1 : Class := { plain "com/example/bowline/internal/AsciiIsTokenPinLaw" (some 0) with
  accessFlags := 49
  interfaces := #[]
  cf := some (fileOf pool1 10 #[] #[{ accessFlags := 1, nameIndex := 5, descriptorIndex := 6, attributes := #[] }, { accessFlags := 9, nameIndex := 32, descriptorIndex := 33, attributes := #[] }, { accessFlags := 10, nameIndex := 13, descriptorIndex := 14, attributes := #[] }, { accessFlags := 10, nameIndex := 17, descriptorIndex := 18, attributes := #[] }] 49 2 #[] #[])
  fields := #[]
  methods := #[k1m0, k1m1, k1m2, k1m3]
  instanceTypes := #[]
  staticTypes := #[]
  resolved := Array.replicate 37 none
  statics := none }

def pool2 : Array CpInfo := pool [(1, .class_ 2), (0, u "java/io/Serializable"), (0, .class_ 4), (0, u "java/lang/Object")] 2

/-- java/io/Serializable -/
def k2 : Class := { plain "java/io/Serializable" (some 0) with
  accessFlags := 1537
  interfaces := #[]
  cf := some (fileOf pool2 1 #[] #[] 1537 3 #[] #[])
  fields := #[]
  methods := #[]
  instanceTypes := #[]
  staticTypes := #[]
  resolved := Array.replicate 7 none
  statics := none }

def pool3 : Array CpInfo := pool [(1, .class_ 2), (0, u "java/lang/Comparable"), (0, .class_ 4), (0, u "java/lang/Object")] 7

/-- java/lang/Comparable -/
def k3 : Class := { plain "java/lang/Comparable" (some 0) with
  accessFlags := 1537
  interfaces := #[]
  cf := some (fileOf pool3 1 #[] #[] 1537 3 #[] #[])
  fields := #[]
  methods := #[]
  instanceTypes := #[]
  staticTypes := #[]
  resolved := Array.replicate 12 none
  statics := none }

def pool4 : Array CpInfo := pool [(2, .class_ 4), (1, u "java/lang/CharSequence"), (42, .class_ 48), (0, u "java/lang/CharSequence$1CodePointIterator"), (10, .class_ 60), (0, u "java/lang/CharSequence$1CharIterator"), (5, .class_ 67), (0, u "java/lang/Object")] 63

/-- java/lang/CharSequence -/
def k4 : Class := { plain "java/lang/CharSequence" (some 0) with
  accessFlags := 1537
  interfaces := #[]
  cf := some (fileOf pool4 2 #[.nestMembers #[47, 59]] #[] 1537 66 #[] #[])
  fields := #[]
  methods := #[]
  instanceTypes := #[]
  staticTypes := #[]
  resolved := Array.replicate 131 none
  statics := none }

def pool5 : Array CpInfo := pool [(1, .class_ 2), (0, u "java/lang/constant/Constable"), (0, .class_ 4), (0, u "java/lang/Object")] 6

/-- java/lang/constant/Constable -/
def k5 : Class := { plain "java/lang/constant/Constable" (some 0) with
  accessFlags := 1537
  interfaces := #[]
  cf := some (fileOf pool5 1 #[] #[] 1537 3 #[] #[])
  fields := #[]
  methods := #[]
  instanceTypes := #[]
  staticTypes := #[]
  resolved := Array.replicate 11 none
  statics := none }

def pool6 : Array CpInfo := pool [(1, .class_ 2), (0, u "java/lang/constant/ConstantDesc"), (0, .class_ 4), (0, u "java/lang/Object")] 32

/-- java/lang/constant/ConstantDesc -/
def k6 : Class := { plain "java/lang/constant/ConstantDesc" (some 0) with
  accessFlags := 1537
  interfaces := #[]
  cf := some (fileOf pool6 1 #[] #[] 1537 3 #[] #[])
  fields := #[]
  methods := #[]
  instanceTypes := #[]
  staticTypes := #[]
  resolved := Array.replicate 37 none
  statics := none }

def pool7 : Array CpInfo := pool [(1, .methodref 2 3), (0, .class_ 4), (0, .nameAndType 5 6), (0, u "java/lang/Object"), (0, u "<init>"), (0, u "()V"), (0, .string 8), (0, u ""), (0, .fieldref 10 11), (0, .class_ 12), (0, .nameAndType 13 14), (0, u "java/lang/String"), (0, u "value"), (0, u "[B"), (0, .fieldref 10 16), (0, .nameAndType 17 18), (0, u "coder"), (0, u "B"), (2, u "hash"), (0, u "I"), (2, u "hashIsZero"), (0, u "Z"), (0, .methodref 10 28), (0, .nameAndType 5 29), (0, u "([CIILjava/lang/Void;)V"), (8, .fieldref 10 39), (0, .nameAndType 40 26), (0, u "COMPACT_STRINGS"), (1, .class_ 44), (1, u "java/lang/StringUTF16"), (0, u "compress"), (1, .methodref 42 48), (0, .nameAndType 49 50), (0, u "coderFromArrayLen"), (0, u "([BI)B"), (56, .class_ 109), (1, u "java/lang/StringLatin1"), (32, u "()Z"), (34, .methodref 42 178), (0, .nameAndType 45 179), (0, u "([CII)[B"), (154, u "()I"), (0, .methodref 10 336), (0, .nameAndType 17 337), (0, u "()B"), (25, u "([BI)C"), (27, u "(II)V"), (35, u "(I)C"), (64, .methodref 10 493), (0, .nameAndType 494 142), (0, u "isLatin1"), (0, .methodref 107 496), (0, .nameAndType 497 363), (0, u "charAt"), (0, .methodref 42 496), (2, u "checkIndex"), (3, .methodref 10 506), (0, .nameAndType 507 334), (0, u "length"), (67, .class_ 576), (0, u "java/lang/CharSequence"), (22, u "CASE_INSENSITIVE_ORDER"), (0, u "Ljava/util/Comparator;"), (32, .methodref 10 634), (0, .nameAndType 635 636), (0, u "indexOf"), (0, u "(II)I"), (0, .methodref 107 638), (0, .nameAndType 635 639), (0, u "([BIII)I"), (52, u "isEmpty"), (72, u "(I)I"), (244, u "([C)V"), (42, .fieldref 1054 1055), (0, .class_ 1056), (0, .nameAndType 1057 1058), (0, u "jdk/internal/util/Preconditions"), (0, u "SIOOBE_FORMATTER"), (0, u "Ljava/util/function/BiFunction;"), (0, .methodref 1054 1060), (0, .nameAndType 501 1061), (0, u "(IILjava/util/function/BiFunction;)I"), (39, u "serialPersistentFields"), (0, u "[Ljava/io/ObjectStreamField;"), (0, .class_ 1104), (0, u "java/lang/String$CaseInsensitiveComparator"), (1, .class_ 1107), (0, u "java/io/Serializable"), (0, .class_ 1109), (0, u "java/lang/Comparable"), (0, .class_ 1111), (0, u "java/lang/constant/Constable"), (0, .class_ 1113), (0, u "java/lang/constant/ConstantDesc"), (2, u "serialVersionUID"), (0, u "J"), (3, u "REPL"), (0, u "C"), (2, u "LATIN1"), (1, u "UTF16")] 323

def k7m0 : Method := { name := "<init>", desc := "()V", sig := { parameters := [], returnType := none }, accessFlags := 1, code := none }
def k7c1 : Code := { maxStack := 5, maxLocals := 2, code := jdk_42_method_3_code, exceptionTable := #[], attributes := #[] }
def k7m1 : Method := { name := "<init>", desc := "([C)V", sig := { parameters := [(.array .char)], returnType := none }, accessFlags := 1, code := some k7c1 }
def k7c2 : Code := { maxStack := 2, maxLocals := 1, code := jdk_42_method_54_code, exceptionTable := #[], attributes := #[] }
def k7m2 : Method := { name := "length", desc := "()I", sig := { parameters := [], returnType := some .int }, accessFlags := 1, code := some k7c2 }
def k7c3 : Code := { maxStack := 1, maxLocals := 1, code := jdk_42_method_55_code, exceptionTable := #[], attributes := #[] }
def k7m3 : Method := { name := "isEmpty", desc := "()Z", sig := { parameters := [], returnType := some .boolean }, accessFlags := 1, code := some k7c3 }
def k7c4 : Code := { maxStack := 2, maxLocals := 2, code := jdk_42_method_56_code, exceptionTable := #[], attributes := #[] }
def k7m4 : Method := { name := "charAt", desc := "(I)C", sig := { parameters := [.int], returnType := some .char }, accessFlags := 1, code := some k7c4 }
def k7c5 : Code := { maxStack := 3, maxLocals := 2, code := jdk_42_method_79_code, exceptionTable := #[], attributes := #[] }
def k7m5 : Method := { name := "indexOf", desc := "(I)I", sig := { parameters := [.int], returnType := some .int }, accessFlags := 1, code := some k7c5 }
def k7c6 : Code := { maxStack := 4, maxLocals := 3, code := jdk_42_method_80_code, exceptionTable := #[], attributes := #[] }
def k7m6 : Method := { name := "indexOf", desc := "(II)I", sig := { parameters := [.int, .int], returnType := some .int }, accessFlags := 1, code := some k7c6 }
def k7c7 : Code := { maxStack := 4, maxLocals := 6, code := jdk_42_method_149_code, exceptionTable := #[], attributes := #[] }
def k7m7 : Method := { name := "<init>", desc := "([CIILjava/lang/Void;)V", sig := { parameters := [(.array .char), .int, .int, (.object "java/lang/Void")], returnType := none }, accessFlags := 2, code := some k7c7 }
def k7c8 : Code := { maxStack := 1, maxLocals := 1, code := jdk_42_method_152_code, exceptionTable := #[], attributes := #[] }
def k7m8 : Method := { name := "coder", desc := "()B", sig := { parameters := [], returnType := some .byte }, accessFlags := 0, code := some k7c8 }
def k7c9 : Code := { maxStack := 1, maxLocals := 1, code := jdk_42_method_154_code, exceptionTable := #[], attributes := #[] }
def k7m9 : Method := { name := "isLatin1", desc := "()Z", sig := { parameters := [], returnType := some .boolean }, accessFlags := 0, code := some k7c9 }
def k7c10 : Code := { maxStack := 3, maxLocals := 2, code := jdk_42_method_155_code, exceptionTable := #[], attributes := #[] }
def k7m10 : Method := { name := "checkIndex", desc := "(II)V", sig := { parameters := [.int, .int], returnType := none }, accessFlags := 8, code := some k7c10 }
/-- java/lang/String -/
def k7 : Class := { plain "java/lang/String" (some 0) with
  accessFlags := 49
  interfaces := #[2, 3, 4, 5, 6]
  cf := some (fileOf pool7 10 #[.nestMembers #[1103]] #[{ accessFlags := 1, nameIndex := 5, descriptorIndex := 6, attributes := #[] }, { accessFlags := 1, nameIndex := 5, descriptorIndex := 1010, attributes := #[] }, { accessFlags := 1, nameIndex := 507, descriptorIndex := 334, attributes := #[] }, { accessFlags := 1, nameIndex := 692, descriptorIndex := 142, attributes := #[] }, { accessFlags := 1, nameIndex := 497, descriptorIndex := 427, attributes := #[] }, { accessFlags := 1, nameIndex := 635, descriptorIndex := 765, attributes := #[] }, { accessFlags := 1, nameIndex := 635, descriptorIndex := 636, attributes := #[] }, { accessFlags := 2, nameIndex := 5, descriptorIndex := 29, attributes := #[] }, { accessFlags := 0, nameIndex := 17, descriptorIndex := 337, attributes := #[] }, { accessFlags := 0, nameIndex := 494, descriptorIndex := 142, attributes := #[] }, { accessFlags := 8, nameIndex := 501, descriptorIndex := 391, attributes := #[] }] 49 2 #[1106, 1108, 575, 1110, 1112] #[{ accessFlags := 18, nameIndex := 13, descriptorIndex := 14, attributes := #[] }, { accessFlags := 18, nameIndex := 17, descriptorIndex := 18, attributes := #[] }, { accessFlags := 2, nameIndex := 21, descriptorIndex := 22, attributes := #[] }, { accessFlags := 2, nameIndex := 25, descriptorIndex := 26, attributes := #[] }, { accessFlags := 26, nameIndex := 1116, descriptorIndex := 1117, attributes := #[] }, { accessFlags := 24, nameIndex := 40, descriptorIndex := 26, attributes := #[] }, { accessFlags := 26, nameIndex := 1101, descriptorIndex := 1102, attributes := #[] }, { accessFlags := 26, nameIndex := 1121, descriptorIndex := 1122, attributes := #[] }, { accessFlags := 25, nameIndex := 599, descriptorIndex := 600, attributes := #[] }, { accessFlags := 24, nameIndex := 1125, descriptorIndex := 18, attributes := #[] }, { accessFlags := 24, nameIndex := 1127, descriptorIndex := 18, attributes := #[] }])
  fields := #[{ name := "value", type := (.array .byte), accessFlags := 18, slot := 0, constantValue := 0 }, { name := "coder", type := .byte, accessFlags := 18, slot := 1, constantValue := 0 }, { name := "hash", type := .int, accessFlags := 2, slot := 2, constantValue := 0 }, { name := "hashIsZero", type := .boolean, accessFlags := 2, slot := 3, constantValue := 0 }, { name := "serialVersionUID", type := .long, accessFlags := 26, slot := 0, constantValue := 0 }, { name := "COMPACT_STRINGS", type := .boolean, accessFlags := 24, slot := 1, constantValue := 0 }, { name := "serialPersistentFields", type := (.array (.object "java/io/ObjectStreamField")), accessFlags := 26, slot := 2, constantValue := 0 }, { name := "REPL", type := .char, accessFlags := 26, slot := 3, constantValue := 0 }, { name := "CASE_INSENSITIVE_ORDER", type := (.object "java/util/Comparator"), accessFlags := 25, slot := 4, constantValue := 0 }, { name := "LATIN1", type := .byte, accessFlags := 24, slot := 5, constantValue := 0 }, { name := "UTF16", type := .byte, accessFlags := 24, slot := 6, constantValue := 0 }]
  methods := #[k7m0, k7m1, k7m2, k7m3, k7m4, k7m5, k7m6, k7m7, k7m8, k7m9, k7m10]
  instanceTypes := #[(.array .byte), .byte, .int, .boolean]
  staticTypes := #[.long, .boolean, (.array (.object "java/io/ObjectStreamField")), .char, (.object "java/util/Comparator"), .byte, .byte]
  resolved := Array.replicate 1451 none
  statics := some 0 }

def pool8 : Array CpInfo := pool [(2, .class_ 4), (1, u "java/lang/Object"), (0, u "<init>"), (0, u "()V"), (0, .methodref 8 9), (0, .class_ 10), (0, .nameAndType 11 12), (0, u "java/lang/String"), (0, u "length"), (0, u "()I"), (0, .methodref 8 14), (0, .nameAndType 15 16), (0, u "charAt"), (0, u "(I)C"), (7, .methodref 8 25), (0, .nameAndType 26 27), (0, u "isEmpty"), (0, u "()Z"), (0, .class_ 29), (0, u "com/example/bowline/internal/Ascii"), (0, .string 31), (0, u "!#$%&'*+-.^_`|~"), (0, .methodref 8 33), (0, .nameAndType 34 35), (0, u "indexOf"), (0, u "(I)I"), (0, u "TOKEN_SYMBOLS"), (0, u "Ljava/lang/String;"), (8, u "isToken"), (0, u "(Ljava/lang/String;)Z")] 2

def k8m0 : Method := { name := "<init>", desc := "()V", sig := { parameters := [], returnType := none }, accessFlags := 2, code := none }
def k8c1 : Code := { maxStack := 2, maxLocals := 4, code := prog_23_method_3_code, exceptionTable := #[], attributes := #[] }
def k8m1 : Method := { name := "isToken", desc := "(Ljava/lang/String;)Z", sig := { parameters := [(.object "java/lang/String")], returnType := some .boolean }, accessFlags := 9, code := some k8c1 }
/-- com/example/bowline/internal/Ascii -/
def k8 : Class := { plain "com/example/bowline/internal/Ascii" (some 0) with
  accessFlags := 49
  interfaces := #[]
  cf := some (fileOf pool8 28 #[] #[{ accessFlags := 2, nameIndex := 5, descriptorIndex := 6, attributes := #[] }, { accessFlags := 9, nameIndex := 46, descriptorIndex := 47, attributes := #[] }] 49 2 #[] #[{ accessFlags := 26, nameIndex := 36, descriptorIndex := 37, attributes := #[] }])
  fields := #[{ name := "TOKEN_SYMBOLS", type := (.object "java/lang/String"), accessFlags := 26, slot := 0, constantValue := 0 }]
  methods := #[k8m0, k8m1]
  instanceTypes := #[]
  staticTypes := #[(.object "java/lang/String")]
  resolved := Array.replicate 50 none
  statics := none }

def pool9 : Array CpInfo := pool [(3, .class_ 4), (0, u "java/lang/String"), (1, .class_ 8), (1, u "java/lang/Object"), (0, u "<init>"), (0, u "()V"), (0, .methodref 12 13), (0, .class_ 14), (0, .nameAndType 15 16), (0, u "java/lang/StringUTF16"), (0, u "newBytesLength"), (0, u "(I)I"), (3, .integer 1073741823), (23, .fieldref 12 45), (0, .nameAndType 46 47), (0, u "$assertionsDisabled"), (0, u "Z"), (0, .methodref 12 49), (0, .nameAndType 50 51), (0, u "length"), (0, u "([B)I"), (7, .fieldref 12 60), (0, .nameAndType 61 62), (0, u "HI_BYTE_SHIFT"), (0, u "I"), (0, .fieldref 12 64), (0, .nameAndType 65 62), (0, u "LO_BYTE_SHIFT"), (1, .methodref 12 68), (0, .nameAndType 69 70), (0, u "checkIndex"), (0, u "(I[B)V"), (0, .methodref 12 72), (0, .nameAndType 73 74), (0, u "getChar"), (0, u "([BI)C"), (32, .methodref 12 108), (0, .nameAndType 109 110), (0, u "newBytesFor"), (0, u "(I)[B"), (0, .methodref 12 112), (0, .nameAndType 113 114), (0, u "putChar"), (0, u "([BII)V"), (0, .methodref 12 116), (0, .nameAndType 117 118), (0, u "compress"), (0, u "([CI[BII)I"), (0, .methodref 12 120), (0, .nameAndType 121 122), (0, u "toBytes"), (0, u "([CII)[B"), (138, u "coderFromArrayLen"), (0, u "([BI)B"), (106, .class_ 371), (1, u "java/lang/StringUTF16$LinesSpliterator"), (20, u "charAt"), (21, .methodref 3 415), (0, .nameAndType 69 416), (0, u "(II)V"), (13, u "MAX_LENGTH"), (196, .class_ 628), (0, u "java/lang/StringUTF16$CodePointsSpliterator"), (0, .class_ 630), (0, u "java/lang/StringUTF16$CharsSpliterator")] 4

def k9m0 : Method := { name := "<init>", desc := "()V", sig := { parameters := [], returnType := none }, accessFlags := 0, code := none }
def k9c1 : Code := { maxStack := 1, maxLocals := 1, code := jdk_52_method_2_code, exceptionTable := #[], attributes := #[] }
def k9m1 : Method := { name := "newBytesFor", desc := "(I)[B", sig := { parameters := [.int], returnType := some (.array .byte) }, accessFlags := 9, code := some k9c1 }
def k9c2 : Code := { maxStack := 4, maxLocals := 1, code := jdk_52_method_3_code, exceptionTable := #[], attributes := #[] }
def k9m2 : Method := { name := "newBytesLength", desc := "(I)I", sig := { parameters := [.int], returnType := some .int }, accessFlags := 9, code := some k9c2 }
def k9c3 : Code := { maxStack := 4, maxLocals := 3, code := jdk_52_method_4_code, exceptionTable := #[], attributes := #[] }
def k9m3 : Method := { name := "putChar", desc := "([BII)V", sig := { parameters := [(.array .byte), .int, .int], returnType := none }, accessFlags := 8, code := some k9c3 }
def k9c4 : Code := { maxStack := 3, maxLocals := 2, code := jdk_52_method_5_code, exceptionTable := #[], attributes := #[] }
def k9m4 : Method := { name := "getChar", desc := "([BI)C", sig := { parameters := [(.array .byte), .int], returnType := some .char }, accessFlags := 8, code := some k9c4 }
def k9c5 : Code := { maxStack := 2, maxLocals := 1, code := jdk_52_method_6_code, exceptionTable := #[], attributes := #[] }
def k9m5 : Method := { name := "length", desc := "([B)I", sig := { parameters := [(.array .byte)], returnType := some .int }, accessFlags := 9, code := some k9c5 }
def k9c6 : Code := { maxStack := 4, maxLocals := 5, code := jdk_52_method_14_code, exceptionTable := #[], attributes := #[] }
def k9m6 : Method := { name := "toBytes", desc := "([CII)[B", sig := { parameters := [(.array .char), .int, .int], returnType := some (.array .byte) }, accessFlags := 9, code := some k9c6 }
def k9c7 : Code := { maxStack := 2, maxLocals := 2, code := jdk_52_method_15_code, exceptionTable := #[], attributes := #[] }
def k9m7 : Method := { name := "coderFromArrayLen", desc := "([BI)B", sig := { parameters := [(.array .byte), .int], returnType := some .byte }, accessFlags := 8, code := some k9c7 }
def k9c8 : Code := { maxStack := 5, maxLocals := 6, code := jdk_52_method_16_code, exceptionTable := #[], attributes := #[] }
def k9m8 : Method := { name := "compress", desc := "([CII)[B", sig := { parameters := [(.array .char), .int, .int], returnType := some (.array .byte) }, accessFlags := 9, code := some k9c8 }
def k9c9 : Code := { maxStack := 3, maxLocals := 7, code := jdk_52_method_21_code, exceptionTable := #[], attributes := #[] }
def k9m9 : Method := { name := "compress", desc := "([CI[BII)I", sig := { parameters := [(.array .char), .int, (.array .byte), .int, .int], returnType := some .int }, accessFlags := 9, code := some k9c9 }
def k9c10 : Code := { maxStack := 2, maxLocals := 2, code := jdk_52_method_83_code, exceptionTable := #[], attributes := #[] }
def k9m10 : Method := { name := "charAt", desc := "([BI)C", sig := { parameters := [(.array .byte), .int], returnType := some .char }, accessFlags := 9, code := some k9c10 }
def k9c11 : Code := { maxStack := 2, maxLocals := 2, code := jdk_52_method_91_code, exceptionTable := #[], attributes := #[] }
def k9m11 : Method := { name := "checkIndex", desc := "(I[B)V", sig := { parameters := [.int, (.array .byte)], returnType := none }, accessFlags := 9, code := some k9c11 }
/-- java/lang/StringUTF16 -/
def k9 : Class := { plain "java/lang/StringUTF16" (some 0) with
  accessFlags := 48
  interfaces := #[]
  cf := some (fileOf pool9 12 #[.nestMembers #[627, 629, 369]] #[{ accessFlags := 0, nameIndex := 9, descriptorIndex := 10, attributes := #[] }, { accessFlags := 9, nameIndex := 109, descriptorIndex := 110, attributes := #[] }, { accessFlags := 9, nameIndex := 15, descriptorIndex := 16, attributes := #[] }, { accessFlags := 8, nameIndex := 113, descriptorIndex := 114, attributes := #[] }, { accessFlags := 8, nameIndex := 73, descriptorIndex := 74, attributes := #[] }, { accessFlags := 9, nameIndex := 50, descriptorIndex := 51, attributes := #[] }, { accessFlags := 9, nameIndex := 121, descriptorIndex := 122, attributes := #[] }, { accessFlags := 8, nameIndex := 261, descriptorIndex := 262, attributes := #[] }, { accessFlags := 9, nameIndex := 117, descriptorIndex := 122, attributes := #[] }, { accessFlags := 9, nameIndex := 117, descriptorIndex := 118, attributes := #[] }, { accessFlags := 9, nameIndex := 392, descriptorIndex := 74, attributes := #[] }, { accessFlags := 9, nameIndex := 69, descriptorIndex := 70, attributes := #[] }] 48 6 #[] #[{ accessFlags := 26, nameIndex := 61, descriptorIndex := 62, attributes := #[] }, { accessFlags := 26, nameIndex := 65, descriptorIndex := 62, attributes := #[] }, { accessFlags := 24, nameIndex := 430, descriptorIndex := 62, attributes := #[] }, { accessFlags := 4120, nameIndex := 46, descriptorIndex := 47, attributes := #[] }])
  fields := #[{ name := "HI_BYTE_SHIFT", type := .int, accessFlags := 26, slot := 0, constantValue := 0 }, { name := "LO_BYTE_SHIFT", type := .int, accessFlags := 26, slot := 1, constantValue := 0 }, { name := "MAX_LENGTH", type := .int, accessFlags := 24, slot := 2, constantValue := 0 }, { name := "$assertionsDisabled", type := .boolean, accessFlags := 4120, slot := 3, constantValue := 0 }]
  methods := #[k9m0, k9m1, k9m2, k9m3, k9m4, k9m5, k9m6, k9m7, k9m8, k9m9, k9m10, k9m11]
  instanceTypes := #[]
  staticTypes := #[.int, .int, .int, .boolean]
  resolved := Array.replicate 635 none
  statics := some 1 }

def pool10 : Array CpInfo := pool [(1, .class_ 2), (0, u "java/lang/String"), (1, .class_ 6), (1, u "java/lang/Object"), (0, u "<init>"), (0, u "()V"), (0, .methodref 1 10), (0, .nameAndType 11 12), (0, u "checkIndex"), (0, u "(II)V"), (1, .class_ 16), (1, u "java/lang/StringLatin1"), (21, .methodref 39 40), (0, .class_ 41), (0, .nameAndType 42 43), (0, u "java/lang/Math"), (0, u "min"), (0, u "(II)I"), (9, u "([BI)C"), (34, .methodref 14 89), (0, .nameAndType 90 91), (0, u "canEncode"), (0, u "(I)Z"), (0, .methodref 39 93), (0, .nameAndType 94 43), (0, u "max"), (0, .methodref 14 96), (0, .nameAndType 97 98), (0, u "indexOfChar"), (0, u "([BIII)I"), (2, u "indexOf"), (19, u "$assertionsDisabled"), (0, u "Z"), (98, .class_ 223), (1, u "java/lang/StringLatin1$LinesSpliterator"), (28, u "charAt"), (137, .class_ 391), (0, u "java/lang/StringLatin1$CharsSpliterator")] 3

def k10m0 : Method := { name := "<init>", desc := "()V", sig := { parameters := [], returnType := none }, accessFlags := 0, code := none }
def k10c1 : Code := { maxStack := 2, maxLocals := 2, code := jdk_43_method_2_code, exceptionTable := #[], attributes := #[] }
def k10m1 : Method := { name := "charAt", desc := "([BI)C", sig := { parameters := [(.array .byte), .int], returnType := some .char }, accessFlags := 9, code := some k10c1 }
def k10c2 : Code := { maxStack := 2, maxLocals := 1, code := jdk_43_method_4_code, exceptionTable := #[], attributes := #[] }
def k10m2 : Method := { name := "canEncode", desc := "(I)Z", sig := { parameters := [.int], returnType := some .boolean }, accessFlags := 9, code := some k10c2 }
def k10c3 : Code := { maxStack := 4, maxLocals := 4, code := jdk_43_method_22_code, exceptionTable := #[], attributes := #[] }
def k10m3 : Method := { name := "indexOf", desc := "([BIII)I", sig := { parameters := [(.array .byte), .int, .int, .int], returnType := some .int }, accessFlags := 9, code := some k10c3 }
def k10c4 : Code := { maxStack := 2, maxLocals := 6, code := jdk_43_method_23_code, exceptionTable := #[], attributes := #[] }
def k10m4 : Method := { name := "indexOfChar", desc := "([BIII)I", sig := { parameters := [(.array .byte), .int, .int, .int], returnType := some .int }, accessFlags := 10, code := some k10c4 }
/-- java/lang/StringLatin1 -/
def k10 : Class := { plain "java/lang/StringLatin1" (some 0) with
  accessFlags := 48
  interfaces := #[]
  cf := some (fileOf pool10 14 #[.nestMembers #[390, 221]] #[{ accessFlags := 0, nameIndex := 7, descriptorIndex := 8, attributes := #[] }, { accessFlags := 9, nameIndex := 252, descriptorIndex := 53, attributes := #[] }, { accessFlags := 9, nameIndex := 90, descriptorIndex := 91, attributes := #[] }, { accessFlags := 9, nameIndex := 101, descriptorIndex := 98, attributes := #[] }, { accessFlags := 10, nameIndex := 97, descriptorIndex := 98, attributes := #[] }] 48 4 #[] #[{ accessFlags := 4120, nameIndex := 121, descriptorIndex := 122, attributes := #[] }])
  fields := #[{ name := "$assertionsDisabled", type := .boolean, accessFlags := 4120, slot := 0, constantValue := 0 }]
  methods := #[k10m0, k10m1, k10m2, k10m3, k10m4]
  instanceTypes := #[]
  staticTypes := #[.boolean]
  resolved := Array.replicate 395 none
  statics := none }

def pool11 : Array CpInfo := pool [(2, .class_ 4), (1, u "java/lang/Object"), (0, u "<init>"), (0, u "()V"), (17, .class_ 26), (1, u "jdk/internal/util/Preconditions"), (6, u "checkIndex"), (21, .class_ 56), (0, u "jdk/internal/util/Preconditions$4"), (57, .class_ 115), (0, u "jdk/internal/util/Preconditions$1"), (7, u "SIOOBE_FORMATTER"), (0, u "Ljava/util/function/BiFunction;"), (0, .class_ 126), (0, u "jdk/internal/util/Preconditions$2"), (3, u "AIOOBE_FORMATTER"), (0, .class_ 132), (0, u "jdk/internal/util/Preconditions$3"), (3, u "IOOBE_FORMATTER"), (41, u "(IILjava/util/function/BiFunction;)I")] 15

def k11m0 : Method := { name := "<init>", desc := "()V", sig := { parameters := [], returnType := none }, accessFlags := 1, code := none }
def k11c1 : Code := { maxStack := 3, maxLocals := 3, code := jdk_41_method_11_code, exceptionTable := #[], attributes := #[] }
def k11m1 : Method := { name := "checkIndex", desc := "(IILjava/util/function/BiFunction;)I", sig := { parameters := [.int, .int, (.object "java/util/function/BiFunction")], returnType := some .int }, accessFlags := 9, code := some k11c1 }
/-- jdk/internal/util/Preconditions -/
def k11 : Class := { plain "jdk/internal/util/Preconditions" (some 0) with
  accessFlags := 33
  interfaces := #[]
  cf := some (fileOf pool11 24 #[.nestMembers #[55, 131, 125, 114]] #[{ accessFlags := 1, nameIndex := 5, descriptorIndex := 6, attributes := #[] }, { accessFlags := 9, nameIndex := 33, descriptorIndex := 178, attributes := #[] }] 33 2 #[] #[{ accessFlags := 25, nameIndex := 123, descriptorIndex := 124, attributes := #[] }, { accessFlags := 25, nameIndex := 130, descriptorIndex := 124, attributes := #[] }, { accessFlags := 25, nameIndex := 136, descriptorIndex := 124, attributes := #[] }])
  fields := #[{ name := "SIOOBE_FORMATTER", type := (.object "java/util/function/BiFunction"), accessFlags := 25, slot := 0, constantValue := 0 }, { name := "AIOOBE_FORMATTER", type := (.object "java/util/function/BiFunction"), accessFlags := 25, slot := 1, constantValue := 0 }, { name := "IOOBE_FORMATTER", type := (.object "java/util/function/BiFunction"), accessFlags := 25, slot := 2, constantValue := 0 }]
  methods := #[k11m0, k11m1]
  instanceTypes := #[]
  staticTypes := #[(.object "java/util/function/BiFunction"), (.object "java/util/function/BiFunction"), (.object "java/util/function/BiFunction")]
  resolved := Array.replicate 194 none
  statics := some 2 }

def pool12 : Array CpInfo := pool [(1, .class_ 2), (0, u "java/lang/Math"), (1, .class_ 6), (1, u "java/lang/Object"), (0, u "<init>"), (0, u "()V"), (89, .class_ 100), (1, u "java/lang/Math$RandomNumberGeneratorHolder"), (71, u "negativeZeroFloatBits"), (0, u "J"), (2, u "negativeZeroDoubleBits"), (21, u "max"), (2, u "min"), (43, u "$assertionsDisabled"), (0, u "Z"), (88, u "(II)I"), (2, u "twoToTheDoubleScaleDown"), (0, u "D"), (4, u "twoToTheDoubleScaleUp"), (9, u "E"), (3, u "PI"), (2, u "TAU"), (2, u "DEGREES_TO_RADIANS"), (0, u "RADIANS_TO_DEGREES")] 94

def k12m0 : Method := { name := "<init>", desc := "()V", sig := { parameters := [], returnType := none }, accessFlags := 2, code := none }
def k12c1 : Code := { maxStack := 2, maxLocals := 2, code := jdk_29_method_65_code, exceptionTable := #[], attributes := #[] }
def k12m1 : Method := { name := "max", desc := "(II)I", sig := { parameters := [.int, .int], returnType := some .int }, accessFlags := 9, code := some k12c1 }
def k12c2 : Code := { maxStack := 2, maxLocals := 2, code := jdk_29_method_69_code, exceptionTable := #[], attributes := #[] }
def k12m2 : Method := { name := "min", desc := "(II)I", sig := { parameters := [.int, .int], returnType := some .int }, accessFlags := 9, code := some k12c2 }
/-- java/lang/Math -/
def k12 : Class := { plain "java/lang/Math" (some 0) with
  accessFlags := 49
  interfaces := #[]
  cf := some (fileOf pool12 1 #[.nestMembers #[98]] #[{ accessFlags := 2, nameIndex := 7, descriptorIndex := 8, attributes := #[] }, { accessFlags := 9, nameIndex := 198, descriptorIndex := 335, attributes := #[] }, { accessFlags := 9, nameIndex := 201, descriptorIndex := 335, attributes := #[] }] 49 4 #[] #[{ accessFlags := 25, nameIndex := 354, descriptorIndex := 339, attributes := #[] }, { accessFlags := 25, nameIndex := 358, descriptorIndex := 339, attributes := #[] }, { accessFlags := 25, nameIndex := 361, descriptorIndex := 339, attributes := #[] }, { accessFlags := 26, nameIndex := 364, descriptorIndex := 339, attributes := #[] }, { accessFlags := 26, nameIndex := 365, descriptorIndex := 339, attributes := #[] }, { accessFlags := 26, nameIndex := 172, descriptorIndex := 173, attributes := #[] }, { accessFlags := 26, nameIndex := 176, descriptorIndex := 173, attributes := #[] }, { accessFlags := 8, nameIndex := 344, descriptorIndex := 339, attributes := #[] }, { accessFlags := 8, nameIndex := 338, descriptorIndex := 339, attributes := #[] }, { accessFlags := 4120, nameIndex := 245, descriptorIndex := 246, attributes := #[] }])
  fields := #[{ name := "E", type := .double, accessFlags := 25, slot := 0, constantValue := 0 }, { name := "PI", type := .double, accessFlags := 25, slot := 1, constantValue := 0 }, { name := "TAU", type := .double, accessFlags := 25, slot := 2, constantValue := 0 }, { name := "DEGREES_TO_RADIANS", type := .double, accessFlags := 26, slot := 3, constantValue := 0 }, { name := "RADIANS_TO_DEGREES", type := .double, accessFlags := 26, slot := 4, constantValue := 0 }, { name := "negativeZeroFloatBits", type := .long, accessFlags := 26, slot := 5, constantValue := 0 }, { name := "negativeZeroDoubleBits", type := .long, accessFlags := 26, slot := 6, constantValue := 0 }, { name := "twoToTheDoubleScaleUp", type := .double, accessFlags := 8, slot := 7, constantValue := 0 }, { name := "twoToTheDoubleScaleDown", type := .double, accessFlags := 8, slot := 8, constantValue := 0 }, { name := "$assertionsDisabled", type := .boolean, accessFlags := 4120, slot := 9, constantValue := 0 }]
  methods := #[k12m0, k12m1, k12m2]
  instanceTypes := #[]
  staticTypes := #[.double, .double, .double, .double, .double, .long, .long, .double, .double, .boolean]
  resolved := Array.replicate 460 none
  statics := none }

def pool13 : Array CpInfo := pool [(9, u "<init>"), (6, .class_ 18), (1, u "java/lang/Object"), (0, u "()V"), (1, .class_ 23), (1, u "jdk/internal/util/ArraysSupport"), (0, u "LOG2_ARRAY_LONG_INDEX_SCALE"), (0, u "I"), (2, u "U"), (0, u "Ljdk/internal/misc/Unsafe;"), (8, u "BIG_ENDIAN"), (0, u "Z"), (8, u "LOG2_BYTE_BIT_SIZE"), (4, u "LOG2_ARRAY_INT_INDEX_SCALE"), (54, u "JLA"), (0, u "Ljdk/internal/access/JavaLangAccess;"), (11, u "LOG2_ARRAY_BOOLEAN_INDEX_SCALE"), (9, u "LOG2_ARRAY_BYTE_INDEX_SCALE"), (5, u "LOG2_ARRAY_CHAR_INDEX_SCALE"), (5, u "LOG2_ARRAY_SHORT_INDEX_SCALE"), (18, u "LOG2_ARRAY_FLOAT_INDEX_SCALE"), (24, u "LOG2_ARRAY_DOUBLE_INDEX_SCALE"), (89, u "T_BOOLEAN"), (2, u "T_CHAR"), (1, u "T_FLOAT"), (1, u "T_DOUBLE"), (1, u "T_BYTE"), (1, u "T_SHORT"), (1, u "T_INT"), (1, u "T_LONG"), (1, u "SOFT_MAX_ARRAY_LENGTH")] 83

def k13m0 : Method := { name := "<init>", desc := "()V", sig := { parameters := [], returnType := none }, accessFlags := 2, code := none }
/-- jdk/internal/util/ArraysSupport -/
def k13 : Class := { plain "jdk/internal/util/ArraysSupport" (some 0) with
  accessFlags := 33
  interfaces := #[]
  cf := some (fileOf pool13 21 #[] #[{ accessFlags := 2, nameIndex := 9, descriptorIndex := 19, attributes := #[] }] 33 16 #[] #[{ accessFlags := 24, nameIndex := 28, descriptorIndex := 29, attributes := #[] }, { accessFlags := 26, nameIndex := 38, descriptorIndex := 39, attributes := #[] }, { accessFlags := 25, nameIndex := 121, descriptorIndex := 25, attributes := #[] }, { accessFlags := 25, nameIndex := 131, descriptorIndex := 25, attributes := #[] }, { accessFlags := 25, nameIndex := 137, descriptorIndex := 25, attributes := #[] }, { accessFlags := 25, nameIndex := 143, descriptorIndex := 25, attributes := #[] }, { accessFlags := 25, nameIndex := 53, descriptorIndex := 25, attributes := #[] }, { accessFlags := 25, nameIndex := 24, descriptorIndex := 25, attributes := #[] }, { accessFlags := 25, nameIndex := 162, descriptorIndex := 25, attributes := #[] }, { accessFlags := 25, nameIndex := 187, descriptorIndex := 25, attributes := #[] }, { accessFlags := 26, nameIndex := 48, descriptorIndex := 25, attributes := #[] }, { accessFlags := 25, nameIndex := 277, descriptorIndex := 25, attributes := #[] }, { accessFlags := 25, nameIndex := 280, descriptorIndex := 25, attributes := #[] }, { accessFlags := 25, nameIndex := 282, descriptorIndex := 25, attributes := #[] }, { accessFlags := 25, nameIndex := 284, descriptorIndex := 25, attributes := #[] }, { accessFlags := 25, nameIndex := 286, descriptorIndex := 25, attributes := #[] }, { accessFlags := 25, nameIndex := 288, descriptorIndex := 25, attributes := #[] }, { accessFlags := 25, nameIndex := 290, descriptorIndex := 25, attributes := #[] }, { accessFlags := 25, nameIndex := 292, descriptorIndex := 25, attributes := #[] }, { accessFlags := 26, nameIndex := 108, descriptorIndex := 109, attributes := #[] }, { accessFlags := 25, nameIndex := 294, descriptorIndex := 25, attributes := #[] }])
  fields := #[{ name := "U", type := (.object "jdk/internal/misc/Unsafe"), accessFlags := 24, slot := 0, constantValue := 0 }, { name := "BIG_ENDIAN", type := .boolean, accessFlags := 26, slot := 1, constantValue := 0 }, { name := "LOG2_ARRAY_BOOLEAN_INDEX_SCALE", type := .int, accessFlags := 25, slot := 2, constantValue := 0 }, { name := "LOG2_ARRAY_BYTE_INDEX_SCALE", type := .int, accessFlags := 25, slot := 3, constantValue := 0 }, { name := "LOG2_ARRAY_CHAR_INDEX_SCALE", type := .int, accessFlags := 25, slot := 4, constantValue := 0 }, { name := "LOG2_ARRAY_SHORT_INDEX_SCALE", type := .int, accessFlags := 25, slot := 5, constantValue := 0 }, { name := "LOG2_ARRAY_INT_INDEX_SCALE", type := .int, accessFlags := 25, slot := 6, constantValue := 0 }, { name := "LOG2_ARRAY_LONG_INDEX_SCALE", type := .int, accessFlags := 25, slot := 7, constantValue := 0 }, { name := "LOG2_ARRAY_FLOAT_INDEX_SCALE", type := .int, accessFlags := 25, slot := 8, constantValue := 0 }, { name := "LOG2_ARRAY_DOUBLE_INDEX_SCALE", type := .int, accessFlags := 25, slot := 9, constantValue := 0 }, { name := "LOG2_BYTE_BIT_SIZE", type := .int, accessFlags := 26, slot := 10, constantValue := 0 }, { name := "T_BOOLEAN", type := .int, accessFlags := 25, slot := 11, constantValue := 0 }, { name := "T_CHAR", type := .int, accessFlags := 25, slot := 12, constantValue := 0 }, { name := "T_FLOAT", type := .int, accessFlags := 25, slot := 13, constantValue := 0 }, { name := "T_DOUBLE", type := .int, accessFlags := 25, slot := 14, constantValue := 0 }, { name := "T_BYTE", type := .int, accessFlags := 25, slot := 15, constantValue := 0 }, { name := "T_SHORT", type := .int, accessFlags := 25, slot := 16, constantValue := 0 }, { name := "T_INT", type := .int, accessFlags := 25, slot := 17, constantValue := 0 }, { name := "T_LONG", type := .int, accessFlags := 25, slot := 18, constantValue := 0 }, { name := "JLA", type := (.object "jdk/internal/access/JavaLangAccess"), accessFlags := 26, slot := 19, constantValue := 0 }, { name := "SOFT_MAX_ARRAY_LENGTH", type := .int, accessFlags := 25, slot := 20, constantValue := 0 }]
  methods := #[k13m0]
  instanceTypes := #[]
  staticTypes := #[(.object "jdk/internal/misc/Unsafe"), .boolean, .int, .int, .int, .int, .int, .int, .int, .int, .int, .int, .int, .int, .int, .int, .int, .int, .int, (.object "jdk/internal/access/JavaLangAccess"), .int]
  resolved := Array.replicate 378 none
  statics := none }

def pool14 : Array CpInfo := pool [(1, u "java/lang/Cloneable"), (0, .class_ 1), (0, u "java/lang/Object"), (0, .class_ 3)] 3

/-- java/lang/Cloneable -/
def k14 : Class := { plain "java/lang/Cloneable" (some 0) with
  accessFlags := 1537
  interfaces := #[]
  cf := some (fileOf pool14 2 #[] #[] 1537 4 #[] #[])
  fields := #[]
  methods := #[]
  instanceTypes := #[]
  staticTypes := #[]
  resolved := Array.replicate 8 none
  statics := none }

/-- the primitive byte -/
def k15 : Class := { plain "byte" none with kind := .primitive 'B', accessFlags := 0x411 }
/-- [B -/
def k16 : Class := { plain "[B" (some 0) with kind := .array 15 .byte, interfaces := #[14, 2], accessFlags := 1041 }

/-- the primitive char -/
def k17 : Class := { plain "char" none with kind := .primitive 'C', accessFlags := 0x411 }
/-- [C -/
def k18 : Class := { plain "[C" (some 0) with kind := .array 17 .char, interfaces := #[14, 2], accessFlags := 1041 }

/-- the primitive int -/
def k19 : Class := { plain "int" none with kind := .primitive 'I', accessFlags := 0x411 }
/-- [I -/
def k20 : Class := { plain "[I" (some 0) with kind := .array 19 .int, interfaces := #[14, 2], accessFlags := 1041 }

def heap : Heap := #[{ cls := 7, slots := #[.long 0, .int 1, .null, .int 0, .null, .int 0, .int 0], vm := .statics 7 },
  { cls := 9, slots := #[.int 0, .int 8, .int 0, .int 1], vm := .statics 9 },
  { cls := 11, slots := #[.null, .null, .null], vm := .statics 11 }]
def classes : Array Class := #[k0, k1, k2, k3, k4, k5, k6, k7, k8, k9, k10, k11, k12, k13, k14, k15, k16, k17, k18, k19, k20]
def interned : List (Array UInt16 × Addr) := []
def slotsUsed : Nat := 14
def theMethod : MethodId := ⟨1, 1⟩
def args0 : Array Value := #[.int 5, .int 7, .int 3, .int 9, .int 3]
def aboutOver (below : List Frame) : State where
  vm := { classes := classes, interned := interned.toArray }
  heap := heap
  slotsUsed := slotsUsed
  threads := #[{ frames := .invoking theMethod args0 :: below }]
def below0 : List Frame := [.native { method := ⟨0, 0⟩, args := #[] }]
def about1 : State := aboutOver below0
def p0 : Program := .bare "" "" ""
def e0 : Env := launch0.env 0 0 0
theorem w_frames : about1.frames = Frame.invoking theMethod args0 :: below0 := rfl
set_option maxRecDepth 65536 in
theorem w_args : argsFit about1.vm theMethod args0 = true := by decide +kernel
set_option maxRecDepth 65536 in
theorem w_heap : heapFits about1 = true := by decide +kernel
set_option maxRecDepth 65536 in
theorem w_runnable : about1.curStatus? = some .runnable := by decide +kernel
set_option maxRecDepth 65536 in
theorem w_alone : about1.alone = true := by decide +kernel
set_option maxRecDepth 65536 in
theorem w_named : about1.methodNamed? x = some theMethod := by decide +kernel
set_option maxRecDepth 65536 in
theorem w_hears : about1.hears theMethod below0 = true := by decide +kernel
set_option maxRecDepth 65536 in
theorem w_ripe : about1.ripe theMethod args0 below0 = true := by decide +kernel
theorem w_running : about1.status = .running := rfl
set_option maxRecDepth 65536 in
theorem w_room : about1.hasRoom e0.platform room_1 = true :=
  launch0.hasRoom_least _ room_1 (by decide +kernel) (by decide +kernel) (by decide +kernel) (by decide +kernel) (by decide +kernel) (by decide +kernel)
theorem allAtoms_all (ts : List Jvm.Cond) (a : Array Jvm.Value) (st : Jvm.State) : (allAtoms ts).before a st = ts.all (fun c => c.before a st) := by
  induction ts with
  | nil => rfl
  | cons c t ih =>
    show (Jvm.Cond.and c (allAtoms t)).before a st = _
    rw [Jvm.Cond.before_and, ih, List.all_cons]
def words1 : List Jvm.Cond := Jvm.Cond.code x code maxLocals ret :: tables_1
/-- a 'code' word, met by the world's own term for the bytes: nothing is compared byte by byte -/
theorem code_word {y : MethodName} {bytes : ByteArray} {mx : Nat} {rt : Option FieldType} {a : Array Value} {s : State} {m : MethodId} {meth : Method} {c : Code} (h1 : s.methodNamed? y = some m) (h2 : s.vm.method? m = some meth) (h3 : meth.code = some c) (h4 : c.code = bytes)
    (h5 : (c.maxLocals == mx && c.exceptionTable.isEmpty && decide (c.maxStack ≤ mostOperands) && decide (meth.sig.returnType = rt) && !meth.locks && decide (parseMethodDescriptor y.desc = some meth.sig)) = true) : (Jvm.Cond.code y bytes mx rt).before a s = true := by
  simp only [Bool.and_eq_true, beq_iff_eq, Bool.not_eq_true', decide_eq_true_eq] at h5
  obtain ⟨⟨⟨⟨⟨g1, g2⟩, g3⟩, g4⟩, g5⟩, g6⟩ := h5
  simp [Cond.before, Cond.holds, Cond.value, h1, h2, h3, h4, g1, g2, g3, g4, g5, g6]
def isCode : Jvm.Cond → Bool
  | .code _ _ _ _ => true
  | _ => false
theorem all_split {L : List Jvm.Cond} {P : Jvm.Cond → Bool} (h1 : L.all (fun c => isCode c || P c) = true) (h2 : ∀ c ∈ L.filter isCode, P c = true) : L.all P = true := by
  refine List.all_eq_true.mpr fun c hc => ?_
  have h := List.all_eq_true.mp h1 c hc
  rcases Bool.eq_false_or_eq_true (isCode c) with hi | hi
  · exact h2 c (List.mem_filter.mpr ⟨hc, hi⟩)
  · simpa [hi] using h
set_option maxRecDepth 65536 in
theorem w_c0 : (Jvm.Cond.code x code maxLocals ret).before args0 about1 = true := code_word (m := ⟨1, 1⟩) (meth := k1m1) (c := k1c1) (by decide +kernel) rfl rfl rfl (by decide +kernel)
set_option maxRecDepth 65536 in
theorem w_c1 : (Jvm.Cond.code ({ cls := "com/example/bowline/internal/AsciiIsTokenPinLaw", name := "make", desc := "(ICCCC)Ljava/lang/String;" } : Jvm.MethodName) method_3_code (5 : Nat) (Option.some (Jvm.ClassFile.FieldType.object "java/lang/String"))).before args0 about1 = true := code_word (m := ⟨1, 2⟩) (meth := k1m2) (c := k1c2) (by decide +kernel) rfl rfl rfl (by decide +kernel)
set_option maxRecDepth 65536 in
theorem w_c2 : (Jvm.Cond.code ({ cls := "java/lang/String", name := "<init>", desc := "([C)V" } : Jvm.MethodName) jdk_42_method_3_code (2 : Nat) (Option.none : Option Jvm.ClassFile.FieldType)).before args0 about1 = true := code_word (m := ⟨7, 1⟩) (meth := k7m1) (c := k7c1) (by decide +kernel) rfl rfl rfl (by decide +kernel)
set_option maxRecDepth 65536 in
theorem w_c3 : (Jvm.Cond.code ({ cls := "java/lang/String", name := "<init>", desc := "([CIILjava/lang/Void;)V" } : Jvm.MethodName) jdk_42_method_149_code (6 : Nat) (Option.none : Option Jvm.ClassFile.FieldType)).before args0 about1 = true := code_word (m := ⟨7, 7⟩) (meth := k7m7) (c := k7c7) (by decide +kernel) rfl rfl rfl (by decide +kernel)
set_option maxRecDepth 65536 in
theorem w_c4 : (Jvm.Cond.code ({ cls := "java/lang/Object", name := "<init>", desc := "()V" } : Jvm.MethodName) object_method_1_code (1 : Nat) (Option.none : Option Jvm.ClassFile.FieldType)).before args0 about1 = true := code_word (m := ⟨0, 0⟩) (meth := k0m0) (c := k0c0) (by decide +kernel) rfl rfl rfl (by decide +kernel)
set_option maxRecDepth 65536 in
theorem w_c5 : (Jvm.Cond.code ({ cls := "com/example/bowline/internal/Ascii", name := "isToken", desc := "(Ljava/lang/String;)Z" } : Jvm.MethodName) prog_23_method_3_code (4 : Nat) (Option.some Jvm.ClassFile.FieldType.boolean)).before args0 about1 = true := code_word (m := ⟨8, 1⟩) (meth := k8m1) (c := k8c1) (by decide +kernel) rfl rfl rfl (by decide +kernel)
set_option maxRecDepth 65536 in
theorem w_c6 : (Jvm.Cond.code ({ cls := "java/lang/String", name := "isEmpty", desc := "()Z" } : Jvm.MethodName) jdk_42_method_55_code (1 : Nat) (Option.some Jvm.ClassFile.FieldType.boolean)).before args0 about1 = true := code_word (m := ⟨7, 3⟩) (meth := k7m3) (c := k7c3) (by decide +kernel) rfl rfl rfl (by decide +kernel)
set_option maxRecDepth 65536 in
theorem w_c7 : (Jvm.Cond.code ({ cls := "java/lang/StringUTF16", name := "compress", desc := "([CII)[B" } : Jvm.MethodName) jdk_52_method_16_code (6 : Nat) (Option.some (Jvm.ClassFile.FieldType.array Jvm.ClassFile.FieldType.byte))).before args0 about1 = true := code_word (m := ⟨9, 8⟩) (meth := k9m8) (c := k9c8) (by decide +kernel) rfl rfl rfl (by decide +kernel)
set_option maxRecDepth 65536 in
theorem w_c8 : (Jvm.Cond.code ({ cls := "java/lang/StringUTF16", name := "compress", desc := "([CI[BII)I" } : Jvm.MethodName) jdk_52_method_21_code (7 : Nat) (Option.some Jvm.ClassFile.FieldType.int)).before args0 about1 = true := code_word (m := ⟨9, 9⟩) (meth := k9m9) (c := k9c9) (by decide +kernel) rfl rfl rfl (by decide +kernel)
set_option maxRecDepth 65536 in
theorem w_c9 : (Jvm.Cond.code ({ cls := "java/lang/StringUTF16", name := "coderFromArrayLen", desc := "([BI)B" } : Jvm.MethodName) jdk_52_method_15_code (2 : Nat) (Option.some Jvm.ClassFile.FieldType.byte)).before args0 about1 = true := code_word (m := ⟨9, 7⟩) (meth := k9m7) (c := k9c7) (by decide +kernel) rfl rfl rfl (by decide +kernel)
set_option maxRecDepth 65536 in
theorem w_c10 : (Jvm.Cond.code ({ cls := "com/example/bowline/internal/AsciiIsTokenPinLaw", name := "tchar", desc := "(C)Z" } : Jvm.MethodName) method_4_code (1 : Nat) (Option.some Jvm.ClassFile.FieldType.boolean)).before args0 about1 = true := code_word (m := ⟨1, 3⟩) (meth := k1m3) (c := k1c3) (by decide +kernel) rfl rfl rfl (by decide +kernel)
set_option maxRecDepth 65536 in
theorem w_c11 : (Jvm.Cond.code ({ cls := "java/lang/String", name := "length", desc := "()I" } : Jvm.MethodName) jdk_42_method_54_code (1 : Nat) (Option.some Jvm.ClassFile.FieldType.int)).before args0 about1 = true := code_word (m := ⟨7, 2⟩) (meth := k7m2) (c := k7c2) (by decide +kernel) rfl rfl rfl (by decide +kernel)
set_option maxRecDepth 65536 in
theorem w_c12 : (Jvm.Cond.code ({ cls := "java/lang/String", name := "coder", desc := "()B" } : Jvm.MethodName) jdk_42_method_152_code (1 : Nat) (Option.some Jvm.ClassFile.FieldType.byte)).before args0 about1 = true := code_word (m := ⟨7, 8⟩) (meth := k7m8) (c := k7c8) (by decide +kernel) rfl rfl rfl (by decide +kernel)
set_option maxRecDepth 65536 in
theorem w_c13 : (Jvm.Cond.code ({ cls := "java/lang/String", name := "charAt", desc := "(I)C" } : Jvm.MethodName) jdk_42_method_56_code (2 : Nat) (Option.some Jvm.ClassFile.FieldType.char)).before args0 about1 = true := code_word (m := ⟨7, 4⟩) (meth := k7m4) (c := k7c4) (by decide +kernel) rfl rfl rfl (by decide +kernel)
set_option maxRecDepth 65536 in
theorem w_c14 : (Jvm.Cond.code ({ cls := "java/lang/String", name := "isLatin1", desc := "()Z" } : Jvm.MethodName) jdk_42_method_154_code (1 : Nat) (Option.some Jvm.ClassFile.FieldType.boolean)).before args0 about1 = true := code_word (m := ⟨7, 9⟩) (meth := k7m9) (c := k7c9) (by decide +kernel) rfl rfl rfl (by decide +kernel)
set_option maxRecDepth 65536 in
theorem w_c15 : (Jvm.Cond.code ({ cls := "java/lang/StringLatin1", name := "charAt", desc := "([BI)C" } : Jvm.MethodName) jdk_43_method_2_code (2 : Nat) (Option.some Jvm.ClassFile.FieldType.char)).before args0 about1 = true := code_word (m := ⟨10, 1⟩) (meth := k10m1) (c := k10c1) (by decide +kernel) rfl rfl rfl (by decide +kernel)
set_option maxRecDepth 65536 in
theorem w_c16 : (Jvm.Cond.code ({ cls := "java/lang/String", name := "checkIndex", desc := "(II)V" } : Jvm.MethodName) jdk_42_method_155_code (2 : Nat) (Option.none : Option Jvm.ClassFile.FieldType)).before args0 about1 = true := code_word (m := ⟨7, 10⟩) (meth := k7m10) (c := k7c10) (by decide +kernel) rfl rfl rfl (by decide +kernel)
set_option maxRecDepth 65536 in
theorem w_c17 : (Jvm.Cond.code ({ cls := "jdk/internal/util/Preconditions", name := "checkIndex", desc := "(IILjava/util/function/BiFunction;)I" } : Jvm.MethodName) jdk_41_method_11_code (3 : Nat) (Option.some Jvm.ClassFile.FieldType.int)).before args0 about1 = true := code_word (m := ⟨11, 1⟩) (meth := k11m1) (c := k11c1) (by decide +kernel) rfl rfl rfl (by decide +kernel)
set_option maxRecDepth 65536 in
theorem w_c18 : (Jvm.Cond.code ({ cls := "java/lang/String", name := "indexOf", desc := "(I)I" } : Jvm.MethodName) jdk_42_method_79_code (2 : Nat) (Option.some Jvm.ClassFile.FieldType.int)).before args0 about1 = true := code_word (m := ⟨7, 5⟩) (meth := k7m5) (c := k7c5) (by decide +kernel) rfl rfl rfl (by decide +kernel)
set_option maxRecDepth 65536 in
theorem w_c19 : (Jvm.Cond.code ({ cls := "java/lang/String", name := "indexOf", desc := "(II)I" } : Jvm.MethodName) jdk_42_method_80_code (3 : Nat) (Option.some Jvm.ClassFile.FieldType.int)).before args0 about1 = true := code_word (m := ⟨7, 6⟩) (meth := k7m6) (c := k7c6) (by decide +kernel) rfl rfl rfl (by decide +kernel)
set_option maxRecDepth 65536 in
theorem w_c20 : (Jvm.Cond.code ({ cls := "java/lang/StringLatin1", name := "indexOf", desc := "([BIII)I" } : Jvm.MethodName) jdk_43_method_22_code (4 : Nat) (Option.some Jvm.ClassFile.FieldType.int)).before args0 about1 = true := code_word (m := ⟨10, 3⟩) (meth := k10m3) (c := k10c3) (by decide +kernel) rfl rfl rfl (by decide +kernel)
set_option maxRecDepth 65536 in
theorem w_c21 : (Jvm.Cond.code ({ cls := "java/lang/StringLatin1", name := "canEncode", desc := "(I)Z" } : Jvm.MethodName) jdk_43_method_4_code (1 : Nat) (Option.some Jvm.ClassFile.FieldType.boolean)).before args0 about1 = true := code_word (m := ⟨10, 2⟩) (meth := k10m2) (c := k10c2) (by decide +kernel) rfl rfl rfl (by decide +kernel)
set_option maxRecDepth 65536 in
theorem w_c22 : (Jvm.Cond.code ({ cls := "java/lang/Math", name := "max", desc := "(II)I" } : Jvm.MethodName) jdk_29_method_65_code (2 : Nat) (Option.some Jvm.ClassFile.FieldType.int)).before args0 about1 = true := code_word (m := ⟨12, 1⟩) (meth := k12m1) (c := k12c1) (by decide +kernel) rfl rfl rfl (by decide +kernel)
set_option maxRecDepth 65536 in
theorem w_c23 : (Jvm.Cond.code ({ cls := "java/lang/Math", name := "min", desc := "(II)I" } : Jvm.MethodName) jdk_29_method_69_code (2 : Nat) (Option.some Jvm.ClassFile.FieldType.int)).before args0 about1 = true := code_word (m := ⟨12, 2⟩) (meth := k12m2) (c := k12c2) (by decide +kernel) rfl rfl rfl (by decide +kernel)
set_option maxRecDepth 65536 in
theorem w_c24 : (Jvm.Cond.code ({ cls := "java/lang/StringLatin1", name := "indexOfChar", desc := "([BIII)I" } : Jvm.MethodName) jdk_43_method_23_code (6 : Nat) (Option.some Jvm.ClassFile.FieldType.int)).before args0 about1 = true := code_word (m := ⟨10, 4⟩) (meth := k10m4) (c := k10c4) (by decide +kernel) rfl rfl rfl (by decide +kernel)
set_option maxRecDepth 65536 in
theorem w_c25 : (Jvm.Cond.code ({ cls := "java/lang/StringUTF16", name := "toBytes", desc := "([CII)[B" } : Jvm.MethodName) jdk_52_method_14_code (5 : Nat) (Option.some (Jvm.ClassFile.FieldType.array Jvm.ClassFile.FieldType.byte))).before args0 about1 = true := code_word (m := ⟨9, 6⟩) (meth := k9m6) (c := k9c6) (by decide +kernel) rfl rfl rfl (by decide +kernel)
set_option maxRecDepth 65536 in
theorem w_c26 : (Jvm.Cond.code ({ cls := "java/lang/StringUTF16", name := "newBytesFor", desc := "(I)[B" } : Jvm.MethodName) jdk_52_method_2_code (1 : Nat) (Option.some (Jvm.ClassFile.FieldType.array Jvm.ClassFile.FieldType.byte))).before args0 about1 = true := code_word (m := ⟨9, 1⟩) (meth := k9m1) (c := k9c1) (by decide +kernel) rfl rfl rfl (by decide +kernel)
set_option maxRecDepth 65536 in
theorem w_c27 : (Jvm.Cond.code ({ cls := "java/lang/StringUTF16", name := "newBytesLength", desc := "(I)I" } : Jvm.MethodName) jdk_52_method_3_code (1 : Nat) (Option.some Jvm.ClassFile.FieldType.int)).before args0 about1 = true := code_word (m := ⟨9, 2⟩) (meth := k9m2) (c := k9c2) (by decide +kernel) rfl rfl rfl (by decide +kernel)
set_option maxRecDepth 65536 in
theorem w_c28 : (Jvm.Cond.code ({ cls := "java/lang/StringUTF16", name := "putChar", desc := "([BII)V" } : Jvm.MethodName) jdk_52_method_4_code (3 : Nat) (Option.none : Option Jvm.ClassFile.FieldType)).before args0 about1 = true := code_word (m := ⟨9, 3⟩) (meth := k9m3) (c := k9c3) (by decide +kernel) rfl rfl rfl (by decide +kernel)
set_option maxRecDepth 65536 in
theorem w_c29 : (Jvm.Cond.code ({ cls := "java/lang/StringUTF16", name := "getChar", desc := "([BI)C" } : Jvm.MethodName) jdk_52_method_5_code (2 : Nat) (Option.some Jvm.ClassFile.FieldType.char)).before args0 about1 = true := code_word (m := ⟨9, 4⟩) (meth := k9m4) (c := k9c4) (by decide +kernel) rfl rfl rfl (by decide +kernel)
set_option maxRecDepth 65536 in
theorem w_c30 : (Jvm.Cond.code ({ cls := "java/lang/StringUTF16", name := "charAt", desc := "([BI)C" } : Jvm.MethodName) jdk_52_method_83_code (2 : Nat) (Option.some Jvm.ClassFile.FieldType.char)).before args0 about1 = true := code_word (m := ⟨9, 10⟩) (meth := k9m10) (c := k9c10) (by decide +kernel) rfl rfl rfl (by decide +kernel)
set_option maxRecDepth 65536 in
theorem w_c31 : (Jvm.Cond.code ({ cls := "java/lang/StringUTF16", name := "checkIndex", desc := "(I[B)V" } : Jvm.MethodName) jdk_52_method_91_code (2 : Nat) (Option.none : Option Jvm.ClassFile.FieldType)).before args0 about1 = true := code_word (m := ⟨9, 11⟩) (meth := k9m11) (c := k9c11) (by decide +kernel) rfl rfl rfl (by decide +kernel)
set_option maxRecDepth 65536 in
theorem w_c32 : (Jvm.Cond.code ({ cls := "java/lang/StringUTF16", name := "length", desc := "([B)I" } : Jvm.MethodName) jdk_52_method_6_code (1 : Nat) (Option.some Jvm.ClassFile.FieldType.int)).before args0 about1 = true := code_word (m := ⟨9, 5⟩) (meth := k9m5) (c := k9c5) (by decide +kernel) rfl rfl rfl (by decide +kernel)
def codes1 : List Jvm.Cond := [Jvm.Cond.code x code maxLocals ret, Jvm.Cond.code ({ cls := "com/example/bowline/internal/AsciiIsTokenPinLaw", name := "make", desc := "(ICCCC)Ljava/lang/String;" } : Jvm.MethodName) method_3_code (5 : Nat) (Option.some (Jvm.ClassFile.FieldType.object "java/lang/String")), Jvm.Cond.code ({ cls := "java/lang/String", name := "<init>", desc := "([C)V" } : Jvm.MethodName) jdk_42_method_3_code (2 : Nat) (Option.none : Option Jvm.ClassFile.FieldType), Jvm.Cond.code ({ cls := "java/lang/String", name := "<init>", desc := "([CIILjava/lang/Void;)V" } : Jvm.MethodName) jdk_42_method_149_code (6 : Nat) (Option.none : Option Jvm.ClassFile.FieldType), Jvm.Cond.code ({ cls := "java/lang/Object", name := "<init>", desc := "()V" } : Jvm.MethodName) object_method_1_code (1 : Nat) (Option.none : Option Jvm.ClassFile.FieldType), Jvm.Cond.code ({ cls := "com/example/bowline/internal/Ascii", name := "isToken", desc := "(Ljava/lang/String;)Z" } : Jvm.MethodName) prog_23_method_3_code (4 : Nat) (Option.some Jvm.ClassFile.FieldType.boolean), Jvm.Cond.code ({ cls := "java/lang/String", name := "isEmpty", desc := "()Z" } : Jvm.MethodName) jdk_42_method_55_code (1 : Nat) (Option.some Jvm.ClassFile.FieldType.boolean), Jvm.Cond.code ({ cls := "java/lang/StringUTF16", name := "compress", desc := "([CII)[B" } : Jvm.MethodName) jdk_52_method_16_code (6 : Nat) (Option.some (Jvm.ClassFile.FieldType.array Jvm.ClassFile.FieldType.byte)), Jvm.Cond.code ({ cls := "java/lang/StringUTF16", name := "compress", desc := "([CI[BII)I" } : Jvm.MethodName) jdk_52_method_21_code (7 : Nat) (Option.some Jvm.ClassFile.FieldType.int), Jvm.Cond.code ({ cls := "java/lang/StringUTF16", name := "coderFromArrayLen", desc := "([BI)B" } : Jvm.MethodName) jdk_52_method_15_code (2 : Nat) (Option.some Jvm.ClassFile.FieldType.byte), Jvm.Cond.code ({ cls := "com/example/bowline/internal/AsciiIsTokenPinLaw", name := "tchar", desc := "(C)Z" } : Jvm.MethodName) method_4_code (1 : Nat) (Option.some Jvm.ClassFile.FieldType.boolean), Jvm.Cond.code ({ cls := "java/lang/String", name := "length", desc := "()I" } : Jvm.MethodName) jdk_42_method_54_code (1 : Nat) (Option.some Jvm.ClassFile.FieldType.int), Jvm.Cond.code ({ cls := "java/lang/String", name := "coder", desc := "()B" } : Jvm.MethodName) jdk_42_method_152_code (1 : Nat) (Option.some Jvm.ClassFile.FieldType.byte), Jvm.Cond.code ({ cls := "java/lang/String", name := "charAt", desc := "(I)C" } : Jvm.MethodName) jdk_42_method_56_code (2 : Nat) (Option.some Jvm.ClassFile.FieldType.char), Jvm.Cond.code ({ cls := "java/lang/String", name := "isLatin1", desc := "()Z" } : Jvm.MethodName) jdk_42_method_154_code (1 : Nat) (Option.some Jvm.ClassFile.FieldType.boolean), Jvm.Cond.code ({ cls := "java/lang/StringLatin1", name := "charAt", desc := "([BI)C" } : Jvm.MethodName) jdk_43_method_2_code (2 : Nat) (Option.some Jvm.ClassFile.FieldType.char), Jvm.Cond.code ({ cls := "java/lang/String", name := "checkIndex", desc := "(II)V" } : Jvm.MethodName) jdk_42_method_155_code (2 : Nat) (Option.none : Option Jvm.ClassFile.FieldType), Jvm.Cond.code ({ cls := "jdk/internal/util/Preconditions", name := "checkIndex", desc := "(IILjava/util/function/BiFunction;)I" } : Jvm.MethodName) jdk_41_method_11_code (3 : Nat) (Option.some Jvm.ClassFile.FieldType.int), Jvm.Cond.code ({ cls := "java/lang/String", name := "indexOf", desc := "(I)I" } : Jvm.MethodName) jdk_42_method_79_code (2 : Nat) (Option.some Jvm.ClassFile.FieldType.int), Jvm.Cond.code ({ cls := "java/lang/String", name := "indexOf", desc := "(II)I" } : Jvm.MethodName) jdk_42_method_80_code (3 : Nat) (Option.some Jvm.ClassFile.FieldType.int), Jvm.Cond.code ({ cls := "java/lang/StringLatin1", name := "indexOf", desc := "([BIII)I" } : Jvm.MethodName) jdk_43_method_22_code (4 : Nat) (Option.some Jvm.ClassFile.FieldType.int), Jvm.Cond.code ({ cls := "java/lang/StringLatin1", name := "canEncode", desc := "(I)Z" } : Jvm.MethodName) jdk_43_method_4_code (1 : Nat) (Option.some Jvm.ClassFile.FieldType.boolean), Jvm.Cond.code ({ cls := "java/lang/Math", name := "max", desc := "(II)I" } : Jvm.MethodName) jdk_29_method_65_code (2 : Nat) (Option.some Jvm.ClassFile.FieldType.int), Jvm.Cond.code ({ cls := "java/lang/Math", name := "min", desc := "(II)I" } : Jvm.MethodName) jdk_29_method_69_code (2 : Nat) (Option.some Jvm.ClassFile.FieldType.int), Jvm.Cond.code ({ cls := "java/lang/StringLatin1", name := "indexOfChar", desc := "([BIII)I" } : Jvm.MethodName) jdk_43_method_23_code (6 : Nat) (Option.some Jvm.ClassFile.FieldType.int), Jvm.Cond.code ({ cls := "java/lang/StringUTF16", name := "toBytes", desc := "([CII)[B" } : Jvm.MethodName) jdk_52_method_14_code (5 : Nat) (Option.some (Jvm.ClassFile.FieldType.array Jvm.ClassFile.FieldType.byte)), Jvm.Cond.code ({ cls := "java/lang/StringUTF16", name := "newBytesFor", desc := "(I)[B" } : Jvm.MethodName) jdk_52_method_2_code (1 : Nat) (Option.some (Jvm.ClassFile.FieldType.array Jvm.ClassFile.FieldType.byte)), Jvm.Cond.code ({ cls := "java/lang/StringUTF16", name := "newBytesLength", desc := "(I)I" } : Jvm.MethodName) jdk_52_method_3_code (1 : Nat) (Option.some Jvm.ClassFile.FieldType.int), Jvm.Cond.code ({ cls := "java/lang/StringUTF16", name := "putChar", desc := "([BII)V" } : Jvm.MethodName) jdk_52_method_4_code (3 : Nat) (Option.none : Option Jvm.ClassFile.FieldType), Jvm.Cond.code ({ cls := "java/lang/StringUTF16", name := "getChar", desc := "([BI)C" } : Jvm.MethodName) jdk_52_method_5_code (2 : Nat) (Option.some Jvm.ClassFile.FieldType.char), Jvm.Cond.code ({ cls := "java/lang/StringUTF16", name := "charAt", desc := "([BI)C" } : Jvm.MethodName) jdk_52_method_83_code (2 : Nat) (Option.some Jvm.ClassFile.FieldType.char), Jvm.Cond.code ({ cls := "java/lang/StringUTF16", name := "checkIndex", desc := "(I[B)V" } : Jvm.MethodName) jdk_52_method_91_code (2 : Nat) (Option.none : Option Jvm.ClassFile.FieldType), Jvm.Cond.code ({ cls := "java/lang/StringUTF16", name := "length", desc := "([B)I" } : Jvm.MethodName) jdk_52_method_6_code (1 : Nat) (Option.some Jvm.ClassFile.FieldType.int)]
set_option maxRecDepth 65536 in
theorem codes_eq : words1.filter isCode = codes1 := rfl
theorem w_codes : ∀ c ∈ words1.filter isCode, c.before args0 about1 = true := by
  rw [codes_eq]
  intro c hc
  simp only [codes1, List.mem_cons, List.not_mem_nil, or_false] at hc
  rcases hc with rfl | rfl | rfl | rfl | rfl | rfl | rfl | rfl | rfl | rfl | rfl | rfl | rfl | rfl | rfl | rfl | rfl | rfl | rfl | rfl | rfl | rfl | rfl | rfl | rfl | rfl | rfl | rfl | rfl | rfl | rfl | rfl | rfl
  · exact w_c0
  · exact w_c1
  · exact w_c2
  · exact w_c3
  · exact w_c4
  · exact w_c5
  · exact w_c6
  · exact w_c7
  · exact w_c8
  · exact w_c9
  · exact w_c10
  · exact w_c11
  · exact w_c12
  · exact w_c13
  · exact w_c14
  · exact w_c15
  · exact w_c16
  · exact w_c17
  · exact w_c18
  · exact w_c19
  · exact w_c20
  · exact w_c21
  · exact w_c22
  · exact w_c23
  · exact w_c24
  · exact w_c25
  · exact w_c26
  · exact w_c27
  · exact w_c28
  · exact w_c29
  · exact w_c30
  · exact w_c31
  · exact w_c32
set_option maxRecDepth 65536 in
theorem w_t1 : (words1.take 24).all (fun c => isCode c || c.before args0 about1) = true := by decide +kernel
set_option maxRecDepth 65536 in
theorem w_t2 : ((words1.drop 24).take 24).all (fun c => isCode c || c.before args0 about1) = true := by decide +kernel
set_option maxRecDepth 65536 in
theorem w_t3 : (((words1.drop 24).drop 24).take 24).all (fun c => isCode c || c.before args0 about1) = true := by decide +kernel
set_option maxRecDepth 65536 in
theorem w_t4 : ((((words1.drop 24).drop 24).drop 24).take 24).all (fun c => isCode c || c.before args0 about1) = true := by decide +kernel
set_option maxRecDepth 65536 in
theorem w_t5 : (((((words1.drop 24).drop 24).drop 24).drop 24).take 24).all (fun c => isCode c || c.before args0 about1) = true := by decide +kernel
set_option maxRecDepth 65536 in
theorem w_t6 : (((((words1.drop 24).drop 24).drop 24).drop 24).drop 24).all (fun c => isCode c || c.before args0 about1) = true := by decide +kernel
theorem w_tables : (allAtoms (Jvm.Cond.code x code maxLocals ret :: tables_1)).before args0 about1 = true := by
  rw [allAtoms_all]
  show words1.all (fun c => c.before args0 about1) = true
  refine all_split ?_ w_codes
  rw [← List.take_append_drop 24 words1, List.all_append, w_t1, ← List.take_append_drop 24 (words1.drop 24), List.all_append, w_t2, ← List.take_append_drop 24 ((words1.drop 24).drop 24), List.all_append, w_t3, ← List.take_append_drop 24 (((words1.drop 24).drop 24).drop 24), List.all_append, w_t4, ← List.take_append_drop 24 ((((words1.drop 24).drop 24).drop 24).drop 24), List.all_append, w_t5, w_t6]
  rfl
set_option maxRecDepth 65536 in
theorem w_rest : rest_1_c.before args0 about1 = true := by decide +kernel
set_option maxRecDepth 65536 in
theorem w_case : (Jvm.Cond.and given_1 narrow_1).before args0 about1 = true := by decide +kernel
set_option maxRecDepth 65536 in
theorem w_consts : constsHeld consts_1 about1 := Jvm.Lit.constsHeldB_iff.mp (by decide +kernel)
theorem w_applies : (headSpec (Jvm.Cond.code x code maxLocals ret :: tables_1) room_1).applies x e0.platform about1 = true :=
  (Spec.applies_iff w_frames).mpr ⟨w_running, w_runnable, w_alone, w_named, w_hears, w_ripe, w_room, w_tables⟩
theorem atStart : AtStart classFile x code maxLocals ret World_1 tables_1 room_1 Calls_1 rest_1 Pre_1 launch0 p0 e0 about1 theMethod args0 below0 :=
  ⟨lists_1, trivial, launch0.admits_env _ _ _, launch0.least_env, fairChoices_fair.cas, fairChoices_fair.clock, w_frames, w_args, w_heap, w_applies, ⟨w_consts, trivial⟩, w_rest, w_case⟩
end start1
theorem witness_1 : WitnessClaimed_1 := ⟨start1.p0, start1.e0, start1.about1, start1.theMethod, start1.args0, start1.below0, start1.atStart⟩
end Jvm.Pilot.@@N@@
