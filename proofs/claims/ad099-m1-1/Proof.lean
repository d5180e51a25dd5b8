import JvmDerived
import JvmDerived.Pilot.@@N@@Statement
import JvmDerived.Pilot.@@N@@Code
set_option linter.unusedVariables false
set_option linter.unusedSimpArgs false

namespace Jvm.GoKit
open Jvm Jvm.ClassFile Sem Op Lib Jvm.Free Jvm.Stand Jvm.LawKit Jvm.RoadKit Bundle
/-- what goes with a Stand over the re-based start -/
def Hid (s Z : State) (wd : Bool) (EL : List (String × Nat)) (n0 : Nat) (ow0 ow : List Addr) (T : State) (locs : List Loc) (vm0 : Vm) (k0 : Nat) (h : Heap) : Prop :=
  s.Since vm0 k0 ∧ k0 ≤ h.size ∧ Z.Warmed39 vm0 ∧ T.heap = h ∧ Fr n0 locs ∧ CHr Z EL s.vm s.heap vm0 h ∧ Keep s.heap h ow0 ∧ Old Z n0 h ∧ (∀ x ∈ ow, Safe Z EL vm0 h x ∧ x < h.size ∧ n0 ≤ x ∧ (x ∈ ow0 ∨ s.heap.size ≤ x)) ∧ (wd = true ∨ s.WarmedH vm0)
/-- what a body leaves -/
def FinS (s Z : State) (wd : Bool) (EL : List (String × Nat)) (n0 : Nat) (ow0 : List Addr) (R : Room) (Q : Option Value → Heap → Prop) (o : Outcome) (t : State) : Prop :=
  ∃ v L, o = .returned v ∧ Q v t.heap ∧ Fr n0 L ∧ CHr Z EL s.vm s.heap t.vm t.heap ∧ Keep s.heap t.heap ow0 ∧ ReturnedEndW s o t L R.cells R.slots ∧ (wd = true ∨ s.WarmedH t.vm)
/-- from wherever the walk stands with heap h at the frame g, the run ends in Q -/
def Run (p : Program) (l : Launch) (e : Env) (R : Room) (s : State) (m : MethodId) (args : Array Value) (below : List Frame) (meth : Method) (c : Code) (Z : State) (wd : Bool) (EL : List (String × Nat)) (n0 : Nat) (ow0 : List Addr) (Q : Option Value → Heap → Prop)
    (h : Heap) (ow : List Addr) (cells slots : Nat) (g : JFrame) : Prop :=
  ∀ (T : State) (locs : List Loc) (vm0 : Vm) (k0 : Nat), Stand p l e R (s.setVm vm0) m args below meth c T locs cells slots → Hid s Z wd EL n0 ow0 ow T locs vm0 k0 h →
    ∃ s₂ o, Steps p.tables e below (T.setTop g) s₂ ∧ s₂.status = .running ∧ Ended s₂ below o ∧ FinS s Z wd EL n0 ow0 R Q o s₂
/-- a method's contract -/
def Con (l : Launch) (Z : State) (wd : Bool) (EL : List (String × Nat)) (n0 : Nat) (y : MethodName) (bytes : ByteArray) (maxL : Nat) (ret : Option FieldType) (rm : Room) (ws : List Jvm.Cond) (as' : Array Value) (h0 : Heap) (ow : List Addr) (Q : Option Value → Heap → Prop) : Prop :=
  MetFree l y (head1 (Jvm.Cond.code y bytes maxL ret :: ws) rm) (fun a U => a = as' ∧ Z.Warmed39 U.vm ∧ U.heap = h0 ∧ Old Z n0 h0 ∧ CHv Z EL U.vm h0 ∧ ∀ x ∈ ow, Safe Z EL U.vm h0 x ∧ x < h0.size ∧ n0 ≤ x) (fun _ _ _ _ _ => True) (fun _ U o U' => FinS U Z wd EL n0 ow rm Q o U')
/-- what stays of a body -/
def Gd (p : Program) (s : State) (m : MethodId) (meth : Method) (c : Code) (y : MethodName) (bytes : ByteArray) (maxL : Nat) (ret : Option FieldType) (Z : State) (a0 : Array Value) (EL : List (String × Nat)) : Prop :=
  p.tables.exec = Jvm.exec ∧ c.code = bytes ∧ c.maxLocals = maxL ∧ s.vm.findClass y.cls = some m.cls ∧ meth.sig.returnType = ret ∧ meth.name = y.name ∧ meth.locks = false ∧ EW Z a0 EL
section
variable {p : Program} {l : Launch} {e : Env} {R : Room} {s : State} {m : MethodId} {args : Array Value} {below : List Frame} {meth : Method} {c : Code} {Z : State} {wd : Bool} {EL : List (String × Nat)} {n0 : Nat} {ow0 : List Addr} {Q : Option Value → Heap → Prop}
variable {h : Heap} {ow : List Addr} {cells slots cells' slots' : Nat} {pc pc' : Nat} {Ls Ls' : Array Slot} {st rest : List Value} {y : MethodName} {bytes : ByteArray} {maxL : Nat} {ret : Option FieldType} {a0 : Array Value}
theorem Con.intro {ws : List Jvm.Cond} {as' : Array Value} (hx : plainFor y = true) (hEL : EW Z a0 EL)
    (body : ∀ (p : Program) (e : Env) (s : State) (m : MethodId) (below : List Frame) (meth : Method) (c : Code), s.heap = h → Gd p s m meth c y bytes maxL ret Z a0 EL → Run p l e R s m as' below meth c Z wd EL n0 ow Q h ow 0 0 (entryFrame m as' maxL)) :
    Con l Z wd EL n0 y bytes maxL ret R ws as' h ow Q := by
  refine MetFree.of_bodySF hx hisR ?_
  intro p e s m args below meth c s₁ Bd hml0 hP hK
  obtain ⟨rfl, hZ, hh, hO, hC, hS⟩ := hP
  have e0 : s₁.heap = h := by rw [← hh, Bd.state]; rfl
  have X0 : Stand p l e R s m args below meth c s₁ [] 0 0 := Stand.of_body Bd
  refine body p e s m below meth c hh ⟨Bd.exec, Bd.bytes, hml0, findClass_of_methodNamed Bd.named, Bd.returns, (name_of_methodNamed Bd.named Bd.method).1, Bd.notSynchronized, hEL⟩ s₁ [] s.vm h.size X0 ?_
  have hc : CHr Z EL s.vm s.heap s.vm h := by rw [hh]; exact CHr.refl hC
  refine ⟨(State.WarmedH.refl s).since _, Nat.le_refl _, hZ, e0, Fr.nil _, hc, by rw [hh]; exact Keep.refl _ _, hO, fun x hx => ⟨(hS x hx).1, (hS x hx).2.1, (hS x hx).2.2, Or.inl hx⟩, Or.inr (State.WarmedH.refl s)⟩
theorem Run.stp {g g' : JFrame} (stp : ∀ (T : State) (locs : List Loc) (vm0 : Vm) (k0 : Nat), Stand p l e R (s.setVm vm0) m args below meth c T locs cells slots → Hid s Z wd EL n0 ow0 ow T locs vm0 k0 h → ∀ t, Steps p.tables e below (T.setTop g') t → Steps p.tables e below (T.setTop g) t)
    (K : Run p l e R s m args below meth c Z wd EL n0 ow0 Q h ow cells slots g') : Run p l e R s m args below meth c Z wd EL n0 ow0 Q h ow cells slots g := fun T locs vm0 k0 X H => by
  obtain ⟨s₂, o, a, b⟩ := K T locs vm0 k0 X H
  exact ⟨s₂, o, stp T locs vm0 k0 X H _ a, b⟩
theorem Run.mov {g g' : JFrame} (stp : ∀ (T : State) (locs : List Loc) (vm0 : Vm) (k0 : Nat), Stand p l e R (s.setVm vm0) m args below meth c T locs cells slots → Hid s Z wd EL n0 ow0 ow T locs vm0 k0 h →
      ∃ T', Stand p l e R (s.setVm vm0) m args below meth c T' locs cells slots ∧ T'.heap = h ∧ ∀ t, Steps p.tables e below (T'.setTop g') t → Steps p.tables e below (T.setTop g) t)
    (K : Run p l e R s m args below meth c Z wd EL n0 ow0 Q h ow cells slots g') : Run p l e R s m args below meth c Z wd EL n0 ow0 Q h ow cells slots g := fun T locs vm0 k0 X H => by
  obtain ⟨T', X', eT, st⟩ := stp T locs vm0 k0 X H
  obtain ⟨i1, i2, i3, -, i5⟩ := H
  obtain ⟨s₂, o, a, b⟩ := K T' locs vm0 k0 X' ⟨i1, i2, i3, eT, i5⟩
  exact ⟨s₂, o, st _ a, b⟩
theorem Run.mono {g : JFrame} {cells' slots' : Nat} (hc : cells ≤ cells') (hs : slots ≤ slots') (K : Run p l e R s m args below meth c Z wd EL n0 ow0 Q h ow cells' slots' g) : Run p l e R s m args below meth c Z wd EL n0 ow0 Q h ow cells slots g := fun T locs vm0 k0 X H => K T locs vm0 k0 (X.mono hc hs) H
theorem Run.owless {g : JFrame} {ow' : List Addr} (hs : ∀ x ∈ ow', x ∈ ow) (K : Run p l e R s m args below meth c Z wd EL n0 ow0 Q h ow' cells slots g) : Run p l e R s m args below meth c Z wd EL n0 ow0 Q h ow cells slots g := fun T locs vm0 k0 X H => by
  obtain ⟨i1, i2, i3, i4, i5, i6, i7, i8, i9, i10⟩ := H
  exact K T locs vm0 k0 X ⟨i1, i2, i3, i4, i5, i6, i7, i8, fun x q => i9 x (hs x q), i10⟩
/-- what is known at every point -/
theorem Run.know {g : JFrame} (K : Ext Z.heap h → Keep s.heap h ow0 → (∀ x ∈ ow, x < h.size ∧ n0 ≤ x ∧ (x ∈ ow0 ∨ s.heap.size ≤ x)) → Run p l e R s m args below meth c Z wd EL n0 ow0 Q h ow cells slots g) : Run p l e R s m args below meth c Z wd EL n0 ow0 Q h ow cells slots g := fun T locs vm0 k0 X H =>
  K H.2.2.2.2.2.2.2.1.2 H.2.2.2.2.2.2.1 (fun x q => (H.2.2.2.2.2.2.2.2.1 x q).2) T locs vm0 k0 X H
theorem Gd.own (G : Gd p s m meth c y bytes maxL ret Z a0 EL) {vm0 : Vm} {k0 : Nat} (hS : s.Since vm0 k0) : vm0.findClass y.cls = some m.cls := (hS.1.alike.findClass _ _).trans G.2.2.2.1
theorem Gd.hb (G : Gd p s m meth c y bytes maxL ret Z a0 EL) {pc : Nat} {r : Except ClassFile.DecodeError (ClassFile.Instr × Nat)} (h2 : ClassFile.decode bytes pc = r) : ClassFile.decode c.code pc = r := Jvm.hb G.2.1 h2
theorem Hid.cell {T : State} {locs : List Loc} {vm0 : Vm} {k0 : Nat} {a : Addr} {cl : Cell} {ty : FieldType} (H : Hid s Z wd EL n0 ow0 ow T locs vm0 k0 h) (A : Arr Z h a cl ty) : T.heap[a]? = some cl := by
  rw [H.2.2.2.1]; exact A.1
theorem Hid.arr {T : State} {locs : List Loc} {vm0 : Vm} {k0 : Nat} {a : Addr} {cl : Cell} {ty : FieldType} (H : Hid s Z wd EL n0 ow0 ow T locs vm0 k0 h) (A : Arr Z h a cl ty) : (s.setVm vm0).isArrayOf cl ty := State.isArrayOf_alike (T := s.setVm vm0) H.2.2.1.alike A.2.1
/-- a write at a place that is ours -/
theorem Hid.wr {T T' : State} {locs : List Loc} {vm0 : Vm} {k0 sl : Nat} {h' : Heap} {a : Addr} {v : Value} (H : Hid s Z wd EL n0 ow0 ow T locs vm0 k0 h) (W : Wr h h' a sl v) (ha : a ∈ ow) (eT : T'.heap = h') : Hid s Z wd EL n0 ow0 ow T' (locs ++ [⟨a, sl⟩]) vm0 k0 h' := by
  obtain ⟨i1, i2, i3, i4, i5, i6, i7, i8, i9, i10⟩ := H
  obtain ⟨S, q1, q2, q3⟩ := i9 a ha
  have hsz : h'.size = h.size := W.size
  refine ⟨i1, by rw [hsz]; exact i2, i3, eT, i5.app (fun y hy => by cases List.mem_singleton.mp hy; exact q2), i6.trans (CHr.wr W S i6.1), i7.wr W q3, i8.wr W q2, fun x hx => ?_, i10⟩
  obtain ⟨S', r1, r2, r3⟩ := i9 x hx
  exact ⟨Safe.wr W S i6.1 S', by rw [hsz]; exact r1, r2, r3⟩
theorem instNAt {T : State} {locs : List Loc} {vm0 : Vm} (X : Stand p l e R (s.setVm vm0) m args below meth c T locs cells slots) (hx : p.tables.exec = Jvm.exec) (hZ : Z.Warmed39 vm0) {own K D : String} {index : Nat} (hown : vm0.findClass own = some m.cls) (w : (Jvm.Cond.classLink own index K).before a0 Z = true) (eT : T.heap = h) {a : Addr} (F : Ins Z h a K false) (E : Exa Z h a D)
    {g : JFrame} (hg : g.method = m) {rest : List Value} (hs : g.stack = .ref a :: rest) (hd : decode c.code g.pc = .ok (.instanceof index, 3)) : ∃ T', Stand p l e R (s.setVm vm0) m args below meth c T' locs cells slots ∧ T'.heap = h ∧ ∀ target, Steps p.tables e below (T'.setTop { g with pc := g.pc + 3, stack := .int 0 :: rest }) target → Steps p.tables e below (T.setTop g) target := by
  obtain ⟨cell, cT, h1, h2, h3⟩ := F
  obtain ⟨cell', k, e1, -, e3, e4, -⟩ := E
  cases h1.symm.trans e1
  obtain ⟨k', q, -⟩ := hZ.alike.2.2 _ _ e3
  obtain ⟨vm', X', st⟩ := Sym.instanceofNoAt X hx hown (mv (s := s.setVm vm0) hZ w) (by rw [eT]; exact h1) e4 q (by show vm0.findClass K = _; rw [hZ.alike.findClass]; exact h2) (by show vm0.assignable _ _ = _; rw [hZ.alike.assignable]; simpa [e4] using h3) hg hs hd
  exact ⟨_, X', eT, st⟩
/-- a new cell -/
theorem Hid.ext {T T' : State} {locs : List Loc} {vm0 : Vm} {k0 : Nat} {h' : Heap} (H : Hid s Z wd EL n0 ow0 ow T locs vm0 k0 h) (E : Ext h h') (hlt : h.size < h'.size) (eT : T'.heap = h') : Hid s Z wd EL n0 ow0 (h.size :: ow) T' locs vm0 k0 h' := by
  obtain ⟨i1, i2, i3, i4, i5, i6, i7, i8, i9, i10⟩ := H
  refine ⟨i1, Nat.le_trans i2 E.1, i3, eT, i5, i6.trans (CHr.ext E i6.1), i7.ext E, i8.ext E, fun x hx => ?_, i10⟩
  rcases List.mem_cons.mp hx with rfl | hx
  · exact ⟨(Safe.new (Nat.le_refl _)).ext E i6.1, hlt, i8.1 ▸ i8.2.1, Or.inr i7.1⟩
  · obtain ⟨S', r1, r2, r3⟩ := i9 x hx
    exact ⟨S'.ext E i6.1, Nat.lt_of_lt_of_le r1 E.1, r2, r3⟩
theorem aloadN (G : Gd p s m meth c y bytes maxL ret Z a0 EL) {k : Fin 4} {v : Value} (hd : decode bytes pc = .ok (.aload_n k, 1)) (hl : Ls[k.val]? = some (.val v)) (hv : v.isRef = true) (hp : pc + 1 = pc') (K : Run p l e R s m args below meth c Z wd EL n0 ow0 Q h ow cells slots (mkF m pc' Ls (v :: st))) : Run p l e R s m args below meth c Z wd EL n0 ow0 Q h ow cells slots (mkF m pc Ls st) := by
  subst hp
  exact Run.stp (fun T locs vm0 k0 X H t k => XS.aloadN X.here G.1 rfl (G.hb hd) hl hv k) K
theorem aload (G : Gd p s m meth c y bytes maxL ret Z a0 EL) {k : Nat} {v : Value} (hd : decode bytes pc = .ok (.aload k, 2)) (hl : Ls[k]? = some (.val v)) (hv : v.isRef = true) (hp : pc + 2 = pc') (K : Run p l e R s m args below meth c Z wd EL n0 ow0 Q h ow cells slots (mkF m pc' Ls (v :: st))) : Run p l e R s m args below meth c Z wd EL n0 ow0 Q h ow cells slots (mkF m pc Ls st) := by
  subst hp
  exact Run.stp (fun T locs vm0 k0 X H t k => XS.aload X.here G.1 rfl (G.hb hd) hl hv k) K
theorem iloadN (G : Gd p s m meth c y bytes maxL ret Z a0 EL) {k : Fin 4} {v : Int32} (hd : decode bytes pc = .ok (.iload_n k, 1)) (hl : Ls[k.val]? = some (.val (.int v))) (hp : pc + 1 = pc') (K : Run p l e R s m args below meth c Z wd EL n0 ow0 Q h ow cells slots (mkF m pc' Ls (.int v :: st))) : Run p l e R s m args below meth c Z wd EL n0 ow0 Q h ow cells slots (mkF m pc Ls st) := by
  subst hp
  exact Run.stp (fun T locs vm0 k0 X H t k => XS.iloadN X.here G.1 rfl (G.hb hd) hl k) K
theorem iload (G : Gd p s m meth c y bytes maxL ret Z a0 EL) {k : Nat} {v : Int32} (hd : decode bytes pc = .ok (.iload k, 2)) (hl : Ls[k]? = some (.val (.int v))) (hp : pc + 2 = pc') (K : Run p l e R s m args below meth c Z wd EL n0 ow0 Q h ow cells slots (mkF m pc' Ls (.int v :: st))) : Run p l e R s m args below meth c Z wd EL n0 ow0 Q h ow cells slots (mkF m pc Ls st) := by
  subst hp
  exact Run.stp (fun T locs vm0 k0 X H t k => XS.iload X.here G.1 rfl (G.hb hd) hl k) K
theorem iconst (G : Gd p s m meth c y bytes maxL ret Z a0 EL) {i : Int} (v : Int32) (hd : decode bytes pc = .ok (.iconst i, 1)) (hv : Int32.ofInt i = v) (hp : pc + 1 = pc') (K : Run p l e R s m args below meth c Z wd EL n0 ow0 Q h ow cells slots (mkF m pc' Ls (.int v :: st))) : Run p l e R s m args below meth c Z wd EL n0 ow0 Q h ow cells slots (mkF m pc Ls st) := by
  subst hp
  exact Run.stp (fun T locs vm0 k0 X H t k => XT.iconstV X.here G.1 rfl v (G.hb hd) hv k) K
theorem bipush (G : Gd p s m meth c y bytes maxL ret Z a0 EL) {i : Int} (v : Int32) (hd : decode bytes pc = .ok (.bipush i, 2)) (hv : (Int8.ofInt i).toInt32 = v) (hp : pc + 2 = pc') (K : Run p l e R s m args below meth c Z wd EL n0 ow0 Q h ow cells slots (mkF m pc' Ls (.int v :: st))) : Run p l e R s m args below meth c Z wd EL n0 ow0 Q h ow cells slots (mkF m pc Ls st) := by
  subst hp
  exact Run.stp (fun T locs vm0 k0 X H t k => XT.bipushV X.here G.1 rfl v (G.hb hd) hv k) K
theorem sipush (G : Gd p s m meth c y bytes maxL ret Z a0 EL) {i : Int} (v : Int32) (hd : decode bytes pc = .ok (.sipush i, 3)) (hv : (Int16.ofInt i).toInt32 = v) (hp : pc + 3 = pc') (K : Run p l e R s m args below meth c Z wd EL n0 ow0 Q h ow cells slots (mkF m pc' Ls (.int v :: st))) : Run p l e R s m args below meth c Z wd EL n0 ow0 Q h ow cells slots (mkF m pc Ls st) := by
  subst hp
  exact Run.stp (fun T locs vm0 k0 X H t k => XT.sipushV X.here G.1 rfl v (G.hb hd) hv k) K
theorem aconstNull (G : Gd p s m meth c y bytes maxL ret Z a0 EL)  (hd : decode bytes pc = .ok (.aconst_null, 1))  (hp : pc + 1 = pc') (K : Run p l e R s m args below meth c Z wd EL n0 ow0 Q h ow cells slots (mkF m pc' Ls (.null :: st))) : Run p l e R s m args below meth c Z wd EL n0 ow0 Q h ow cells slots (mkF m pc Ls st) := by
  subst hp
  exact Run.stp (fun T locs vm0 k0 X H t k => XS.aconstNull X.here G.1 rfl (G.hb hd) k) K
theorem dup (G : Gd p s m meth c y bytes maxL ret Z a0 EL) {v : Value} (hd : decode bytes pc = .ok (.dup, 1)) (hv : v.category = 1) (hp : pc + 1 = pc') (K : Run p l e R s m args below meth c Z wd EL n0 ow0 Q h ow cells slots (mkF m pc' Ls (v :: v :: rest))) : Run p l e R s m args below meth c Z wd EL n0 ow0 Q h ow cells slots (mkF m pc Ls (v :: rest)) := by
  subst hp
  exact Run.stp (fun T locs vm0 k0 X H t k => XS.dup X.here G.1 rfl (G.hb hd) rfl hv k) K
theorem pop (G : Gd p s m meth c y bytes maxL ret Z a0 EL) {v : Value} (hd : decode bytes pc = .ok (.pop, 1)) (hv : v.category = 1) (hp : pc + 1 = pc') (K : Run p l e R s m args below meth c Z wd EL n0 ow0 Q h ow cells slots (mkF m pc' Ls rest)) : Run p l e R s m args below meth c Z wd EL n0 ow0 Q h ow cells slots (mkF m pc Ls (v :: rest)) := by
  subst hp
  exact Run.stp (fun T locs vm0 k0 X H t k => XT.pop X.here G.1 rfl (G.hb hd) rfl hv k) K
theorem dupX1 (G : Gd p s m meth c y bytes maxL ret Z a0 EL) {v w : Value} (hd : decode bytes pc = .ok (.dup_x1, 1)) (hv : v.category = 1) (hw : w.category = 1) (hp : pc + 1 = pc') (K : Run p l e R s m args below meth c Z wd EL n0 ow0 Q h ow cells slots (mkF m pc' Ls (v :: w :: v :: rest))) : Run p l e R s m args below meth c Z wd EL n0 ow0 Q h ow cells slots (mkF m pc Ls (v :: w :: rest)) := by
  subst hp
  exact Run.stp (fun T locs vm0 k0 X H t k => XT.dupX1 X.here G.1 rfl (G.hb hd) rfl hv hw k) K
theorem istoreN (G : Gd p s m meth c y bytes maxL ret Z a0 EL) {k : Fin 4} {x : Int32} (hd : decode bytes pc = .ok (.istore_n k, 1)) (hl : storeLocals Ls k.val (.int x) = some Ls') (hp : pc + 1 = pc') (K : Run p l e R s m args below meth c Z wd EL n0 ow0 Q h ow cells slots (mkF m pc' Ls' rest)) : Run p l e R s m args below meth c Z wd EL n0 ow0 Q h ow cells slots (mkF m pc Ls (.int x :: rest)) := by
  subst hp
  exact Run.stp (fun T locs vm0 k0 X H t k => XS.istoreN X.here G.1 rfl (G.hb hd) rfl hl k) K
theorem istore (G : Gd p s m meth c y bytes maxL ret Z a0 EL) {k : Nat} {x : Int32} (hd : decode bytes pc = .ok (.istore k, 2)) (hl : storeLocals Ls k (.int x) = some Ls') (hp : pc + 2 = pc') (K : Run p l e R s m args below meth c Z wd EL n0 ow0 Q h ow cells slots (mkF m pc' Ls' rest)) : Run p l e R s m args below meth c Z wd EL n0 ow0 Q h ow cells slots (mkF m pc Ls (.int x :: rest)) := by
  subst hp
  exact Run.stp (fun T locs vm0 k0 X H t k => XS.istore X.here G.1 rfl (G.hb hd) rfl hl k) K
theorem astoreN (G : Gd p s m meth c y bytes maxL ret Z a0 EL) {k : Fin 4} {x : Value} (hd : decode bytes pc = .ok (.astore_n k, 1)) (hv : x.isRef = true) (hl : storeLocals Ls k.val x = some Ls') (hp : pc + 1 = pc') (K : Run p l e R s m args below meth c Z wd EL n0 ow0 Q h ow cells slots (mkF m pc' Ls' rest)) : Run p l e R s m args below meth c Z wd EL n0 ow0 Q h ow cells slots (mkF m pc Ls (x :: rest)) := by
  subst hp
  exact Run.stp (fun T locs vm0 k0 X H t k => XS.astoreN X.here G.1 rfl (G.hb hd) rfl hv hl k) K
theorem astore (G : Gd p s m meth c y bytes maxL ret Z a0 EL) {k : Nat} {x : Value} (hd : decode bytes pc = .ok (.astore k, 2)) (hv : x.isRef = true) (hl : storeLocals Ls k x = some Ls') (hp : pc + 2 = pc') (K : Run p l e R s m args below meth c Z wd EL n0 ow0 Q h ow cells slots (mkF m pc' Ls' rest)) : Run p l e R s m args below meth c Z wd EL n0 ow0 Q h ow cells slots (mkF m pc Ls (x :: rest)) := by
  subst hp
  exact Run.stp (fun T locs vm0 k0 X H t k => XS.astore X.here G.1 rfl (G.hb hd) rfl hv hl k) K
theorem iinc (G : Gd p s m meth c y bytes maxL ret Z a0 EL) {k : Nat} {i : Int} {x : Int32} (v : Int32) (hd : decode bytes pc = .ok (.iinc k i, 3)) (hv : Int32.ofInt i = v) (hl : Ls[k]? = some (.val (.int x))) (hl' : storeLocals Ls k (.int (x + v)) = some Ls') (hp : pc + 3 = pc') (K : Run p l e R s m args below meth c Z wd EL n0 ow0 Q h ow cells slots (mkF m pc' Ls' st)) : Run p l e R s m args below meth c Z wd EL n0 ow0 Q h ow cells slots (mkF m pc Ls st) := by
  subst hp
  exact Run.stp (fun T locs vm0 k0 X H t k => XT.iincV X.here G.1 rfl v (G.hb hd) hv hl hl' k) K
theorem iadd (G : Gd p s m meth c y bytes maxL ret Z a0 EL) {x z : Int32} (hd : decode bytes pc = .ok (.iadd, 1))  (hp : pc + 1 = pc') (K : ∀ v : Int32, v = x + z → Run p l e R s m args below meth c Z wd EL n0 ow0 Q h ow cells slots (mkF m pc' Ls (.int v :: rest))) : Run p l e R s m args below meth c Z wd EL n0 ow0 Q h ow cells slots (mkF m pc Ls (.int z :: .int x :: rest)) := by
  subst hp
  exact Run.stp (fun T locs vm0 k0 X H t k => XS.iadd X.here G.1 rfl (G.hb hd) rfl k) (K _ rfl)
theorem isub (G : Gd p s m meth c y bytes maxL ret Z a0 EL) {x z : Int32} (hd : decode bytes pc = .ok (.isub, 1))  (hp : pc + 1 = pc') (K : ∀ v : Int32, v = x - z → Run p l e R s m args below meth c Z wd EL n0 ow0 Q h ow cells slots (mkF m pc' Ls (.int v :: rest))) : Run p l e R s m args below meth c Z wd EL n0 ow0 Q h ow cells slots (mkF m pc Ls (.int z :: .int x :: rest)) := by
  subst hp
  exact Run.stp (fun T locs vm0 k0 X H t k => XS.isub X.here G.1 rfl (G.hb hd) rfl k) (K _ rfl)
theorem iand (G : Gd p s m meth c y bytes maxL ret Z a0 EL) {x z : Int32} (hd : decode bytes pc = .ok (.iand, 1))  (hp : pc + 1 = pc') (K : ∀ v : Int32, v = x &&& z → Run p l e R s m args below meth c Z wd EL n0 ow0 Q h ow cells slots (mkF m pc' Ls (.int v :: rest))) : Run p l e R s m args below meth c Z wd EL n0 ow0 Q h ow cells slots (mkF m pc Ls (.int z :: .int x :: rest)) := by
  subst hp
  exact Run.stp (fun T locs vm0 k0 X H t k => XS.iand X.here G.1 rfl (G.hb hd) rfl k) (K _ rfl)
theorem imul (G : Gd p s m meth c y bytes maxL ret Z a0 EL) {x z : Int32} (hd : decode bytes pc = .ok (.imul, 1))  (hp : pc + 1 = pc') (K : ∀ v : Int32, v = x * z → Run p l e R s m args below meth c Z wd EL n0 ow0 Q h ow cells slots (mkF m pc' Ls (.int v :: rest))) : Run p l e R s m args below meth c Z wd EL n0 ow0 Q h ow cells slots (mkF m pc Ls (.int z :: .int x :: rest)) := by
  subst hp
  exact Run.stp (fun T locs vm0 k0 X H t k => XS.imul X.here G.1 rfl (G.hb hd) rfl k) (K _ rfl)
theorem ior (G : Gd p s m meth c y bytes maxL ret Z a0 EL) {x z : Int32} (hd : decode bytes pc = .ok (.ior, 1))  (hp : pc + 1 = pc') (K : ∀ v : Int32, v = x ||| z → Run p l e R s m args below meth c Z wd EL n0 ow0 Q h ow cells slots (mkF m pc' Ls (.int v :: rest))) : Run p l e R s m args below meth c Z wd EL n0 ow0 Q h ow cells slots (mkF m pc Ls (.int z :: .int x :: rest)) := by
  subst hp
  exact Run.stp (fun T locs vm0 k0 X H t k => XT.ior X.here G.1 rfl (G.hb hd) rfl k) (K _ rfl)
theorem ixor (G : Gd p s m meth c y bytes maxL ret Z a0 EL) {x z : Int32} (hd : decode bytes pc = .ok (.ixor, 1))  (hp : pc + 1 = pc') (K : ∀ v : Int32, v = x ^^^ z → Run p l e R s m args below meth c Z wd EL n0 ow0 Q h ow cells slots (mkF m pc' Ls (.int v :: rest))) : Run p l e R s m args below meth c Z wd EL n0 ow0 Q h ow cells slots (mkF m pc Ls (.int z :: .int x :: rest)) := by
  subst hp
  exact Run.stp (fun T locs vm0 k0 X H t k => XT.ixor X.here G.1 rfl (G.hb hd) rfl k) (K _ rfl)
theorem irem (G : Gd p s m meth c y bytes maxL ret Z a0 EL) {x z : Int32} (hd : decode bytes pc = .ok (.irem, 1)) (hz : z ≠ 0) (hp : pc + 1 = pc') (K : ∀ v : Int32, v = x % z → Run p l e R s m args below meth c Z wd EL n0 ow0 Q h ow cells slots (mkF m pc' Ls (.int v :: rest))) : Run p l e R s m args below meth c Z wd EL n0 ow0 Q h ow cells slots (mkF m pc Ls (.int z :: .int x :: rest)) := by
  subst hp
  exact Run.stp (fun T locs vm0 k0 X H t k => iremM X G.1 rfl (G.hb hd) rfl hz k) (K _ rfl)
theorem ineg (G : Gd p s m meth c y bytes maxL ret Z a0 EL) {x : Int32} (hd : decode bytes pc = .ok (.ineg, 1)) (hp : pc + 1 = pc') (K : ∀ v : Int32, v = -x → Run p l e R s m args below meth c Z wd EL n0 ow0 Q h ow cells slots (mkF m pc' Ls (.int v :: rest))) : Run p l e R s m args below meth c Z wd EL n0 ow0 Q h ow cells slots (mkF m pc Ls (.int x :: rest)) := by
  subst hp
  exact Run.stp (fun T locs vm0 k0 X H t k => XS.ineg X.here G.1 rfl (G.hb hd) rfl k) (K _ rfl)
theorem i2c (G : Gd p s m meth c y bytes maxL ret Z a0 EL) {x : Int32} (hd : decode bytes pc = .ok (.i2c, 1)) (hp : pc + 1 = pc') (K : ∀ v : Int32, v = x.toUInt32.toUInt16.toUInt32.toInt32 → Run p l e R s m args below meth c Z wd EL n0 ow0 Q h ow cells slots (mkF m pc' Ls (.int v :: rest))) : Run p l e R s m args below meth c Z wd EL n0 ow0 Q h ow cells slots (mkF m pc Ls (.int x :: rest)) := by
  subst hp
  exact Run.stp (fun T locs vm0 k0 X H t k => XT.i2c X.here G.1 rfl (G.hb hd) rfl k) (K _ rfl)
theorem i2b (G : Gd p s m meth c y bytes maxL ret Z a0 EL) {x : Int32} (hd : decode bytes pc = .ok (.i2b, 1)) (hp : pc + 1 = pc') (K : ∀ v : Int32, v = x.toInt8.toInt32 → Run p l e R s m args below meth c Z wd EL n0 ow0 Q h ow cells slots (mkF m pc' Ls (.int v :: rest))) : Run p l e R s m args below meth c Z wd EL n0 ow0 Q h ow cells slots (mkF m pc Ls (.int x :: rest)) := by
  subst hp
  exact Run.stp (fun T locs vm0 k0 X H t k => XT.i2b X.here G.1 rfl (G.hb hd) rfl k) (K _ rfl)
theorem ishl (G : Gd p s m meth c y bytes maxL ret Z a0 EL) {x z : Int32} (hd : decode bytes pc = .ok (.ishl, 1))  (hp : pc + 1 = pc') (K : ∀ v : Int32, v = x <<< (z &&& 31) → Run p l e R s m args below meth c Z wd EL n0 ow0 Q h ow cells slots (mkF m pc' Ls (.int v :: rest))) : Run p l e R s m args below meth c Z wd EL n0 ow0 Q h ow cells slots (mkF m pc Ls (.int z :: .int x :: rest)) := by
  subst hp
  exact Run.stp (fun T locs vm0 k0 X H t k => XT.ishl X.here G.1 rfl (G.hb hd) rfl k) (K _ rfl)
theorem ishr (G : Gd p s m meth c y bytes maxL ret Z a0 EL) {x z : Int32} (hd : decode bytes pc = .ok (.ishr, 1))  (hp : pc + 1 = pc') (K : ∀ v : Int32, v = x >>> (z &&& 31) → Run p l e R s m args below meth c Z wd EL n0 ow0 Q h ow cells slots (mkF m pc' Ls (.int v :: rest))) : Run p l e R s m args below meth c Z wd EL n0 ow0 Q h ow cells slots (mkF m pc Ls (.int z :: .int x :: rest)) := by
  subst hp
  exact Run.stp (fun T locs vm0 k0 X H t k => XT.ishr X.here G.1 rfl (G.hb hd) rfl k) (K _ rfl)
theorem iushr (G : Gd p s m meth c y bytes maxL ret Z a0 EL) {x z : Int32} (hd : decode bytes pc = .ok (.iushr, 1))  (hp : pc + 1 = pc') (K : ∀ v : Int32, v = (x.toUInt32 >>> (z &&& 31).toUInt32).toInt32 → Run p l e R s m args below meth c Z wd EL n0 ow0 Q h ow cells slots (mkF m pc' Ls (.int v :: rest))) : Run p l e R s m args below meth c Z wd EL n0 ow0 Q h ow cells slots (mkF m pc Ls (.int z :: .int x :: rest)) := by
  subst hp
  exact Run.stp (fun T locs vm0 k0 X H t k => XT.iushr X.here G.1 rfl (G.hb hd) rfl k) (K _ rfl)
theorem goto (G : Gd p s m meth c y bytes maxL ret Z a0 EL) {o : Int} (hd : decode bytes pc = .ok (.goto o, 3)) (ho : 0 ≤ (pc : Int) + o) (hp : ((pc : Int) + o).toNat = pc') (K : Run p l e R s m args below meth c Z wd EL n0 ow0 Q h ow cells slots (mkF m pc' Ls st)) : Run p l e R s m args below meth c Z wd EL n0 ow0 Q h ow cells slots (mkF m pc Ls st) :=
  Run.stp (fun T locs vm0 k0 X H t k => XS.goto X.here G.1 rfl rfl (G.hb hd) ho hp k) K
theorem icmp_eq_t (G : Gd p s m meth c y bytes maxL ret Z a0 EL) {o : Int} {x z : Int32} (hd : decode bytes pc = .ok (.if_icmp .eq o, 3)) (hc : x = z) (ho : 0 ≤ (pc : Int) + o) (hp : ((pc : Int) + o).toNat = pc') (K : Run p l e R s m args below meth c Z wd EL n0 ow0 Q h ow cells slots (mkF m pc' Ls rest)) : Run p l e R s m args below meth c Z wd EL n0 ow0 Q h ow cells slots (mkF m pc Ls (.int z :: .int x :: rest)) :=
  Run.stp (fun T locs vm0 k0 X H t k => XS.icmpYes X.here G.1 rfl rfl (G.hb hd) rfl (XT.ii_eq_t hc) ho hp k) K
theorem icmp_eq_f (G : Gd p s m meth c y bytes maxL ret Z a0 EL) {o : Int} {x z : Int32} (hd : decode bytes pc = .ok (.if_icmp .eq o, 3)) (hc : ¬ x = z) (hp : pc + 3 = pc') (K : Run p l e R s m args below meth c Z wd EL n0 ow0 Q h ow cells slots (mkF m pc' Ls rest)) : Run p l e R s m args below meth c Z wd EL n0 ow0 Q h ow cells slots (mkF m pc Ls (.int z :: .int x :: rest)) := by
  subst hp
  exact Run.stp (fun T locs vm0 k0 X H t k => XS.icmpNo X.here G.1 rfl (G.hb hd) rfl (XT.ii_eq_f hc) k) K
theorem icmp_eq (G : Gd p s m meth c y bytes maxL ret Z a0 EL) {o : Int} {x z : Int32} {pt pf : Nat} (hd : decode bytes pc = .ok (.if_icmp .eq o, 3)) (ho : 0 ≤ (pc : Int) + o) (hp : ((pc : Int) + o).toNat = pt) (hq : pc + 3 = pf) (K1 : (x = z) → Run p l e R s m args below meth c Z wd EL n0 ow0 Q h ow cells slots (mkF m pt Ls rest)) (K2 : (¬ x = z) → Run p l e R s m args below meth c Z wd EL n0 ow0 Q h ow cells slots (mkF m pf Ls rest)) : Run p l e R s m args below meth c Z wd EL n0 ow0 Q h ow cells slots (mkF m pc Ls (.int z :: .int x :: rest)) := by
  by_cases q : x = z
  · exact icmp_eq_t G hd q ho hp (K1 q)
  · exact icmp_eq_f G hd q hq (K2 q)
theorem icmp_ne_t (G : Gd p s m meth c y bytes maxL ret Z a0 EL) {o : Int} {x z : Int32} (hd : decode bytes pc = .ok (.if_icmp .ne o, 3)) (hc : ¬ x = z) (ho : 0 ≤ (pc : Int) + o) (hp : ((pc : Int) + o).toNat = pc') (K : Run p l e R s m args below meth c Z wd EL n0 ow0 Q h ow cells slots (mkF m pc' Ls rest)) : Run p l e R s m args below meth c Z wd EL n0 ow0 Q h ow cells slots (mkF m pc Ls (.int z :: .int x :: rest)) :=
  Run.stp (fun T locs vm0 k0 X H t k => XS.icmpYes X.here G.1 rfl rfl (G.hb hd) rfl (XT.ii_ne_t hc) ho hp k) K
theorem icmp_ne_f (G : Gd p s m meth c y bytes maxL ret Z a0 EL) {o : Int} {x z : Int32} (hd : decode bytes pc = .ok (.if_icmp .ne o, 3)) (hc : x = z) (hp : pc + 3 = pc') (K : Run p l e R s m args below meth c Z wd EL n0 ow0 Q h ow cells slots (mkF m pc' Ls rest)) : Run p l e R s m args below meth c Z wd EL n0 ow0 Q h ow cells slots (mkF m pc Ls (.int z :: .int x :: rest)) := by
  subst hp
  exact Run.stp (fun T locs vm0 k0 X H t k => XS.icmpNo X.here G.1 rfl (G.hb hd) rfl (XT.ii_ne_f hc) k) K
theorem icmp_ne (G : Gd p s m meth c y bytes maxL ret Z a0 EL) {o : Int} {x z : Int32} {pt pf : Nat} (hd : decode bytes pc = .ok (.if_icmp .ne o, 3)) (ho : 0 ≤ (pc : Int) + o) (hp : ((pc : Int) + o).toNat = pt) (hq : pc + 3 = pf) (K1 : (¬ x = z) → Run p l e R s m args below meth c Z wd EL n0 ow0 Q h ow cells slots (mkF m pt Ls rest)) (K2 : (x = z) → Run p l e R s m args below meth c Z wd EL n0 ow0 Q h ow cells slots (mkF m pf Ls rest)) : Run p l e R s m args below meth c Z wd EL n0 ow0 Q h ow cells slots (mkF m pc Ls (.int z :: .int x :: rest)) := by
  by_cases q : x = z
  · exact icmp_ne_f G hd q hq (K2 q)
  · exact icmp_ne_t G hd q ho hp (K1 q)
theorem icmp_lt_t (G : Gd p s m meth c y bytes maxL ret Z a0 EL) {o : Int} {x z : Int32} (hd : decode bytes pc = .ok (.if_icmp .lt o, 3)) (hc : x < z) (ho : 0 ≤ (pc : Int) + o) (hp : ((pc : Int) + o).toNat = pc') (K : Run p l e R s m args below meth c Z wd EL n0 ow0 Q h ow cells slots (mkF m pc' Ls rest)) : Run p l e R s m args below meth c Z wd EL n0 ow0 Q h ow cells slots (mkF m pc Ls (.int z :: .int x :: rest)) :=
  Run.stp (fun T locs vm0 k0 X H t k => XS.icmpYes X.here G.1 rfl rfl (G.hb hd) rfl (XT.ii_lt_t hc) ho hp k) K
theorem icmp_lt_f (G : Gd p s m meth c y bytes maxL ret Z a0 EL) {o : Int} {x z : Int32} (hd : decode bytes pc = .ok (.if_icmp .lt o, 3)) (hc : ¬ x < z) (hp : pc + 3 = pc') (K : Run p l e R s m args below meth c Z wd EL n0 ow0 Q h ow cells slots (mkF m pc' Ls rest)) : Run p l e R s m args below meth c Z wd EL n0 ow0 Q h ow cells slots (mkF m pc Ls (.int z :: .int x :: rest)) := by
  subst hp
  exact Run.stp (fun T locs vm0 k0 X H t k => XS.icmpNo X.here G.1 rfl (G.hb hd) rfl (XT.ii_lt_f hc) k) K
theorem icmp_lt (G : Gd p s m meth c y bytes maxL ret Z a0 EL) {o : Int} {x z : Int32} {pt pf : Nat} (hd : decode bytes pc = .ok (.if_icmp .lt o, 3)) (ho : 0 ≤ (pc : Int) + o) (hp : ((pc : Int) + o).toNat = pt) (hq : pc + 3 = pf) (K1 : (x < z) → Run p l e R s m args below meth c Z wd EL n0 ow0 Q h ow cells slots (mkF m pt Ls rest)) (K2 : (¬ x < z) → Run p l e R s m args below meth c Z wd EL n0 ow0 Q h ow cells slots (mkF m pf Ls rest)) : Run p l e R s m args below meth c Z wd EL n0 ow0 Q h ow cells slots (mkF m pc Ls (.int z :: .int x :: rest)) := by
  by_cases q : x < z
  · exact icmp_lt_t G hd q ho hp (K1 q)
  · exact icmp_lt_f G hd q hq (K2 q)
theorem icmp_ge_t (G : Gd p s m meth c y bytes maxL ret Z a0 EL) {o : Int} {x z : Int32} (hd : decode bytes pc = .ok (.if_icmp .ge o, 3)) (hc : ¬ x < z) (ho : 0 ≤ (pc : Int) + o) (hp : ((pc : Int) + o).toNat = pc') (K : Run p l e R s m args below meth c Z wd EL n0 ow0 Q h ow cells slots (mkF m pc' Ls rest)) : Run p l e R s m args below meth c Z wd EL n0 ow0 Q h ow cells slots (mkF m pc Ls (.int z :: .int x :: rest)) :=
  Run.stp (fun T locs vm0 k0 X H t k => XS.icmpYes X.here G.1 rfl rfl (G.hb hd) rfl (XT.ii_ge_t hc) ho hp k) K
theorem icmp_ge_f (G : Gd p s m meth c y bytes maxL ret Z a0 EL) {o : Int} {x z : Int32} (hd : decode bytes pc = .ok (.if_icmp .ge o, 3)) (hc : x < z) (hp : pc + 3 = pc') (K : Run p l e R s m args below meth c Z wd EL n0 ow0 Q h ow cells slots (mkF m pc' Ls rest)) : Run p l e R s m args below meth c Z wd EL n0 ow0 Q h ow cells slots (mkF m pc Ls (.int z :: .int x :: rest)) := by
  subst hp
  exact Run.stp (fun T locs vm0 k0 X H t k => XS.icmpNo X.here G.1 rfl (G.hb hd) rfl (XT.ii_ge_f hc) k) K
theorem icmp_ge (G : Gd p s m meth c y bytes maxL ret Z a0 EL) {o : Int} {x z : Int32} {pt pf : Nat} (hd : decode bytes pc = .ok (.if_icmp .ge o, 3)) (ho : 0 ≤ (pc : Int) + o) (hp : ((pc : Int) + o).toNat = pt) (hq : pc + 3 = pf) (K1 : (¬ x < z) → Run p l e R s m args below meth c Z wd EL n0 ow0 Q h ow cells slots (mkF m pt Ls rest)) (K2 : (x < z) → Run p l e R s m args below meth c Z wd EL n0 ow0 Q h ow cells slots (mkF m pf Ls rest)) : Run p l e R s m args below meth c Z wd EL n0 ow0 Q h ow cells slots (mkF m pc Ls (.int z :: .int x :: rest)) := by
  by_cases q : x < z
  · exact icmp_ge_f G hd q hq (K2 q)
  · exact icmp_ge_t G hd q ho hp (K1 q)
theorem icmp_gt_t (G : Gd p s m meth c y bytes maxL ret Z a0 EL) {o : Int} {x z : Int32} (hd : decode bytes pc = .ok (.if_icmp .gt o, 3)) (hc : z < x) (ho : 0 ≤ (pc : Int) + o) (hp : ((pc : Int) + o).toNat = pc') (K : Run p l e R s m args below meth c Z wd EL n0 ow0 Q h ow cells slots (mkF m pc' Ls rest)) : Run p l e R s m args below meth c Z wd EL n0 ow0 Q h ow cells slots (mkF m pc Ls (.int z :: .int x :: rest)) :=
  Run.stp (fun T locs vm0 k0 X H t k => XS.icmpYes X.here G.1 rfl rfl (G.hb hd) rfl (XT.ii_gt_t hc) ho hp k) K
theorem icmp_gt_f (G : Gd p s m meth c y bytes maxL ret Z a0 EL) {o : Int} {x z : Int32} (hd : decode bytes pc = .ok (.if_icmp .gt o, 3)) (hc : ¬ z < x) (hp : pc + 3 = pc') (K : Run p l e R s m args below meth c Z wd EL n0 ow0 Q h ow cells slots (mkF m pc' Ls rest)) : Run p l e R s m args below meth c Z wd EL n0 ow0 Q h ow cells slots (mkF m pc Ls (.int z :: .int x :: rest)) := by
  subst hp
  exact Run.stp (fun T locs vm0 k0 X H t k => XS.icmpNo X.here G.1 rfl (G.hb hd) rfl (XT.ii_gt_f hc) k) K
theorem icmp_gt (G : Gd p s m meth c y bytes maxL ret Z a0 EL) {o : Int} {x z : Int32} {pt pf : Nat} (hd : decode bytes pc = .ok (.if_icmp .gt o, 3)) (ho : 0 ≤ (pc : Int) + o) (hp : ((pc : Int) + o).toNat = pt) (hq : pc + 3 = pf) (K1 : (z < x) → Run p l e R s m args below meth c Z wd EL n0 ow0 Q h ow cells slots (mkF m pt Ls rest)) (K2 : (¬ z < x) → Run p l e R s m args below meth c Z wd EL n0 ow0 Q h ow cells slots (mkF m pf Ls rest)) : Run p l e R s m args below meth c Z wd EL n0 ow0 Q h ow cells slots (mkF m pc Ls (.int z :: .int x :: rest)) := by
  by_cases q : z < x
  · exact icmp_gt_t G hd q ho hp (K1 q)
  · exact icmp_gt_f G hd q hq (K2 q)
theorem icmp_le_t (G : Gd p s m meth c y bytes maxL ret Z a0 EL) {o : Int} {x z : Int32} (hd : decode bytes pc = .ok (.if_icmp .le o, 3)) (hc : ¬ z < x) (ho : 0 ≤ (pc : Int) + o) (hp : ((pc : Int) + o).toNat = pc') (K : Run p l e R s m args below meth c Z wd EL n0 ow0 Q h ow cells slots (mkF m pc' Ls rest)) : Run p l e R s m args below meth c Z wd EL n0 ow0 Q h ow cells slots (mkF m pc Ls (.int z :: .int x :: rest)) :=
  Run.stp (fun T locs vm0 k0 X H t k => XS.icmpYes X.here G.1 rfl rfl (G.hb hd) rfl (XT.ii_le_t hc) ho hp k) K
theorem icmp_le_f (G : Gd p s m meth c y bytes maxL ret Z a0 EL) {o : Int} {x z : Int32} (hd : decode bytes pc = .ok (.if_icmp .le o, 3)) (hc : z < x) (hp : pc + 3 = pc') (K : Run p l e R s m args below meth c Z wd EL n0 ow0 Q h ow cells slots (mkF m pc' Ls rest)) : Run p l e R s m args below meth c Z wd EL n0 ow0 Q h ow cells slots (mkF m pc Ls (.int z :: .int x :: rest)) := by
  subst hp
  exact Run.stp (fun T locs vm0 k0 X H t k => XS.icmpNo X.here G.1 rfl (G.hb hd) rfl (XT.ii_le_f hc) k) K
theorem icmp_le (G : Gd p s m meth c y bytes maxL ret Z a0 EL) {o : Int} {x z : Int32} {pt pf : Nat} (hd : decode bytes pc = .ok (.if_icmp .le o, 3)) (ho : 0 ≤ (pc : Int) + o) (hp : ((pc : Int) + o).toNat = pt) (hq : pc + 3 = pf) (K1 : (¬ z < x) → Run p l e R s m args below meth c Z wd EL n0 ow0 Q h ow cells slots (mkF m pt Ls rest)) (K2 : (z < x) → Run p l e R s m args below meth c Z wd EL n0 ow0 Q h ow cells slots (mkF m pf Ls rest)) : Run p l e R s m args below meth c Z wd EL n0 ow0 Q h ow cells slots (mkF m pc Ls (.int z :: .int x :: rest)) := by
  by_cases q : z < x
  · exact icmp_le_f G hd q hq (K2 q)
  · exact icmp_le_t G hd q ho hp (K1 q)
theorem if_eq_t (G : Gd p s m meth c y bytes maxL ret Z a0 EL) {o : Int} {x : Int32} (hd : decode bytes pc = .ok (.ifCond .eq o, 3)) (hc : x = 0) (ho : 0 ≤ (pc : Int) + o) (hp : ((pc : Int) + o).toNat = pc') (K : Run p l e R s m args below meth c Z wd EL n0 ow0 Q h ow cells slots (mkF m pc' Ls rest)) : Run p l e R s m args below meth c Z wd EL n0 ow0 Q h ow cells slots (mkF m pc Ls (.int x :: rest)) :=
  Run.stp (fun T locs vm0 k0 X H t k => XS.ifYes X.here G.1 rfl rfl (G.hb hd) rfl (XT.i0_eq_t hc) ho hp k) K
theorem if_eq_f (G : Gd p s m meth c y bytes maxL ret Z a0 EL) {o : Int} {x : Int32} (hd : decode bytes pc = .ok (.ifCond .eq o, 3)) (hc : ¬ x = 0) (hp : pc + 3 = pc') (K : Run p l e R s m args below meth c Z wd EL n0 ow0 Q h ow cells slots (mkF m pc' Ls rest)) : Run p l e R s m args below meth c Z wd EL n0 ow0 Q h ow cells slots (mkF m pc Ls (.int x :: rest)) := by
  subst hp
  exact Run.stp (fun T locs vm0 k0 X H t k => XS.ifNo X.here G.1 rfl (G.hb hd) rfl (XT.i0_eq_f hc) k) K
theorem if_eq (G : Gd p s m meth c y bytes maxL ret Z a0 EL) {o : Int} {x : Int32} {pt pf : Nat} (hd : decode bytes pc = .ok (.ifCond .eq o, 3)) (ho : 0 ≤ (pc : Int) + o) (hp : ((pc : Int) + o).toNat = pt) (hq : pc + 3 = pf) (K1 : (x = 0) → Run p l e R s m args below meth c Z wd EL n0 ow0 Q h ow cells slots (mkF m pt Ls rest)) (K2 : (¬ x = 0) → Run p l e R s m args below meth c Z wd EL n0 ow0 Q h ow cells slots (mkF m pf Ls rest)) : Run p l e R s m args below meth c Z wd EL n0 ow0 Q h ow cells slots (mkF m pc Ls (.int x :: rest)) := by
  by_cases q : x = 0
  · exact if_eq_t G hd q ho hp (K1 q)
  · exact if_eq_f G hd q hq (K2 q)
theorem if_ne_t (G : Gd p s m meth c y bytes maxL ret Z a0 EL) {o : Int} {x : Int32} (hd : decode bytes pc = .ok (.ifCond .ne o, 3)) (hc : ¬ x = 0) (ho : 0 ≤ (pc : Int) + o) (hp : ((pc : Int) + o).toNat = pc') (K : Run p l e R s m args below meth c Z wd EL n0 ow0 Q h ow cells slots (mkF m pc' Ls rest)) : Run p l e R s m args below meth c Z wd EL n0 ow0 Q h ow cells slots (mkF m pc Ls (.int x :: rest)) :=
  Run.stp (fun T locs vm0 k0 X H t k => XS.ifYes X.here G.1 rfl rfl (G.hb hd) rfl (XT.i0_ne_t hc) ho hp k) K
theorem if_ne_f (G : Gd p s m meth c y bytes maxL ret Z a0 EL) {o : Int} {x : Int32} (hd : decode bytes pc = .ok (.ifCond .ne o, 3)) (hc : x = 0) (hp : pc + 3 = pc') (K : Run p l e R s m args below meth c Z wd EL n0 ow0 Q h ow cells slots (mkF m pc' Ls rest)) : Run p l e R s m args below meth c Z wd EL n0 ow0 Q h ow cells slots (mkF m pc Ls (.int x :: rest)) := by
  subst hp
  exact Run.stp (fun T locs vm0 k0 X H t k => XS.ifNo X.here G.1 rfl (G.hb hd) rfl (XT.i0_ne_f hc) k) K
theorem if_ne (G : Gd p s m meth c y bytes maxL ret Z a0 EL) {o : Int} {x : Int32} {pt pf : Nat} (hd : decode bytes pc = .ok (.ifCond .ne o, 3)) (ho : 0 ≤ (pc : Int) + o) (hp : ((pc : Int) + o).toNat = pt) (hq : pc + 3 = pf) (K1 : (¬ x = 0) → Run p l e R s m args below meth c Z wd EL n0 ow0 Q h ow cells slots (mkF m pt Ls rest)) (K2 : (x = 0) → Run p l e R s m args below meth c Z wd EL n0 ow0 Q h ow cells slots (mkF m pf Ls rest)) : Run p l e R s m args below meth c Z wd EL n0 ow0 Q h ow cells slots (mkF m pc Ls (.int x :: rest)) := by
  by_cases q : x = 0
  · exact if_ne_f G hd q hq (K2 q)
  · exact if_ne_t G hd q ho hp (K1 q)
theorem if_lt_t (G : Gd p s m meth c y bytes maxL ret Z a0 EL) {o : Int} {x : Int32} (hd : decode bytes pc = .ok (.ifCond .lt o, 3)) (hc : x < 0) (ho : 0 ≤ (pc : Int) + o) (hp : ((pc : Int) + o).toNat = pc') (K : Run p l e R s m args below meth c Z wd EL n0 ow0 Q h ow cells slots (mkF m pc' Ls rest)) : Run p l e R s m args below meth c Z wd EL n0 ow0 Q h ow cells slots (mkF m pc Ls (.int x :: rest)) :=
  Run.stp (fun T locs vm0 k0 X H t k => XS.ifYes X.here G.1 rfl rfl (G.hb hd) rfl (XT.i0_lt_t hc) ho hp k) K
theorem if_lt_f (G : Gd p s m meth c y bytes maxL ret Z a0 EL) {o : Int} {x : Int32} (hd : decode bytes pc = .ok (.ifCond .lt o, 3)) (hc : ¬ x < 0) (hp : pc + 3 = pc') (K : Run p l e R s m args below meth c Z wd EL n0 ow0 Q h ow cells slots (mkF m pc' Ls rest)) : Run p l e R s m args below meth c Z wd EL n0 ow0 Q h ow cells slots (mkF m pc Ls (.int x :: rest)) := by
  subst hp
  exact Run.stp (fun T locs vm0 k0 X H t k => XS.ifNo X.here G.1 rfl (G.hb hd) rfl (XT.i0_lt_f hc) k) K
theorem if_lt (G : Gd p s m meth c y bytes maxL ret Z a0 EL) {o : Int} {x : Int32} {pt pf : Nat} (hd : decode bytes pc = .ok (.ifCond .lt o, 3)) (ho : 0 ≤ (pc : Int) + o) (hp : ((pc : Int) + o).toNat = pt) (hq : pc + 3 = pf) (K1 : (x < 0) → Run p l e R s m args below meth c Z wd EL n0 ow0 Q h ow cells slots (mkF m pt Ls rest)) (K2 : (¬ x < 0) → Run p l e R s m args below meth c Z wd EL n0 ow0 Q h ow cells slots (mkF m pf Ls rest)) : Run p l e R s m args below meth c Z wd EL n0 ow0 Q h ow cells slots (mkF m pc Ls (.int x :: rest)) := by
  by_cases q : x < 0
  · exact if_lt_t G hd q ho hp (K1 q)
  · exact if_lt_f G hd q hq (K2 q)
theorem if_ge_t (G : Gd p s m meth c y bytes maxL ret Z a0 EL) {o : Int} {x : Int32} (hd : decode bytes pc = .ok (.ifCond .ge o, 3)) (hc : ¬ x < 0) (ho : 0 ≤ (pc : Int) + o) (hp : ((pc : Int) + o).toNat = pc') (K : Run p l e R s m args below meth c Z wd EL n0 ow0 Q h ow cells slots (mkF m pc' Ls rest)) : Run p l e R s m args below meth c Z wd EL n0 ow0 Q h ow cells slots (mkF m pc Ls (.int x :: rest)) :=
  Run.stp (fun T locs vm0 k0 X H t k => XS.ifYes X.here G.1 rfl rfl (G.hb hd) rfl (XT.i0_ge_t hc) ho hp k) K
theorem if_ge_f (G : Gd p s m meth c y bytes maxL ret Z a0 EL) {o : Int} {x : Int32} (hd : decode bytes pc = .ok (.ifCond .ge o, 3)) (hc : x < 0) (hp : pc + 3 = pc') (K : Run p l e R s m args below meth c Z wd EL n0 ow0 Q h ow cells slots (mkF m pc' Ls rest)) : Run p l e R s m args below meth c Z wd EL n0 ow0 Q h ow cells slots (mkF m pc Ls (.int x :: rest)) := by
  subst hp
  exact Run.stp (fun T locs vm0 k0 X H t k => XS.ifNo X.here G.1 rfl (G.hb hd) rfl (XT.i0_ge_f hc) k) K
theorem if_ge (G : Gd p s m meth c y bytes maxL ret Z a0 EL) {o : Int} {x : Int32} {pt pf : Nat} (hd : decode bytes pc = .ok (.ifCond .ge o, 3)) (ho : 0 ≤ (pc : Int) + o) (hp : ((pc : Int) + o).toNat = pt) (hq : pc + 3 = pf) (K1 : (¬ x < 0) → Run p l e R s m args below meth c Z wd EL n0 ow0 Q h ow cells slots (mkF m pt Ls rest)) (K2 : (x < 0) → Run p l e R s m args below meth c Z wd EL n0 ow0 Q h ow cells slots (mkF m pf Ls rest)) : Run p l e R s m args below meth c Z wd EL n0 ow0 Q h ow cells slots (mkF m pc Ls (.int x :: rest)) := by
  by_cases q : x < 0
  · exact if_ge_f G hd q hq (K2 q)
  · exact if_ge_t G hd q ho hp (K1 q)
theorem if_gt_t (G : Gd p s m meth c y bytes maxL ret Z a0 EL) {o : Int} {x : Int32} (hd : decode bytes pc = .ok (.ifCond .gt o, 3)) (hc : 0 < x) (ho : 0 ≤ (pc : Int) + o) (hp : ((pc : Int) + o).toNat = pc') (K : Run p l e R s m args below meth c Z wd EL n0 ow0 Q h ow cells slots (mkF m pc' Ls rest)) : Run p l e R s m args below meth c Z wd EL n0 ow0 Q h ow cells slots (mkF m pc Ls (.int x :: rest)) :=
  Run.stp (fun T locs vm0 k0 X H t k => XS.ifYes X.here G.1 rfl rfl (G.hb hd) rfl (XT.i0_gt_t hc) ho hp k) K
theorem if_gt_f (G : Gd p s m meth c y bytes maxL ret Z a0 EL) {o : Int} {x : Int32} (hd : decode bytes pc = .ok (.ifCond .gt o, 3)) (hc : ¬ 0 < x) (hp : pc + 3 = pc') (K : Run p l e R s m args below meth c Z wd EL n0 ow0 Q h ow cells slots (mkF m pc' Ls rest)) : Run p l e R s m args below meth c Z wd EL n0 ow0 Q h ow cells slots (mkF m pc Ls (.int x :: rest)) := by
  subst hp
  exact Run.stp (fun T locs vm0 k0 X H t k => XS.ifNo X.here G.1 rfl (G.hb hd) rfl (XT.i0_gt_f hc) k) K
theorem if_gt (G : Gd p s m meth c y bytes maxL ret Z a0 EL) {o : Int} {x : Int32} {pt pf : Nat} (hd : decode bytes pc = .ok (.ifCond .gt o, 3)) (ho : 0 ≤ (pc : Int) + o) (hp : ((pc : Int) + o).toNat = pt) (hq : pc + 3 = pf) (K1 : (0 < x) → Run p l e R s m args below meth c Z wd EL n0 ow0 Q h ow cells slots (mkF m pt Ls rest)) (K2 : (¬ 0 < x) → Run p l e R s m args below meth c Z wd EL n0 ow0 Q h ow cells slots (mkF m pf Ls rest)) : Run p l e R s m args below meth c Z wd EL n0 ow0 Q h ow cells slots (mkF m pc Ls (.int x :: rest)) := by
  by_cases q : 0 < x
  · exact if_gt_t G hd q ho hp (K1 q)
  · exact if_gt_f G hd q hq (K2 q)
theorem if_le_t (G : Gd p s m meth c y bytes maxL ret Z a0 EL) {o : Int} {x : Int32} (hd : decode bytes pc = .ok (.ifCond .le o, 3)) (hc : ¬ 0 < x) (ho : 0 ≤ (pc : Int) + o) (hp : ((pc : Int) + o).toNat = pc') (K : Run p l e R s m args below meth c Z wd EL n0 ow0 Q h ow cells slots (mkF m pc' Ls rest)) : Run p l e R s m args below meth c Z wd EL n0 ow0 Q h ow cells slots (mkF m pc Ls (.int x :: rest)) :=
  Run.stp (fun T locs vm0 k0 X H t k => XS.ifYes X.here G.1 rfl rfl (G.hb hd) rfl (XT.i0_le_t hc) ho hp k) K
theorem if_le_f (G : Gd p s m meth c y bytes maxL ret Z a0 EL) {o : Int} {x : Int32} (hd : decode bytes pc = .ok (.ifCond .le o, 3)) (hc : 0 < x) (hp : pc + 3 = pc') (K : Run p l e R s m args below meth c Z wd EL n0 ow0 Q h ow cells slots (mkF m pc' Ls rest)) : Run p l e R s m args below meth c Z wd EL n0 ow0 Q h ow cells slots (mkF m pc Ls (.int x :: rest)) := by
  subst hp
  exact Run.stp (fun T locs vm0 k0 X H t k => XS.ifNo X.here G.1 rfl (G.hb hd) rfl (XT.i0_le_f hc) k) K
theorem if_le (G : Gd p s m meth c y bytes maxL ret Z a0 EL) {o : Int} {x : Int32} {pt pf : Nat} (hd : decode bytes pc = .ok (.ifCond .le o, 3)) (ho : 0 ≤ (pc : Int) + o) (hp : ((pc : Int) + o).toNat = pt) (hq : pc + 3 = pf) (K1 : (¬ 0 < x) → Run p l e R s m args below meth c Z wd EL n0 ow0 Q h ow cells slots (mkF m pt Ls rest)) (K2 : (0 < x) → Run p l e R s m args below meth c Z wd EL n0 ow0 Q h ow cells slots (mkF m pf Ls rest)) : Run p l e R s m args below meth c Z wd EL n0 ow0 Q h ow cells slots (mkF m pc Ls (.int x :: rest)) := by
  by_cases q : 0 < x
  · exact if_le_f G hd q hq (K2 q)
  · exact if_le_t G hd q ho hp (K1 q)
theorem ifnull_t (G : Gd p s m meth c y bytes maxL ret Z a0 EL) {o : Int} (hd : decode bytes pc = .ok (.ifnull o, 3)) (ho : 0 ≤ (pc : Int) + o) (hp : ((pc : Int) + o).toNat = pc') (K : Run p l e R s m args below meth c Z wd EL n0 ow0 Q h ow cells slots (mkF m pc' Ls rest)) : Run p l e R s m args below meth c Z wd EL n0 ow0 Q h ow cells slots (mkF m pc Ls (.null :: rest)) :=
  Run.stp (fun T locs vm0 k0 X H t k => XS.ifnullYes X.here G.1 rfl rfl (G.hb hd) rfl ho hp k) K
theorem ifnull_f (G : Gd p s m meth c y bytes maxL ret Z a0 EL) {o : Int} {b : Addr} (hd : decode bytes pc = .ok (.ifnull o, 3)) (hp : pc + 3 = pc') (K : Run p l e R s m args below meth c Z wd EL n0 ow0 Q h ow cells slots (mkF m pc' Ls rest)) : Run p l e R s m args below meth c Z wd EL n0 ow0 Q h ow cells slots (mkF m pc Ls (.ref b :: rest)) := by
  subst hp
  exact Run.stp (fun T locs vm0 k0 X H t k => XS.ifnullNo X.here G.1 rfl (G.hb hd) rfl k) K
theorem ifnonnull_t (G : Gd p s m meth c y bytes maxL ret Z a0 EL) {o : Int} {b : Addr} (hd : decode bytes pc = .ok (.ifnonnull o, 3)) (ho : 0 ≤ (pc : Int) + o) (hp : ((pc : Int) + o).toNat = pc') (K : Run p l e R s m args below meth c Z wd EL n0 ow0 Q h ow cells slots (mkF m pc' Ls rest)) : Run p l e R s m args below meth c Z wd EL n0 ow0 Q h ow cells slots (mkF m pc Ls (.ref b :: rest)) :=
  Run.stp (fun T locs vm0 k0 X H t k => XT.ifnonnullYes X.here G.1 rfl rfl (G.hb hd) rfl ho hp k) K
theorem ifnonnull_f (G : Gd p s m meth c y bytes maxL ret Z a0 EL) {o : Int} (hd : decode bytes pc = .ok (.ifnonnull o, 3)) (hp : pc + 3 = pc') (K : Run p l e R s m args below meth c Z wd EL n0 ow0 Q h ow cells slots (mkF m pc' Ls rest)) : Run p l e R s m args below meth c Z wd EL n0 ow0 Q h ow cells slots (mkF m pc Ls (.null :: rest)) := by
  subst hp
  exact Run.stp (fun T locs vm0 k0 X H t k => XT.ifnonnullNo X.here G.1 rfl (G.hb hd) rfl k) K
theorem acmp_eq_t (G : Gd p s m meth c y bytes maxL ret Z a0 EL) {o : Int} {v w : Value} (hd : decode bytes pc = .ok (.if_acmp .eq o, 3)) (hv : v.isRef = true) (hw : w.isRef = true) (hc : v = w) (ho : 0 ≤ (pc : Int) + o) (hp : ((pc : Int) + o).toNat = pc') (K : Run p l e R s m args below meth c Z wd EL n0 ow0 Q h ow cells slots (mkF m pc' Ls rest)) : Run p l e R s m args below meth c Z wd EL n0 ow0 Q h ow cells slots (mkF m pc Ls (w :: v :: rest)) :=
  Run.stp (fun T locs vm0 k0 X H t k => XT.acmpYes X.here G.1 rfl rfl (G.hb hd) rfl hv hw (XT.aa_eq_t hc) ho hp k) K
theorem acmp_eq_f (G : Gd p s m meth c y bytes maxL ret Z a0 EL) {o : Int} {v w : Value} (hd : decode bytes pc = .ok (.if_acmp .eq o, 3)) (hv : v.isRef = true) (hw : w.isRef = true) (hc : ¬ v = w) (hp : pc + 3 = pc') (K : Run p l e R s m args below meth c Z wd EL n0 ow0 Q h ow cells slots (mkF m pc' Ls rest)) : Run p l e R s m args below meth c Z wd EL n0 ow0 Q h ow cells slots (mkF m pc Ls (w :: v :: rest)) := by
  subst hp
  exact Run.stp (fun T locs vm0 k0 X H t k => XT.acmpNo X.here G.1 rfl (G.hb hd) rfl hv hw (XT.aa_eq_f hc) k) K
theorem acmp_ne_t (G : Gd p s m meth c y bytes maxL ret Z a0 EL) {o : Int} {v w : Value} (hd : decode bytes pc = .ok (.if_acmp .ne o, 3)) (hv : v.isRef = true) (hw : w.isRef = true) (hc : ¬ v = w) (ho : 0 ≤ (pc : Int) + o) (hp : ((pc : Int) + o).toNat = pc') (K : Run p l e R s m args below meth c Z wd EL n0 ow0 Q h ow cells slots (mkF m pc' Ls rest)) : Run p l e R s m args below meth c Z wd EL n0 ow0 Q h ow cells slots (mkF m pc Ls (w :: v :: rest)) :=
  Run.stp (fun T locs vm0 k0 X H t k => XT.acmpYes X.here G.1 rfl rfl (G.hb hd) rfl hv hw (XT.aa_ne_t hc) ho hp k) K
theorem acmp_ne_f (G : Gd p s m meth c y bytes maxL ret Z a0 EL) {o : Int} {v w : Value} (hd : decode bytes pc = .ok (.if_acmp .ne o, 3)) (hv : v.isRef = true) (hw : w.isRef = true) (hc : v = w) (hp : pc + 3 = pc') (K : Run p l e R s m args below meth c Z wd EL n0 ow0 Q h ow cells slots (mkF m pc' Ls rest)) : Run p l e R s m args below meth c Z wd EL n0 ow0 Q h ow cells slots (mkF m pc Ls (w :: v :: rest)) := by
  subst hp
  exact Run.stp (fun T locs vm0 k0 X H t k => XT.acmpNo X.here G.1 rfl (G.hb hd) rfl hv hw (XT.aa_ne_f hc) k) K
theorem ldcInt (G : Gd p s m meth c y bytes maxL ret Z a0 EL) {idx : Nat} {v : Int32} (hd : decode bytes pc = .ok (.ldc idx, 2)) (w : (Jvm.Cond.constant y.cls idx v).before a0 Z = true) (hp : pc + 2 = pc') (K : Run p l e R s m args below meth c Z wd EL n0 ow0 Q h ow cells slots (mkF m pc' Ls (.int v :: st))) : Run p l e R s m args below meth c Z wd EL n0 ow0 Q h ow cells slots (mkF m pc Ls st) := by
  subst hp
  exact Run.stp (fun T locs vm0 k0 X H t k => X.ldcI G.1 (G.own H.1) (mv (s := s.setVm vm0) H.2.2.1 w) rfl (G.hb hd) k) K
theorem getf (G : Gd p s m meth c y bytes maxL ret Z a0 EL) {idx : Nat} {R0 O n d : String} {a : Addr} {v : Value} (hd : decode bytes pc = .ok (.getfield idx, 3)) (w : (Jvm.Cond.fieldLink y.cls idx R0 n d).before a0 Z = true) (via : Via Z R0 O n d) (F : Fld Z h a O n d v) (hp : pc + 3 = pc') (K : Run p l e R s m args below meth c Z wd EL n0 ow0 Q h ow cells slots (mkF m pc' Ls (v :: rest))) : Run p l e R s m args below meth c Z wd EL n0 ow0 Q h ow cells slots (mkF m pc Ls (.ref a :: rest)) := by
  subst hp
  exact Run.mov (fun T locs vm0 k0 X H => getF X G.1 H.2.2.1 (host := "") (G.own H.1) (Or.inl w) via H.2.2.2.1 F rfl rfl (G.hb hd)) K
theorem gets (G : Gd p s m meth c y bytes maxL ret Z a0 EL) {idx : Nat} {R0 O n d : String} {v : Value} (hd : decode bytes pc = .ok (.getstatic idx, 3)) (w : (Jvm.Cond.fieldLink y.cls idx R0 n d).before a0 Z = true) (via : Via Z R0 O n d) (F : Sta Z Z.heap O n d v) (hp : pc + 3 = pc') (K : Run p l e R s m args below meth c Z wd EL n0 ow0 Q h ow cells slots (mkF m pc' Ls (v :: st))) : Run p l e R s m args below meth c Z wd EL n0 ow0 Q h ow cells slots (mkF m pc Ls st) := by
  subst hp
  exact Run.mov (fun T locs vm0 k0 X H => getS X G.1 H.2.2.1 (host := "") (G.own H.1) w via H.2.2.2.1 (F.ext H.2.2.2.2.2.2.2.1.2) rfl (G.hb hd)) K
theorem putf (G : Gd p s m meth c y bytes maxL ret Z a0 EL) {idx kk : Nat} {R0 O n d C : String} {a : Addr} {v old : Value} {ty : FieldType} (hd : decode bytes pc = .ok (.putfield idx, 3)) (w : (Jvm.Cond.fieldLink y.cls idx R0 n d).before a0 Z = true) (via : Via Z R0 O n d) (F : Fld Z h a O n d old) (E : Exa Z h a C) (L : (Jvm.Cond.lays C O n d).before a0 Z = true ∨ ((Jvm.Cond.laysFinal C O n d).before a0 Z = true ∧ y.cls = O ∧ y.name = "<init>")) (wi : (Jvm.Cond.instantiable C kk).before a0 Z = true) (hty : parseFieldDescriptor d = some ty) (hn : narrow ty v = v) (hf : fits ty v = true) (ha : a ∈ ow) (hp : pc + 3 = pc')
    (K : ∀ h', Wr h h' a (RoadKit.slotOf Z O n d) v → Run p l e R s m args below meth c Z wd EL n0 ow0 Q h' ow cells slots (mkF m pc' Ls rest)) : Run p l e R s m args below meth c Z wd EL n0 ow0 Q h ow cells slots (mkF m pc Ls (v :: .ref a :: rest)) := by
  subst hp
  intro T locs vm0 k0 X H
  obtain ⟨T', h', X', eT, W, st⟩ := putF X G.1 H.2.2.1 (host := "") (G.own H.1) (Or.inl w) via H.2.2.2.1 F E (L.imp id fun q => ⟨q.1, q.2.1, G.2.2.2.2.2.1.trans q.2.2⟩) wi hty hn hf (g := mkF m pc Ls (v :: .ref a :: rest)) rfl rfl (G.hb hd)
  obtain ⟨s₂, o, q, r⟩ := K h' W T' _ vm0 k0 X' (H.wr W ha eT)
  exact ⟨s₂, o, st _ q, r⟩
theorem castOk (G : Gd p s m meth c y bytes maxL ret Z a0 EL) {idx : Nat} {C : String} {a : Addr} (hd : decode bytes pc = .ok (.checkcast idx, 3)) (w : (Jvm.Cond.classLink y.cls idx C).before a0 Z = true) (F : Ins Z h a C true) (hp : pc + 3 = pc') (K : Run p l e R s m args below meth c Z wd EL n0 ow0 Q h ow cells slots (mkF m pc' Ls (.ref a :: rest))) : Run p l e R s m args below meth c Z wd EL n0 ow0 Q h ow cells slots (mkF m pc Ls (.ref a :: rest)) := by
  subst hp
  exact Run.mov (fun T locs vm0 k0 X H => castY X G.1 H.2.2.1 (G.own H.1) w H.2.2.2.1 F rfl rfl (G.hb hd)) K
theorem instYes (G : Gd p s m meth c y bytes maxL ret Z a0 EL) {idx : Nat} {C : String} {a : Addr} (hd : decode bytes pc = .ok (.instanceof idx, 3)) (w : (Jvm.Cond.classLink y.cls idx C).before a0 Z = true) (F : Ins Z h a C true) (hp : pc + 3 = pc') (K : Run p l e R s m args below meth c Z wd EL n0 ow0 Q h ow cells slots (mkF m pc' Ls (.int 1 :: rest))) : Run p l e R s m args below meth c Z wd EL n0 ow0 Q h ow cells slots (mkF m pc Ls (.ref a :: rest)) := by
  subst hp
  exact Run.mov (fun T locs vm0 k0 X H => instY X G.1 H.2.2.1 (G.own H.1) w H.2.2.2.1 F rfl rfl (G.hb hd)) K
theorem instNo (G : Gd p s m meth c y bytes maxL ret Z a0 EL) {idx : Nat} {C D : String} {a : Addr} (hd : decode bytes pc = .ok (.instanceof idx, 3)) (w : (Jvm.Cond.classLink y.cls idx C).before a0 Z = true) (F : Ins Z h a C false) (E : Exa Z h a D) (hp : pc + 3 = pc') (K : Run p l e R s m args below meth c Z wd EL n0 ow0 Q h ow cells slots (mkF m pc' Ls (.int 0 :: rest))) : Run p l e R s m args below meth c Z wd EL n0 ow0 Q h ow cells slots (mkF m pc Ls (.ref a :: rest)) := by
  subst hp
  exact Run.mov (fun T locs vm0 k0 X H => instNAt X G.1 H.2.2.1 (G.own H.1) w H.2.2.2.1 F E rfl rfl (G.hb hd)) K
theorem arrlen (G : Gd p s m meth c y bytes maxL ret Z a0 EL) {a : Addr} {cl : Cell} {ty : FieldType} (hd : decode bytes pc = .ok (.arraylength, 1)) (A : Arr Z h a cl ty) (hp : pc + 1 = pc') (K : Run p l e R s m args below meth c Z wd EL n0 ow0 Q h ow cells slots (mkF m pc' Ls (.int cl.slots.size.toInt32 :: rest))) : Run p l e R s m args below meth c Z wd EL n0 ow0 Q h ow cells slots (mkF m pc Ls (.ref a :: rest)) := by
  subst hp
  exact Run.stp (fun T locs vm0 k0 X H t k => X.arraylength G.1 (H.cell A) (H.arr A) (g := mkF m pc Ls (.ref a :: rest)) rfl rfl (G.hb hd) t k) K
theorem caload (G : Gd p s m meth c y bytes maxL ret Z a0 EL) {a : Addr} {cl : Cell} {j : Int32} {v : Value} (hd : decode bytes pc = .ok (.caload, 1)) (A : Arr Z h a cl .char) (hj : ¬ (j < 0 ∨ cl.slots.size ≤ j.toNatClampNeg)) (hv : cl.slots[j.toNatClampNeg]? = some v) (hp : pc + 1 = pc') (K : Run p l e R s m args below meth c Z wd EL n0 ow0 Q h ow cells slots (mkF m pc' Ls (v :: rest))) : Run p l e R s m args below meth c Z wd EL n0 ow0 Q h ow cells slots (mkF m pc Ls (.int j :: .ref a :: rest)) := by
  subst hp
  exact Run.stp (fun T locs vm0 k0 X H t k => X.caload G.1 (H.cell A) (H.arr A) A.2.2 hj hv (g := mkF m pc Ls (.int j :: .ref a :: rest)) rfl rfl (G.hb hd) t k) K
theorem baload (G : Gd p s m meth c y bytes maxL ret Z a0 EL) {a : Addr} {cl : Cell} {j : Int32} {v : Value} (hd : decode bytes pc = .ok (.baload, 1)) (A : Arr Z h a cl .byte) (hj : ¬ (j < 0 ∨ cl.slots.size ≤ j.toNatClampNeg)) (hv : cl.slots[j.toNatClampNeg]? = some v) (hp : pc + 1 = pc') (K : Run p l e R s m args below meth c Z wd EL n0 ow0 Q h ow cells slots (mkF m pc' Ls (v :: rest))) : Run p l e R s m args below meth c Z wd EL n0 ow0 Q h ow cells slots (mkF m pc Ls (.int j :: .ref a :: rest)) := by
  subst hp
  exact Run.stp (fun T locs vm0 k0 X H t k => X.baloadBytes G.1 (H.cell A) (H.arr A) A.2.2 hj hv (g := mkF m pc Ls (.int j :: .ref a :: rest)) rfl rfl (G.hb hd) t k) K
theorem iaload (G : Gd p s m meth c y bytes maxL ret Z a0 EL) {a : Addr} {cl : Cell} {j : Int32} {v : Value} (hd : decode bytes pc = .ok (.iaload, 1)) (A : Arr Z h a cl .int) (hj : ¬ (j < 0 ∨ cl.slots.size ≤ j.toNatClampNeg)) (hv : cl.slots[j.toNatClampNeg]? = some v) (hp : pc + 1 = pc') (K : Run p l e R s m args below meth c Z wd EL n0 ow0 Q h ow cells slots (mkF m pc' Ls (v :: rest))) : Run p l e R s m args below meth c Z wd EL n0 ow0 Q h ow cells slots (mkF m pc Ls (.int j :: .ref a :: rest)) := by
  subst hp
  exact Run.stp (fun T locs vm0 k0 X H t k => X.iaload G.1 (H.cell A) (H.arr A) A.2.2 hj hv (g := mkF m pc Ls (.int j :: .ref a :: rest)) rfl rfl (G.hb hd) t k) K
theorem aaload (G : Gd p s m meth c y bytes maxL ret Z a0 EL) {a : Addr} {cl : Cell} {j : Int32} {v : Value} {ty : FieldType} (hd : decode bytes pc = .ok (.aaload, 1)) (A : Arr Z h a cl ty) (hty : ty.isReference = true) (hj : ¬ (j < 0 ∨ cl.slots.size ≤ j.toNatClampNeg)) (hv : cl.slots[j.toNatClampNeg]? = some v) (hp : pc + 1 = pc') (K : Run p l e R s m args below meth c Z wd EL n0 ow0 Q h ow cells slots (mkF m pc' Ls (v :: rest))) : Run p l e R s m args below meth c Z wd EL n0 ow0 Q h ow cells slots (mkF m pc Ls (.int j :: .ref a :: rest)) := by
  subst hp
  exact Run.stp (fun T locs vm0 k0 X H t k => X.aaload G.1 (H.cell A) (H.arr A) hty A.2.2 hj hv (g := mkF m pc Ls (.int j :: .ref a :: rest)) rfl rfl (G.hb hd) t k) K
theorem castore (G : Gd p s m meth c y bytes maxL ret Z a0 EL) {a : Addr} {cl : Cell} {j x : Int32} (hd : decode bytes pc = .ok (.castore, 1)) (A : Arr Z h a cl .char) (hj : ¬ (j < 0 ∨ cl.slots.size ≤ j.toNatClampNeg)) (ha : a ∈ ow) (hp : pc + 1 = pc') (K : ∀ h', Wr h h' a j.toNatClampNeg (.int (nar .char x)) → Run p l e R s m args below meth c Z wd EL n0 ow0 Q h' ow cells slots (mkF m pc' Ls rest)) : Run p l e R s m args below meth c Z wd EL n0 ow0 Q h ow cells slots (mkF m pc Ls (.int x :: .int j :: .ref a :: rest)) := by
  subst hp
  intro T locs vm0 k0 X H
  obtain ⟨T', h', X', eT, W, st⟩ := stC X G.1 H.2.2.1 H.2.2.2.1 A hj (g := mkF m pc Ls (.int x :: .int j :: .ref a :: rest)) rfl rfl (G.hb hd)
  obtain ⟨s₂, o, q, r⟩ := K h' W T' _ vm0 k0 X' (H.wr W ha eT)
  exact ⟨s₂, o, st _ q, r⟩
theorem bastore (G : Gd p s m meth c y bytes maxL ret Z a0 EL) {a : Addr} {cl : Cell} {j x : Int32} (hd : decode bytes pc = .ok (.bastore, 1)) (A : Arr Z h a cl .byte) (hj : ¬ (j < 0 ∨ cl.slots.size ≤ j.toNatClampNeg)) (ha : a ∈ ow) (hp : pc + 1 = pc') (K : ∀ h', Wr h h' a j.toNatClampNeg (.int (nar .byte x)) → Run p l e R s m args below meth c Z wd EL n0 ow0 Q h' ow cells slots (mkF m pc' Ls rest)) : Run p l e R s m args below meth c Z wd EL n0 ow0 Q h ow cells slots (mkF m pc Ls (.int x :: .int j :: .ref a :: rest)) := by
  subst hp
  intro T locs vm0 k0 X H
  obtain ⟨T', h', X', eT, W, st⟩ := stB X G.1 H.2.2.1 H.2.2.2.1 A hj (g := mkF m pc Ls (.int x :: .int j :: .ref a :: rest)) rfl rfl (G.hb hd)
  obtain ⟨s₂, o, q, r⟩ := K h' W T' _ vm0 k0 X' (H.wr W ha eT)
  exact ⟨s₂, o, st _ q, r⟩
theorem newarr (G : Gd p s m meth c y bytes maxL ret Z a0 EL) {aty : ArrayType} {n : Int32} {cap : Nat} (hd : decode bytes pc = .ok (.newarray aty, 2)) (w : (Jvm.Cond.arrayClass (newarray.typeOf aty)).before a0 Z = true) (hn : ¬ n < 0) (hcap : n.toNatClampNeg ≤ cap) (hb : cap * 8 ≤ 536870912) (hc : cells + 1 ≤ R.cells) (hl : slots + cap ≤ R.slots) (hc' : cells + 1 = cells') (hs' : slots + cap = slots') (hp : pc + 2 = pc')
    (K : ∀ (h' : Heap) (cA : ClassId) (a : Addr), a = h.size → Ext h h' → Arr Z h' a (newA cA (newarray.typeOf aty) n) (newarray.typeOf aty) → Run p l e R s m args below meth c Z wd EL n0 ow0 Q h' (a :: ow) cells' slots' (mkF m pc' Ls (.ref a :: rest))) : Run p l e R s m args below meth c Z wd EL n0 ow0 Q h ow cells slots (mkF m pc Ls (.int n :: rest)) := by
  subst hp hc' hs'
  intro T locs vm0 k0 X H
  obtain ⟨T', h', cA, X', eT, E, A, st⟩ := newP X G.1 H.2.2.1 w H.2.2.2.1 (g := mkF m pc Ls (.int n :: rest)) rfl (G.hb hd) rfl hn hcap hb hc hl
  obtain ⟨s₂, o, q, r⟩ := K h' cA h.size rfl E A T' _ vm0 k0 X' (H.ext E A.lt eT)
  exact ⟨s₂, o, st _ q, r⟩
theorem newobj (G : Gd p s m meth c y bytes maxL ret Z a0 EL) {idx n : Nat} {C : String} (hd : decode bytes pc = .ok (.new idx, 3)) (w : (Jvm.Cond.classLink y.cls idx C).before a0 Z = true) (wi : (Jvm.Cond.instantiable C n).before a0 Z = true) (wz : (Jvm.Cond.initialized C).before a0 Z = true) (hc : cells + 1 ≤ R.cells) (hl : slots + n ≤ R.slots) (hc' : cells + 1 = cells') (hs' : slots + n = slots') (hp : pc + 3 = pc')
    (K : ∀ (h' : Heap) (a : Addr), a = h.size → Ext h h' → Exa Z h' a C → (∀ {O nm d : String} {ty : FieldType}, Laid Z a0 C O nm d → parseFieldDescriptor d = some ty → Fld Z h' a O nm d (defaultValue ty)) → Run p l e R s m args below meth c Z wd EL n0 ow0 Q h' (a :: ow) cells' slots' (mkF m pc' Ls (.ref a :: st))) : Run p l e R s m args below meth c Z wd EL n0 ow0 Q h ow cells slots (mkF m pc Ls st) := by
  subst hp hc' hs'
  intro T locs vm0 k0 X H
  obtain ⟨T', h', X', eT, E, A, D, -, st⟩ := newO X G.1 H.2.2.1 (G.own H.1) w wi wz H.2.2.2.1 (g := mkF m pc Ls st) rfl (G.hb hd) hc hl
  obtain ⟨s₂, o, q, r⟩ := K h' h.size rfl E A D T' _ vm0 k0 X' (H.ext E A.lt eT)
  exact ⟨s₂, o, st _ q, r⟩
theorem initObj (G : Gd p s m meth c y bytes maxL ret Z a0 EL) {idx : Nat} {a : Addr} {W : Nat} (hd : decode bytes pc = .ok (.invokespecial idx, 3)) (w1 : (Jvm.Cond.methodLink y.cls idx Lib.objectInit).before a0 Z = true) (w2 : (Jvm.Cond.instanceMethod Lib.objectInit).before a0 Z = true) (w3 : (Jvm.Cond.code Lib.objectInit ⟨#[0xb1]⟩ 1 none).before a0 Z = true) (hsz : Ls.size = maxL) (hf : 1 ≤ R.frames) (hW : (rest.map fun v => v.category).sum ≤ W) (hl : W + 12 ≤ R.locals) (hp : pc + 3 = pc') (K : Run p l e R s m args below meth c Z wd EL n0 ow0 Q h ow cells slots (mkF m pc' Ls rest)) : Run p l e R s m args below meth c Z wd EL n0 ow0 Q h ow cells slots (mkF m pc Ls (.ref a :: rest)) := by
  subst hp
  exact Run.mov (fun T locs vm0 k0 X H => initO X G.1 H.2.2.1 (G.own H.1) w1 w2 w3 H.2.2.2.1 rfl (hsz.trans G.2.2.1.symm) rfl (G.hb hd) hf (by show 2 * 0 + _ ≤ W; omega) hl) K
theorem ldcStr (G : Gd p s m meth c y bytes maxL ret Z a0 EL) {idx n : Nat} {text : String} {vs : List Value} {z : Int32} (hd : decode bytes pc = .ok (.ldc idx, 2)) (hwd : wd = true) (w : (Jvm.Cond.stringLink y.cls idx text).before a0 Z = true) (wS : ∀ a ∈ Bundle.stringAtoms, a.before a0 Z = true) (hmem : (y.cls, idx) ∈ EL)
    (ht : (∀ c ∈ text.toList, c.toNat < 256) ∧ text.toList.map (fun c => Value.int (Jvm.Lit.byteI c.toNat.toUInt16)) = vs) (hz : ¬ z < 0) (hl : z.toNatClampNeg = vs.length) (hn : 4 * text.toList.length ≤ n) (hbig : n ≤ 536870912) (hc : cells + 2 ≤ R.cells) (hl' : slots + (n + 4) ≤ R.slots) (hc' : cells + 2 = cells') (hs' : slots + (n + 4) = slots') (hp : pc + 2 = pc')
    (K : ∀ (a b : Addr) (k : ClassId) (h' : Heap), Ext h h' → Exa Z h' a "java/lang/String" → Fld Z h' a "java/lang/String" "coder" "B" (.int 0) → Fld Z h' a "java/lang/String" "value" "[B" (.ref b) → Arv Z h' b k .byte z vs (.int 0) → (∀ x ∈ ow, x ≠ a ∧ x ≠ b) → Run p l e R s m args below meth c Z wd EL n0 ow0 Q h' ow cells' slots' (mkF m pc' Ls (.ref a :: st))) : Run p l e R s m args below meth c Z wd EL n0 ow0 Q h ow cells slots (mkF m pc Ls st) := by
  subst hp hc' hs'
  intro T locs vm0 k0 X H
  obtain ⟨i1, i2, i3, i4, i5, i6, i7, i8, i9, i10⟩ := H
  obtain ⟨a, T', h', k1, b, k, X', eT, E, hS, hk, hW, -, q1, q2, q3, q4, -, -, hC, -, hne, st⟩ := ldcCH X G.1 i3 (G.own i1) w wS i4 i1 i2 G.2.2.2.2.2.2.2 hmem i6.1 ht hz hl (g := mkF m pc Ls st) rfl (G.hb hd) hn hbig hc hl'
  have hsafe : ∀ x ∈ ow, Safe Z EL T'.vm h' x := fun x hx => hC.safe (i9 x hx).2.1 (i9 x hx).1
  obtain ⟨s₂, o, q, r⟩ := K a b k h' E q1 q2 q3 q4 (fun x hx => hne x (hsafe x hx)) T' locs T'.vm k1 X' ⟨hS, hk, hW, eT, i5, i6.trans hC, i7.ext E, i8.ext E, fun x hx => ⟨hsafe x hx, Nat.lt_of_lt_of_le (i9 x hx).2.1 E.1, (i9 x hx).2.2⟩, Or.inl hwd⟩
  exact ⟨s₂, o, st _ q, r⟩
theorem ldcOpaque (G : Gd p s m meth c y bytes maxL ret Z a0 EL) {idx n : Nat} {text : String} (hd : decode bytes pc = .ok (.ldc idx, 2)) (hwd : wd = true) (w : (Jvm.Cond.stringLink y.cls idx text).before a0 Z = true) (wS : ∀ a ∈ Bundle.stringAtoms, a.before a0 Z = true)
    (hn : 4 * text.toList.length ≤ n) (hbig : n ≤ 536870912) (hc : cells + 2 ≤ R.cells) (hl' : slots + (n + 4) ≤ R.slots) (hc' : cells + 2 = cells') (hs' : slots + (n + 4) = slots') (hp : pc + 2 = pc')
    (K : ∀ (a : Addr) (h' : Heap), Ext h h' → Run p l e R s m args below meth c Z wd EL n0 ow0 Q h' ow cells' slots' (mkF m pc' Ls (.ref a :: st))) : Run p l e R s m args below meth c Z wd EL n0 ow0 Q h ow cells slots (mkF m pc Ls st) := by
  subst hp hc' hs'
  intro T locs vm0 k0 X H
  obtain ⟨i1, i2, i3, i4, i5, i6, i7, i8, i9, i10⟩ := H
  obtain ⟨a, T', h', k1, X', eT, E, hS, hk, hW, -, hC, -, st⟩ := ldcOH X G.1 i3 (G.own i1) w wS i4 i1 i2 G.2.2.2.2.2.2.2 i6.1 (g := mkF m pc Ls st) rfl (G.hb hd) hn hbig hc hl'
  have hsafe : ∀ x ∈ ow, Safe Z EL T'.vm h' x := fun x hx => hC.safe (i9 x hx).2.1 (i9 x hx).1
  obtain ⟨s₂, o, q, r⟩ := K a h' E T' locs T'.vm k1 X' ⟨hS, hk, hW, eT, i5, i6.trans hC, i7.ext E, i8.ext E, fun x hx => ⟨hsafe x hx, Nat.lt_of_lt_of_le (i9 x hx).2.1 E.1, (i9 x hx).2.2⟩, Or.inl hwd⟩
  exact ⟨s₂, o, st _ q, r⟩
theorem fin (G : Gd p s m meth c y bytes maxL ret Z a0 EL) {v : Option Value} {g : JFrame} (hv : ret = none → v = none) (hc : cells ≤ R.cells) (hs : slots ≤ R.slots) (q : Q v h)
    (stp : ∀ (T : State) (locs : List Loc) (vm0 : Vm) (k0 : Nat) (fs : List Frame), Stand p l e R (s.setVm vm0) m args below meth c T locs cells slots → (∀ (f : JFrame) (acts : List Action), f.method = m → f.locked = none → f.entered = [] → (doReturn e (T.setTop f) acts v).1 = T.setFrames fs) → Steps p.tables e below (T.setTop g) (T.setFrames fs)) : Run p l e R s m args below meth c Z wd EL n0 ow0 Q h ow cells slots g := by
  intro T locs vm0 k0 X H
  obtain ⟨i1, i2, i3, i4, i5, i6, i7, i8, i9, i10⟩ := H
  obtain ⟨fs, hr, hrun, hended, hW⟩ := X.leaveW i1 (by rw [i4]; exact i2) (v := v) (fun h => hv (G.2.2.2.2.1.symm.trans h)) G.2.2.2.2.2.2.1
  have hT : (T.setFrames fs).heap = h := i4
  have hA := CHv.at X i3 G.2.2.2.2.2.2.2 i6.1
  refine ⟨_, _, stp T locs vm0 k0 fs X hr, hrun, hended, v, locs, rfl, by rw [hT]; exact q, i5, by rw [hT]; exact i6.trans hA, by rw [hT]; exact i7, ⟨hW.1, hW.2.1, hW.2.2.1, hW.2.2.2.mono hc hs⟩, i10.imp id fun w => State.WarmedH.trans (t := s.setVm vm0) w X.warmed⟩
theorem retInt (G : Gd p s m meth c y bytes maxL ret Z a0 EL) {z : Int32} (hd : decode bytes pc = .ok (.ireturn, 1)) (hret : ret = some .int) (hc : cells ≤ R.cells) (hs : slots ≤ R.slots) (q : Q (some (.int z)) h) : Run p l e R s m args below meth c Z wd EL n0 ow0 Q h ow cells slots (mkF m pc Ls (.int z :: rest)) :=
  fin G (fun h => by rw [hret] at h; cases h) hc hs q fun T locs vm0 k0 fs X hr => retOut X G.1 (G.2.2.2.2.1.trans hret) rfl (Or.inl ⟨rfl, Or.inl rfl, z, rfl⟩) (G.hb hd) hr
theorem retNar (G : Gd p s m meth c y bytes maxL ret Z a0 EL) {z : Int32} {t : FieldType} (hd : decode bytes pc = .ok (.ireturn, 1)) (hret : ret = some t) (ht : t = .boolean ∨ t = .byte ∨ t = .char ∨ t = .short) (hc : cells ≤ R.cells) (hs : slots ≤ R.slots) (q : Q (some (.int (nar t z))) h) : Run p l e R s m args below meth c Z wd EL n0 ow0 Q h ow cells slots (mkF m pc Ls (.int z :: rest)) :=
  fin G (fun h => by rw [hret] at h; cases h) hc hs q fun T locs vm0 k0 fs X hr => retN X G.1 (G.2.2.2.2.1.trans hret) ht (G.hb hd) hr
theorem retRef (G : Gd p s m meth c y bytes maxL ret Z a0 EL) {v : Value} {t : FieldType} (hd : decode bytes pc = .ok (.areturn, 1)) (hret : ret = some t) (ht : t.isReference = true) (hv : v.isRef = true) (hc : cells ≤ R.cells) (hs : slots ≤ R.slots) (q : Q (some v) h) : Run p l e R s m args below meth c Z wd EL n0 ow0 Q h ow cells slots (mkF m pc Ls (v :: rest)) :=
  fin G (fun h => by rw [hret] at h; cases h) hc hs q fun T locs vm0 k0 fs X hr => retOut X G.1 (G.2.2.2.2.1.trans hret) (by cases t <;> cases v <;> first | rfl | (simp [Value.isRef, FieldType.isReference] at hv ht)) (Or.inr (Or.inr (Or.inr (Or.inr ⟨rfl, ht, hv⟩)))) (G.hb hd) hr
theorem retVoid (G : Gd p s m meth c y bytes maxL ret Z a0 EL) (hd : decode bytes pc = .ok (.return_, 1)) (hret : ret = none) (hc : cells ≤ R.cells) (hs : slots ≤ R.slots) (q : Q none h) : Run p l e R s m args below meth c Z wd EL n0 ow0 Q h ow cells slots (mkF m pc Ls []) :=
  fin G (fun _ => rfl) hc hs q fun T locs vm0 k0 fs X hr => X.returnOut G.1 (G.2.2.2.2.1.trans hret) (G.hb hd) hr
/-- a callee's contract pays the call -/
theorem backG {y' : MethodName} {bytes' : ByteArray} {maxL' : Nat} {ret' : Option FieldType} {rm : Room} {len W : Nat} {as' : Array Value} {owc : List Addr} {Q' : Option Value → Heap → Prop} {vm0 : Vm}
    (C : Con l Z wd EL n0 y' bytes' maxL' ret' rm [] as' h owc Q') (hZ : Z.Warmed39 vm0) (wc : (Jvm.Cond.code y' bytes' maxL' ret').before a0 Z = true) (wz : (Jvm.Cond.initialized y'.cls).before a0 Z = true) (hf : rm.frames + 1 ≤ R.frames) (hl : W + (maxL' + 11) + rm.locals ≤ R.locals) (hEL : EW Z a0 EL) (H : CHv Z EL vm0 h) (hO : Old Z n0 h) (hS : ∀ x ∈ owc, Safe Z EL vm0 h x ∧ x < h.size ∧ n0 ≤ x) :
    BackS l R p e below (s.setVm vm0) args y' len W (fun A a => a = as' ∧ A.U.heap = h ∧ A.cells + rm.cells ≤ R.cells ∧ A.slots + rm.slots ≤ R.slots)
      (fun A _ v B => ∃ L, Q' v B.U.heap ∧ Fr n0 L ∧ Keep h B.U.heap owc ∧ B.locs = A.locs ++ L ∧ B.cells = A.cells + rm.cells ∧ B.slots = A.slots + rm.slots ∧ CHr Z EL vm0 h B.U.vm B.U.heap ∧ (wd = true ∨ (s.setVm vm0).WarmedH B.U.vm)) :=
  BackS.of_freeW (bytes := bytes') (maxL := maxL') (ret := ret') (E := fun _ first o t L k n => k = rm.cells ∧ n = rm.slots ∧ (∃ v, o = .returned v ∧ Q' v t.heap) ∧ Fr n0 L ∧ Keep first.heap t.heap owc ∧ CHr Z EL first.vm first.heap t.vm t.heap ∧ (wd = true ∨ first.WarmedH t.vm)) C hf hl
    (fun m meth c A a Y hp => have hU : Z.Warmed39 A.U.vm := wtrans (s := s.setVm vm0) hZ Y.warmed
      ⟨by show (Cond.and _ .tt).before a A.U = true; rw [Cond.before_and, mv hU wc]; rfl, mv hU wc, mv hU wz, hp.2.2.1, hp.2.2.2⟩)
    (fun m meth c A a g mk Y hp => ⟨hp.1, wtrans (s := s.setVm vm0) hZ Y.warmed, hp.2.1, hO, (CHv.at Y hZ hEL H).1, fun x hx => ⟨(CHv.at Y hZ hEL H).safe (hS x hx).2.1 (hS x hx).1, (hS x hx).2⟩⟩) (fun _ _ _ _ _ _ _ _ _ => trivial)
    (fun _ _ _ _ ⟨v, L, h1, h2, h3, h4, h5, h6, h7⟩ => ⟨L, _, _, h6, rfl, rfl, ⟨v, h1, h2⟩, h3, h5, h4, h7⟩)
    (fun m meth c A a g mk v t L k n Y hp _ _ ⟨e1, e2, ⟨v', e3, e4⟩, e5, e6, e7, e8⟩ => by
      cases e3; subst e1 e2
      have hh : (A.U.calling g mk a).heap = h := hp.2.1
      rw [hh] at e6 e7
      exact ⟨L, e4, e5, e6, rfl, rfl, rfl, (CHv.at Y hZ hEL H).trans e7, e8.imp id fun w => State.WarmedH.trans (t := A.U) Y.warmed w⟩)
theorem Hid.call {T T' : State} {locs L : List Loc} {vm0 : Vm} {k0 : Nat} {owc : List Addr} (H : Hid s Z wd EL n0 ow0 ow T locs vm0 k0 h) (how : ∀ x ∈ owc, x ∈ ow) (hS : (s.setVm vm0).Since T'.vm T'.heap.size) (N : Fr n0 L) (K : Keep h T'.heap owc) (hC : CHr Z EL vm0 h T'.vm T'.heap) (hw : wd = true ∨ (s.setVm vm0).WarmedH T'.vm) :
    Hid s Z wd EL n0 ow0 ow T' (locs ++ L) T'.vm T'.heap.size T'.heap := by
  obtain ⟨i1, i2, i3, i4, i5, i6, i7, i8, i9, i10⟩ := H
  refine ⟨i1.trans hS (Nat.le_trans i2 K.1), Nat.le_refl _, State.Warmed39.trans (t := s.setVm vm0) i3 hS.1, rfl, i5.app N, i6.trans hC, i7.trans K (fun x hx => (i9 x (how x hx)).2.2.2), i8.keep K (fun x hx => (i9 x (how x hx)).2.2.1), fun x hx => ⟨hC.safe (i9 x hx).2.1 (i9 x hx).1, Nat.lt_of_lt_of_le (i9 x hx).2.1 K.1, (i9 x hx).2.2⟩, ?_⟩
  rcases hw with hw | hw
  · exact Or.inl hw
  · exact i10.imp id fun w => State.WarmedH.trans (t := s.setVm vm0) w hw
theorem callStatic (G : Gd p s m meth c y bytes maxL ret Z a0 EL) {idx : Nat} {y' : MethodName} {bytes' : ByteArray} {maxL' : Nat} {ret' : Option FieldType} {rm : Room} {W : Nat} {argsL : List Value} {owc : List Addr} {Q' : Option Value → Heap → Prop} (hd : decode bytes pc = .ok (.invokestatic idx, 3))
    (w1 : (Jvm.Cond.methodLink y.cls idx y').before a0 Z = true) (w2 : (Jvm.Cond.static y').before a0 Z = true) (w3 : (Jvm.Cond.initialized y'.cls).before a0 Z = true) (w4 : (Jvm.Cond.code y' bytes' maxL' ret').before a0 Z = true) (hy : y'.cls ≠ "java/lang/invoke/MethodHandle" ∧ y'.cls ≠ "java/lang/invoke/VarHandle")
    (C : Con l Z wd EL n0 y' bytes' maxL' ret' rm [] argsL.toArray h owc Q') (hst : st = argsL.reverse ++ rest) (hlen : ∀ sig, parseMethodDescriptor y'.desc = some sig → argsL.length = sig.parameters.length) (hsz : Ls.size = maxL) (hfr : rm.frames + 1 ≤ R.frames) (hW : (rest.map fun v => v.category).sum ≤ W) (hlo : W + (maxL' + 11) + rm.locals ≤ R.locals) (hc : cells + rm.cells ≤ R.cells) (hs : slots + rm.slots ≤ R.slots) (how : ∀ x ∈ owc, x ∈ ow) (hc' : cells + rm.cells = cells') (hs' : slots + rm.slots = slots') (hp : pc + 3 = pc')
    (K : ∀ (v : Option Value) (h' : Heap), Q' v h' → Keep h h' owc → Run p l e R s m args below meth c Z wd EL n0 ow0 Q h' ow cells' slots' (mkF m pc' Ls (v.toList ++ rest))) : Run p l e R s m args below meth c Z wd EL n0 ow0 Q h ow cells slots (mkF m pc Ls st) := by
  subst hp hst hc' hs'
  intro T locs vm0 k0 X H
  have hZ := H.2.2.1
  obtain ⟨v, vm₁, B, -, X', hS, -, ⟨L, q1, q2, q3, q4, q5, q6, q7, q8⟩, stp⟩ := callSS X G.1 (bytes := bytes') (maxL := maxL') (ret := ret') (G.own H.1) (mv (s := s.setVm vm0) hZ w1) (mv (s := s.setVm vm0) hZ w2) (mv (s := s.setVm vm0) hZ w3) (mv (s := s.setVm vm0) hZ w4) hy
    (backG C hZ w4 w3 hfr hlo G.2.2.2.2.2.2.2 H.2.2.2.2.2.1.1 H.2.2.2.2.2.2.2.1 (fun x hx => ⟨(H.2.2.2.2.2.2.2.2.1 x (how x hx)).1, (H.2.2.2.2.2.2.2.2.1 x (how x hx)).2.1, (H.2.2.2.2.2.2.2.2.1 x (how x hx)).2.2.1⟩)) (g := mkF m pc Ls (argsL.reverse ++ rest)) rfl (hsz.trans G.2.2.1.symm) hlen rfl (by show 2 * 0 + _ ≤ W; omega) (G.hb hd) (fun _ _ => ⟨rfl, H.2.2.2.1, hc, hs⟩)
  obtain ⟨T', Lc, kc, nc⟩ := B
  dsimp only [Pt.U, Pt.locs, Pt.cells, Pt.slots] at X' q1 q3 q4 q5 q6 q7 q8 hS stp
  subst q4 q5 q6
  obtain ⟨s₂, o, q, r⟩ := K v T'.heap q1 q3 T' (locs ++ L) T'.vm T'.heap.size X' (H.call how hS q2 q3 q7 q8)
  exact ⟨s₂, o, stp.trans q, r⟩
theorem callSpecial (G : Gd p s m meth c y bytes maxL ret Z a0 EL) {idx : Nat} {y' : MethodName} {bytes' : ByteArray} {maxL' : Nat} {rm : Room} {W : Nat} {a : Addr} {argsL : List Value} {owc : List Addr} {Q' : Option Value → Heap → Prop} (hd : decode bytes pc = .ok (.invokespecial idx, 3)) (hn : y'.name = "<init>")
    (w1 : (Jvm.Cond.methodLink y.cls idx y').before a0 Z = true) (w2 : (Jvm.Cond.instanceMethod y').before a0 Z = true) (w3 : (Jvm.Cond.initialized y'.cls).before a0 Z = true) (w4 : (Jvm.Cond.code y' bytes' maxL' none).before a0 Z = true) (hy : y'.cls ≠ "java/lang/invoke/MethodHandle" ∧ y'.cls ≠ "java/lang/invoke/VarHandle")
    (C : Con l Z wd EL n0 y' bytes' maxL' none rm [] (.ref a :: argsL).toArray h owc Q') (hst : st = argsL.reverse ++ .ref a :: rest) (hlen : ∀ sig, parseMethodDescriptor y'.desc = some sig → argsL.length = sig.parameters.length) (hsz : Ls.size = maxL) (hfr : rm.frames + 1 ≤ R.frames) (hW : (rest.map fun v => v.category).sum ≤ W) (hlo : W + (maxL' + 11) + rm.locals ≤ R.locals) (hc : cells + rm.cells ≤ R.cells) (hs : slots + rm.slots ≤ R.slots) (how : ∀ x ∈ owc, x ∈ ow) (hc' : cells + rm.cells = cells') (hs' : slots + rm.slots = slots') (hp : pc + 3 = pc')
    (K : ∀ (v : Option Value) (h' : Heap), Q' v h' → Keep h h' owc → Run p l e R s m args below meth c Z wd EL n0 ow0 Q h' ow cells' slots' (mkF m pc' Ls (v.toList ++ rest))) : Run p l e R s m args below meth c Z wd EL n0 ow0 Q h ow cells slots (mkF m pc Ls st) := by
  subst hp hst hc' hs'
  intro T locs vm0 k0 X H
  have hZ := H.2.2.1
  obtain ⟨v, vm₁, B, -, X', hS, -, ⟨L, q1, q2, q3, q4, q5, q6, q7, q8⟩, stp⟩ := X.specialBackS G.1 (bytes := bytes') (maxL := maxL') hn (G.own H.1) (mv (s := s.setVm vm0) hZ w1) (mv (s := s.setVm vm0) hZ w2) (mv (s := s.setVm vm0) hZ w4) hy
    (backG C hZ w4 w3 hfr hlo G.2.2.2.2.2.2.2 H.2.2.2.2.2.1.1 H.2.2.2.2.2.2.2.1 (fun x hx => ⟨(H.2.2.2.2.2.2.2.2.1 x (how x hx)).1, (H.2.2.2.2.2.2.2.2.1 x (how x hx)).2.1, (H.2.2.2.2.2.2.2.2.1 x (how x hx)).2.2.1⟩)) (g := mkF m pc Ls (argsL.reverse ++ .ref a :: rest)) rfl (hsz.trans G.2.2.1.symm) (Steps.refl _) hlen rfl (by show 2 * 0 + _ ≤ W; omega) (G.hb hd) (fun _ _ => ⟨rfl, H.2.2.2.1, hc, hs⟩)
  obtain ⟨T', Lc, kc, nc⟩ := B
  dsimp only [Pt.U, Pt.locs, Pt.cells, Pt.slots] at X' q1 q3 q4 q5 q6 q7 q8 hS stp
  subst q4 q5 q6
  obtain ⟨s₂, o, q, r⟩ := K v T'.heap q1 q3 T' (locs ++ L) T'.vm T'.heap.size X' (H.call how hS q2 q3 q7 q8)
  exact ⟨s₂, o, stp.trans q, r⟩
theorem callVirtual (G : Gd p s m meth c y bytes maxL ret Z a0 EL) {idx : Nat} {y' z' : MethodName} {D : String} {bytes' : ByteArray} {maxL' : Nat} {ret' : Option FieldType} {rm : Room} {W : Nat} {a : Addr} {argsL : List Value} {owc : List Addr} {Q' : Option Value → Heap → Prop} (hd : decode bytes pc = .ok (.invokevirtual idx, 3))
    (w1 : (Jvm.Cond.methodLink y.cls idx y').before a0 Z = true) (w2 : (Jvm.Cond.declares y').before a0 Z = true) (w3 : (Jvm.Cond.selects D y' z').before a0 Z = true) (hnf : ∀ (s : State), Z.Warmed39 s.vm → NotFace s y') (w4 : (Jvm.Cond.instanceMethod z').before a0 Z = true) (w5 : (Jvm.Cond.initialized z'.cls).before a0 Z = true) (w6 : (Jvm.Cond.code z' bytes' maxL' ret').before a0 Z = true) (hy : y'.cls ≠ "java/lang/invoke/MethodHandle" ∧ y'.cls ≠ "java/lang/invoke/VarHandle")
    (E : Exa Z h a D) (C : Con l Z wd EL n0 z' bytes' maxL' ret' rm [] (.ref a :: argsL).toArray h owc Q') (hst : st = argsL.reverse ++ .ref a :: rest) (hlen : ∀ sig, parseMethodDescriptor y'.desc = some sig → argsL.length = sig.parameters.length) (hsz : Ls.size = maxL) (hfr : rm.frames + 1 ≤ R.frames) (hW : (rest.map fun v => v.category).sum ≤ W) (hlo : W + (maxL' + 11) + rm.locals ≤ R.locals) (hc : cells + rm.cells ≤ R.cells) (hs : slots + rm.slots ≤ R.slots) (how : ∀ x ∈ owc, x ∈ ow) (hc' : cells + rm.cells = cells') (hs' : slots + rm.slots = slots') (hp : pc + 3 = pc')
    (K : ∀ (v : Option Value) (h' : Heap), Q' v h' → Keep h h' owc → Run p l e R s m args below meth c Z wd EL n0 ow0 Q h' ow cells' slots' (mkF m pc' Ls (v.toList ++ rest))) : Run p l e R s m args below meth c Z wd EL n0 ow0 Q h ow cells slots (mkF m pc Ls st) := by
  subst hp hst hc' hs'
  intro T locs vm0 k0 X H
  have hZ := H.2.2.1
  obtain ⟨cq, kq, r1, -, r3⟩ := isOf (s := s.setVm vm0) (T := T) hZ H.2.2.2.1 E
  obtain ⟨v, vm₁, B, -, X', hS, -, ⟨L, q1, q2, q3, q4, q5, q6, q7, q8⟩, stp⟩ := X.virtualBackS G.1 (G.own H.1) (mv (s := s.setVm vm0) hZ w1) (mv (s := s.setVm vm0) hZ w2) (hnf (s.setVm vm0) hZ) (mv (s := s.setVm vm0) hZ w3) (mv (s := s.setVm vm0) hZ w4) hy
    (backG C hZ w6 w5 hfr hlo G.2.2.2.2.2.2.2 H.2.2.2.2.2.1.1 H.2.2.2.2.2.2.2.1 (fun x hx => ⟨(H.2.2.2.2.2.2.2.2.1 x (how x hx)).1, (H.2.2.2.2.2.2.2.2.1 x (how x hx)).2.1, (H.2.2.2.2.2.2.2.2.1 x (how x hx)).2.2.1⟩)) r1 r3 (g := mkF m pc Ls (argsL.reverse ++ .ref a :: rest)) rfl (hsz.trans G.2.2.1.symm) (Steps.refl _) hlen rfl (by show 2 * 0 + _ ≤ W; omega) (G.hb hd) (fun _ _ => ⟨rfl, H.2.2.2.1, hc, hs⟩)
  obtain ⟨T', Lc, kc, nc⟩ := B
  dsimp only [Pt.U, Pt.locs, Pt.cells, Pt.slots] at X' q1 q3 q4 q5 q6 q7 q8 hS stp
  subst q4 q5 q6
  obtain ⟨s₂, o, q, r⟩ := K v T'.heap q1 q3 T' (locs ++ L) T'.vm T'.heap.size X' (H.call how hS q2 q3 q7 q8)
  exact ⟨s₂, o, stp.trans q, r⟩
theorem callFace (G : Gd p s m meth c y bytes maxL ret Z a0 EL) {idx count : Nat} {y' z' : MethodName} {D : String} {bytes' : ByteArray} {maxL' : Nat} {ret' : Option FieldType} {rm : Room} {W : Nat} {a : Addr} {argsL : List Value} {owc : List Addr} {Q' : Option Value → Heap → Prop} (hd : decode bytes pc = .ok (.invokeinterface idx count, 5))
    (w1 : (Jvm.Cond.methodLink y.cls idx y').before a0 Z = true) (w2 : (Jvm.Cond.declares y').before a0 Z = true) (w3 : (Jvm.Cond.selects D y' z').before a0 Z = true) (wf : ∀ (a1 : Array Value) (s : State), Z.Warmed39 s.vm → (Jvm.Cond.interfaceMethod y'.cls y'.cls y'.name y'.desc).before a1 s = true) (wp : (Jvm.Cond.publicMethod z').before a0 Z = true) (wu : (Jvm.Cond.unhidden D y'.name y'.desc).before a0 Z = true) (wk : (Jvm.Cond.castable D y'.cls).before a0 Z = true) (w4 : (Jvm.Cond.instanceMethod z').before a0 Z = true) (w5 : (Jvm.Cond.initialized z'.cls).before a0 Z = true) (w6 : (Jvm.Cond.code z' bytes' maxL' ret').before a0 Z = true) (hy : y'.cls ≠ "java/lang/invoke/MethodHandle" ∧ y'.cls ≠ "java/lang/invoke/VarHandle")
    (E : Exa Z h a D) (C : Con l Z wd EL n0 z' bytes' maxL' ret' rm [] (.ref a :: argsL).toArray h owc Q') (hst : st = argsL.reverse ++ .ref a :: rest) (hlen : ∀ sig, parseMethodDescriptor y'.desc = some sig → argsL.length = sig.parameters.length) (hsz : Ls.size = maxL) (hfr : rm.frames + 1 ≤ R.frames) (hW : (rest.map fun v => v.category).sum ≤ W) (hlo : W + (maxL' + 11) + rm.locals ≤ R.locals) (hc : cells + rm.cells ≤ R.cells) (hs : slots + rm.slots ≤ R.slots) (how : ∀ x ∈ owc, x ∈ ow) (hc' : cells + rm.cells = cells') (hs' : slots + rm.slots = slots') (hp : pc + 5 = pc')
    (K : ∀ (v : Option Value) (h' : Heap), Q' v h' → Keep h h' owc → Run p l e R s m args below meth c Z wd EL n0 ow0 Q h' ow cells' slots' (mkF m pc' Ls (v.toList ++ rest))) : Run p l e R s m args below meth c Z wd EL n0 ow0 Q h ow cells slots (mkF m pc Ls st) := by
  subst hp hst hc' hs'
  intro T locs vm0 k0 X H
  have hZ := H.2.2.1
  obtain ⟨cq, kq, r1, r2, r3⟩ := isOf (s := s.setVm vm0) (T := T) hZ H.2.2.2.1 E
  obtain ⟨v, vm₁, B, -, X', hS, -, ⟨L, q1, q2, q3, q4, q5, q6, q7, q8⟩, stp⟩ := X.interfaceBackS G.1 (G.own H.1) (mv (s := s.setVm vm0) hZ w1) (mv (s := s.setVm vm0) hZ w2) (wf _ (s.setVm vm0) hZ) (mv (s := s.setVm vm0) hZ w3) (mv (s := s.setVm vm0) hZ w4) (mv (s := s.setVm vm0) hZ wp) (mv (s := s.setVm vm0) hZ wu) (mv (s := s.setVm vm0) hZ wk) hy
    (backG C hZ w6 w5 hfr hlo G.2.2.2.2.2.2.2 H.2.2.2.2.2.1.1 H.2.2.2.2.2.2.2.1 (fun x hx => ⟨(H.2.2.2.2.2.2.2.2.1 x (how x hx)).1, (H.2.2.2.2.2.2.2.2.1 x (how x hx)).2.1, (H.2.2.2.2.2.2.2.2.1 x (how x hx)).2.2.1⟩)) r1 r2 r3 (g := mkF m pc Ls (argsL.reverse ++ .ref a :: rest)) rfl (hsz.trans G.2.2.1.symm) (Steps.refl _) hlen rfl (by show 2 * 0 + _ ≤ W; omega) (G.hb hd) (fun _ _ => ⟨rfl, H.2.2.2.1, hc, hs⟩)
  obtain ⟨T', Lc, kc, nc⟩ := B
  dsimp only [Pt.U, Pt.locs, Pt.cells, Pt.slots] at X' q1 q3 q4 q5 q6 q7 q8 hS stp
  subst q4 q5 q6
  obtain ⟨s₂, o, q, r⟩ := K v T'.heap q1 q3 T' (locs ++ L) T'.vm T'.heap.size X' (H.call how hS q2 q3 q7 q8)
  exact ⟨s₂, o, stp.trans q, r⟩
theorem nface {y' : MethodName} {D : String} (w3 : (Jvm.Cond.selects D y' y').before a0 Z = true) : ∀ (s : State), Z.Warmed39 s.vm → NotFace s y' := fun s hZ => notFace_of_selects (args := #[]) (mv (s := s) hZ w3)
end
end Jvm.GoKit


namespace Jvm.GoKit
open Jvm Jvm.ClassFile Sem Op Lib Jvm.Free Jvm.Stand Jvm.LawKit Jvm.RoadKit Bundle
theorem wi {L : List Jvm.Cond} {a0 : Array Value} {Z : State} (hw : ∀ d ∈ L, d.before a0 Z = true) (i : Nat) {d : Jvm.Cond} (h : L[i]? = some d) : d.before a0 Z = true := hw _ (List.mem_of_getElem? h)
/-- an array of chars or bytes, with its values -/
def IA (Z : State) (h : Heap) (b : Addr) (ty : FieldType) (xs : List Int32) : Prop := ∃ cl : Cell, Arr Z h b cl ty ∧ cl.slots = (xs.map Value.int).toArray ∧ xs.length < 2 ^ 31
section
variable {p : Program} {l : Launch} {e : Env} {R : Room} {s : State} {m : MethodId} {args : Array Value} {below : List Frame} {meth : Method} {c : Code} {Z : State} {wd : Bool} {EL : List (String × Nat)} {n0 : Nat} {ow0 : List Addr} {Q : Option Value → Heap → Prop}
variable {h h' : Heap} {ow : List Addr} {cells slots cells' slots' : Nat} {pc pc' : Nat} {Ls Ls' : Array Slot} {st rest : List Value} {y : MethodName} {bytes : ByteArray} {maxL : Nat} {ret : Option FieldType} {a0 : Array Value}
variable {a b : Addr} {ty : FieldType} {xs : List Int32} {i : Nat} {x x' z j : Int32} {ws : List Addr} {sl : Nat} {v : Value}
theorem IA.lt (A : IA Z h b ty xs) : b < h.size := by obtain ⟨cl, A, -⟩ := A; exact A.lt
theorem IA.ext (A : IA Z h b ty xs) (E : Ext h h') : IA Z h' b ty xs := by obtain ⟨cl, A, r⟩ := A; exact ⟨cl, A.ext E, r⟩
theorem IA.other (A : IA Z h b ty xs) (W : Wr h h' a sl v) (q : b ≠ a) : IA Z h' b ty xs := by obtain ⟨cl, A, r⟩ := A; exact ⟨cl, A.other W q, r⟩
theorem IA.keep (A : IA Z h b ty xs) (K : Keep h h' ws) (q : b ∉ ws) : IA Z h' b ty xs := by obtain ⟨cl, A, r⟩ := A; exact ⟨cl, ⟨K.2.1 b cl A.1 q, A.2⟩, r⟩
theorem IA.new {cA : ClassId} {n : Int32} {k : Nat} (A : Arr Z h a (newA cA ty n) ty) (hk : n.toNatClampNeg = k) (hd : defaultValue ty = .int 0) : IA Z h a ty (List.replicate k 0) := by
  refine ⟨_, A, ?_, ?_⟩
  · subst hk; simp [newA, hd]
  · rw [List.length_replicate, ← hk]
    have := n.toInt_lt
    simp only [Int32.toNatClampNeg]; omega
theorem idx_ok {cl : Cell} {j : Int32} {i n : Nat} (hs : cl.slots.size = n) (hj : j.toNatClampNeg = i) (hj0 : ¬ j < 0) (hi : i < n) : ¬ (j < 0 ∨ cl.slots.size ≤ j.toNatClampNeg) := by
  rintro (q | q)
  · exact hj0 q
  · omega
theorem IA.set (A : IA Z h a ty xs) (W : Wr h h' a i (.int x)) (hi : i < xs.length) : IA Z h' a ty (xs.set i x) := by
  obtain ⟨cl, A, e, hl⟩ := A
  refine ⟨_, A.same W, ?_, by simpa using hl⟩
  simp only [Cell.setSlot]
  rw [e, ← Array.toList_inj]
  simp [List.map_set]
theorem castI (G : Gd p s m meth c y bytes maxL ret Z a0 EL) (hd : decode bytes pc = .ok (.castore, 1)) (A : IA Z h a .char xs) (hj : j.toNatClampNeg = i) (hj0 : ¬ j < 0) (hi : i < xs.length) (hx : nar .char x = x') (ha : a ∈ ow) (hp : pc + 1 = pc')
    (K : ∀ h', Wr h h' a i (.int x') → IA Z h' a .char (xs.set i x') → Run p l e R s m args below meth c Z wd EL n0 ow0 Q h' ow cells slots (mkF m pc' Ls rest)) : Run p l e R s m args below meth c Z wd EL n0 ow0 Q h ow cells slots (mkF m pc Ls (.int x :: .int j :: .ref a :: rest)) := by
  obtain ⟨cl, A1, e1, hl⟩ := id A
  refine castore G hd A1 (idx_ok (by rw [e1]; simp) hj hj0 hi) ha hp fun h' W => ?_
  rw [hj, hx] at W
  exact K h' W (A.set W hi)
theorem bastI (G : Gd p s m meth c y bytes maxL ret Z a0 EL) (hd : decode bytes pc = .ok (.bastore, 1)) (A : IA Z h a .byte xs) (hj : j.toNatClampNeg = i) (hj0 : ¬ j < 0) (hi : i < xs.length) (hx : nar .byte x = x') (ha : a ∈ ow) (hp : pc + 1 = pc')
    (K : ∀ h', Wr h h' a i (.int x') → IA Z h' a .byte (xs.set i x') → Run p l e R s m args below meth c Z wd EL n0 ow0 Q h' ow cells slots (mkF m pc' Ls rest)) : Run p l e R s m args below meth c Z wd EL n0 ow0 Q h ow cells slots (mkF m pc Ls (.int x :: .int j :: .ref a :: rest)) := by
  obtain ⟨cl, A1, e1, hl⟩ := id A
  refine bastore G hd A1 (idx_ok (by rw [e1]; simp) hj hj0 hi) ha hp fun h' W => ?_
  rw [hj, hx] at W
  exact K h' W (A.set W hi)
theorem caloadI (G : Gd p s m meth c y bytes maxL ret Z a0 EL) (hd : decode bytes pc = .ok (.caload, 1)) (A : IA Z h a .char xs) (hj : j.toNatClampNeg = i) (hj0 : ¬ j < 0) (hv : xs[i]? = some x) (hp : pc + 1 = pc') (K : Run p l e R s m args below meth c Z wd EL n0 ow0 Q h ow cells slots (mkF m pc' Ls (.int x :: rest))) : Run p l e R s m args below meth c Z wd EL n0 ow0 Q h ow cells slots (mkF m pc Ls (.int j :: .ref a :: rest)) := by
  obtain ⟨cl, A1, e1, hl⟩ := A
  have hi := (List.getElem?_eq_some_iff.mp hv).1
  exact caload G hd A1 (idx_ok (by rw [e1]; simp) hj hj0 hi) (by rw [e1, hj]; simp [hv]) hp K
theorem baloadI (G : Gd p s m meth c y bytes maxL ret Z a0 EL) (hd : decode bytes pc = .ok (.baload, 1)) (A : IA Z h a .byte xs) (hj : j.toNatClampNeg = i) (hj0 : ¬ j < 0) (hv : xs[i]? = some x) (hp : pc + 1 = pc') (K : Run p l e R s m args below meth c Z wd EL n0 ow0 Q h ow cells slots (mkF m pc' Ls (.int x :: rest))) : Run p l e R s m args below meth c Z wd EL n0 ow0 Q h ow cells slots (mkF m pc Ls (.int j :: .ref a :: rest)) := by
  obtain ⟨cl, A1, e1, hl⟩ := A
  have hi := (List.getElem?_eq_some_iff.mp hv).1
  exact baload G hd A1 (idx_ok (by rw [e1]; simp) hj hj0 hi) (by rw [e1, hj]; simp [hv]) hp K
theorem arrlenI (G : Gd p s m meth c y bytes maxL ret Z a0 EL) (hd : decode bytes pc = .ok (.arraylength, 1)) (A : IA Z h a ty xs) (hz : xs.length.toInt32 = z) (hp : pc + 1 = pc') (K : Run p l e R s m args below meth c Z wd EL n0 ow0 Q h ow cells slots (mkF m pc' Ls (.int z :: rest))) : Run p l e R s m args below meth c Z wd EL n0 ow0 Q h ow cells slots (mkF m pc Ls (.ref a :: rest)) := by
  obtain ⟨cl, A1, e1, hl⟩ := A
  refine arrlen G hd A1 hp ?_
  rw [e1, List.size_toArray, List.length_map, hz]
  exact K
theorem newcI (G : Gd p s m meth c y bytes maxL ret Z a0 EL) {n : Int32} {k cap : Nat} (hd : decode bytes pc = .ok (.newarray .char, 2)) (w : (Jvm.Cond.arrayClass .char).before a0 Z = true) (hn : ¬ n < 0) (hk : n.toNatClampNeg = k) (hcap : k ≤ cap) (hb : cap * 8 ≤ 536870912) (hc : cells + 1 ≤ R.cells) (hl : slots + cap ≤ R.slots) (hc' : cells + 1 = cells') (hs' : slots + cap = slots') (hp : pc + 2 = pc')
    (K : ∀ (h' : Heap) (a : Addr), a = h.size → Ext h h' → IA Z h' a .char (List.replicate k 0) → Run p l e R s m args below meth c Z wd EL n0 ow0 Q h' (a :: ow) cells' slots' (mkF m pc' Ls (.ref a :: rest))) : Run p l e R s m args below meth c Z wd EL n0 ow0 Q h ow cells slots (mkF m pc Ls (.int n :: rest)) :=
  newarr G hd w hn (hk ▸ hcap) hb hc hl hc' hs' hp fun h' cA a g E A => K h' a g E (IA.new A hk rfl)
theorem newbI (G : Gd p s m meth c y bytes maxL ret Z a0 EL) {n : Int32} {k cap : Nat} (hd : decode bytes pc = .ok (.newarray .byte, 2)) (w : (Jvm.Cond.arrayClass .byte).before a0 Z = true) (hn : ¬ n < 0) (hk : n.toNatClampNeg = k) (hcap : k ≤ cap) (hb : cap * 8 ≤ 536870912) (hc : cells + 1 ≤ R.cells) (hl : slots + cap ≤ R.slots) (hc' : cells + 1 = cells') (hs' : slots + cap = slots') (hp : pc + 2 = pc')
    (K : ∀ (h' : Heap) (a : Addr), a = h.size → Ext h h' → IA Z h' a .byte (List.replicate k 0) → Run p l e R s m args below meth c Z wd EL n0 ow0 Q h' (a :: ow) cells' slots' (mkF m pc' Ls (.ref a :: rest))) : Run p l e R s m args below meth c Z wd EL n0 ow0 Q h ow cells slots (mkF m pc Ls (.int n :: rest)) :=
  newarr G hd w hn (hk ▸ hcap) hb hc hl hc' hs' hp fun h' cA a g E A => K h' a g E (IA.new A hk rfl)
/-- calls of a callee that leaves the heap as it was -/
theorem callStaticP (G : Gd p s m meth c y bytes maxL ret Z a0 EL) {idx : Nat} {y' : MethodName} {bytes' : ByteArray} {maxL' : Nat} {ret' : Option FieldType} {rm : Room} {W : Nat} {argsL : List Value} {r : Option Value} (hd : decode bytes pc = .ok (.invokestatic idx, 3))
    (w1 : (Jvm.Cond.methodLink y.cls idx y').before a0 Z = true) (w2 : (Jvm.Cond.static y').before a0 Z = true) (w3 : (Jvm.Cond.initialized y'.cls).before a0 Z = true) (w4 : (Jvm.Cond.code y' bytes' maxL' ret').before a0 Z = true) (hy : y'.cls ≠ "java/lang/invoke/MethodHandle" ∧ y'.cls ≠ "java/lang/invoke/VarHandle")
    (C : Con l Z wd EL n0 y' bytes' maxL' ret' rm [] argsL.toArray h [] (fun v h' => v = r ∧ h' = h)) (hst : st = argsL.reverse ++ rest) (hlen : ∀ sig, parseMethodDescriptor y'.desc = some sig → argsL.length = sig.parameters.length) (hsz : Ls.size = maxL) (hfr : rm.frames + 1 ≤ R.frames) (hW : (rest.map fun v => v.category).sum ≤ W) (hlo : W + (maxL' + 11) + rm.locals ≤ R.locals) (hc : cells + rm.cells ≤ R.cells) (hs : slots + rm.slots ≤ R.slots) (hc' : cells + rm.cells = cells') (hs' : slots + rm.slots = slots') (hp : pc + 3 = pc')
    (K : Run p l e R s m args below meth c Z wd EL n0 ow0 Q h ow cells' slots' (mkF m pc' Ls (r.toList ++ rest))) : Run p l e R s m args below meth c Z wd EL n0 ow0 Q h ow cells slots (mkF m pc Ls st) :=
  callStatic G hd w1 w2 w3 w4 hy C hst hlen hsz hfr hW hlo hc hs (fun _ q => nomatch q) hc' hs' hp fun v h' q _ => by rw [q.1, q.2]; exact K
theorem callVirtualP (G : Gd p s m meth c y bytes maxL ret Z a0 EL) {idx : Nat} {y' : MethodName} {D : String} {bytes' : ByteArray} {maxL' : Nat} {ret' : Option FieldType} {rm : Room} {W : Nat} {a : Addr} {argsL : List Value} {r : Option Value} (hd : decode bytes pc = .ok (.invokevirtual idx, 3))
    (w1 : (Jvm.Cond.methodLink y.cls idx y').before a0 Z = true) (w2 : (Jvm.Cond.declares y').before a0 Z = true) (w3 : (Jvm.Cond.selects D y' y').before a0 Z = true) (w4 : (Jvm.Cond.instanceMethod y').before a0 Z = true) (w5 : (Jvm.Cond.initialized y'.cls).before a0 Z = true) (w6 : (Jvm.Cond.code y' bytes' maxL' ret').before a0 Z = true) (hy : y'.cls ≠ "java/lang/invoke/MethodHandle" ∧ y'.cls ≠ "java/lang/invoke/VarHandle")
    (E : Exa Z h a D) (C : Con l Z wd EL n0 y' bytes' maxL' ret' rm [] (.ref a :: argsL).toArray h [] (fun v h' => v = r ∧ h' = h)) (hst : st = argsL.reverse ++ .ref a :: rest) (hlen : ∀ sig, parseMethodDescriptor y'.desc = some sig → argsL.length = sig.parameters.length) (hsz : Ls.size = maxL) (hfr : rm.frames + 1 ≤ R.frames) (hW : (rest.map fun v => v.category).sum ≤ W) (hlo : W + (maxL' + 11) + rm.locals ≤ R.locals) (hc : cells + rm.cells ≤ R.cells) (hs : slots + rm.slots ≤ R.slots) (hc' : cells + rm.cells = cells') (hs' : slots + rm.slots = slots') (hp : pc + 3 = pc')
    (K : Run p l e R s m args below meth c Z wd EL n0 ow0 Q h ow cells' slots' (mkF m pc' Ls (r.toList ++ rest))) : Run p l e R s m args below meth c Z wd EL n0 ow0 Q h ow cells slots (mkF m pc Ls st) :=
  callVirtual G hd w1 w2 w3 (nface w3) w4 w5 w6 hy E C hst hlen hsz hfr hW hlo hc hs (fun _ q => nomatch q) hc' hs' hp fun v h' q _ => by rw [q.1, q.2]; exact K
theorem callFaceP (G : Gd p s m meth c y bytes maxL ret Z a0 EL) {idx count : Nat} {y' z' : MethodName} {D : String} {bytes' : ByteArray} {maxL' : Nat} {ret' : Option FieldType} {rm : Room} {W : Nat} {a : Addr} {argsL : List Value} {r : Option Value} (hd : decode bytes pc = .ok (.invokeinterface idx count, 5))
    (w1 : (Jvm.Cond.methodLink y.cls idx y').before a0 Z = true) (w2 : (Jvm.Cond.declares y').before a0 Z = true) (w3 : (Jvm.Cond.selects D y' z').before a0 Z = true) (wf : ∀ (a1 : Array Value) (s : State), Z.Warmed39 s.vm → (Jvm.Cond.interfaceMethod y'.cls y'.cls y'.name y'.desc).before a1 s = true) (wp : (Jvm.Cond.publicMethod z').before a0 Z = true) (wu : (Jvm.Cond.unhidden D y'.name y'.desc).before a0 Z = true) (wk : (Jvm.Cond.castable D y'.cls).before a0 Z = true) (w4 : (Jvm.Cond.instanceMethod z').before a0 Z = true) (w5 : (Jvm.Cond.initialized z'.cls).before a0 Z = true) (w6 : (Jvm.Cond.code z' bytes' maxL' ret').before a0 Z = true) (hy : y'.cls ≠ "java/lang/invoke/MethodHandle" ∧ y'.cls ≠ "java/lang/invoke/VarHandle")
    (E : Exa Z h a D) (C : Con l Z wd EL n0 z' bytes' maxL' ret' rm [] (.ref a :: argsL).toArray h [] (fun v h' => v = r ∧ h' = h)) (hst : st = argsL.reverse ++ .ref a :: rest) (hlen : ∀ sig, parseMethodDescriptor y'.desc = some sig → argsL.length = sig.parameters.length) (hsz : Ls.size = maxL) (hfr : rm.frames + 1 ≤ R.frames) (hW : (rest.map fun v => v.category).sum ≤ W) (hlo : W + (maxL' + 11) + rm.locals ≤ R.locals) (hc : cells + rm.cells ≤ R.cells) (hs : slots + rm.slots ≤ R.slots) (hc' : cells + rm.cells = cells') (hs' : slots + rm.slots = slots') (hp : pc + 5 = pc')
    (K : Run p l e R s m args below meth c Z wd EL n0 ow0 Q h ow cells' slots' (mkF m pc' Ls (r.toList ++ rest))) : Run p l e R s m args below meth c Z wd EL n0 ow0 Q h ow cells slots (mkF m pc Ls st) :=
  callFace G hd w1 w2 w3 wf wp wu wk w4 w5 w6 hy E C hst hlen hsz hfr hW hlo hc hs (fun _ q => nomatch q) hc' hs' hp fun v h' q _ => by rw [q.1, q.2]; exact K
/-- a Latin-1 String of known chars -/
def Lat (Z : State) (h : Heap) (a : Addr) (cs : List Int32) : Prop := Exa Z h a "java/lang/String" ∧ (∃ b, Fld Z h a "java/lang/String" "value" "[B" (.ref b) ∧ Fld Z h a "java/lang/String" "coder" "B" (.int 0) ∧ IA Z h b .byte (cs.map fun c => c.toInt8.toInt32)) ∧ ∀ c ∈ cs, 0 ≤ c.toInt ∧ c.toInt < 256
theorem Lat.ext {cs : List Int32} (S : Lat Z h a cs) (E : Ext h h') : Lat Z h' a cs := by
  obtain ⟨S1, ⟨b, S2, S3, S4⟩, S5⟩ := S
  exact ⟨S1.ext E, ⟨b, S2.ext E, S3.ext E, S4.ext E⟩, S5⟩
theorem Lat.keep {cs : List Int32} (S : Lat Z h a cs) (K : Keep h h' []) : Lat Z h' a cs := by
  obtain ⟨S1, ⟨b, S2, S3, S4⟩, S5⟩ := S
  exact ⟨S1.keep K, ⟨b, S2.keep K nin0, S3.keep K nin0, S4.keep K nin0⟩, S5⟩
theorem Lat.lt {cs : List Int32} (S : Lat Z h a cs) : a < h.size := S.1.lt
theorem IA.ne {n : Nat} {C : String} (A : IA Z h b ty xs) (E : Exa Z h a C) (wi : (Jvm.Cond.instantiable C n).before a0 Z = true) : b ≠ a := by obtain ⟨cl, A, -⟩ := A; exact (ne_arr E wi A).symm
theorem IA.neTy {ty' : FieldType} {ys : List Int32} (A : IA Z h b ty xs) (B : IA Z h a ty' ys) (hn : ty ≠ ty') : b ≠ a := fun q => by
  subst q
  obtain ⟨c1, A, -⟩ := A
  obtain ⟨c2, B, -⟩ := B
  cases A.1.symm.trans B.1
  obtain ⟨-, k1, e1, p1, r1⟩ := A.2.1
  obtain ⟨-, k2, e2, p2, r2⟩ := B.2.1
  cases e1.symm.trans e2
  have := r1.symm.trans r2
  injection this with _ q
  exact hn q
theorem IA.len (A : IA Z h b ty xs) : xs.length < 2 ^ 31 := by obtain ⟨-, -, -, h⟩ := A; exact h
theorem castRun {g g' : JFrame} (q : g = g') (K : Run p l e R s m args below meth c Z wd EL n0 ow0 Q h ow cells slots g') : Run p l e R s m args below meth c Z wd EL n0 ow0 Q h ow cells slots g := q ▸ K
theorem toI_toInt {i : Nat} (h : i < 2 ^ 31) : i.toInt32.toInt = i := len_toInt h
theorem toI_clamp {i : Nat} (h : i < 2 ^ 31) : i.toInt32.toNatClampNeg = i := by simp only [Int32.toNatClampNeg, toI_toInt h]; rfl
theorem toI_nn {i : Nat} (h : i < 2 ^ 31) : ¬ i.toInt32 < 0 := by
  rw [Int32.lt_iff_toInt_lt, toI_toInt h]; show ¬ (i : Int) < 0; omega
theorem toI_lt {i k : Nat} (h : i < 2 ^ 31) (h' : k < 2 ^ 31) : i.toInt32 < k.toInt32 ↔ i < k := by
  rw [Int32.lt_iff_toInt_lt, toI_toInt h, toI_toInt h']; omega
theorem toI_succ (i : Nat) : i.toInt32 + 1 = (i + 1).toInt32 := by
  apply Int32.toBitVec_inj.mp
  simp [Nat.toInt32, BitVec.ofNat_add]
theorem toI_eq {i k : Nat} (h : i < 2 ^ 31) (h' : k < 2 ^ 31) : i.toInt32 = k.toInt32 ↔ i = k := by
  refine ⟨fun q => ?_, fun q => by rw [q]⟩
  have := congrArg Int32.toInt q
  rw [toI_toInt h, toI_toInt h'] at this; omega
theorem lo8_nar (c : Int32) : nar .byte (c.toInt8.toInt32) = c.toInt8.toInt32 := by simp [nar]
theorem nar_i2c (x : Int32) : nar .char (x.toUInt32.toUInt16.toUInt32.toInt32) = x.toUInt32.toUInt16.toUInt32.toInt32 := by simp only [nar, UInt32.toUInt32_toInt32, UInt16.toUInt16_toUInt32]
theorem set_fill (f : Int32 → Int32) (cs : List Int32) (i k : Nat) (c : Int32) (hc : cs[i]? = some c) : (((cs.take i).map f) ++ List.replicate (k + 1) 0).set i (f c) = ((cs.take (i + 1)).map f) ++ List.replicate k 0 := by
  have hi := (List.getElem?_eq_some_iff.mp hc).1
  have hl : ((cs.take i).map f).length = i := by simp; omega
  rw [List.set_append_right _ _ (by omega), hl, Nat.sub_self, List.replicate_succ, List.set_cons_zero, List.take_add_one, hc]
  simp
theorem and_rng (x m : Int32) (M : Nat) (hm : m.toBitVec.toNat = M) (hM : M < 2 ^ 31) : 0 ≤ (x &&& m).toInt ∧ (x &&& m).toInt ≤ M := by
  have h : (x &&& m).toBitVec.toNat ≤ M := by
    show (x.toBitVec &&& m.toBitVec).toNat ≤ M
    rw [BitVec.toNat_and, ← hm]; exact Nat.and_le_right
  have e : (x &&& m).toInt = ((x &&& m).toBitVec.toNat : Int) := by
    show (x &&& m).toBitVec.toInt = _
    rw [BitVec.toInt_eq_toNat_cond]; rw [if_pos (by omega)]
  omega
theorem and255_rng (x : Int32) : 0 ≤ (x &&& 255).toInt ∧ (x &&& 255).toInt < 256 := by
  have := and_rng x 255 255 rfl (by decide); omega
theorem ch8 (x v w : Int32) (h1 : v = x &&& 255) (h2 : w = v.toUInt32.toUInt16.toUInt32.toInt32) : 0 ≤ w.toInt ∧ w.toInt < 256 := by
  subst h1 h2; rw [i2c_mask]; exact and255_rng x
theorem bool_ok {z : Int32} (h : z = 0 ∨ z = 1) : narrow .boolean (.int z) = .int z ∧ fits .boolean (.int z) = true ∧ nar .boolean z = z := by
  rcases h with rfl | rfl <;> exact ⟨rfl, rfl, rfl⟩
theorem ref_ok {v : Value} (C : String) (h : v.isRef = true) : narrow (.object C) v = v ∧ fits (.object C) v = true := by
  rcases ref_cases h with rfl | ⟨r, rfl⟩ <;> exact ⟨rfl, rfl⟩
/-- compact strings are on -/
def Cst (Z : State) : Prop := ∃ cz : Int32, Sta Z Z.heap "java/lang/String" "COMPACT_STRINGS" "Z" (.int cz) ∧ cz ≠ 0
theorem keepExt (K : Keep h h' []) : Ext h h' := ⟨K.1, fun x c q => K.2.1 x c q nin0⟩
theorem extKeep (E : Ext h h') : Keep h h' [] := (Keep.refl h []).ext E
end
end Jvm.GoKit

namespace Jvm.Pilot.@@N@@
open Jvm Jvm.ClassFile Sem Op Lib Jvm.Free Jvm.Stand Jvm.LawKit Jvm.RoadKit Jvm.GoKit Bundle Jvm.Pilot.@@N@@.Jvm.D
abbrev ELs : List (String × Nat) := []
theorem hELs {Z : State} {a0 : Array Value} (hw : ∀ d ∈ tables_1, d.before a0 Z = true) : EW Z a0 ELs := EW.nil
theorem d7_0 : decode jdk_52_method_15_code 0 = .ok (.iload_n 1, 1) := by decide +kernel
theorem d7_1 : decode jdk_52_method_15_code 1 = .ok (.aload_n 0, 1) := by decide +kernel
theorem d7_2 : decode jdk_52_method_15_code 2 = .ok (.arraylength, 1) := by decide +kernel
theorem d7_3 : decode jdk_52_method_15_code 3 = .ok (.isub, 1) := by decide +kernel
theorem d7_4 : decode jdk_52_method_15_code 4 = .ok (.bipush 31, 2) := by decide +kernel
theorem d7_6 : decode jdk_52_method_15_code 6 = .ok (.iushr, 1) := by decide +kernel
theorem d7_7 : decode jdk_52_method_15_code 7 = .ok (.i2b, 1) := by decide +kernel
theorem d7_8 : decode jdk_52_method_15_code 8 = .ok (.ireturn, 1) := by decide +kernel
theorem pn_java_lang_StringUTF16 : plainName "java/lang/StringUTF16" = true := by first | (simp [plainName, overriddenIn]; done) | decide +kernel
abbrev rm_con_coderLen : Room := { frames := 0, cells := 0, slots := 0, locals := 0 }
set_option maxRecDepth 65536 in
set_option maxHeartbeats 40000000 in
theorem con_coderLen (l : Launch) {Z : State} {a0 : Array Value} (hw : ∀ d ∈ tables_1, d.before a0 Z = true) {n0 : Nat} {h0 : Heap} {d : Addr} {xs : List Int32} (A : IA Z h0 d .byte xs) :
    Con l Z false ELs n0 (⟨"java/lang/StringUTF16", "coderFromArrayLen", "([BI)B"⟩ : MethodName) jdk_52_method_15_code 2 (some .byte) rm_con_coderLen [] #[(.ref d), (.int xs.length.toInt32)] h0 [] (fun v h => v = some (.int 0) ∧ h = h0) := by
  refine Con.intro (plainFor_of_name pn_java_lang_StringUTF16) (hELs hw) ?_
  intro p e s m below meth c hh G
  refine castRun (g' := mkF m 0 #[.val (.ref d), .val (.int xs.length.toInt32)] []) (by first | rfl | (simp [entryFrame, mkF, argsToLocals, Value.category, maxLocals]; done)) ?_
  refine GoKit.iloadN G d7_0 rfl (pc' := 1) rfl ?_
  refine GoKit.aloadN G d7_1 rfl rfl (pc' := 2) rfl ?_
  refine GoKit.arrlenI G d7_2 A (z := xs.length.toInt32) rfl (pc' := 3) rfl ?_
  refine GoKit.isub G d7_3 (pc' := 4) rfl (fun v1 hqv1 => ?_)
  refine GoKit.bipush G (31 : Int32) d7_4 rfl (pc' := 6) rfl ?_
  refine GoKit.iushr G d7_6 (pc' := 7) rfl (fun v2 hqv2 => ?_)
  refine GoKit.i2b G d7_7 (pc' := 8) rfl (fun v3 hqv3 => ?_)
  refine GoKit.retNar G d7_8 (t := .byte) rfl (by simp) (by decide) (by decide) ?_
  exact ⟨by subst_vars; rw [show (xs.length.toInt32 - xs.length.toInt32 : Int32) = 0 from Int32.sub_self _]; rfl, rfl⟩
theorem lat_le {c : Int32} (h : 0 ≤ c.toInt ∧ c.toInt < 256) : ¬ (255 : Int32) < c := by rw [Int32.lt_iff_toInt_lt]; show ¬ (255 : Int) < c.toInt; omega
theorem d6_3 : decode jdk_52_method_21_code 3 = .ok (.iload 5, 2) := by decide +kernel
theorem d6_5 : decode jdk_52_method_21_code 5 = .ok (.iload 4, 2) := by decide +kernel
theorem d6_7 : decode jdk_52_method_21_code 7 = .ok (.if_icmp .ge 37, 3) := by decide +kernel
theorem d6_44 : decode jdk_52_method_21_code 44 = .ok (.iload 4, 2) := by decide +kernel
theorem d6_46 : decode jdk_52_method_21_code 46 = .ok (.ireturn, 1) := by decide +kernel
theorem d6_10 : decode jdk_52_method_21_code 10 = .ok (.aload_n 0, 1) := by decide +kernel
theorem d6_11 : decode jdk_52_method_21_code 11 = .ok (.iload_n 1, 1) := by decide +kernel
theorem d6_12 : decode jdk_52_method_21_code 12 = .ok (.caload, 1) := by decide +kernel
theorem d6_13 : decode jdk_52_method_21_code 13 = .ok (.istore 6, 2) := by decide +kernel
theorem d6_15 : decode jdk_52_method_21_code 15 = .ok (.iload 6, 2) := by decide +kernel
theorem d6_17 : decode jdk_52_method_21_code 17 = .ok (.sipush 255, 3) := by decide +kernel
theorem d6_20 : decode jdk_52_method_21_code 20 = .ok (.if_icmp .le 6, 3) := by decide +kernel
theorem d6_26 : decode jdk_52_method_21_code 26 = .ok (.aload_n 2, 1) := by decide +kernel
theorem d6_27 : decode jdk_52_method_21_code 27 = .ok (.iload_n 3, 1) := by decide +kernel
theorem d6_28 : decode jdk_52_method_21_code 28 = .ok (.iload 6, 2) := by decide +kernel
theorem d6_30 : decode jdk_52_method_21_code 30 = .ok (.i2b, 1) := by decide +kernel
theorem d6_31 : decode jdk_52_method_21_code 31 = .ok (.bastore, 1) := by decide +kernel
theorem d6_32 : decode jdk_52_method_21_code 32 = .ok (.iinc 1 1, 3) := by decide +kernel
theorem d6_35 : decode jdk_52_method_21_code 35 = .ok (.iinc 3 1, 3) := by decide +kernel
theorem d6_38 : decode jdk_52_method_21_code 38 = .ok (.iinc 5 1, 3) := by decide +kernel
theorem d6_41 : decode jdk_52_method_21_code 41 = .ok (.goto (-38), 3) := by decide +kernel
theorem d6_0 : decode jdk_52_method_21_code 0 = .ok (.iconst 0, 1) := by decide +kernel
theorem d6_1 : decode jdk_52_method_21_code 1 = .ok (.istore 5, 2) := by decide +kernel
abbrev rm_con_compress5 : Room := { frames := 0, cells := 0, slots := 0, locals := 0 }
set_option maxRecDepth 65536 in
set_option maxHeartbeats 40000000 in
theorem con_compress5 (l : Launch) {Z : State} {a0 : Array Value} (hw : ∀ d ∈ tables_1, d.before a0 Z = true) {n0 : Nat} {h0 : Heap} {b d : Addr} {cs : List Int32} (A : IA Z h0 b .char cs) (D : IA Z h0 d .byte (List.replicate cs.length 0)) (hlat : ∀ c ∈ cs, 0 ≤ c.toInt ∧ c.toInt < 256) :
    Con l Z false ELs n0 (⟨"java/lang/StringUTF16", "compress", "([CI[BII)I"⟩ : MethodName) jdk_52_method_21_code 7 (some .int) rm_con_compress5 [] #[(.ref b), (.int 0), (.ref d), (.int 0), (.int cs.length.toInt32)] h0 [d] (fun v h => v = some (.int cs.length.toInt32) ∧ IA Z h d .byte (cs.map fun c => c.toInt8.toInt32)) := by
  refine Con.intro (plainFor_of_name pn_java_lang_StringUTF16) (hELs hw) ?_
  intro p e s m below meth c hh G
  refine castRun (g' := mkF m 0 #[.val (.ref b), .val (.int 0), .val (.ref d), .val (.int 0), .val (.int cs.length.toInt32), .unset, .unset] []) (by first | rfl | (simp [entryFrame, mkF, argsToLocals, Value.category, maxLocals]; done)) ?_
  have hl := A.len
  have loop : ∀ (k i : Nat) (h : Heap) (sl : Slot), i + k = cs.length → IA Z h b .char cs → IA Z h d .byte ((cs.take i).map (fun c => c.toInt8.toInt32) ++ List.replicate k 0) → (sl = .unset ∨ ∃ w, sl = .val w ∧ w.category = 1) →
      Run p l e rm_con_compress5 s m #[.ref b, .int 0, .ref d, .int 0, .int cs.length.toInt32] below meth c Z false ELs n0 [d] (fun v h => v = some (.int cs.length.toInt32) ∧ IA Z h d .byte (cs.map fun c => c.toInt8.toInt32)) h [d] 0 0 (mkF m 3 #[.val (.ref b), .val (.int i.toInt32), .val (.ref d), .val (.int i.toInt32), .val (.int cs.length.toInt32), .val (.int i.toInt32), sl] []) := by
    intro k; induction k with
    | zero =>
      intro i h sl hik A D hsl
      have hi : i = cs.length := by omega
      subst hi
      refine GoKit.iload G d6_3 rfl (pc' := 5) rfl ?_
      refine GoKit.iload G d6_5 rfl (pc' := 7) rfl ?_
      refine GoKit.icmp_ge_t G d6_7 Int32.lt_irrefl (by decide) (pc' := 44) rfl ?_
      refine GoKit.iload G d6_44 rfl (pc' := 46) rfl ?_
      refine GoKit.retInt G d6_46 rfl (by decide) (by decide) ?_
      exact ⟨rfl, by simpa using D⟩
    | succ k ih =>
      intro i h sl hik A D hsl
      have hi : i < cs.length := by omega
      obtain ⟨ch, hch⟩ : ∃ ch, cs[i]? = some ch := ⟨cs[i], List.getElem?_eq_getElem hi⟩
      have hcl := hlat ch (List.mem_of_getElem? hch)
      refine GoKit.iload G d6_3 rfl (pc' := 5) rfl ?_
      refine GoKit.iload G d6_5 rfl (pc' := 7) rfl ?_
      refine GoKit.icmp_ge_f G d6_7 ((toI_lt (by omega) (by omega)).mpr hi) (pc' := 10) rfl ?_
      refine GoKit.aloadN G d6_10 rfl rfl (pc' := 11) rfl ?_
      refine GoKit.iloadN G d6_11 rfl (pc' := 12) rfl ?_
      refine GoKit.caloadI G d6_12 A (i := i) (toI_clamp (by omega)) (toI_nn (by omega)) hch (pc' := 13) rfl ?_
      refine GoKit.istore G d6_13 (Ls' := #[.val (.ref b), .val (.int i.toInt32), .val (.ref d), .val (.int i.toInt32), .val (.int cs.length.toInt32), .val (.int i.toInt32), .val (.int ch)]) (XS.store1 rfl hsl rfl) (pc' := 15) rfl ?_
      refine GoKit.iload G d6_15 rfl (pc' := 17) rfl ?_
      refine GoKit.sipush G (255 : Int32) d6_17 rfl (pc' := 20) rfl ?_
      refine GoKit.icmp_le_t G d6_20 (lat_le hcl) (by decide) (pc' := 26) rfl ?_
      refine GoKit.aloadN G d6_26 rfl rfl (pc' := 27) rfl ?_
      refine GoKit.iloadN G d6_27 rfl (pc' := 28) rfl ?_
      refine GoKit.iload G d6_28 rfl (pc' := 30) rfl ?_
      refine GoKit.i2b G d6_30 (pc' := 31) rfl (fun v1 hqv1 => ?_)
      refine GoKit.bastI G d6_31 D (i := i) (toI_clamp (by omega)) (toI_nn (by omega)) (by simp; omega) (x' := ch.toInt8.toInt32) (by rw [hqv1]; exact lo8_nar _) (List.Mem.head _) (pc' := 32) rfl (fun h' W' D' => ?_)
      rw [set_fill _ cs i k ch hch] at D'
      refine GoKit.iinc G (1 : Int32) d6_32 rfl rfl (Ls' := #[.val (.ref b), .val (.int (i.toInt32 + (1 : Int32))), .val (.ref d), .val (.int i.toInt32), .val (.int cs.length.toInt32), .val (.int i.toInt32), .val (.int ch)]) rfl (pc' := 35) rfl ?_
      generalize hqv2 : (i.toInt32 + (1 : Int32)) = v2
      refine GoKit.iinc G (1 : Int32) d6_35 rfl rfl (Ls' := #[.val (.ref b), .val (.int v2), .val (.ref d), .val (.int (i.toInt32 + (1 : Int32))), .val (.int cs.length.toInt32), .val (.int i.toInt32), .val (.int ch)]) rfl (pc' := 38) rfl ?_
      generalize hqv3 : (i.toInt32 + (1 : Int32)) = v3
      refine GoKit.iinc G (1 : Int32) d6_38 rfl rfl (Ls' := #[.val (.ref b), .val (.int v2), .val (.ref d), .val (.int v3), .val (.int cs.length.toInt32), .val (.int (i.toInt32 + (1 : Int32))), .val (.int ch)]) rfl (pc' := 41) rfl ?_
      generalize hqv4 : (i.toInt32 + (1 : Int32)) = v4
      refine GoKit.goto G d6_41 (by decide) (pc' := 3) rfl ?_
      rw [toI_succ] at hqv2; subst hqv2
      rw [toI_succ] at hqv3; subst hqv3
      rw [toI_succ] at hqv4; subst hqv4
      exact ih (i + 1) h' (.val (.int ch)) (by omega) (A.other W' (IA.neTy A D (by decide))) D' (Or.inr ⟨_, rfl, rfl⟩)
  refine GoKit.iconst G (0 : Int32) d6_0 rfl (pc' := 1) rfl ?_
  refine GoKit.istore G d6_1 (Ls' := #[.val (.ref b), .val (.int (0 : Int32)), .val (.ref d), .val (.int (0 : Int32)), .val (.int cs.length.toInt32), .val (.int (0 : Int32)), .unset]) rfl (pc' := 3) rfl ?_
  exact loop cs.length 0 h0 .unset (by omega) A (by simpa using D) (Or.inl rfl)
theorem d5_0 : decode jdk_52_method_16_code 0 = .ok (.iload_n 2, 1) := by decide +kernel
theorem d5_1 : decode jdk_52_method_16_code 1 = .ok (.newarray .byte, 2) := by decide +kernel
theorem d5_3 : decode jdk_52_method_16_code 3 = .ok (.astore_n 3, 1) := by decide +kernel
theorem d5_4 : decode jdk_52_method_16_code 4 = .ok (.aload_n 0, 1) := by decide +kernel
theorem d5_5 : decode jdk_52_method_16_code 5 = .ok (.iload_n 1, 1) := by decide +kernel
theorem d5_6 : decode jdk_52_method_16_code 6 = .ok (.aload_n 3, 1) := by decide +kernel
theorem d5_7 : decode jdk_52_method_16_code 7 = .ok (.iconst 0, 1) := by decide +kernel
theorem d5_8 : decode jdk_52_method_16_code 8 = .ok (.iload_n 2, 1) := by decide +kernel
theorem d5_9 : decode jdk_52_method_16_code 9 = .ok (.invokestatic 115, 3) := by decide +kernel
theorem pd_0 : parseMethodDescriptor "([CI[BII)I" = some ⟨[(.array .char), .int, (.array .byte), .int, .int], some .int⟩ := by decide +kernel
theorem d5_12 : decode jdk_52_method_16_code 12 = .ok (.istore 4, 2) := by decide +kernel
theorem d5_14 : decode jdk_52_method_16_code 14 = .ok (.iload 4, 2) := by decide +kernel
theorem d5_16 : decode jdk_52_method_16_code 16 = .ok (.iload_n 2, 1) := by decide +kernel
theorem d5_17 : decode jdk_52_method_16_code 17 = .ok (.if_icmp .eq 40, 3) := by decide +kernel
theorem d5_57 : decode jdk_52_method_16_code 57 = .ok (.aload_n 3, 1) := by decide +kernel
theorem d5_58 : decode jdk_52_method_16_code 58 = .ok (.areturn, 1) := by decide +kernel
abbrev rm_con_compress3 : Room := { frames := 1, cells := 1, slots := 2, locals := 18 }
set_option maxRecDepth 65536 in
set_option maxHeartbeats 40000000 in
theorem con_compress3 (l : Launch) {Z : State} {a0 : Array Value} (hw : ∀ d ∈ tables_1, d.before a0 Z = true) {n0 : Nat} {h0 : Heap} {b : Addr} {cs : List Int32} (A : IA Z h0 b .char cs) (hcap : cs.length ≤ 2) (hlat : ∀ c ∈ cs, 0 ≤ c.toInt ∧ c.toInt < 256) :
    Con l Z false ELs n0 (⟨"java/lang/StringUTF16", "compress", "([CII)[B"⟩ : MethodName) jdk_52_method_16_code 6 (some (.array .byte)) rm_con_compress3 [] #[(.ref b), (.int 0), (.int cs.length.toInt32)] h0 [] (fun v h => ∃ d, v = some (.ref d) ∧ IA Z h d .byte (cs.map fun c => c.toInt8.toInt32)) := by
  refine Con.intro (plainFor_of_name pn_java_lang_StringUTF16) (hELs hw) ?_
  intro p e s m below meth c hh G
  refine castRun (g' := mkF m 0 #[.val (.ref b), .val (.int 0), .val (.int cs.length.toInt32), .unset, .unset, .unset] []) (by first | rfl | (simp [entryFrame, mkF, argsToLocals, Value.category, maxLocals]; done)) ?_
  have hl := A.len
  refine GoKit.iloadN G d5_0 rfl (pc' := 1) rfl ?_
  refine GoKit.newbI G d5_1 (wi hw 23 rfl) (toI_nn hl) (k := cs.length) (cap := 2) (toI_clamp hl) hcap (by decide) (by decide) (by decide) (cells' := 1) (slots' := 2) rfl rfl (pc' := 3) rfl (fun h4 a1 ga1 E2 A3 => ?_)
  refine GoKit.astoreN G d5_3 rfl (Ls' := #[.val (.ref b), .val (.int 0), .val (.int cs.length.toInt32), .val (.ref a1), .unset, .unset]) rfl (pc' := 4) rfl ?_
  refine GoKit.aloadN G d5_4 rfl rfl (pc' := 5) rfl ?_
  refine GoKit.iloadN G d5_5 rfl (pc' := 6) rfl ?_
  refine GoKit.aloadN G d5_6 rfl rfl (pc' := 7) rfl ?_
  refine GoKit.iconst G (0 : Int32) d5_7 rfl (pc' := 8) rfl ?_
  refine GoKit.iloadN G d5_8 rfl (pc' := 9) rfl ?_
  refine GoKit.callStatic G d5_9 (wi hw 24 rfl) (wi hw 25 rfl) (wi hw 21 rfl) (wi hw 26 rfl) (by decide) (owc := [a1]) (W := 0) (argsL := [(.ref b), (.int 0), (.ref a1), (.int (0 : Int32)), (.int cs.length.toInt32)]) (rest := []) (con_compress5 l hw (A.ext E2) A3 hlat) rfl (lenOf pd_0 rfl) rfl (by decide) (Nat.le_of_eq rfl) (by decide) (by decide) (by decide) (by intro x hx; simp only [List.mem_cons, List.not_mem_nil, or_false] at hx ⊢; simp [hx]) (cells' := 1) (slots' := 2) rfl rfl (pc' := 12) rfl (fun r5 h8 q6 K7 => ?_)
  obtain ⟨rfl, A9⟩ := q6
  show Run _ _ _ _ _ _ _ _ _ _ _ _ _ _ _ _ _ _ _ _ (mkF m 12 #[.val (.ref b), .val (.int 0), .val (.int cs.length.toInt32), .val (.ref a1), .unset, .unset] [(.int cs.length.toInt32)])
  refine GoKit.istore G d5_12 (Ls' := #[.val (.ref b), .val (.int 0), .val (.int cs.length.toInt32), .val (.ref a1), .val (.int cs.length.toInt32), .unset]) rfl (pc' := 14) rfl ?_
  refine GoKit.iload G d5_14 rfl (pc' := 16) rfl ?_
  refine GoKit.iloadN G d5_16 rfl (pc' := 17) rfl ?_
  refine GoKit.icmp_eq_t G d5_17 rfl (by decide) (pc' := 57) rfl ?_
  refine GoKit.aloadN G d5_57 rfl rfl (pc' := 58) rfl ?_
  refine GoKit.retRef G d5_58 rfl rfl rfl (by decide) (by decide) ?_
  exact ⟨_, rfl, A9⟩
theorem d3_0 : decode jdk_42_method_149_code 0 = .ok (.aload_n 0, 1) := by decide +kernel
theorem d3_1 : decode jdk_42_method_149_code 1 = .ok (.invokespecial 1, 3) := by decide +kernel
theorem d3_4 : decode jdk_42_method_149_code 4 = .ok (.iload_n 3, 1) := by decide +kernel
theorem d3_5 : decode jdk_42_method_149_code 5 = .ok (.ifCond .ne 22, 3) := by decide +kernel
theorem d3_27 : decode jdk_42_method_149_code 27 = .ok (.getstatic 38, 3) := by decide +kernel
theorem d3_30 : decode jdk_42_method_149_code 30 = .ok (.ifCond .eq 28, 3) := by decide +kernel
theorem d3_33 : decode jdk_42_method_149_code 33 = .ok (.aload_n 1, 1) := by decide +kernel
theorem d3_34 : decode jdk_42_method_149_code 34 = .ok (.iload_n 2, 1) := by decide +kernel
theorem d3_35 : decode jdk_42_method_149_code 35 = .ok (.iload_n 3, 1) := by decide +kernel
theorem d3_36 : decode jdk_42_method_149_code 36 = .ok (.invokestatic 177, 3) := by decide +kernel
theorem pd_1 : parseMethodDescriptor "([CII)[B" = some ⟨[(.array .char), .int, .int], some (.array .byte)⟩ := by decide +kernel
theorem d3_39 : decode jdk_42_method_149_code 39 = .ok (.astore 5, 2) := by decide +kernel
theorem d3_41 : decode jdk_42_method_149_code 41 = .ok (.aload_n 0, 1) := by decide +kernel
theorem d3_42 : decode jdk_42_method_149_code 42 = .ok (.aload 5, 2) := by decide +kernel
theorem d3_44 : decode jdk_42_method_149_code 44 = .ok (.iload_n 3, 1) := by decide +kernel
theorem d3_45 : decode jdk_42_method_149_code 45 = .ok (.invokestatic 47, 3) := by decide +kernel
theorem pd_2 : parseMethodDescriptor "([BI)B" = some ⟨[(.array .byte), .int], some .byte⟩ := by decide +kernel
theorem d3_48 : decode jdk_42_method_149_code 48 = .ok (.putfield 15, 3) := by decide +kernel
theorem d3_51 : decode jdk_42_method_149_code 51 = .ok (.aload_n 0, 1) := by decide +kernel
theorem d3_52 : decode jdk_42_method_149_code 52 = .ok (.aload 5, 2) := by decide +kernel
theorem d3_54 : decode jdk_42_method_149_code 54 = .ok (.putfield 9, 3) := by decide +kernel
theorem d3_57 : decode jdk_42_method_149_code 57 = .ok (.return_, 1) := by decide +kernel
theorem pn_java_lang_String : plainName "java/lang/String" = true := by first | (simp [plainName, overriddenIn]; done) | decide +kernel
abbrev rm_con_strInit4 : Room := { frames := 2, cells := 1, slots := 2, locals := 35 }
set_option maxRecDepth 65536 in
set_option maxHeartbeats 40000000 in
theorem con_strInit4 (l : Launch) {Z : State} {a0 : Array Value} (hw : ∀ d ∈ tables_1, d.before a0 Z = true) {n0 : Nat} {h0 : Heap} {a b : Addr} {cs : List Int32} (E : Exa Z h0 a "java/lang/String") (FV : Fld Z h0 a "java/lang/String" "value" "[B" .null) (FC : Fld Z h0 a "java/lang/String" "coder" "B" (.int 0)) (A : IA Z h0 b .char cs) (hcap : cs.length ≤ 2) (hlat : ∀ c ∈ cs, 0 ≤ c.toInt ∧ c.toInt < 256) (hne : cs ≠ []) (HC : Cst Z) :
    Con l Z false ELs n0 (⟨"java/lang/String", "<init>", "([CIILjava/lang/Void;)V"⟩ : MethodName) jdk_42_method_149_code 6 none rm_con_strInit4 [] #[(.ref a), (.ref b), (.int 0), (.int cs.length.toInt32), .null] h0 [a] (fun v h => v = none ∧ Lat Z h a cs) := by
  refine Con.intro (plainFor_of_name pn_java_lang_String) (hELs hw) ?_
  intro p e s m below meth c hh G
  refine castRun (g' := mkF m 0 #[.val (.ref a), .val (.ref b), .val (.int 0), .val (.int cs.length.toInt32), .val .null, .unset] []) (by first | rfl | (simp [entryFrame, mkF, argsToLocals, Value.category, maxLocals]; done)) ?_
  obtain ⟨cz, SC, hcz⟩ := HC
  have hl := A.len
  have hz : ¬ cs.length.toInt32 = 0 := fun q => hne (List.length_eq_zero_iff.mp ((toI_eq (k := 0) hl (by decide)).mp q))
  refine GoKit.aloadN G d3_0 rfl rfl (pc' := 1) rfl ?_
  refine GoKit.initObj G d3_1 (wi hw 15 rfl) (wi hw 16 rfl) (wi hw 17 rfl) rfl (by decide) (W := 0) (Nat.le_of_eq rfl) (by decide) (pc' := 4) rfl ?_
  refine GoKit.iloadN G d3_4 rfl (pc' := 5) rfl ?_
  refine GoKit.if_ne_t G d3_5 hz (by decide) (pc' := 27) rfl ?_
  refine GoKit.gets G d3_27 (wi hw 18 rfl) Via.refl SC (pc' := 30) rfl ?_
  refine GoKit.if_eq_f G d3_30 hcz (pc' := 33) rfl ?_
  refine GoKit.aloadN G d3_33 rfl rfl (pc' := 34) rfl ?_
  refine GoKit.iloadN G d3_34 rfl (pc' := 35) rfl ?_
  refine GoKit.iloadN G d3_35 rfl (pc' := 36) rfl ?_
  refine GoKit.callStatic G d3_36 (wi hw 19 rfl) (wi hw 20 rfl) (wi hw 21 rfl) (wi hw 22 rfl) (by decide) (owc := []) (W := 0) (argsL := [(.ref b), (.int 0), (.int cs.length.toInt32)]) (rest := []) (con_compress3 l hw A hcap hlat) rfl (lenOf pd_1 rfl) rfl (by decide) (Nat.le_of_eq rfl) (by decide) (by decide) (by decide) (fun _ q => nomatch q) (cells' := 1) (slots' := 2) rfl rfl (pc' := 39) rfl (fun r1 h4 q2 K3 => ?_)
  obtain ⟨d5, rfl, A6⟩ := q2
  have ne7 := IA.ne A6 (E.keep K3) (wi hw 6 rfl)
  show Run _ _ _ _ _ _ _ _ _ _ _ _ _ _ _ _ _ _ _ _ (mkF m 39 #[.val (.ref a), .val (.ref b), .val (.int 0), .val (.int cs.length.toInt32), .val .null, .unset] [(.ref d5)])
  refine GoKit.astore G d3_39 rfl (Ls' := #[.val (.ref a), .val (.ref b), .val (.int 0), .val (.int cs.length.toInt32), .val .null, .val (.ref d5)]) rfl (pc' := 41) rfl ?_
  refine GoKit.aloadN G d3_41 rfl rfl (pc' := 42) rfl ?_
  refine GoKit.aload G d3_42 rfl rfl (pc' := 44) rfl ?_
  refine GoKit.iloadN G d3_44 rfl (pc' := 45) rfl ?_
  refine GoKit.callStaticP G d3_45 (wi hw 27 rfl) (wi hw 28 rfl) (wi hw 21 rfl) (wi hw 29 rfl) (by decide) (W := 1) (argsL := [(.ref d5), (.int cs.length.toInt32)]) (rest := [(.ref a)]) ((by simpa using con_coderLen l hw A6)) rfl (lenOf pd_2 rfl) rfl (by decide) (Nat.le_of_eq rfl) (by decide) (by decide) (by decide) (cells' := 1) (slots' := 2) rfl rfl (pc' := 48) rfl ?_
  show Run _ _ _ _ _ _ _ _ _ _ _ _ _ _ _ _ _ _ _ _ (mkF m 48 #[.val (.ref a), .val (.ref b), .val (.int 0), .val (.int cs.length.toInt32), .val .null, .val (.ref d5)] [(.int 0), (.ref a)])
  refine GoKit.putf G d3_48 (wi hw 30 rfl) Via.refl (FC.keep K3 nin0) (E.keep K3) (Or.inr ⟨(wi hw 31 rfl), rfl, rfl⟩) (wi hw 6 rfl) (ty := .byte) (by decide) rfl rfl (List.Mem.head _) (pc' := 51) rfl (fun h9 W8 => ?_)
  have F10 := ((FC.keep K3 nin0)).same W8
  refine GoKit.aloadN G d3_51 rfl rfl (pc' := 52) rfl ?_
  refine GoKit.aload G d3_52 rfl rfl (pc' := 54) rfl ?_
  refine GoKit.putf G d3_54 (wi hw 32 rfl) Via.refl ((FV.keep K3 nin0).other W8 (Or.inr (slot_ne (Or.inr (wi hw 33 rfl)) (Or.inr (wi hw 31 rfl)) (by decide) (by decide : _ = some (.array .byte)) (by decide : _ = some .byte)))) ((E.keep K3).wr W8) (Or.inr ⟨(wi hw 33 rfl), rfl, rfl⟩) (wi hw 6 rfl) (ty := (.array .byte)) (by decide) rfl rfl (List.Mem.head _) (pc' := 57) rfl (fun h12 W11 => ?_)
  have F13 := (((FV.keep K3 nin0).other W8 (Or.inr (slot_ne (Or.inr (wi hw 33 rfl)) (Or.inr (wi hw 31 rfl)) (by decide) (by decide : _ = some (.array .byte)) (by decide : _ = some .byte))))).same W11
  refine GoKit.retVoid G d3_57 rfl (by decide) (by decide) ?_
  exact ⟨rfl, (((E.keep K3).wr W8).wr W11), ⟨d5, F13, (F10.other W11 (Or.inr (slot_ne (Or.inr (wi hw 31 rfl)) (Or.inr (wi hw 33 rfl)) (by decide) (by decide : _ = some .byte) (by decide : _ = some (.array .byte))))), ((A6.other W8 ne7).other W11 ne7)⟩, hlat⟩
theorem d2_0 : decode jdk_42_method_3_code 0 = .ok (.aload_n 0, 1) := by decide +kernel
theorem d2_1 : decode jdk_42_method_3_code 1 = .ok (.aload_n 1, 1) := by decide +kernel
theorem d2_2 : decode jdk_42_method_3_code 2 = .ok (.iconst 0, 1) := by decide +kernel
theorem d2_3 : decode jdk_42_method_3_code 3 = .ok (.aload_n 1, 1) := by decide +kernel
theorem d2_4 : decode jdk_42_method_3_code 4 = .ok (.arraylength, 1) := by decide +kernel
theorem d2_5 : decode jdk_42_method_3_code 5 = .ok (.aconst_null, 1) := by decide +kernel
theorem d2_6 : decode jdk_42_method_3_code 6 = .ok (.invokespecial 27, 3) := by decide +kernel
theorem pd_3 : parseMethodDescriptor "([CIILjava/lang/Void;)V" = some ⟨[(.array .char), .int, .int, (.object "java/lang/Void")], none⟩ := by decide +kernel
theorem d2_9 : decode jdk_42_method_3_code 9 = .ok (.return_, 1) := by decide +kernel
abbrev rm_con_strInit : Room := { frames := 3, cells := 1, slots := 2, locals := 52 }
set_option maxRecDepth 65536 in
set_option maxHeartbeats 40000000 in
theorem con_strInit (l : Launch) {Z : State} {a0 : Array Value} (hw : ∀ d ∈ tables_1, d.before a0 Z = true) {n0 : Nat} {h0 : Heap} {a b : Addr} {cs : List Int32} (E : Exa Z h0 a "java/lang/String") (FV : Fld Z h0 a "java/lang/String" "value" "[B" .null) (FC : Fld Z h0 a "java/lang/String" "coder" "B" (.int 0)) (A : IA Z h0 b .char cs) (hcap : cs.length ≤ 2) (hlat : ∀ c ∈ cs, 0 ≤ c.toInt ∧ c.toInt < 256) (hne : cs ≠ []) (HC : Cst Z) :
    Con l Z false ELs n0 (⟨"java/lang/String", "<init>", "([C)V"⟩ : MethodName) jdk_42_method_3_code 2 none rm_con_strInit [] #[(.ref a), (.ref b)] h0 [a] (fun v h => v = none ∧ Lat Z h a cs) := by
  refine Con.intro (plainFor_of_name pn_java_lang_String) (hELs hw) ?_
  intro p e s m below meth c hh G
  refine castRun (g' := mkF m 0 #[.val (.ref a), .val (.ref b)] []) (by first | rfl | (simp [entryFrame, mkF, argsToLocals, Value.category, maxLocals]; done)) ?_
  refine GoKit.aloadN G d2_0 rfl rfl (pc' := 1) rfl ?_
  refine GoKit.aloadN G d2_1 rfl rfl (pc' := 2) rfl ?_
  refine GoKit.iconst G (0 : Int32) d2_2 rfl (pc' := 3) rfl ?_
  refine GoKit.aloadN G d2_3 rfl rfl (pc' := 4) rfl ?_
  refine GoKit.arrlenI G d2_4 A (z := cs.length.toInt32) rfl (pc' := 5) rfl ?_
  refine GoKit.aconstNull G d2_5 (pc' := 6) rfl ?_
  refine GoKit.callSpecial G d2_6 rfl (wi hw 11 rfl) (wi hw 12 rfl) (wi hw 7 rfl) (wi hw 14 rfl) (by decide) (owc := [a]) (W := 0) (argsL := [(.ref b), (.int (0 : Int32)), (.int cs.length.toInt32), .null]) (rest := []) (con_strInit4 l hw E FV FC A hcap hlat hne HC) rfl (lenOf pd_3 rfl) rfl (by decide) (Nat.le_of_eq rfl) (by decide) (by decide) (by decide) (by intro x hx; simp only [List.mem_cons, List.not_mem_nil, or_false] at hx ⊢; simp [hx]) (cells' := 1) (slots' := 2) rfl rfl (pc' := 9) rfl (fun r1 h4 q2 K3 => ?_)
  obtain ⟨rfl, S5⟩ := q2
  show Run _ _ _ _ _ _ _ _ _ _ _ _ _ _ _ _ _ _ _ _ (mkF m 9 #[.val (.ref a), .val (.ref b)] [])
  refine GoKit.retVoid G d2_9 rfl (by decide) (by decide) ?_
  exact ⟨rfl, S5⟩
theorem fld_uniq {Z : State} {h : Heap} {a : Addr} {C n d : String} {v w : Value} (F : Fld Z h a C n d v) (G : Fld Z h a C n d w) : v = w := by
  obtain ⟨c1, _, _, _, _, h1, h2, -, -, -, -, h7⟩ := F
  obtain ⟨c2, _, _, _, _, g1, g2, -, -, -, -, g7⟩ := G
  cases h1.symm.trans g1; cases h2.symm.trans g2; exact Option.some.inj (h7.symm.trans g7)
theorem map_int_inj : ∀ {xs ys : List Int32}, xs.map Value.int = ys.map Value.int → xs = ys
  | [], [], _ => rfl
  | [], _ :: _, q => by cases q
  | _ :: _, [], q => by cases q
  | x :: xs, z :: ys, q => by
    simp only [List.map_cons, List.cons.injEq, Value.int.injEq] at q
    rw [q.1, map_int_inj q.2]
theorem ia_uniq {Z : State} {h : Heap} {b : Addr} {t u : FieldType} {xs ys : List Int32} (A : IA Z h b t xs) (B : IA Z h b u ys) : xs = ys := by
  obtain ⟨c1, A, e1, -⟩ := A
  obtain ⟨c2, B, e2, -⟩ := B
  cases A.1.symm.trans B.1
  have := e1.symm.trans e2
  exact map_int_inj (by simpa using this)
theorem lo8_mask0 (c : Int32) (h : 0 ≤ c.toInt ∧ c.toInt < 256) : c.toInt8.toInt32 &&& 255 = c := by
  obtain ⟨n, hn, rfl⟩ : ∃ n : Nat, n < 256 ∧ c = Int32.ofNat n := by
    refine ⟨c.toInt.toNat, by omega, ?_⟩
    apply Int32.toInt_inj.mp
    rw [show Int32.ofNat c.toInt.toNat = c.toInt.toNat.toInt32 from rfl, toI_toInt (by omega)]; omega
  revert n; decide +kernel
theorem lo8_inj : ∀ {cs ds : List Int32}, (∀ c ∈ cs, 0 ≤ c.toInt ∧ c.toInt < 256) → (∀ c ∈ ds, 0 ≤ c.toInt ∧ c.toInt < 256) → (cs.map fun c => c.toInt8.toInt32) = (ds.map fun c => c.toInt8.toInt32) → cs = ds
  | [], [], _, _, _ => rfl
  | [], _ :: _, _, _, q => by cases q
  | _ :: _, [], _, _, q => by cases q
  | c :: cs, d :: ds, h1, h2, q => by
    simp only [List.map_cons, List.cons.injEq] at q
    have e : c = d := by
      rw [← lo8_mask0 c (h1 c (List.Mem.head _)), ← lo8_mask0 d (h2 d (List.Mem.head _)), q.1]
    rw [e, lo8_inj (fun x hx => h1 x (List.Mem.tail _ hx)) (fun x hx => h2 x (List.Mem.tail _ hx)) q.2]
theorem lat_uniq {Z : State} {h : Heap} {a : Addr} {cs ds : List Int32} (S : Lat Z h a cs) (T : Lat Z h a ds) : cs = ds := by
  obtain ⟨-, ⟨b, V, -, A⟩, l1⟩ := S
  obtain ⟨-, ⟨d, U, -, B⟩, l2⟩ := T
  cases fld_uniq V U
  exact lo8_inj l1 l2 (ia_uniq A B)
theorem take_step {xs ys : List Int32} {i : Nat} {v : Int32} (h : xs.take i = ys.take i) (h1 : xs[i]? = some v) (h2 : ys[i]? = some v) : xs.take (i + 1) = ys.take (i + 1) := by
  rw [List.take_add_one, List.take_add_one, h, h1, h2]
theorem d16_9 : decode jdk_43_method_13_code 9 = .ok (.iload_n 2, 1) := by decide +kernel
theorem d16_10 : decode jdk_43_method_13_code 10 = .ok (.aload_n 0, 1) := by decide +kernel
theorem d16_11 : decode jdk_43_method_13_code 11 = .ok (.arraylength, 1) := by decide +kernel
theorem d16_12 : decode jdk_43_method_13_code 12 = .ok (.if_icmp .ge 20, 3) := by decide +kernel
theorem d16_32 : decode jdk_43_method_13_code 32 = .ok (.iconst 1, 1) := by decide +kernel
theorem d16_33 : decode jdk_43_method_13_code 33 = .ok (.ireturn, 1) := by decide +kernel
theorem d16_15 : decode jdk_43_method_13_code 15 = .ok (.aload_n 0, 1) := by decide +kernel
theorem d16_16 : decode jdk_43_method_13_code 16 = .ok (.iload_n 2, 1) := by decide +kernel
theorem d16_17 : decode jdk_43_method_13_code 17 = .ok (.baload, 1) := by decide +kernel
theorem d16_18 : decode jdk_43_method_13_code 18 = .ok (.aload_n 1, 1) := by decide +kernel
theorem d16_19 : decode jdk_43_method_13_code 19 = .ok (.iload_n 2, 1) := by decide +kernel
theorem d16_20 : decode jdk_43_method_13_code 20 = .ok (.baload, 1) := by decide +kernel
theorem d16_21 : decode jdk_43_method_13_code 21 = .ok (.if_icmp .eq 5, 3) := by decide +kernel
theorem d16_26 : decode jdk_43_method_13_code 26 = .ok (.iinc 2 1, 3) := by decide +kernel
theorem d16_29 : decode jdk_43_method_13_code 29 = .ok (.goto (-20), 3) := by decide +kernel
theorem d16_24 : decode jdk_43_method_13_code 24 = .ok (.iconst 0, 1) := by decide +kernel
theorem d16_25 : decode jdk_43_method_13_code 25 = .ok (.ireturn, 1) := by decide +kernel
theorem d16_0 : decode jdk_43_method_13_code 0 = .ok (.aload_n 0, 1) := by decide +kernel
theorem d16_1 : decode jdk_43_method_13_code 1 = .ok (.arraylength, 1) := by decide +kernel
theorem d16_2 : decode jdk_43_method_13_code 2 = .ok (.aload_n 1, 1) := by decide +kernel
theorem d16_3 : decode jdk_43_method_13_code 3 = .ok (.arraylength, 1) := by decide +kernel
theorem d16_4 : decode jdk_43_method_13_code 4 = .ok (.if_icmp .ne 30, 3) := by decide +kernel
theorem d16_34 : decode jdk_43_method_13_code 34 = .ok (.iconst 0, 1) := by decide +kernel
theorem d16_35 : decode jdk_43_method_13_code 35 = .ok (.ireturn, 1) := by decide +kernel
theorem d16_7 : decode jdk_43_method_13_code 7 = .ok (.iconst 0, 1) := by decide +kernel
theorem d16_8 : decode jdk_43_method_13_code 8 = .ok (.istore_n 2, 1) := by decide +kernel
theorem pn_java_lang_StringLatin1 : plainName "java/lang/StringLatin1" = true := by first | (simp [plainName, overriddenIn]; done) | decide +kernel
abbrev rm_con_latEq : Room := { frames := 0, cells := 0, slots := 0, locals := 0 }
set_option maxRecDepth 65536 in
set_option maxHeartbeats 40000000 in
theorem con_latEq (l : Launch) {Z : State} {a0 : Array Value} (hw : ∀ d ∈ tables_1, d.before a0 Z = true) {n0 : Nat} {h0 : Heap} {b d : Addr} {xs ys : List Int32} (A : IA Z h0 b .byte xs) (B : IA Z h0 d .byte ys) :
    Con l Z false ELs n0 (⟨"java/lang/StringLatin1", "equals", "([B[B)Z"⟩ : MethodName) jdk_43_method_13_code 3 (some .boolean) rm_con_latEq [] #[(.ref b), (.ref d)] h0 [] (fun v h => v = some (.int (if xs = ys then 1 else 0)) ∧ h = h0) := by
  refine Con.intro (plainFor_of_name pn_java_lang_StringLatin1) (hELs hw) ?_
  intro p e s m below meth c hh G
  refine castRun (g' := mkF m 0 #[.val (.ref b), .val (.ref d), .unset] []) (by first | rfl | (simp [entryFrame, mkF, argsToLocals, Value.category, maxLocals]; done)) ?_
  have hl := A.len
  have hl2 := B.len
  have loop : xs.length = ys.length → ∀ (k i : Nat), i + k = xs.length → xs.take i = ys.take i →
      Run p l e rm_con_latEq s m #[.ref b, .ref d] below meth c Z false ELs n0 [] (fun v h => v = some (.int (if xs = ys then 1 else 0)) ∧ h = h0) h0 [] 0 0 (mkF m 9 #[.val (.ref b), .val (.ref d), .val (.int i.toInt32)] []) := by
    intro hxy k; induction k with
    | zero =>
      intro i hik htk
      have hi : i = xs.length := by omega
      subst hi
      refine GoKit.iloadN G d16_9 rfl (pc' := 10) rfl ?_
      refine GoKit.aloadN G d16_10 rfl rfl (pc' := 11) rfl ?_
      refine GoKit.arrlenI G d16_11 A (z := xs.length.toInt32) rfl (pc' := 12) rfl ?_
      refine GoKit.icmp_ge_t G d16_12 Int32.lt_irrefl (by decide) (pc' := 32) rfl ?_
      refine GoKit.iconst G (1 : Int32) d16_32 rfl (pc' := 33) rfl ?_
      refine GoKit.retNar G d16_33 (t := .boolean) rfl (by simp) (by decide) (by decide) ?_
      exact ⟨by rw [if_pos (by rw [List.take_length] at htk; rw [htk, hxy, List.take_length])]; rfl, rfl⟩
    | succ k ih =>
      intro i hik htk
      have hi : i < xs.length := by omega
      obtain ⟨u, hu⟩ : ∃ u, xs[i]? = some u := ⟨xs[i], List.getElem?_eq_getElem hi⟩
      obtain ⟨t, ht⟩ : ∃ t, ys[i]? = some t := ⟨ys[i], List.getElem?_eq_getElem (by omega)⟩
      refine GoKit.iloadN G d16_9 rfl (pc' := 10) rfl ?_
      refine GoKit.aloadN G d16_10 rfl rfl (pc' := 11) rfl ?_
      refine GoKit.arrlenI G d16_11 A (z := xs.length.toInt32) rfl (pc' := 12) rfl ?_
      refine GoKit.icmp_ge_f G d16_12 ((toI_lt (by omega) (by omega)).mpr hi) (pc' := 15) rfl ?_
      refine GoKit.aloadN G d16_15 rfl rfl (pc' := 16) rfl ?_
      refine GoKit.iloadN G d16_16 rfl (pc' := 17) rfl ?_
      refine GoKit.baloadI G d16_17 A (i := i) (toI_clamp (by omega)) (toI_nn (by omega)) (x := u) hu (pc' := 18) rfl ?_
      refine GoKit.aloadN G d16_18 rfl rfl (pc' := 19) rfl ?_
      refine GoKit.iloadN G d16_19 rfl (pc' := 20) rfl ?_
      refine GoKit.baloadI G d16_20 B (i := i) (toI_clamp (by omega)) (toI_nn (by omega)) (x := t) ht (pc' := 21) rfl ?_
      refine GoKit.icmp_eq G d16_21 (by decide) (pt := 26) (pf := 24) rfl rfl (fun hb1 => ?_) (fun hb1 => ?_)
      · refine GoKit.iinc G (1 : Int32) d16_26 rfl rfl (Ls' := #[.val (.ref b), .val (.ref d), .val (.int (i.toInt32 + (1 : Int32)))]) rfl (pc' := 29) rfl ?_
        generalize hqv2 : (i.toInt32 + (1 : Int32)) = v2
        refine GoKit.goto G d16_29 (by decide) (pc' := 9) rfl ?_
        rw [toI_succ] at hqv2; subst hqv2
        exact ih (i + 1) (by omega) (take_step htk hu (by rw [ht, hb1]))
      · refine GoKit.iconst G (0 : Int32) d16_24 rfl (pc' := 25) rfl ?_
        refine GoKit.retNar G d16_25 (t := .boolean) rfl (by simp) (by decide) (by decide) ?_
        exact ⟨by rw [if_neg (fun q => hb1 (by subst q; exact Option.some.inj (hu.symm.trans ht)))]; rfl, rfl⟩
  refine GoKit.aloadN G d16_0 rfl rfl (pc' := 1) rfl ?_
  refine GoKit.arrlenI G d16_1 A (z := xs.length.toInt32) rfl (pc' := 2) rfl ?_
  refine GoKit.aloadN G d16_2 rfl rfl (pc' := 3) rfl ?_
  refine GoKit.arrlenI G d16_3 B (z := ys.length.toInt32) rfl (pc' := 4) rfl ?_
  refine GoKit.icmp_ne G d16_4 (by decide) (pt := 34) (pf := 7) rfl rfl (fun hb3 => ?_) (fun hb3 => ?_)
  · refine GoKit.iconst G (0 : Int32) d16_34 rfl (pc' := 35) rfl ?_
    refine GoKit.retNar G d16_35 (t := .boolean) rfl (by simp) (by decide) (by decide) ?_
    exact ⟨by rw [if_neg (fun q => hb3 (by rw [q]))]; rfl, rfl⟩
  · refine GoKit.iconst G (0 : Int32) d16_7 rfl (pc' := 8) rfl ?_
    refine GoKit.istoreN G d16_8 (Ls' := #[.val (.ref b), .val (.ref d), .val (.int (0 : Int32))]) rfl (pc' := 9) rfl ?_
    exact loop ((toI_eq hl hl2).mp hb3) xs.length 0 (by omega) rfl
theorem d15_0 : decode jdk_42_method_66_code 0 = .ok (.aload_n 0, 1) := by decide +kernel
theorem d15_1 : decode jdk_42_method_66_code 1 = .ok (.aload_n 1, 1) := by decide +kernel
theorem d15_2 : decode jdk_42_method_66_code 2 = .ok (.if_acmp .ne 5, 3) := by decide +kernel
theorem d15_7 : decode jdk_42_method_66_code 7 = .ok (.aload_n 1, 1) := by decide +kernel
theorem d15_8 : decode jdk_42_method_66_code 8 = .ok (.instanceof 10, 3) := by decide +kernel
theorem d15_11 : decode jdk_42_method_66_code 11 = .ok (.ifCond .eq 43, 3) := by decide +kernel
theorem d15_14 : decode jdk_42_method_66_code 14 = .ok (.aload_n 1, 1) := by decide +kernel
theorem d15_15 : decode jdk_42_method_66_code 15 = .ok (.checkcast 10, 3) := by decide +kernel
theorem d15_18 : decode jdk_42_method_66_code 18 = .ok (.astore_n 2, 1) := by decide +kernel
theorem d15_19 : decode jdk_42_method_66_code 19 = .ok (.getstatic 38, 3) := by decide +kernel
theorem d15_22 : decode jdk_42_method_66_code 22 = .ok (.ifCond .eq 14, 3) := by decide +kernel
theorem d15_25 : decode jdk_42_method_66_code 25 = .ok (.aload_n 0, 1) := by decide +kernel
theorem d15_26 : decode jdk_42_method_66_code 26 = .ok (.getfield 15, 3) := by decide +kernel
theorem d15_29 : decode jdk_42_method_66_code 29 = .ok (.aload_n 2, 1) := by decide +kernel
theorem d15_30 : decode jdk_42_method_66_code 30 = .ok (.getfield 15, 3) := by decide +kernel
theorem d15_33 : decode jdk_42_method_66_code 33 = .ok (.if_icmp .ne 21, 3) := by decide +kernel
theorem d15_36 : decode jdk_42_method_66_code 36 = .ok (.aload_n 0, 1) := by decide +kernel
theorem d15_37 : decode jdk_42_method_66_code 37 = .ok (.getfield 9, 3) := by decide +kernel
theorem d15_40 : decode jdk_42_method_66_code 40 = .ok (.aload_n 2, 1) := by decide +kernel
theorem d15_41 : decode jdk_42_method_66_code 41 = .ok (.getfield 9, 3) := by decide +kernel
theorem d15_44 : decode jdk_42_method_66_code 44 = .ok (.invokestatic 541, 3) := by decide +kernel
theorem pd_4 : parseMethodDescriptor "([B[B)Z" = some ⟨[(.array .byte), (.array .byte)], some .boolean⟩ := by decide +kernel
theorem d15_47 : decode jdk_42_method_66_code 47 = .ok (.ifCond .eq 7, 3) := by decide +kernel
theorem d15_54 : decode jdk_42_method_66_code 54 = .ok (.iconst 0, 1) := by decide +kernel
theorem d15_55 : decode jdk_42_method_66_code 55 = .ok (.ireturn, 1) := by decide +kernel
theorem d15_50 : decode jdk_42_method_66_code 50 = .ok (.iconst 1, 1) := by decide +kernel
theorem d15_51 : decode jdk_42_method_66_code 51 = .ok (.goto 4, 3) := by decide +kernel
abbrev rm_con_equalsNe : Room := { frames := 1, cells := 0, slots := 0, locals := 14 }
set_option maxRecDepth 65536 in
set_option maxHeartbeats 40000000 in
theorem con_equalsNe (l : Launch) {Z : State} {a0 : Array Value} (hw : ∀ d ∈ tables_1, d.before a0 Z = true) {n0 : Nat} {h0 : Heap} {a a1 : Addr} {cs ds : List Int32} (S : Lat Z h0 a cs) (S1 : Lat Z h0 a1 ds) (HC : Cst Z) (hab : a ≠ a1) :
    Con l Z false ELs n0 (⟨"java/lang/String", "equals", "(Ljava/lang/Object;)Z"⟩ : MethodName) jdk_42_method_66_code 3 (some .boolean) rm_con_equalsNe [] #[(.ref a), (.ref a1)] h0 [] (fun v h => v = some (.int (if cs = ds then 1 else 0)) ∧ h = h0) := by
  refine Con.intro (plainFor_of_name pn_java_lang_String) (hELs hw) ?_
  intro p e s m below meth c hh G
  refine castRun (g' := mkF m 0 #[.val (.ref a), .val (.ref a1), .unset] []) (by first | rfl | (simp [entryFrame, mkF, argsToLocals, Value.category, maxLocals]; done)) ?_
  obtain ⟨E, ⟨b, FV, FC, A⟩, hlat⟩ := id S
  obtain ⟨E1, ⟨b1, FV1, FC1, A1⟩, hlat1⟩ := id S1
  obtain ⟨cz, SC, hcz⟩ := id HC
  refine GoKit.aloadN G d15_0 rfl rfl (pc' := 1) rfl ?_
  refine GoKit.aloadN G d15_1 rfl rfl (pc' := 2) rfl ?_
  refine GoKit.acmp_ne_t G d15_2 rfl rfl (fun q => hab (Value.ref.inj q)) (by decide) (pc' := 7) rfl ?_
  refine GoKit.aloadN G d15_7 rfl rfl (pc' := 8) rfl ?_
  refine GoKit.instYes G d15_8 (wi hw 87 rfl) (Ins.self E1) (pc' := 11) rfl ?_
  refine GoKit.if_eq_f G d15_11 (by decide) (pc' := 14) rfl ?_
  refine GoKit.aloadN G d15_14 rfl rfl (pc' := 15) rfl ?_
  refine GoKit.castOk G d15_15 (wi hw 87 rfl) (Ins.self E1) (pc' := 18) rfl ?_
  refine GoKit.astoreN G d15_18 rfl (Ls' := #[.val (.ref a), .val (.ref a1), .val (.ref a1)]) rfl (pc' := 19) rfl ?_
  refine GoKit.gets G d15_19 (wi hw 18 rfl) Via.refl SC (pc' := 22) rfl ?_
  refine GoKit.if_eq_f G d15_22 hcz (pc' := 25) rfl ?_
  refine GoKit.aloadN G d15_25 rfl rfl (pc' := 26) rfl ?_
  refine GoKit.getf G d15_26 (wi hw 30 rfl) Via.refl FC (pc' := 29) rfl ?_
  refine GoKit.aloadN G d15_29 rfl rfl (pc' := 30) rfl ?_
  refine GoKit.getf G d15_30 (wi hw 30 rfl) Via.refl FC1 (pc' := 33) rfl ?_
  refine GoKit.icmp_ne_f G d15_33 rfl (pc' := 36) rfl ?_
  refine GoKit.aloadN G d15_36 rfl rfl (pc' := 37) rfl ?_
  refine GoKit.getf G d15_37 (wi hw 32 rfl) Via.refl FV (pc' := 40) rfl ?_
  refine GoKit.aloadN G d15_40 rfl rfl (pc' := 41) rfl ?_
  refine GoKit.getf G d15_41 (wi hw 32 rfl) Via.refl FV1 (pc' := 44) rfl ?_
  refine GoKit.callStaticP G d15_44 (wi hw 88 rfl) (wi hw 89 rfl) (wi hw 90 rfl) (wi hw 91 rfl) (by decide) (W := 0) (argsL := [(.ref b), (.ref b1)]) (rest := []) (con_latEq l hw A A1) rfl (lenOf pd_4 rfl) rfl (by decide) (Nat.le_of_eq rfl) (by decide) (by decide) (by decide) (cells' := 0) (slots' := 0) rfl rfl (pc' := 47) rfl ?_
  show Run _ _ _ _ _ _ _ _ _ _ _ _ _ _ _ _ _ _ _ _ (mkF m 47 #[.val (.ref a), .val (.ref a1), .val (.ref a1)] [(.int (if (cs.map fun c => c.toInt8.toInt32) = (ds.map fun c => c.toInt8.toInt32) then 1 else 0))])
  refine GoKit.if_eq G d15_47 (by decide) (pt := 54) (pf := 50) rfl rfl (fun hb1 => ?_) (fun hb1 => ?_)
  · refine GoKit.iconst G (0 : Int32) d15_54 rfl (pc' := 55) rfl ?_
    refine GoKit.retNar G d15_55 (t := .boolean) rfl (by simp) (by decide) (by decide) ?_
    exact ⟨by rw [if_neg (fun q => by rw [q, if_pos rfl] at hb1; exact absurd hb1 (by decide))]; rfl, rfl⟩
  · refine GoKit.iconst G (1 : Int32) d15_50 rfl (pc' := 51) rfl ?_
    refine GoKit.goto G d15_51 (by decide) (pc' := 55) rfl ?_
    refine GoKit.retNar G d15_55 (t := .boolean) rfl (by simp) (by decide) (by decide) ?_
    exact ⟨by rw [if_pos (Classical.byContradiction fun q => hb1 (if_neg fun z => q (lo8_inj hlat hlat1 z)))]; rfl, rfl⟩
theorem d15_5 : decode jdk_42_method_66_code 5 = .ok (.iconst 1, 1) := by decide +kernel
theorem d15_6 : decode jdk_42_method_66_code 6 = .ok (.ireturn, 1) := by decide +kernel
set_option maxRecDepth 65536 in
set_option maxHeartbeats 40000000 in
theorem con_equalsSelf (l : Launch) {Z : State} {a0 : Array Value} (hw : ∀ d ∈ tables_1, d.before a0 Z = true) {n0 : Nat} {h0 : Heap} {a : Addr} :
    Con l Z false ELs n0 (⟨"java/lang/String", "equals", "(Ljava/lang/Object;)Z"⟩ : MethodName) jdk_42_method_66_code 3 (some .boolean) rm_con_equalsNe [] #[(.ref a), (.ref a)] h0 [] (fun v h => v = some (.int 1) ∧ h = h0) := by
  refine Con.intro (plainFor_of_name pn_java_lang_String) (hELs hw) ?_
  intro p e s m below meth c hh G
  refine castRun (g' := mkF m 0 #[.val (.ref a), .val (.ref a), .unset] []) (by first | rfl | (simp [entryFrame, mkF, argsToLocals, Value.category, maxLocals]; done)) ?_
  refine GoKit.aloadN G d15_0 rfl rfl (pc' := 1) rfl ?_
  refine GoKit.aloadN G d15_1 rfl rfl (pc' := 2) rfl ?_
  refine GoKit.acmp_ne_f G d15_2 rfl rfl rfl (pc' := 5) rfl ?_
  refine GoKit.iconst G (1 : Int32) d15_5 rfl (pc' := 6) rfl ?_
  refine GoKit.retNar G d15_6 (t := .boolean) rfl (by simp) (by decide) (by decide) ?_
  exact ⟨rfl, rfl⟩
theorem con_equals (l : Launch) {Z : State} {a0 : Array Value} (hw : ∀ d ∈ tables_1, d.before a0 Z = true) {n0 : Nat} {h0 : Heap} {a a1 : Addr} {cs ds : List Int32} (S : Lat Z h0 a cs) (S1 : Lat Z h0 a1 ds) (HC : Cst Z) :
    Con l Z false ELs n0 (⟨"java/lang/String", "equals", "(Ljava/lang/Object;)Z"⟩ : MethodName) jdk_42_method_66_code 3 (some .boolean) rm_con_equalsNe [] #[.ref a, .ref a1] h0 [] (fun v h => v = some (.int (if cs = ds then 1 else 0)) ∧ h = h0) := by
  by_cases hab : a = a1
  · subst hab
    have e := lat_uniq S S1
    rw [if_pos e]
    exact con_equalsSelf l hw
  · exact con_equalsNe l hw S S1 HC hab
def two32 (x : Int32) : List Int32 := [(x &&& 255).toUInt32.toUInt16.toUInt32.toInt32, ((x.toUInt32 >>> ((8 : Int32) &&& 31).toUInt32).toInt32 &&& 255).toUInt32.toUInt16.toUInt32.toInt32]
def ESet (Z : State) (es : Addr) : Prop := Sta Z Z.heap "java/util/ImmutableCollections" "EMPTY_SET" "Ljava/util/ImmutableCollections$SetN;" (.ref es) ∧ Exa Z Z.heap es "java/util/ImmutableCollections$SetN"
theorem d1_0 : decode method_2_code 0 = .ok (.iconst 2, 1) := by decide +kernel
theorem d1_1 : decode method_2_code 1 = .ok (.newarray .char, 2) := by decide +kernel
theorem d1_3 : decode method_2_code 3 = .ok (.astore_n 1, 1) := by decide +kernel
theorem d1_4 : decode method_2_code 4 = .ok (.aload_n 1, 1) := by decide +kernel
theorem d1_5 : decode method_2_code 5 = .ok (.iconst 0, 1) := by decide +kernel
theorem d1_6 : decode method_2_code 6 = .ok (.iload_n 0, 1) := by decide +kernel
theorem d1_7 : decode method_2_code 7 = .ok (.sipush 255, 3) := by decide +kernel
theorem d1_10 : decode method_2_code 10 = .ok (.iand, 1) := by decide +kernel
theorem d1_11 : decode method_2_code 11 = .ok (.i2c, 1) := by decide +kernel
theorem d1_12 : decode method_2_code 12 = .ok (.castore, 1) := by decide +kernel
theorem d1_13 : decode method_2_code 13 = .ok (.aload_n 1, 1) := by decide +kernel
theorem d1_14 : decode method_2_code 14 = .ok (.iconst 1, 1) := by decide +kernel
theorem d1_15 : decode method_2_code 15 = .ok (.iload_n 0, 1) := by decide +kernel
theorem d1_16 : decode method_2_code 16 = .ok (.bipush 8, 2) := by decide +kernel
theorem d1_18 : decode method_2_code 18 = .ok (.iushr, 1) := by decide +kernel
theorem d1_19 : decode method_2_code 19 = .ok (.sipush 255, 3) := by decide +kernel
theorem d1_22 : decode method_2_code 22 = .ok (.iand, 1) := by decide +kernel
theorem d1_23 : decode method_2_code 23 = .ok (.i2c, 1) := by decide +kernel
theorem d1_24 : decode method_2_code 24 = .ok (.castore, 1) := by decide +kernel
theorem d1_25 : decode method_2_code 25 = .ok (.new 7, 3) := by decide +kernel
theorem d1_28 : decode method_2_code 28 = .ok (.dup, 1) := by decide +kernel
theorem d1_29 : decode method_2_code 29 = .ok (.aload_n 1, 1) := by decide +kernel
theorem d1_30 : decode method_2_code 30 = .ok (.invokespecial 9, 3) := by decide +kernel
theorem pd_5 : parseMethodDescriptor "([C)V" = some ⟨[(.array .char)], none⟩ := by decide +kernel
theorem d1_33 : decode method_2_code 33 = .ok (.areturn, 1) := by decide +kernel
theorem pn_com_example_lucid_rationale_lucidrationale_login_IdentityOfStaffPinLaw : plainName "com/example/lucid_rationale/lucidrationale/login/IdentityOfStaffPinLaw" = true := by first | (simp [plainName, overriddenIn]; done) | decide +kernel
abbrev rm_con_two : Room := { frames := 4, cells := 3, slots := 8, locals := 66 }
set_option maxRecDepth 65536 in
set_option maxHeartbeats 40000000 in
theorem con_two (l : Launch) {Z : State} {a0 : Array Value} (hw : ∀ d ∈ tables_1, d.before a0 Z = true) {n0 : Nat} {h0 : Heap} (n : Int32) (HC : Cst Z) :
    Con l Z false ELs n0 (⟨"com/example/lucid_rationale/lucidrationale/login/IdentityOfStaffPinLaw", "two", "(I)Ljava/lang/String;"⟩ : MethodName) method_2_code 2 (some (.object "java/lang/String")) rm_con_two [] #[(.int n)] h0 [] (fun v h => ∃ a, v = some (.ref a) ∧ Lat Z h a (two32 n)) := by
  refine Con.intro (plainFor_of_name pn_com_example_lucid_rationale_lucidrationale_login_IdentityOfStaffPinLaw) (hELs hw) ?_
  intro p e s m below meth c hh G
  refine castRun (g' := mkF m 0 #[.val (.int n), .unset] []) (by first | rfl | (simp [entryFrame, mkF, argsToLocals, Value.category, maxLocals]; done)) ?_
  refine GoKit.iconst G (2 : Int32) d1_0 rfl (pc' := 1) rfl ?_
  refine GoKit.newcI G d1_1 (wi hw 4 rfl) (by decide) (k := 2) (cap := 2) rfl (Nat.le_refl _) (by decide) (by decide) (by decide) (cells' := 1) (slots' := 2) rfl rfl (pc' := 3) rfl (fun h4 a1 ga1 E2 A3 => ?_)
  refine GoKit.astoreN G d1_3 rfl (Ls' := #[.val (.int n), .val (.ref a1)]) rfl (pc' := 4) rfl ?_
  refine GoKit.aloadN G d1_4 rfl rfl (pc' := 5) rfl ?_
  refine GoKit.iconst G (0 : Int32) d1_5 rfl (pc' := 6) rfl ?_
  refine GoKit.iloadN G d1_6 rfl (pc' := 7) rfl ?_
  refine GoKit.sipush G (255 : Int32) d1_7 rfl (pc' := 10) rfl ?_
  refine GoKit.iand G d1_10 (pc' := 11) rfl (fun v5 hqv5 => ?_)
  refine GoKit.i2c G d1_11 (pc' := 12) rfl (fun v6 hqv6 => ?_)
  have l7 := ch8 _ _ _ hqv5 hqv6
  have c8 : nar .char v6 = v6 := by rw [hqv6]; exact nar_i2c _
  refine GoKit.castI G d1_12 A3 (i := 0) rfl (by decide) (Nat.le_of_ble_eq_true rfl) c8 (List.Mem.head _) (pc' := 13) rfl (fun h11 W9 A10 => ?_)
  change IA Z h11 a1 .char [v6, 0] at A10
  refine GoKit.aloadN G d1_13 rfl rfl (pc' := 14) rfl ?_
  refine GoKit.iconst G (1 : Int32) d1_14 rfl (pc' := 15) rfl ?_
  refine GoKit.iloadN G d1_15 rfl (pc' := 16) rfl ?_
  refine GoKit.bipush G (8 : Int32) d1_16 rfl (pc' := 18) rfl ?_
  refine GoKit.iushr G d1_18 (pc' := 19) rfl (fun v12 hqv12 => ?_)
  refine GoKit.sipush G (255 : Int32) d1_19 rfl (pc' := 22) rfl ?_
  refine GoKit.iand G d1_22 (pc' := 23) rfl (fun v13 hqv13 => ?_)
  refine GoKit.i2c G d1_23 (pc' := 24) rfl (fun v14 hqv14 => ?_)
  have l15 := ch8 _ _ _ hqv13 hqv14
  have c16 : nar .char v14 = v14 := by rw [hqv14]; exact nar_i2c _
  refine GoKit.castI G d1_24 A10 (i := 1) rfl (by decide) (Nat.le_of_ble_eq_true rfl) c16 (List.Mem.head _) (pc' := 25) rfl (fun h19 W17 A18 => ?_)
  change IA Z h19 a1 .char [v6, v14] at A18
  refine GoKit.newobj G d1_25 (wi hw 5 rfl) (wi hw 6 rfl) (wi hw 7 rfl) (by decide) (by decide) (cells' := 2) (slots' := 6) rfl rfl (pc' := 28) rfl (fun h24 a20 ga20 E21 X22 D23 => ?_)
  have F25 : Fld Z h24 a20 "java/lang/String" "coder" "B" (.int 0) := D23 (Or.inr (wi hw 31 rfl)) (ty := .byte) (by decide)
  have F26 : Fld Z h24 a20 "java/lang/String" "value" "[B" .null := D23 (Or.inr (wi hw 33 rfl)) (ty := (.array .byte)) (by decide)
  refine GoKit.dup G d1_28 rfl (pc' := 29) rfl ?_
  refine GoKit.aloadN G d1_29 rfl rfl (pc' := 30) rfl ?_
  have hl27 : ∀ c ∈ ([v6, v14] : List Int32), 0 ≤ c.toInt ∧ c.toInt < 256 := by
    intro c hc
    simp only [List.mem_cons, List.not_mem_nil, or_false] at hc
    rcases hc with rfl | rfl
    · exact l7
    · exact l15
  refine GoKit.callSpecial G d1_30 rfl (wi hw 8 rfl) (wi hw 9 rfl) (wi hw 7 rfl) (wi hw 10 rfl) (by decide) (owc := [a20]) (W := 1) (argsL := [(.ref a1)]) (rest := [(.ref a20)]) (con_strInit l hw X22 F26 F25 (A18.ext E21) (Nat.le_of_ble_eq_true rfl) hl27 (by simp) HC) rfl (lenOf pd_5 rfl) rfl (by decide) (Nat.le_of_eq rfl) (by decide) (by decide) (by decide) (by intro x hx; simp only [List.mem_cons, List.not_mem_nil, or_false] at hx ⊢; simp [hx]) (cells' := 3) (slots' := 8) rfl rfl (pc' := 33) rfl (fun r28 h31 q29 K30 => ?_)
  obtain ⟨rfl, S32⟩ := q29
  show Run _ _ _ _ _ _ _ _ _ _ _ _ _ _ _ _ _ _ _ _ (mkF m 33 #[.val (.int n), .val (.ref a1)] [(.ref a20)])
  refine GoKit.retRef G d1_33 rfl rfl rfl (by decide) (by decide) ?_
  have eq2 : ([v6, v14] : List Int32) = two32 n := by subst_vars; rfl
  exact ⟨_, rfl, eq2 ▸ S32⟩
theorem d9_0 : decode jdk_96_method_17_code 0 = .ok (.getstatic 9, 3) := by decide +kernel
theorem d9_3 : decode jdk_96_method_17_code 3 = .ok (.areturn, 1) := by decide +kernel
theorem pn_java_util_Set : plainName "java/util/Set" = true := by first | (simp [plainName, overriddenIn]; done) | decide +kernel
abbrev rm_con_setOf : Room := { frames := 0, cells := 0, slots := 0, locals := 0 }
set_option maxRecDepth 65536 in
set_option maxHeartbeats 40000000 in
theorem con_setOf (l : Launch) {Z : State} {a0 : Array Value} (hw : ∀ d ∈ tables_1, d.before a0 Z = true) {n0 : Nat} {h0 : Heap} {es : Addr} (HS : ESet Z es) :
    Con l Z false ELs n0 (⟨"java/util/Set", "of", "()Ljava/util/Set;"⟩ : MethodName) jdk_96_method_17_code 0 (some (.object "java/util/Set")) rm_con_setOf [] #[] h0 [] (fun v h => v = some (.ref es) ∧ h = h0) := by
  refine Con.intro (plainFor_of_name pn_java_util_Set) (hELs hw) ?_
  intro p e s m below meth c hh G
  refine castRun (g' := mkF m 0 #[] []) (by first | rfl | (simp [entryFrame, mkF, argsToLocals, Value.category, maxLocals]; done)) ?_
  refine GoKit.gets G d9_0 (wi hw 44 rfl) Via.refl HS.1 (pc' := 3) rfl ?_
  refine GoKit.retRef G d9_3 rfl rfl rfl (by decide) (by decide) ?_
  exact ⟨rfl, rfl⟩
theorem d11_0 : decode jdk_96_method_29_code 0 = .ok (.aload_n 0, 1) := by decide +kernel
theorem d11_1 : decode jdk_96_method_29_code 1 = .ok (.instanceof 31, 3) := by decide +kernel
theorem d11_4 : decode jdk_96_method_29_code 4 = .ok (.ifCond .eq 8, 3) := by decide +kernel
theorem d11_7 : decode jdk_96_method_29_code 7 = .ok (.aload_n 0, 1) := by decide +kernel
theorem d11_8 : decode jdk_96_method_29_code 8 = .ok (.checkcast 33, 3) := by decide +kernel
theorem d11_11 : decode jdk_96_method_29_code 11 = .ok (.areturn, 1) := by decide +kernel
abbrev rm_con_copyOf : Room := { frames := 0, cells := 0, slots := 0, locals := 0 }
set_option maxRecDepth 65536 in
set_option maxHeartbeats 40000000 in
theorem con_copyOf (l : Launch) {Z : State} {a0 : Array Value} (hw : ∀ d ∈ tables_1, d.before a0 Z = true) {n0 : Nat} {h0 : Heap} {es : Addr} (HS : ESet Z es) :
    Con l Z false ELs n0 (⟨"java/util/Set", "copyOf", "(Ljava/util/Collection;)Ljava/util/Set;"⟩ : MethodName) jdk_96_method_29_code 1 (some (.object "java/util/Set")) rm_con_copyOf [] #[(.ref es)] h0 [] (fun v h => v = some (.ref es) ∧ h = h0) := by
  refine Con.intro (plainFor_of_name pn_java_util_Set) (hELs hw) ?_
  intro p e s m below meth c hh G
  refine castRun (g' := mkF m 0 #[.val (.ref es)] []) (by first | rfl | (simp [entryFrame, mkF, argsToLocals, Value.category, maxLocals]; done)) ?_
  refine Run.know (fun EZ1 _ _ => ?_)
  refine GoKit.aloadN G d11_0 rfl rfl (pc' := 1) rfl ?_
  refine GoKit.instYes G d11_1 (wi hw 59 rfl) (Ins.of_exa (HS.2.ext EZ1) (wi hw 60 rfl)) (pc' := 4) rfl ?_
  refine GoKit.if_eq_f G d11_4 (by decide) (pc' := 7) rfl ?_
  refine GoKit.aloadN G d11_7 rfl rfl (pc' := 8) rfl ?_
  refine GoKit.castOk G d11_8 (wi hw 61 rfl) (Ins.of_exa (HS.2.ext EZ1) (wi hw 62 rfl)) (pc' := 11) rfl ?_
  refine GoKit.retRef G d11_11 rfl rfl rfl (by decide) (by decide) ?_
  exact ⟨rfl, rfl⟩
theorem d10_0 : decode prog_7_method_1_code 0 = .ok (.aload_n 0, 1) := by decide +kernel
theorem d10_1 : decode prog_7_method_1_code 1 = .ok (.invokespecial 1, 3) := by decide +kernel
theorem d10_4 : decode prog_7_method_1_code 4 = .ok (.aload_n 0, 1) := by decide +kernel
theorem d10_5 : decode prog_7_method_1_code 5 = .ok (.aload_n 1, 1) := by decide +kernel
theorem d10_6 : decode prog_7_method_1_code 6 = .ok (.putfield 7, 3) := by decide +kernel
theorem d10_9 : decode prog_7_method_1_code 9 = .ok (.aload_n 0, 1) := by decide +kernel
theorem d10_10 : decode prog_7_method_1_code 10 = .ok (.aload_n 2, 1) := by decide +kernel
theorem d10_11 : decode prog_7_method_1_code 11 = .ok (.putfield 13, 3) := by decide +kernel
theorem d10_14 : decode prog_7_method_1_code 14 = .ok (.aload_n 0, 1) := by decide +kernel
theorem d10_15 : decode prog_7_method_1_code 15 = .ok (.aload_n 3, 1) := by decide +kernel
theorem d10_16 : decode prog_7_method_1_code 16 = .ok (.putfield 16, 3) := by decide +kernel
theorem d10_19 : decode prog_7_method_1_code 19 = .ok (.aload_n 0, 1) := by decide +kernel
theorem d10_20 : decode prog_7_method_1_code 20 = .ok (.aload 4, 2) := by decide +kernel
theorem d10_22 : decode prog_7_method_1_code 22 = .ok (.invokestatic 19, 3) := by decide +kernel
theorem pd_6 : parseMethodDescriptor "(Ljava/util/Collection;)Ljava/util/Set;" = some ⟨[(.object "java/util/Collection")], some (.object "java/util/Set")⟩ := by decide +kernel
theorem d10_25 : decode prog_7_method_1_code 25 = .ok (.putfield 25, 3) := by decide +kernel
theorem d10_28 : decode prog_7_method_1_code 28 = .ok (.aload_n 0, 1) := by decide +kernel
theorem d10_29 : decode prog_7_method_1_code 29 = .ok (.iload 5, 2) := by decide +kernel
theorem d10_31 : decode prog_7_method_1_code 31 = .ok (.putfield 29, 3) := by decide +kernel
theorem d10_34 : decode prog_7_method_1_code 34 = .ok (.aload_n 0, 1) := by decide +kernel
theorem d10_35 : decode prog_7_method_1_code 35 = .ok (.aload 6, 2) := by decide +kernel
theorem d10_37 : decode prog_7_method_1_code 37 = .ok (.putfield 33, 3) := by decide +kernel
theorem d10_40 : decode prog_7_method_1_code 40 = .ok (.return_, 1) := by decide +kernel
theorem pn_com_example_lucid_rationale_lucidrationale_login_Identity : plainName "com/example/lucid_rationale/lucidrationale/login/Identity" = true := by first | (simp [plainName, overriddenIn]; done) | decide +kernel
abbrev rm_con_idInit : Room := { frames := 1, cells := 0, slots := 0, locals := 13 }
set_option maxRecDepth 65536 in
set_option maxHeartbeats 40000000 in
theorem con_idInit (l : Launch) {Z : State} {a0 : Array Value} (hw : ∀ d ∈ tables_1, d.before a0 Z = true) {n0 : Nat} {h0 : Heap} {a t u es : Addr} {adr idn : Value} {z : Int32} (HS : ESet Z es) (ha : adr.isRef = true) (hi : idn.isRef = true) (hz : z = 0 ∨ z = 1) (O : Exa Z h0 a "com/example/lucid_rationale/lucidrationale/login/Identity" ∧ Fld Z h0 a "com/example/lucid_rationale/lucidrationale/login/Identity" "issuer" "Ljava/lang/String;" .null ∧ Fld Z h0 a "com/example/lucid_rationale/lucidrationale/login/Identity" "subject" "Ljava/lang/String;" .null ∧ Fld Z h0 a "com/example/lucid_rationale/lucidrationale/login/Identity" "address" "Ljava/lang/String;" .null ∧ Fld Z h0 a "com/example/lucid_rationale/lucidrationale/login/Identity" "groups" "Ljava/util/Set;" .null ∧ Fld Z h0 a "com/example/lucid_rationale/lucidrationale/login/Identity" "administrator" "Z" (.int 0) ∧ Fld Z h0 a "com/example/lucid_rationale/lucidrationale/login/Identity" "identifier" "Ljava/lang/String;" .null) :
    Con l Z false ELs n0 (⟨"com/example/lucid_rationale/lucidrationale/login/Identity", "<init>", "(Ljava/lang/String;Ljava/lang/String;Ljava/lang/String;Ljava/util/Set;ZLjava/lang/String;)V"⟩ : MethodName) prog_7_method_1_code 7 none rm_con_idInit [] #[(.ref a), (.ref t), (.ref u), adr, (.ref es), (.int z), idn] h0 [a] (fun v h => v = none ∧ Exa Z h a "com/example/lucid_rationale/lucidrationale/login/Identity" ∧ Fld Z h a "com/example/lucid_rationale/lucidrationale/login/Identity" "issuer" "Ljava/lang/String;" (.ref t) ∧ Fld Z h a "com/example/lucid_rationale/lucidrationale/login/Identity" "subject" "Ljava/lang/String;" (.ref u) ∧ Fld Z h a "com/example/lucid_rationale/lucidrationale/login/Identity" "address" "Ljava/lang/String;" adr ∧ Fld Z h a "com/example/lucid_rationale/lucidrationale/login/Identity" "groups" "Ljava/util/Set;" (.ref es) ∧ Fld Z h a "com/example/lucid_rationale/lucidrationale/login/Identity" "administrator" "Z" (.int z) ∧ Fld Z h a "com/example/lucid_rationale/lucidrationale/login/Identity" "identifier" "Ljava/lang/String;" idn) := by
  refine Con.intro (plainFor_of_name pn_com_example_lucid_rationale_lucidrationale_login_Identity) (hELs hw) ?_
  intro p e s m below meth c hh G
  refine castRun (g' := mkF m 0 #[.val (.ref a), .val (.ref t), .val (.ref u), .val adr, .val (.ref es), .val (.int z), .val idn] []) (by rcases ref_cases ha with rfl | ⟨r, rfl⟩ <;> rcases ref_cases hi with rfl | ⟨r, rfl⟩ <;> rfl) ?_
  refine GoKit.aloadN G d10_0 rfl rfl (pc' := 1) rfl ?_
  refine GoKit.initObj G d10_1 (wi hw 49 rfl) (wi hw 16 rfl) (wi hw 17 rfl) rfl (by decide) (W := 0) (Nat.le_of_eq rfl) (by decide) (pc' := 4) rfl ?_
  refine GoKit.aloadN G d10_4 rfl rfl (pc' := 5) rfl ?_
  refine GoKit.aloadN G d10_5 rfl rfl (pc' := 6) rfl ?_
  refine GoKit.putf G d10_6 (wi hw 50 rfl) Via.refl O.2.1 O.1 (Or.inr ⟨(wi hw 51 rfl), rfl, rfl⟩) (wi hw 39 rfl) (ty := (.object "java/lang/String")) (by decide) rfl rfl (List.Mem.head _) (pc' := 9) rfl (fun h2 W1 => ?_)
  have F3 := (O.2.1).same W1
  refine GoKit.aloadN G d10_9 rfl rfl (pc' := 10) rfl ?_
  refine GoKit.aloadN G d10_10 rfl rfl (pc' := 11) rfl ?_
  refine GoKit.putf G d10_11 (wi hw 52 rfl) Via.refl (O.2.2.1.other W1 (Or.inr (slot_ne (Or.inr (wi hw 53 rfl)) (Or.inr (wi hw 51 rfl)) (by decide) (by decide : _ = some (.object "java/lang/String")) (by decide : _ = some (.object "java/lang/String"))))) (O.1.wr W1) (Or.inr ⟨(wi hw 53 rfl), rfl, rfl⟩) (wi hw 39 rfl) (ty := (.object "java/lang/String")) (by decide) rfl rfl (List.Mem.head _) (pc' := 14) rfl (fun h5 W4 => ?_)
  have F6 := ((O.2.2.1.other W1 (Or.inr (slot_ne (Or.inr (wi hw 53 rfl)) (Or.inr (wi hw 51 rfl)) (by decide) (by decide : _ = some (.object "java/lang/String")) (by decide : _ = some (.object "java/lang/String")))))).same W4
  refine GoKit.aloadN G d10_14 rfl rfl (pc' := 15) rfl ?_
  refine GoKit.aloadN G d10_15 rfl ha (pc' := 16) rfl ?_
  refine GoKit.putf G d10_16 (wi hw 54 rfl) Via.refl ((O.2.2.2.1.other W1 (Or.inr (slot_ne (Or.inr (wi hw 55 rfl)) (Or.inr (wi hw 51 rfl)) (by decide) (by decide : _ = some (.object "java/lang/String")) (by decide : _ = some (.object "java/lang/String"))))).other W4 (Or.inr (slot_ne (Or.inr (wi hw 55 rfl)) (Or.inr (wi hw 53 rfl)) (by decide) (by decide : _ = some (.object "java/lang/String")) (by decide : _ = some (.object "java/lang/String"))))) ((O.1.wr W1).wr W4) (Or.inr ⟨(wi hw 55 rfl), rfl, rfl⟩) (wi hw 39 rfl) (ty := (.object "java/lang/String")) (by decide) (ref_ok _ ha).1 (ref_ok _ ha).2 (List.Mem.head _) (pc' := 19) rfl (fun h8 W7 => ?_)
  have F9 := (((O.2.2.2.1.other W1 (Or.inr (slot_ne (Or.inr (wi hw 55 rfl)) (Or.inr (wi hw 51 rfl)) (by decide) (by decide : _ = some (.object "java/lang/String")) (by decide : _ = some (.object "java/lang/String"))))).other W4 (Or.inr (slot_ne (Or.inr (wi hw 55 rfl)) (Or.inr (wi hw 53 rfl)) (by decide) (by decide : _ = some (.object "java/lang/String")) (by decide : _ = some (.object "java/lang/String")))))).same W7
  refine GoKit.aloadN G d10_19 rfl rfl (pc' := 20) rfl ?_
  refine GoKit.aload G d10_20 rfl rfl (pc' := 22) rfl ?_
  refine GoKit.callStaticP G d10_22 (wi hw 56 rfl) (wi hw 57 rfl) (wi hw 42 rfl) (wi hw 58 rfl) (by decide) (W := 1) (argsL := [(.ref es)]) (rest := [(.ref a)]) (con_copyOf l hw HS) rfl (lenOf pd_6 rfl) rfl (by decide) (Nat.le_of_eq rfl) (by decide) (by decide) (by decide) (cells' := 0) (slots' := 0) rfl rfl (pc' := 25) rfl ?_
  show Run _ _ _ _ _ _ _ _ _ _ _ _ _ _ _ _ _ _ _ _ (mkF m 25 #[.val (.ref a), .val (.ref t), .val (.ref u), .val adr, .val (.ref es), .val (.int z), .val idn] [(.ref es), (.ref a)])
  refine GoKit.putf G d10_25 (wi hw 63 rfl) Via.refl (((O.2.2.2.2.1.other W1 (Or.inr (slot_ne (Or.inr (wi hw 64 rfl)) (Or.inr (wi hw 51 rfl)) (by decide) (by decide : _ = some (.object "java/util/Set")) (by decide : _ = some (.object "java/lang/String"))))).other W4 (Or.inr (slot_ne (Or.inr (wi hw 64 rfl)) (Or.inr (wi hw 53 rfl)) (by decide) (by decide : _ = some (.object "java/util/Set")) (by decide : _ = some (.object "java/lang/String"))))).other W7 (Or.inr (slot_ne (Or.inr (wi hw 64 rfl)) (Or.inr (wi hw 55 rfl)) (by decide) (by decide : _ = some (.object "java/util/Set")) (by decide : _ = some (.object "java/lang/String"))))) (((O.1.wr W1).wr W4).wr W7) (Or.inr ⟨(wi hw 64 rfl), rfl, rfl⟩) (wi hw 39 rfl) (ty := (.object "java/util/Set")) (by decide) rfl rfl (List.Mem.head _) (pc' := 28) rfl (fun h11 W10 => ?_)
  have F12 := ((((O.2.2.2.2.1.other W1 (Or.inr (slot_ne (Or.inr (wi hw 64 rfl)) (Or.inr (wi hw 51 rfl)) (by decide) (by decide : _ = some (.object "java/util/Set")) (by decide : _ = some (.object "java/lang/String"))))).other W4 (Or.inr (slot_ne (Or.inr (wi hw 64 rfl)) (Or.inr (wi hw 53 rfl)) (by decide) (by decide : _ = some (.object "java/util/Set")) (by decide : _ = some (.object "java/lang/String"))))).other W7 (Or.inr (slot_ne (Or.inr (wi hw 64 rfl)) (Or.inr (wi hw 55 rfl)) (by decide) (by decide : _ = some (.object "java/util/Set")) (by decide : _ = some (.object "java/lang/String")))))).same W10
  refine GoKit.aloadN G d10_28 rfl rfl (pc' := 29) rfl ?_
  refine GoKit.iload G d10_29 rfl (pc' := 31) rfl ?_
  refine GoKit.putf G d10_31 (wi hw 65 rfl) Via.refl ((((O.2.2.2.2.2.1.other W1 (Or.inr (slot_ne (Or.inr (wi hw 66 rfl)) (Or.inr (wi hw 51 rfl)) (by decide) (by decide : _ = some .boolean) (by decide : _ = some (.object "java/lang/String"))))).other W4 (Or.inr (slot_ne (Or.inr (wi hw 66 rfl)) (Or.inr (wi hw 53 rfl)) (by decide) (by decide : _ = some .boolean) (by decide : _ = some (.object "java/lang/String"))))).other W7 (Or.inr (slot_ne (Or.inr (wi hw 66 rfl)) (Or.inr (wi hw 55 rfl)) (by decide) (by decide : _ = some .boolean) (by decide : _ = some (.object "java/lang/String"))))).other W10 (Or.inr (slot_ne (Or.inr (wi hw 66 rfl)) (Or.inr (wi hw 64 rfl)) (by decide) (by decide : _ = some .boolean) (by decide : _ = some (.object "java/util/Set"))))) ((((O.1.wr W1).wr W4).wr W7).wr W10) (Or.inr ⟨(wi hw 66 rfl), rfl, rfl⟩) (wi hw 39 rfl) (ty := .boolean) (by decide) (bool_ok hz).1 (bool_ok hz).2.1 (List.Mem.head _) (pc' := 34) rfl (fun h14 W13 => ?_)
  have F15 := (((((O.2.2.2.2.2.1.other W1 (Or.inr (slot_ne (Or.inr (wi hw 66 rfl)) (Or.inr (wi hw 51 rfl)) (by decide) (by decide : _ = some .boolean) (by decide : _ = some (.object "java/lang/String"))))).other W4 (Or.inr (slot_ne (Or.inr (wi hw 66 rfl)) (Or.inr (wi hw 53 rfl)) (by decide) (by decide : _ = some .boolean) (by decide : _ = some (.object "java/lang/String"))))).other W7 (Or.inr (slot_ne (Or.inr (wi hw 66 rfl)) (Or.inr (wi hw 55 rfl)) (by decide) (by decide : _ = some .boolean) (by decide : _ = some (.object "java/lang/String"))))).other W10 (Or.inr (slot_ne (Or.inr (wi hw 66 rfl)) (Or.inr (wi hw 64 rfl)) (by decide) (by decide : _ = some .boolean) (by decide : _ = some (.object "java/util/Set")))))).same W13
  refine GoKit.aloadN G d10_34 rfl rfl (pc' := 35) rfl ?_
  refine GoKit.aload G d10_35 rfl hi (pc' := 37) rfl ?_
  refine GoKit.putf G d10_37 (wi hw 67 rfl) Via.refl (((((O.2.2.2.2.2.2.other W1 (Or.inr (slot_ne (Or.inr (wi hw 68 rfl)) (Or.inr (wi hw 51 rfl)) (by decide) (by decide : _ = some (.object "java/lang/String")) (by decide : _ = some (.object "java/lang/String"))))).other W4 (Or.inr (slot_ne (Or.inr (wi hw 68 rfl)) (Or.inr (wi hw 53 rfl)) (by decide) (by decide : _ = some (.object "java/lang/String")) (by decide : _ = some (.object "java/lang/String"))))).other W7 (Or.inr (slot_ne (Or.inr (wi hw 68 rfl)) (Or.inr (wi hw 55 rfl)) (by decide) (by decide : _ = some (.object "java/lang/String")) (by decide : _ = some (.object "java/lang/String"))))).other W10 (Or.inr (slot_ne (Or.inr (wi hw 68 rfl)) (Or.inr (wi hw 64 rfl)) (by decide) (by decide : _ = some (.object "java/lang/String")) (by decide : _ = some (.object "java/util/Set"))))).other W13 (Or.inr (slot_ne (Or.inr (wi hw 68 rfl)) (Or.inr (wi hw 66 rfl)) (by decide) (by decide : _ = some (.object "java/lang/String")) (by decide : _ = some .boolean)))) (((((O.1.wr W1).wr W4).wr W7).wr W10).wr W13) (Or.inr ⟨(wi hw 68 rfl), rfl, rfl⟩) (wi hw 39 rfl) (ty := (.object "java/lang/String")) (by decide) (ref_ok _ hi).1 (ref_ok _ hi).2 (List.Mem.head _) (pc' := 40) rfl (fun h17 W16 => ?_)
  have F18 := ((((((O.2.2.2.2.2.2.other W1 (Or.inr (slot_ne (Or.inr (wi hw 68 rfl)) (Or.inr (wi hw 51 rfl)) (by decide) (by decide : _ = some (.object "java/lang/String")) (by decide : _ = some (.object "java/lang/String"))))).other W4 (Or.inr (slot_ne (Or.inr (wi hw 68 rfl)) (Or.inr (wi hw 53 rfl)) (by decide) (by decide : _ = some (.object "java/lang/String")) (by decide : _ = some (.object "java/lang/String"))))).other W7 (Or.inr (slot_ne (Or.inr (wi hw 68 rfl)) (Or.inr (wi hw 55 rfl)) (by decide) (by decide : _ = some (.object "java/lang/String")) (by decide : _ = some (.object "java/lang/String"))))).other W10 (Or.inr (slot_ne (Or.inr (wi hw 68 rfl)) (Or.inr (wi hw 64 rfl)) (by decide) (by decide : _ = some (.object "java/lang/String")) (by decide : _ = some (.object "java/util/Set"))))).other W13 (Or.inr (slot_ne (Or.inr (wi hw 68 rfl)) (Or.inr (wi hw 66 rfl)) (by decide) (by decide : _ = some (.object "java/lang/String")) (by decide : _ = some .boolean))))).same W16
  refine GoKit.retVoid G d10_40 rfl (by decide) (by decide) ?_
  exact ⟨rfl, ⟨((((((O.1.wr W1).wr W4).wr W7).wr W10).wr W13).wr W16), (((((F3.other W4 (Or.inr (slot_ne (Or.inr (wi hw 51 rfl)) (Or.inr (wi hw 53 rfl)) (by decide) (by decide : _ = some (.object "java/lang/String")) (by decide : _ = some (.object "java/lang/String"))))).other W7 (Or.inr (slot_ne (Or.inr (wi hw 51 rfl)) (Or.inr (wi hw 55 rfl)) (by decide) (by decide : _ = some (.object "java/lang/String")) (by decide : _ = some (.object "java/lang/String"))))).other W10 (Or.inr (slot_ne (Or.inr (wi hw 51 rfl)) (Or.inr (wi hw 64 rfl)) (by decide) (by decide : _ = some (.object "java/lang/String")) (by decide : _ = some (.object "java/util/Set"))))).other W13 (Or.inr (slot_ne (Or.inr (wi hw 51 rfl)) (Or.inr (wi hw 66 rfl)) (by decide) (by decide : _ = some (.object "java/lang/String")) (by decide : _ = some .boolean)))).other W16 (Or.inr (slot_ne (Or.inr (wi hw 51 rfl)) (Or.inr (wi hw 68 rfl)) (by decide) (by decide : _ = some (.object "java/lang/String")) (by decide : _ = some (.object "java/lang/String"))))), ((((F6.other W7 (Or.inr (slot_ne (Or.inr (wi hw 53 rfl)) (Or.inr (wi hw 55 rfl)) (by decide) (by decide : _ = some (.object "java/lang/String")) (by decide : _ = some (.object "java/lang/String"))))).other W10 (Or.inr (slot_ne (Or.inr (wi hw 53 rfl)) (Or.inr (wi hw 64 rfl)) (by decide) (by decide : _ = some (.object "java/lang/String")) (by decide : _ = some (.object "java/util/Set"))))).other W13 (Or.inr (slot_ne (Or.inr (wi hw 53 rfl)) (Or.inr (wi hw 66 rfl)) (by decide) (by decide : _ = some (.object "java/lang/String")) (by decide : _ = some .boolean)))).other W16 (Or.inr (slot_ne (Or.inr (wi hw 53 rfl)) (Or.inr (wi hw 68 rfl)) (by decide) (by decide : _ = some (.object "java/lang/String")) (by decide : _ = some (.object "java/lang/String"))))), (((F9.other W10 (Or.inr (slot_ne (Or.inr (wi hw 55 rfl)) (Or.inr (wi hw 64 rfl)) (by decide) (by decide : _ = some (.object "java/lang/String")) (by decide : _ = some (.object "java/util/Set"))))).other W13 (Or.inr (slot_ne (Or.inr (wi hw 55 rfl)) (Or.inr (wi hw 66 rfl)) (by decide) (by decide : _ = some (.object "java/lang/String")) (by decide : _ = some .boolean)))).other W16 (Or.inr (slot_ne (Or.inr (wi hw 55 rfl)) (Or.inr (wi hw 68 rfl)) (by decide) (by decide : _ = some (.object "java/lang/String")) (by decide : _ = some (.object "java/lang/String"))))), ((F12.other W13 (Or.inr (slot_ne (Or.inr (wi hw 64 rfl)) (Or.inr (wi hw 66 rfl)) (by decide) (by decide : _ = some (.object "java/util/Set")) (by decide : _ = some .boolean)))).other W16 (Or.inr (slot_ne (Or.inr (wi hw 64 rfl)) (Or.inr (wi hw 68 rfl)) (by decide) (by decide : _ = some (.object "java/util/Set")) (by decide : _ = some (.object "java/lang/String"))))), (F15.other W16 (Or.inr (slot_ne (Or.inr (wi hw 66 rfl)) (Or.inr (wi hw 68 rfl)) (by decide) (by decide : _ = some .boolean) (by decide : _ = some (.object "java/lang/String"))))), F18⟩⟩
theorem d8_0 : decode prog_7_method_3_code 0 = .ok (.new 8, 3) := by decide +kernel
theorem d8_3 : decode prog_7_method_3_code 3 = .ok (.dup, 1) := by decide +kernel
theorem d8_4 : decode prog_7_method_3_code 4 = .ok (.aload_n 0, 1) := by decide +kernel
theorem d8_5 : decode prog_7_method_3_code 5 = .ok (.aload_n 1, 1) := by decide +kernel
theorem d8_6 : decode prog_7_method_3_code 6 = .ok (.aconst_null, 1) := by decide +kernel
theorem d8_7 : decode prog_7_method_3_code 7 = .ok (.invokestatic 39, 3) := by decide +kernel
theorem pd_7 : parseMethodDescriptor "()Ljava/util/Set;" = some ⟨[], some (.object "java/util/Set")⟩ := by decide +kernel
theorem d8_10 : decode prog_7_method_3_code 10 = .ok (.iconst 0, 1) := by decide +kernel
theorem d8_11 : decode prog_7_method_3_code 11 = .ok (.aload_n 2, 1) := by decide +kernel
theorem d8_12 : decode prog_7_method_3_code 12 = .ok (.invokespecial 36, 3) := by decide +kernel
theorem pd_8 : parseMethodDescriptor "(Ljava/lang/String;Ljava/lang/String;Ljava/lang/String;Ljava/util/Set;ZLjava/lang/String;)V" = some ⟨[(.object "java/lang/String"), (.object "java/lang/String"), (.object "java/lang/String"), (.object "java/util/Set"), .boolean, (.object "java/lang/String")], none⟩ := by decide +kernel
theorem d8_15 : decode prog_7_method_3_code 15 = .ok (.areturn, 1) := by decide +kernel
abbrev rm_con_ofOut : Room := { frames := 2, cells := 1, slots := 6, locals := 32 }
set_option maxRecDepth 65536 in
set_option maxHeartbeats 40000000 in
theorem con_ofOut (l : Launch) {Z : State} {a0 : Array Value} (hw : ∀ d ∈ tables_1, d.before a0 Z = true) {n0 : Nat} {h0 : Heap} {t u q es : Addr} (HS : ESet Z es) :
    Con l Z false ELs n0 (⟨"com/example/lucid_rationale/lucidrationale/login/Identity", "ofOutsider", "(Ljava/lang/String;Ljava/lang/String;Ljava/lang/String;)Lcom/example/lucid_rationale/lucidrationale/login/Identity;"⟩ : MethodName) prog_7_method_3_code 3 (some (.object "com/example/lucid_rationale/lucidrationale/login/Identity")) rm_con_ofOut [] #[(.ref t), (.ref u), (.ref q)] h0 [] (fun v h => ∃ a, v = some (.ref a) ∧ Exa Z h a "com/example/lucid_rationale/lucidrationale/login/Identity" ∧ Fld Z h a "com/example/lucid_rationale/lucidrationale/login/Identity" "issuer" "Ljava/lang/String;" (.ref t) ∧ Fld Z h a "com/example/lucid_rationale/lucidrationale/login/Identity" "subject" "Ljava/lang/String;" (.ref u) ∧ Fld Z h a "com/example/lucid_rationale/lucidrationale/login/Identity" "address" "Ljava/lang/String;" .null ∧ Fld Z h a "com/example/lucid_rationale/lucidrationale/login/Identity" "groups" "Ljava/util/Set;" (.ref es) ∧ Fld Z h a "com/example/lucid_rationale/lucidrationale/login/Identity" "administrator" "Z" (.int 0) ∧ Fld Z h a "com/example/lucid_rationale/lucidrationale/login/Identity" "identifier" "Ljava/lang/String;" (.ref q)) := by
  refine Con.intro (plainFor_of_name pn_com_example_lucid_rationale_lucidrationale_login_Identity) (hELs hw) ?_
  intro p e s m below meth c hh G
  refine castRun (g' := mkF m 0 #[.val (.ref t), .val (.ref u), .val (.ref q)] []) (by first | rfl | (simp [entryFrame, mkF, argsToLocals, Value.category, maxLocals]; done)) ?_
  refine GoKit.newobj G d8_0 (wi hw 38 rfl) (wi hw 39 rfl) (wi hw 36 rfl) (by decide) (by decide) (cells' := 1) (slots' := 6) rfl rfl (pc' := 3) rfl (fun h5 a1 ga1 E2 X3 D4 => ?_)
  have F6 : Fld Z h5 a1 "com/example/lucid_rationale/lucidrationale/login/Identity" "issuer" "Ljava/lang/String;" .null := D4 (Or.inr (wi hw 51 rfl)) (ty := (.object "java/lang/String")) (by decide)
  have F7 : Fld Z h5 a1 "com/example/lucid_rationale/lucidrationale/login/Identity" "subject" "Ljava/lang/String;" .null := D4 (Or.inr (wi hw 53 rfl)) (ty := (.object "java/lang/String")) (by decide)
  have F8 : Fld Z h5 a1 "com/example/lucid_rationale/lucidrationale/login/Identity" "address" "Ljava/lang/String;" .null := D4 (Or.inr (wi hw 55 rfl)) (ty := (.object "java/lang/String")) (by decide)
  have F9 : Fld Z h5 a1 "com/example/lucid_rationale/lucidrationale/login/Identity" "groups" "Ljava/util/Set;" .null := D4 (Or.inr (wi hw 64 rfl)) (ty := (.object "java/util/Set")) (by decide)
  have F10 : Fld Z h5 a1 "com/example/lucid_rationale/lucidrationale/login/Identity" "administrator" "Z" (.int 0) := D4 (Or.inr (wi hw 66 rfl)) (ty := .boolean) (by decide)
  have F11 : Fld Z h5 a1 "com/example/lucid_rationale/lucidrationale/login/Identity" "identifier" "Ljava/lang/String;" .null := D4 (Or.inr (wi hw 68 rfl)) (ty := (.object "java/lang/String")) (by decide)
  refine GoKit.dup G d8_3 rfl (pc' := 4) rfl ?_
  refine GoKit.aloadN G d8_4 rfl rfl (pc' := 5) rfl ?_
  refine GoKit.aloadN G d8_5 rfl rfl (pc' := 6) rfl ?_
  refine GoKit.aconstNull G d8_6 (pc' := 7) rfl ?_
  refine GoKit.callStaticP G d8_7 (wi hw 40 rfl) (wi hw 41 rfl) (wi hw 42 rfl) (wi hw 43 rfl) (by decide) (W := 5) (argsL := []) (rest := [.null, (.ref u), (.ref t), (.ref a1), (.ref a1)]) (con_setOf l hw HS) rfl (lenOf pd_7 rfl) rfl (by decide) (Nat.le_of_eq rfl) (by decide) (by decide) (by decide) (cells' := 1) (slots' := 6) rfl rfl (pc' := 10) rfl ?_
  show Run _ _ _ _ _ _ _ _ _ _ _ _ _ _ _ _ _ _ _ _ (mkF m 10 #[.val (.ref t), .val (.ref u), .val (.ref q)] [(.ref es), .null, (.ref u), (.ref t), (.ref a1), (.ref a1)])
  refine GoKit.iconst G (0 : Int32) d8_10 rfl (pc' := 11) rfl ?_
  refine GoKit.aloadN G d8_11 rfl rfl (pc' := 12) rfl ?_
  refine GoKit.callSpecial G d8_12 rfl (wi hw 46 rfl) (wi hw 47 rfl) (wi hw 36 rfl) (wi hw 48 rfl) (by decide) (owc := [a1]) (W := 1) (argsL := [(.ref t), (.ref u), .null, (.ref es), (.int (0 : Int32)), (.ref q)]) (rest := [(.ref a1)]) (con_idInit l hw HS rfl rfl (by decide) ⟨X3, F6, F7, F8, F9, F10, F11⟩) rfl (lenOf pd_8 rfl) rfl (by decide) (Nat.le_of_eq rfl) (by decide) (by decide) (by decide) (by intro x hx; simp only [List.mem_cons, List.not_mem_nil, or_false] at hx ⊢; simp [hx]) (cells' := 1) (slots' := 6) rfl rfl (pc' := 15) rfl (fun r12 h15 q13 K14 => ?_)
  obtain ⟨rfl, O16⟩ := q13
  show Run _ _ _ _ _ _ _ _ _ _ _ _ _ _ _ _ _ _ _ _ (mkF m 15 #[.val (.ref t), .val (.ref u), .val (.ref q)] [(.ref a1)])
  refine GoKit.retRef G d8_15 rfl rfl rfl (by decide) (by decide) ?_
  exact ⟨_, rfl, ⟨O16.1, O16.2.1, O16.2.2.1, O16.2.2.2.1, O16.2.2.2.2.1, O16.2.2.2.2.2.1, O16.2.2.2.2.2.2⟩⟩
theorem d13_0 : decode prog_7_method_2_code 0 = .ok (.new 8, 3) := by decide +kernel
theorem d13_3 : decode prog_7_method_2_code 3 = .ok (.dup, 1) := by decide +kernel
theorem d13_4 : decode prog_7_method_2_code 4 = .ok (.aload_n 0, 1) := by decide +kernel
theorem d13_5 : decode prog_7_method_2_code 5 = .ok (.aload_n 1, 1) := by decide +kernel
theorem d13_6 : decode prog_7_method_2_code 6 = .ok (.aload_n 2, 1) := by decide +kernel
theorem d13_7 : decode prog_7_method_2_code 7 = .ok (.aload_n 3, 1) := by decide +kernel
theorem d13_8 : decode prog_7_method_2_code 8 = .ok (.iload 4, 2) := by decide +kernel
theorem d13_10 : decode prog_7_method_2_code 10 = .ok (.aconst_null, 1) := by decide +kernel
theorem d13_11 : decode prog_7_method_2_code 11 = .ok (.invokespecial 36, 3) := by decide +kernel
theorem d13_14 : decode prog_7_method_2_code 14 = .ok (.areturn, 1) := by decide +kernel
abbrev rm_con_ofStaff : Room := { frames := 2, cells := 1, slots := 6, locals := 32 }
set_option maxRecDepth 65536 in
set_option maxHeartbeats 40000000 in
theorem con_ofStaff (l : Launch) {Z : State} {a0 : Array Value} (hw : ∀ d ∈ tables_1, d.before a0 Z = true) {n0 : Nat} {h0 : Heap} {t u q es : Addr} {z : Int32} (HS : ESet Z es) (hz : z = 0 ∨ z = 1) :
    Con l Z false ELs n0 (⟨"com/example/lucid_rationale/lucidrationale/login/Identity", "ofStaff", "(Ljava/lang/String;Ljava/lang/String;Ljava/lang/String;Ljava/util/Set;Z)Lcom/example/lucid_rationale/lucidrationale/login/Identity;"⟩ : MethodName) prog_7_method_2_code 5 (some (.object "com/example/lucid_rationale/lucidrationale/login/Identity")) rm_con_ofStaff [] #[(.ref t), (.ref u), (.ref q), (.ref es), (.int z)] h0 [] (fun v h => ∃ a, v = some (.ref a) ∧ Exa Z h a "com/example/lucid_rationale/lucidrationale/login/Identity" ∧ Fld Z h a "com/example/lucid_rationale/lucidrationale/login/Identity" "issuer" "Ljava/lang/String;" (.ref t) ∧ Fld Z h a "com/example/lucid_rationale/lucidrationale/login/Identity" "subject" "Ljava/lang/String;" (.ref u) ∧ Fld Z h a "com/example/lucid_rationale/lucidrationale/login/Identity" "address" "Ljava/lang/String;" (.ref q) ∧ Fld Z h a "com/example/lucid_rationale/lucidrationale/login/Identity" "groups" "Ljava/util/Set;" (.ref es) ∧ Fld Z h a "com/example/lucid_rationale/lucidrationale/login/Identity" "administrator" "Z" (.int z) ∧ Fld Z h a "com/example/lucid_rationale/lucidrationale/login/Identity" "identifier" "Ljava/lang/String;" .null) := by
  refine Con.intro (plainFor_of_name pn_com_example_lucid_rationale_lucidrationale_login_Identity) (hELs hw) ?_
  intro p e s m below meth c hh G
  refine castRun (g' := mkF m 0 #[.val (.ref t), .val (.ref u), .val (.ref q), .val (.ref es), .val (.int z)] []) (by first | rfl | (simp [entryFrame, mkF, argsToLocals, Value.category, maxLocals]; done)) ?_
  refine GoKit.newobj G d13_0 (wi hw 38 rfl) (wi hw 39 rfl) (wi hw 36 rfl) (by decide) (by decide) (cells' := 1) (slots' := 6) rfl rfl (pc' := 3) rfl (fun h5 a1 ga1 E2 X3 D4 => ?_)
  have F6 : Fld Z h5 a1 "com/example/lucid_rationale/lucidrationale/login/Identity" "issuer" "Ljava/lang/String;" .null := D4 (Or.inr (wi hw 51 rfl)) (ty := (.object "java/lang/String")) (by decide)
  have F7 : Fld Z h5 a1 "com/example/lucid_rationale/lucidrationale/login/Identity" "subject" "Ljava/lang/String;" .null := D4 (Or.inr (wi hw 53 rfl)) (ty := (.object "java/lang/String")) (by decide)
  have F8 : Fld Z h5 a1 "com/example/lucid_rationale/lucidrationale/login/Identity" "address" "Ljava/lang/String;" .null := D4 (Or.inr (wi hw 55 rfl)) (ty := (.object "java/lang/String")) (by decide)
  have F9 : Fld Z h5 a1 "com/example/lucid_rationale/lucidrationale/login/Identity" "groups" "Ljava/util/Set;" .null := D4 (Or.inr (wi hw 64 rfl)) (ty := (.object "java/util/Set")) (by decide)
  have F10 : Fld Z h5 a1 "com/example/lucid_rationale/lucidrationale/login/Identity" "administrator" "Z" (.int 0) := D4 (Or.inr (wi hw 66 rfl)) (ty := .boolean) (by decide)
  have F11 : Fld Z h5 a1 "com/example/lucid_rationale/lucidrationale/login/Identity" "identifier" "Ljava/lang/String;" .null := D4 (Or.inr (wi hw 68 rfl)) (ty := (.object "java/lang/String")) (by decide)
  refine GoKit.dup G d13_3 rfl (pc' := 4) rfl ?_
  refine GoKit.aloadN G d13_4 rfl rfl (pc' := 5) rfl ?_
  refine GoKit.aloadN G d13_5 rfl rfl (pc' := 6) rfl ?_
  refine GoKit.aloadN G d13_6 rfl rfl (pc' := 7) rfl ?_
  refine GoKit.aloadN G d13_7 rfl rfl (pc' := 8) rfl ?_
  refine GoKit.iload G d13_8 rfl (pc' := 10) rfl ?_
  refine GoKit.aconstNull G d13_10 (pc' := 11) rfl ?_
  refine GoKit.callSpecial G d13_11 rfl (wi hw 46 rfl) (wi hw 47 rfl) (wi hw 36 rfl) (wi hw 48 rfl) (by decide) (owc := [a1]) (W := 1) (argsL := [(.ref t), (.ref u), (.ref q), (.ref es), (.int z), .null]) (rest := [(.ref a1)]) (con_idInit l hw HS rfl rfl hz ⟨X3, F6, F7, F8, F9, F10, F11⟩) rfl (lenOf pd_8 rfl) rfl (by decide) (Nat.le_of_eq rfl) (by decide) (by decide) (by decide) (by intro x hx; simp only [List.mem_cons, List.not_mem_nil, or_false] at hx ⊢; simp [hx]) (cells' := 1) (slots' := 6) rfl rfl (pc' := 14) rfl (fun r12 h15 q13 K14 => ?_)
  obtain ⟨rfl, O16⟩ := q13
  show Run _ _ _ _ _ _ _ _ _ _ _ _ _ _ _ _ _ _ _ _ (mkF m 14 #[.val (.ref t), .val (.ref u), .val (.ref q), .val (.ref es), .val (.int z)] [(.ref a1)])
  refine GoKit.retRef G d13_14 rfl rfl rfl (by decide) (by decide) ?_
  exact ⟨_, rfl, ⟨O16.1, O16.2.1, O16.2.2.1, O16.2.2.2.1, O16.2.2.2.2.1, O16.2.2.2.2.2.1, O16.2.2.2.2.2.2⟩⟩
theorem d14_0 : decode prog_7_method_4_code 0 = .ok (.aload_n 0, 1) := by decide +kernel
theorem d14_1 : decode prog_7_method_4_code 1 = .ok (.getfield 7, 3) := by decide +kernel
theorem d14_4 : decode prog_7_method_4_code 4 = .ok (.areturn, 1) := by decide +kernel
abbrev rm_con_getIssuer : Room := { frames := 0, cells := 0, slots := 0, locals := 0 }
set_option maxRecDepth 65536 in
set_option maxHeartbeats 40000000 in
theorem con_getIssuer (l : Launch) {Z : State} {a0 : Array Value} (hw : ∀ d ∈ tables_1, d.before a0 Z = true) {n0 : Nat} {h0 : Heap} {a : Addr} {w : Value} (hv : w.isRef = true) (E : Exa Z h0 a "com/example/lucid_rationale/lucidrationale/login/Identity") (F : Fld Z h0 a "com/example/lucid_rationale/lucidrationale/login/Identity" "issuer" "Ljava/lang/String;" w) :
    Con l Z false ELs n0 (⟨"com/example/lucid_rationale/lucidrationale/login/Identity", "getIssuer", "()Ljava/lang/String;"⟩ : MethodName) prog_7_method_4_code 1 (some (.object "java/lang/String")) rm_con_getIssuer [] #[(.ref a)] h0 [] (fun v h => v = some w ∧ h = h0) := by
  refine Con.intro (plainFor_of_name pn_com_example_lucid_rationale_lucidrationale_login_Identity) (hELs hw) ?_
  intro p e s m below meth c hh G
  refine castRun (g' := mkF m 0 #[.val (.ref a)] []) (by first | rfl | (simp [entryFrame, mkF, argsToLocals, Value.category, maxLocals]; done)) ?_
  refine GoKit.aloadN G d14_0 rfl rfl (pc' := 1) rfl ?_
  refine GoKit.getf G d14_1 (wi hw 50 rfl) Via.refl F (pc' := 4) rfl ?_
  refine GoKit.retRef G d14_4 rfl rfl hv (by decide) (by decide) ?_
  exact ⟨rfl, rfl⟩
theorem d17_0 : decode prog_7_method_5_code 0 = .ok (.aload_n 0, 1) := by decide +kernel
theorem d17_1 : decode prog_7_method_5_code 1 = .ok (.getfield 13, 3) := by decide +kernel
theorem d17_4 : decode prog_7_method_5_code 4 = .ok (.areturn, 1) := by decide +kernel
abbrev rm_con_getSubject : Room := { frames := 0, cells := 0, slots := 0, locals := 0 }
set_option maxRecDepth 65536 in
set_option maxHeartbeats 40000000 in
theorem con_getSubject (l : Launch) {Z : State} {a0 : Array Value} (hw : ∀ d ∈ tables_1, d.before a0 Z = true) {n0 : Nat} {h0 : Heap} {a : Addr} {w : Value} (hv : w.isRef = true) (E : Exa Z h0 a "com/example/lucid_rationale/lucidrationale/login/Identity") (F : Fld Z h0 a "com/example/lucid_rationale/lucidrationale/login/Identity" "subject" "Ljava/lang/String;" w) :
    Con l Z false ELs n0 (⟨"com/example/lucid_rationale/lucidrationale/login/Identity", "getSubject", "()Ljava/lang/String;"⟩ : MethodName) prog_7_method_5_code 1 (some (.object "java/lang/String")) rm_con_getSubject [] #[(.ref a)] h0 [] (fun v h => v = some w ∧ h = h0) := by
  refine Con.intro (plainFor_of_name pn_com_example_lucid_rationale_lucidrationale_login_Identity) (hELs hw) ?_
  intro p e s m below meth c hh G
  refine castRun (g' := mkF m 0 #[.val (.ref a)] []) (by first | rfl | (simp [entryFrame, mkF, argsToLocals, Value.category, maxLocals]; done)) ?_
  refine GoKit.aloadN G d17_0 rfl rfl (pc' := 1) rfl ?_
  refine GoKit.getf G d17_1 (wi hw 52 rfl) Via.refl F (pc' := 4) rfl ?_
  refine GoKit.retRef G d17_4 rfl rfl hv (by decide) (by decide) ?_
  exact ⟨rfl, rfl⟩
theorem d18_0 : decode prog_7_method_6_code 0 = .ok (.aload_n 0, 1) := by decide +kernel
theorem d18_1 : decode prog_7_method_6_code 1 = .ok (.getfield 16, 3) := by decide +kernel
theorem d18_4 : decode prog_7_method_6_code 4 = .ok (.areturn, 1) := by decide +kernel
abbrev rm_con_getAddress : Room := { frames := 0, cells := 0, slots := 0, locals := 0 }
set_option maxRecDepth 65536 in
set_option maxHeartbeats 40000000 in
theorem con_getAddress (l : Launch) {Z : State} {a0 : Array Value} (hw : ∀ d ∈ tables_1, d.before a0 Z = true) {n0 : Nat} {h0 : Heap} {a : Addr} {w : Value} (hv : w.isRef = true) (E : Exa Z h0 a "com/example/lucid_rationale/lucidrationale/login/Identity") (F : Fld Z h0 a "com/example/lucid_rationale/lucidrationale/login/Identity" "address" "Ljava/lang/String;" w) :
    Con l Z false ELs n0 (⟨"com/example/lucid_rationale/lucidrationale/login/Identity", "getAddress", "()Ljava/lang/String;"⟩ : MethodName) prog_7_method_6_code 1 (some (.object "java/lang/String")) rm_con_getAddress [] #[(.ref a)] h0 [] (fun v h => v = some w ∧ h = h0) := by
  refine Con.intro (plainFor_of_name pn_com_example_lucid_rationale_lucidrationale_login_Identity) (hELs hw) ?_
  intro p e s m below meth c hh G
  refine castRun (g' := mkF m 0 #[.val (.ref a)] []) (by first | rfl | (simp [entryFrame, mkF, argsToLocals, Value.category, maxLocals]; done)) ?_
  refine GoKit.aloadN G d18_0 rfl rfl (pc' := 1) rfl ?_
  refine GoKit.getf G d18_1 (wi hw 54 rfl) Via.refl F (pc' := 4) rfl ?_
  refine GoKit.retRef G d18_4 rfl rfl hv (by decide) (by decide) ?_
  exact ⟨rfl, rfl⟩
theorem d12_0 : decode prog_7_method_7_code 0 = .ok (.aload_n 0, 1) := by decide +kernel
theorem d12_1 : decode prog_7_method_7_code 1 = .ok (.getfield 25, 3) := by decide +kernel
theorem d12_4 : decode prog_7_method_7_code 4 = .ok (.areturn, 1) := by decide +kernel
abbrev rm_con_getGroups : Room := { frames := 0, cells := 0, slots := 0, locals := 0 }
set_option maxRecDepth 65536 in
set_option maxHeartbeats 40000000 in
theorem con_getGroups (l : Launch) {Z : State} {a0 : Array Value} (hw : ∀ d ∈ tables_1, d.before a0 Z = true) {n0 : Nat} {h0 : Heap} {a : Addr} {w : Value} (hv : w.isRef = true) (E : Exa Z h0 a "com/example/lucid_rationale/lucidrationale/login/Identity") (F : Fld Z h0 a "com/example/lucid_rationale/lucidrationale/login/Identity" "groups" "Ljava/util/Set;" w) :
    Con l Z false ELs n0 (⟨"com/example/lucid_rationale/lucidrationale/login/Identity", "getGroups", "()Ljava/util/Set;"⟩ : MethodName) prog_7_method_7_code 1 (some (.object "java/util/Set")) rm_con_getGroups [] #[(.ref a)] h0 [] (fun v h => v = some w ∧ h = h0) := by
  refine Con.intro (plainFor_of_name pn_com_example_lucid_rationale_lucidrationale_login_Identity) (hELs hw) ?_
  intro p e s m below meth c hh G
  refine castRun (g' := mkF m 0 #[.val (.ref a)] []) (by first | rfl | (simp [entryFrame, mkF, argsToLocals, Value.category, maxLocals]; done)) ?_
  refine GoKit.aloadN G d12_0 rfl rfl (pc' := 1) rfl ?_
  refine GoKit.getf G d12_1 (wi hw 63 rfl) Via.refl F (pc' := 4) rfl ?_
  refine GoKit.retRef G d12_4 rfl rfl hv (by decide) (by decide) ?_
  exact ⟨rfl, rfl⟩
theorem d19_0 : decode prog_7_method_8_code 0 = .ok (.aload_n 0, 1) := by decide +kernel
theorem d19_1 : decode prog_7_method_8_code 1 = .ok (.getfield 29, 3) := by decide +kernel
theorem d19_4 : decode prog_7_method_8_code 4 = .ok (.ireturn, 1) := by decide +kernel
abbrev rm_con_isAdministrator : Room := { frames := 0, cells := 0, slots := 0, locals := 0 }
set_option maxRecDepth 65536 in
set_option maxHeartbeats 40000000 in
theorem con_isAdministrator (l : Launch) {Z : State} {a0 : Array Value} (hw : ∀ d ∈ tables_1, d.before a0 Z = true) {n0 : Nat} {h0 : Heap} {a : Addr} {z : Int32} (hz : z = 0 ∨ z = 1) (E : Exa Z h0 a "com/example/lucid_rationale/lucidrationale/login/Identity") (F : Fld Z h0 a "com/example/lucid_rationale/lucidrationale/login/Identity" "administrator" "Z" (.int z)) :
    Con l Z false ELs n0 (⟨"com/example/lucid_rationale/lucidrationale/login/Identity", "isAdministrator", "()Z"⟩ : MethodName) prog_7_method_8_code 1 (some .boolean) rm_con_isAdministrator [] #[(.ref a)] h0 [] (fun v h => v = some (.int z) ∧ h = h0) := by
  refine Con.intro (plainFor_of_name pn_com_example_lucid_rationale_lucidrationale_login_Identity) (hELs hw) ?_
  intro p e s m below meth c hh G
  refine castRun (g' := mkF m 0 #[.val (.ref a)] []) (by first | rfl | (simp [entryFrame, mkF, argsToLocals, Value.category, maxLocals]; done)) ?_
  refine GoKit.aloadN G d19_0 rfl rfl (pc' := 1) rfl ?_
  refine GoKit.getf G d19_1 (wi hw 65 rfl) Via.refl F (pc' := 4) rfl ?_
  refine GoKit.retNar G d19_4 (t := .boolean) rfl (by simp) (by decide) (by decide) ?_
  exact ⟨by rw [(bool_ok hz).2.2], rfl⟩
theorem d20_0 : decode prog_7_method_9_code 0 = .ok (.aload_n 0, 1) := by decide +kernel
theorem d20_1 : decode prog_7_method_9_code 1 = .ok (.getfield 33, 3) := by decide +kernel
theorem d20_4 : decode prog_7_method_9_code 4 = .ok (.areturn, 1) := by decide +kernel
abbrev rm_con_getIdentifier : Room := { frames := 0, cells := 0, slots := 0, locals := 0 }
set_option maxRecDepth 65536 in
set_option maxHeartbeats 40000000 in
theorem con_getIdentifier (l : Launch) {Z : State} {a0 : Array Value} (hw : ∀ d ∈ tables_1, d.before a0 Z = true) {n0 : Nat} {h0 : Heap} {a : Addr} {w : Value} (hv : w.isRef = true) (E : Exa Z h0 a "com/example/lucid_rationale/lucidrationale/login/Identity") (F : Fld Z h0 a "com/example/lucid_rationale/lucidrationale/login/Identity" "identifier" "Ljava/lang/String;" w) :
    Con l Z false ELs n0 (⟨"com/example/lucid_rationale/lucidrationale/login/Identity", "getIdentifier", "()Ljava/lang/String;"⟩ : MethodName) prog_7_method_9_code 1 (some (.object "java/lang/String")) rm_con_getIdentifier [] #[(.ref a)] h0 [] (fun v h => v = some w ∧ h = h0) := by
  refine Con.intro (plainFor_of_name pn_com_example_lucid_rationale_lucidrationale_login_Identity) (hELs hw) ?_
  intro p e s m below meth c hh G
  refine castRun (g' := mkF m 0 #[.val (.ref a)] []) (by first | rfl | (simp [entryFrame, mkF, argsToLocals, Value.category, maxLocals]; done)) ?_
  refine GoKit.aloadN G d20_0 rfl rfl (pc' := 1) rfl ?_
  refine GoKit.getf G d20_1 (wi hw 67 rfl) Via.refl F (pc' := 4) rfl ?_
  refine GoKit.retRef G d20_4 rfl rfl hv (by decide) (by decide) ?_
  exact ⟨rfl, rfl⟩
theorem d21_0 : decode jdk_100_method_2_code 0 = .ok (.aload_n 1, 1) := by decide +kernel
theorem d21_1 : decode jdk_100_method_2_code 1 = .ok (.aload_n 0, 1) := by decide +kernel
theorem d21_2 : decode jdk_100_method_2_code 2 = .ok (.if_acmp .ne 5, 3) := by decide +kernel
theorem d21_5 : decode jdk_100_method_2_code 5 = .ok (.iconst 1, 1) := by decide +kernel
theorem d21_6 : decode jdk_100_method_2_code 6 = .ok (.ireturn, 1) := by decide +kernel
theorem pn_java_util_ImmutableCollections_AbstractImmutableSet : plainName "java/util/ImmutableCollections$AbstractImmutableSet" = true := by first | (simp [plainName, overriddenIn]; done) | decide +kernel
abbrev rm_con_setEq : Room := { frames := 0, cells := 0, slots := 0, locals := 0 }
set_option maxRecDepth 65536 in
set_option maxHeartbeats 40000000 in
theorem con_setEq (l : Launch) {Z : State} {a0 : Array Value} (hw : ∀ d ∈ tables_1, d.before a0 Z = true) {n0 : Nat} {h0 : Heap} {a : Addr} :
    Con l Z false ELs n0 (⟨"java/util/ImmutableCollections$AbstractImmutableSet", "equals", "(Ljava/lang/Object;)Z"⟩ : MethodName) jdk_100_method_2_code 5 (some .boolean) rm_con_setEq [] #[(.ref a), (.ref a)] h0 [] (fun v h => v = some (.int 1) ∧ h = h0) := by
  refine Con.intro (plainFor_of_name pn_java_util_ImmutableCollections_AbstractImmutableSet) (hELs hw) ?_
  intro p e s m below meth c hh G
  refine castRun (g' := mkF m 0 #[.val (.ref a), .val (.ref a), .unset, .unset, .unset] []) (by first | rfl | (simp [entryFrame, mkF, argsToLocals, Value.category, maxLocals]; done)) ?_
  refine GoKit.aloadN G d21_0 rfl rfl (pc' := 1) rfl ?_
  refine GoKit.aloadN G d21_1 rfl rfl (pc' := 2) rfl ?_
  refine GoKit.acmp_ne_f G d21_2 rfl rfl rfl (pc' := 5) rfl ?_
  refine GoKit.iconst G (1 : Int32) d21_5 rfl (pc' := 6) rfl ?_
  refine GoKit.retNar G d21_6 (t := .boolean) rfl (by simp) (by decide) (by decide) ?_
  exact ⟨rfl, rfl⟩
theorem pd_9 : parseMethodDescriptor "(I)Ljava/lang/String;" = some ⟨[.int], some (.object "java/lang/String")⟩ := by decide +kernel
theorem pd_10 : parseMethodDescriptor "(Ljava/lang/String;Ljava/lang/String;Ljava/lang/String;)Lcom/example/lucid_rationale/lucidrationale/login/Identity;" = some ⟨[(.object "java/lang/String"), (.object "java/lang/String"), (.object "java/lang/String")], some (.object "com/example/lucid_rationale/lucidrationale/login/Identity")⟩ := by decide +kernel
theorem pd_11 : parseMethodDescriptor "(Ljava/lang/String;Ljava/lang/String;Ljava/lang/String;Ljava/util/Set;Z)Lcom/example/lucid_rationale/lucidrationale/login/Identity;" = some ⟨[(.object "java/lang/String"), (.object "java/lang/String"), (.object "java/lang/String"), (.object "java/util/Set"), .boolean], some (.object "com/example/lucid_rationale/lucidrationale/login/Identity")⟩ := by decide +kernel
theorem pd_12 : parseMethodDescriptor "()Ljava/lang/String;" = some ⟨[], some (.object "java/lang/String")⟩ := by decide +kernel
theorem pd_13 : parseMethodDescriptor "(Ljava/lang/Object;)Z" = some ⟨[(.object "java/lang/Object")], some .boolean⟩ := by decide +kernel
theorem pd_14 : parseMethodDescriptor "()Z" = some ⟨[], some .boolean⟩ := by decide +kernel
set_option maxRecDepth 65536 in
set_option maxHeartbeats 40000000 in
theorem con_law (l : Launch) {Z : State} {a0 : Array Value} (hw : ∀ d ∈ tables_1, d.before a0 Z = true) {n0 : Nat} {h0 : Heap} (p1 p2 p3 p4 : Int32) {es : Addr} (HC : Cst Z) (HS : ESet Z es) :
    Con l Z false ELs n0 x code maxLocals ret room_1 tables_1 #[(.int p1), (.int p2), (.int p3), (.int p4)] h0 [] (fun v h => v = some (.int 1)) := by
  refine Con.intro (plainFor_of_name pn_com_example_lucid_rationale_lucidrationale_login_IdentityOfStaffPinLaw) (hELs hw) ?_
  intro p e s m below meth c hh G
  refine castRun (g' := mkF m 0 #[.val (.int p1), .val (.int p2), .val (.int p3), .val (.int p4), .unset, .unset, .unset, .unset, .unset, .unset, .unset] []) (by first | rfl | (simp [entryFrame, mkF, argsToLocals, Value.category, maxLocals]; done)) ?_
  refine GoKit.iloadN G at_0 rfl (pc' := 1) rfl ?_
  refine GoKit.iconst G (1 : Int32) at_1 rfl (pc' := 2) rfl ?_
  refine GoKit.iand G at_2 (pc' := 3) rfl (fun v1 hqv1 => ?_)
  refine GoKit.if_eq G at_3 (by decide) (pt := 10) (pf := 6) rfl rfl (fun hb2 => ?_) (fun hb2 => ?_)
  · refine GoKit.iconst G (0 : Int32) at_10 rfl (pc' := 11) rfl ?_
    refine GoKit.istore G at_11 (Ls' := #[.val (.int p1), .val (.int p2), .val (.int p3), .val (.int p4), .val (.int (0 : Int32)), .unset, .unset, .unset, .unset, .unset, .unset]) rfl (pc' := 13) rfl ?_
    refine GoKit.iloadN G at_13 rfl (pc' := 14) rfl ?_
    refine GoKit.callStatic G at_14 (wi hw 0 rfl) (wi hw 1 rfl) (wi hw 2 rfl) (wi hw 3 rfl) (by decide) (owc := []) (W := 0) (argsL := [(.int p1)]) (rest := []) (con_two l hw p1 HC) rfl (lenOf pd_9 rfl) rfl (by decide) (Nat.le_of_eq rfl) (by decide) (by decide) (by decide) (fun _ q => nomatch q) (cells' := 3) (slots' := 8) rfl rfl (pc' := 17) rfl (fun r3 h6 q4 K5 => ?_)
    obtain ⟨a7, rfl, S8⟩ := q4
    show Run _ _ _ _ _ _ _ _ _ _ _ _ _ _ _ _ _ _ _ _ (mkF m 17 #[.val (.int p1), .val (.int p2), .val (.int p3), .val (.int p4), .val (.int (0 : Int32)), .unset, .unset, .unset, .unset, .unset, .unset] [(.ref a7)])
    refine GoKit.astore G at_17 rfl (Ls' := #[.val (.int p1), .val (.int p2), .val (.int p3), .val (.int p4), .val (.int (0 : Int32)), .val (.ref a7), .unset, .unset, .unset, .unset, .unset]) rfl (pc' := 19) rfl ?_
    refine GoKit.iloadN G at_19 rfl (pc' := 20) rfl ?_
    refine GoKit.callStatic G at_20 (wi hw 0 rfl) (wi hw 1 rfl) (wi hw 2 rfl) (wi hw 3 rfl) (by decide) (owc := []) (W := 0) (argsL := [(.int p2)]) (rest := []) (con_two l hw p2 HC) rfl (lenOf pd_9 rfl) rfl (by decide) (Nat.le_of_eq rfl) (by decide) (by decide) (by decide) (fun _ q => nomatch q) (cells' := 6) (slots' := 16) rfl rfl (pc' := 23) rfl (fun r9 h12 q10 K11 => ?_)
    obtain ⟨a13, rfl, S14⟩ := q10
    show Run _ _ _ _ _ _ _ _ _ _ _ _ _ _ _ _ _ _ _ _ (mkF m 23 #[.val (.int p1), .val (.int p2), .val (.int p3), .val (.int p4), .val (.int (0 : Int32)), .val (.ref a7), .unset, .unset, .unset, .unset, .unset] [(.ref a13)])
    refine GoKit.astore G at_23 rfl (Ls' := #[.val (.int p1), .val (.int p2), .val (.int p3), .val (.int p4), .val (.int (0 : Int32)), .val (.ref a7), .val (.ref a13), .unset, .unset, .unset, .unset]) rfl (pc' := 25) rfl ?_
    refine GoKit.iloadN G at_25 rfl (pc' := 26) rfl ?_
    refine GoKit.callStatic G at_26 (wi hw 0 rfl) (wi hw 1 rfl) (wi hw 2 rfl) (wi hw 3 rfl) (by decide) (owc := []) (W := 0) (argsL := [(.int p3)]) (rest := []) (con_two l hw p3 HC) rfl (lenOf pd_9 rfl) rfl (by decide) (Nat.le_of_eq rfl) (by decide) (by decide) (by decide) (fun _ q => nomatch q) (cells' := 9) (slots' := 24) rfl rfl (pc' := 29) rfl (fun r15 h18 q16 K17 => ?_)
    obtain ⟨a19, rfl, S20⟩ := q16
    show Run _ _ _ _ _ _ _ _ _ _ _ _ _ _ _ _ _ _ _ _ (mkF m 29 #[.val (.int p1), .val (.int p2), .val (.int p3), .val (.int p4), .val (.int (0 : Int32)), .val (.ref a7), .val (.ref a13), .unset, .unset, .unset, .unset] [(.ref a19)])
    refine GoKit.astore G at_29 rfl (Ls' := #[.val (.int p1), .val (.int p2), .val (.int p3), .val (.int p4), .val (.int (0 : Int32)), .val (.ref a7), .val (.ref a13), .val (.ref a19), .unset, .unset, .unset]) rfl (pc' := 31) rfl ?_
    refine GoKit.iloadN G at_31 rfl (pc' := 32) rfl ?_
    refine GoKit.callStatic G at_32 (wi hw 0 rfl) (wi hw 1 rfl) (wi hw 2 rfl) (wi hw 3 rfl) (by decide) (owc := []) (W := 0) (argsL := [(.int p1)]) (rest := []) (con_two l hw p1 HC) rfl (lenOf pd_9 rfl) rfl (by decide) (Nat.le_of_eq rfl) (by decide) (by decide) (by decide) (fun _ q => nomatch q) (cells' := 12) (slots' := 32) rfl rfl (pc' := 35) rfl (fun r21 h24 q22 K23 => ?_)
    obtain ⟨a25, rfl, S26⟩ := q22
    show Run _ _ _ _ _ _ _ _ _ _ _ _ _ _ _ _ _ _ _ _ (mkF m 35 #[.val (.int p1), .val (.int p2), .val (.int p3), .val (.int p4), .val (.int (0 : Int32)), .val (.ref a7), .val (.ref a13), .val (.ref a19), .unset, .unset, .unset] [(.ref a25)])
    refine GoKit.iloadN G at_35 rfl (pc' := 36) rfl ?_
    refine GoKit.callStatic G at_36 (wi hw 0 rfl) (wi hw 1 rfl) (wi hw 2 rfl) (wi hw 3 rfl) (by decide) (owc := []) (W := 1) (argsL := [(.int p2)]) (rest := [(.ref a25)]) (con_two l hw p2 HC) rfl (lenOf pd_9 rfl) rfl (by decide) (Nat.le_of_eq rfl) (by decide) (by decide) (by decide) (fun _ q => nomatch q) (cells' := 15) (slots' := 40) rfl rfl (pc' := 39) rfl (fun r27 h30 q28 K29 => ?_)
    obtain ⟨a31, rfl, S32⟩ := q28
    show Run _ _ _ _ _ _ _ _ _ _ _ _ _ _ _ _ _ _ _ _ (mkF m 39 #[.val (.int p1), .val (.int p2), .val (.int p3), .val (.int p4), .val (.int (0 : Int32)), .val (.ref a7), .val (.ref a13), .val (.ref a19), .unset, .unset, .unset] [(.ref a31), (.ref a25)])
    refine GoKit.iloadN G at_39 rfl (pc' := 40) rfl ?_
    refine GoKit.callStatic G at_40 (wi hw 0 rfl) (wi hw 1 rfl) (wi hw 2 rfl) (wi hw 3 rfl) (by decide) (owc := []) (W := 2) (argsL := [(.int p3)]) (rest := [(.ref a31), (.ref a25)]) (con_two l hw p3 HC) rfl (lenOf pd_9 rfl) rfl (by decide) (Nat.le_of_eq rfl) (by decide) (by decide) (by decide) (fun _ q => nomatch q) (cells' := 18) (slots' := 48) rfl rfl (pc' := 43) rfl (fun r33 h36 q34 K35 => ?_)
    obtain ⟨a37, rfl, S38⟩ := q34
    show Run _ _ _ _ _ _ _ _ _ _ _ _ _ _ _ _ _ _ _ _ (mkF m 43 #[.val (.int p1), .val (.int p2), .val (.int p3), .val (.int p4), .val (.int (0 : Int32)), .val (.ref a7), .val (.ref a13), .val (.ref a19), .unset, .unset, .unset] [(.ref a37), (.ref a31), (.ref a25)])
    refine GoKit.callStatic G at_43 (wi hw 34 rfl) (wi hw 35 rfl) (wi hw 36 rfl) (wi hw 37 rfl) (by decide) (owc := []) (W := 0) (argsL := [(.ref a25), (.ref a31), (.ref a37)]) (rest := []) (con_ofOut l hw HS) rfl (lenOf pd_10 rfl) rfl (by decide) (Nat.le_of_eq rfl) (by decide) (by decide) (by decide) (fun _ q => nomatch q) (cells' := 19) (slots' := 54) rfl rfl (pc' := 46) rfl (fun r39 h42 q40 K41 => ?_)
    obtain ⟨a43, rfl, O44⟩ := q40
    show Run _ _ _ _ _ _ _ _ _ _ _ _ _ _ _ _ _ _ _ _ (mkF m 46 #[.val (.int p1), .val (.int p2), .val (.int p3), .val (.int p4), .val (.int (0 : Int32)), .val (.ref a7), .val (.ref a13), .val (.ref a19), .unset, .unset, .unset] [(.ref a43)])
    refine GoKit.callVirtualP G at_46 (wi hw 69 rfl) (wi hw 70 rfl) (wi hw 72 rfl) (wi hw 71 rfl) (wi hw 36 rfl) (wi hw 73 rfl) (by decide) O44.1 (W := 0) (argsL := []) (rest := []) (con_getGroups l hw rfl O44.1 O44.2.2.2.2.1) rfl (lenOf pd_7 rfl) rfl (by decide) (Nat.le_of_eq rfl) (by decide) (by decide) (by decide) (cells' := 19) (slots' := 54) rfl rfl (pc' := 49) rfl ?_
    show Run _ _ _ _ _ _ _ _ _ _ _ _ _ _ _ _ _ _ _ _ (mkF m 49 #[.val (.int p1), .val (.int p2), .val (.int p3), .val (.int p4), .val (.int (0 : Int32)), .val (.ref a7), .val (.ref a13), .val (.ref a19), .unset, .unset, .unset] [(.ref es)])
    refine GoKit.astore G at_49 rfl (Ls' := #[.val (.int p1), .val (.int p2), .val (.int p3), .val (.int p4), .val (.int (0 : Int32)), .val (.ref a7), .val (.ref a13), .val (.ref a19), .val (.ref es), .unset, .unset]) rfl (pc' := 51) rfl ?_
    refine GoKit.aload G at_51 rfl rfl (pc' := 53) rfl ?_
    refine GoKit.aload G at_53 rfl rfl (pc' := 55) rfl ?_
    refine GoKit.aload G at_55 rfl rfl (pc' := 57) rfl ?_
    refine GoKit.aload G at_57 rfl rfl (pc' := 59) rfl ?_
    refine GoKit.iload G at_59 rfl (pc' := 61) rfl ?_
    refine GoKit.callStatic G at_61 (wi hw 74 rfl) (wi hw 75 rfl) (wi hw 36 rfl) (wi hw 76 rfl) (by decide) (owc := []) (W := 0) (argsL := [(.ref a7), (.ref a13), (.ref a19), (.ref es), (.int (0 : Int32))]) (rest := []) (con_ofStaff l hw HS (by decide)) rfl (lenOf pd_11 rfl) rfl (by decide) (Nat.le_of_eq rfl) (by decide) (by decide) (by decide) (fun _ q => nomatch q) (cells' := 20) (slots' := 60) rfl rfl (pc' := 64) rfl (fun r45 h48 q46 K47 => ?_)
    obtain ⟨a49, rfl, O50⟩ := q46
    show Run _ _ _ _ _ _ _ _ _ _ _ _ _ _ _ _ _ _ _ _ (mkF m 64 #[.val (.int p1), .val (.int p2), .val (.int p3), .val (.int p4), .val (.int (0 : Int32)), .val (.ref a7), .val (.ref a13), .val (.ref a19), .val (.ref es), .unset, .unset] [(.ref a49)])
    refine GoKit.astore G at_64 rfl (Ls' := #[.val (.int p1), .val (.int p2), .val (.int p3), .val (.int p4), .val (.int (0 : Int32)), .val (.ref a7), .val (.ref a13), .val (.ref a19), .val (.ref es), .val (.ref a49), .unset]) rfl (pc' := 66) rfl ?_
    refine GoKit.iloadN G at_66 rfl (pc' := 67) rfl ?_
    refine GoKit.callStatic G at_67 (wi hw 0 rfl) (wi hw 1 rfl) (wi hw 2 rfl) (wi hw 3 rfl) (by decide) (owc := []) (W := 0) (argsL := [(.int p1)]) (rest := []) (con_two l hw p1 HC) rfl (lenOf pd_9 rfl) rfl (by decide) (Nat.le_of_eq rfl) (by decide) (by decide) (by decide) (fun _ q => nomatch q) (cells' := 23) (slots' := 68) rfl rfl (pc' := 70) rfl (fun r51 h54 q52 K53 => ?_)
    obtain ⟨a55, rfl, S56⟩ := q52
    show Run _ _ _ _ _ _ _ _ _ _ _ _ _ _ _ _ _ _ _ _ (mkF m 70 #[.val (.int p1), .val (.int p2), .val (.int p3), .val (.int p4), .val (.int (0 : Int32)), .val (.ref a7), .val (.ref a13), .val (.ref a19), .val (.ref es), .val (.ref a49), .unset] [(.ref a55)])
    refine GoKit.aload G at_70 rfl rfl (pc' := 72) rfl ?_
    refine GoKit.callVirtualP G at_72 (wi hw 77 rfl) (wi hw 78 rfl) (wi hw 80 rfl) (wi hw 79 rfl) (wi hw 36 rfl) (wi hw 81 rfl) (by decide) (O50.1.keep K53) (W := 1) (argsL := []) (rest := [(.ref a55)]) (con_getIssuer l hw rfl (O50.1.keep K53) (O50.2.1.keep K53 nin0)) rfl (lenOf pd_12 rfl) rfl (by decide) (Nat.le_of_eq rfl) (by decide) (by decide) (by decide) (cells' := 23) (slots' := 68) rfl rfl (pc' := 75) rfl ?_
    show Run _ _ _ _ _ _ _ _ _ _ _ _ _ _ _ _ _ _ _ _ (mkF m 75 #[.val (.int p1), .val (.int p2), .val (.int p3), .val (.int p4), .val (.int (0 : Int32)), .val (.ref a7), .val (.ref a13), .val (.ref a19), .val (.ref es), .val (.ref a49), .unset] [(.ref a7), (.ref a55)])
    have KP57 : Keep h6 h12 [] := ((Keep.refl h6 []).trans K11 all0)
    have KP58 : Keep h6 h18 [] := (KP57.trans K17 all0)
    have KP59 : Keep h6 h24 [] := (KP58.trans K23 all0)
    have KP60 : Keep h6 h30 [] := (KP59.trans K29 all0)
    have KP61 : Keep h6 h36 [] := (KP60.trans K35 all0)
    have KP62 : Keep h6 h42 [] := (KP61.trans K41 all0)
    have KP63 : Keep h6 h48 [] := (KP62.trans K47 all0)
    have KP64 : Keep h6 h54 [] := (KP63.trans K53 all0)
    refine GoKit.callVirtualP G at_75 (wi hw 82 rfl) (wi hw 83 rfl) (wi hw 85 rfl) (wi hw 84 rfl) (wi hw 7 rfl) (wi hw 86 rfl) (by decide) S56.1 (W := 0) (argsL := [(.ref a7)]) (rest := []) ((by have q := con_equals l hw (n0 := n0) S56 (S8.keep KP64) HC; rw [if_pos rfl] at q; exact q)) rfl (lenOf pd_13 rfl) rfl (by decide) (Nat.le_of_eq rfl) (by decide) (by decide) (by decide) (cells' := 23) (slots' := 68) rfl rfl (pc' := 78) rfl ?_
    show Run _ _ _ _ _ _ _ _ _ _ _ _ _ _ _ _ _ _ _ _ (mkF m 78 #[.val (.int p1), .val (.int p2), .val (.int p3), .val (.int p4), .val (.int (0 : Int32)), .val (.ref a7), .val (.ref a13), .val (.ref a19), .val (.ref es), .val (.ref a49), .unset] [(.int 1)])
    refine GoKit.istore G at_78 (Ls' := #[.val (.int p1), .val (.int p2), .val (.int p3), .val (.int p4), .val (.int (0 : Int32)), .val (.ref a7), .val (.ref a13), .val (.ref a19), .val (.ref es), .val (.ref a49), .val (.int 1)]) rfl (pc' := 80) rfl ?_
    refine GoKit.iload G at_80 rfl (pc' := 82) rfl ?_
    refine GoKit.if_eq_f G at_82 (by decide) (pc' := 85) rfl ?_
    refine GoKit.iloadN G at_85 rfl (pc' := 86) rfl ?_
    refine GoKit.callStatic G at_86 (wi hw 0 rfl) (wi hw 1 rfl) (wi hw 2 rfl) (wi hw 3 rfl) (by decide) (owc := []) (W := 0) (argsL := [(.int p2)]) (rest := []) (con_two l hw p2 HC) rfl (lenOf pd_9 rfl) rfl (by decide) (Nat.le_of_eq rfl) (by decide) (by decide) (by decide) (fun _ q => nomatch q) (cells' := 26) (slots' := 76) rfl rfl (pc' := 89) rfl (fun r65 h68 q66 K67 => ?_)
    obtain ⟨a69, rfl, S70⟩ := q66
    show Run _ _ _ _ _ _ _ _ _ _ _ _ _ _ _ _ _ _ _ _ (mkF m 89 #[.val (.int p1), .val (.int p2), .val (.int p3), .val (.int p4), .val (.int (0 : Int32)), .val (.ref a7), .val (.ref a13), .val (.ref a19), .val (.ref es), .val (.ref a49), .val (.int 1)] [(.ref a69)])
    refine GoKit.aload G at_89 rfl rfl (pc' := 91) rfl ?_
    refine GoKit.callVirtualP G at_91 (wi hw 92 rfl) (wi hw 93 rfl) (wi hw 95 rfl) (wi hw 94 rfl) (wi hw 36 rfl) (wi hw 96 rfl) (by decide) ((O50.1.keep K53).keep K67) (W := 1) (argsL := []) (rest := [(.ref a69)]) (con_getSubject l hw rfl ((O50.1.keep K53).keep K67) ((O50.2.2.1.keep K53 nin0).keep K67 nin0)) rfl (lenOf pd_12 rfl) rfl (by decide) (Nat.le_of_eq rfl) (by decide) (by decide) (by decide) (cells' := 26) (slots' := 76) rfl rfl (pc' := 94) rfl ?_
    show Run _ _ _ _ _ _ _ _ _ _ _ _ _ _ _ _ _ _ _ _ (mkF m 94 #[.val (.int p1), .val (.int p2), .val (.int p3), .val (.int p4), .val (.int (0 : Int32)), .val (.ref a7), .val (.ref a13), .val (.ref a19), .val (.ref es), .val (.ref a49), .val (.int 1)] [(.ref a13), (.ref a69)])
    have KP71 : Keep h12 h18 [] := ((Keep.refl h12 []).trans K17 all0)
    have KP72 : Keep h12 h24 [] := (KP71.trans K23 all0)
    have KP73 : Keep h12 h30 [] := (KP72.trans K29 all0)
    have KP74 : Keep h12 h36 [] := (KP73.trans K35 all0)
    have KP75 : Keep h12 h42 [] := (KP74.trans K41 all0)
    have KP76 : Keep h12 h48 [] := (KP75.trans K47 all0)
    have KP77 : Keep h12 h54 [] := (KP76.trans K53 all0)
    have KP78 : Keep h12 h68 [] := (KP77.trans K67 all0)
    refine GoKit.callVirtualP G at_94 (wi hw 82 rfl) (wi hw 83 rfl) (wi hw 85 rfl) (wi hw 84 rfl) (wi hw 7 rfl) (wi hw 86 rfl) (by decide) S70.1 (W := 0) (argsL := [(.ref a13)]) (rest := []) ((by have q := con_equals l hw (n0 := n0) S70 (S14.keep KP78) HC; rw [if_pos rfl] at q; exact q)) rfl (lenOf pd_13 rfl) rfl (by decide) (Nat.le_of_eq rfl) (by decide) (by decide) (by decide) (cells' := 26) (slots' := 76) rfl rfl (pc' := 97) rfl ?_
    show Run _ _ _ _ _ _ _ _ _ _ _ _ _ _ _ _ _ _ _ _ (mkF m 97 #[.val (.int p1), .val (.int p2), .val (.int p3), .val (.int p4), .val (.int (0 : Int32)), .val (.ref a7), .val (.ref a13), .val (.ref a19), .val (.ref es), .val (.ref a49), .val (.int 1)] [(.int 1)])
    refine GoKit.if_eq_f G at_97 (by decide) (pc' := 100) rfl ?_
    refine GoKit.iconst G (1 : Int32) at_100 rfl (pc' := 101) rfl ?_
    refine GoKit.goto G at_101 (by decide) (pc' := 105) rfl ?_
    refine GoKit.istore G at_105 (Ls' := #[.val (.int p1), .val (.int p2), .val (.int p3), .val (.int p4), .val (.int (0 : Int32)), .val (.ref a7), .val (.ref a13), .val (.ref a19), .val (.ref es), .val (.ref a49), .val (.int (1 : Int32))]) rfl (pc' := 107) rfl ?_
    refine GoKit.iload G at_107 rfl (pc' := 109) rfl ?_
    refine GoKit.if_eq_f G at_109 (by decide) (pc' := 112) rfl ?_
    refine GoKit.iloadN G at_112 rfl (pc' := 113) rfl ?_
    refine GoKit.callStatic G at_113 (wi hw 0 rfl) (wi hw 1 rfl) (wi hw 2 rfl) (wi hw 3 rfl) (by decide) (owc := []) (W := 0) (argsL := [(.int p3)]) (rest := []) (con_two l hw p3 HC) rfl (lenOf pd_9 rfl) rfl (by decide) (Nat.le_of_eq rfl) (by decide) (by decide) (by decide) (fun _ q => nomatch q) (cells' := 29) (slots' := 84) rfl rfl (pc' := 116) rfl (fun r79 h82 q80 K81 => ?_)
    obtain ⟨a83, rfl, S84⟩ := q80
    show Run _ _ _ _ _ _ _ _ _ _ _ _ _ _ _ _ _ _ _ _ (mkF m 116 #[.val (.int p1), .val (.int p2), .val (.int p3), .val (.int p4), .val (.int (0 : Int32)), .val (.ref a7), .val (.ref a13), .val (.ref a19), .val (.ref es), .val (.ref a49), .val (.int (1 : Int32))] [(.ref a83)])
    refine GoKit.aload G at_116 rfl rfl (pc' := 118) rfl ?_
    refine GoKit.callVirtualP G at_118 (wi hw 97 rfl) (wi hw 98 rfl) (wi hw 100 rfl) (wi hw 99 rfl) (wi hw 36 rfl) (wi hw 101 rfl) (by decide) (((O50.1.keep K53).keep K67).keep K81) (W := 1) (argsL := []) (rest := [(.ref a83)]) (con_getAddress l hw rfl (((O50.1.keep K53).keep K67).keep K81) (((O50.2.2.2.1.keep K53 nin0).keep K67 nin0).keep K81 nin0)) rfl (lenOf pd_12 rfl) rfl (by decide) (Nat.le_of_eq rfl) (by decide) (by decide) (by decide) (cells' := 29) (slots' := 84) rfl rfl (pc' := 121) rfl ?_
    show Run _ _ _ _ _ _ _ _ _ _ _ _ _ _ _ _ _ _ _ _ (mkF m 121 #[.val (.int p1), .val (.int p2), .val (.int p3), .val (.int p4), .val (.int (0 : Int32)), .val (.ref a7), .val (.ref a13), .val (.ref a19), .val (.ref es), .val (.ref a49), .val (.int (1 : Int32))] [(.ref a19), (.ref a83)])
    have KP85 : Keep h18 h24 [] := ((Keep.refl h18 []).trans K23 all0)
    have KP86 : Keep h18 h30 [] := (KP85.trans K29 all0)
    have KP87 : Keep h18 h36 [] := (KP86.trans K35 all0)
    have KP88 : Keep h18 h42 [] := (KP87.trans K41 all0)
    have KP89 : Keep h18 h48 [] := (KP88.trans K47 all0)
    have KP90 : Keep h18 h54 [] := (KP89.trans K53 all0)
    have KP91 : Keep h18 h68 [] := (KP90.trans K67 all0)
    have KP92 : Keep h18 h82 [] := (KP91.trans K81 all0)
    refine GoKit.callVirtualP G at_121 (wi hw 82 rfl) (wi hw 83 rfl) (wi hw 85 rfl) (wi hw 84 rfl) (wi hw 7 rfl) (wi hw 86 rfl) (by decide) S84.1 (W := 0) (argsL := [(.ref a19)]) (rest := []) ((by have q := con_equals l hw (n0 := n0) S84 (S20.keep KP92) HC; rw [if_pos rfl] at q; exact q)) rfl (lenOf pd_13 rfl) rfl (by decide) (Nat.le_of_eq rfl) (by decide) (by decide) (by decide) (cells' := 29) (slots' := 84) rfl rfl (pc' := 124) rfl ?_
    show Run _ _ _ _ _ _ _ _ _ _ _ _ _ _ _ _ _ _ _ _ (mkF m 124 #[.val (.int p1), .val (.int p2), .val (.int p3), .val (.int p4), .val (.int (0 : Int32)), .val (.ref a7), .val (.ref a13), .val (.ref a19), .val (.ref es), .val (.ref a49), .val (.int (1 : Int32))] [(.int 1)])
    refine GoKit.if_eq_f G at_124 (by decide) (pc' := 127) rfl ?_
    refine GoKit.iconst G (1 : Int32) at_127 rfl (pc' := 128) rfl ?_
    refine GoKit.goto G at_128 (by decide) (pc' := 132) rfl ?_
    refine GoKit.istore G at_132 (Ls' := #[.val (.int p1), .val (.int p2), .val (.int p3), .val (.int p4), .val (.int (0 : Int32)), .val (.ref a7), .val (.ref a13), .val (.ref a19), .val (.ref es), .val (.ref a49), .val (.int (1 : Int32))]) rfl (pc' := 134) rfl ?_
    refine GoKit.iload G at_134 rfl (pc' := 136) rfl ?_
    refine GoKit.if_eq_f G at_136 (by decide) (pc' := 139) rfl ?_
    refine GoKit.aload G at_139 rfl rfl (pc' := 141) rfl ?_
    refine GoKit.callVirtualP G at_141 (wi hw 102 rfl) (wi hw 103 rfl) (wi hw 105 rfl) (wi hw 104 rfl) (wi hw 36 rfl) (wi hw 106 rfl) (by decide) (((O50.1.keep K53).keep K67).keep K81) (W := 0) (argsL := []) (rest := []) (con_isAdministrator l hw (by decide) (((O50.1.keep K53).keep K67).keep K81) (((O50.2.2.2.2.2.1.keep K53 nin0).keep K67 nin0).keep K81 nin0)) rfl (lenOf pd_14 rfl) rfl (by decide) (Nat.le_of_eq rfl) (by decide) (by decide) (by decide) (cells' := 29) (slots' := 84) rfl rfl (pc' := 144) rfl ?_
    show Run _ _ _ _ _ _ _ _ _ _ _ _ _ _ _ _ _ _ _ _ (mkF m 144 #[.val (.int p1), .val (.int p2), .val (.int p3), .val (.int p4), .val (.int (0 : Int32)), .val (.ref a7), .val (.ref a13), .val (.ref a19), .val (.ref es), .val (.ref a49), .val (.int (1 : Int32))] [(.int (0 : Int32))])
    refine GoKit.iload G at_144 rfl (pc' := 146) rfl ?_
    refine GoKit.icmp_ne_f G at_146 (by decide) (pc' := 149) rfl ?_
    refine GoKit.iconst G (1 : Int32) at_149 rfl (pc' := 150) rfl ?_
    refine GoKit.goto G at_150 (by decide) (pc' := 154) rfl ?_
    refine GoKit.istore G at_154 (Ls' := #[.val (.int p1), .val (.int p2), .val (.int p3), .val (.int p4), .val (.int (0 : Int32)), .val (.ref a7), .val (.ref a13), .val (.ref a19), .val (.ref es), .val (.ref a49), .val (.int (1 : Int32))]) rfl (pc' := 156) rfl ?_
    refine GoKit.iload G at_156 rfl (pc' := 158) rfl ?_
    refine GoKit.if_eq_f G at_158 (by decide) (pc' := 161) rfl ?_
    refine GoKit.aload G at_161 rfl rfl (pc' := 163) rfl ?_
    refine GoKit.callVirtualP G at_163 (wi hw 107 rfl) (wi hw 108 rfl) (wi hw 110 rfl) (wi hw 109 rfl) (wi hw 36 rfl) (wi hw 111 rfl) (by decide) (((O50.1.keep K53).keep K67).keep K81) (W := 0) (argsL := []) (rest := []) (con_getIdentifier l hw rfl (((O50.1.keep K53).keep K67).keep K81) (((O50.2.2.2.2.2.2.keep K53 nin0).keep K67 nin0).keep K81 nin0)) rfl (lenOf pd_12 rfl) rfl (by decide) (Nat.le_of_eq rfl) (by decide) (by decide) (by decide) (cells' := 29) (slots' := 84) rfl rfl (pc' := 166) rfl ?_
    show Run _ _ _ _ _ _ _ _ _ _ _ _ _ _ _ _ _ _ _ _ (mkF m 166 #[.val (.int p1), .val (.int p2), .val (.int p3), .val (.int p4), .val (.int (0 : Int32)), .val (.ref a7), .val (.ref a13), .val (.ref a19), .val (.ref es), .val (.ref a49), .val (.int (1 : Int32))] [.null])
    refine GoKit.ifnonnull_f G at_166 (pc' := 169) rfl ?_
    refine GoKit.iconst G (1 : Int32) at_169 rfl (pc' := 170) rfl ?_
    refine GoKit.goto G at_170 (by decide) (pc' := 174) rfl ?_
    refine GoKit.istore G at_174 (Ls' := #[.val (.int p1), .val (.int p2), .val (.int p3), .val (.int p4), .val (.int (0 : Int32)), .val (.ref a7), .val (.ref a13), .val (.ref a19), .val (.ref es), .val (.ref a49), .val (.int (1 : Int32))]) rfl (pc' := 176) rfl ?_
    refine GoKit.iload G at_176 rfl (pc' := 178) rfl ?_
    refine GoKit.if_eq_f G at_178 (by decide) (pc' := 181) rfl ?_
    refine GoKit.aload G at_181 rfl rfl (pc' := 183) rfl ?_
    refine GoKit.callVirtualP G at_183 (wi hw 69 rfl) (wi hw 70 rfl) (wi hw 72 rfl) (wi hw 71 rfl) (wi hw 36 rfl) (wi hw 73 rfl) (by decide) (((O50.1.keep K53).keep K67).keep K81) (W := 0) (argsL := []) (rest := []) (con_getGroups l hw rfl (((O50.1.keep K53).keep K67).keep K81) (((O50.2.2.2.2.1.keep K53 nin0).keep K67 nin0).keep K81 nin0)) rfl (lenOf pd_7 rfl) rfl (by decide) (Nat.le_of_eq rfl) (by decide) (by decide) (by decide) (cells' := 29) (slots' := 84) rfl rfl (pc' := 186) rfl ?_
    show Run _ _ _ _ _ _ _ _ _ _ _ _ _ _ _ _ _ _ _ _ (mkF m 186 #[.val (.int p1), .val (.int p2), .val (.int p3), .val (.int p4), .val (.int (0 : Int32)), .val (.ref a7), .val (.ref a13), .val (.ref a19), .val (.ref es), .val (.ref a49), .val (.int (1 : Int32))] [(.ref es)])
    refine GoKit.aload G at_186 rfl rfl (pc' := 188) rfl ?_
    refine Run.know (fun EZ93 _ _ => ?_)
    refine GoKit.callFaceP G at_188 (wi hw 112 rfl) (wi hw 113 rfl) (wi hw 115 rfl) (fun _ _ hZ => mv hZ (wi hw 114 rfl)) (wi hw 117 rfl) (wi hw 118 rfl) (wi hw 62 rfl) (wi hw 116 rfl) (wi hw 119 rfl) (wi hw 120 rfl) (by decide) (HS.2.ext EZ93) (W := 0) (argsL := [(.ref es)]) (rest := []) (con_setEq l hw) rfl (lenOf pd_13 rfl) rfl (by decide) (Nat.le_of_eq rfl) (by decide) (by decide) (by decide) (cells' := 29) (slots' := 84) rfl rfl (pc' := 193) rfl ?_
    show Run _ _ _ _ _ _ _ _ _ _ _ _ _ _ _ _ _ _ _ _ (mkF m 193 #[.val (.int p1), .val (.int p2), .val (.int p3), .val (.int p4), .val (.int (0 : Int32)), .val (.ref a7), .val (.ref a13), .val (.ref a19), .val (.ref es), .val (.ref a49), .val (.int (1 : Int32))] [(.int 1)])
    refine GoKit.if_eq_f G at_193 (by decide) (pc' := 196) rfl ?_
    refine GoKit.iconst G (1 : Int32) at_196 rfl (pc' := 197) rfl ?_
    refine GoKit.goto G at_197 (by decide) (pc' := 201) rfl ?_
    refine GoKit.istore G at_201 (Ls' := #[.val (.int p1), .val (.int p2), .val (.int p3), .val (.int p4), .val (.int (0 : Int32)), .val (.ref a7), .val (.ref a13), .val (.ref a19), .val (.ref es), .val (.ref a49), .val (.int (1 : Int32))]) rfl (pc' := 203) rfl ?_
    refine GoKit.iload G at_203 rfl (pc' := 205) rfl ?_
    refine GoKit.retNar G at_205 (t := .boolean) rfl (by simp) (by decide) (by decide) ?_
    exact rfl
  · refine GoKit.iconst G (1 : Int32) at_6 rfl (pc' := 7) rfl ?_
    refine GoKit.goto G at_7 (by decide) (pc' := 11) rfl ?_
    refine GoKit.istore G at_11 (Ls' := #[.val (.int p1), .val (.int p2), .val (.int p3), .val (.int p4), .val (.int (1 : Int32)), .unset, .unset, .unset, .unset, .unset, .unset]) rfl (pc' := 13) rfl ?_
    refine GoKit.iloadN G at_13 rfl (pc' := 14) rfl ?_
    refine GoKit.callStatic G at_14 (wi hw 0 rfl) (wi hw 1 rfl) (wi hw 2 rfl) (wi hw 3 rfl) (by decide) (owc := []) (W := 0) (argsL := [(.int p1)]) (rest := []) (con_two l hw p1 HC) rfl (lenOf pd_9 rfl) rfl (by decide) (Nat.le_of_eq rfl) (by decide) (by decide) (by decide) (fun _ q => nomatch q) (cells' := 3) (slots' := 8) rfl rfl (pc' := 17) rfl (fun r94 h97 q95 K96 => ?_)
    obtain ⟨a98, rfl, S99⟩ := q95
    show Run _ _ _ _ _ _ _ _ _ _ _ _ _ _ _ _ _ _ _ _ (mkF m 17 #[.val (.int p1), .val (.int p2), .val (.int p3), .val (.int p4), .val (.int (1 : Int32)), .unset, .unset, .unset, .unset, .unset, .unset] [(.ref a98)])
    refine GoKit.astore G at_17 rfl (Ls' := #[.val (.int p1), .val (.int p2), .val (.int p3), .val (.int p4), .val (.int (1 : Int32)), .val (.ref a98), .unset, .unset, .unset, .unset, .unset]) rfl (pc' := 19) rfl ?_
    refine GoKit.iloadN G at_19 rfl (pc' := 20) rfl ?_
    refine GoKit.callStatic G at_20 (wi hw 0 rfl) (wi hw 1 rfl) (wi hw 2 rfl) (wi hw 3 rfl) (by decide) (owc := []) (W := 0) (argsL := [(.int p2)]) (rest := []) (con_two l hw p2 HC) rfl (lenOf pd_9 rfl) rfl (by decide) (Nat.le_of_eq rfl) (by decide) (by decide) (by decide) (fun _ q => nomatch q) (cells' := 6) (slots' := 16) rfl rfl (pc' := 23) rfl (fun r100 h103 q101 K102 => ?_)
    obtain ⟨a104, rfl, S105⟩ := q101
    show Run _ _ _ _ _ _ _ _ _ _ _ _ _ _ _ _ _ _ _ _ (mkF m 23 #[.val (.int p1), .val (.int p2), .val (.int p3), .val (.int p4), .val (.int (1 : Int32)), .val (.ref a98), .unset, .unset, .unset, .unset, .unset] [(.ref a104)])
    refine GoKit.astore G at_23 rfl (Ls' := #[.val (.int p1), .val (.int p2), .val (.int p3), .val (.int p4), .val (.int (1 : Int32)), .val (.ref a98), .val (.ref a104), .unset, .unset, .unset, .unset]) rfl (pc' := 25) rfl ?_
    refine GoKit.iloadN G at_25 rfl (pc' := 26) rfl ?_
    refine GoKit.callStatic G at_26 (wi hw 0 rfl) (wi hw 1 rfl) (wi hw 2 rfl) (wi hw 3 rfl) (by decide) (owc := []) (W := 0) (argsL := [(.int p3)]) (rest := []) (con_two l hw p3 HC) rfl (lenOf pd_9 rfl) rfl (by decide) (Nat.le_of_eq rfl) (by decide) (by decide) (by decide) (fun _ q => nomatch q) (cells' := 9) (slots' := 24) rfl rfl (pc' := 29) rfl (fun r106 h109 q107 K108 => ?_)
    obtain ⟨a110, rfl, S111⟩ := q107
    show Run _ _ _ _ _ _ _ _ _ _ _ _ _ _ _ _ _ _ _ _ (mkF m 29 #[.val (.int p1), .val (.int p2), .val (.int p3), .val (.int p4), .val (.int (1 : Int32)), .val (.ref a98), .val (.ref a104), .unset, .unset, .unset, .unset] [(.ref a110)])
    refine GoKit.astore G at_29 rfl (Ls' := #[.val (.int p1), .val (.int p2), .val (.int p3), .val (.int p4), .val (.int (1 : Int32)), .val (.ref a98), .val (.ref a104), .val (.ref a110), .unset, .unset, .unset]) rfl (pc' := 31) rfl ?_
    refine GoKit.iloadN G at_31 rfl (pc' := 32) rfl ?_
    refine GoKit.callStatic G at_32 (wi hw 0 rfl) (wi hw 1 rfl) (wi hw 2 rfl) (wi hw 3 rfl) (by decide) (owc := []) (W := 0) (argsL := [(.int p1)]) (rest := []) (con_two l hw p1 HC) rfl (lenOf pd_9 rfl) rfl (by decide) (Nat.le_of_eq rfl) (by decide) (by decide) (by decide) (fun _ q => nomatch q) (cells' := 12) (slots' := 32) rfl rfl (pc' := 35) rfl (fun r112 h115 q113 K114 => ?_)
    obtain ⟨a116, rfl, S117⟩ := q113
    show Run _ _ _ _ _ _ _ _ _ _ _ _ _ _ _ _ _ _ _ _ (mkF m 35 #[.val (.int p1), .val (.int p2), .val (.int p3), .val (.int p4), .val (.int (1 : Int32)), .val (.ref a98), .val (.ref a104), .val (.ref a110), .unset, .unset, .unset] [(.ref a116)])
    refine GoKit.iloadN G at_35 rfl (pc' := 36) rfl ?_
    refine GoKit.callStatic G at_36 (wi hw 0 rfl) (wi hw 1 rfl) (wi hw 2 rfl) (wi hw 3 rfl) (by decide) (owc := []) (W := 1) (argsL := [(.int p2)]) (rest := [(.ref a116)]) (con_two l hw p2 HC) rfl (lenOf pd_9 rfl) rfl (by decide) (Nat.le_of_eq rfl) (by decide) (by decide) (by decide) (fun _ q => nomatch q) (cells' := 15) (slots' := 40) rfl rfl (pc' := 39) rfl (fun r118 h121 q119 K120 => ?_)
    obtain ⟨a122, rfl, S123⟩ := q119
    show Run _ _ _ _ _ _ _ _ _ _ _ _ _ _ _ _ _ _ _ _ (mkF m 39 #[.val (.int p1), .val (.int p2), .val (.int p3), .val (.int p4), .val (.int (1 : Int32)), .val (.ref a98), .val (.ref a104), .val (.ref a110), .unset, .unset, .unset] [(.ref a122), (.ref a116)])
    refine GoKit.iloadN G at_39 rfl (pc' := 40) rfl ?_
    refine GoKit.callStatic G at_40 (wi hw 0 rfl) (wi hw 1 rfl) (wi hw 2 rfl) (wi hw 3 rfl) (by decide) (owc := []) (W := 2) (argsL := [(.int p3)]) (rest := [(.ref a122), (.ref a116)]) (con_two l hw p3 HC) rfl (lenOf pd_9 rfl) rfl (by decide) (Nat.le_of_eq rfl) (by decide) (by decide) (by decide) (fun _ q => nomatch q) (cells' := 18) (slots' := 48) rfl rfl (pc' := 43) rfl (fun r124 h127 q125 K126 => ?_)
    obtain ⟨a128, rfl, S129⟩ := q125
    show Run _ _ _ _ _ _ _ _ _ _ _ _ _ _ _ _ _ _ _ _ (mkF m 43 #[.val (.int p1), .val (.int p2), .val (.int p3), .val (.int p4), .val (.int (1 : Int32)), .val (.ref a98), .val (.ref a104), .val (.ref a110), .unset, .unset, .unset] [(.ref a128), (.ref a122), (.ref a116)])
    refine GoKit.callStatic G at_43 (wi hw 34 rfl) (wi hw 35 rfl) (wi hw 36 rfl) (wi hw 37 rfl) (by decide) (owc := []) (W := 0) (argsL := [(.ref a116), (.ref a122), (.ref a128)]) (rest := []) (con_ofOut l hw HS) rfl (lenOf pd_10 rfl) rfl (by decide) (Nat.le_of_eq rfl) (by decide) (by decide) (by decide) (fun _ q => nomatch q) (cells' := 19) (slots' := 54) rfl rfl (pc' := 46) rfl (fun r130 h133 q131 K132 => ?_)
    obtain ⟨a134, rfl, O135⟩ := q131
    show Run _ _ _ _ _ _ _ _ _ _ _ _ _ _ _ _ _ _ _ _ (mkF m 46 #[.val (.int p1), .val (.int p2), .val (.int p3), .val (.int p4), .val (.int (1 : Int32)), .val (.ref a98), .val (.ref a104), .val (.ref a110), .unset, .unset, .unset] [(.ref a134)])
    refine GoKit.callVirtualP G at_46 (wi hw 69 rfl) (wi hw 70 rfl) (wi hw 72 rfl) (wi hw 71 rfl) (wi hw 36 rfl) (wi hw 73 rfl) (by decide) O135.1 (W := 0) (argsL := []) (rest := []) (con_getGroups l hw rfl O135.1 O135.2.2.2.2.1) rfl (lenOf pd_7 rfl) rfl (by decide) (Nat.le_of_eq rfl) (by decide) (by decide) (by decide) (cells' := 19) (slots' := 54) rfl rfl (pc' := 49) rfl ?_
    show Run _ _ _ _ _ _ _ _ _ _ _ _ _ _ _ _ _ _ _ _ (mkF m 49 #[.val (.int p1), .val (.int p2), .val (.int p3), .val (.int p4), .val (.int (1 : Int32)), .val (.ref a98), .val (.ref a104), .val (.ref a110), .unset, .unset, .unset] [(.ref es)])
    refine GoKit.astore G at_49 rfl (Ls' := #[.val (.int p1), .val (.int p2), .val (.int p3), .val (.int p4), .val (.int (1 : Int32)), .val (.ref a98), .val (.ref a104), .val (.ref a110), .val (.ref es), .unset, .unset]) rfl (pc' := 51) rfl ?_
    refine GoKit.aload G at_51 rfl rfl (pc' := 53) rfl ?_
    refine GoKit.aload G at_53 rfl rfl (pc' := 55) rfl ?_
    refine GoKit.aload G at_55 rfl rfl (pc' := 57) rfl ?_
    refine GoKit.aload G at_57 rfl rfl (pc' := 59) rfl ?_
    refine GoKit.iload G at_59 rfl (pc' := 61) rfl ?_
    refine GoKit.callStatic G at_61 (wi hw 74 rfl) (wi hw 75 rfl) (wi hw 36 rfl) (wi hw 76 rfl) (by decide) (owc := []) (W := 0) (argsL := [(.ref a98), (.ref a104), (.ref a110), (.ref es), (.int (1 : Int32))]) (rest := []) (con_ofStaff l hw HS (by decide)) rfl (lenOf pd_11 rfl) rfl (by decide) (Nat.le_of_eq rfl) (by decide) (by decide) (by decide) (fun _ q => nomatch q) (cells' := 20) (slots' := 60) rfl rfl (pc' := 64) rfl (fun r136 h139 q137 K138 => ?_)
    obtain ⟨a140, rfl, O141⟩ := q137
    show Run _ _ _ _ _ _ _ _ _ _ _ _ _ _ _ _ _ _ _ _ (mkF m 64 #[.val (.int p1), .val (.int p2), .val (.int p3), .val (.int p4), .val (.int (1 : Int32)), .val (.ref a98), .val (.ref a104), .val (.ref a110), .val (.ref es), .unset, .unset] [(.ref a140)])
    refine GoKit.astore G at_64 rfl (Ls' := #[.val (.int p1), .val (.int p2), .val (.int p3), .val (.int p4), .val (.int (1 : Int32)), .val (.ref a98), .val (.ref a104), .val (.ref a110), .val (.ref es), .val (.ref a140), .unset]) rfl (pc' := 66) rfl ?_
    refine GoKit.iloadN G at_66 rfl (pc' := 67) rfl ?_
    refine GoKit.callStatic G at_67 (wi hw 0 rfl) (wi hw 1 rfl) (wi hw 2 rfl) (wi hw 3 rfl) (by decide) (owc := []) (W := 0) (argsL := [(.int p1)]) (rest := []) (con_two l hw p1 HC) rfl (lenOf pd_9 rfl) rfl (by decide) (Nat.le_of_eq rfl) (by decide) (by decide) (by decide) (fun _ q => nomatch q) (cells' := 23) (slots' := 68) rfl rfl (pc' := 70) rfl (fun r142 h145 q143 K144 => ?_)
    obtain ⟨a146, rfl, S147⟩ := q143
    show Run _ _ _ _ _ _ _ _ _ _ _ _ _ _ _ _ _ _ _ _ (mkF m 70 #[.val (.int p1), .val (.int p2), .val (.int p3), .val (.int p4), .val (.int (1 : Int32)), .val (.ref a98), .val (.ref a104), .val (.ref a110), .val (.ref es), .val (.ref a140), .unset] [(.ref a146)])
    refine GoKit.aload G at_70 rfl rfl (pc' := 72) rfl ?_
    refine GoKit.callVirtualP G at_72 (wi hw 77 rfl) (wi hw 78 rfl) (wi hw 80 rfl) (wi hw 79 rfl) (wi hw 36 rfl) (wi hw 81 rfl) (by decide) (O141.1.keep K144) (W := 1) (argsL := []) (rest := [(.ref a146)]) (con_getIssuer l hw rfl (O141.1.keep K144) (O141.2.1.keep K144 nin0)) rfl (lenOf pd_12 rfl) rfl (by decide) (Nat.le_of_eq rfl) (by decide) (by decide) (by decide) (cells' := 23) (slots' := 68) rfl rfl (pc' := 75) rfl ?_
    show Run _ _ _ _ _ _ _ _ _ _ _ _ _ _ _ _ _ _ _ _ (mkF m 75 #[.val (.int p1), .val (.int p2), .val (.int p3), .val (.int p4), .val (.int (1 : Int32)), .val (.ref a98), .val (.ref a104), .val (.ref a110), .val (.ref es), .val (.ref a140), .unset] [(.ref a98), (.ref a146)])
    have KP148 : Keep h97 h103 [] := ((Keep.refl h97 []).trans K102 all0)
    have KP149 : Keep h97 h109 [] := (KP148.trans K108 all0)
    have KP150 : Keep h97 h115 [] := (KP149.trans K114 all0)
    have KP151 : Keep h97 h121 [] := (KP150.trans K120 all0)
    have KP152 : Keep h97 h127 [] := (KP151.trans K126 all0)
    have KP153 : Keep h97 h133 [] := (KP152.trans K132 all0)
    have KP154 : Keep h97 h139 [] := (KP153.trans K138 all0)
    have KP155 : Keep h97 h145 [] := (KP154.trans K144 all0)
    refine GoKit.callVirtualP G at_75 (wi hw 82 rfl) (wi hw 83 rfl) (wi hw 85 rfl) (wi hw 84 rfl) (wi hw 7 rfl) (wi hw 86 rfl) (by decide) S147.1 (W := 0) (argsL := [(.ref a98)]) (rest := []) ((by have q := con_equals l hw (n0 := n0) S147 (S99.keep KP155) HC; rw [if_pos rfl] at q; exact q)) rfl (lenOf pd_13 rfl) rfl (by decide) (Nat.le_of_eq rfl) (by decide) (by decide) (by decide) (cells' := 23) (slots' := 68) rfl rfl (pc' := 78) rfl ?_
    show Run _ _ _ _ _ _ _ _ _ _ _ _ _ _ _ _ _ _ _ _ (mkF m 78 #[.val (.int p1), .val (.int p2), .val (.int p3), .val (.int p4), .val (.int (1 : Int32)), .val (.ref a98), .val (.ref a104), .val (.ref a110), .val (.ref es), .val (.ref a140), .unset] [(.int 1)])
    refine GoKit.istore G at_78 (Ls' := #[.val (.int p1), .val (.int p2), .val (.int p3), .val (.int p4), .val (.int (1 : Int32)), .val (.ref a98), .val (.ref a104), .val (.ref a110), .val (.ref es), .val (.ref a140), .val (.int 1)]) rfl (pc' := 80) rfl ?_
    refine GoKit.iload G at_80 rfl (pc' := 82) rfl ?_
    refine GoKit.if_eq_f G at_82 (by decide) (pc' := 85) rfl ?_
    refine GoKit.iloadN G at_85 rfl (pc' := 86) rfl ?_
    refine GoKit.callStatic G at_86 (wi hw 0 rfl) (wi hw 1 rfl) (wi hw 2 rfl) (wi hw 3 rfl) (by decide) (owc := []) (W := 0) (argsL := [(.int p2)]) (rest := []) (con_two l hw p2 HC) rfl (lenOf pd_9 rfl) rfl (by decide) (Nat.le_of_eq rfl) (by decide) (by decide) (by decide) (fun _ q => nomatch q) (cells' := 26) (slots' := 76) rfl rfl (pc' := 89) rfl (fun r156 h159 q157 K158 => ?_)
    obtain ⟨a160, rfl, S161⟩ := q157
    show Run _ _ _ _ _ _ _ _ _ _ _ _ _ _ _ _ _ _ _ _ (mkF m 89 #[.val (.int p1), .val (.int p2), .val (.int p3), .val (.int p4), .val (.int (1 : Int32)), .val (.ref a98), .val (.ref a104), .val (.ref a110), .val (.ref es), .val (.ref a140), .val (.int 1)] [(.ref a160)])
    refine GoKit.aload G at_89 rfl rfl (pc' := 91) rfl ?_
    refine GoKit.callVirtualP G at_91 (wi hw 92 rfl) (wi hw 93 rfl) (wi hw 95 rfl) (wi hw 94 rfl) (wi hw 36 rfl) (wi hw 96 rfl) (by decide) ((O141.1.keep K144).keep K158) (W := 1) (argsL := []) (rest := [(.ref a160)]) (con_getSubject l hw rfl ((O141.1.keep K144).keep K158) ((O141.2.2.1.keep K144 nin0).keep K158 nin0)) rfl (lenOf pd_12 rfl) rfl (by decide) (Nat.le_of_eq rfl) (by decide) (by decide) (by decide) (cells' := 26) (slots' := 76) rfl rfl (pc' := 94) rfl ?_
    show Run _ _ _ _ _ _ _ _ _ _ _ _ _ _ _ _ _ _ _ _ (mkF m 94 #[.val (.int p1), .val (.int p2), .val (.int p3), .val (.int p4), .val (.int (1 : Int32)), .val (.ref a98), .val (.ref a104), .val (.ref a110), .val (.ref es), .val (.ref a140), .val (.int 1)] [(.ref a104), (.ref a160)])
    have KP162 : Keep h103 h109 [] := ((Keep.refl h103 []).trans K108 all0)
    have KP163 : Keep h103 h115 [] := (KP162.trans K114 all0)
    have KP164 : Keep h103 h121 [] := (KP163.trans K120 all0)
    have KP165 : Keep h103 h127 [] := (KP164.trans K126 all0)
    have KP166 : Keep h103 h133 [] := (KP165.trans K132 all0)
    have KP167 : Keep h103 h139 [] := (KP166.trans K138 all0)
    have KP168 : Keep h103 h145 [] := (KP167.trans K144 all0)
    have KP169 : Keep h103 h159 [] := (KP168.trans K158 all0)
    refine GoKit.callVirtualP G at_94 (wi hw 82 rfl) (wi hw 83 rfl) (wi hw 85 rfl) (wi hw 84 rfl) (wi hw 7 rfl) (wi hw 86 rfl) (by decide) S161.1 (W := 0) (argsL := [(.ref a104)]) (rest := []) ((by have q := con_equals l hw (n0 := n0) S161 (S105.keep KP169) HC; rw [if_pos rfl] at q; exact q)) rfl (lenOf pd_13 rfl) rfl (by decide) (Nat.le_of_eq rfl) (by decide) (by decide) (by decide) (cells' := 26) (slots' := 76) rfl rfl (pc' := 97) rfl ?_
    show Run _ _ _ _ _ _ _ _ _ _ _ _ _ _ _ _ _ _ _ _ (mkF m 97 #[.val (.int p1), .val (.int p2), .val (.int p3), .val (.int p4), .val (.int (1 : Int32)), .val (.ref a98), .val (.ref a104), .val (.ref a110), .val (.ref es), .val (.ref a140), .val (.int 1)] [(.int 1)])
    refine GoKit.if_eq_f G at_97 (by decide) (pc' := 100) rfl ?_
    refine GoKit.iconst G (1 : Int32) at_100 rfl (pc' := 101) rfl ?_
    refine GoKit.goto G at_101 (by decide) (pc' := 105) rfl ?_
    refine GoKit.istore G at_105 (Ls' := #[.val (.int p1), .val (.int p2), .val (.int p3), .val (.int p4), .val (.int (1 : Int32)), .val (.ref a98), .val (.ref a104), .val (.ref a110), .val (.ref es), .val (.ref a140), .val (.int (1 : Int32))]) rfl (pc' := 107) rfl ?_
    refine GoKit.iload G at_107 rfl (pc' := 109) rfl ?_
    refine GoKit.if_eq_f G at_109 (by decide) (pc' := 112) rfl ?_
    refine GoKit.iloadN G at_112 rfl (pc' := 113) rfl ?_
    refine GoKit.callStatic G at_113 (wi hw 0 rfl) (wi hw 1 rfl) (wi hw 2 rfl) (wi hw 3 rfl) (by decide) (owc := []) (W := 0) (argsL := [(.int p3)]) (rest := []) (con_two l hw p3 HC) rfl (lenOf pd_9 rfl) rfl (by decide) (Nat.le_of_eq rfl) (by decide) (by decide) (by decide) (fun _ q => nomatch q) (cells' := 29) (slots' := 84) rfl rfl (pc' := 116) rfl (fun r170 h173 q171 K172 => ?_)
    obtain ⟨a174, rfl, S175⟩ := q171
    show Run _ _ _ _ _ _ _ _ _ _ _ _ _ _ _ _ _ _ _ _ (mkF m 116 #[.val (.int p1), .val (.int p2), .val (.int p3), .val (.int p4), .val (.int (1 : Int32)), .val (.ref a98), .val (.ref a104), .val (.ref a110), .val (.ref es), .val (.ref a140), .val (.int (1 : Int32))] [(.ref a174)])
    refine GoKit.aload G at_116 rfl rfl (pc' := 118) rfl ?_
    refine GoKit.callVirtualP G at_118 (wi hw 97 rfl) (wi hw 98 rfl) (wi hw 100 rfl) (wi hw 99 rfl) (wi hw 36 rfl) (wi hw 101 rfl) (by decide) (((O141.1.keep K144).keep K158).keep K172) (W := 1) (argsL := []) (rest := [(.ref a174)]) (con_getAddress l hw rfl (((O141.1.keep K144).keep K158).keep K172) (((O141.2.2.2.1.keep K144 nin0).keep K158 nin0).keep K172 nin0)) rfl (lenOf pd_12 rfl) rfl (by decide) (Nat.le_of_eq rfl) (by decide) (by decide) (by decide) (cells' := 29) (slots' := 84) rfl rfl (pc' := 121) rfl ?_
    show Run _ _ _ _ _ _ _ _ _ _ _ _ _ _ _ _ _ _ _ _ (mkF m 121 #[.val (.int p1), .val (.int p2), .val (.int p3), .val (.int p4), .val (.int (1 : Int32)), .val (.ref a98), .val (.ref a104), .val (.ref a110), .val (.ref es), .val (.ref a140), .val (.int (1 : Int32))] [(.ref a110), (.ref a174)])
    have KP176 : Keep h109 h115 [] := ((Keep.refl h109 []).trans K114 all0)
    have KP177 : Keep h109 h121 [] := (KP176.trans K120 all0)
    have KP178 : Keep h109 h127 [] := (KP177.trans K126 all0)
    have KP179 : Keep h109 h133 [] := (KP178.trans K132 all0)
    have KP180 : Keep h109 h139 [] := (KP179.trans K138 all0)
    have KP181 : Keep h109 h145 [] := (KP180.trans K144 all0)
    have KP182 : Keep h109 h159 [] := (KP181.trans K158 all0)
    have KP183 : Keep h109 h173 [] := (KP182.trans K172 all0)
    refine GoKit.callVirtualP G at_121 (wi hw 82 rfl) (wi hw 83 rfl) (wi hw 85 rfl) (wi hw 84 rfl) (wi hw 7 rfl) (wi hw 86 rfl) (by decide) S175.1 (W := 0) (argsL := [(.ref a110)]) (rest := []) ((by have q := con_equals l hw (n0 := n0) S175 (S111.keep KP183) HC; rw [if_pos rfl] at q; exact q)) rfl (lenOf pd_13 rfl) rfl (by decide) (Nat.le_of_eq rfl) (by decide) (by decide) (by decide) (cells' := 29) (slots' := 84) rfl rfl (pc' := 124) rfl ?_
    show Run _ _ _ _ _ _ _ _ _ _ _ _ _ _ _ _ _ _ _ _ (mkF m 124 #[.val (.int p1), .val (.int p2), .val (.int p3), .val (.int p4), .val (.int (1 : Int32)), .val (.ref a98), .val (.ref a104), .val (.ref a110), .val (.ref es), .val (.ref a140), .val (.int (1 : Int32))] [(.int 1)])
    refine GoKit.if_eq_f G at_124 (by decide) (pc' := 127) rfl ?_
    refine GoKit.iconst G (1 : Int32) at_127 rfl (pc' := 128) rfl ?_
    refine GoKit.goto G at_128 (by decide) (pc' := 132) rfl ?_
    refine GoKit.istore G at_132 (Ls' := #[.val (.int p1), .val (.int p2), .val (.int p3), .val (.int p4), .val (.int (1 : Int32)), .val (.ref a98), .val (.ref a104), .val (.ref a110), .val (.ref es), .val (.ref a140), .val (.int (1 : Int32))]) rfl (pc' := 134) rfl ?_
    refine GoKit.iload G at_134 rfl (pc' := 136) rfl ?_
    refine GoKit.if_eq_f G at_136 (by decide) (pc' := 139) rfl ?_
    refine GoKit.aload G at_139 rfl rfl (pc' := 141) rfl ?_
    refine GoKit.callVirtualP G at_141 (wi hw 102 rfl) (wi hw 103 rfl) (wi hw 105 rfl) (wi hw 104 rfl) (wi hw 36 rfl) (wi hw 106 rfl) (by decide) (((O141.1.keep K144).keep K158).keep K172) (W := 0) (argsL := []) (rest := []) (con_isAdministrator l hw (by decide) (((O141.1.keep K144).keep K158).keep K172) (((O141.2.2.2.2.2.1.keep K144 nin0).keep K158 nin0).keep K172 nin0)) rfl (lenOf pd_14 rfl) rfl (by decide) (Nat.le_of_eq rfl) (by decide) (by decide) (by decide) (cells' := 29) (slots' := 84) rfl rfl (pc' := 144) rfl ?_
    show Run _ _ _ _ _ _ _ _ _ _ _ _ _ _ _ _ _ _ _ _ (mkF m 144 #[.val (.int p1), .val (.int p2), .val (.int p3), .val (.int p4), .val (.int (1 : Int32)), .val (.ref a98), .val (.ref a104), .val (.ref a110), .val (.ref es), .val (.ref a140), .val (.int (1 : Int32))] [(.int (1 : Int32))])
    refine GoKit.iload G at_144 rfl (pc' := 146) rfl ?_
    refine GoKit.icmp_ne_f G at_146 (by decide) (pc' := 149) rfl ?_
    refine GoKit.iconst G (1 : Int32) at_149 rfl (pc' := 150) rfl ?_
    refine GoKit.goto G at_150 (by decide) (pc' := 154) rfl ?_
    refine GoKit.istore G at_154 (Ls' := #[.val (.int p1), .val (.int p2), .val (.int p3), .val (.int p4), .val (.int (1 : Int32)), .val (.ref a98), .val (.ref a104), .val (.ref a110), .val (.ref es), .val (.ref a140), .val (.int (1 : Int32))]) rfl (pc' := 156) rfl ?_
    refine GoKit.iload G at_156 rfl (pc' := 158) rfl ?_
    refine GoKit.if_eq_f G at_158 (by decide) (pc' := 161) rfl ?_
    refine GoKit.aload G at_161 rfl rfl (pc' := 163) rfl ?_
    refine GoKit.callVirtualP G at_163 (wi hw 107 rfl) (wi hw 108 rfl) (wi hw 110 rfl) (wi hw 109 rfl) (wi hw 36 rfl) (wi hw 111 rfl) (by decide) (((O141.1.keep K144).keep K158).keep K172) (W := 0) (argsL := []) (rest := []) (con_getIdentifier l hw rfl (((O141.1.keep K144).keep K158).keep K172) (((O141.2.2.2.2.2.2.keep K144 nin0).keep K158 nin0).keep K172 nin0)) rfl (lenOf pd_12 rfl) rfl (by decide) (Nat.le_of_eq rfl) (by decide) (by decide) (by decide) (cells' := 29) (slots' := 84) rfl rfl (pc' := 166) rfl ?_
    show Run _ _ _ _ _ _ _ _ _ _ _ _ _ _ _ _ _ _ _ _ (mkF m 166 #[.val (.int p1), .val (.int p2), .val (.int p3), .val (.int p4), .val (.int (1 : Int32)), .val (.ref a98), .val (.ref a104), .val (.ref a110), .val (.ref es), .val (.ref a140), .val (.int (1 : Int32))] [.null])
    refine GoKit.ifnonnull_f G at_166 (pc' := 169) rfl ?_
    refine GoKit.iconst G (1 : Int32) at_169 rfl (pc' := 170) rfl ?_
    refine GoKit.goto G at_170 (by decide) (pc' := 174) rfl ?_
    refine GoKit.istore G at_174 (Ls' := #[.val (.int p1), .val (.int p2), .val (.int p3), .val (.int p4), .val (.int (1 : Int32)), .val (.ref a98), .val (.ref a104), .val (.ref a110), .val (.ref es), .val (.ref a140), .val (.int (1 : Int32))]) rfl (pc' := 176) rfl ?_
    refine GoKit.iload G at_176 rfl (pc' := 178) rfl ?_
    refine GoKit.if_eq_f G at_178 (by decide) (pc' := 181) rfl ?_
    refine GoKit.aload G at_181 rfl rfl (pc' := 183) rfl ?_
    refine GoKit.callVirtualP G at_183 (wi hw 69 rfl) (wi hw 70 rfl) (wi hw 72 rfl) (wi hw 71 rfl) (wi hw 36 rfl) (wi hw 73 rfl) (by decide) (((O141.1.keep K144).keep K158).keep K172) (W := 0) (argsL := []) (rest := []) (con_getGroups l hw rfl (((O141.1.keep K144).keep K158).keep K172) (((O141.2.2.2.2.1.keep K144 nin0).keep K158 nin0).keep K172 nin0)) rfl (lenOf pd_7 rfl) rfl (by decide) (Nat.le_of_eq rfl) (by decide) (by decide) (by decide) (cells' := 29) (slots' := 84) rfl rfl (pc' := 186) rfl ?_
    show Run _ _ _ _ _ _ _ _ _ _ _ _ _ _ _ _ _ _ _ _ (mkF m 186 #[.val (.int p1), .val (.int p2), .val (.int p3), .val (.int p4), .val (.int (1 : Int32)), .val (.ref a98), .val (.ref a104), .val (.ref a110), .val (.ref es), .val (.ref a140), .val (.int (1 : Int32))] [(.ref es)])
    refine GoKit.aload G at_186 rfl rfl (pc' := 188) rfl ?_
    refine Run.know (fun EZ184 _ _ => ?_)
    refine GoKit.callFaceP G at_188 (wi hw 112 rfl) (wi hw 113 rfl) (wi hw 115 rfl) (fun _ _ hZ => mv hZ (wi hw 114 rfl)) (wi hw 117 rfl) (wi hw 118 rfl) (wi hw 62 rfl) (wi hw 116 rfl) (wi hw 119 rfl) (wi hw 120 rfl) (by decide) (HS.2.ext EZ184) (W := 0) (argsL := [(.ref es)]) (rest := []) (con_setEq l hw) rfl (lenOf pd_13 rfl) rfl (by decide) (Nat.le_of_eq rfl) (by decide) (by decide) (by decide) (cells' := 29) (slots' := 84) rfl rfl (pc' := 193) rfl ?_
    show Run _ _ _ _ _ _ _ _ _ _ _ _ _ _ _ _ _ _ _ _ (mkF m 193 #[.val (.int p1), .val (.int p2), .val (.int p3), .val (.int p4), .val (.int (1 : Int32)), .val (.ref a98), .val (.ref a104), .val (.ref a110), .val (.ref es), .val (.ref a140), .val (.int (1 : Int32))] [(.int 1)])
    refine GoKit.if_eq_f G at_193 (by decide) (pc' := 196) rfl ?_
    refine GoKit.iconst G (1 : Int32) at_196 rfl (pc' := 197) rfl ?_
    refine GoKit.goto G at_197 (by decide) (pc' := 201) rfl ?_
    refine GoKit.istore G at_201 (Ls' := #[.val (.int p1), .val (.int p2), .val (.int p3), .val (.int p4), .val (.int (1 : Int32)), .val (.ref a98), .val (.ref a104), .val (.ref a110), .val (.ref es), .val (.ref a140), .val (.int (1 : Int32))]) rfl (pc' := 203) rfl ?_
    refine GoKit.iload G at_203 rfl (pc' := 205) rfl ?_
    refine GoKit.retNar G at_205 (t := .boolean) rfl (by simp) (by decide) (by decide) ?_
    exact rfl
set_option maxRecDepth 65536 in
set_option maxHeartbeats 40000000 in
theorem comes_1 {Post : Tables → Env → Array Value → State → Outcome → State → Prop} (hpost : ∀ tb e args s v u, (limb_1_1.after args s (.returned v) u = true ∧ limb_1_2.after args s (.returned v) u = true ∧ True) → FrameEnd s (.returned v) u (Jvm.fieldLocs frame_1_writes args s ++ Jvm.arrayLocs frame_1_arrays args s ++ Jvm.staticLocs frame_1_statics s) 72 256 → Post tb e args s (.returned v) u) :
    ArmFor flags0 classFile x code maxLocals ret World_1 tables_1 room_1 Calls_1 rest_1 Pre_1 Post := by
  intro l hfl _ _ p e ha hc hk s m args below hf hA hF happ hP
  obtain ⟨hcalls, hrest, hpre⟩ := hP
  obtain ⟨-, -, -, hnamed, -, -, -, hat⟩ := (Spec.applies_iff hf).mp happ
  obtain ⟨hg, hn⟩ := and_e (Cond.before_iff.mp (show (Jvm.Cond.and given_1 narrow_1).before args s = true from hpre))
  obtain ⟨gc, g0⟩ := and_e hg
  obtain ⟨t0, g1⟩ := and_e g0
  obtain ⟨t1, g2⟩ := and_e g1
  obtain ⟨t2, g3⟩ := and_e g2
  have t3 := g3
  obtain ⟨w0, w1, w2, w3, rfl⟩ : ∃ w0 w1 w2 w3 : Value, args = #[w0, w1, w2, w3] := by
    have hs : args.size = 4 := by simpa [Cond.value, given_1] using gc
    obtain ⟨L⟩ := args
    match L, hs with
    | [w0, w1, w2, w3], _ => exact ⟨w0, w1, w2, w3, rfl⟩
  have hw := fun d (hd : d ∈ tables_1) => atoms_spec (ws := Jvm.Cond.code x code maxLocals ret :: tables_1) hat d (List.mem_cons_of_mem _ hd)
  have hfit : Fit s := fun {y c} hc i hi => by
    obtain ⟨ha, rfl⟩ := Array.getElem?_eq_some_iff.mp hc
    have q := List.all_eq_true.mp ((Array.all_eq_true_iff_forall_mem.mp hF) _ (Array.getElem_mem ha)) i (List.mem_range.mpr hi)
    simpa [Array.getElem?_eq_getElem hi] using q
  obtain ⟨hsets, hown0⟩ := atoms_of _ (rest_1_c_eq ▸ (show rest_1_c.before _ s = true from hrest))
  obtain ⟨i0, ei0⟩ := is_v t0
  obtain rfl : w0 = (.int i0) := Option.some.inj ei0
  obtain ⟨i1, ei1⟩ := is_v t1
  obtain rfl : w1 = (.int i1) := Option.some.inj ei1
  obtain ⟨i2, ei2⟩ := is_v t2
  obtain rfl : w2 = (.int i2) := Option.some.inj ei2
  obtain ⟨i3, ei3⟩ := is_v t3
  obtain rfl : w3 = (.int i3) := Option.some.inj ei3
  have HC : Cst s := by
    obtain ⟨cz, ecz⟩ := is_v (Cond.before_iff.mp (hsets _ (List.mem_of_getElem? (i := 1) rfl)))
    refine ⟨cz, Sta.start ecz (Or.inl (hsets _ (List.mem_of_getElem? (i := 0) rfl))), fun q => ?_⟩
    have := Cond.before_iff.mp (hsets _ (List.mem_of_getElem? (i := 2) rfl))
    subst q
    simp [Cond.value, ecz, Term.int_eval] at this
  obtain ⟨es, HS⟩ : ∃ es, ESet s es := by
    have hx := (hsets _ (List.mem_of_getElem? (i := 11) rfl))
    obtain ⟨es, c', cell, k, e1, e2⟩ := Cond.exactly_spec hx
    exact ⟨es, Sta.start e1 (Or.inl (hsets _ (List.mem_of_getElem? (i := 10) rfl))), Exa.start e1 (Cond.before_iff.mp hx)⟩
  have hCH : CHv s ELs s.vm s.heap := fun _ hp => nomatch hp
  obtain ⟨n, o, h1, h2, h3, v, L, rfl, rfl, N, -, -, hE, hWd⟩ := (con_law l hw i0 i1 i2 i3 HC HS) p e ha hc hk s m _ below hf ((Spec.applies_iff_loose hf).mp happ).1 ⟨rfl, State.Warmed39.refl s, rfl, Old.start s, hCH, all0⟩ trivial
  rcases hWd with hWd | hWd
  · cases hWd
  exact ⟨n, _, h1, h2, h3, hpost _ _ _ _ _ _ ⟨Cond.after_iff.mpr rfl, Cond.after_iff.mpr (eq_i res_at (Term.int_eval (1)) rfl), trivial⟩ ⟨hE.1, hWd, (hE.2.2.2.sift fun y hy => Or.inr (N y hy)).mono (by decide) (by decide)⟩⟩
theorem main_1_1 : Claimed_1_1 := comes_1 fun _ _ _ _ _ _ h hF => ⟨h.1, hF⟩
theorem main_1_2 : Claimed_1_2 := comes_1 fun _ _ _ _ _ _ h hF => ⟨h.2.1, hF⟩
end Jvm.Pilot.@@N@@
namespace Jvm.Pilot.@@N@@
open Jvm Jvm.ClassFile Sem Op Lib Jvm.Free Jvm.Stand Jvm.Pilot.@@N@@.Jvm.D
/-! MADE BY PROGRAM (witnessworld.py) out of the Statement's table words and the real class files: 29 classes; the members and pool entries that the words name. The judged class is class 1, her method 2. -/
namespace start1
open Jvm.ClassFile
def u (s : String) : CpInfo := .utf8 (stringToUtf16 s)
/-- a pool by its gaps: so many unusable entries, then the entry; so many at the end -/
def gap : Nat → List CpInfo → List CpInfo
  | 0, r => r
  | n + 1, r => .unusable :: gap n r
def poolList (es : List (Nat × CpInfo)) (last : Nat) : List CpInfo := es.foldr (fun e r => gap e.1 (e.2 :: r)) (gap last [])
def pool (es : List (Nat × CpInfo)) (last : Nat) : Array CpInfo := ⟨poolList es last⟩
def fileOf (pool : Array CpInfo) (this : Nat) (attrs : Array Attribute := #[]) (ms : Array MethodInfo := #[]) (fl : Nat := 33) (sup : Nat := 0) (ifs : Array Nat := #[]) (fds : Array FieldInfo := #[]) : ClassFile where
  minorVersion := 0
  majorVersion := 65
  constantPool := pool
  accessFlags := fl
  thisClass := this
  superClass := sup
  interfaces := ifs
  fields := fds
  methods := ms
  attributes := attrs
def plain (name : String) (sup : Option ClassId) : Class where
  name := name
  kind := .ordinary
  loader := none
  accessFlags := 33
  super := sup
  interfaces := #[]
  cf := none
  fields := #[]
  methods := #[]
  instanceTypes := #[]
  staticTypes := #[]
  resolved := #[]
  callSites := []
  init := .initialized
  statics := none
  mirror := none

def pool0 : Array CpInfo := pool [(5, u "<init>"), (0, u "()V"), (1, .class_ 10), (1, u "java/lang/Object")] 113

def k0c0 : Code := { maxStack := 0, maxLocals := 1, code := object_method_1_code, exceptionTable := #[], attributes := #[] }
def k0m0 : Method := { name := "<init>", desc := "()V", sig := { parameters := [], returnType := none }, accessFlags := 1, code := some k0c0 }
/-- java/lang/Object -/
def k0 : Class := { plain "java/lang/Object" none with
  accessFlags := 33
  interfaces := #[]
  cf := some (fileOf pool0 8 #[] #[{ accessFlags := 1, nameIndex := 5, descriptorIndex := 6, attributes := #[] }] 33 0 #[] #[])
  fields := #[]
  methods := #[k0m0]
  instanceTypes := #[]
  staticTypes := #[]
  resolved := Array.replicate 124 none
  statics := none }

def pool1 : Array CpInfo := pool [(2, .class_ 4), (1, u "java/lang/Object"), (0, u "<init>"), (0, u "()V"), (0, .class_ 8), (0, u "java/lang/String"), (0, .methodref 7 10), (0, .nameAndType 5 11), (0, u "([C)V"), (0, .methodref 13 14), (0, .class_ 15), (0, .nameAndType 16 17), (0, u "com/example/lucid_rationale/lucidrationale/login/IdentityOfStaffPinLaw"), (0, u "two"), (0, u "(I)Ljava/lang/String;"), (0, .methodref 19 20), (0, .class_ 21), (0, .nameAndType 22 23), (0, u "com/example/lucid_rationale/lucidrationale/login/Identity"), (0, u "ofOutsider"), (0, u "(Ljava/lang/String;Ljava/lang/String;Ljava/lang/String;)Lcom/example/lucid_rationale/lucidrationale/login/Identity;"), (0, .methodref 19 25), (0, .nameAndType 26 27), (0, u "getGroups"), (0, u "()Ljava/util/Set;"), (0, .methodref 19 29), (0, .nameAndType 30 31), (0, u "ofStaff"), (0, u "(Ljava/lang/String;Ljava/lang/String;Ljava/lang/String;Ljava/util/Set;Z)Lcom/example/lucid_rationale/lucidrationale/login/Identity;"), (0, .methodref 19 33), (0, .nameAndType 34 35), (0, u "getIssuer"), (0, u "()Ljava/lang/String;"), (0, .methodref 7 37), (0, .nameAndType 38 39), (0, u "equals"), (0, u "(Ljava/lang/Object;)Z"), (0, .methodref 19 41), (0, .nameAndType 42 35), (0, u "getSubject"), (0, .methodref 19 44), (0, .nameAndType 45 35), (0, u "getAddress"), (0, .methodref 19 47), (0, .nameAndType 48 49), (0, u "isAdministrator"), (0, u "()Z"), (0, .methodref 19 51), (0, .nameAndType 52 35), (0, u "getIdentifier"), (0, .interfaceMethodref 54 37), (0, .class_ 55), (0, u "java/util/Set"), (2, u "law"), (0, u "(IIII)Z")] 3

def k1m0 : Method := { name := "<init>", desc := "()V", sig := { parameters := [], returnType := none }, accessFlags := 1, code := none }
def k1c1 : Code := { maxStack := 4, maxLocals := 2, code := method_2_code, exceptionTable := #[], attributes := #[] }
def k1m1 : Method := { name := "two", desc := "(I)Ljava/lang/String;", sig := { parameters := [.int], returnType := some (.object "java/lang/String") }, accessFlags := 10, code := some k1c1 }
def k1c2 : Code := { maxStack := 5, maxLocals := 11, code := code, exceptionTable := #[], attributes := #[] }
def k1m2 : Method := { name := "law", desc := "(IIII)Z", sig := { parameters := [.int, .int, .int, .int], returnType := some .boolean }, accessFlags := 9, code := some k1c2 }
/-- com/example/lucid_rationale/lucidrationale/login/IdentityOfStaffPinLaw -/
def k1 : Class := { plain "com/example/lucid_rationale/lucidrationale/login/IdentityOfStaffPinLaw" (some 0) with
  accessFlags := 49
  interfaces := #[]
  cf := some (fileOf pool1 13 #[] #[{ accessFlags := 1, nameIndex := 5, descriptorIndex := 6, attributes := #[] }, { accessFlags := 10, nameIndex := 16, descriptorIndex := 17, attributes := #[] }, { accessFlags := 9, nameIndex := 58, descriptorIndex := 59, attributes := #[] }] 49 2 #[] #[])
  fields := #[]
  methods := #[k1m0, k1m1, k1m2]
  instanceTypes := #[]
  staticTypes := #[]
  resolved := Array.replicate 63 none
  statics := none }

def pool2 : Array CpInfo := pool [(1, .class_ 2), (0, u "java/io/Serializable"), (0, .class_ 4), (0, u "java/lang/Object")] 2

/-- java/io/Serializable -/
def k2 : Class := { plain "java/io/Serializable" (some 0) with
  accessFlags := 1537
  interfaces := #[]
  cf := some (fileOf pool2 1 #[] #[] 1537 3 #[] #[])
  fields := #[]
  methods := #[]
  instanceTypes := #[]
  staticTypes := #[]
  resolved := Array.replicate 7 none
  statics := none }

def pool3 : Array CpInfo := pool [(1, .class_ 2), (0, u "java/lang/Comparable"), (0, .class_ 4), (0, u "java/lang/Object")] 7

/-- java/lang/Comparable -/
def k3 : Class := { plain "java/lang/Comparable" (some 0) with
  accessFlags := 1537
  interfaces := #[]
  cf := some (fileOf pool3 1 #[] #[] 1537 3 #[] #[])
  fields := #[]
  methods := #[]
  instanceTypes := #[]
  staticTypes := #[]
  resolved := Array.replicate 12 none
  statics := none }

def pool4 : Array CpInfo := pool [(2, .class_ 4), (1, u "java/lang/CharSequence"), (42, .class_ 48), (0, u "java/lang/CharSequence$1CodePointIterator"), (10, .class_ 60), (0, u "java/lang/CharSequence$1CharIterator"), (5, .class_ 67), (0, u "java/lang/Object")] 63

/-- java/lang/CharSequence -/
def k4 : Class := { plain "java/lang/CharSequence" (some 0) with
  accessFlags := 1537
  interfaces := #[]
  cf := some (fileOf pool4 2 #[.nestMembers #[47, 59]] #[] 1537 66 #[] #[])
  fields := #[]
  methods := #[]
  instanceTypes := #[]
  staticTypes := #[]
  resolved := Array.replicate 131 none
  statics := none }

def pool5 : Array CpInfo := pool [(1, .class_ 2), (0, u "java/lang/constant/Constable"), (0, .class_ 4), (0, u "java/lang/Object")] 6

/-- java/lang/constant/Constable -/
def k5 : Class := { plain "java/lang/constant/Constable" (some 0) with
  accessFlags := 1537
  interfaces := #[]
  cf := some (fileOf pool5 1 #[] #[] 1537 3 #[] #[])
  fields := #[]
  methods := #[]
  instanceTypes := #[]
  staticTypes := #[]
  resolved := Array.replicate 11 none
  statics := none }

def pool6 : Array CpInfo := pool [(1, .class_ 2), (0, u "java/lang/constant/ConstantDesc"), (0, .class_ 4), (0, u "java/lang/Object")] 32

/-- java/lang/constant/ConstantDesc -/
def k6 : Class := { plain "java/lang/constant/ConstantDesc" (some 0) with
  accessFlags := 1537
  interfaces := #[]
  cf := some (fileOf pool6 1 #[] #[] 1537 3 #[] #[])
  fields := #[]
  methods := #[]
  instanceTypes := #[]
  staticTypes := #[]
  resolved := Array.replicate 37 none
  statics := none }

def pool7 : Array CpInfo := pool [(1, .methodref 2 3), (0, .class_ 4), (0, .nameAndType 5 6), (0, u "java/lang/Object"), (0, u "<init>"), (0, u "()V"), (2, .fieldref 10 11), (0, .class_ 12), (0, .nameAndType 13 14), (0, u "java/lang/String"), (0, u "value"), (0, u "[B"), (0, .fieldref 10 16), (0, .nameAndType 17 18), (0, u "coder"), (0, u "B"), (2, u "hash"), (0, u "I"), (2, u "hashIsZero"), (0, u "Z"), (0, .methodref 10 28), (0, .nameAndType 5 29), (0, u "([CIILjava/lang/Void;)V"), (8, .fieldref 10 39), (0, .nameAndType 40 26), (0, u "COMPACT_STRINGS"), (1, .class_ 44), (1, u "java/lang/StringUTF16"), (0, u "compress"), (1, .methodref 42 48), (0, .nameAndType 49 50), (0, u "coderFromArrayLen"), (0, u "([BI)B"), (56, .class_ 109), (1, u "java/lang/StringLatin1"), (67, .methodref 42 178), (0, .nameAndType 45 179), (0, u "([CII)[B"), (361, .methodref 107 542), (0, .nameAndType 543 544), (0, u "equals"), (0, u "([B[B)Z"), (28, u "(Ljava/lang/Object;)Z"), (1, .class_ 576), (0, u "java/lang/CharSequence"), (22, u "CASE_INSENSITIVE_ORDER"), (0, u "Ljava/util/Comparator;"), (409, u "([C)V"), (90, u "serialPersistentFields"), (0, u "[Ljava/io/ObjectStreamField;"), (0, .class_ 1104), (0, u "java/lang/String$CaseInsensitiveComparator"), (1, .class_ 1107), (0, u "java/io/Serializable"), (0, .class_ 1109), (0, u "java/lang/Comparable"), (0, .class_ 1111), (0, u "java/lang/constant/Constable"), (0, .class_ 1113), (0, u "java/lang/constant/ConstantDesc"), (2, u "serialVersionUID"), (0, u "J"), (3, u "REPL"), (0, u "C"), (2, u "LATIN1"), (1, u "UTF16")] 323

def k7m0 : Method := { name := "<init>", desc := "()V", sig := { parameters := [], returnType := none }, accessFlags := 1, code := none }
def k7c1 : Code := { maxStack := 5, maxLocals := 2, code := jdk_42_method_3_code, exceptionTable := #[], attributes := #[] }
def k7m1 : Method := { name := "<init>", desc := "([C)V", sig := { parameters := [(.array .char)], returnType := none }, accessFlags := 1, code := some k7c1 }
def k7c2 : Code := { maxStack := 2, maxLocals := 3, code := jdk_42_method_66_code, exceptionTable := #[], attributes := #[] }
def k7m2 : Method := { name := "equals", desc := "(Ljava/lang/Object;)Z", sig := { parameters := [(.object "java/lang/Object")], returnType := some .boolean }, accessFlags := 1, code := some k7c2 }
def k7c3 : Code := { maxStack := 4, maxLocals := 6, code := jdk_42_method_149_code, exceptionTable := #[], attributes := #[] }
def k7m3 : Method := { name := "<init>", desc := "([CIILjava/lang/Void;)V", sig := { parameters := [(.array .char), .int, .int, (.object "java/lang/Void")], returnType := none }, accessFlags := 2, code := some k7c3 }
/-- java/lang/String -/
def k7 : Class := { plain "java/lang/String" (some 0) with
  accessFlags := 49
  interfaces := #[2, 3, 4, 5, 6]
  cf := some (fileOf pool7 10 #[.nestMembers #[1103]] #[{ accessFlags := 1, nameIndex := 5, descriptorIndex := 6, attributes := #[] }, { accessFlags := 1, nameIndex := 5, descriptorIndex := 1010, attributes := #[] }, { accessFlags := 1, nameIndex := 543, descriptorIndex := 573, attributes := #[] }, { accessFlags := 2, nameIndex := 5, descriptorIndex := 29, attributes := #[] }] 49 2 #[1106, 1108, 575, 1110, 1112] #[{ accessFlags := 18, nameIndex := 13, descriptorIndex := 14, attributes := #[] }, { accessFlags := 18, nameIndex := 17, descriptorIndex := 18, attributes := #[] }, { accessFlags := 2, nameIndex := 21, descriptorIndex := 22, attributes := #[] }, { accessFlags := 2, nameIndex := 25, descriptorIndex := 26, attributes := #[] }, { accessFlags := 26, nameIndex := 1116, descriptorIndex := 1117, attributes := #[] }, { accessFlags := 24, nameIndex := 40, descriptorIndex := 26, attributes := #[] }, { accessFlags := 26, nameIndex := 1101, descriptorIndex := 1102, attributes := #[] }, { accessFlags := 26, nameIndex := 1121, descriptorIndex := 1122, attributes := #[] }, { accessFlags := 25, nameIndex := 599, descriptorIndex := 600, attributes := #[] }, { accessFlags := 24, nameIndex := 1125, descriptorIndex := 18, attributes := #[] }, { accessFlags := 24, nameIndex := 1127, descriptorIndex := 18, attributes := #[] }])
  fields := #[{ name := "value", type := (.array .byte), accessFlags := 18, slot := 0, constantValue := 0 }, { name := "coder", type := .byte, accessFlags := 18, slot := 1, constantValue := 0 }, { name := "hash", type := .int, accessFlags := 2, slot := 2, constantValue := 0 }, { name := "hashIsZero", type := .boolean, accessFlags := 2, slot := 3, constantValue := 0 }, { name := "serialVersionUID", type := .long, accessFlags := 26, slot := 0, constantValue := 0 }, { name := "COMPACT_STRINGS", type := .boolean, accessFlags := 24, slot := 1, constantValue := 0 }, { name := "serialPersistentFields", type := (.array (.object "java/io/ObjectStreamField")), accessFlags := 26, slot := 2, constantValue := 0 }, { name := "REPL", type := .char, accessFlags := 26, slot := 3, constantValue := 0 }, { name := "CASE_INSENSITIVE_ORDER", type := (.object "java/util/Comparator"), accessFlags := 25, slot := 4, constantValue := 0 }, { name := "LATIN1", type := .byte, accessFlags := 24, slot := 5, constantValue := 0 }, { name := "UTF16", type := .byte, accessFlags := 24, slot := 6, constantValue := 0 }]
  methods := #[k7m0, k7m1, k7m2, k7m3]
  instanceTypes := #[(.array .byte), .byte, .int, .boolean]
  staticTypes := #[.long, .boolean, (.array (.object "java/io/ObjectStreamField")), .char, (.object "java/util/Comparator"), .byte, .byte]
  resolved := Array.replicate 1451 none
  statics := some 0 }

def pool8 : Array CpInfo := pool [(6, .class_ 8), (1, u "java/lang/Object"), (0, u "<init>"), (0, u "()V"), (1, .class_ 14), (1, u "java/lang/StringUTF16"), (31, u "$assertionsDisabled"), (0, u "Z"), (13, u "HI_BYTE_SHIFT"), (0, u "I"), (2, u "LO_BYTE_SHIFT"), (49, .methodref 12 116), (0, .nameAndType 117 118), (0, u "compress"), (0, u "([CI[BII)I"), (3, u "([CII)[B"), (138, u "coderFromArrayLen"), (0, u "([BI)B"), (106, .class_ 371), (1, u "java/lang/StringUTF16$LinesSpliterator"), (58, u "MAX_LENGTH"), (196, .class_ 628), (0, u "java/lang/StringUTF16$CodePointsSpliterator"), (0, .class_ 630), (0, u "java/lang/StringUTF16$CharsSpliterator")] 4

def k8m0 : Method := { name := "<init>", desc := "()V", sig := { parameters := [], returnType := none }, accessFlags := 0, code := none }
def k8c1 : Code := { maxStack := 2, maxLocals := 2, code := jdk_52_method_15_code, exceptionTable := #[], attributes := #[] }
def k8m1 : Method := { name := "coderFromArrayLen", desc := "([BI)B", sig := { parameters := [(.array .byte), .int], returnType := some .byte }, accessFlags := 8, code := some k8c1 }
def k8c2 : Code := { maxStack := 5, maxLocals := 6, code := jdk_52_method_16_code, exceptionTable := #[], attributes := #[] }
def k8m2 : Method := { name := "compress", desc := "([CII)[B", sig := { parameters := [(.array .char), .int, .int], returnType := some (.array .byte) }, accessFlags := 9, code := some k8c2 }
def k8c3 : Code := { maxStack := 3, maxLocals := 7, code := jdk_52_method_21_code, exceptionTable := #[], attributes := #[] }
def k8m3 : Method := { name := "compress", desc := "([CI[BII)I", sig := { parameters := [(.array .char), .int, (.array .byte), .int, .int], returnType := some .int }, accessFlags := 9, code := some k8c3 }
/-- java/lang/StringUTF16 -/
def k8 : Class := { plain "java/lang/StringUTF16" (some 0) with
  accessFlags := 48
  interfaces := #[]
  cf := some (fileOf pool8 12 #[.nestMembers #[627, 629, 369]] #[{ accessFlags := 0, nameIndex := 9, descriptorIndex := 10, attributes := #[] }, { accessFlags := 8, nameIndex := 261, descriptorIndex := 262, attributes := #[] }, { accessFlags := 9, nameIndex := 117, descriptorIndex := 122, attributes := #[] }, { accessFlags := 9, nameIndex := 117, descriptorIndex := 118, attributes := #[] }] 48 6 #[] #[{ accessFlags := 26, nameIndex := 61, descriptorIndex := 62, attributes := #[] }, { accessFlags := 26, nameIndex := 65, descriptorIndex := 62, attributes := #[] }, { accessFlags := 24, nameIndex := 430, descriptorIndex := 62, attributes := #[] }, { accessFlags := 4120, nameIndex := 46, descriptorIndex := 47, attributes := #[] }])
  fields := #[{ name := "HI_BYTE_SHIFT", type := .int, accessFlags := 26, slot := 0, constantValue := 0 }, { name := "LO_BYTE_SHIFT", type := .int, accessFlags := 26, slot := 1, constantValue := 0 }, { name := "MAX_LENGTH", type := .int, accessFlags := 24, slot := 2, constantValue := 0 }, { name := "$assertionsDisabled", type := .boolean, accessFlags := 4120, slot := 3, constantValue := 0 }]
  methods := #[k8m0, k8m1, k8m2, k8m3]
  instanceTypes := #[]
  staticTypes := #[.int, .int, .int, .boolean]
  resolved := Array.replicate 635 none
  statics := none }

def pool9 : Array CpInfo := pool [(1, .methodref 2 3), (0, .class_ 4), (0, .nameAndType 5 6), (0, u "java/lang/Object"), (0, u "<init>"), (0, u "()V"), (0, .fieldref 8 9), (0, .class_ 10), (0, .nameAndType 11 12), (0, u "com/example/lucid_rationale/lucidrationale/login/Identity"), (0, u "issuer"), (0, u "Ljava/lang/String;"), (0, .fieldref 8 14), (0, .nameAndType 15 12), (0, u "subject"), (0, .fieldref 8 17), (0, .nameAndType 18 12), (0, u "address"), (0, .interfaceMethodref 20 21), (0, .class_ 22), (0, .nameAndType 23 24), (0, u "java/util/Set"), (0, u "copyOf"), (0, u "(Ljava/util/Collection;)Ljava/util/Set;"), (0, .fieldref 8 26), (0, .nameAndType 27 28), (0, u "groups"), (0, u "Ljava/util/Set;"), (0, .fieldref 8 30), (0, .nameAndType 31 32), (0, u "administrator"), (0, u "Z"), (0, .fieldref 8 34), (0, .nameAndType 35 12), (0, u "identifier"), (0, .methodref 8 37), (0, .nameAndType 5 38), (0, u "(Ljava/lang/String;Ljava/lang/String;Ljava/lang/String;Ljava/util/Set;ZLjava/lang/String;)V"), (0, .interfaceMethodref 20 40), (0, .nameAndType 41 42), (0, u "of"), (0, u "()Ljava/util/Set;"), (5, u "ofStaff"), (0, u "(Ljava/lang/String;Ljava/lang/String;Ljava/lang/String;Ljava/util/Set;Z)Lcom/example/lucid_rationale/lucidrationale/login/Identity;"), (1, u "ofOutsider"), (0, u "(Ljava/lang/String;Ljava/lang/String;Ljava/lang/String;)Lcom/example/lucid_rationale/lucidrationale/login/Identity;"), (0, u "getIssuer"), (0, u "()Ljava/lang/String;"), (0, u "getSubject"), (0, u "getAddress"), (0, u "getGroups"), (1, u "isAdministrator"), (0, u "()Z"), (0, u "getIdentifier")] 2

def k9c0 : Code := { maxStack := 2, maxLocals := 7, code := prog_7_method_1_code, exceptionTable := #[], attributes := #[] }
def k9m0 : Method := { name := "<init>", desc := "(Ljava/lang/String;Ljava/lang/String;Ljava/lang/String;Ljava/util/Set;ZLjava/lang/String;)V", sig := { parameters := [(.object "java/lang/String"), (.object "java/lang/String"), (.object "java/lang/String"), (.object "java/util/Set"), .boolean, (.object "java/lang/String")], returnType := none }, accessFlags := 2, code := some k9c0 }
def k9c1 : Code := { maxStack := 8, maxLocals := 5, code := prog_7_method_2_code, exceptionTable := #[], attributes := #[] }
def k9m1 : Method := { name := "ofStaff", desc := "(Ljava/lang/String;Ljava/lang/String;Ljava/lang/String;Ljava/util/Set;Z)Lcom/example/lucid_rationale/lucidrationale/login/Identity;", sig := { parameters := [(.object "java/lang/String"), (.object "java/lang/String"), (.object "java/lang/String"), (.object "java/util/Set"), .boolean], returnType := some (.object "com/example/lucid_rationale/lucidrationale/login/Identity") }, accessFlags := 8, code := some k9c1 }
def k9c2 : Code := { maxStack := 8, maxLocals := 3, code := prog_7_method_3_code, exceptionTable := #[], attributes := #[] }
def k9m2 : Method := { name := "ofOutsider", desc := "(Ljava/lang/String;Ljava/lang/String;Ljava/lang/String;)Lcom/example/lucid_rationale/lucidrationale/login/Identity;", sig := { parameters := [(.object "java/lang/String"), (.object "java/lang/String"), (.object "java/lang/String")], returnType := some (.object "com/example/lucid_rationale/lucidrationale/login/Identity") }, accessFlags := 8, code := some k9c2 }
def k9c3 : Code := { maxStack := 1, maxLocals := 1, code := prog_7_method_4_code, exceptionTable := #[], attributes := #[] }
def k9m3 : Method := { name := "getIssuer", desc := "()Ljava/lang/String;", sig := { parameters := [], returnType := some (.object "java/lang/String") }, accessFlags := 1, code := some k9c3 }
def k9c4 : Code := { maxStack := 1, maxLocals := 1, code := prog_7_method_5_code, exceptionTable := #[], attributes := #[] }
def k9m4 : Method := { name := "getSubject", desc := "()Ljava/lang/String;", sig := { parameters := [], returnType := some (.object "java/lang/String") }, accessFlags := 1, code := some k9c4 }
def k9c5 : Code := { maxStack := 1, maxLocals := 1, code := prog_7_method_6_code, exceptionTable := #[], attributes := #[] }
def k9m5 : Method := { name := "getAddress", desc := "()Ljava/lang/String;", sig := { parameters := [], returnType := some (.object "java/lang/String") }, accessFlags := 1, code := some k9c5 }
def k9c6 : Code := { maxStack := 1, maxLocals := 1, code := prog_7_method_7_code, exceptionTable := #[], attributes := #[] }
def k9m6 : Method := { name := "getGroups", desc := "()Ljava/util/Set;", sig := { parameters := [], returnType := some (.object "java/util/Set") }, accessFlags := 1, code := some k9c6 }
def k9c7 : Code := { maxStack := 1, maxLocals := 1, code := prog_7_method_8_code, exceptionTable := #[], attributes := #[] }
def k9m7 : Method := { name := "isAdministrator", desc := "()Z", sig := { parameters := [], returnType := some .boolean }, accessFlags := 1, code := some k9c7 }
def k9c8 : Code := { maxStack := 1, maxLocals := 1, code := prog_7_method_9_code, exceptionTable := #[], attributes := #[] }
def k9m8 : Method := { name := "getIdentifier", desc := "()Ljava/lang/String;", sig := { parameters := [], returnType := some (.object "java/lang/String") }, accessFlags := 1, code := some k9c8 }
/-- com/example/lucid_rationale/lucidrationale/login/Identity -/
def k9 : Class := { plain "com/example/lucid_rationale/lucidrationale/login/Identity" (some 0) with
  accessFlags := 49
  interfaces := #[]
  cf := some (fileOf pool9 8 #[] #[{ accessFlags := 2, nameIndex := 5, descriptorIndex := 38, attributes := #[] }, { accessFlags := 8, nameIndex := 48, descriptorIndex := 49, attributes := #[] }, { accessFlags := 8, nameIndex := 51, descriptorIndex := 52, attributes := #[] }, { accessFlags := 1, nameIndex := 53, descriptorIndex := 54, attributes := #[] }, { accessFlags := 1, nameIndex := 55, descriptorIndex := 54, attributes := #[] }, { accessFlags := 1, nameIndex := 56, descriptorIndex := 54, attributes := #[] }, { accessFlags := 1, nameIndex := 57, descriptorIndex := 42, attributes := #[] }, { accessFlags := 1, nameIndex := 59, descriptorIndex := 60, attributes := #[] }, { accessFlags := 1, nameIndex := 61, descriptorIndex := 54, attributes := #[] }] 49 2 #[] #[{ accessFlags := 18, nameIndex := 11, descriptorIndex := 12, attributes := #[] }, { accessFlags := 18, nameIndex := 15, descriptorIndex := 12, attributes := #[] }, { accessFlags := 18, nameIndex := 18, descriptorIndex := 12, attributes := #[] }, { accessFlags := 18, nameIndex := 27, descriptorIndex := 28, attributes := #[] }, { accessFlags := 18, nameIndex := 31, descriptorIndex := 32, attributes := #[] }, { accessFlags := 18, nameIndex := 35, descriptorIndex := 12, attributes := #[] }])
  fields := #[{ name := "issuer", type := (.object "java/lang/String"), accessFlags := 18, slot := 0, constantValue := 0 }, { name := "subject", type := (.object "java/lang/String"), accessFlags := 18, slot := 1, constantValue := 0 }, { name := "address", type := (.object "java/lang/String"), accessFlags := 18, slot := 2, constantValue := 0 }, { name := "groups", type := (.object "java/util/Set"), accessFlags := 18, slot := 3, constantValue := 0 }, { name := "administrator", type := .boolean, accessFlags := 18, slot := 4, constantValue := 0 }, { name := "identifier", type := (.object "java/lang/String"), accessFlags := 18, slot := 5, constantValue := 0 }]
  methods := #[k9m0, k9m1, k9m2, k9m3, k9m4, k9m5, k9m6, k9m7, k9m8]
  instanceTypes := #[(.object "java/lang/String"), (.object "java/lang/String"), (.object "java/lang/String"), (.object "java/util/Set"), .boolean, (.object "java/lang/String")]
  staticTypes := #[]
  resolved := Array.replicate 64 none
  statics := none }

def pool10 : Array CpInfo := pool [(8, .class_ 10), (1, u "java/lang/Iterable"), (24, .class_ 36), (0, u "java/lang/Object")] 25

/-- java/lang/Iterable -/
def k10 : Class := { plain "java/lang/Iterable" (some 0) with
  accessFlags := 1537
  interfaces := #[]
  cf := some (fileOf pool10 8 #[] #[] 1537 35 #[] #[])
  fields := #[]
  methods := #[]
  instanceTypes := #[]
  staticTypes := #[]
  resolved := Array.replicate 62 none
  statics := none }

def pool11 : Array CpInfo := pool [(10, .class_ 12), (1, u "java/util/Collection"), (47, .class_ 61), (0, u "java/lang/Object"), (0, .class_ 63), (0, u "java/lang/Iterable")] 51

/-- java/util/Collection -/
def k11 : Class := { plain "java/util/Collection" (some 0) with
  accessFlags := 1537
  interfaces := #[10]
  cf := some (fileOf pool11 10 #[] #[] 1537 60 #[62] #[])
  fields := #[]
  methods := #[]
  instanceTypes := #[]
  staticTypes := #[]
  resolved := Array.replicate 115 none
  statics := none }

def pool12 : Array CpInfo := pool [(9, .fieldref 10 11), (0, .class_ 12), (0, .nameAndType 13 14), (0, u "java/util/ImmutableCollections"), (0, u "EMPTY_SET"), (0, u "Ljava/util/ImmutableCollections$SetN;"), (11, .class_ 27), (0, u "java/lang/Object"), (3, .class_ 32), (0, u "java/util/ImmutableCollections$AbstractImmutableSet"), (0, .class_ 34), (0, u "java/util/Set"), (1, .class_ 38), (1, u "java/util/Collection"), (4, u "of"), (0, u "()Ljava/util/Set;"), (15, u "(Ljava/lang/Object;)Z"), (18, u "equals"), (51, u "copyOf"), (0, u "(Ljava/util/Collection;)Ljava/util/Set;")] 11

def k12m0 : Method := { name := "equals", desc := "(Ljava/lang/Object;)Z", sig := { parameters := [(.object "java/lang/Object")], returnType := some .boolean }, accessFlags := 1025, code := none }
def k12c1 : Code := { maxStack := 1, maxLocals := 0, code := jdk_96_method_17_code, exceptionTable := #[], attributes := #[] }
def k12m1 : Method := { name := "of", desc := "()Ljava/util/Set;", sig := { parameters := [], returnType := some (.object "java/util/Set") }, accessFlags := 9, code := some k12c1 }
def k12c2 : Code := { maxStack := 3, maxLocals := 1, code := jdk_96_method_29_code, exceptionTable := #[], attributes := #[] }
def k12m2 : Method := { name := "copyOf", desc := "(Ljava/util/Collection;)Ljava/util/Set;", sig := { parameters := [(.object "java/util/Collection")], returnType := some (.object "java/util/Set") }, accessFlags := 9, code := some k12c2 }
/-- java/util/Set -/
def k12 : Class := { plain "java/util/Set" (some 0) with
  accessFlags := 1537
  interfaces := #[11]
  cf := some (fileOf pool12 33 #[] #[{ accessFlags := 1025, nameIndex := 79, descriptorIndex := 60, attributes := #[] }, { accessFlags := 9, nameIndex := 43, descriptorIndex := 44, attributes := #[] }, { accessFlags := 9, nameIndex := 131, descriptorIndex := 132, attributes := #[] }] 1537 26 #[36] #[])
  fields := #[]
  methods := #[k12m0, k12m1, k12m2]
  instanceTypes := #[]
  staticTypes := #[]
  resolved := Array.replicate 144 none
  statics := none }

def pool13 : Array CpInfo := pool [(2, .class_ 4), (1, u "java/lang/Object"), (0, u "<init>"), (0, u "()V"), (3, .class_ 11), (0, u "java/util/ImmutableCollections$List12"), (0, .class_ 13), (0, u "java/util/ImmutableCollections$ListN"), (3, u "Z"), (29, .class_ 49), (1, u "java/util/ImmutableCollections"), (0, u "$assertionsDisabled"), (5, u "[Ljava/lang/Object;"), (5, u "EMPTY_LIST"), (0, u "Ljava/util/ImmutableCollections$ListN;"), (8, u "EMPTY_LIST_NULLS"), (22, u "SALT32L"), (0, u "J"), (2, u "REVERSE"), (6, u "archivedObjects"), (2, u "EMPTY"), (0, u "Ljava/lang/Object;"), (0, .class_ 112), (0, u "java/util/ImmutableCollections$SetN"), (5, u "EMPTY_SET"), (0, u "Ljava/util/ImmutableCollections$SetN;"), (0, .class_ 121), (0, u "java/util/ImmutableCollections$MapN"), (3, u "EMPTY_MAP"), (0, u "Ljava/util/ImmutableCollections$MapN;"), (4, u "EXPAND_FACTOR"), (0, u "I"), (36, .class_ 170), (0, u "java/util/ImmutableCollections$MapN$MapNIterator"), (0, .class_ 172), (0, u "java/util/ImmutableCollections$MapN$1"), (0, .class_ 174), (0, u "java/util/ImmutableCollections$Map1"), (0, .class_ 176), (0, u "java/util/ImmutableCollections$AbstractImmutableMap"), (0, .class_ 178), (0, u "java/util/ImmutableCollections$SetN$SetNIterator"), (0, .class_ 180), (0, u "java/util/ImmutableCollections$Set12"), (0, .class_ 182), (0, u "java/util/ImmutableCollections$Set12$1"), (0, .class_ 184), (0, u "java/util/ImmutableCollections$AbstractImmutableSet"), (0, .class_ 186), (0, u "java/util/ImmutableCollections$SubList"), (0, .class_ 188), (0, u "java/util/ImmutableCollections$ListItr"), (0, .class_ 190), (0, u "java/util/ImmutableCollections$AbstractImmutableList"), (0, .class_ 192), (0, u "java/util/ImmutableCollections$AbstractImmutableCollection"), (0, .class_ 194), (0, u "java/util/ImmutableCollections$Access"), (0, .class_ 196), (0, u "java/util/ImmutableCollections$Access$1")] 16

def k13m0 : Method := { name := "<init>", desc := "()V", sig := { parameters := [], returnType := none }, accessFlags := 2, code := none }
/-- java/util/ImmutableCollections -/
def k13 : Class := { plain "java/util/ImmutableCollections" (some 0) with
  accessFlags := 32
  interfaces := #[]
  cf := some (fileOf pool13 47 #[.nestMembers #[120, 169, 171, 173, 175, 111, 177, 179, 181, 183, 12, 10, 185, 187, 189, 191, 193, 195]] #[{ accessFlags := 2, nameIndex := 5, descriptorIndex := 6, attributes := #[] }] 32 2 #[] #[{ accessFlags := 26, nameIndex := 95, descriptorIndex := 96, attributes := #[] }, { accessFlags := 26, nameIndex := 99, descriptorIndex := 17, attributes := #[] }, { accessFlags := 10, nameIndex := 106, descriptorIndex := 56, attributes := #[] }, { accessFlags := 26, nameIndex := 109, descriptorIndex := 110, attributes := #[] }, { accessFlags := 24, nameIndex := 62, descriptorIndex := 63, attributes := #[] }, { accessFlags := 24, nameIndex := 72, descriptorIndex := 63, attributes := #[] }, { accessFlags := 24, nameIndex := 118, descriptorIndex := 119, attributes := #[] }, { accessFlags := 24, nameIndex := 125, descriptorIndex := 126, attributes := #[] }, { accessFlags := 24, nameIndex := 131, descriptorIndex := 132, attributes := #[] }, { accessFlags := 4120, nameIndex := 50, descriptorIndex := 17, attributes := #[] }])
  fields := #[{ name := "SALT32L", type := .long, accessFlags := 26, slot := 0, constantValue := 0 }, { name := "REVERSE", type := .boolean, accessFlags := 26, slot := 1, constantValue := 0 }, { name := "archivedObjects", type := (.array (.object "java/lang/Object")), accessFlags := 10, slot := 2, constantValue := 0 }, { name := "EMPTY", type := (.object "java/lang/Object"), accessFlags := 26, slot := 3, constantValue := 0 }, { name := "EMPTY_LIST", type := (.object "java/util/ImmutableCollections$ListN"), accessFlags := 24, slot := 4, constantValue := 0 }, { name := "EMPTY_LIST_NULLS", type := (.object "java/util/ImmutableCollections$ListN"), accessFlags := 24, slot := 5, constantValue := 0 }, { name := "EMPTY_SET", type := (.object "java/util/ImmutableCollections$SetN"), accessFlags := 24, slot := 6, constantValue := 0 }, { name := "EMPTY_MAP", type := (.object "java/util/ImmutableCollections$MapN"), accessFlags := 24, slot := 7, constantValue := 0 }, { name := "EXPAND_FACTOR", type := .int, accessFlags := 24, slot := 8, constantValue := 0 }, { name := "$assertionsDisabled", type := .boolean, accessFlags := 4120, slot := 9, constantValue := 0 }]
  methods := #[k13m0]
  instanceTypes := #[]
  staticTypes := #[.long, .boolean, (.array (.object "java/lang/Object")), (.object "java/lang/Object"), (.object "java/util/ImmutableCollections$ListN"), (.object "java/util/ImmutableCollections$ListN"), (.object "java/util/ImmutableCollections$SetN"), (.object "java/util/ImmutableCollections$MapN"), .int, .boolean]
  resolved := Array.replicate 213 none
  statics := some 1 }

def pool14 : Array CpInfo := pool [(2, .class_ 4), (1, u "java/lang/Object"), (0, u "<init>"), (0, u "()V"), (1, .class_ 10), (1, u "java/util/AbstractCollection"), (66, .class_ 78), (0, u "java/util/Collection")] 81

def k14m0 : Method := { name := "<init>", desc := "()V", sig := { parameters := [], returnType := none }, accessFlags := 4, code := none }
/-- java/util/AbstractCollection -/
def k14 : Class := { plain "java/util/AbstractCollection" (some 0) with
  accessFlags := 1057
  interfaces := #[11]
  cf := some (fileOf pool14 8 #[] #[{ accessFlags := 4, nameIndex := 5, descriptorIndex := 6, attributes := #[] }] 1057 2 #[77] #[])
  fields := #[]
  methods := #[k14m0]
  instanceTypes := #[]
  staticTypes := #[]
  resolved := Array.replicate 160 none
  statics := none }

def pool15 : Array CpInfo := pool [(2, .class_ 4), (1, u "java/util/AbstractCollection"), (0, u "<init>"), (0, u "()V"), (1, .class_ 10), (1, u "java/util/ImmutableCollections"), (2, .class_ 14), (0, u "java/util/ImmutableCollections$AbstractImmutableCollection")] 41

def k15m0 : Method := { name := "<init>", desc := "()V", sig := { parameters := [], returnType := none }, accessFlags := 0, code := none }
/-- java/util/ImmutableCollections$AbstractImmutableCollection -/
def k15 : Class := { plain "java/util/ImmutableCollections$AbstractImmutableCollection" (some 14) with
  accessFlags := 1056
  interfaces := #[]
  cf := some (fileOf pool15 13 #[.nestHost 8] #[{ accessFlags := 0, nameIndex := 5, descriptorIndex := 6, attributes := #[] }] 1056 2 #[] #[])
  fields := #[]
  methods := #[k15m0]
  instanceTypes := #[]
  staticTypes := #[]
  resolved := Array.replicate 56 none
  statics := none }

def pool16 : Array CpInfo := pool [(2, .class_ 4), (1, u "java/util/ImmutableCollections$AbstractImmutableCollection"), (0, u "<init>"), (0, u "()V"), (0, .class_ 8), (0, u "java/util/Set"), (7, .class_ 17), (0, u "java/util/ImmutableCollections$AbstractImmutableSet"), (17, u "(Ljava/lang/Object;)Z"), (7, u "equals"), (17, .class_ 62), (0, u "java/util/ImmutableCollections")] 3

def k16m0 : Method := { name := "<init>", desc := "()V", sig := { parameters := [], returnType := none }, accessFlags := 0, code := none }
def k16c1 : Code := { maxStack := 2, maxLocals := 5, code := jdk_100_method_2_code, exceptionTable := #[], attributes := #[] }
def k16m1 : Method := { name := "equals", desc := "(Ljava/lang/Object;)Z", sig := { parameters := [(.object "java/lang/Object")], returnType := some .boolean }, accessFlags := 1, code := some k16c1 }
/-- java/util/ImmutableCollections$AbstractImmutableSet -/
def k16 : Class := { plain "java/util/ImmutableCollections$AbstractImmutableSet" (some 15) with
  accessFlags := 1056
  interfaces := #[12]
  cf := some (fileOf pool16 16 #[.nestHost 61] #[{ accessFlags := 0, nameIndex := 5, descriptorIndex := 6, attributes := #[] }, { accessFlags := 1, nameIndex := 43, descriptorIndex := 35, attributes := #[] }] 1056 2 #[7] #[])
  fields := #[]
  methods := #[k16m0, k16m1]
  instanceTypes := #[]
  staticTypes := #[]
  resolved := Array.replicate 66 none
  statics := none }

def pool17 : Array CpInfo := pool [(1, .class_ 2), (0, u "java/util/ImmutableCollections"), (1, .class_ 6), (1, u "java/util/ImmutableCollections$AbstractImmutableSet"), (3, .class_ 12), (1, u "java/util/ImmutableCollections$SetN"), (0, u "size"), (0, u "I"), (4, u "elements"), (0, u "[Ljava/lang/Object;"), (86, .class_ 108), (0, u "java/io/Serializable")] 59

/-- java/util/ImmutableCollections$SetN -/
def k17 : Class := { plain "java/util/ImmutableCollections$SetN" (some 16) with
  accessFlags := 48
  interfaces := #[2]
  cf := some (fileOf pool17 10 #[.nestHost 1] #[] 48 4 #[107] #[{ accessFlags := 16, nameIndex := 19, descriptorIndex := 20, attributes := #[] }, { accessFlags := 16, nameIndex := 13, descriptorIndex := 14, attributes := #[] }])
  fields := #[{ name := "elements", type := (.array (.object "java/lang/Object")), accessFlags := 16, slot := 0, constantValue := 0 }, { name := "size", type := .int, accessFlags := 16, slot := 1, constantValue := 0 }]
  methods := #[]
  instanceTypes := #[(.array (.object "java/lang/Object")), .int]
  staticTypes := #[]
  resolved := Array.replicate 168 none
  statics := none }

def pool18 : Array CpInfo := pool [(4, .class_ 6), (1, u "java/lang/Object"), (0, u "<init>"), (0, u "()V"), (5, .class_ 16), (1, u "java/lang/StringLatin1"), (104, u "$assertionsDisabled"), (0, u "Z"), (98, .class_ 223), (1, u "java/lang/StringLatin1$LinesSpliterator"), (57, u "equals"), (0, u "([B[B)Z"), (107, .class_ 391), (0, u "java/lang/StringLatin1$CharsSpliterator")] 3

def k18m0 : Method := { name := "<init>", desc := "()V", sig := { parameters := [], returnType := none }, accessFlags := 0, code := none }
def k18c1 : Code := { maxStack := 3, maxLocals := 3, code := jdk_43_method_13_code, exceptionTable := #[], attributes := #[] }
def k18m1 : Method := { name := "equals", desc := "([B[B)Z", sig := { parameters := [(.array .byte), (.array .byte)], returnType := some .boolean }, accessFlags := 9, code := some k18c1 }
/-- java/lang/StringLatin1 -/
def k18 : Class := { plain "java/lang/StringLatin1" (some 0) with
  accessFlags := 48
  interfaces := #[]
  cf := some (fileOf pool18 14 #[.nestMembers #[390, 221]] #[{ accessFlags := 0, nameIndex := 7, descriptorIndex := 8, attributes := #[] }, { accessFlags := 9, nameIndex := 281, descriptorIndex := 282, attributes := #[] }] 48 4 #[] #[{ accessFlags := 4120, nameIndex := 121, descriptorIndex := 122, attributes := #[] }])
  fields := #[{ name := "$assertionsDisabled", type := .boolean, accessFlags := 4120, slot := 0, constantValue := 0 }]
  methods := #[k18m0, k18m1]
  instanceTypes := #[]
  staticTypes := #[.boolean]
  resolved := Array.replicate 395 none
  statics := none }

def pool19 : Array CpInfo := pool [(2, .class_ 4), (1, u "java/lang/Object"), (0, u "<init>"), (0, u "()V"), (17, .class_ 26), (1, u "jdk/internal/util/Preconditions"), (28, .class_ 56), (0, u "jdk/internal/util/Preconditions$4"), (57, .class_ 115), (0, u "jdk/internal/util/Preconditions$1"), (7, u "SIOOBE_FORMATTER"), (0, u "Ljava/util/function/BiFunction;"), (0, .class_ 126), (0, u "jdk/internal/util/Preconditions$2"), (3, u "AIOOBE_FORMATTER"), (0, .class_ 132), (0, u "jdk/internal/util/Preconditions$3"), (3, u "IOOBE_FORMATTER")] 57

def k19m0 : Method := { name := "<init>", desc := "()V", sig := { parameters := [], returnType := none }, accessFlags := 1, code := none }
/-- jdk/internal/util/Preconditions -/
def k19 : Class := { plain "jdk/internal/util/Preconditions" (some 0) with
  accessFlags := 33
  interfaces := #[]
  cf := some (fileOf pool19 24 #[.nestMembers #[55, 131, 125, 114]] #[{ accessFlags := 1, nameIndex := 5, descriptorIndex := 6, attributes := #[] }] 33 2 #[] #[{ accessFlags := 25, nameIndex := 123, descriptorIndex := 124, attributes := #[] }, { accessFlags := 25, nameIndex := 130, descriptorIndex := 124, attributes := #[] }, { accessFlags := 25, nameIndex := 136, descriptorIndex := 124, attributes := #[] }])
  fields := #[{ name := "SIOOBE_FORMATTER", type := (.object "java/util/function/BiFunction"), accessFlags := 25, slot := 0, constantValue := 0 }, { name := "AIOOBE_FORMATTER", type := (.object "java/util/function/BiFunction"), accessFlags := 25, slot := 1, constantValue := 0 }, { name := "IOOBE_FORMATTER", type := (.object "java/util/function/BiFunction"), accessFlags := 25, slot := 2, constantValue := 0 }]
  methods := #[k19m0]
  instanceTypes := #[]
  staticTypes := #[(.object "java/util/function/BiFunction"), (.object "java/util/function/BiFunction"), (.object "java/util/function/BiFunction")]
  resolved := Array.replicate 194 none
  statics := some 2 }

def pool20 : Array CpInfo := pool [(9, u "<init>"), (6, .class_ 18), (1, u "java/lang/Object"), (0, u "()V"), (1, .class_ 23), (1, u "jdk/internal/util/ArraysSupport"), (0, u "LOG2_ARRAY_LONG_INDEX_SCALE"), (0, u "I"), (2, u "U"), (0, u "Ljdk/internal/misc/Unsafe;"), (8, u "BIG_ENDIAN"), (0, u "Z"), (8, u "LOG2_BYTE_BIT_SIZE"), (4, u "LOG2_ARRAY_INT_INDEX_SCALE"), (54, u "JLA"), (0, u "Ljdk/internal/access/JavaLangAccess;"), (11, u "LOG2_ARRAY_BOOLEAN_INDEX_SCALE"), (9, u "LOG2_ARRAY_BYTE_INDEX_SCALE"), (5, u "LOG2_ARRAY_CHAR_INDEX_SCALE"), (5, u "LOG2_ARRAY_SHORT_INDEX_SCALE"), (18, u "LOG2_ARRAY_FLOAT_INDEX_SCALE"), (24, u "LOG2_ARRAY_DOUBLE_INDEX_SCALE"), (89, u "T_BOOLEAN"), (2, u "T_CHAR"), (1, u "T_FLOAT"), (1, u "T_DOUBLE"), (1, u "T_BYTE"), (1, u "T_SHORT"), (1, u "T_INT"), (1, u "T_LONG"), (1, u "SOFT_MAX_ARRAY_LENGTH")] 83

def k20m0 : Method := { name := "<init>", desc := "()V", sig := { parameters := [], returnType := none }, accessFlags := 2, code := none }
/-- jdk/internal/util/ArraysSupport -/
def k20 : Class := { plain "jdk/internal/util/ArraysSupport" (some 0) with
  accessFlags := 33
  interfaces := #[]
  cf := some (fileOf pool20 21 #[] #[{ accessFlags := 2, nameIndex := 9, descriptorIndex := 19, attributes := #[] }] 33 16 #[] #[{ accessFlags := 24, nameIndex := 28, descriptorIndex := 29, attributes := #[] }, { accessFlags := 26, nameIndex := 38, descriptorIndex := 39, attributes := #[] }, { accessFlags := 25, nameIndex := 121, descriptorIndex := 25, attributes := #[] }, { accessFlags := 25, nameIndex := 131, descriptorIndex := 25, attributes := #[] }, { accessFlags := 25, nameIndex := 137, descriptorIndex := 25, attributes := #[] }, { accessFlags := 25, nameIndex := 143, descriptorIndex := 25, attributes := #[] }, { accessFlags := 25, nameIndex := 53, descriptorIndex := 25, attributes := #[] }, { accessFlags := 25, nameIndex := 24, descriptorIndex := 25, attributes := #[] }, { accessFlags := 25, nameIndex := 162, descriptorIndex := 25, attributes := #[] }, { accessFlags := 25, nameIndex := 187, descriptorIndex := 25, attributes := #[] }, { accessFlags := 26, nameIndex := 48, descriptorIndex := 25, attributes := #[] }, { accessFlags := 25, nameIndex := 277, descriptorIndex := 25, attributes := #[] }, { accessFlags := 25, nameIndex := 280, descriptorIndex := 25, attributes := #[] }, { accessFlags := 25, nameIndex := 282, descriptorIndex := 25, attributes := #[] }, { accessFlags := 25, nameIndex := 284, descriptorIndex := 25, attributes := #[] }, { accessFlags := 25, nameIndex := 286, descriptorIndex := 25, attributes := #[] }, { accessFlags := 25, nameIndex := 288, descriptorIndex := 25, attributes := #[] }, { accessFlags := 25, nameIndex := 290, descriptorIndex := 25, attributes := #[] }, { accessFlags := 25, nameIndex := 292, descriptorIndex := 25, attributes := #[] }, { accessFlags := 26, nameIndex := 108, descriptorIndex := 109, attributes := #[] }, { accessFlags := 25, nameIndex := 294, descriptorIndex := 25, attributes := #[] }])
  fields := #[{ name := "U", type := (.object "jdk/internal/misc/Unsafe"), accessFlags := 24, slot := 0, constantValue := 0 }, { name := "BIG_ENDIAN", type := .boolean, accessFlags := 26, slot := 1, constantValue := 0 }, { name := "LOG2_ARRAY_BOOLEAN_INDEX_SCALE", type := .int, accessFlags := 25, slot := 2, constantValue := 0 }, { name := "LOG2_ARRAY_BYTE_INDEX_SCALE", type := .int, accessFlags := 25, slot := 3, constantValue := 0 }, { name := "LOG2_ARRAY_CHAR_INDEX_SCALE", type := .int, accessFlags := 25, slot := 4, constantValue := 0 }, { name := "LOG2_ARRAY_SHORT_INDEX_SCALE", type := .int, accessFlags := 25, slot := 5, constantValue := 0 }, { name := "LOG2_ARRAY_INT_INDEX_SCALE", type := .int, accessFlags := 25, slot := 6, constantValue := 0 }, { name := "LOG2_ARRAY_LONG_INDEX_SCALE", type := .int, accessFlags := 25, slot := 7, constantValue := 0 }, { name := "LOG2_ARRAY_FLOAT_INDEX_SCALE", type := .int, accessFlags := 25, slot := 8, constantValue := 0 }, { name := "LOG2_ARRAY_DOUBLE_INDEX_SCALE", type := .int, accessFlags := 25, slot := 9, constantValue := 0 }, { name := "LOG2_BYTE_BIT_SIZE", type := .int, accessFlags := 26, slot := 10, constantValue := 0 }, { name := "T_BOOLEAN", type := .int, accessFlags := 25, slot := 11, constantValue := 0 }, { name := "T_CHAR", type := .int, accessFlags := 25, slot := 12, constantValue := 0 }, { name := "T_FLOAT", type := .int, accessFlags := 25, slot := 13, constantValue := 0 }, { name := "T_DOUBLE", type := .int, accessFlags := 25, slot := 14, constantValue := 0 }, { name := "T_BYTE", type := .int, accessFlags := 25, slot := 15, constantValue := 0 }, { name := "T_SHORT", type := .int, accessFlags := 25, slot := 16, constantValue := 0 }, { name := "T_INT", type := .int, accessFlags := 25, slot := 17, constantValue := 0 }, { name := "T_LONG", type := .int, accessFlags := 25, slot := 18, constantValue := 0 }, { name := "JLA", type := (.object "jdk/internal/access/JavaLangAccess"), accessFlags := 26, slot := 19, constantValue := 0 }, { name := "SOFT_MAX_ARRAY_LENGTH", type := .int, accessFlags := 25, slot := 20, constantValue := 0 }]
  methods := #[k20m0]
  instanceTypes := #[]
  staticTypes := #[(.object "jdk/internal/misc/Unsafe"), .boolean, .int, .int, .int, .int, .int, .int, .int, .int, .int, .int, .int, .int, .int, .int, .int, .int, .int, (.object "jdk/internal/access/JavaLangAccess"), .int]
  resolved := Array.replicate 378 none
  statics := none }

def pool21 : Array CpInfo := pool [(1, u "java/lang/Cloneable"), (0, .class_ 1), (0, u "java/lang/Object"), (0, .class_ 3)] 3

/-- java/lang/Cloneable -/
def k21 : Class := { plain "java/lang/Cloneable" (some 0) with
  accessFlags := 1537
  interfaces := #[]
  cf := some (fileOf pool21 2 #[] #[] 1537 4 #[] #[])
  fields := #[]
  methods := #[]
  instanceTypes := #[]
  staticTypes := #[]
  resolved := Array.replicate 8 none
  statics := none }

/-- the primitive byte -/
def k22 : Class := { plain "byte" none with kind := .primitive 'B', accessFlags := 0x411 }
/-- [B -/
def k23 : Class := { plain "[B" (some 0) with kind := .array 22 .byte, interfaces := #[21, 2], accessFlags := 1041 }

/-- the primitive char -/
def k24 : Class := { plain "char" none with kind := .primitive 'C', accessFlags := 0x411 }
/-- [C -/
def k25 : Class := { plain "[C" (some 0) with kind := .array 24 .char, interfaces := #[21, 2], accessFlags := 1041 }

/-- the primitive int -/
def k26 : Class := { plain "int" none with kind := .primitive 'I', accessFlags := 0x411 }
/-- [I -/
def k27 : Class := { plain "[I" (some 0) with kind := .array 26 .int, interfaces := #[21, 2], accessFlags := 1041 }

/-- [Ljava/lang/Object; -/
def k28 : Class := { plain "[Ljava/lang/Object;" (some 0) with kind := .array 0 (.object "java/lang/Object"), interfaces := #[21, 2], accessFlags := 1041 }

def heap : Heap := #[{ cls := 7, slots := #[.long 0, .int 1, .null, .int 0, .null, .int 0, .int 0], vm := .statics 7 },
  { cls := 13, slots := #[.long 0, .int 0, .null, .null, .null, .null, .ref 4, .null, .int 0, .int 0], vm := .statics 13 },
  { cls := 19, slots := #[.null, .null, .null], vm := .statics 19 },
  { cls := 28, slots := #[], vm := .none },
  { cls := 17, slots := #[.ref 3, .int 0], vm := .none }]
def classes : Array Class := #[k0, k1, k2, k3, k4, k5, k6, k7, k8, k9, k10, k11, k12, k13, k14, k15, k16, k17, k18, k19, k20, k21, k22, k23, k24, k25, k26, k27, k28]
def interned : List (Array UInt16 × Addr) := []
def slotsUsed : Nat := 22
def theMethod : MethodId := ⟨1, 2⟩
def args0 : Array Value := #[.int 5, .int 7, .int 3, .int 1]
def aboutOver (below : List Frame) : State where
  vm := { classes := classes, interned := interned.toArray }
  heap := heap
  slotsUsed := slotsUsed
  threads := #[{ frames := .invoking theMethod args0 :: below }]
def below0 : List Frame := [.native { method := ⟨0, 0⟩, args := #[] }]
def about1 : State := aboutOver below0
def p0 : Program := .bare "" "" ""
def e0 : Env := launch0.env 0 0 0
theorem w_frames : about1.frames = Frame.invoking theMethod args0 :: below0 := rfl
set_option maxRecDepth 65536 in
theorem w_args : argsFit about1.vm theMethod args0 = true := by decide +kernel
set_option maxRecDepth 65536 in
theorem w_heap : heapFits about1 = true := by decide +kernel
set_option maxRecDepth 65536 in
theorem w_runnable : about1.curStatus? = some .runnable := by decide +kernel
set_option maxRecDepth 65536 in
theorem w_alone : about1.alone = true := by decide +kernel
set_option maxRecDepth 65536 in
theorem w_named : about1.methodNamed? x = some theMethod := by decide +kernel
set_option maxRecDepth 65536 in
theorem w_hears : about1.hears theMethod below0 = true := by decide +kernel
set_option maxRecDepth 65536 in
theorem w_ripe : about1.ripe theMethod args0 below0 = true := by decide +kernel
theorem w_running : about1.status = .running := rfl
set_option maxRecDepth 65536 in
theorem w_room : about1.hasRoom e0.platform room_1 = true :=
  launch0.hasRoom_least _ room_1 (by decide +kernel) (by decide +kernel) (by decide +kernel) (by decide +kernel) (by decide +kernel) (by decide +kernel)
theorem allAtoms_all (ts : List Jvm.Cond) (a : Array Jvm.Value) (st : Jvm.State) : (allAtoms ts).before a st = ts.all (fun c => c.before a st) := by
  induction ts with
  | nil => rfl
  | cons c t ih =>
    show (Jvm.Cond.and c (allAtoms t)).before a st = _
    rw [Jvm.Cond.before_and, ih, List.all_cons]
def words1 : List Jvm.Cond := Jvm.Cond.code x code maxLocals ret :: tables_1
/-- a 'code' word, met by the world's own term for the bytes: nothing is compared byte by byte -/
theorem code_word {y : MethodName} {bytes : ByteArray} {mx : Nat} {rt : Option FieldType} {a : Array Value} {s : State} {m : MethodId} {meth : Method} {c : Code} (h1 : s.methodNamed? y = some m) (h2 : s.vm.method? m = some meth) (h3 : meth.code = some c) (h4 : c.code = bytes)
    (h5 : (c.maxLocals == mx && c.exceptionTable.isEmpty && decide (c.maxStack ≤ mostOperands) && decide (meth.sig.returnType = rt) && !meth.locks && decide (parseMethodDescriptor y.desc = some meth.sig)) = true) : (Jvm.Cond.code y bytes mx rt).before a s = true := by
  simp only [Bool.and_eq_true, beq_iff_eq, Bool.not_eq_true', decide_eq_true_eq] at h5
  obtain ⟨⟨⟨⟨⟨g1, g2⟩, g3⟩, g4⟩, g5⟩, g6⟩ := h5
  simp [Cond.before, Cond.holds, Cond.value, h1, h2, h3, h4, g1, g2, g3, g4, g5, g6]
def isCode : Jvm.Cond → Bool
  | .code _ _ _ _ => true
  | _ => false
theorem all_split {L : List Jvm.Cond} {P : Jvm.Cond → Bool} (h1 : L.all (fun c => isCode c || P c) = true) (h2 : ∀ c ∈ L.filter isCode, P c = true) : L.all P = true := by
  refine List.all_eq_true.mpr fun c hc => ?_
  have h := List.all_eq_true.mp h1 c hc
  rcases Bool.eq_false_or_eq_true (isCode c) with hi | hi
  · exact h2 c (List.mem_filter.mpr ⟨hc, hi⟩)
  · simpa [hi] using h
set_option maxRecDepth 65536 in
theorem w_c0 : (Jvm.Cond.code x code maxLocals ret).before args0 about1 = true := code_word (m := ⟨1, 2⟩) (meth := k1m2) (c := k1c2) (by decide +kernel) rfl rfl rfl (by decide +kernel)
set_option maxRecDepth 65536 in
theorem w_c1 : (Jvm.Cond.code ({ cls := "com/example/lucid_rationale/lucidrationale/login/IdentityOfStaffPinLaw", name := "two", desc := "(I)Ljava/lang/String;" } : Jvm.MethodName) method_2_code (2 : Nat) (Option.some (Jvm.ClassFile.FieldType.object "java/lang/String"))).before args0 about1 = true := code_word (m := ⟨1, 1⟩) (meth := k1m1) (c := k1c1) (by decide +kernel) rfl rfl rfl (by decide +kernel)
set_option maxRecDepth 65536 in
theorem w_c2 : (Jvm.Cond.code ({ cls := "java/lang/String", name := "<init>", desc := "([C)V" } : Jvm.MethodName) jdk_42_method_3_code (2 : Nat) (Option.none : Option Jvm.ClassFile.FieldType)).before args0 about1 = true := code_word (m := ⟨7, 1⟩) (meth := k7m1) (c := k7c1) (by decide +kernel) rfl rfl rfl (by decide +kernel)
set_option maxRecDepth 65536 in
theorem w_c3 : (Jvm.Cond.code ({ cls := "java/lang/String", name := "<init>", desc := "([CIILjava/lang/Void;)V" } : Jvm.MethodName) jdk_42_method_149_code (6 : Nat) (Option.none : Option Jvm.ClassFile.FieldType)).before args0 about1 = true := code_word (m := ⟨7, 3⟩) (meth := k7m3) (c := k7c3) (by decide +kernel) rfl rfl rfl (by decide +kernel)
set_option maxRecDepth 65536 in
theorem w_c4 : (Jvm.Cond.code ({ cls := "java/lang/Object", name := "<init>", desc := "()V" } : Jvm.MethodName) object_method_1_code (1 : Nat) (Option.none : Option Jvm.ClassFile.FieldType)).before args0 about1 = true := code_word (m := ⟨0, 0⟩) (meth := k0m0) (c := k0c0) (by decide +kernel) rfl rfl rfl (by decide +kernel)
set_option maxRecDepth 65536 in
theorem w_c5 : (Jvm.Cond.code ({ cls := "java/lang/StringUTF16", name := "compress", desc := "([CII)[B" } : Jvm.MethodName) jdk_52_method_16_code (6 : Nat) (Option.some (Jvm.ClassFile.FieldType.array Jvm.ClassFile.FieldType.byte))).before args0 about1 = true := code_word (m := ⟨8, 2⟩) (meth := k8m2) (c := k8c2) (by decide +kernel) rfl rfl rfl (by decide +kernel)
set_option maxRecDepth 65536 in
theorem w_c6 : (Jvm.Cond.code ({ cls := "java/lang/StringUTF16", name := "compress", desc := "([CI[BII)I" } : Jvm.MethodName) jdk_52_method_21_code (7 : Nat) (Option.some Jvm.ClassFile.FieldType.int)).before args0 about1 = true := code_word (m := ⟨8, 3⟩) (meth := k8m3) (c := k8c3) (by decide +kernel) rfl rfl rfl (by decide +kernel)
set_option maxRecDepth 65536 in
theorem w_c7 : (Jvm.Cond.code ({ cls := "java/lang/StringUTF16", name := "coderFromArrayLen", desc := "([BI)B" } : Jvm.MethodName) jdk_52_method_15_code (2 : Nat) (Option.some Jvm.ClassFile.FieldType.byte)).before args0 about1 = true := code_word (m := ⟨8, 1⟩) (meth := k8m1) (c := k8c1) (by decide +kernel) rfl rfl rfl (by decide +kernel)
set_option maxRecDepth 65536 in
theorem w_c8 : (Jvm.Cond.code ({ cls := "com/example/lucid_rationale/lucidrationale/login/Identity", name := "ofOutsider", desc := "(Ljava/lang/String;Ljava/lang/String;Ljava/lang/String;)Lcom/example/lucid_rationale/lucidrationale/login/Identity;" } : Jvm.MethodName) prog_7_method_3_code (3 : Nat) (Option.some (Jvm.ClassFile.FieldType.object "com/example/lucid_rationale/lucidrationale/login/Identity"))).before args0 about1 = true := code_word (m := ⟨9, 2⟩) (meth := k9m2) (c := k9c2) (by decide +kernel) rfl rfl rfl (by decide +kernel)
set_option maxRecDepth 65536 in
theorem w_c9 : (Jvm.Cond.code ({ cls := "java/util/Set", name := "of", desc := "()Ljava/util/Set;" } : Jvm.MethodName) jdk_96_method_17_code (0 : Nat) (Option.some (Jvm.ClassFile.FieldType.object "java/util/Set"))).before args0 about1 = true := code_word (m := ⟨12, 1⟩) (meth := k12m1) (c := k12c1) (by decide +kernel) rfl rfl rfl (by decide +kernel)
set_option maxRecDepth 65536 in
theorem w_c10 : (Jvm.Cond.code ({ cls := "com/example/lucid_rationale/lucidrationale/login/Identity", name := "<init>", desc := "(Ljava/lang/String;Ljava/lang/String;Ljava/lang/String;Ljava/util/Set;ZLjava/lang/String;)V" } : Jvm.MethodName) prog_7_method_1_code (7 : Nat) (Option.none : Option Jvm.ClassFile.FieldType)).before args0 about1 = true := code_word (m := ⟨9, 0⟩) (meth := k9m0) (c := k9c0) (by decide +kernel) rfl rfl rfl (by decide +kernel)
set_option maxRecDepth 65536 in
theorem w_c11 : (Jvm.Cond.code ({ cls := "java/util/Set", name := "copyOf", desc := "(Ljava/util/Collection;)Ljava/util/Set;" } : Jvm.MethodName) jdk_96_method_29_code (1 : Nat) (Option.some (Jvm.ClassFile.FieldType.object "java/util/Set"))).before args0 about1 = true := code_word (m := ⟨12, 2⟩) (meth := k12m2) (c := k12c2) (by decide +kernel) rfl rfl rfl (by decide +kernel)
set_option maxRecDepth 65536 in
theorem w_c12 : (Jvm.Cond.code ({ cls := "com/example/lucid_rationale/lucidrationale/login/Identity", name := "getGroups", desc := "()Ljava/util/Set;" } : Jvm.MethodName) prog_7_method_7_code (1 : Nat) (Option.some (Jvm.ClassFile.FieldType.object "java/util/Set"))).before args0 about1 = true := code_word (m := ⟨9, 6⟩) (meth := k9m6) (c := k9c6) (by decide +kernel) rfl rfl rfl (by decide +kernel)
set_option maxRecDepth 65536 in
theorem w_c13 : (Jvm.Cond.code ({ cls := "com/example/lucid_rationale/lucidrationale/login/Identity", name := "ofStaff", desc := "(Ljava/lang/String;Ljava/lang/String;Ljava/lang/String;Ljava/util/Set;Z)Lcom/example/lucid_rationale/lucidrationale/login/Identity;" } : Jvm.MethodName) prog_7_method_2_code (5 : Nat) (Option.some (Jvm.ClassFile.FieldType.object "com/example/lucid_rationale/lucidrationale/login/Identity"))).before args0 about1 = true := code_word (m := ⟨9, 1⟩) (meth := k9m1) (c := k9c1) (by decide +kernel) rfl rfl rfl (by decide +kernel)
set_option maxRecDepth 65536 in
theorem w_c14 : (Jvm.Cond.code ({ cls := "com/example/lucid_rationale/lucidrationale/login/Identity", name := "getIssuer", desc := "()Ljava/lang/String;" } : Jvm.MethodName) prog_7_method_4_code (1 : Nat) (Option.some (Jvm.ClassFile.FieldType.object "java/lang/String"))).before args0 about1 = true := code_word (m := ⟨9, 3⟩) (meth := k9m3) (c := k9c3) (by decide +kernel) rfl rfl rfl (by decide +kernel)
set_option maxRecDepth 65536 in
theorem w_c15 : (Jvm.Cond.code ({ cls := "java/lang/String", name := "equals", desc := "(Ljava/lang/Object;)Z" } : Jvm.MethodName) jdk_42_method_66_code (3 : Nat) (Option.some Jvm.ClassFile.FieldType.boolean)).before args0 about1 = true := code_word (m := ⟨7, 2⟩) (meth := k7m2) (c := k7c2) (by decide +kernel) rfl rfl rfl (by decide +kernel)
set_option maxRecDepth 65536 in
theorem w_c16 : (Jvm.Cond.code ({ cls := "java/lang/StringLatin1", name := "equals", desc := "([B[B)Z" } : Jvm.MethodName) jdk_43_method_13_code (3 : Nat) (Option.some Jvm.ClassFile.FieldType.boolean)).before args0 about1 = true := code_word (m := ⟨18, 1⟩) (meth := k18m1) (c := k18c1) (by decide +kernel) rfl rfl rfl (by decide +kernel)
set_option maxRecDepth 65536 in
theorem w_c17 : (Jvm.Cond.code ({ cls := "com/example/lucid_rationale/lucidrationale/login/Identity", name := "getSubject", desc := "()Ljava/lang/String;" } : Jvm.MethodName) prog_7_method_5_code (1 : Nat) (Option.some (Jvm.ClassFile.FieldType.object "java/lang/String"))).before args0 about1 = true := code_word (m := ⟨9, 4⟩) (meth := k9m4) (c := k9c4) (by decide +kernel) rfl rfl rfl (by decide +kernel)
set_option maxRecDepth 65536 in
theorem w_c18 : (Jvm.Cond.code ({ cls := "com/example/lucid_rationale/lucidrationale/login/Identity", name := "getAddress", desc := "()Ljava/lang/String;" } : Jvm.MethodName) prog_7_method_6_code (1 : Nat) (Option.some (Jvm.ClassFile.FieldType.object "java/lang/String"))).before args0 about1 = true := code_word (m := ⟨9, 5⟩) (meth := k9m5) (c := k9c5) (by decide +kernel) rfl rfl rfl (by decide +kernel)
set_option maxRecDepth 65536 in
theorem w_c19 : (Jvm.Cond.code ({ cls := "com/example/lucid_rationale/lucidrationale/login/Identity", name := "isAdministrator", desc := "()Z" } : Jvm.MethodName) prog_7_method_8_code (1 : Nat) (Option.some Jvm.ClassFile.FieldType.boolean)).before args0 about1 = true := code_word (m := ⟨9, 7⟩) (meth := k9m7) (c := k9c7) (by decide +kernel) rfl rfl rfl (by decide +kernel)
set_option maxRecDepth 65536 in
theorem w_c20 : (Jvm.Cond.code ({ cls := "com/example/lucid_rationale/lucidrationale/login/Identity", name := "getIdentifier", desc := "()Ljava/lang/String;" } : Jvm.MethodName) prog_7_method_9_code (1 : Nat) (Option.some (Jvm.ClassFile.FieldType.object "java/lang/String"))).before args0 about1 = true := code_word (m := ⟨9, 8⟩) (meth := k9m8) (c := k9c8) (by decide +kernel) rfl rfl rfl (by decide +kernel)
set_option maxRecDepth 65536 in
theorem w_c21 : (Jvm.Cond.code ({ cls := "java/util/ImmutableCollections$AbstractImmutableSet", name := "equals", desc := "(Ljava/lang/Object;)Z" } : Jvm.MethodName) jdk_100_method_2_code (5 : Nat) (Option.some Jvm.ClassFile.FieldType.boolean)).before args0 about1 = true := code_word (m := ⟨16, 1⟩) (meth := k16m1) (c := k16c1) (by decide +kernel) rfl rfl rfl (by decide +kernel)
def codes1 : List Jvm.Cond := [Jvm.Cond.code x code maxLocals ret, Jvm.Cond.code ({ cls := "com/example/lucid_rationale/lucidrationale/login/IdentityOfStaffPinLaw", name := "two", desc := "(I)Ljava/lang/String;" } : Jvm.MethodName) method_2_code (2 : Nat) (Option.some (Jvm.ClassFile.FieldType.object "java/lang/String")), Jvm.Cond.code ({ cls := "java/lang/String", name := "<init>", desc := "([C)V" } : Jvm.MethodName) jdk_42_method_3_code (2 : Nat) (Option.none : Option Jvm.ClassFile.FieldType), Jvm.Cond.code ({ cls := "java/lang/String", name := "<init>", desc := "([CIILjava/lang/Void;)V" } : Jvm.MethodName) jdk_42_method_149_code (6 : Nat) (Option.none : Option Jvm.ClassFile.FieldType), Jvm.Cond.code ({ cls := "java/lang/Object", name := "<init>", desc := "()V" } : Jvm.MethodName) object_method_1_code (1 : Nat) (Option.none : Option Jvm.ClassFile.FieldType), Jvm.Cond.code ({ cls := "java/lang/StringUTF16", name := "compress", desc := "([CII)[B" } : Jvm.MethodName) jdk_52_method_16_code (6 : Nat) (Option.some (Jvm.ClassFile.FieldType.array Jvm.ClassFile.FieldType.byte)), Jvm.Cond.code ({ cls := "java/lang/StringUTF16", name := "compress", desc := "([CI[BII)I" } : Jvm.MethodName) jdk_52_method_21_code (7 : Nat) (Option.some Jvm.ClassFile.FieldType.int), Jvm.Cond.code ({ cls := "java/lang/StringUTF16", name := "coderFromArrayLen", desc := "([BI)B" } : Jvm.MethodName) jdk_52_method_15_code (2 : Nat) (Option.some Jvm.ClassFile.FieldType.byte), Jvm.Cond.code ({ cls := "com/example/lucid_rationale/lucidrationale/login/Identity", name := "ofOutsider", desc := "(Ljava/lang/String;Ljava/lang/String;Ljava/lang/String;)Lcom/example/lucid_rationale/lucidrationale/login/Identity;" } : Jvm.MethodName) prog_7_method_3_code (3 : Nat) (Option.some (Jvm.ClassFile.FieldType.object "com/example/lucid_rationale/lucidrationale/login/Identity")), Jvm.Cond.code ({ cls := "java/util/Set", name := "of", desc := "()Ljava/util/Set;" } : Jvm.MethodName) jdk_96_method_17_code (0 : Nat) (Option.some (Jvm.ClassFile.FieldType.object "java/util/Set")), Jvm.Cond.code ({ cls := "com/example/lucid_rationale/lucidrationale/login/Identity", name := "<init>", desc := "(Ljava/lang/String;Ljava/lang/String;Ljava/lang/String;Ljava/util/Set;ZLjava/lang/String;)V" } : Jvm.MethodName) prog_7_method_1_code (7 : Nat) (Option.none : Option Jvm.ClassFile.FieldType), Jvm.Cond.code ({ cls := "java/util/Set", name := "copyOf", desc := "(Ljava/util/Collection;)Ljava/util/Set;" } : Jvm.MethodName) jdk_96_method_29_code (1 : Nat) (Option.some (Jvm.ClassFile.FieldType.object "java/util/Set")), Jvm.Cond.code ({ cls := "com/example/lucid_rationale/lucidrationale/login/Identity", name := "getGroups", desc := "()Ljava/util/Set;" } : Jvm.MethodName) prog_7_method_7_code (1 : Nat) (Option.some (Jvm.ClassFile.FieldType.object "java/util/Set")), Jvm.Cond.code ({ cls := "com/example/lucid_rationale/lucidrationale/login/Identity", name := "ofStaff", desc := "(Ljava/lang/String;Ljava/lang/String;Ljava/lang/String;Ljava/util/Set;Z)Lcom/example/lucid_rationale/lucidrationale/login/Identity;" } : Jvm.MethodName) prog_7_method_2_code (5 : Nat) (Option.some (Jvm.ClassFile.FieldType.object "com/example/lucid_rationale/lucidrationale/login/Identity")), Jvm.Cond.code ({ cls := "com/example/lucid_rationale/lucidrationale/login/Identity", name := "getIssuer", desc := "()Ljava/lang/String;" } : Jvm.MethodName) prog_7_method_4_code (1 : Nat) (Option.some (Jvm.ClassFile.FieldType.object "java/lang/String")), Jvm.Cond.code ({ cls := "java/lang/String", name := "equals", desc := "(Ljava/lang/Object;)Z" } : Jvm.MethodName) jdk_42_method_66_code (3 : Nat) (Option.some Jvm.ClassFile.FieldType.boolean), Jvm.Cond.code ({ cls := "java/lang/StringLatin1", name := "equals", desc := "([B[B)Z" } : Jvm.MethodName) jdk_43_method_13_code (3 : Nat) (Option.some Jvm.ClassFile.FieldType.boolean), Jvm.Cond.code ({ cls := "com/example/lucid_rationale/lucidrationale/login/Identity", name := "getSubject", desc := "()Ljava/lang/String;" } : Jvm.MethodName) prog_7_method_5_code (1 : Nat) (Option.some (Jvm.ClassFile.FieldType.object "java/lang/String")), Jvm.Cond.code ({ cls := "com/example/lucid_rationale/lucidrationale/login/Identity", name := "getAddress", desc := "()Ljava/lang/String;" } : Jvm.MethodName) prog_7_method_6_code (1 : Nat) (Option.some (Jvm.ClassFile.FieldType.object "java/lang/String")), Jvm.Cond.code ({ cls := "com/example/lucid_rationale/lucidrationale/login/Identity", name := "isAdministrator", desc := "()Z" } : Jvm.MethodName) prog_7_method_8_code (1 : Nat) (Option.some Jvm.ClassFile.FieldType.boolean), Jvm.Cond.code ({ cls := "com/example/lucid_rationale/lucidrationale/login/Identity", name := "getIdentifier", desc := "()Ljava/lang/String;" } : Jvm.MethodName) prog_7_method_9_code (1 : Nat) (Option.some (Jvm.ClassFile.FieldType.object "java/lang/String")), Jvm.Cond.code ({ cls := "java/util/ImmutableCollections$AbstractImmutableSet", name := "equals", desc := "(Ljava/lang/Object;)Z" } : Jvm.MethodName) jdk_100_method_2_code (5 : Nat) (Option.some Jvm.ClassFile.FieldType.boolean)]
set_option maxRecDepth 65536 in
theorem codes_eq : words1.filter isCode = codes1 := rfl
theorem w_codes : ∀ c ∈ words1.filter isCode, c.before args0 about1 = true := by
  rw [codes_eq]
  intro c hc
  simp only [codes1, List.mem_cons, List.not_mem_nil, or_false] at hc
  rcases hc with rfl | rfl | rfl | rfl | rfl | rfl | rfl | rfl | rfl | rfl | rfl | rfl | rfl | rfl | rfl | rfl | rfl | rfl | rfl | rfl | rfl | rfl
  · exact w_c0
  · exact w_c1
  · exact w_c2
  · exact w_c3
  · exact w_c4
  · exact w_c5
  · exact w_c6
  · exact w_c7
  · exact w_c8
  · exact w_c9
  · exact w_c10
  · exact w_c11
  · exact w_c12
  · exact w_c13
  · exact w_c14
  · exact w_c15
  · exact w_c16
  · exact w_c17
  · exact w_c18
  · exact w_c19
  · exact w_c20
  · exact w_c21
set_option maxRecDepth 65536 in
theorem w_t1 : (words1.take 24).all (fun c => isCode c || c.before args0 about1) = true := by decide +kernel
set_option maxRecDepth 65536 in
theorem w_t2 : ((words1.drop 24).take 24).all (fun c => isCode c || c.before args0 about1) = true := by decide +kernel
set_option maxRecDepth 65536 in
theorem w_t3 : (((words1.drop 24).drop 24).take 24).all (fun c => isCode c || c.before args0 about1) = true := by decide +kernel
set_option maxRecDepth 65536 in
theorem w_t4 : ((((words1.drop 24).drop 24).drop 24).take 24).all (fun c => isCode c || c.before args0 about1) = true := by decide +kernel
set_option maxRecDepth 65536 in
theorem w_t5 : (((((words1.drop 24).drop 24).drop 24).drop 24).take 24).all (fun c => isCode c || c.before args0 about1) = true := by decide +kernel
set_option maxRecDepth 65536 in
theorem w_t6 : (((((words1.drop 24).drop 24).drop 24).drop 24).drop 24).all (fun c => isCode c || c.before args0 about1) = true := by decide +kernel
theorem w_tables : (allAtoms (Jvm.Cond.code x code maxLocals ret :: tables_1)).before args0 about1 = true := by
  rw [allAtoms_all]
  show words1.all (fun c => c.before args0 about1) = true
  refine all_split ?_ w_codes
  rw [← List.take_append_drop 24 words1, List.all_append, w_t1, ← List.take_append_drop 24 (words1.drop 24), List.all_append, w_t2, ← List.take_append_drop 24 ((words1.drop 24).drop 24), List.all_append, w_t3, ← List.take_append_drop 24 (((words1.drop 24).drop 24).drop 24), List.all_append, w_t4, ← List.take_append_drop 24 ((((words1.drop 24).drop 24).drop 24).drop 24), List.all_append, w_t5, w_t6]
  rfl
set_option maxRecDepth 65536 in
theorem w_rest : rest_1_c.before args0 about1 = true := by decide +kernel
set_option maxRecDepth 65536 in
theorem w_case : (Jvm.Cond.and given_1 narrow_1).before args0 about1 = true := by decide +kernel
theorem w_applies : (headSpec (Jvm.Cond.code x code maxLocals ret :: tables_1) room_1).applies x e0.platform about1 = true :=
  (Spec.applies_iff w_frames).mpr ⟨w_running, w_runnable, w_alone, w_named, w_hears, w_ripe, w_room, w_tables⟩
theorem atStart : AtStart classFile x code maxLocals ret World_1 tables_1 room_1 Calls_1 rest_1 Pre_1 launch0 p0 e0 about1 theMethod args0 below0 :=
  ⟨lists_1, trivial, launch0.admits_env _ _ _, launch0.least_env, fairChoices_fair.cas, fairChoices_fair.clock, w_frames, w_args, w_heap, w_applies, trivial, w_rest, w_case⟩
end start1
theorem witness_1 : WitnessClaimed_1 := ⟨start1.p0, start1.e0, start1.about1, start1.theMethod, start1.args0, start1.below0, start1.atStart⟩
end Jvm.Pilot.@@N@@
