import JvmDerived
import JvmDerived.Pilot.@@N@@Statement
import JvmDerived.Pilot.@@N@@Code
set_option linter.unusedVariables false
set_option linter.unusedSimpArgs false

namespace Jvm.GoKit
open Jvm Jvm.ClassFile Sem Op Lib Jvm.Free Jvm.Stand Jvm.LawKit Jvm.RoadKit Bundle
/-- what goes with a Stand over the re-based start -/
def Hid (s Z : State) (wd : Bool) (EL : List (String × Nat)) (n0 : Nat) (ow0 ow : List Addr) (T : State) (locs : List Loc) (vm0 : Vm) (k0 : Nat) (h : Heap) : Prop :=
  s.Since vm0 k0 ∧ k0 ≤ h.size ∧ Z.Warmed39 vm0 ∧ T.heap = h ∧ Fr n0 locs ∧ CHr Z EL s.vm s.heap vm0 h ∧ Keep s.heap h ow0 ∧ Old Z n0 h ∧ (∀ x ∈ ow, Safe Z EL vm0 h x ∧ x < h.size ∧ n0 ≤ x ∧ (x ∈ ow0 ∨ s.heap.size ≤ x)) ∧ (wd = true ∨ s.WarmedH vm0)
/-- what a body leaves -/
def FinS (s Z : State) (wd : Bool) (EL : List (String × Nat)) (n0 : Nat) (ow0 : List Addr) (R : Room) (Q : Option Value → Heap → Prop) (o : Outcome) (t : State) : Prop :=
  ∃ v L, o = .returned v ∧ Q v t.heap ∧ Fr n0 L ∧ CHr Z EL s.vm s.heap t.vm t.heap ∧ Keep s.heap t.heap ow0 ∧ ReturnedEndW s o t L R.cells R.slots ∧ (wd = true ∨ s.WarmedH t.vm)
/-- from wherever the walk stands with heap h at the frame g, the run ends in Q -/
def Run (p : Program) (l : Launch) (e : Env) (R : Room) (s : State) (m : MethodId) (args : Array Value) (below : List Frame) (meth : Method) (c : Code) (Z : State) (wd : Bool) (EL : List (String × Nat)) (n0 : Nat) (ow0 : List Addr) (Q : Option Value → Heap → Prop)
    (h : Heap) (ow : List Addr) (cells slots : Nat) (g : JFrame) : Prop :=
  ∀ (T : State) (locs : List Loc) (vm0 : Vm) (k0 : Nat), Stand p l e R (s.setVm vm0) m args below meth c T locs cells slots → Hid s Z wd EL n0 ow0 ow T locs vm0 k0 h →
    ∃ s₂ o, Steps p.tables e below (T.setTop g) s₂ ∧ s₂.status = .running ∧ Ended s₂ below o ∧ FinS s Z wd EL n0 ow0 R Q o s₂
/-- a method's contract -/
def Con (l : Launch) (Z : State) (wd : Bool) (EL : List (String × Nat)) (n0 : Nat) (y : MethodName) (bytes : ByteArray) (maxL : Nat) (ret : Option FieldType) (rm : Room) (ws : List Jvm.Cond) (as' : Array Value) (h0 : Heap) (ow : List Addr) (Q : Option Value → Heap → Prop) : Prop :=
  MetFree l y (head1 (Jvm.Cond.code y bytes maxL ret :: ws) rm) (fun a U => a = as' ∧ Z.Warmed39 U.vm ∧ U.heap = h0 ∧ Old Z n0 h0 ∧ CHv Z EL U.vm h0 ∧ ∀ x ∈ ow, Safe Z EL U.vm h0 x ∧ x < h0.size ∧ n0 ≤ x) (fun _ _ _ _ _ => True) (fun _ U o U' => FinS U Z wd EL n0 ow rm Q o U')
/-- what stays of a body -/
def Gd (p : Program) (s : State) (m : MethodId) (meth : Method) (c : Code) (y : MethodName) (bytes : ByteArray) (maxL : Nat) (ret : Option FieldType) (Z : State) (a0 : Array Value) (EL : List (String × Nat)) : Prop :=
  p.tables.exec = Jvm.exec ∧ c.code = bytes ∧ c.maxLocals = maxL ∧ s.vm.findClass y.cls = some m.cls ∧ meth.sig.returnType = ret ∧ meth.name = y.name ∧ meth.locks = false ∧ EW Z a0 EL
section
variable {p : Program} {l : Launch} {e : Env} {R : Room} {s : State} {m : MethodId} {args : Array Value} {below : List Frame} {meth : Method} {c : Code} {Z : State} {wd : Bool} {EL : List (String × Nat)} {n0 : Nat} {ow0 : List Addr} {Q : Option Value → Heap → Prop}
variable {h : Heap} {ow : List Addr} {cells slots cells' slots' : Nat} {pc pc' : Nat} {Ls Ls' : Array Slot} {st rest : List Value} {y : MethodName} {bytes : ByteArray} {maxL : Nat} {ret : Option FieldType} {a0 : Array Value}
theorem Con.intro {ws : List Jvm.Cond} {as' : Array Value} (hx : plainFor y = true) (hEL : EW Z a0 EL)
    (body : ∀ (p : Program) (e : Env) (s : State) (m : MethodId) (below : List Frame) (meth : Method) (c : Code), s.heap = h → Gd p s m meth c y bytes maxL ret Z a0 EL → Run p l e R s m as' below meth c Z wd EL n0 ow Q h ow 0 0 (entryFrame m as' maxL)) :
    Con l Z wd EL n0 y bytes maxL ret R ws as' h ow Q := by
  refine MetFree.of_bodySF hx hisR ?_
  intro p e s m args below meth c s₁ Bd hml0 hP hK
  obtain ⟨rfl, hZ, hh, hO, hC, hS⟩ := hP
  have e0 : s₁.heap = h := by rw [← hh, Bd.state]; rfl
  have X0 : Stand p l e R s m args below meth c s₁ [] 0 0 := Stand.of_body Bd
  refine body p e s m below meth c hh ⟨Bd.exec, Bd.bytes, hml0, findClass_of_methodNamed Bd.named, Bd.returns, (name_of_methodNamed Bd.named Bd.method).1, Bd.notSynchronized, hEL⟩ s₁ [] s.vm h.size X0 ?_
  have hc : CHr Z EL s.vm s.heap s.vm h := by rw [hh]; exact CHr.refl hC
  refine ⟨(State.WarmedH.refl s).since _, Nat.le_refl _, hZ, e0, Fr.nil _, hc, by rw [hh]; exact Keep.refl _ _, hO, fun x hx => ⟨(hS x hx).1, (hS x hx).2.1, (hS x hx).2.2, Or.inl hx⟩, Or.inr (State.WarmedH.refl s)⟩
theorem Run.stp {g g' : JFrame} (stp : ∀ (T : State) (locs : List Loc) (vm0 : Vm) (k0 : Nat), Stand p l e R (s.setVm vm0) m args below meth c T locs cells slots → Hid s Z wd EL n0 ow0 ow T locs vm0 k0 h → ∀ t, Steps p.tables e below (T.setTop g') t → Steps p.tables e below (T.setTop g) t)
    (K : Run p l e R s m args below meth c Z wd EL n0 ow0 Q h ow cells slots g') : Run p l e R s m args below meth c Z wd EL n0 ow0 Q h ow cells slots g := fun T locs vm0 k0 X H => by
  obtain ⟨s₂, o, a, b⟩ := K T locs vm0 k0 X H
  exact ⟨s₂, o, stp T locs vm0 k0 X H _ a, b⟩
theorem Run.mov {g g' : JFrame} (stp : ∀ (T : State) (locs : List Loc) (vm0 : Vm) (k0 : Nat), Stand p l e R (s.setVm vm0) m args below meth c T locs cells slots → Hid s Z wd EL n0 ow0 ow T locs vm0 k0 h →
      ∃ T', Stand p l e R (s.setVm vm0) m args below meth c T' locs cells slots ∧ T'.heap = h ∧ ∀ t, Steps p.tables e below (T'.setTop g') t → Steps p.tables e below (T.setTop g) t)
    (K : Run p l e R s m args below meth c Z wd EL n0 ow0 Q h ow cells slots g') : Run p l e R s m args below meth c Z wd EL n0 ow0 Q h ow cells slots g := fun T locs vm0 k0 X H => by
  obtain ⟨T', X', eT, st⟩ := stp T locs vm0 k0 X H
  obtain ⟨i1, i2, i3, -, i5⟩ := H
  obtain ⟨s₂, o, a, b⟩ := K T' locs vm0 k0 X' ⟨i1, i2, i3, eT, i5⟩
  exact ⟨s₂, o, st _ a, b⟩
theorem Run.mono {g : JFrame} {cells' slots' : Nat} (hc : cells ≤ cells') (hs : slots ≤ slots') (K : Run p l e R s m args below meth c Z wd EL n0 ow0 Q h ow cells' slots' g) : Run p l e R s m args below meth c Z wd EL n0 ow0 Q h ow cells slots g := fun T locs vm0 k0 X H => K T locs vm0 k0 (X.mono hc hs) H
theorem Run.owless {g : JFrame} {ow' : List Addr} (hs : ∀ x ∈ ow', x ∈ ow) (K : Run p l e R s m args below meth c Z wd EL n0 ow0 Q h ow' cells slots g) : Run p l e R s m args below meth c Z wd EL n0 ow0 Q h ow cells slots g := fun T locs vm0 k0 X H => by
  obtain ⟨i1, i2, i3, i4, i5, i6, i7, i8, i9, i10⟩ := H
  exact K T locs vm0 k0 X ⟨i1, i2, i3, i4, i5, i6, i7, i8, fun x q => i9 x (hs x q), i10⟩
/-- what is known at every point -/
theorem Run.know {g : JFrame} (K : Ext Z.heap h → Keep s.heap h ow0 → (∀ x ∈ ow, x < h.size ∧ n0 ≤ x ∧ (x ∈ ow0 ∨ s.heap.size ≤ x)) → Run p l e R s m args below meth c Z wd EL n0 ow0 Q h ow cells slots g) : Run p l e R s m args below meth c Z wd EL n0 ow0 Q h ow cells slots g := fun T locs vm0 k0 X H =>
  K H.2.2.2.2.2.2.2.1.2 H.2.2.2.2.2.2.1 (fun x q => (H.2.2.2.2.2.2.2.2.1 x q).2) T locs vm0 k0 X H
theorem Gd.own (G : Gd p s m meth c y bytes maxL ret Z a0 EL) {vm0 : Vm} {k0 : Nat} (hS : s.Since vm0 k0) : vm0.findClass y.cls = some m.cls := (hS.1.alike.findClass _ _).trans G.2.2.2.1
theorem Gd.hb (G : Gd p s m meth c y bytes maxL ret Z a0 EL) {pc : Nat} {r : Except ClassFile.DecodeError (ClassFile.Instr × Nat)} (h2 : ClassFile.decode bytes pc = r) : ClassFile.decode c.code pc = r := Jvm.hb G.2.1 h2
theorem Hid.cell {T : State} {locs : List Loc} {vm0 : Vm} {k0 : Nat} {a : Addr} {cl : Cell} {ty : FieldType} (H : Hid s Z wd EL n0 ow0 ow T locs vm0 k0 h) (A : Arr Z h a cl ty) : T.heap[a]? = some cl := by
  rw [H.2.2.2.1]; exact A.1
theorem Hid.arr {T : State} {locs : List Loc} {vm0 : Vm} {k0 : Nat} {a : Addr} {cl : Cell} {ty : FieldType} (H : Hid s Z wd EL n0 ow0 ow T locs vm0 k0 h) (A : Arr Z h a cl ty) : (s.setVm vm0).isArrayOf cl ty := State.isArrayOf_alike (T := s.setVm vm0) H.2.2.1.alike A.2.1
/-- a write at a place that is ours -/
theorem Hid.wr {T T' : State} {locs : List Loc} {vm0 : Vm} {k0 sl : Nat} {h' : Heap} {a : Addr} {v : Value} (H : Hid s Z wd EL n0 ow0 ow T locs vm0 k0 h) (W : Wr h h' a sl v) (ha : a ∈ ow) (eT : T'.heap = h') : Hid s Z wd EL n0 ow0 ow T' (locs ++ [⟨a, sl⟩]) vm0 k0 h' := by
  obtain ⟨i1, i2, i3, i4, i5, i6, i7, i8, i9, i10⟩ := H
  obtain ⟨S, q1, q2, q3⟩ := i9 a ha
  have hsz : h'.size = h.size := W.size
  refine ⟨i1, by rw [hsz]; exact i2, i3, eT, i5.app (fun y hy => by cases List.mem_singleton.mp hy; exact q2), i6.trans (CHr.wr W S i6.1), i7.wr W q3, i8.wr W q2, fun x hx => ?_, i10⟩
  obtain ⟨S', r1, r2, r3⟩ := i9 x hx
  exact ⟨Safe.wr W S i6.1 S', by rw [hsz]; exact r1, r2, r3⟩
theorem instNAt {T : State} {locs : List Loc} {vm0 : Vm} (X : Stand p l e R (s.setVm vm0) m args below meth c T locs cells slots) (hx : p.tables.exec = Jvm.exec) (hZ : Z.Warmed39 vm0) {own K D : String} {index : Nat} (hown : vm0.findClass own = some m.cls) (w : (Jvm.Cond.classLink own index K).before a0 Z = true) (eT : T.heap = h) {a : Addr} (F : Ins Z h a K false) (E : Exa Z h a D)
    {g : JFrame} (hg : g.method = m) {rest : List Value} (hs : g.stack = .ref a :: rest) (hd : decode c.code g.pc = .ok (.instanceof index, 3)) : ∃ T', Stand p l e R (s.setVm vm0) m args below meth c T' locs cells slots ∧ T'.heap = h ∧ ∀ target, Steps p.tables e below (T'.setTop { g with pc := g.pc + 3, stack := .int 0 :: rest }) target → Steps p.tables e below (T.setTop g) target := by
  obtain ⟨cell, cT, h1, h2, h3⟩ := F
  obtain ⟨cell', k, e1, -, e3, e4, -⟩ := E
  cases h1.symm.trans e1
  obtain ⟨k', q, -⟩ := hZ.alike.2.2 _ _ e3
  obtain ⟨vm', X', st⟩ := Sym.instanceofNoAt X hx hown (mv (s := s.setVm vm0) hZ w) (by rw [eT]; exact h1) e4 q (by show vm0.findClass K = _; rw [hZ.alike.findClass]; exact h2) (by show vm0.assignable _ _ = _; rw [hZ.alike.assignable]; simpa [e4] using h3) hg hs hd
  exact ⟨_, X', eT, st⟩
/-- a new cell -/
theorem Hid.ext {T T' : State} {locs : List Loc} {vm0 : Vm} {k0 : Nat} {h' : Heap} (H : Hid s Z wd EL n0 ow0 ow T locs vm0 k0 h) (E : Ext h h') (hlt : h.size < h'.size) (eT : T'.heap = h') : Hid s Z wd EL n0 ow0 (h.size :: ow) T' locs vm0 k0 h' := by
  obtain ⟨i1, i2, i3, i4, i5, i6, i7, i8, i9, i10⟩ := H
  refine ⟨i1, Nat.le_trans i2 E.1, i3, eT, i5, i6.trans (CHr.ext E i6.1), i7.ext E, i8.ext E, fun x hx => ?_, i10⟩
  rcases List.mem_cons.mp hx with rfl | hx
  · exact ⟨(Safe.new (Nat.le_refl _)).ext E i6.1, hlt, i8.1 ▸ i8.2.1, Or.inr i7.1⟩
  · obtain ⟨S', r1, r2, r3⟩ := i9 x hx
    exact ⟨S'.ext E i6.1, Nat.lt_of_lt_of_le r1 E.1, r2, r3⟩
theorem aloadN (G : Gd p s m meth c y bytes maxL ret Z a0 EL) {k : Fin 4} {v : Value} (hd : decode bytes pc = .ok (.aload_n k, 1)) (hl : Ls[k.val]? = some (.val v)) (hv : v.isRef = true) (hp : pc + 1 = pc') (K : Run p l e R s m args below meth c Z wd EL n0 ow0 Q h ow cells slots (mkF m pc' Ls (v :: st))) : Run p l e R s m args below meth c Z wd EL n0 ow0 Q h ow cells slots (mkF m pc Ls st) := by
  subst hp
  exact Run.stp (fun T locs vm0 k0 X H t k => XS.aloadN X.here G.1 rfl (G.hb hd) hl hv k) K
theorem aload (G : Gd p s m meth c y bytes maxL ret Z a0 EL) {k : Nat} {v : Value} (hd : decode bytes pc = .ok (.aload k, 2)) (hl : Ls[k]? = some (.val v)) (hv : v.isRef = true) (hp : pc + 2 = pc') (K : Run p l e R s m args below meth c Z wd EL n0 ow0 Q h ow cells slots (mkF m pc' Ls (v :: st))) : Run p l e R s m args below meth c Z wd EL n0 ow0 Q h ow cells slots (mkF m pc Ls st) := by
  subst hp
  exact Run.stp (fun T locs vm0 k0 X H t k => XS.aload X.here G.1 rfl (G.hb hd) hl hv k) K
theorem iloadN (G : Gd p s m meth c y bytes maxL ret Z a0 EL) {k : Fin 4} {v : Int32} (hd : decode bytes pc = .ok (.iload_n k, 1)) (hl : Ls[k.val]? = some (.val (.int v))) (hp : pc + 1 = pc') (K : Run p l e R s m args below meth c Z wd EL n0 ow0 Q h ow cells slots (mkF m pc' Ls (.int v :: st))) : Run p l e R s m args below meth c Z wd EL n0 ow0 Q h ow cells slots (mkF m pc Ls st) := by
  subst hp
  exact Run.stp (fun T locs vm0 k0 X H t k => XS.iloadN X.here G.1 rfl (G.hb hd) hl k) K
theorem iload (G : Gd p s m meth c y bytes maxL ret Z a0 EL) {k : Nat} {v : Int32} (hd : decode bytes pc = .ok (.iload k, 2)) (hl : Ls[k]? = some (.val (.int v))) (hp : pc + 2 = pc') (K : Run p l e R s m args below meth c Z wd EL n0 ow0 Q h ow cells slots (mkF m pc' Ls (.int v :: st))) : Run p l e R s m args below meth c Z wd EL n0 ow0 Q h ow cells slots (mkF m pc Ls st) := by
  subst hp
  exact Run.stp (fun T locs vm0 k0 X H t k => XS.iload X.here G.1 rfl (G.hb hd) hl k) K
theorem iconst (G : Gd p s m meth c y bytes maxL ret Z a0 EL) {i : Int} (v : Int32) (hd : decode bytes pc = .ok (.iconst i, 1)) (hv : Int32.ofInt i = v) (hp : pc + 1 = pc') (K : Run p l e R s m args below meth c Z wd EL n0 ow0 Q h ow cells slots (mkF m pc' Ls (.int v :: st))) : Run p l e R s m args below meth c Z wd EL n0 ow0 Q h ow cells slots (mkF m pc Ls st) := by
  subst hp
  exact Run.stp (fun T locs vm0 k0 X H t k => XT.iconstV X.here G.1 rfl v (G.hb hd) hv k) K
theorem bipush (G : Gd p s m meth c y bytes maxL ret Z a0 EL) {i : Int} (v : Int32) (hd : decode bytes pc = .ok (.bipush i, 2)) (hv : (Int8.ofInt i).toInt32 = v) (hp : pc + 2 = pc') (K : Run p l e R s m args below meth c Z wd EL n0 ow0 Q h ow cells slots (mkF m pc' Ls (.int v :: st))) : Run p l e R s m args below meth c Z wd EL n0 ow0 Q h ow cells slots (mkF m pc Ls st) := by
  subst hp
  exact Run.stp (fun T locs vm0 k0 X H t k => XT.bipushV X.here G.1 rfl v (G.hb hd) hv k) K
theorem sipush (G : Gd p s m meth c y bytes maxL ret Z a0 EL) {i : Int} (v : Int32) (hd : decode bytes pc = .ok (.sipush i, 3)) (hv : (Int16.ofInt i).toInt32 = v) (hp : pc + 3 = pc') (K : Run p l e R s m args below meth c Z wd EL n0 ow0 Q h ow cells slots (mkF m pc' Ls (.int v :: st))) : Run p l e R s m args below meth c Z wd EL n0 ow0 Q h ow cells slots (mkF m pc Ls st) := by
  subst hp
  exact Run.stp (fun T locs vm0 k0 X H t k => XT.sipushV X.here G.1 rfl v (G.hb hd) hv k) K
theorem aconstNull (G : Gd p s m meth c y bytes maxL ret Z a0 EL)  (hd : decode bytes pc = .ok (.aconst_null, 1))  (hp : pc + 1 = pc') (K : Run p l e R s m args below meth c Z wd EL n0 ow0 Q h ow cells slots (mkF m pc' Ls (.null :: st))) : Run p l e R s m args below meth c Z wd EL n0 ow0 Q h ow cells slots (mkF m pc Ls st) := by
  subst hp
  exact Run.stp (fun T locs vm0 k0 X H t k => XS.aconstNull X.here G.1 rfl (G.hb hd) k) K
theorem dup (G : Gd p s m meth c y bytes maxL ret Z a0 EL) {v : Value} (hd : decode bytes pc = .ok (.dup, 1)) (hv : v.category = 1) (hp : pc + 1 = pc') (K : Run p l e R s m args below meth c Z wd EL n0 ow0 Q h ow cells slots (mkF m pc' Ls (v :: v :: rest))) : Run p l e R s m args below meth c Z wd EL n0 ow0 Q h ow cells slots (mkF m pc Ls (v :: rest)) := by
  subst hp
  exact Run.stp (fun T locs vm0 k0 X H t k => XS.dup X.here G.1 rfl (G.hb hd) rfl hv k) K
theorem pop (G : Gd p s m meth c y bytes maxL ret Z a0 EL) {v : Value} (hd : decode bytes pc = .ok (.pop, 1)) (hv : v.category = 1) (hp : pc + 1 = pc') (K : Run p l e R s m args below meth c Z wd EL n0 ow0 Q h ow cells slots (mkF m pc' Ls rest)) : Run p l e R s m args below meth c Z wd EL n0 ow0 Q h ow cells slots (mkF m pc Ls (v :: rest)) := by
  subst hp
  exact Run.stp (fun T locs vm0 k0 X H t k => XT.pop X.here G.1 rfl (G.hb hd) rfl hv k) K
theorem dupX1 (G : Gd p s m meth c y bytes maxL ret Z a0 EL) {v w : Value} (hd : decode bytes pc = .ok (.dup_x1, 1)) (hv : v.category = 1) (hw : w.category = 1) (hp : pc + 1 = pc') (K : Run p l e R s m args below meth c Z wd EL n0 ow0 Q h ow cells slots (mkF m pc' Ls (v :: w :: v :: rest))) : Run p l e R s m args below meth c Z wd EL n0 ow0 Q h ow cells slots (mkF m pc Ls (v :: w :: rest)) := by
  subst hp
  exact Run.stp (fun T locs vm0 k0 X H t k => XT.dupX1 X.here G.1 rfl (G.hb hd) rfl hv hw k) K
theorem istoreN (G : Gd p s m meth c y bytes maxL ret Z a0 EL) {k : Fin 4} {x : Int32} (hd : decode bytes pc = .ok (.istore_n k, 1)) (hl : storeLocals Ls k.val (.int x) = some Ls') (hp : pc + 1 = pc') (K : Run p l e R s m args below meth c Z wd EL n0 ow0 Q h ow cells slots (mkF m pc' Ls' rest)) : Run p l e R s m args below meth c Z wd EL n0 ow0 Q h ow cells slots (mkF m pc Ls (.int x :: rest)) := by
  subst hp
  exact Run.stp (fun T locs vm0 k0 X H t k => XS.istoreN X.here G.1 rfl (G.hb hd) rfl hl k) K
theorem istore (G : Gd p s m meth c y bytes maxL ret Z a0 EL) {k : Nat} {x : Int32} (hd : decode bytes pc = .ok (.istore k, 2)) (hl : storeLocals Ls k (.int x) = some Ls') (hp : pc + 2 = pc') (K : Run p l e R s m args below meth c Z wd EL n0 ow0 Q h ow cells slots (mkF m pc' Ls' rest)) : Run p l e R s m args below meth c Z wd EL n0 ow0 Q h ow cells slots (mkF m pc Ls (.int x :: rest)) := by
  subst hp
  exact Run.stp (fun T locs vm0 k0 X H t k => XS.istore X.here G.1 rfl (G.hb hd) rfl hl k) K
theorem astoreN (G : Gd p s m meth c y bytes maxL ret Z a0 EL) {k : Fin 4} {x : Value} (hd : decode bytes pc = .ok (.astore_n k, 1)) (hv : x.isRef = true) (hl : storeLocals Ls k.val x = some Ls') (hp : pc + 1 = pc') (K : Run p l e R s m args below meth c Z wd EL n0 ow0 Q h ow cells slots (mkF m pc' Ls' rest)) : Run p l e R s m args below meth c Z wd EL n0 ow0 Q h ow cells slots (mkF m pc Ls (x :: rest)) := by
  subst hp
  exact Run.stp (fun T locs vm0 k0 X H t k => XS.astoreN X.here G.1 rfl (G.hb hd) rfl hv hl k) K
theorem astore (G : Gd p s m meth c y bytes maxL ret Z a0 EL) {k : Nat} {x : Value} (hd : decode bytes pc = .ok (.astore k, 2)) (hv : x.isRef = true) (hl : storeLocals Ls k x = some Ls') (hp : pc + 2 = pc') (K : Run p l e R s m args below meth c Z wd EL n0 ow0 Q h ow cells slots (mkF m pc' Ls' rest)) : Run p l e R s m args below meth c Z wd EL n0 ow0 Q h ow cells slots (mkF m pc Ls (x :: rest)) := by
  subst hp
  exact Run.stp (fun T locs vm0 k0 X H t k => XS.astore X.here G.1 rfl (G.hb hd) rfl hv hl k) K
theorem iinc (G : Gd p s m meth c y bytes maxL ret Z a0 EL) {k : Nat} {i : Int} {x : Int32} (v : Int32) (hd : decode bytes pc = .ok (.iinc k i, 3)) (hv : Int32.ofInt i = v) (hl : Ls[k]? = some (.val (.int x))) (hl' : storeLocals Ls k (.int (x + v)) = some Ls') (hp : pc + 3 = pc') (K : Run p l e R s m args below meth c Z wd EL n0 ow0 Q h ow cells slots (mkF m pc' Ls' st)) : Run p l e R s m args below meth c Z wd EL n0 ow0 Q h ow cells slots (mkF m pc Ls st) := by
  subst hp
  exact Run.stp (fun T locs vm0 k0 X H t k => XT.iincV X.here G.1 rfl v (G.hb hd) hv hl hl' k) K
theorem iadd (G : Gd p s m meth c y bytes maxL ret Z a0 EL) {x z : Int32} (hd : decode bytes pc = .ok (.iadd, 1))  (hp : pc + 1 = pc') (K : ∀ v : Int32, v = x + z → Run p l e R s m args below meth c Z wd EL n0 ow0 Q h ow cells slots (mkF m pc' Ls (.int v :: rest))) : Run p l e R s m args below meth c Z wd EL n0 ow0 Q h ow cells slots (mkF m pc Ls (.int z :: .int x :: rest)) := by
  subst hp
  exact Run.stp (fun T locs vm0 k0 X H t k => XS.iadd X.here G.1 rfl (G.hb hd) rfl k) (K _ rfl)
theorem isub (G : Gd p s m meth c y bytes maxL ret Z a0 EL) {x z : Int32} (hd : decode bytes pc = .ok (.isub, 1))  (hp : pc + 1 = pc') (K : ∀ v : Int32, v = x - z → Run p l e R s m args below meth c Z wd EL n0 ow0 Q h ow cells slots (mkF m pc' Ls (.int v :: rest))) : Run p l e R s m args below meth c Z wd EL n0 ow0 Q h ow cells slots (mkF m pc Ls (.int z :: .int x :: rest)) := by
  subst hp
  exact Run.stp (fun T locs vm0 k0 X H t k => XS.isub X.here G.1 rfl (G.hb hd) rfl k) (K _ rfl)
theorem iand (G : Gd p s m meth c y bytes maxL ret Z a0 EL) {x z : Int32} (hd : decode bytes pc = .ok (.iand, 1))  (hp : pc + 1 = pc') (K : ∀ v : Int32, v = x &&& z → Run p l e R s m args below meth c Z wd EL n0 ow0 Q h ow cells slots (mkF m pc' Ls (.int v :: rest))) : Run p l e R s m args below meth c Z wd EL n0 ow0 Q h ow cells slots (mkF m pc Ls (.int z :: .int x :: rest)) := by
  subst hp
  exact Run.stp (fun T locs vm0 k0 X H t k => XS.iand X.here G.1 rfl (G.hb hd) rfl k) (K _ rfl)
theorem imul (G : Gd p s m meth c y bytes maxL ret Z a0 EL) {x z : Int32} (hd : decode bytes pc = .ok (.imul, 1))  (hp : pc + 1 = pc') (K : ∀ v : Int32, v = x * z → Run p l e R s m args below meth c Z wd EL n0 ow0 Q h ow cells slots (mkF m pc' Ls (.int v :: rest))) : Run p l e R s m args below meth c Z wd EL n0 ow0 Q h ow cells slots (mkF m pc Ls (.int z :: .int x :: rest)) := by
  subst hp
  exact Run.stp (fun T locs vm0 k0 X H t k => XS.imul X.here G.1 rfl (G.hb hd) rfl k) (K _ rfl)
theorem ior (G : Gd p s m meth c y bytes maxL ret Z a0 EL) {x z : Int32} (hd : decode bytes pc = .ok (.ior, 1))  (hp : pc + 1 = pc') (K : ∀ v : Int32, v = x ||| z → Run p l e R s m args below meth c Z wd EL n0 ow0 Q h ow cells slots (mkF m pc' Ls (.int v :: rest))) : Run p l e R s m args below meth c Z wd EL n0 ow0 Q h ow cells slots (mkF m pc Ls (.int z :: .int x :: rest)) := by
  subst hp
  exact Run.stp (fun T locs vm0 k0 X H t k => XT.ior X.here G.1 rfl (G.hb hd) rfl k) (K _ rfl)
theorem ixor (G : Gd p s m meth c y bytes maxL ret Z a0 EL) {x z : Int32} (hd : decode bytes pc = .ok (.ixor, 1))  (hp : pc + 1 = pc') (K : ∀ v : Int32, v = x ^^^ z → Run p l e R s m args below meth c Z wd EL n0 ow0 Q h ow cells slots (mkF m pc' Ls (.int v :: rest))) : Run p l e R s m args below meth c Z wd EL n0 ow0 Q h ow cells slots (mkF m pc Ls (.int z :: .int x :: rest)) := by
  subst hp
  exact Run.stp (fun T locs vm0 k0 X H t k => XT.ixor X.here G.1 rfl (G.hb hd) rfl k) (K _ rfl)
theorem irem (G : Gd p s m meth c y bytes maxL ret Z a0 EL) {x z : Int32} (hd : decode bytes pc = .ok (.irem, 1)) (hz : z ≠ 0) (hp : pc + 1 = pc') (K : ∀ v : Int32, v = x % z → Run p l e R s m args below meth c Z wd EL n0 ow0 Q h ow cells slots (mkF m pc' Ls (.int v :: rest))) : Run p l e R s m args below meth c Z wd EL n0 ow0 Q h ow cells slots (mkF m pc Ls (.int z :: .int x :: rest)) := by
  subst hp
  exact Run.stp (fun T locs vm0 k0 X H t k => iremM X G.1 rfl (G.hb hd) rfl hz k) (K _ rfl)
theorem ineg (G : Gd p s m meth c y bytes maxL ret Z a0 EL) {x : Int32} (hd : decode bytes pc = .ok (.ineg, 1)) (hp : pc + 1 = pc') (K : ∀ v : Int32, v = -x → Run p l e R s m args below meth c Z wd EL n0 ow0 Q h ow cells slots (mkF m pc' Ls (.int v :: rest))) : Run p l e R s m args below meth c Z wd EL n0 ow0 Q h ow cells slots (mkF m pc Ls (.int x :: rest)) := by
  subst hp
  exact Run.stp (fun T locs vm0 k0 X H t k => XS.ineg X.here G.1 rfl (G.hb hd) rfl k) (K _ rfl)
theorem i2c (G : Gd p s m meth c y bytes maxL ret Z a0 EL) {x : Int32} (hd : decode bytes pc = .ok (.i2c, 1)) (hp : pc + 1 = pc') (K : ∀ v : Int32, v = x.toUInt32.toUInt16.toUInt32.toInt32 → Run p l e R s m args below meth c Z wd EL n0 ow0 Q h ow cells slots (mkF m pc' Ls (.int v :: rest))) : Run p l e R s m args below meth c Z wd EL n0 ow0 Q h ow cells slots (mkF m pc Ls (.int x :: rest)) := by
  subst hp
  exact Run.stp (fun T locs vm0 k0 X H t k => XT.i2c X.here G.1 rfl (G.hb hd) rfl k) (K _ rfl)
theorem i2b (G : Gd p s m meth c y bytes maxL ret Z a0 EL) {x : Int32} (hd : decode bytes pc = .ok (.i2b, 1)) (hp : pc + 1 = pc') (K : ∀ v : Int32, v = x.toInt8.toInt32 → Run p l e R s m args below meth c Z wd EL n0 ow0 Q h ow cells slots (mkF m pc' Ls (.int v :: rest))) : Run p l e R s m args below meth c Z wd EL n0 ow0 Q h ow cells slots (mkF m pc Ls (.int x :: rest)) := by
  subst hp
  exact Run.stp (fun T locs vm0 k0 X H t k => XT.i2b X.here G.1 rfl (G.hb hd) rfl k) (K _ rfl)
theorem ishl (G : Gd p s m meth c y bytes maxL ret Z a0 EL) {x z : Int32} (hd : decode bytes pc = .ok (.ishl, 1))  (hp : pc + 1 = pc') (K : ∀ v : Int32, v = x <<< (z &&& 31) → Run p l e R s m args below meth c Z wd EL n0 ow0 Q h ow cells slots (mkF m pc' Ls (.int v :: rest))) : Run p l e R s m args below meth c Z wd EL n0 ow0 Q h ow cells slots (mkF m pc Ls (.int z :: .int x :: rest)) := by
  subst hp
  exact Run.stp (fun T locs vm0 k0 X H t k => XT.ishl X.here G.1 rfl (G.hb hd) rfl k) (K _ rfl)
theorem ishr (G : Gd p s m meth c y bytes maxL ret Z a0 EL) {x z : Int32} (hd : decode bytes pc = .ok (.ishr, 1))  (hp : pc + 1 = pc') (K : ∀ v : Int32, v = x >>> (z &&& 31) → Run p l e R s m args below meth c Z wd EL n0 ow0 Q h ow cells slots (mkF m pc' Ls (.int v :: rest))) : Run p l e R s m args below meth c Z wd EL n0 ow0 Q h ow cells slots (mkF m pc Ls (.int z :: .int x :: rest)) := by
  subst hp
  exact Run.stp (fun T locs vm0 k0 X H t k => XT.ishr X.here G.1 rfl (G.hb hd) rfl k) (K _ rfl)
theorem iushr (G : Gd p s m meth c y bytes maxL ret Z a0 EL) {x z : Int32} (hd : decode bytes pc = .ok (.iushr, 1))  (hp : pc + 1 = pc') (K : ∀ v : Int32, v = (x.toUInt32 >>> (z &&& 31).toUInt32).toInt32 → Run p l e R s m args below meth c Z wd EL n0 ow0 Q h ow cells slots (mkF m pc' Ls (.int v :: rest))) : Run p l e R s m args below meth c Z wd EL n0 ow0 Q h ow cells slots (mkF m pc Ls (.int z :: .int x :: rest)) := by
  subst hp
  exact Run.stp (fun T locs vm0 k0 X H t k => XT.iushr X.here G.1 rfl (G.hb hd) rfl k) (K _ rfl)
theorem goto (G : Gd p s m meth c y bytes maxL ret Z a0 EL) {o : Int} (hd : decode bytes pc = .ok (.goto o, 3)) (ho : 0 ≤ (pc : Int) + o) (hp : ((pc : Int) + o).toNat = pc') (K : Run p l e R s m args below meth c Z wd EL n0 ow0 Q h ow cells slots (mkF m pc' Ls st)) : Run p l e R s m args below meth c Z wd EL n0 ow0 Q h ow cells slots (mkF m pc Ls st) :=
  Run.stp (fun T locs vm0 k0 X H t k => XS.goto X.here G.1 rfl rfl (G.hb hd) ho hp k) K
theorem icmp_eq_t (G : Gd p s m meth c y bytes maxL ret Z a0 EL) {o : Int} {x z : Int32} (hd : decode bytes pc = .ok (.if_icmp .eq o, 3)) (hc : x = z) (ho : 0 ≤ (pc : Int) + o) (hp : ((pc : Int) + o).toNat = pc') (K : Run p l e R s m args below meth c Z wd EL n0 ow0 Q h ow cells slots (mkF m pc' Ls rest)) : Run p l e R s m args below meth c Z wd EL n0 ow0 Q h ow cells slots (mkF m pc Ls (.int z :: .int x :: rest)) :=
  Run.stp (fun T locs vm0 k0 X H t k => XS.icmpYes X.here G.1 rfl rfl (G.hb hd) rfl (XT.ii_eq_t hc) ho hp k) K
theorem icmp_eq_f (G : Gd p s m meth c y bytes maxL ret Z a0 EL) {o : Int} {x z : Int32} (hd : decode bytes pc = .ok (.if_icmp .eq o, 3)) (hc : ¬ x = z) (hp : pc + 3 = pc') (K : Run p l e R s m args below meth c Z wd EL n0 ow0 Q h ow cells slots (mkF m pc' Ls rest)) : Run p l e R s m args below meth c Z wd EL n0 ow0 Q h ow cells slots (mkF m pc Ls (.int z :: .int x :: rest)) := by
  subst hp
  exact Run.stp (fun T locs vm0 k0 X H t k => XS.icmpNo X.here G.1 rfl (G.hb hd) rfl (XT.ii_eq_f hc) k) K
theorem icmp_eq (G : Gd p s m meth c y bytes maxL ret Z a0 EL) {o : Int} {x z : Int32} {pt pf : Nat} (hd : decode bytes pc = .ok (.if_icmp .eq o, 3)) (ho : 0 ≤ (pc : Int) + o) (hp : ((pc : Int) + o).toNat = pt) (hq : pc + 3 = pf) (K1 : (x = z) → Run p l e R s m args below meth c Z wd EL n0 ow0 Q h ow cells slots (mkF m pt Ls rest)) (K2 : (¬ x = z) → Run p l e R s m args below meth c Z wd EL n0 ow0 Q h ow cells slots (mkF m pf Ls rest)) : Run p l e R s m args below meth c Z wd EL n0 ow0 Q h ow cells slots (mkF m pc Ls (.int z :: .int x :: rest)) := by
  by_cases q : x = z
  · exact icmp_eq_t G hd q ho hp (K1 q)
  · exact icmp_eq_f G hd q hq (K2 q)
theorem icmp_ne_t (G : Gd p s m meth c y bytes maxL ret Z a0 EL) {o : Int} {x z : Int32} (hd : decode bytes pc = .ok (.if_icmp .ne o, 3)) (hc : ¬ x = z) (ho : 0 ≤ (pc : Int) + o) (hp : ((pc : Int) + o).toNat = pc') (K : Run p l e R s m args below meth c Z wd EL n0 ow0 Q h ow cells slots (mkF m pc' Ls rest)) : Run p l e R s m args below meth c Z wd EL n0 ow0 Q h ow cells slots (mkF m pc Ls (.int z :: .int x :: rest)) :=
  Run.stp (fun T locs vm0 k0 X H t k => XS.icmpYes X.here G.1 rfl rfl (G.hb hd) rfl (XT.ii_ne_t hc) ho hp k) K
theorem icmp_ne_f (G : Gd p s m meth c y bytes maxL ret Z a0 EL) {o : Int} {x z : Int32} (hd : decode bytes pc = .ok (.if_icmp .ne o, 3)) (hc : x = z) (hp : pc + 3 = pc') (K : Run p l e R s m args below meth c Z wd EL n0 ow0 Q h ow cells slots (mkF m pc' Ls rest)) : Run p l e R s m args below meth c Z wd EL n0 ow0 Q h ow cells slots (mkF m pc Ls (.int z :: .int x :: rest)) := by
  subst hp
  exact Run.stp (fun T locs vm0 k0 X H t k => XS.icmpNo X.here G.1 rfl (G.hb hd) rfl (XT.ii_ne_f hc) k) K
theorem icmp_ne (G : Gd p s m meth c y bytes maxL ret Z a0 EL) {o : Int} {x z : Int32} {pt pf : Nat} (hd : decode bytes pc = .ok (.if_icmp .ne o, 3)) (ho : 0 ≤ (pc : Int) + o) (hp : ((pc : Int) + o).toNat = pt) (hq : pc + 3 = pf) (K1 : (¬ x = z) → Run p l e R s m args below meth c Z wd EL n0 ow0 Q h ow cells slots (mkF m pt Ls rest)) (K2 : (x = z) → Run p l e R s m args below meth c Z wd EL n0 ow0 Q h ow cells slots (mkF m pf Ls rest)) : Run p l e R s m args below meth c Z wd EL n0 ow0 Q h ow cells slots (mkF m pc Ls (.int z :: .int x :: rest)) := by
  by_cases q : x = z
  · exact icmp_ne_f G hd q hq (K2 q)
  · exact icmp_ne_t G hd q ho hp (K1 q)
theorem icmp_lt_t (G : Gd p s m meth c y bytes maxL ret Z a0 EL) {o : Int} {x z : Int32} (hd : decode bytes pc = .ok (.if_icmp .lt o, 3)) (hc : x < z) (ho : 0 ≤ (pc : Int) + o) (hp : ((pc : Int) + o).toNat = pc') (K : Run p l e R s m args below meth c Z wd EL n0 ow0 Q h ow cells slots (mkF m pc' Ls rest)) : Run p l e R s m args below meth c Z wd EL n0 ow0 Q h ow cells slots (mkF m pc Ls (.int z :: .int x :: rest)) :=
  Run.stp (fun T locs vm0 k0 X H t k => XS.icmpYes X.here G.1 rfl rfl (G.hb hd) rfl (XT.ii_lt_t hc) ho hp k) K
theorem icmp_lt_f (G : Gd p s m meth c y bytes maxL ret Z a0 EL) {o : Int} {x z : Int32} (hd : decode bytes pc = .ok (.if_icmp .lt o, 3)) (hc : ¬ x < z) (hp : pc + 3 = pc') (K : Run p l e R s m args below meth c Z wd EL n0 ow0 Q h ow cells slots (mkF m pc' Ls rest)) : Run p l e R s m args below meth c Z wd EL n0 ow0 Q h ow cells slots (mkF m pc Ls (.int z :: .int x :: rest)) := by
  subst hp
  exact Run.stp (fun T locs vm0 k0 X H t k => XS.icmpNo X.here G.1 rfl (G.hb hd) rfl (XT.ii_lt_f hc) k) K
theorem icmp_lt (G : Gd p s m meth c y bytes maxL ret Z a0 EL) {o : Int} {x z : Int32} {pt pf : Nat} (hd : decode bytes pc = .ok (.if_icmp .lt o, 3)) (ho : 0 ≤ (pc : Int) + o) (hp : ((pc : Int) + o).toNat = pt) (hq : pc + 3 = pf) (K1 : (x < z) → Run p l e R s m args below meth c Z wd EL n0 ow0 Q h ow cells slots (mkF m pt Ls rest)) (K2 : (¬ x < z) → Run p l e R s m args below meth c Z wd EL n0 ow0 Q h ow cells slots (mkF m pf Ls rest)) : Run p l e R s m args below meth c Z wd EL n0 ow0 Q h ow cells slots (mkF m pc Ls (.int z :: .int x :: rest)) := by
  by_cases q : x < z
  · exact icmp_lt_t G hd q ho hp (K1 q)
  · exact icmp_lt_f G hd q hq (K2 q)
theorem icmp_ge_t (G : Gd p s m meth c y bytes maxL ret Z a0 EL) {o : Int} {x z : Int32} (hd : decode bytes pc = .ok (.if_icmp .ge o, 3)) (hc : ¬ x < z) (ho : 0 ≤ (pc : Int) + o) (hp : ((pc : Int) + o).toNat = pc') (K : Run p l e R s m args below meth c Z wd EL n0 ow0 Q h ow cells slots (mkF m pc' Ls rest)) : Run p l e R s m args below meth c Z wd EL n0 ow0 Q h ow cells slots (mkF m pc Ls (.int z :: .int x :: rest)) :=
  Run.stp (fun T locs vm0 k0 X H t k => XS.icmpYes X.here G.1 rfl rfl (G.hb hd) rfl (XT.ii_ge_t hc) ho hp k) K
theorem icmp_ge_f (G : Gd p s m meth c y bytes maxL ret Z a0 EL) {o : Int} {x z : Int32} (hd : decode bytes pc = .ok (.if_icmp .ge o, 3)) (hc : x < z) (hp : pc + 3 = pc') (K : Run p l e R s m args below meth c Z wd EL n0 ow0 Q h ow cells slots (mkF m pc' Ls rest)) : Run p l e R s m args below meth c Z wd EL n0 ow0 Q h ow cells slots (mkF m pc Ls (.int z :: .int x :: rest)) := by
  subst hp
  exact Run.stp (fun T locs vm0 k0 X H t k => XS.icmpNo X.here G.1 rfl (G.hb hd) rfl (XT.ii_ge_f hc) k) K
theorem icmp_ge (G : Gd p s m meth c y bytes maxL ret Z a0 EL) {o : Int} {x z : Int32} {pt pf : Nat} (hd : decode bytes pc = .ok (.if_icmp .ge o, 3)) (ho : 0 ≤ (pc : Int) + o) (hp : ((pc : Int) + o).toNat = pt) (hq : pc + 3 = pf) (K1 : (¬ x < z) → Run p l e R s m args below meth c Z wd EL n0 ow0 Q h ow cells slots (mkF m pt Ls rest)) (K2 : (x < z) → Run p l e R s m args below meth c Z wd EL n0 ow0 Q h ow cells slots (mkF m pf Ls rest)) : Run p l e R s m args below meth c Z wd EL n0 ow0 Q h ow cells slots (mkF m pc Ls (.int z :: .int x :: rest)) := by
  by_cases q : x < z
  · exact icmp_ge_f G hd q hq (K2 q)
  · exact icmp_ge_t G hd q ho hp (K1 q)
theorem icmp_gt_t (G : Gd p s m meth c y bytes maxL ret Z a0 EL) {o : Int} {x z : Int32} (hd : decode bytes pc = .ok (.if_icmp .gt o, 3)) (hc : z < x) (ho : 0 ≤ (pc : Int) + o) (hp : ((pc : Int) + o).toNat = pc') (K : Run p l e R s m args below meth c Z wd EL n0 ow0 Q h ow cells slots (mkF m pc' Ls rest)) : Run p l e R s m args below meth c Z wd EL n0 ow0 Q h ow cells slots (mkF m pc Ls (.int z :: .int x :: rest)) :=
  Run.stp (fun T locs vm0 k0 X H t k => XS.icmpYes X.here G.1 rfl rfl (G.hb hd) rfl (XT.ii_gt_t hc) ho hp k) K
theorem icmp_gt_f (G : Gd p s m meth c y bytes maxL ret Z a0 EL) {o : Int} {x z : Int32} (hd : decode bytes pc = .ok (.if_icmp .gt o, 3)) (hc : ¬ z < x) (hp : pc + 3 = pc') (K : Run p l e R s m args below meth c Z wd EL n0 ow0 Q h ow cells slots (mkF m pc' Ls rest)) : Run p l e R s m args below meth c Z wd EL n0 ow0 Q h ow cells slots (mkF m pc Ls (.int z :: .int x :: rest)) := by
  subst hp
  exact Run.stp (fun T locs vm0 k0 X H t k => XS.icmpNo X.here G.1 rfl (G.hb hd) rfl (XT.ii_gt_f hc) k) K
theorem icmp_gt (G : Gd p s m meth c y bytes maxL ret Z a0 EL) {o : Int} {x z : Int32} {pt pf : Nat} (hd : decode bytes pc = .ok (.if_icmp .gt o, 3)) (ho : 0 ≤ (pc : Int) + o) (hp : ((pc : Int) + o).toNat = pt) (hq : pc + 3 = pf) (K1 : (z < x) → Run p l e R s m args below meth c Z wd EL n0 ow0 Q h ow cells slots (mkF m pt Ls rest)) (K2 : (¬ z < x) → Run p l e R s m args below meth c Z wd EL n0 ow0 Q h ow cells slots (mkF m pf Ls rest)) : Run p l e R s m args below meth c Z wd EL n0 ow0 Q h ow cells slots (mkF m pc Ls (.int z :: .int x :: rest)) := by
  by_cases q : z < x
  · exact icmp_gt_t G hd q ho hp (K1 q)
  · exact icmp_gt_f G hd q hq (K2 q)
theorem icmp_le_t (G : Gd p s m meth c y bytes maxL ret Z a0 EL) {o : Int} {x z : Int32} (hd : decode bytes pc = .ok (.if_icmp .le o, 3)) (hc : ¬ z < x) (ho : 0 ≤ (pc : Int) + o) (hp : ((pc : Int) + o).toNat = pc') (K : Run p l e R s m args below meth c Z wd EL n0 ow0 Q h ow cells slots (mkF m pc' Ls rest)) : Run p l e R s m args below meth c Z wd EL n0 ow0 Q h ow cells slots (mkF m pc Ls (.int z :: .int x :: rest)) :=
  Run.stp (fun T locs vm0 k0 X H t k => XS.icmpYes X.here G.1 rfl rfl (G.hb hd) rfl (XT.ii_le_t hc) ho hp k) K
theorem icmp_le_f (G : Gd p s m meth c y bytes maxL ret Z a0 EL) {o : Int} {x z : Int32} (hd : decode bytes pc = .ok (.if_icmp .le o, 3)) (hc : z < x) (hp : pc + 3 = pc') (K : Run p l e R s m args below meth c Z wd EL n0 ow0 Q h ow cells slots (mkF m pc' Ls rest)) : Run p l e R s m args below meth c Z wd EL n0 ow0 Q h ow cells slots (mkF m pc Ls (.int z :: .int x :: rest)) := by
  subst hp
  exact Run.stp (fun T locs vm0 k0 X H t k => XS.icmpNo X.here G.1 rfl (G.hb hd) rfl (XT.ii_le_f hc) k) K
theorem icmp_le (G : Gd p s m meth c y bytes maxL ret Z a0 EL) {o : Int} {x z : Int32} {pt pf : Nat} (hd : decode bytes pc = .ok (.if_icmp .le o, 3)) (ho : 0 ≤ (pc : Int) + o) (hp : ((pc : Int) + o).toNat = pt) (hq : pc + 3 = pf) (K1 : (¬ z < x) → Run p l e R s m args below meth c Z wd EL n0 ow0 Q h ow cells slots (mkF m pt Ls rest)) (K2 : (z < x) → Run p l e R s m args below meth c Z wd EL n0 ow0 Q h ow cells slots (mkF m pf Ls rest)) : Run p l e R s m args below meth c Z wd EL n0 ow0 Q h ow cells slots (mkF m pc Ls (.int z :: .int x :: rest)) := by
  by_cases q : z < x
  · exact icmp_le_f G hd q hq (K2 q)
  · exact icmp_le_t G hd q ho hp (K1 q)
theorem if_eq_t (G : Gd p s m meth c y bytes maxL ret Z a0 EL) {o : Int} {x : Int32} (hd : decode bytes pc = .ok (.ifCond .eq o, 3)) (hc : x = 0) (ho : 0 ≤ (pc : Int) + o) (hp : ((pc : Int) + o).toNat = pc') (K : Run p l e R s m args below meth c Z wd EL n0 ow0 Q h ow cells slots (mkF m pc' Ls rest)) : Run p l e R s m args below meth c Z wd EL n0 ow0 Q h ow cells slots (mkF m pc Ls (.int x :: rest)) :=
  Run.stp (fun T locs vm0 k0 X H t k => XS.ifYes X.here G.1 rfl rfl (G.hb hd) rfl (XT.i0_eq_t hc) ho hp k) K
theorem if_eq_f (G : Gd p s m meth c y bytes maxL ret Z a0 EL) {o : Int} {x : Int32} (hd : decode bytes pc = .ok (.ifCond .eq o, 3)) (hc : ¬ x = 0) (hp : pc + 3 = pc') (K : Run p l e R s m args below meth c Z wd EL n0 ow0 Q h ow cells slots (mkF m pc' Ls rest)) : Run p l e R s m args below meth c Z wd EL n0 ow0 Q h ow cells slots (mkF m pc Ls (.int x :: rest)) := by
  subst hp
  exact Run.stp (fun T locs vm0 k0 X H t k => XS.ifNo X.here G.1 rfl (G.hb hd) rfl (XT.i0_eq_f hc) k) K
theorem if_eq (G : Gd p s m meth c y bytes maxL ret Z a0 EL) {o : Int} {x : Int32} {pt pf : Nat} (hd : decode bytes pc = .ok (.ifCond .eq o, 3)) (ho : 0 ≤ (pc : Int) + o) (hp : ((pc : Int) + o).toNat = pt) (hq : pc + 3 = pf) (K1 : (x = 0) → Run p l e R s m args below meth c Z wd EL n0 ow0 Q h ow cells slots (mkF m pt Ls rest)) (K2 : (¬ x = 0) → Run p l e R s m args below meth c Z wd EL n0 ow0 Q h ow cells slots (mkF m pf Ls rest)) : Run p l e R s m args below meth c Z wd EL n0 ow0 Q h ow cells slots (mkF m pc Ls (.int x :: rest)) := by
  by_cases q : x = 0
  · exact if_eq_t G hd q ho hp (K1 q)
  · exact if_eq_f G hd q hq (K2 q)
theorem if_ne_t (G : Gd p s m meth c y bytes maxL ret Z a0 EL) {o : Int} {x : Int32} (hd : decode bytes pc = .ok (.ifCond .ne o, 3)) (hc : ¬ x = 0) (ho : 0 ≤ (pc : Int) + o) (hp : ((pc : Int) + o).toNat = pc') (K : Run p l e R s m args below meth c Z wd EL n0 ow0 Q h ow cells slots (mkF m pc' Ls rest)) : Run p l e R s m args below meth c Z wd EL n0 ow0 Q h ow cells slots (mkF m pc Ls (.int x :: rest)) :=
  Run.stp (fun T locs vm0 k0 X H t k => XS.ifYes X.here G.1 rfl rfl (G.hb hd) rfl (XT.i0_ne_t hc) ho hp k) K
theorem if_ne_f (G : Gd p s m meth c y bytes maxL ret Z a0 EL) {o : Int} {x : Int32} (hd : decode bytes pc = .ok (.ifCond .ne o, 3)) (hc : x = 0) (hp : pc + 3 = pc') (K : Run p l e R s m args below meth c Z wd EL n0 ow0 Q h ow cells slots (mkF m pc' Ls rest)) : Run p l e R s m args below meth c Z wd EL n0 ow0 Q h ow cells slots (mkF m pc Ls (.int x :: rest)) := by
  subst hp
  exact Run.stp (fun T locs vm0 k0 X H t k => XS.ifNo X.here G.1 rfl (G.hb hd) rfl (XT.i0_ne_f hc) k) K
theorem if_ne (G : Gd p s m meth c y bytes maxL ret Z a0 EL) {o : Int} {x : Int32} {pt pf : Nat} (hd : decode bytes pc = .ok (.ifCond .ne o, 3)) (ho : 0 ≤ (pc : Int) + o) (hp : ((pc : Int) + o).toNat = pt) (hq : pc + 3 = pf) (K1 : (¬ x = 0) → Run p l e R s m args below meth c Z wd EL n0 ow0 Q h ow cells slots (mkF m pt Ls rest)) (K2 : (x = 0) → Run p l e R s m args below meth c Z wd EL n0 ow0 Q h ow cells slots (mkF m pf Ls rest)) : Run p l e R s m args below meth c Z wd EL n0 ow0 Q h ow cells slots (mkF m pc Ls (.int x :: rest)) := by
  by_cases q : x = 0
  · exact if_ne_f G hd q hq (K2 q)
  · exact if_ne_t G hd q ho hp (K1 q)
theorem if_lt_t (G : Gd p s m meth c y bytes maxL ret Z a0 EL) {o : Int} {x : Int32} (hd : decode bytes pc = .ok (.ifCond .lt o, 3)) (hc : x < 0) (ho : 0 ≤ (pc : Int) + o) (hp : ((pc : Int) + o).toNat = pc') (K : Run p l e R s m args below meth c Z wd EL n0 ow0 Q h ow cells slots (mkF m pc' Ls rest)) : Run p l e R s m args below meth c Z wd EL n0 ow0 Q h ow cells slots (mkF m pc Ls (.int x :: rest)) :=
  Run.stp (fun T locs vm0 k0 X H t k => XS.ifYes X.here G.1 rfl rfl (G.hb hd) rfl (XT.i0_lt_t hc) ho hp k) K
theorem if_lt_f (G : Gd p s m meth c y bytes maxL ret Z a0 EL) {o : Int} {x : Int32} (hd : decode bytes pc = .ok (.ifCond .lt o, 3)) (hc : ¬ x < 0) (hp : pc + 3 = pc') (K : Run p l e R s m args below meth c Z wd EL n0 ow0 Q h ow cells slots (mkF m pc' Ls rest)) : Run p l e R s m args below meth c Z wd EL n0 ow0 Q h ow cells slots (mkF m pc Ls (.int x :: rest)) := by
  subst hp
  exact Run.stp (fun T locs vm0 k0 X H t k => XS.ifNo X.here G.1 rfl (G.hb hd) rfl (XT.i0_lt_f hc) k) K
theorem if_lt (G : Gd p s m meth c y bytes maxL ret Z a0 EL) {o : Int} {x : Int32} {pt pf : Nat} (hd : decode bytes pc = .ok (.ifCond .lt o, 3)) (ho : 0 ≤ (pc : Int) + o) (hp : ((pc : Int) + o).toNat = pt) (hq : pc + 3 = pf) (K1 : (x < 0) → Run p l e R s m args below meth c Z wd EL n0 ow0 Q h ow cells slots (mkF m pt Ls rest)) (K2 : (¬ x < 0) → Run p l e R s m args below meth c Z wd EL n0 ow0 Q h ow cells slots (mkF m pf Ls rest)) : Run p l e R s m args below meth c Z wd EL n0 ow0 Q h ow cells slots (mkF m pc Ls (.int x :: rest)) := by
  by_cases q : x < 0
  · exact if_lt_t G hd q ho hp (K1 q)
  · exact if_lt_f G hd q hq (K2 q)
theorem if_ge_t (G : Gd p s m meth c y bytes maxL ret Z a0 EL) {o : Int} {x : Int32} (hd : decode bytes pc = .ok (.ifCond .ge o, 3)) (hc : ¬ x < 0) (ho : 0 ≤ (pc : Int) + o) (hp : ((pc : Int) + o).toNat = pc') (K : Run p l e R s m args below meth c Z wd EL n0 ow0 Q h ow cells slots (mkF m pc' Ls rest)) : Run p l e R s m args below meth c Z wd EL n0 ow0 Q h ow cells slots (mkF m pc Ls (.int x :: rest)) :=
  Run.stp (fun T locs vm0 k0 X H t k => XS.ifYes X.here G.1 rfl rfl (G.hb hd) rfl (XT.i0_ge_t hc) ho hp k) K
theorem if_ge_f (G : Gd p s m meth c y bytes maxL ret Z a0 EL) {o : Int} {x : Int32} (hd : decode bytes pc = .ok (.ifCond .ge o, 3)) (hc : x < 0) (hp : pc + 3 = pc') (K : Run p l e R s m args below meth c Z wd EL n0 ow0 Q h ow cells slots (mkF m pc' Ls rest)) : Run p l e R s m args below meth c Z wd EL n0 ow0 Q h ow cells slots (mkF m pc Ls (.int x :: rest)) := by
  subst hp
  exact Run.stp (fun T locs vm0 k0 X H t k => XS.ifNo X.here G.1 rfl (G.hb hd) rfl (XT.i0_ge_f hc) k) K
theorem if_ge (G : Gd p s m meth c y bytes maxL ret Z a0 EL) {o : Int} {x : Int32} {pt pf : Nat} (hd : decode bytes pc = .ok (.ifCond .ge o, 3)) (ho : 0 ≤ (pc : Int) + o) (hp : ((pc : Int) + o).toNat = pt) (hq : pc + 3 = pf) (K1 : (¬ x < 0) → Run p l e R s m args below meth c Z wd EL n0 ow0 Q h ow cells slots (mkF m pt Ls rest)) (K2 : (x < 0) → Run p l e R s m args below meth c Z wd EL n0 ow0 Q h ow cells slots (mkF m pf Ls rest)) : Run p l e R s m args below meth c Z wd EL n0 ow0 Q h ow cells slots (mkF m pc Ls (.int x :: rest)) := by
  by_cases q : x < 0
  · exact if_ge_f G hd q hq (K2 q)
  · exact if_ge_t G hd q ho hp (K1 q)
theorem if_gt_t (G : Gd p s m meth c y bytes maxL ret Z a0 EL) {o : Int} {x : Int32} (hd : decode bytes pc = .ok (.ifCond .gt o, 3)) (hc : 0 < x) (ho : 0 ≤ (pc : Int) + o) (hp : ((pc : Int) + o).toNat = pc') (K : Run p l e R s m args below meth c Z wd EL n0 ow0 Q h ow cells slots (mkF m pc' Ls rest)) : Run p l e R s m args below meth c Z wd EL n0 ow0 Q h ow cells slots (mkF m pc Ls (.int x :: rest)) :=
  Run.stp (fun T locs vm0 k0 X H t k => XS.ifYes X.here G.1 rfl rfl (G.hb hd) rfl (XT.i0_gt_t hc) ho hp k) K
theorem if_gt_f (G : Gd p s m meth c y bytes maxL ret Z a0 EL) {o : Int} {x : Int32} (hd : decode bytes pc = .ok (.ifCond .gt o, 3)) (hc : ¬ 0 < x) (hp : pc + 3 = pc') (K : Run p l e R s m args below meth c Z wd EL n0 ow0 Q h ow cells slots (mkF m pc' Ls rest)) : Run p l e R s m args below meth c Z wd EL n0 ow0 Q h ow cells slots (mkF m pc Ls (.int x :: rest)) := by
  subst hp
  exact Run.stp (fun T locs vm0 k0 X H t k => XS.ifNo X.here G.1 rfl (G.hb hd) rfl (XT.i0_gt_f hc) k) K
theorem if_gt (G : Gd p s m meth c y bytes maxL ret Z a0 EL) {o : Int} {x : Int32} {pt pf : Nat} (hd : decode bytes pc = .ok (.ifCond .gt o, 3)) (ho : 0 ≤ (pc : Int) + o) (hp : ((pc : Int) + o).toNat = pt) (hq : pc + 3 = pf) (K1 : (0 < x) → Run p l e R s m args below meth c Z wd EL n0 ow0 Q h ow cells slots (mkF m pt Ls rest)) (K2 : (¬ 0 < x) → Run p l e R s m args below meth c Z wd EL n0 ow0 Q h ow cells slots (mkF m pf Ls rest)) : Run p l e R s m args below meth c Z wd EL n0 ow0 Q h ow cells slots (mkF m pc Ls (.int x :: rest)) := by
  by_cases q : 0 < x
  · exact if_gt_t G hd q ho hp (K1 q)
  · exact if_gt_f G hd q hq (K2 q)
theorem if_le_t (G : Gd p s m meth c y bytes maxL ret Z a0 EL) {o : Int} {x : Int32} (hd : decode bytes pc = .ok (.ifCond .le o, 3)) (hc : ¬ 0 < x) (ho : 0 ≤ (pc : Int) + o) (hp : ((pc : Int) + o).toNat = pc') (K : Run p l e R s m args below meth c Z wd EL n0 ow0 Q h ow cells slots (mkF m pc' Ls rest)) : Run p l e R s m args below meth c Z wd EL n0 ow0 Q h ow cells slots (mkF m pc Ls (.int x :: rest)) :=
  Run.stp (fun T locs vm0 k0 X H t k => XS.ifYes X.here G.1 rfl rfl (G.hb hd) rfl (XT.i0_le_t hc) ho hp k) K
theorem if_le_f (G : Gd p s m meth c y bytes maxL ret Z a0 EL) {o : Int} {x : Int32} (hd : decode bytes pc = .ok (.ifCond .le o, 3)) (hc : 0 < x) (hp : pc + 3 = pc') (K : Run p l e R s m args below meth c Z wd EL n0 ow0 Q h ow cells slots (mkF m pc' Ls rest)) : Run p l e R s m args below meth c Z wd EL n0 ow0 Q h ow cells slots (mkF m pc Ls (.int x :: rest)) := by
  subst hp
  exact Run.stp (fun T locs vm0 k0 X H t k => XS.ifNo X.here G.1 rfl (G.hb hd) rfl (XT.i0_le_f hc) k) K
theorem if_le (G : Gd p s m meth c y bytes maxL ret Z a0 EL) {o : Int} {x : Int32} {pt pf : Nat} (hd : decode bytes pc = .ok (.ifCond .le o, 3)) (ho : 0 ≤ (pc : Int) + o) (hp : ((pc : Int) + o).toNat = pt) (hq : pc + 3 = pf) (K1 : (¬ 0 < x) → Run p l e R s m args below meth c Z wd EL n0 ow0 Q h ow cells slots (mkF m pt Ls rest)) (K2 : (0 < x) → Run p l e R s m args below meth c Z wd EL n0 ow0 Q h ow cells slots (mkF m pf Ls rest)) : Run p l e R s m args below meth c Z wd EL n0 ow0 Q h ow cells slots (mkF m pc Ls (.int x :: rest)) := by
  by_cases q : 0 < x
  · exact if_le_f G hd q hq (K2 q)
  · exact if_le_t G hd q ho hp (K1 q)
theorem ifnull_t (G : Gd p s m meth c y bytes maxL ret Z a0 EL) {o : Int} (hd : decode bytes pc = .ok (.ifnull o, 3)) (ho : 0 ≤ (pc : Int) + o) (hp : ((pc : Int) + o).toNat = pc') (K : Run p l e R s m args below meth c Z wd EL n0 ow0 Q h ow cells slots (mkF m pc' Ls rest)) : Run p l e R s m args below meth c Z wd EL n0 ow0 Q h ow cells slots (mkF m pc Ls (.null :: rest)) :=
  Run.stp (fun T locs vm0 k0 X H t k => XS.ifnullYes X.here G.1 rfl rfl (G.hb hd) rfl ho hp k) K
theorem ifnull_f (G : Gd p s m meth c y bytes maxL ret Z a0 EL) {o : Int} {b : Addr} (hd : decode bytes pc = .ok (.ifnull o, 3)) (hp : pc + 3 = pc') (K : Run p l e R s m args below meth c Z wd EL n0 ow0 Q h ow cells slots (mkF m pc' Ls rest)) : Run p l e R s m args below meth c Z wd EL n0 ow0 Q h ow cells slots (mkF m pc Ls (.ref b :: rest)) := by
  subst hp
  exact Run.stp (fun T locs vm0 k0 X H t k => XS.ifnullNo X.here G.1 rfl (G.hb hd) rfl k) K
theorem ifnonnull_t (G : Gd p s m meth c y bytes maxL ret Z a0 EL) {o : Int} {b : Addr} (hd : decode bytes pc = .ok (.ifnonnull o, 3)) (ho : 0 ≤ (pc : Int) + o) (hp : ((pc : Int) + o).toNat = pc') (K : Run p l e R s m args below meth c Z wd EL n0 ow0 Q h ow cells slots (mkF m pc' Ls rest)) : Run p l e R s m args below meth c Z wd EL n0 ow0 Q h ow cells slots (mkF m pc Ls (.ref b :: rest)) :=
  Run.stp (fun T locs vm0 k0 X H t k => XT.ifnonnullYes X.here G.1 rfl rfl (G.hb hd) rfl ho hp k) K
theorem ifnonnull_f (G : Gd p s m meth c y bytes maxL ret Z a0 EL) {o : Int} (hd : decode bytes pc = .ok (.ifnonnull o, 3)) (hp : pc + 3 = pc') (K : Run p l e R s m args below meth c Z wd EL n0 ow0 Q h ow cells slots (mkF m pc' Ls rest)) : Run p l e R s m args below meth c Z wd EL n0 ow0 Q h ow cells slots (mkF m pc Ls (.null :: rest)) := by
  subst hp
  exact Run.stp (fun T locs vm0 k0 X H t k => XT.ifnonnullNo X.here G.1 rfl (G.hb hd) rfl k) K
theorem acmp_eq_t (G : Gd p s m meth c y bytes maxL ret Z a0 EL) {o : Int} {v w : Value} (hd : decode bytes pc = .ok (.if_acmp .eq o, 3)) (hv : v.isRef = true) (hw : w.isRef = true) (hc : v = w) (ho : 0 ≤ (pc : Int) + o) (hp : ((pc : Int) + o).toNat = pc') (K : Run p l e R s m args below meth c Z wd EL n0 ow0 Q h ow cells slots (mkF m pc' Ls rest)) : Run p l e R s m args below meth c Z wd EL n0 ow0 Q h ow cells slots (mkF m pc Ls (w :: v :: rest)) :=
  Run.stp (fun T locs vm0 k0 X H t k => XT.acmpYes X.here G.1 rfl rfl (G.hb hd) rfl hv hw (XT.aa_eq_t hc) ho hp k) K
theorem acmp_eq_f (G : Gd p s m meth c y bytes maxL ret Z a0 EL) {o : Int} {v w : Value} (hd : decode bytes pc = .ok (.if_acmp .eq o, 3)) (hv : v.isRef = true) (hw : w.isRef = true) (hc : ¬ v = w) (hp : pc + 3 = pc') (K : Run p l e R s m args below meth c Z wd EL n0 ow0 Q h ow cells slots (mkF m pc' Ls rest)) : Run p l e R s m args below meth c Z wd EL n0 ow0 Q h ow cells slots (mkF m pc Ls (w :: v :: rest)) := by
  subst hp
  exact Run.stp (fun T locs vm0 k0 X H t k => XT.acmpNo X.here G.1 rfl (G.hb hd) rfl hv hw (XT.aa_eq_f hc) k) K
theorem acmp_ne_t (G : Gd p s m meth c y bytes maxL ret Z a0 EL) {o : Int} {v w : Value} (hd : decode bytes pc = .ok (.if_acmp .ne o, 3)) (hv : v.isRef = true) (hw : w.isRef = true) (hc : ¬ v = w) (ho : 0 ≤ (pc : Int) + o) (hp : ((pc : Int) + o).toNat = pc') (K : Run p l e R s m args below meth c Z wd EL n0 ow0 Q h ow cells slots (mkF m pc' Ls rest)) : Run p l e R s m args below meth c Z wd EL n0 ow0 Q h ow cells slots (mkF m pc Ls (w :: v :: rest)) :=
  Run.stp (fun T locs vm0 k0 X H t k => XT.acmpYes X.here G.1 rfl rfl (G.hb hd) rfl hv hw (XT.aa_ne_t hc) ho hp k) K
theorem acmp_ne_f (G : Gd p s m meth c y bytes maxL ret Z a0 EL) {o : Int} {v w : Value} (hd : decode bytes pc = .ok (.if_acmp .ne o, 3)) (hv : v.isRef = true) (hw : w.isRef = true) (hc : v = w) (hp : pc + 3 = pc') (K : Run p l e R s m args below meth c Z wd EL n0 ow0 Q h ow cells slots (mkF m pc' Ls rest)) : Run p l e R s m args below meth c Z wd EL n0 ow0 Q h ow cells slots (mkF m pc Ls (w :: v :: rest)) := by
  subst hp
  exact Run.stp (fun T locs vm0 k0 X H t k => XT.acmpNo X.here G.1 rfl (G.hb hd) rfl hv hw (XT.aa_ne_f hc) k) K
theorem ldcInt (G : Gd p s m meth c y bytes maxL ret Z a0 EL) {idx : Nat} {v : Int32} (hd : decode bytes pc = .ok (.ldc idx, 2)) (w : (Jvm.Cond.constant y.cls idx v).before a0 Z = true) (hp : pc + 2 = pc') (K : Run p l e R s m args below meth c Z wd EL n0 ow0 Q h ow cells slots (mkF m pc' Ls (.int v :: st))) : Run p l e R s m args below meth c Z wd EL n0 ow0 Q h ow cells slots (mkF m pc Ls st) := by
  subst hp
  exact Run.stp (fun T locs vm0 k0 X H t k => X.ldcI G.1 (G.own H.1) (mv (s := s.setVm vm0) H.2.2.1 w) rfl (G.hb hd) k) K
theorem getf (G : Gd p s m meth c y bytes maxL ret Z a0 EL) {idx : Nat} {R0 O n d : String} {a : Addr} {v : Value} (hd : decode bytes pc = .ok (.getfield idx, 3)) (w : (Jvm.Cond.fieldLink y.cls idx R0 n d).before a0 Z = true) (via : Via Z R0 O n d) (F : Fld Z h a O n d v) (hp : pc + 3 = pc') (K : Run p l e R s m args below meth c Z wd EL n0 ow0 Q h ow cells slots (mkF m pc' Ls (v :: rest))) : Run p l e R s m args below meth c Z wd EL n0 ow0 Q h ow cells slots (mkF m pc Ls (.ref a :: rest)) := by
  subst hp
  exact Run.mov (fun T locs vm0 k0 X H => getF X G.1 H.2.2.1 (host := "") (G.own H.1) (Or.inl w) via H.2.2.2.1 F rfl rfl (G.hb hd)) K
theorem gets (G : Gd p s m meth c y bytes maxL ret Z a0 EL) {idx : Nat} {R0 O n d : String} {v : Value} (hd : decode bytes pc = .ok (.getstatic idx, 3)) (w : (Jvm.Cond.fieldLink y.cls idx R0 n d).before a0 Z = true) (via : Via Z R0 O n d) (F : Sta Z Z.heap O n d v) (hp : pc + 3 = pc') (K : Run p l e R s m args below meth c Z wd EL n0 ow0 Q h ow cells slots (mkF m pc' Ls (v :: st))) : Run p l e R s m args below meth c Z wd EL n0 ow0 Q h ow cells slots (mkF m pc Ls st) := by
  subst hp
  exact Run.mov (fun T locs vm0 k0 X H => getS X G.1 H.2.2.1 (host := "") (G.own H.1) w via H.2.2.2.1 (F.ext H.2.2.2.2.2.2.2.1.2) rfl (G.hb hd)) K
theorem putf (G : Gd p s m meth c y bytes maxL ret Z a0 EL) {idx kk : Nat} {R0 O n d C : String} {a : Addr} {v old : Value} {ty : FieldType} (hd : decode bytes pc = .ok (.putfield idx, 3)) (w : (Jvm.Cond.fieldLink y.cls idx R0 n d).before a0 Z = true) (via : Via Z R0 O n d) (F : Fld Z h a O n d old) (E : Exa Z h a C) (L : (Jvm.Cond.lays C O n d).before a0 Z = true ∨ ((Jvm.Cond.laysFinal C O n d).before a0 Z = true ∧ y.cls = O ∧ y.name = "<init>")) (wi : (Jvm.Cond.instantiable C kk).before a0 Z = true) (hty : parseFieldDescriptor d = some ty) (hn : narrow ty v = v) (hf : fits ty v = true) (ha : a ∈ ow) (hp : pc + 3 = pc')
    (K : ∀ h', Wr h h' a (RoadKit.slotOf Z O n d) v → Run p l e R s m args below meth c Z wd EL n0 ow0 Q h' ow cells slots (mkF m pc' Ls rest)) : Run p l e R s m args below meth c Z wd EL n0 ow0 Q h ow cells slots (mkF m pc Ls (v :: .ref a :: rest)) := by
  subst hp
  intro T locs vm0 k0 X H
  obtain ⟨T', h', X', eT, W, st⟩ := putF X G.1 H.2.2.1 (host := "") (G.own H.1) (Or.inl w) via H.2.2.2.1 F E (L.imp id fun q => ⟨q.1, q.2.1, G.2.2.2.2.2.1.trans q.2.2⟩) wi hty hn hf (g := mkF m pc Ls (v :: .ref a :: rest)) rfl rfl (G.hb hd)
  obtain ⟨s₂, o, q, r⟩ := K h' W T' _ vm0 k0 X' (H.wr W ha eT)
  exact ⟨s₂, o, st _ q, r⟩
theorem castOk (G : Gd p s m meth c y bytes maxL ret Z a0 EL) {idx : Nat} {C : String} {a : Addr} (hd : decode bytes pc = .ok (.checkcast idx, 3)) (w : (Jvm.Cond.classLink y.cls idx C).before a0 Z = true) (F : Ins Z h a C true) (hp : pc + 3 = pc') (K : Run p l e R s m args below meth c Z wd EL n0 ow0 Q h ow cells slots (mkF m pc' Ls (.ref a :: rest))) : Run p l e R s m args below meth c Z wd EL n0 ow0 Q h ow cells slots (mkF m pc Ls (.ref a :: rest)) := by
  subst hp
  exact Run.mov (fun T locs vm0 k0 X H => castY X G.1 H.2.2.1 (G.own H.1) w H.2.2.2.1 F rfl rfl (G.hb hd)) K
theorem instYes (G : Gd p s m meth c y bytes maxL ret Z a0 EL) {idx : Nat} {C : String} {a : Addr} (hd : decode bytes pc = .ok (.instanceof idx, 3)) (w : (Jvm.Cond.classLink y.cls idx C).before a0 Z = true) (F : Ins Z h a C true) (hp : pc + 3 = pc') (K : Run p l e R s m args below meth c Z wd EL n0 ow0 Q h ow cells slots (mkF m pc' Ls (.int 1 :: rest))) : Run p l e R s m args below meth c Z wd EL n0 ow0 Q h ow cells slots (mkF m pc Ls (.ref a :: rest)) := by
  subst hp
  exact Run.mov (fun T locs vm0 k0 X H => instY X G.1 H.2.2.1 (G.own H.1) w H.2.2.2.1 F rfl rfl (G.hb hd)) K
theorem instNo (G : Gd p s m meth c y bytes maxL ret Z a0 EL) {idx : Nat} {C D : String} {a : Addr} (hd : decode bytes pc = .ok (.instanceof idx, 3)) (w : (Jvm.Cond.classLink y.cls idx C).before a0 Z = true) (F : Ins Z h a C false) (E : Exa Z h a D) (hp : pc + 3 = pc') (K : Run p l e R s m args below meth c Z wd EL n0 ow0 Q h ow cells slots (mkF m pc' Ls (.int 0 :: rest))) : Run p l e R s m args below meth c Z wd EL n0 ow0 Q h ow cells slots (mkF m pc Ls (.ref a :: rest)) := by
  subst hp
  exact Run.mov (fun T locs vm0 k0 X H => instNAt X G.1 H.2.2.1 (G.own H.1) w H.2.2.2.1 F E rfl rfl (G.hb hd)) K
theorem arrlen (G : Gd p s m meth c y bytes maxL ret Z a0 EL) {a : Addr} {cl : Cell} {ty : FieldType} (hd : decode bytes pc = .ok (.arraylength, 1)) (A : Arr Z h a cl ty) (hp : pc + 1 = pc') (K : Run p l e R s m args below meth c Z wd EL n0 ow0 Q h ow cells slots (mkF m pc' Ls (.int cl.slots.size.toInt32 :: rest))) : Run p l e R s m args below meth c Z wd EL n0 ow0 Q h ow cells slots (mkF m pc Ls (.ref a :: rest)) := by
  subst hp
  exact Run.stp (fun T locs vm0 k0 X H t k => X.arraylength G.1 (H.cell A) (H.arr A) (g := mkF m pc Ls (.ref a :: rest)) rfl rfl (G.hb hd) t k) K
theorem caload (G : Gd p s m meth c y bytes maxL ret Z a0 EL) {a : Addr} {cl : Cell} {j : Int32} {v : Value} (hd : decode bytes pc = .ok (.caload, 1)) (A : Arr Z h a cl .char) (hj : ¬ (j < 0 ∨ cl.slots.size ≤ j.toNatClampNeg)) (hv : cl.slots[j.toNatClampNeg]? = some v) (hp : pc + 1 = pc') (K : Run p l e R s m args below meth c Z wd EL n0 ow0 Q h ow cells slots (mkF m pc' Ls (v :: rest))) : Run p l e R s m args below meth c Z wd EL n0 ow0 Q h ow cells slots (mkF m pc Ls (.int j :: .ref a :: rest)) := by
  subst hp
  exact Run.stp (fun T locs vm0 k0 X H t k => X.caload G.1 (H.cell A) (H.arr A) A.2.2 hj hv (g := mkF m pc Ls (.int j :: .ref a :: rest)) rfl rfl (G.hb hd) t k) K
theorem baload (G : Gd p s m meth c y bytes maxL ret Z a0 EL) {a : Addr} {cl : Cell} {j : Int32} {v : Value} (hd : decode bytes pc = .ok (.baload, 1)) (A : Arr Z h a cl .byte) (hj : ¬ (j < 0 ∨ cl.slots.size ≤ j.toNatClampNeg)) (hv : cl.slots[j.toNatClampNeg]? = some v) (hp : pc + 1 = pc') (K : Run p l e R s m args below meth c Z wd EL n0 ow0 Q h ow cells slots (mkF m pc' Ls (v :: rest))) : Run p l e R s m args below meth c Z wd EL n0 ow0 Q h ow cells slots (mkF m pc Ls (.int j :: .ref a :: rest)) := by
  subst hp
  exact Run.stp (fun T locs vm0 k0 X H t k => X.baloadBytes G.1 (H.cell A) (H.arr A) A.2.2 hj hv (g := mkF m pc Ls (.int j :: .ref a :: rest)) rfl rfl (G.hb hd) t k) K
theorem iaload (G : Gd p s m meth c y bytes maxL ret Z a0 EL) {a : Addr} {cl : Cell} {j : Int32} {v : Value} (hd : decode bytes pc = .ok (.iaload, 1)) (A : Arr Z h a cl .int) (hj : ¬ (j < 0 ∨ cl.slots.size ≤ j.toNatClampNeg)) (hv : cl.slots[j.toNatClampNeg]? = some v) (hp : pc + 1 = pc') (K : Run p l e R s m args below meth c Z wd EL n0 ow0 Q h ow cells slots (mkF m pc' Ls (v :: rest))) : Run p l e R s m args below meth c Z wd EL n0 ow0 Q h ow cells slots (mkF m pc Ls (.int j :: .ref a :: rest)) := by
  subst hp
  exact Run.stp (fun T locs vm0 k0 X H t k => X.iaload G.1 (H.cell A) (H.arr A) A.2.2 hj hv (g := mkF m pc Ls (.int j :: .ref a :: rest)) rfl rfl (G.hb hd) t k) K
theorem aaload (G : Gd p s m meth c y bytes maxL ret Z a0 EL) {a : Addr} {cl : Cell} {j : Int32} {v : Value} {ty : FieldType} (hd : decode bytes pc = .ok (.aaload, 1)) (A : Arr Z h a cl ty) (hty : ty.isReference = true) (hj : ¬ (j < 0 ∨ cl.slots.size ≤ j.toNatClampNeg)) (hv : cl.slots[j.toNatClampNeg]? = some v) (hp : pc + 1 = pc') (K : Run p l e R s m args below meth c Z wd EL n0 ow0 Q h ow cells slots (mkF m pc' Ls (v :: rest))) : Run p l e R s m args below meth c Z wd EL n0 ow0 Q h ow cells slots (mkF m pc Ls (.int j :: .ref a :: rest)) := by
  subst hp
  exact Run.stp (fun T locs vm0 k0 X H t k => X.aaload G.1 (H.cell A) (H.arr A) hty A.2.2 hj hv (g := mkF m pc Ls (.int j :: .ref a :: rest)) rfl rfl (G.hb hd) t k) K
theorem castore (G : Gd p s m meth c y bytes maxL ret Z a0 EL) {a : Addr} {cl : Cell} {j x : Int32} (hd : decode bytes pc = .ok (.castore, 1)) (A : Arr Z h a cl .char) (hj : ¬ (j < 0 ∨ cl.slots.size ≤ j.toNatClampNeg)) (ha : a ∈ ow) (hp : pc + 1 = pc') (K : ∀ h', Wr h h' a j.toNatClampNeg (.int (nar .char x)) → Run p l e R s m args below meth c Z wd EL n0 ow0 Q h' ow cells slots (mkF m pc' Ls rest)) : Run p l e R s m args below meth c Z wd EL n0 ow0 Q h ow cells slots (mkF m pc Ls (.int x :: .int j :: .ref a :: rest)) := by
  subst hp
  intro T locs vm0 k0 X H
  obtain ⟨T', h', X', eT, W, st⟩ := stC X G.1 H.2.2.1 H.2.2.2.1 A hj (g := mkF m pc Ls (.int x :: .int j :: .ref a :: rest)) rfl rfl (G.hb hd)
  obtain ⟨s₂, o, q, r⟩ := K h' W T' _ vm0 k0 X' (H.wr W ha eT)
  exact ⟨s₂, o, st _ q, r⟩
theorem bastore (G : Gd p s m meth c y bytes maxL ret Z a0 EL) {a : Addr} {cl : Cell} {j x : Int32} (hd : decode bytes pc = .ok (.bastore, 1)) (A : Arr Z h a cl .byte) (hj : ¬ (j < 0 ∨ cl.slots.size ≤ j.toNatClampNeg)) (ha : a ∈ ow) (hp : pc + 1 = pc') (K : ∀ h', Wr h h' a j.toNatClampNeg (.int (nar .byte x)) → Run p l e R s m args below meth c Z wd EL n0 ow0 Q h' ow cells slots (mkF m pc' Ls rest)) : Run p l e R s m args below meth c Z wd EL n0 ow0 Q h ow cells slots (mkF m pc Ls (.int x :: .int j :: .ref a :: rest)) := by
  subst hp
  intro T locs vm0 k0 X H
  obtain ⟨T', h', X', eT, W, st⟩ := stB X G.1 H.2.2.1 H.2.2.2.1 A hj (g := mkF m pc Ls (.int x :: .int j :: .ref a :: rest)) rfl rfl (G.hb hd)
  obtain ⟨s₂, o, q, r⟩ := K h' W T' _ vm0 k0 X' (H.wr W ha eT)
  exact ⟨s₂, o, st _ q, r⟩
theorem newarr (G : Gd p s m meth c y bytes maxL ret Z a0 EL) {aty : ArrayType} {n : Int32} {cap : Nat} (hd : decode bytes pc = .ok (.newarray aty, 2)) (w : (Jvm.Cond.arrayClass (newarray.typeOf aty)).before a0 Z = true) (hn : ¬ n < 0) (hcap : n.toNatClampNeg ≤ cap) (hb : cap * 8 ≤ 536870912) (hc : cells + 1 ≤ R.cells) (hl : slots + cap ≤ R.slots) (hc' : cells + 1 = cells') (hs' : slots + cap = slots') (hp : pc + 2 = pc')
    (K : ∀ (h' : Heap) (cA : ClassId) (a : Addr), a = h.size → Ext h h' → Arr Z h' a (newA cA (newarray.typeOf aty) n) (newarray.typeOf aty) → Run p l e R s m args below meth c Z wd EL n0 ow0 Q h' (a :: ow) cells' slots' (mkF m pc' Ls (.ref a :: rest))) : Run p l e R s m args below meth c Z wd EL n0 ow0 Q h ow cells slots (mkF m pc Ls (.int n :: rest)) := by
  subst hp hc' hs'
  intro T locs vm0 k0 X H
  obtain ⟨T', h', cA, X', eT, E, A, st⟩ := newP X G.1 H.2.2.1 w H.2.2.2.1 (g := mkF m pc Ls (.int n :: rest)) rfl (G.hb hd) rfl hn hcap hb hc hl
  obtain ⟨s₂, o, q, r⟩ := K h' cA h.size rfl E A T' _ vm0 k0 X' (H.ext E A.lt eT)
  exact ⟨s₂, o, st _ q, r⟩
theorem newobj (G : Gd p s m meth c y bytes maxL ret Z a0 EL) {idx n : Nat} {C : String} (hd : decode bytes pc = .ok (.new idx, 3)) (w : (Jvm.Cond.classLink y.cls idx C).before a0 Z = true) (wi : (Jvm.Cond.instantiable C n).before a0 Z = true) (wz : (Jvm.Cond.initialized C).before a0 Z = true) (hc : cells + 1 ≤ R.cells) (hl : slots + n ≤ R.slots) (hc' : cells + 1 = cells') (hs' : slots + n = slots') (hp : pc + 3 = pc')
    (K : ∀ (h' : Heap) (a : Addr), a = h.size → Ext h h' → Exa Z h' a C → (∀ {O nm d : String} {ty : FieldType}, Laid Z a0 C O nm d → parseFieldDescriptor d = some ty → Fld Z h' a O nm d (defaultValue ty)) → Run p l e R s m args below meth c Z wd EL n0 ow0 Q h' (a :: ow) cells' slots' (mkF m pc' Ls (.ref a :: st))) : Run p l e R s m args below meth c Z wd EL n0 ow0 Q h ow cells slots (mkF m pc Ls st) := by
  subst hp hc' hs'
  intro T locs vm0 k0 X H
  obtain ⟨T', h', X', eT, E, A, D, -, st⟩ := newO X G.1 H.2.2.1 (G.own H.1) w wi wz H.2.2.2.1 (g := mkF m pc Ls st) rfl (G.hb hd) hc hl
  obtain ⟨s₂, o, q, r⟩ := K h' h.size rfl E A D T' _ vm0 k0 X' (H.ext E A.lt eT)
  exact ⟨s₂, o, st _ q, r⟩
theorem initObj (G : Gd p s m meth c y bytes maxL ret Z a0 EL) {idx : Nat} {a : Addr} {W : Nat} (hd : decode bytes pc = .ok (.invokespecial idx, 3)) (w1 : (Jvm.Cond.methodLink y.cls idx Lib.objectInit).before a0 Z = true) (w2 : (Jvm.Cond.instanceMethod Lib.objectInit).before a0 Z = true) (w3 : (Jvm.Cond.code Lib.objectInit ⟨#[0xb1]⟩ 1 none).before a0 Z = true) (hsz : Ls.size = maxL) (hf : 1 ≤ R.frames) (hW : (rest.map fun v => v.category).sum ≤ W) (hl : W + 12 ≤ R.locals) (hp : pc + 3 = pc') (K : Run p l e R s m args below meth c Z wd EL n0 ow0 Q h ow cells slots (mkF m pc' Ls rest)) : Run p l e R s m args below meth c Z wd EL n0 ow0 Q h ow cells slots (mkF m pc Ls (.ref a :: rest)) := by
  subst hp
  exact Run.mov (fun T locs vm0 k0 X H => initO X G.1 H.2.2.1 (G.own H.1) w1 w2 w3 H.2.2.2.1 rfl (hsz.trans G.2.2.1.symm) rfl (G.hb hd) hf (by show 2 * 0 + _ ≤ W; omega) hl) K
theorem ldcStr (G : Gd p s m meth c y bytes maxL ret Z a0 EL) {idx n : Nat} {text : String} {vs : List Value} {z : Int32} (hd : decode bytes pc = .ok (.ldc idx, 2)) (hwd : wd = true) (w : (Jvm.Cond.stringLink y.cls idx text).before a0 Z = true) (wS : ∀ a ∈ Bundle.stringAtoms, a.before a0 Z = true) (hmem : (y.cls, idx) ∈ EL)
    (ht : (∀ c ∈ text.toList, c.toNat < 256) ∧ text.toList.map (fun c => Value.int (Jvm.Lit.byteI c.toNat.toUInt16)) = vs) (hz : ¬ z < 0) (hl : z.toNatClampNeg = vs.length) (hn : 4 * text.toList.length ≤ n) (hbig : n ≤ 536870912) (hc : cells + 2 ≤ R.cells) (hl' : slots + (n + 4) ≤ R.slots) (hc' : cells + 2 = cells') (hs' : slots + (n + 4) = slots') (hp : pc + 2 = pc')
    (K : ∀ (a b : Addr) (k : ClassId) (h' : Heap), Ext h h' → Exa Z h' a "java/lang/String" → Fld Z h' a "java/lang/String" "coder" "B" (.int 0) → Fld Z h' a "java/lang/String" "value" "[B" (.ref b) → Arv Z h' b k .byte z vs (.int 0) → (∀ x ∈ ow, x ≠ a ∧ x ≠ b) → Run p l e R s m args below meth c Z wd EL n0 ow0 Q h' ow cells' slots' (mkF m pc' Ls (.ref a :: st))) : Run p l e R s m args below meth c Z wd EL n0 ow0 Q h ow cells slots (mkF m pc Ls st) := by
  subst hp hc' hs'
  intro T locs vm0 k0 X H
  obtain ⟨i1, i2, i3, i4, i5, i6, i7, i8, i9, i10⟩ := H
  obtain ⟨a, T', h', k1, b, k, X', eT, E, hS, hk, hW, -, q1, q2, q3, q4, -, -, hC, -, hne, st⟩ := ldcCH X G.1 i3 (G.own i1) w wS i4 i1 i2 G.2.2.2.2.2.2.2 hmem i6.1 ht hz hl (g := mkF m pc Ls st) rfl (G.hb hd) hn hbig hc hl'
  have hsafe : ∀ x ∈ ow, Safe Z EL T'.vm h' x := fun x hx => hC.safe (i9 x hx).2.1 (i9 x hx).1
  obtain ⟨s₂, o, q, r⟩ := K a b k h' E q1 q2 q3 q4 (fun x hx => hne x (hsafe x hx)) T' locs T'.vm k1 X' ⟨hS, hk, hW, eT, i5, i6.trans hC, i7.ext E, i8.ext E, fun x hx => ⟨hsafe x hx, Nat.lt_of_lt_of_le (i9 x hx).2.1 E.1, (i9 x hx).2.2⟩, Or.inl hwd⟩
  exact ⟨s₂, o, st _ q, r⟩
theorem ldcOpaque (G : Gd p s m meth c y bytes maxL ret Z a0 EL) {idx n : Nat} {text : String} (hd : decode bytes pc = .ok (.ldc idx, 2)) (hwd : wd = true) (w : (Jvm.Cond.stringLink y.cls idx text).before a0 Z = true) (wS : ∀ a ∈ Bundle.stringAtoms, a.before a0 Z = true)
    (hn : 4 * text.toList.length ≤ n) (hbig : n ≤ 536870912) (hc : cells + 2 ≤ R.cells) (hl' : slots + (n + 4) ≤ R.slots) (hc' : cells + 2 = cells') (hs' : slots + (n + 4) = slots') (hp : pc + 2 = pc')
    (K : ∀ (a : Addr) (h' : Heap), Ext h h' → Run p l e R s m args below meth c Z wd EL n0 ow0 Q h' ow cells' slots' (mkF m pc' Ls (.ref a :: st))) : Run p l e R s m args below meth c Z wd EL n0 ow0 Q h ow cells slots (mkF m pc Ls st) := by
  subst hp hc' hs'
  intro T locs vm0 k0 X H
  obtain ⟨i1, i2, i3, i4, i5, i6, i7, i8, i9, i10⟩ := H
  obtain ⟨a, T', h', k1, X', eT, E, hS, hk, hW, -, hC, -, st⟩ := ldcOH X G.1 i3 (G.own i1) w wS i4 i1 i2 G.2.2.2.2.2.2.2 i6.1 (g := mkF m pc Ls st) rfl (G.hb hd) hn hbig hc hl'
  have hsafe : ∀ x ∈ ow, Safe Z EL T'.vm h' x := fun x hx => hC.safe (i9 x hx).2.1 (i9 x hx).1
  obtain ⟨s₂, o, q, r⟩ := K a h' E T' locs T'.vm k1 X' ⟨hS, hk, hW, eT, i5, i6.trans hC, i7.ext E, i8.ext E, fun x hx => ⟨hsafe x hx, Nat.lt_of_lt_of_le (i9 x hx).2.1 E.1, (i9 x hx).2.2⟩, Or.inl hwd⟩
  exact ⟨s₂, o, st _ q, r⟩
theorem fin (G : Gd p s m meth c y bytes maxL ret Z a0 EL) {v : Option Value} {g : JFrame} (hv : ret = none → v = none) (hc : cells ≤ R.cells) (hs : slots ≤ R.slots) (q : Q v h)
    (stp : ∀ (T : State) (locs : List Loc) (vm0 : Vm) (k0 : Nat) (fs : List Frame), Stand p l e R (s.setVm vm0) m args below meth c T locs cells slots → (∀ (f : JFrame) (acts : List Action), f.method = m → f.locked = none → f.entered = [] → (doReturn e (T.setTop f) acts v).1 = T.setFrames fs) → Steps p.tables e below (T.setTop g) (T.setFrames fs)) : Run p l e R s m args below meth c Z wd EL n0 ow0 Q h ow cells slots g := by
  intro T locs vm0 k0 X H
  obtain ⟨i1, i2, i3, i4, i5, i6, i7, i8, i9, i10⟩ := H
  obtain ⟨fs, hr, hrun, hended, hW⟩ := X.leaveW i1 (by rw [i4]; exact i2) (v := v) (fun h => hv (G.2.2.2.2.1.symm.trans h)) G.2.2.2.2.2.2.1
  have hT : (T.setFrames fs).heap = h := i4
  have hA := CHv.at X i3 G.2.2.2.2.2.2.2 i6.1
  refine ⟨_, _, stp T locs vm0 k0 fs X hr, hrun, hended, v, locs, rfl, by rw [hT]; exact q, i5, by rw [hT]; exact i6.trans hA, by rw [hT]; exact i7, ⟨hW.1, hW.2.1, hW.2.2.1, hW.2.2.2.mono hc hs⟩, i10.imp id fun w => State.WarmedH.trans (t := s.setVm vm0) w X.warmed⟩
theorem retInt (G : Gd p s m meth c y bytes maxL ret Z a0 EL) {z : Int32} (hd : decode bytes pc = .ok (.ireturn, 1)) (hret : ret = some .int) (hc : cells ≤ R.cells) (hs : slots ≤ R.slots) (q : Q (some (.int z)) h) : Run p l e R s m args below meth c Z wd EL n0 ow0 Q h ow cells slots (mkF m pc Ls (.int z :: rest)) :=
  fin G (fun h => by rw [hret] at h; cases h) hc hs q fun T locs vm0 k0 fs X hr => retOut X G.1 (G.2.2.2.2.1.trans hret) rfl (Or.inl ⟨rfl, Or.inl rfl, z, rfl⟩) (G.hb hd) hr
theorem retNar (G : Gd p s m meth c y bytes maxL ret Z a0 EL) {z : Int32} {t : FieldType} (hd : decode bytes pc = .ok (.ireturn, 1)) (hret : ret = some t) (ht : t = .boolean ∨ t = .byte ∨ t = .char ∨ t = .short) (hc : cells ≤ R.cells) (hs : slots ≤ R.slots) (q : Q (some (.int (nar t z))) h) : Run p l e R s m args below meth c Z wd EL n0 ow0 Q h ow cells slots (mkF m pc Ls (.int z :: rest)) :=
  fin G (fun h => by rw [hret] at h; cases h) hc hs q fun T locs vm0 k0 fs X hr => retN X G.1 (G.2.2.2.2.1.trans hret) ht (G.hb hd) hr
theorem retRef (G : Gd p s m meth c y bytes maxL ret Z a0 EL) {v : Value} {t : FieldType} (hd : decode bytes pc = .ok (.areturn, 1)) (hret : ret = some t) (ht : t.isReference = true) (hv : v.isRef = true) (hc : cells ≤ R.cells) (hs : slots ≤ R.slots) (q : Q (some v) h) : Run p l e R s m args below meth c Z wd EL n0 ow0 Q h ow cells slots (mkF m pc Ls (v :: rest)) :=
  fin G (fun h => by rw [hret] at h; cases h) hc hs q fun T locs vm0 k0 fs X hr => retOut X G.1 (G.2.2.2.2.1.trans hret) (by cases t <;> cases v <;> first | rfl | (simp [Value.isRef, FieldType.isReference] at hv ht)) (Or.inr (Or.inr (Or.inr (Or.inr ⟨rfl, ht, hv⟩)))) (G.hb hd) hr
theorem retVoid (G : Gd p s m meth c y bytes maxL ret Z a0 EL) (hd : decode bytes pc = .ok (.return_, 1)) (hret : ret = none) (hc : cells ≤ R.cells) (hs : slots ≤ R.slots) (q : Q none h) : Run p l e R s m args below meth c Z wd EL n0 ow0 Q h ow cells slots (mkF m pc Ls []) :=
  fin G (fun _ => rfl) hc hs q fun T locs vm0 k0 fs X hr => X.returnOut G.1 (G.2.2.2.2.1.trans hret) (G.hb hd) hr
/-- a callee's contract pays the call -/
theorem backG {y' : MethodName} {bytes' : ByteArray} {maxL' : Nat} {ret' : Option FieldType} {rm : Room} {len W : Nat} {as' : Array Value} {owc : List Addr} {Q' : Option Value → Heap → Prop} {vm0 : Vm}
    (C : Con l Z wd EL n0 y' bytes' maxL' ret' rm [] as' h owc Q') (hZ : Z.Warmed39 vm0) (wc : (Jvm.Cond.code y' bytes' maxL' ret').before a0 Z = true) (wz : (Jvm.Cond.initialized y'.cls).before a0 Z = true) (hf : rm.frames + 1 ≤ R.frames) (hl : W + (maxL' + 11) + rm.locals ≤ R.locals) (hEL : EW Z a0 EL) (H : CHv Z EL vm0 h) (hO : Old Z n0 h) (hS : ∀ x ∈ owc, Safe Z EL vm0 h x ∧ x < h.size ∧ n0 ≤ x) :
    BackS l R p e below (s.setVm vm0) args y' len W (fun A a => a = as' ∧ A.U.heap = h ∧ A.cells + rm.cells ≤ R.cells ∧ A.slots + rm.slots ≤ R.slots)
      (fun A _ v B => ∃ L, Q' v B.U.heap ∧ Fr n0 L ∧ Keep h B.U.heap owc ∧ B.locs = A.locs ++ L ∧ B.cells = A.cells + rm.cells ∧ B.slots = A.slots + rm.slots ∧ CHr Z EL vm0 h B.U.vm B.U.heap ∧ (wd = true ∨ (s.setVm vm0).WarmedH B.U.vm)) :=
  BackS.of_freeW (bytes := bytes') (maxL := maxL') (ret := ret') (E := fun _ first o t L k n => k = rm.cells ∧ n = rm.slots ∧ (∃ v, o = .returned v ∧ Q' v t.heap) ∧ Fr n0 L ∧ Keep first.heap t.heap owc ∧ CHr Z EL first.vm first.heap t.vm t.heap ∧ (wd = true ∨ first.WarmedH t.vm)) C hf hl
    (fun m meth c A a Y hp => have hU : Z.Warmed39 A.U.vm := wtrans (s := s.setVm vm0) hZ Y.warmed
      ⟨by show (Cond.and _ .tt).before a A.U = true; rw [Cond.before_and, mv hU wc]; rfl, mv hU wc, mv hU wz, hp.2.2.1, hp.2.2.2⟩)
    (fun m meth c A a g mk Y hp => ⟨hp.1, wtrans (s := s.setVm vm0) hZ Y.warmed, hp.2.1, hO, (CHv.at Y hZ hEL H).1, fun x hx => ⟨(CHv.at Y hZ hEL H).safe (hS x hx).2.1 (hS x hx).1, (hS x hx).2⟩⟩) (fun _ _ _ _ _ _ _ _ _ => trivial)
    (fun _ _ _ _ ⟨v, L, h1, h2, h3, h4, h5, h6, h7⟩ => ⟨L, _, _, h6, rfl, rfl, ⟨v, h1, h2⟩, h3, h5, h4, h7⟩)
    (fun m meth c A a g mk v t L k n Y hp _ _ ⟨e1, e2, ⟨v', e3, e4⟩, e5, e6, e7, e8⟩ => by
      cases e3; subst e1 e2
      have hh : (A.U.calling g mk a).heap = h := hp.2.1
      rw [hh] at e6 e7
      exact ⟨L, e4, e5, e6, rfl, rfl, rfl, (CHv.at Y hZ hEL H).trans e7, e8.imp id fun w => State.WarmedH.trans (t := A.U) Y.warmed w⟩)
theorem Hid.call {T T' : State} {locs L : List Loc} {vm0 : Vm} {k0 : Nat} {owc : List Addr} (H : Hid s Z wd EL n0 ow0 ow T locs vm0 k0 h) (how : ∀ x ∈ owc, x ∈ ow) (hS : (s.setVm vm0).Since T'.vm T'.heap.size) (N : Fr n0 L) (K : Keep h T'.heap owc) (hC : CHr Z EL vm0 h T'.vm T'.heap) (hw : wd = true ∨ (s.setVm vm0).WarmedH T'.vm) :
    Hid s Z wd EL n0 ow0 ow T' (locs ++ L) T'.vm T'.heap.size T'.heap := by
  obtain ⟨i1, i2, i3, i4, i5, i6, i7, i8, i9, i10⟩ := H
  refine ⟨i1.trans hS (Nat.le_trans i2 K.1), Nat.le_refl _, State.Warmed39.trans (t := s.setVm vm0) i3 hS.1, rfl, i5.app N, i6.trans hC, i7.trans K (fun x hx => (i9 x (how x hx)).2.2.2), i8.keep K (fun x hx => (i9 x (how x hx)).2.2.1), fun x hx => ⟨hC.safe (i9 x hx).2.1 (i9 x hx).1, Nat.lt_of_lt_of_le (i9 x hx).2.1 K.1, (i9 x hx).2.2⟩, ?_⟩
  rcases hw with hw | hw
  · exact Or.inl hw
  · exact i10.imp id fun w => State.WarmedH.trans (t := s.setVm vm0) w hw
theorem callStatic (G : Gd p s m meth c y bytes maxL ret Z a0 EL) {idx : Nat} {y' : MethodName} {bytes' : ByteArray} {maxL' : Nat} {ret' : Option FieldType} {rm : Room} {W : Nat} {argsL : List Value} {owc : List Addr} {Q' : Option Value → Heap → Prop} (hd : decode bytes pc = .ok (.invokestatic idx, 3))
    (w1 : (Jvm.Cond.methodLink y.cls idx y').before a0 Z = true) (w2 : (Jvm.Cond.static y').before a0 Z = true) (w3 : (Jvm.Cond.initialized y'.cls).before a0 Z = true) (w4 : (Jvm.Cond.code y' bytes' maxL' ret').before a0 Z = true) (hy : y'.cls ≠ "java/lang/invoke/MethodHandle" ∧ y'.cls ≠ "java/lang/invoke/VarHandle")
    (C : Con l Z wd EL n0 y' bytes' maxL' ret' rm [] argsL.toArray h owc Q') (hst : st = argsL.reverse ++ rest) (hlen : ∀ sig, parseMethodDescriptor y'.desc = some sig → argsL.length = sig.parameters.length) (hsz : Ls.size = maxL) (hfr : rm.frames + 1 ≤ R.frames) (hW : (rest.map fun v => v.category).sum ≤ W) (hlo : W + (maxL' + 11) + rm.locals ≤ R.locals) (hc : cells + rm.cells ≤ R.cells) (hs : slots + rm.slots ≤ R.slots) (how : ∀ x ∈ owc, x ∈ ow) (hc' : cells + rm.cells = cells') (hs' : slots + rm.slots = slots') (hp : pc + 3 = pc')
    (K : ∀ (v : Option Value) (h' : Heap), Q' v h' → Keep h h' owc → Run p l e R s m args below meth c Z wd EL n0 ow0 Q h' ow cells' slots' (mkF m pc' Ls (v.toList ++ rest))) : Run p l e R s m args below meth c Z wd EL n0 ow0 Q h ow cells slots (mkF m pc Ls st) := by
  subst hp hst hc' hs'
  intro T locs vm0 k0 X H
  have hZ := H.2.2.1
  obtain ⟨v, vm₁, B, -, X', hS, -, ⟨L, q1, q2, q3, q4, q5, q6, q7, q8⟩, stp⟩ := callSS X G.1 (bytes := bytes') (maxL := maxL') (ret := ret') (G.own H.1) (mv (s := s.setVm vm0) hZ w1) (mv (s := s.setVm vm0) hZ w2) (mv (s := s.setVm vm0) hZ w3) (mv (s := s.setVm vm0) hZ w4) hy
    (backG C hZ w4 w3 hfr hlo G.2.2.2.2.2.2.2 H.2.2.2.2.2.1.1 H.2.2.2.2.2.2.2.1 (fun x hx => ⟨(H.2.2.2.2.2.2.2.2.1 x (how x hx)).1, (H.2.2.2.2.2.2.2.2.1 x (how x hx)).2.1, (H.2.2.2.2.2.2.2.2.1 x (how x hx)).2.2.1⟩)) (g := mkF m pc Ls (argsL.reverse ++ rest)) rfl (hsz.trans G.2.2.1.symm) hlen rfl (by show 2 * 0 + _ ≤ W; omega) (G.hb hd) (fun _ _ => ⟨rfl, H.2.2.2.1, hc, hs⟩)
  obtain ⟨T', Lc, kc, nc⟩ := B
  dsimp only [Pt.U, Pt.locs, Pt.cells, Pt.slots] at X' q1 q3 q4 q5 q6 q7 q8 hS stp
  subst q4 q5 q6
  obtain ⟨s₂, o, q, r⟩ := K v T'.heap q1 q3 T' (locs ++ L) T'.vm T'.heap.size X' (H.call how hS q2 q3 q7 q8)
  exact ⟨s₂, o, stp.trans q, r⟩
theorem callSpecial (G : Gd p s m meth c y bytes maxL ret Z a0 EL) {idx : Nat} {y' : MethodName} {bytes' : ByteArray} {maxL' : Nat} {rm : Room} {W : Nat} {a : Addr} {argsL : List Value} {owc : List Addr} {Q' : Option Value → Heap → Prop} (hd : decode bytes pc = .ok (.invokespecial idx, 3)) (hn : y'.name = "<init>")
    (w1 : (Jvm.Cond.methodLink y.cls idx y').before a0 Z = true) (w2 : (Jvm.Cond.instanceMethod y').before a0 Z = true) (w3 : (Jvm.Cond.initialized y'.cls).before a0 Z = true) (w4 : (Jvm.Cond.code y' bytes' maxL' none).before a0 Z = true) (hy : y'.cls ≠ "java/lang/invoke/MethodHandle" ∧ y'.cls ≠ "java/lang/invoke/VarHandle")
    (C : Con l Z wd EL n0 y' bytes' maxL' none rm [] (.ref a :: argsL).toArray h owc Q') (hst : st = argsL.reverse ++ .ref a :: rest) (hlen : ∀ sig, parseMethodDescriptor y'.desc = some sig → argsL.length = sig.parameters.length) (hsz : Ls.size = maxL) (hfr : rm.frames + 1 ≤ R.frames) (hW : (rest.map fun v => v.category).sum ≤ W) (hlo : W + (maxL' + 11) + rm.locals ≤ R.locals) (hc : cells + rm.cells ≤ R.cells) (hs : slots + rm.slots ≤ R.slots) (how : ∀ x ∈ owc, x ∈ ow) (hc' : cells + rm.cells = cells') (hs' : slots + rm.slots = slots') (hp : pc + 3 = pc')
    (K : ∀ (v : Option Value) (h' : Heap), Q' v h' → Keep h h' owc → Run p l e R s m args below meth c Z wd EL n0 ow0 Q h' ow cells' slots' (mkF m pc' Ls (v.toList ++ rest))) : Run p l e R s m args below meth c Z wd EL n0 ow0 Q h ow cells slots (mkF m pc Ls st) := by
  subst hp hst hc' hs'
  intro T locs vm0 k0 X H
  have hZ := H.2.2.1
  obtain ⟨v, vm₁, B, -, X', hS, -, ⟨L, q1, q2, q3, q4, q5, q6, q7, q8⟩, stp⟩ := X.specialBackS G.1 (bytes := bytes') (maxL := maxL') hn (G.own H.1) (mv (s := s.setVm vm0) hZ w1) (mv (s := s.setVm vm0) hZ w2) (mv (s := s.setVm vm0) hZ w4) hy
    (backG C hZ w4 w3 hfr hlo G.2.2.2.2.2.2.2 H.2.2.2.2.2.1.1 H.2.2.2.2.2.2.2.1 (fun x hx => ⟨(H.2.2.2.2.2.2.2.2.1 x (how x hx)).1, (H.2.2.2.2.2.2.2.2.1 x (how x hx)).2.1, (H.2.2.2.2.2.2.2.2.1 x (how x hx)).2.2.1⟩)) (g := mkF m pc Ls (argsL.reverse ++ .ref a :: rest)) rfl (hsz.trans G.2.2.1.symm) (Steps.refl _) hlen rfl (by show 2 * 0 + _ ≤ W; omega) (G.hb hd) (fun _ _ => ⟨rfl, H.2.2.2.1, hc, hs⟩)
  obtain ⟨T', Lc, kc, nc⟩ := B
  dsimp only [Pt.U, Pt.locs, Pt.cells, Pt.slots] at X' q1 q3 q4 q5 q6 q7 q8 hS stp
  subst q4 q5 q6
  obtain ⟨s₂, o, q, r⟩ := K v T'.heap q1 q3 T' (locs ++ L) T'.vm T'.heap.size X' (H.call how hS q2 q3 q7 q8)
  exact ⟨s₂, o, stp.trans q, r⟩
theorem callVirtual (G : Gd p s m meth c y bytes maxL ret Z a0 EL) {idx : Nat} {y' z' : MethodName} {D : String} {bytes' : ByteArray} {maxL' : Nat} {ret' : Option FieldType} {rm : Room} {W : Nat} {a : Addr} {argsL : List Value} {owc : List Addr} {Q' : Option Value → Heap → Prop} (hd : decode bytes pc = .ok (.invokevirtual idx, 3))
    (w1 : (Jvm.Cond.methodLink y.cls idx y').before a0 Z = true) (w2 : (Jvm.Cond.declares y').before a0 Z = true) (w3 : (Jvm.Cond.selects D y' z').before a0 Z = true) (hnf : ∀ (s : State), Z.Warmed39 s.vm → NotFace s y') (w4 : (Jvm.Cond.instanceMethod z').before a0 Z = true) (w5 : (Jvm.Cond.initialized z'.cls).before a0 Z = true) (w6 : (Jvm.Cond.code z' bytes' maxL' ret').before a0 Z = true) (hy : y'.cls ≠ "java/lang/invoke/MethodHandle" ∧ y'.cls ≠ "java/lang/invoke/VarHandle")
    (E : Exa Z h a D) (C : Con l Z wd EL n0 z' bytes' maxL' ret' rm [] (.ref a :: argsL).toArray h owc Q') (hst : st = argsL.reverse ++ .ref a :: rest) (hlen : ∀ sig, parseMethodDescriptor y'.desc = some sig → argsL.length = sig.parameters.length) (hsz : Ls.size = maxL) (hfr : rm.frames + 1 ≤ R.frames) (hW : (rest.map fun v => v.category).sum ≤ W) (hlo : W + (maxL' + 11) + rm.locals ≤ R.locals) (hc : cells + rm.cells ≤ R.cells) (hs : slots + rm.slots ≤ R.slots) (how : ∀ x ∈ owc, x ∈ ow) (hc' : cells + rm.cells = cells') (hs' : slots + rm.slots = slots') (hp : pc + 3 = pc')
    (K : ∀ (v : Option Value) (h' : Heap), Q' v h' → Keep h h' owc → Run p l e R s m args below meth c Z wd EL n0 ow0 Q h' ow cells' slots' (mkF m pc' Ls (v.toList ++ rest))) : Run p l e R s m args below meth c Z wd EL n0 ow0 Q h ow cells slots (mkF m pc Ls st) := by
  subst hp hst hc' hs'
  intro T locs vm0 k0 X H
  have hZ := H.2.2.1
  obtain ⟨cq, kq, r1, -, r3⟩ := isOf (s := s.setVm vm0) (T := T) hZ H.2.2.2.1 E
  obtain ⟨v, vm₁, B, -, X', hS, -, ⟨L, q1, q2, q3, q4, q5, q6, q7, q8⟩, stp⟩ := X.virtualBackS G.1 (G.own H.1) (mv (s := s.setVm vm0) hZ w1) (mv (s := s.setVm vm0) hZ w2) (hnf (s.setVm vm0) hZ) (mv (s := s.setVm vm0) hZ w3) (mv (s := s.setVm vm0) hZ w4) hy
    (backG C hZ w6 w5 hfr hlo G.2.2.2.2.2.2.2 H.2.2.2.2.2.1.1 H.2.2.2.2.2.2.2.1 (fun x hx => ⟨(H.2.2.2.2.2.2.2.2.1 x (how x hx)).1, (H.2.2.2.2.2.2.2.2.1 x (how x hx)).2.1, (H.2.2.2.2.2.2.2.2.1 x (how x hx)).2.2.1⟩)) r1 r3 (g := mkF m pc Ls (argsL.reverse ++ .ref a :: rest)) rfl (hsz.trans G.2.2.1.symm) (Steps.refl _) hlen rfl (by show 2 * 0 + _ ≤ W; omega) (G.hb hd) (fun _ _ => ⟨rfl, H.2.2.2.1, hc, hs⟩)
  obtain ⟨T', Lc, kc, nc⟩ := B
  dsimp only [Pt.U, Pt.locs, Pt.cells, Pt.slots] at X' q1 q3 q4 q5 q6 q7 q8 hS stp
  subst q4 q5 q6
  obtain ⟨s₂, o, q, r⟩ := K v T'.heap q1 q3 T' (locs ++ L) T'.vm T'.heap.size X' (H.call how hS q2 q3 q7 q8)
  exact ⟨s₂, o, stp.trans q, r⟩
theorem callFace (G : Gd p s m meth c y bytes maxL ret Z a0 EL) {idx count : Nat} {y' z' : MethodName} {D : String} {bytes' : ByteArray} {maxL' : Nat} {ret' : Option FieldType} {rm : Room} {W : Nat} {a : Addr} {argsL : List Value} {owc : List Addr} {Q' : Option Value → Heap → Prop} (hd : decode bytes pc = .ok (.invokeinterface idx count, 5))
    (w1 : (Jvm.Cond.methodLink y.cls idx y').before a0 Z = true) (w2 : (Jvm.Cond.declares y').before a0 Z = true) (w3 : (Jvm.Cond.selects D y' z').before a0 Z = true) (wf : ∀ (a1 : Array Value) (s : State), Z.Warmed39 s.vm → (Jvm.Cond.interfaceMethod y'.cls y'.cls y'.name y'.desc).before a1 s = true) (wp : (Jvm.Cond.publicMethod z').before a0 Z = true) (wu : (Jvm.Cond.unhidden D y'.name y'.desc).before a0 Z = true) (wk : (Jvm.Cond.castable D y'.cls).before a0 Z = true) (w4 : (Jvm.Cond.instanceMethod z').before a0 Z = true) (w5 : (Jvm.Cond.initialized z'.cls).before a0 Z = true) (w6 : (Jvm.Cond.code z' bytes' maxL' ret').before a0 Z = true) (hy : y'.cls ≠ "java/lang/invoke/MethodHandle" ∧ y'.cls ≠ "java/lang/invoke/VarHandle")
    (E : Exa Z h a D) (C : Con l Z wd EL n0 z' bytes' maxL' ret' rm [] (.ref a :: argsL).toArray h owc Q') (hst : st = argsL.reverse ++ .ref a :: rest) (hlen : ∀ sig, parseMethodDescriptor y'.desc = some sig → argsL.length = sig.parameters.length) (hsz : Ls.size = maxL) (hfr : rm.frames + 1 ≤ R.frames) (hW : (rest.map fun v => v.category).sum ≤ W) (hlo : W + (maxL' + 11) + rm.locals ≤ R.locals) (hc : cells + rm.cells ≤ R.cells) (hs : slots + rm.slots ≤ R.slots) (how : ∀ x ∈ owc, x ∈ ow) (hc' : cells + rm.cells = cells') (hs' : slots + rm.slots = slots') (hp : pc + 5 = pc')
    (K : ∀ (v : Option Value) (h' : Heap), Q' v h' → Keep h h' owc → Run p l e R s m args below meth c Z wd EL n0 ow0 Q h' ow cells' slots' (mkF m pc' Ls (v.toList ++ rest))) : Run p l e R s m args below meth c Z wd EL n0 ow0 Q h ow cells slots (mkF m pc Ls st) := by
  subst hp hst hc' hs'
  intro T locs vm0 k0 X H
  have hZ := H.2.2.1
  obtain ⟨cq, kq, r1, r2, r3⟩ := isOf (s := s.setVm vm0) (T := T) hZ H.2.2.2.1 E
  obtain ⟨v, vm₁, B, -, X', hS, -, ⟨L, q1, q2, q3, q4, q5, q6, q7, q8⟩, stp⟩ := X.interfaceBackS G.1 (G.own H.1) (mv (s := s.setVm vm0) hZ w1) (mv (s := s.setVm vm0) hZ w2) (wf _ (s.setVm vm0) hZ) (mv (s := s.setVm vm0) hZ w3) (mv (s := s.setVm vm0) hZ w4) (mv (s := s.setVm vm0) hZ wp) (mv (s := s.setVm vm0) hZ wu) (mv (s := s.setVm vm0) hZ wk) hy
    (backG C hZ w6 w5 hfr hlo G.2.2.2.2.2.2.2 H.2.2.2.2.2.1.1 H.2.2.2.2.2.2.2.1 (fun x hx => ⟨(H.2.2.2.2.2.2.2.2.1 x (how x hx)).1, (H.2.2.2.2.2.2.2.2.1 x (how x hx)).2.1, (H.2.2.2.2.2.2.2.2.1 x (how x hx)).2.2.1⟩)) r1 r2 r3 (g := mkF m pc Ls (argsL.reverse ++ .ref a :: rest)) rfl (hsz.trans G.2.2.1.symm) (Steps.refl _) hlen rfl (by show 2 * 0 + _ ≤ W; omega) (G.hb hd) (fun _ _ => ⟨rfl, H.2.2.2.1, hc, hs⟩)
  obtain ⟨T', Lc, kc, nc⟩ := B
  dsimp only [Pt.U, Pt.locs, Pt.cells, Pt.slots] at X' q1 q3 q4 q5 q6 q7 q8 hS stp
  subst q4 q5 q6
  obtain ⟨s₂, o, q, r⟩ := K v T'.heap q1 q3 T' (locs ++ L) T'.vm T'.heap.size X' (H.call how hS q2 q3 q7 q8)
  exact ⟨s₂, o, stp.trans q, r⟩
theorem nface {y' : MethodName} {D : String} (w3 : (Jvm.Cond.selects D y' y').before a0 Z = true) : ∀ (s : State), Z.Warmed39 s.vm → NotFace s y' := fun s hZ => notFace_of_selects (args := #[]) (mv (s := s) hZ w3)
end
end Jvm.GoKit


namespace Jvm.GoKit
open Jvm Jvm.ClassFile Sem Op Lib Jvm.Free Jvm.Stand Jvm.LawKit Jvm.RoadKit Bundle
theorem wi {L : List Jvm.Cond} {a0 : Array Value} {Z : State} (hw : ∀ d ∈ L, d.before a0 Z = true) (i : Nat) {d : Jvm.Cond} (h : L[i]? = some d) : d.before a0 Z = true := hw _ (List.mem_of_getElem? h)
/-- an array of chars or bytes, with its values -/
def IA (Z : State) (h : Heap) (b : Addr) (ty : FieldType) (xs : List Int32) : Prop := ∃ cl : Cell, Arr Z h b cl ty ∧ cl.slots = (xs.map Value.int).toArray ∧ xs.length < 2 ^ 31
section
variable {p : Program} {l : Launch} {e : Env} {R : Room} {s : State} {m : MethodId} {args : Array Value} {below : List Frame} {meth : Method} {c : Code} {Z : State} {wd : Bool} {EL : List (String × Nat)} {n0 : Nat} {ow0 : List Addr} {Q : Option Value → Heap → Prop}
variable {h h' : Heap} {ow : List Addr} {cells slots cells' slots' : Nat} {pc pc' : Nat} {Ls Ls' : Array Slot} {st rest : List Value} {y : MethodName} {bytes : ByteArray} {maxL : Nat} {ret : Option FieldType} {a0 : Array Value}
variable {a b : Addr} {ty : FieldType} {xs : List Int32} {i : Nat} {x x' z j : Int32} {ws : List Addr} {sl : Nat} {v : Value}
theorem IA.lt (A : IA Z h b ty xs) : b < h.size := by obtain ⟨cl, A, -⟩ := A; exact A.lt
theorem IA.ext (A : IA Z h b ty xs) (E : Ext h h') : IA Z h' b ty xs := by obtain ⟨cl, A, r⟩ := A; exact ⟨cl, A.ext E, r⟩
theorem IA.other (A : IA Z h b ty xs) (W : Wr h h' a sl v) (q : b ≠ a) : IA Z h' b ty xs := by obtain ⟨cl, A, r⟩ := A; exact ⟨cl, A.other W q, r⟩
theorem IA.keep (A : IA Z h b ty xs) (K : Keep h h' ws) (q : b ∉ ws) : IA Z h' b ty xs := by obtain ⟨cl, A, r⟩ := A; exact ⟨cl, ⟨K.2.1 b cl A.1 q, A.2⟩, r⟩
theorem IA.new {cA : ClassId} {n : Int32} {k : Nat} (A : Arr Z h a (newA cA ty n) ty) (hk : n.toNatClampNeg = k) (hd : defaultValue ty = .int 0) : IA Z h a ty (List.replicate k 0) := by
  refine ⟨_, A, ?_, ?_⟩
  · subst hk; simp [newA, hd]
  · rw [List.length_replicate, ← hk]
    have := n.toInt_lt
    simp only [Int32.toNatClampNeg]; omega
theorem idx_ok {cl : Cell} {j : Int32} {i n : Nat} (hs : cl.slots.size = n) (hj : j.toNatClampNeg = i) (hj0 : ¬ j < 0) (hi : i < n) : ¬ (j < 0 ∨ cl.slots.size ≤ j.toNatClampNeg) := by
  rintro (q | q)
  · exact hj0 q
  · omega
theorem IA.set (A : IA Z h a ty xs) (W : Wr h h' a i (.int x)) (hi : i < xs.length) : IA Z h' a ty (xs.set i x) := by
  obtain ⟨cl, A, e, hl⟩ := A
  refine ⟨_, A.same W, ?_, by simpa using hl⟩
  simp only [Cell.setSlot]
  rw [e, ← Array.toList_inj]
  simp [List.map_set]
theorem castI (G : Gd p s m meth c y bytes maxL ret Z a0 EL) (hd : decode bytes pc = .ok (.castore, 1)) (A : IA Z h a .char xs) (hj : j.toNatClampNeg = i) (hj0 : ¬ j < 0) (hi : i < xs.length) (hx : nar .char x = x') (ha : a ∈ ow) (hp : pc + 1 = pc')
    (K : ∀ h', Wr h h' a i (.int x') → IA Z h' a .char (xs.set i x') → Run p l e R s m args below meth c Z wd EL n0 ow0 Q h' ow cells slots (mkF m pc' Ls rest)) : Run p l e R s m args below meth c Z wd EL n0 ow0 Q h ow cells slots (mkF m pc Ls (.int x :: .int j :: .ref a :: rest)) := by
  obtain ⟨cl, A1, e1, hl⟩ := id A
  refine castore G hd A1 (idx_ok (by rw [e1]; simp) hj hj0 hi) ha hp fun h' W => ?_
  rw [hj, hx] at W
  exact K h' W (A.set W hi)
theorem bastI (G : Gd p s m meth c y bytes maxL ret Z a0 EL) (hd : decode bytes pc = .ok (.bastore, 1)) (A : IA Z h a .byte xs) (hj : j.toNatClampNeg = i) (hj0 : ¬ j < 0) (hi : i < xs.length) (hx : nar .byte x = x') (ha : a ∈ ow) (hp : pc + 1 = pc')
    (K : ∀ h', Wr h h' a i (.int x') → IA Z h' a .byte (xs.set i x') → Run p l e R s m args below meth c Z wd EL n0 ow0 Q h' ow cells slots (mkF m pc' Ls rest)) : Run p l e R s m args below meth c Z wd EL n0 ow0 Q h ow cells slots (mkF m pc Ls (.int x :: .int j :: .ref a :: rest)) := by
  obtain ⟨cl, A1, e1, hl⟩ := id A
  refine bastore G hd A1 (idx_ok (by rw [e1]; simp) hj hj0 hi) ha hp fun h' W => ?_
  rw [hj, hx] at W
  exact K h' W (A.set W hi)
theorem caloadI (G : Gd p s m meth c y bytes maxL ret Z a0 EL) (hd : decode bytes pc = .ok (.caload, 1)) (A : IA Z h a .char xs) (hj : j.toNatClampNeg = i) (hj0 : ¬ j < 0) (hv : xs[i]? = some x) (hp : pc + 1 = pc') (K : Run p l e R s m args below meth c Z wd EL n0 ow0 Q h ow cells slots (mkF m pc' Ls (.int x :: rest))) : Run p l e R s m args below meth c Z wd EL n0 ow0 Q h ow cells slots (mkF m pc Ls (.int j :: .ref a :: rest)) := by
  obtain ⟨cl, A1, e1, hl⟩ := A
  have hi := (List.getElem?_eq_some_iff.mp hv).1
  exact caload G hd A1 (idx_ok (by rw [e1]; simp) hj hj0 hi) (by rw [e1, hj]; simp [hv]) hp K
theorem baloadI (G : Gd p s m meth c y bytes maxL ret Z a0 EL) (hd : decode bytes pc = .ok (.baload, 1)) (A : IA Z h a .byte xs) (hj : j.toNatClampNeg = i) (hj0 : ¬ j < 0) (hv : xs[i]? = some x) (hp : pc + 1 = pc') (K : Run p l e R s m args below meth c Z wd EL n0 ow0 Q h ow cells slots (mkF m pc' Ls (.int x :: rest))) : Run p l e R s m args below meth c Z wd EL n0 ow0 Q h ow cells slots (mkF m pc Ls (.int j :: .ref a :: rest)) := by
  obtain ⟨cl, A1, e1, hl⟩ := A
  have hi := (List.getElem?_eq_some_iff.mp hv).1
  exact baload G hd A1 (idx_ok (by rw [e1]; simp) hj hj0 hi) (by rw [e1, hj]; simp [hv]) hp K
theorem arrlenI (G : Gd p s m meth c y bytes maxL ret Z a0 EL) (hd : decode bytes pc = .ok (.arraylength, 1)) (A : IA Z h a ty xs) (hz : xs.length.toInt32 = z) (hp : pc + 1 = pc') (K : Run p l e R s m args below meth c Z wd EL n0 ow0 Q h ow cells slots (mkF m pc' Ls (.int z :: rest))) : Run p l e R s m args below meth c Z wd EL n0 ow0 Q h ow cells slots (mkF m pc Ls (.ref a :: rest)) := by
  obtain ⟨cl, A1, e1, hl⟩ := A
  refine arrlen G hd A1 hp ?_
  rw [e1, List.size_toArray, List.length_map, hz]
  exact K
theorem newcI (G : Gd p s m meth c y bytes maxL ret Z a0 EL) {n : Int32} {k cap : Nat} (hd : decode bytes pc = .ok (.newarray .char, 2)) (w : (Jvm.Cond.arrayClass .char).before a0 Z = true) (hn : ¬ n < 0) (hk : n.toNatClampNeg = k) (hcap : k ≤ cap) (hb : cap * 8 ≤ 536870912) (hc : cells + 1 ≤ R.cells) (hl : slots + cap ≤ R.slots) (hc' : cells + 1 = cells') (hs' : slots + cap = slots') (hp : pc + 2 = pc')
    (K : ∀ (h' : Heap) (a : Addr), a = h.size → Ext h h' → IA Z h' a .char (List.replicate k 0) → Run p l e R s m args below meth c Z wd EL n0 ow0 Q h' (a :: ow) cells' slots' (mkF m pc' Ls (.ref a :: rest))) : Run p l e R s m args below meth c Z wd EL n0 ow0 Q h ow cells slots (mkF m pc Ls (.int n :: rest)) :=
  newarr G hd w hn (hk ▸ hcap) hb hc hl hc' hs' hp fun h' cA a g E A => K h' a g E (IA.new A hk rfl)
theorem newbI (G : Gd p s m meth c y bytes maxL ret Z a0 EL) {n : Int32} {k cap : Nat} (hd : decode bytes pc = .ok (.newarray .byte, 2)) (w : (Jvm.Cond.arrayClass .byte).before a0 Z = true) (hn : ¬ n < 0) (hk : n.toNatClampNeg = k) (hcap : k ≤ cap) (hb : cap * 8 ≤ 536870912) (hc : cells + 1 ≤ R.cells) (hl : slots + cap ≤ R.slots) (hc' : cells + 1 = cells') (hs' : slots + cap = slots') (hp : pc + 2 = pc')
    (K : ∀ (h' : Heap) (a : Addr), a = h.size → Ext h h' → IA Z h' a .byte (List.replicate k 0) → Run p l e R s m args below meth c Z wd EL n0 ow0 Q h' (a :: ow) cells' slots' (mkF m pc' Ls (.ref a :: rest))) : Run p l e R s m args below meth c Z wd EL n0 ow0 Q h ow cells slots (mkF m pc Ls (.int n :: rest)) :=
  newarr G hd w hn (hk ▸ hcap) hb hc hl hc' hs' hp fun h' cA a g E A => K h' a g E (IA.new A hk rfl)
/-- calls of a callee that leaves the heap as it was -/
theorem callStaticP (G : Gd p s m meth c y bytes maxL ret Z a0 EL) {idx : Nat} {y' : MethodName} {bytes' : ByteArray} {maxL' : Nat} {ret' : Option FieldType} {rm : Room} {W : Nat} {argsL : List Value} {r : Option Value} (hd : decode bytes pc = .ok (.invokestatic idx, 3))
    (w1 : (Jvm.Cond.methodLink y.cls idx y').before a0 Z = true) (w2 : (Jvm.Cond.static y').before a0 Z = true) (w3 : (Jvm.Cond.initialized y'.cls).before a0 Z = true) (w4 : (Jvm.Cond.code y' bytes' maxL' ret').before a0 Z = true) (hy : y'.cls ≠ "java/lang/invoke/MethodHandle" ∧ y'.cls ≠ "java/lang/invoke/VarHandle")
    (C : Con l Z wd EL n0 y' bytes' maxL' ret' rm [] argsL.toArray h [] (fun v h' => v = r ∧ h' = h)) (hst : st = argsL.reverse ++ rest) (hlen : ∀ sig, parseMethodDescriptor y'.desc = some sig → argsL.length = sig.parameters.length) (hsz : Ls.size = maxL) (hfr : rm.frames + 1 ≤ R.frames) (hW : (rest.map fun v => v.category).sum ≤ W) (hlo : W + (maxL' + 11) + rm.locals ≤ R.locals) (hc : cells + rm.cells ≤ R.cells) (hs : slots + rm.slots ≤ R.slots) (hc' : cells + rm.cells = cells') (hs' : slots + rm.slots = slots') (hp : pc + 3 = pc')
    (K : Run p l e R s m args below meth c Z wd EL n0 ow0 Q h ow cells' slots' (mkF m pc' Ls (r.toList ++ rest))) : Run p l e R s m args below meth c Z wd EL n0 ow0 Q h ow cells slots (mkF m pc Ls st) :=
  callStatic G hd w1 w2 w3 w4 hy C hst hlen hsz hfr hW hlo hc hs (fun _ q => nomatch q) hc' hs' hp fun v h' q _ => by rw [q.1, q.2]; exact K
theorem callVirtualP (G : Gd p s m meth c y bytes maxL ret Z a0 EL) {idx : Nat} {y' : MethodName} {D : String} {bytes' : ByteArray} {maxL' : Nat} {ret' : Option FieldType} {rm : Room} {W : Nat} {a : Addr} {argsL : List Value} {r : Option Value} (hd : decode bytes pc = .ok (.invokevirtual idx, 3))
    (w1 : (Jvm.Cond.methodLink y.cls idx y').before a0 Z = true) (w2 : (Jvm.Cond.declares y').before a0 Z = true) (w3 : (Jvm.Cond.selects D y' y').before a0 Z = true) (w4 : (Jvm.Cond.instanceMethod y').before a0 Z = true) (w5 : (Jvm.Cond.initialized y'.cls).before a0 Z = true) (w6 : (Jvm.Cond.code y' bytes' maxL' ret').before a0 Z = true) (hy : y'.cls ≠ "java/lang/invoke/MethodHandle" ∧ y'.cls ≠ "java/lang/invoke/VarHandle")
    (E : Exa Z h a D) (C : Con l Z wd EL n0 y' bytes' maxL' ret' rm [] (.ref a :: argsL).toArray h [] (fun v h' => v = r ∧ h' = h)) (hst : st = argsL.reverse ++ .ref a :: rest) (hlen : ∀ sig, parseMethodDescriptor y'.desc = some sig → argsL.length = sig.parameters.length) (hsz : Ls.size = maxL) (hfr : rm.frames + 1 ≤ R.frames) (hW : (rest.map fun v => v.category).sum ≤ W) (hlo : W + (maxL' + 11) + rm.locals ≤ R.locals) (hc : cells + rm.cells ≤ R.cells) (hs : slots + rm.slots ≤ R.slots) (hc' : cells + rm.cells = cells') (hs' : slots + rm.slots = slots') (hp : pc + 3 = pc')
    (K : Run p l e R s m args below meth c Z wd EL n0 ow0 Q h ow cells' slots' (mkF m pc' Ls (r.toList ++ rest))) : Run p l e R s m args below meth c Z wd EL n0 ow0 Q h ow cells slots (mkF m pc Ls st) :=
  callVirtual G hd w1 w2 w3 (nface w3) w4 w5 w6 hy E C hst hlen hsz hfr hW hlo hc hs (fun _ q => nomatch q) hc' hs' hp fun v h' q _ => by rw [q.1, q.2]; exact K
theorem callFaceP (G : Gd p s m meth c y bytes maxL ret Z a0 EL) {idx count : Nat} {y' z' : MethodName} {D : String} {bytes' : ByteArray} {maxL' : Nat} {ret' : Option FieldType} {rm : Room} {W : Nat} {a : Addr} {argsL : List Value} {r : Option Value} (hd : decode bytes pc = .ok (.invokeinterface idx count, 5))
    (w1 : (Jvm.Cond.methodLink y.cls idx y').before a0 Z = true) (w2 : (Jvm.Cond.declares y').before a0 Z = true) (w3 : (Jvm.Cond.selects D y' z').before a0 Z = true) (wf : ∀ (a1 : Array Value) (s : State), Z.Warmed39 s.vm → (Jvm.Cond.interfaceMethod y'.cls y'.cls y'.name y'.desc).before a1 s = true) (wp : (Jvm.Cond.publicMethod z').before a0 Z = true) (wu : (Jvm.Cond.unhidden D y'.name y'.desc).before a0 Z = true) (wk : (Jvm.Cond.castable D y'.cls).before a0 Z = true) (w4 : (Jvm.Cond.instanceMethod z').before a0 Z = true) (w5 : (Jvm.Cond.initialized z'.cls).before a0 Z = true) (w6 : (Jvm.Cond.code z' bytes' maxL' ret').before a0 Z = true) (hy : y'.cls ≠ "java/lang/invoke/MethodHandle" ∧ y'.cls ≠ "java/lang/invoke/VarHandle")
    (E : Exa Z h a D) (C : Con l Z wd EL n0 z' bytes' maxL' ret' rm [] (.ref a :: argsL).toArray h [] (fun v h' => v = r ∧ h' = h)) (hst : st = argsL.reverse ++ .ref a :: rest) (hlen : ∀ sig, parseMethodDescriptor y'.desc = some sig → argsL.length = sig.parameters.length) (hsz : Ls.size = maxL) (hfr : rm.frames + 1 ≤ R.frames) (hW : (rest.map fun v => v.category).sum ≤ W) (hlo : W + (maxL' + 11) + rm.locals ≤ R.locals) (hc : cells + rm.cells ≤ R.cells) (hs : slots + rm.slots ≤ R.slots) (hc' : cells + rm.cells = cells') (hs' : slots + rm.slots = slots') (hp : pc + 5 = pc')
    (K : Run p l e R s m args below meth c Z wd EL n0 ow0 Q h ow cells' slots' (mkF m pc' Ls (r.toList ++ rest))) : Run p l e R s m args below meth c Z wd EL n0 ow0 Q h ow cells slots (mkF m pc Ls st) :=
  callFace G hd w1 w2 w3 wf wp wu wk w4 w5 w6 hy E C hst hlen hsz hfr hW hlo hc hs (fun _ q => nomatch q) hc' hs' hp fun v h' q _ => by rw [q.1, q.2]; exact K
/-- a Latin-1 String of known chars -/
def Lat (Z : State) (h : Heap) (a : Addr) (cs : List Int32) : Prop := Exa Z h a "java/lang/String" ∧ (∃ b, Fld Z h a "java/lang/String" "value" "[B" (.ref b) ∧ Fld Z h a "java/lang/String" "coder" "B" (.int 0) ∧ IA Z h b .byte (cs.map fun c => c.toInt8.toInt32)) ∧ ∀ c ∈ cs, 0 ≤ c.toInt ∧ c.toInt < 256
theorem Lat.ext {cs : List Int32} (S : Lat Z h a cs) (E : Ext h h') : Lat Z h' a cs := by
  obtain ⟨S1, ⟨b, S2, S3, S4⟩, S5⟩ := S
  exact ⟨S1.ext E, ⟨b, S2.ext E, S3.ext E, S4.ext E⟩, S5⟩
theorem Lat.keep {cs : List Int32} (S : Lat Z h a cs) (K : Keep h h' []) : Lat Z h' a cs := by
  obtain ⟨S1, ⟨b, S2, S3, S4⟩, S5⟩ := S
  exact ⟨S1.keep K, ⟨b, S2.keep K nin0, S3.keep K nin0, S4.keep K nin0⟩, S5⟩
theorem Lat.lt {cs : List Int32} (S : Lat Z h a cs) : a < h.size := S.1.lt
theorem IA.ne {n : Nat} {C : String} (A : IA Z h b ty xs) (E : Exa Z h a C) (wi : (Jvm.Cond.instantiable C n).before a0 Z = true) : b ≠ a := by obtain ⟨cl, A, -⟩ := A; exact (ne_arr E wi A).symm
theorem IA.neTy {ty' : FieldType} {ys : List Int32} (A : IA Z h b ty xs) (B : IA Z h a ty' ys) (hn : ty ≠ ty') : b ≠ a := fun q => by
  subst q
  obtain ⟨c1, A, -⟩ := A
  obtain ⟨c2, B, -⟩ := B
  cases A.1.symm.trans B.1
  obtain ⟨-, k1, e1, p1, r1⟩ := A.2.1
  obtain ⟨-, k2, e2, p2, r2⟩ := B.2.1
  cases e1.symm.trans e2
  have := r1.symm.trans r2
  injection this with _ q
  exact hn q
theorem IA.len (A : IA Z h b ty xs) : xs.length < 2 ^ 31 := by obtain ⟨-, -, -, h⟩ := A; exact h
theorem castRun {g g' : JFrame} (q : g = g') (K : Run p l e R s m args below meth c Z wd EL n0 ow0 Q h ow cells slots g') : Run p l e R s m args below meth c Z wd EL n0 ow0 Q h ow cells slots g := q ▸ K
theorem toI_toInt {i : Nat} (h : i < 2 ^ 31) : i.toInt32.toInt = i := len_toInt h
theorem toI_clamp {i : Nat} (h : i < 2 ^ 31) : i.toInt32.toNatClampNeg = i := by simp only [Int32.toNatClampNeg, toI_toInt h]; rfl
theorem toI_nn {i : Nat} (h : i < 2 ^ 31) : ¬ i.toInt32 < 0 := by
  rw [Int32.lt_iff_toInt_lt, toI_toInt h]; show ¬ (i : Int) < 0; omega
theorem toI_lt {i k : Nat} (h : i < 2 ^ 31) (h' : k < 2 ^ 31) : i.toInt32 < k.toInt32 ↔ i < k := by
  rw [Int32.lt_iff_toInt_lt, toI_toInt h, toI_toInt h']; omega
theorem toI_succ (i : Nat) : i.toInt32 + 1 = (i + 1).toInt32 := by
  apply Int32.toBitVec_inj.mp
  simp [Nat.toInt32, BitVec.ofNat_add]
theorem toI_eq {i k : Nat} (h : i < 2 ^ 31) (h' : k < 2 ^ 31) : i.toInt32 = k.toInt32 ↔ i = k := by
  refine ⟨fun q => ?_, fun q => by rw [q]⟩
  have := congrArg Int32.toInt q
  rw [toI_toInt h, toI_toInt h'] at this; omega
theorem lo8_nar (c : Int32) : nar .byte (c.toInt8.toInt32) = c.toInt8.toInt32 := by simp [nar]
theorem nar_i2c (x : Int32) : nar .char (x.toUInt32.toUInt16.toUInt32.toInt32) = x.toUInt32.toUInt16.toUInt32.toInt32 := by simp only [nar, UInt32.toUInt32_toInt32, UInt16.toUInt16_toUInt32]
theorem set_fill (f : Int32 → Int32) (cs : List Int32) (i k : Nat) (c : Int32) (hc : cs[i]? = some c) : (((cs.take i).map f) ++ List.replicate (k + 1) 0).set i (f c) = ((cs.take (i + 1)).map f) ++ List.replicate k 0 := by
  have hi := (List.getElem?_eq_some_iff.mp hc).1
  have hl : ((cs.take i).map f).length = i := by simp; omega
  rw [List.set_append_right _ _ (by omega), hl, Nat.sub_self, List.replicate_succ, List.set_cons_zero, List.take_add_one, hc]
  simp
theorem and_rng (x m : Int32) (M : Nat) (hm : m.toBitVec.toNat = M) (hM : M < 2 ^ 31) : 0 ≤ (x &&& m).toInt ∧ (x &&& m).toInt ≤ M := by
  have h : (x &&& m).toBitVec.toNat ≤ M := by
    show (x.toBitVec &&& m.toBitVec).toNat ≤ M
    rw [BitVec.toNat_and, ← hm]; exact Nat.and_le_right
  have e : (x &&& m).toInt = ((x &&& m).toBitVec.toNat : Int) := by
    show (x &&& m).toBitVec.toInt = _
    rw [BitVec.toInt_eq_toNat_cond]; rw [if_pos (by omega)]
  omega
theorem and255_rng (x : Int32) : 0 ≤ (x &&& 255).toInt ∧ (x &&& 255).toInt < 256 := by
  have := and_rng x 255 255 rfl (by decide); omega
theorem ch8 (x v w : Int32) (h1 : v = x &&& 255) (h2 : w = v.toUInt32.toUInt16.toUInt32.toInt32) : 0 ≤ w.toInt ∧ w.toInt < 256 := by
  subst h1 h2; rw [i2c_mask]; exact and255_rng x
theorem bool_ok {z : Int32} (h : z = 0 ∨ z = 1) : narrow .boolean (.int z) = .int z ∧ fits .boolean (.int z) = true ∧ nar .boolean z = z := by
  rcases h with rfl | rfl <;> exact ⟨rfl, rfl, rfl⟩
theorem ref_ok {v : Value} (C : String) (h : v.isRef = true) : narrow (.object C) v = v ∧ fits (.object C) v = true := by
  rcases ref_cases h with rfl | ⟨r, rfl⟩ <;> exact ⟨rfl, rfl⟩
theorem rem_rng (x m : Int32) (hx : 0 ≤ x.toInt) (hm : 0 < m.toInt) : 0 ≤ (x % m).toInt ∧ (x % m).toInt < m.toInt := by
  rw [Int32.toInt_mod, Int.tmod_eq_emod_of_nonneg hx]
  exact ⟨Int.emod_nonneg _ (by omega), Int.emod_lt_of_pos _ hm⟩
theorem and31_rem {x v w m : Int32} (h1 : v = x &&& 2147483647) (h2 : w = v % m) (hm : 0 < m.toInt) : 0 ≤ w.toInt ∧ w.toInt < m.toInt := by
  subst h1 h2; exact rem_rng _ _ (and_rng x 2147483647 2147483647 rfl (by decide)).1 hm
/-- compact strings are on -/
def Cst (Z : State) : Prop := ∃ cz : Int32, Sta Z Z.heap "java/lang/String" "COMPACT_STRINGS" "Z" (.int cz) ∧ cz ≠ 0
theorem keepExt (K : Keep h h' []) : Ext h h' := ⟨K.1, fun x c q => K.2.1 x c q nin0⟩
theorem extKeep (E : Ext h h') : Keep h h' [] := (Keep.refl h []).ext E
end
end Jvm.GoKit

namespace Jvm.Pilot.@@N@@
open Jvm Jvm.ClassFile Sem Op Lib Jvm.Free Jvm.Stand Jvm.LawKit Jvm.RoadKit Jvm.GoKit Bundle Jvm.Pilot.@@N@@.Jvm.D
abbrev ELs : List (String × Nat) := []
theorem hELs {Z : State} {a0 : Array Value} (hw : ∀ d ∈ tables_1, d.before a0 Z = true) : EW Z a0 ELs := EW.nil
theorem d7_0 : decode jdk_52_method_15_code 0 = .ok (.iload_n 1, 1) := by decide +kernel
theorem d7_1 : decode jdk_52_method_15_code 1 = .ok (.aload_n 0, 1) := by decide +kernel
theorem d7_2 : decode jdk_52_method_15_code 2 = .ok (.arraylength, 1) := by decide +kernel
theorem d7_3 : decode jdk_52_method_15_code 3 = .ok (.isub, 1) := by decide +kernel
theorem d7_4 : decode jdk_52_method_15_code 4 = .ok (.bipush 31, 2) := by decide +kernel
theorem d7_6 : decode jdk_52_method_15_code 6 = .ok (.iushr, 1) := by decide +kernel
theorem d7_7 : decode jdk_52_method_15_code 7 = .ok (.i2b, 1) := by decide +kernel
theorem d7_8 : decode jdk_52_method_15_code 8 = .ok (.ireturn, 1) := by decide +kernel
theorem pn_java_lang_StringUTF16 : plainName "java/lang/StringUTF16" = true := by first | (simp [plainName, overriddenIn]; done) | decide +kernel
abbrev rm_con_coderLen : Room := { frames := 0, cells := 0, slots := 0, locals := 0 }
set_option maxRecDepth 65536 in
set_option maxHeartbeats 40000000 in
theorem con_coderLen (l : Launch) {Z : State} {a0 : Array Value} (hw : ∀ d ∈ tables_1, d.before a0 Z = true) {n0 : Nat} {h0 : Heap} {d : Addr} {xs : List Int32} (A : IA Z h0 d .byte xs) :
    Con l Z false ELs n0 (⟨"java/lang/StringUTF16", "coderFromArrayLen", "([BI)B"⟩ : MethodName) jdk_52_method_15_code 2 (some .byte) rm_con_coderLen [] #[(.ref d), (.int xs.length.toInt32)] h0 [] (fun v h => v = some (.int 0) ∧ h = h0) := by
  refine Con.intro (plainFor_of_name pn_java_lang_StringUTF16) (hELs hw) ?_
  intro p e s m below meth c hh G
  refine castRun (g' := mkF m 0 #[.val (.ref d), .val (.int xs.length.toInt32)] []) (by first | rfl | (simp [entryFrame, mkF, argsToLocals, Value.category, maxLocals]; done)) ?_
  refine GoKit.iloadN G d7_0 rfl (pc' := 1) rfl ?_
  refine GoKit.aloadN G d7_1 rfl rfl (pc' := 2) rfl ?_
  refine GoKit.arrlenI G d7_2 A (z := xs.length.toInt32) rfl (pc' := 3) rfl ?_
  refine GoKit.isub G d7_3 (pc' := 4) rfl (fun v1 hqv1 => ?_)
  refine GoKit.bipush G (31 : Int32) d7_4 rfl (pc' := 6) rfl ?_
  refine GoKit.iushr G d7_6 (pc' := 7) rfl (fun v2 hqv2 => ?_)
  refine GoKit.i2b G d7_7 (pc' := 8) rfl (fun v3 hqv3 => ?_)
  refine GoKit.retNar G d7_8 (t := .byte) rfl (by simp) (by decide) (by decide) ?_
  exact ⟨by subst_vars; rw [show (xs.length.toInt32 - xs.length.toInt32 : Int32) = 0 from Int32.sub_self _]; rfl, rfl⟩
theorem lat_le {c : Int32} (h : 0 ≤ c.toInt ∧ c.toInt < 256) : ¬ (255 : Int32) < c := by rw [Int32.lt_iff_toInt_lt]; show ¬ (255 : Int) < c.toInt; omega
theorem d6_3 : decode jdk_52_method_21_code 3 = .ok (.iload 5, 2) := by decide +kernel
theorem d6_5 : decode jdk_52_method_21_code 5 = .ok (.iload 4, 2) := by decide +kernel
theorem d6_7 : decode jdk_52_method_21_code 7 = .ok (.if_icmp .ge 37, 3) := by decide +kernel
theorem d6_44 : decode jdk_52_method_21_code 44 = .ok (.iload 4, 2) := by decide +kernel
theorem d6_46 : decode jdk_52_method_21_code 46 = .ok (.ireturn, 1) := by decide +kernel
theorem d6_10 : decode jdk_52_method_21_code 10 = .ok (.aload_n 0, 1) := by decide +kernel
theorem d6_11 : decode jdk_52_method_21_code 11 = .ok (.iload_n 1, 1) := by decide +kernel
theorem d6_12 : decode jdk_52_method_21_code 12 = .ok (.caload, 1) := by decide +kernel
theorem d6_13 : decode jdk_52_method_21_code 13 = .ok (.istore 6, 2) := by decide +kernel
theorem d6_15 : decode jdk_52_method_21_code 15 = .ok (.iload 6, 2) := by decide +kernel
theorem d6_17 : decode jdk_52_method_21_code 17 = .ok (.sipush 255, 3) := by decide +kernel
theorem d6_20 : decode jdk_52_method_21_code 20 = .ok (.if_icmp .le 6, 3) := by decide +kernel
theorem d6_26 : decode jdk_52_method_21_code 26 = .ok (.aload_n 2, 1) := by decide +kernel
theorem d6_27 : decode jdk_52_method_21_code 27 = .ok (.iload_n 3, 1) := by decide +kernel
theorem d6_28 : decode jdk_52_method_21_code 28 = .ok (.iload 6, 2) := by decide +kernel
theorem d6_30 : decode jdk_52_method_21_code 30 = .ok (.i2b, 1) := by decide +kernel
theorem d6_31 : decode jdk_52_method_21_code 31 = .ok (.bastore, 1) := by decide +kernel
theorem d6_32 : decode jdk_52_method_21_code 32 = .ok (.iinc 1 1, 3) := by decide +kernel
theorem d6_35 : decode jdk_52_method_21_code 35 = .ok (.iinc 3 1, 3) := by decide +kernel
theorem d6_38 : decode jdk_52_method_21_code 38 = .ok (.iinc 5 1, 3) := by decide +kernel
theorem d6_41 : decode jdk_52_method_21_code 41 = .ok (.goto (-38), 3) := by decide +kernel
theorem d6_0 : decode jdk_52_method_21_code 0 = .ok (.iconst 0, 1) := by decide +kernel
theorem d6_1 : decode jdk_52_method_21_code 1 = .ok (.istore 5, 2) := by decide +kernel
abbrev rm_con_compress5 : Room := { frames := 0, cells := 0, slots := 0, locals := 0 }
set_option maxRecDepth 65536 in
set_option maxHeartbeats 40000000 in
theorem con_compress5 (l : Launch) {Z : State} {a0 : Array Value} (hw : ∀ d ∈ tables_1, d.before a0 Z = true) {n0 : Nat} {h0 : Heap} {b d : Addr} {cs : List Int32} (A : IA Z h0 b .char cs) (D : IA Z h0 d .byte (List.replicate cs.length 0)) (hlat : ∀ c ∈ cs, 0 ≤ c.toInt ∧ c.toInt < 256) :
    Con l Z false ELs n0 (⟨"java/lang/StringUTF16", "compress", "([CI[BII)I"⟩ : MethodName) jdk_52_method_21_code 7 (some .int) rm_con_compress5 [] #[(.ref b), (.int 0), (.ref d), (.int 0), (.int cs.length.toInt32)] h0 [d] (fun v h => v = some (.int cs.length.toInt32) ∧ IA Z h d .byte (cs.map fun c => c.toInt8.toInt32)) := by
  refine Con.intro (plainFor_of_name pn_java_lang_StringUTF16) (hELs hw) ?_
  intro p e s m below meth c hh G
  refine castRun (g' := mkF m 0 #[.val (.ref b), .val (.int 0), .val (.ref d), .val (.int 0), .val (.int cs.length.toInt32), .unset, .unset] []) (by first | rfl | (simp [entryFrame, mkF, argsToLocals, Value.category, maxLocals]; done)) ?_
  have hl := A.len
  have loop : ∀ (k i : Nat) (h : Heap) (sl : Slot), i + k = cs.length → IA Z h b .char cs → IA Z h d .byte ((cs.take i).map (fun c => c.toInt8.toInt32) ++ List.replicate k 0) → (sl = .unset ∨ ∃ w, sl = .val w ∧ w.category = 1) →
      Run p l e rm_con_compress5 s m #[.ref b, .int 0, .ref d, .int 0, .int cs.length.toInt32] below meth c Z false ELs n0 [d] (fun v h => v = some (.int cs.length.toInt32) ∧ IA Z h d .byte (cs.map fun c => c.toInt8.toInt32)) h [d] 0 0 (mkF m 3 #[.val (.ref b), .val (.int i.toInt32), .val (.ref d), .val (.int i.toInt32), .val (.int cs.length.toInt32), .val (.int i.toInt32), sl] []) := by
    intro k; induction k with
    | zero =>
      intro i h sl hik A D hsl
      have hi : i = cs.length := by omega
      subst hi
      refine GoKit.iload G d6_3 rfl (pc' := 5) rfl ?_
      refine GoKit.iload G d6_5 rfl (pc' := 7) rfl ?_
      refine GoKit.icmp_ge_t G d6_7 Int32.lt_irrefl (by decide) (pc' := 44) rfl ?_
      refine GoKit.iload G d6_44 rfl (pc' := 46) rfl ?_
      refine GoKit.retInt G d6_46 rfl (by decide) (by decide) ?_
      exact ⟨rfl, by simpa using D⟩
    | succ k ih =>
      intro i h sl hik A D hsl
      have hi : i < cs.length := by omega
      obtain ⟨ch, hch⟩ : ∃ ch, cs[i]? = some ch := ⟨cs[i], List.getElem?_eq_getElem hi⟩
      have hcl := hlat ch (List.mem_of_getElem? hch)
      refine GoKit.iload G d6_3 rfl (pc' := 5) rfl ?_
      refine GoKit.iload G d6_5 rfl (pc' := 7) rfl ?_
      refine GoKit.icmp_ge_f G d6_7 ((toI_lt (by omega) (by omega)).mpr hi) (pc' := 10) rfl ?_
      refine GoKit.aloadN G d6_10 rfl rfl (pc' := 11) rfl ?_
      refine GoKit.iloadN G d6_11 rfl (pc' := 12) rfl ?_
      refine GoKit.caloadI G d6_12 A (i := i) (toI_clamp (by omega)) (toI_nn (by omega)) hch (pc' := 13) rfl ?_
      refine GoKit.istore G d6_13 (Ls' := #[.val (.ref b), .val (.int i.toInt32), .val (.ref d), .val (.int i.toInt32), .val (.int cs.length.toInt32), .val (.int i.toInt32), .val (.int ch)]) (XS.store1 rfl hsl rfl) (pc' := 15) rfl ?_
      refine GoKit.iload G d6_15 rfl (pc' := 17) rfl ?_
      refine GoKit.sipush G (255 : Int32) d6_17 rfl (pc' := 20) rfl ?_
      refine GoKit.icmp_le_t G d6_20 (lat_le hcl) (by decide) (pc' := 26) rfl ?_
      refine GoKit.aloadN G d6_26 rfl rfl (pc' := 27) rfl ?_
      refine GoKit.iloadN G d6_27 rfl (pc' := 28) rfl ?_
      refine GoKit.iload G d6_28 rfl (pc' := 30) rfl ?_
      refine GoKit.i2b G d6_30 (pc' := 31) rfl (fun v1 hqv1 => ?_)
      refine GoKit.bastI G d6_31 D (i := i) (toI_clamp (by omega)) (toI_nn (by omega)) (by simp; omega) (x' := ch.toInt8.toInt32) (by rw [hqv1]; exact lo8_nar _) (List.Mem.head _) (pc' := 32) rfl (fun h' W' D' => ?_)
      rw [set_fill _ cs i k ch hch] at D'
      refine GoKit.iinc G (1 : Int32) d6_32 rfl rfl (Ls' := #[.val (.ref b), .val (.int (i.toInt32 + (1 : Int32))), .val (.ref d), .val (.int i.toInt32), .val (.int cs.length.toInt32), .val (.int i.toInt32), .val (.int ch)]) rfl (pc' := 35) rfl ?_
      generalize hqv2 : (i.toInt32 + (1 : Int32)) = v2
      refine GoKit.iinc G (1 : Int32) d6_35 rfl rfl (Ls' := #[.val (.ref b), .val (.int v2), .val (.ref d), .val (.int (i.toInt32 + (1 : Int32))), .val (.int cs.length.toInt32), .val (.int i.toInt32), .val (.int ch)]) rfl (pc' := 38) rfl ?_
      generalize hqv3 : (i.toInt32 + (1 : Int32)) = v3
      refine GoKit.iinc G (1 : Int32) d6_38 rfl rfl (Ls' := #[.val (.ref b), .val (.int v2), .val (.ref d), .val (.int v3), .val (.int cs.length.toInt32), .val (.int (i.toInt32 + (1 : Int32))), .val (.int ch)]) rfl (pc' := 41) rfl ?_
      generalize hqv4 : (i.toInt32 + (1 : Int32)) = v4
      refine GoKit.goto G d6_41 (by decide) (pc' := 3) rfl ?_
      rw [toI_succ] at hqv2; subst hqv2
      rw [toI_succ] at hqv3; subst hqv3
      rw [toI_succ] at hqv4; subst hqv4
      exact ih (i + 1) h' (.val (.int ch)) (by omega) (A.other W' (IA.neTy A D (by decide))) D' (Or.inr ⟨_, rfl, rfl⟩)
  refine GoKit.iconst G (0 : Int32) d6_0 rfl (pc' := 1) rfl ?_
  refine GoKit.istore G d6_1 (Ls' := #[.val (.ref b), .val (.int (0 : Int32)), .val (.ref d), .val (.int (0 : Int32)), .val (.int cs.length.toInt32), .val (.int (0 : Int32)), .unset]) rfl (pc' := 3) rfl ?_
  exact loop cs.length 0 h0 .unset (by omega) A (by simpa using D) (Or.inl rfl)
theorem d5_0 : decode jdk_52_method_16_code 0 = .ok (.iload_n 2, 1) := by decide +kernel
theorem d5_1 : decode jdk_52_method_16_code 1 = .ok (.newarray .byte, 2) := by decide +kernel
theorem d5_3 : decode jdk_52_method_16_code 3 = .ok (.astore_n 3, 1) := by decide +kernel
theorem d5_4 : decode jdk_52_method_16_code 4 = .ok (.aload_n 0, 1) := by decide +kernel
theorem d5_5 : decode jdk_52_method_16_code 5 = .ok (.iload_n 1, 1) := by decide +kernel
theorem d5_6 : decode jdk_52_method_16_code 6 = .ok (.aload_n 3, 1) := by decide +kernel
theorem d5_7 : decode jdk_52_method_16_code 7 = .ok (.iconst 0, 1) := by decide +kernel
theorem d5_8 : decode jdk_52_method_16_code 8 = .ok (.iload_n 2, 1) := by decide +kernel
theorem d5_9 : decode jdk_52_method_16_code 9 = .ok (.invokestatic 115, 3) := by decide +kernel
theorem pd_0 : parseMethodDescriptor "([CI[BII)I" = some ⟨[(.array .char), .int, (.array .byte), .int, .int], some .int⟩ := by decide +kernel
theorem d5_12 : decode jdk_52_method_16_code 12 = .ok (.istore 4, 2) := by decide +kernel
theorem d5_14 : decode jdk_52_method_16_code 14 = .ok (.iload 4, 2) := by decide +kernel
theorem d5_16 : decode jdk_52_method_16_code 16 = .ok (.iload_n 2, 1) := by decide +kernel
theorem d5_17 : decode jdk_52_method_16_code 17 = .ok (.if_icmp .eq 40, 3) := by decide +kernel
theorem d5_57 : decode jdk_52_method_16_code 57 = .ok (.aload_n 3, 1) := by decide +kernel
theorem d5_58 : decode jdk_52_method_16_code 58 = .ok (.areturn, 1) := by decide +kernel
abbrev rm_con_compress3 : Room := { frames := 1, cells := 1, slots := 4, locals := 18 }
set_option maxRecDepth 65536 in
set_option maxHeartbeats 40000000 in
theorem con_compress3 (l : Launch) {Z : State} {a0 : Array Value} (hw : ∀ d ∈ tables_1, d.before a0 Z = true) {n0 : Nat} {h0 : Heap} {b : Addr} {cs : List Int32} (A : IA Z h0 b .char cs) (hcap : cs.length ≤ 4) (hlat : ∀ c ∈ cs, 0 ≤ c.toInt ∧ c.toInt < 256) :
    Con l Z false ELs n0 (⟨"java/lang/StringUTF16", "compress", "([CII)[B"⟩ : MethodName) jdk_52_method_16_code 6 (some (.array .byte)) rm_con_compress3 [] #[(.ref b), (.int 0), (.int cs.length.toInt32)] h0 [] (fun v h => ∃ d, v = some (.ref d) ∧ IA Z h d .byte (cs.map fun c => c.toInt8.toInt32)) := by
  refine Con.intro (plainFor_of_name pn_java_lang_StringUTF16) (hELs hw) ?_
  intro p e s m below meth c hh G
  refine castRun (g' := mkF m 0 #[.val (.ref b), .val (.int 0), .val (.int cs.length.toInt32), .unset, .unset, .unset] []) (by first | rfl | (simp [entryFrame, mkF, argsToLocals, Value.category, maxLocals]; done)) ?_
  have hl := A.len
  refine GoKit.iloadN G d5_0 rfl (pc' := 1) rfl ?_
  refine GoKit.newbI G d5_1 (wi hw 24 rfl) (toI_nn hl) (k := cs.length) (cap := 4) (toI_clamp hl) hcap (by decide) (by decide) (by decide) (cells' := 1) (slots' := 4) rfl rfl (pc' := 3) rfl (fun h4 a1 ga1 E2 A3 => ?_)
  refine GoKit.astoreN G d5_3 rfl (Ls' := #[.val (.ref b), .val (.int 0), .val (.int cs.length.toInt32), .val (.ref a1), .unset, .unset]) rfl (pc' := 4) rfl ?_
  refine GoKit.aloadN G d5_4 rfl rfl (pc' := 5) rfl ?_
  refine GoKit.iloadN G d5_5 rfl (pc' := 6) rfl ?_
  refine GoKit.aloadN G d5_6 rfl rfl (pc' := 7) rfl ?_
  refine GoKit.iconst G (0 : Int32) d5_7 rfl (pc' := 8) rfl ?_
  refine GoKit.iloadN G d5_8 rfl (pc' := 9) rfl ?_
  refine GoKit.callStatic G d5_9 (wi hw 25 rfl) (wi hw 26 rfl) (wi hw 22 rfl) (wi hw 27 rfl) (by decide) (owc := [a1]) (W := 0) (argsL := [(.ref b), (.int 0), (.ref a1), (.int (0 : Int32)), (.int cs.length.toInt32)]) (rest := []) (con_compress5 l hw (A.ext E2) A3 hlat) rfl (lenOf pd_0 rfl) rfl (by decide) (Nat.le_of_eq rfl) (by decide) (by decide) (by decide) (by intro x hx; simp only [List.mem_cons, List.not_mem_nil, or_false] at hx ⊢; simp [hx]) (cells' := 1) (slots' := 4) rfl rfl (pc' := 12) rfl (fun r5 h8 q6 K7 => ?_)
  obtain ⟨rfl, A9⟩ := q6
  show Run _ _ _ _ _ _ _ _ _ _ _ _ _ _ _ _ _ _ _ _ (mkF m 12 #[.val (.ref b), .val (.int 0), .val (.int cs.length.toInt32), .val (.ref a1), .unset, .unset] [(.int cs.length.toInt32)])
  refine GoKit.istore G d5_12 (Ls' := #[.val (.ref b), .val (.int 0), .val (.int cs.length.toInt32), .val (.ref a1), .val (.int cs.length.toInt32), .unset]) rfl (pc' := 14) rfl ?_
  refine GoKit.iload G d5_14 rfl (pc' := 16) rfl ?_
  refine GoKit.iloadN G d5_16 rfl (pc' := 17) rfl ?_
  refine GoKit.icmp_eq_t G d5_17 rfl (by decide) (pc' := 57) rfl ?_
  refine GoKit.aloadN G d5_57 rfl rfl (pc' := 58) rfl ?_
  refine GoKit.retRef G d5_58 rfl rfl rfl (by decide) (by decide) ?_
  exact ⟨_, rfl, A9⟩
theorem d3_0 : decode jdk_42_method_149_code 0 = .ok (.aload_n 0, 1) := by decide +kernel
theorem d3_1 : decode jdk_42_method_149_code 1 = .ok (.invokespecial 1, 3) := by decide +kernel
theorem d3_4 : decode jdk_42_method_149_code 4 = .ok (.iload_n 3, 1) := by decide +kernel
theorem d3_5 : decode jdk_42_method_149_code 5 = .ok (.ifCond .ne 22, 3) := by decide +kernel
theorem d3_27 : decode jdk_42_method_149_code 27 = .ok (.getstatic 38, 3) := by decide +kernel
theorem d3_30 : decode jdk_42_method_149_code 30 = .ok (.ifCond .eq 28, 3) := by decide +kernel
theorem d3_33 : decode jdk_42_method_149_code 33 = .ok (.aload_n 1, 1) := by decide +kernel
theorem d3_34 : decode jdk_42_method_149_code 34 = .ok (.iload_n 2, 1) := by decide +kernel
theorem d3_35 : decode jdk_42_method_149_code 35 = .ok (.iload_n 3, 1) := by decide +kernel
theorem d3_36 : decode jdk_42_method_149_code 36 = .ok (.invokestatic 177, 3) := by decide +kernel
theorem pd_1 : parseMethodDescriptor "([CII)[B" = some ⟨[(.array .char), .int, .int], some (.array .byte)⟩ := by decide +kernel
theorem d3_39 : decode jdk_42_method_149_code 39 = .ok (.astore 5, 2) := by decide +kernel
theorem d3_41 : decode jdk_42_method_149_code 41 = .ok (.aload_n 0, 1) := by decide +kernel
theorem d3_42 : decode jdk_42_method_149_code 42 = .ok (.aload 5, 2) := by decide +kernel
theorem d3_44 : decode jdk_42_method_149_code 44 = .ok (.iload_n 3, 1) := by decide +kernel
theorem d3_45 : decode jdk_42_method_149_code 45 = .ok (.invokestatic 47, 3) := by decide +kernel
theorem pd_2 : parseMethodDescriptor "([BI)B" = some ⟨[(.array .byte), .int], some .byte⟩ := by decide +kernel
theorem d3_48 : decode jdk_42_method_149_code 48 = .ok (.putfield 15, 3) := by decide +kernel
theorem d3_51 : decode jdk_42_method_149_code 51 = .ok (.aload_n 0, 1) := by decide +kernel
theorem d3_52 : decode jdk_42_method_149_code 52 = .ok (.aload 5, 2) := by decide +kernel
theorem d3_54 : decode jdk_42_method_149_code 54 = .ok (.putfield 9, 3) := by decide +kernel
theorem d3_57 : decode jdk_42_method_149_code 57 = .ok (.return_, 1) := by decide +kernel
theorem pn_java_lang_String : plainName "java/lang/String" = true := by first | (simp [plainName, overriddenIn]; done) | decide +kernel
abbrev rm_con_strInit4 : Room := { frames := 2, cells := 1, slots := 4, locals := 35 }
set_option maxRecDepth 65536 in
set_option maxHeartbeats 40000000 in
theorem con_strInit4 (l : Launch) {Z : State} {a0 : Array Value} (hw : ∀ d ∈ tables_1, d.before a0 Z = true) {n0 : Nat} {h0 : Heap} {a b : Addr} {cs : List Int32} (E : Exa Z h0 a "java/lang/String") (FV : Fld Z h0 a "java/lang/String" "value" "[B" .null) (FC : Fld Z h0 a "java/lang/String" "coder" "B" (.int 0)) (A : IA Z h0 b .char cs) (hcap : cs.length ≤ 4) (hlat : ∀ c ∈ cs, 0 ≤ c.toInt ∧ c.toInt < 256) (hne : cs ≠ []) (HC : Cst Z) :
    Con l Z false ELs n0 (⟨"java/lang/String", "<init>", "([CIILjava/lang/Void;)V"⟩ : MethodName) jdk_42_method_149_code 6 none rm_con_strInit4 [] #[(.ref a), (.ref b), (.int 0), (.int cs.length.toInt32), .null] h0 [a] (fun v h => v = none ∧ Lat Z h a cs) := by
  refine Con.intro (plainFor_of_name pn_java_lang_String) (hELs hw) ?_
  intro p e s m below meth c hh G
  refine castRun (g' := mkF m 0 #[.val (.ref a), .val (.ref b), .val (.int 0), .val (.int cs.length.toInt32), .val .null, .unset] []) (by first | rfl | (simp [entryFrame, mkF, argsToLocals, Value.category, maxLocals]; done)) ?_
  obtain ⟨cz, SC, hcz⟩ := HC
  have hl := A.len
  have hz : ¬ cs.length.toInt32 = 0 := fun q => hne (List.length_eq_zero_iff.mp ((toI_eq (k := 0) hl (by decide)).mp q))
  refine GoKit.aloadN G d3_0 rfl rfl (pc' := 1) rfl ?_
  refine GoKit.initObj G d3_1 (wi hw 16 rfl) (wi hw 17 rfl) (wi hw 18 rfl) rfl (by decide) (W := 0) (Nat.le_of_eq rfl) (by decide) (pc' := 4) rfl ?_
  refine GoKit.iloadN G d3_4 rfl (pc' := 5) rfl ?_
  refine GoKit.if_ne_t G d3_5 hz (by decide) (pc' := 27) rfl ?_
  refine GoKit.gets G d3_27 (wi hw 19 rfl) Via.refl SC (pc' := 30) rfl ?_
  refine GoKit.if_eq_f G d3_30 hcz (pc' := 33) rfl ?_
  refine GoKit.aloadN G d3_33 rfl rfl (pc' := 34) rfl ?_
  refine GoKit.iloadN G d3_34 rfl (pc' := 35) rfl ?_
  refine GoKit.iloadN G d3_35 rfl (pc' := 36) rfl ?_
  refine GoKit.callStatic G d3_36 (wi hw 20 rfl) (wi hw 21 rfl) (wi hw 22 rfl) (wi hw 23 rfl) (by decide) (owc := []) (W := 0) (argsL := [(.ref b), (.int 0), (.int cs.length.toInt32)]) (rest := []) (con_compress3 l hw A hcap hlat) rfl (lenOf pd_1 rfl) rfl (by decide) (Nat.le_of_eq rfl) (by decide) (by decide) (by decide) (fun _ q => nomatch q) (cells' := 1) (slots' := 4) rfl rfl (pc' := 39) rfl (fun r1 h4 q2 K3 => ?_)
  obtain ⟨d5, rfl, A6⟩ := q2
  have ne7 := IA.ne A6 (E.keep K3) (wi hw 7 rfl)
  show Run _ _ _ _ _ _ _ _ _ _ _ _ _ _ _ _ _ _ _ _ (mkF m 39 #[.val (.ref a), .val (.ref b), .val (.int 0), .val (.int cs.length.toInt32), .val .null, .unset] [(.ref d5)])
  refine GoKit.astore G d3_39 rfl (Ls' := #[.val (.ref a), .val (.ref b), .val (.int 0), .val (.int cs.length.toInt32), .val .null, .val (.ref d5)]) rfl (pc' := 41) rfl ?_
  refine GoKit.aloadN G d3_41 rfl rfl (pc' := 42) rfl ?_
  refine GoKit.aload G d3_42 rfl rfl (pc' := 44) rfl ?_
  refine GoKit.iloadN G d3_44 rfl (pc' := 45) rfl ?_
  refine GoKit.callStaticP G d3_45 (wi hw 28 rfl) (wi hw 29 rfl) (wi hw 22 rfl) (wi hw 30 rfl) (by decide) (W := 1) (argsL := [(.ref d5), (.int cs.length.toInt32)]) (rest := [(.ref a)]) ((by simpa using con_coderLen l hw A6)) rfl (lenOf pd_2 rfl) rfl (by decide) (Nat.le_of_eq rfl) (by decide) (by decide) (by decide) (cells' := 1) (slots' := 4) rfl rfl (pc' := 48) rfl ?_
  show Run _ _ _ _ _ _ _ _ _ _ _ _ _ _ _ _ _ _ _ _ (mkF m 48 #[.val (.ref a), .val (.ref b), .val (.int 0), .val (.int cs.length.toInt32), .val .null, .val (.ref d5)] [(.int 0), (.ref a)])
  refine GoKit.putf G d3_48 (wi hw 31 rfl) Via.refl (FC.keep K3 nin0) (E.keep K3) (Or.inr ⟨(wi hw 32 rfl), rfl, rfl⟩) (wi hw 7 rfl) (ty := .byte) (by decide) rfl rfl (List.Mem.head _) (pc' := 51) rfl (fun h9 W8 => ?_)
  have F10 := ((FC.keep K3 nin0)).same W8
  refine GoKit.aloadN G d3_51 rfl rfl (pc' := 52) rfl ?_
  refine GoKit.aload G d3_52 rfl rfl (pc' := 54) rfl ?_
  refine GoKit.putf G d3_54 (wi hw 33 rfl) Via.refl ((FV.keep K3 nin0).other W8 (Or.inr (slot_ne (Or.inr (wi hw 34 rfl)) (Or.inr (wi hw 32 rfl)) (by decide) (by decide : _ = some (.array .byte)) (by decide : _ = some .byte)))) ((E.keep K3).wr W8) (Or.inr ⟨(wi hw 34 rfl), rfl, rfl⟩) (wi hw 7 rfl) (ty := (.array .byte)) (by decide) rfl rfl (List.Mem.head _) (pc' := 57) rfl (fun h12 W11 => ?_)
  have F13 := (((FV.keep K3 nin0).other W8 (Or.inr (slot_ne (Or.inr (wi hw 34 rfl)) (Or.inr (wi hw 32 rfl)) (by decide) (by decide : _ = some (.array .byte)) (by decide : _ = some .byte))))).same W11
  refine GoKit.retVoid G d3_57 rfl (by decide) (by decide) ?_
  exact ⟨rfl, (((E.keep K3).wr W8).wr W11), ⟨d5, F13, (F10.other W11 (Or.inr (slot_ne (Or.inr (wi hw 32 rfl)) (Or.inr (wi hw 34 rfl)) (by decide) (by decide : _ = some .byte) (by decide : _ = some (.array .byte))))), ((A6.other W8 ne7).other W11 ne7)⟩, hlat⟩
theorem d2_0 : decode jdk_42_method_3_code 0 = .ok (.aload_n 0, 1) := by decide +kernel
theorem d2_1 : decode jdk_42_method_3_code 1 = .ok (.aload_n 1, 1) := by decide +kernel
theorem d2_2 : decode jdk_42_method_3_code 2 = .ok (.iconst 0, 1) := by decide +kernel
theorem d2_3 : decode jdk_42_method_3_code 3 = .ok (.aload_n 1, 1) := by decide +kernel
theorem d2_4 : decode jdk_42_method_3_code 4 = .ok (.arraylength, 1) := by decide +kernel
theorem d2_5 : decode jdk_42_method_3_code 5 = .ok (.aconst_null, 1) := by decide +kernel
theorem d2_6 : decode jdk_42_method_3_code 6 = .ok (.invokespecial 27, 3) := by decide +kernel
theorem pd_3 : parseMethodDescriptor "([CIILjava/lang/Void;)V" = some ⟨[(.array .char), .int, .int, (.object "java/lang/Void")], none⟩ := by decide +kernel
theorem d2_9 : decode jdk_42_method_3_code 9 = .ok (.return_, 1) := by decide +kernel
abbrev rm_con_strInit : Room := { frames := 3, cells := 1, slots := 4, locals := 52 }
set_option maxRecDepth 65536 in
set_option maxHeartbeats 40000000 in
theorem con_strInit (l : Launch) {Z : State} {a0 : Array Value} (hw : ∀ d ∈ tables_1, d.before a0 Z = true) {n0 : Nat} {h0 : Heap} {a b : Addr} {cs : List Int32} (E : Exa Z h0 a "java/lang/String") (FV : Fld Z h0 a "java/lang/String" "value" "[B" .null) (FC : Fld Z h0 a "java/lang/String" "coder" "B" (.int 0)) (A : IA Z h0 b .char cs) (hcap : cs.length ≤ 4) (hlat : ∀ c ∈ cs, 0 ≤ c.toInt ∧ c.toInt < 256) (hne : cs ≠ []) (HC : Cst Z) :
    Con l Z false ELs n0 (⟨"java/lang/String", "<init>", "([C)V"⟩ : MethodName) jdk_42_method_3_code 2 none rm_con_strInit [] #[(.ref a), (.ref b)] h0 [a] (fun v h => v = none ∧ Lat Z h a cs) := by
  refine Con.intro (plainFor_of_name pn_java_lang_String) (hELs hw) ?_
  intro p e s m below meth c hh G
  refine castRun (g' := mkF m 0 #[.val (.ref a), .val (.ref b)] []) (by first | rfl | (simp [entryFrame, mkF, argsToLocals, Value.category, maxLocals]; done)) ?_
  refine GoKit.aloadN G d2_0 rfl rfl (pc' := 1) rfl ?_
  refine GoKit.aloadN G d2_1 rfl rfl (pc' := 2) rfl ?_
  refine GoKit.iconst G (0 : Int32) d2_2 rfl (pc' := 3) rfl ?_
  refine GoKit.aloadN G d2_3 rfl rfl (pc' := 4) rfl ?_
  refine GoKit.arrlenI G d2_4 A (z := cs.length.toInt32) rfl (pc' := 5) rfl ?_
  refine GoKit.aconstNull G d2_5 (pc' := 6) rfl ?_
  refine GoKit.callSpecial G d2_6 rfl (wi hw 12 rfl) (wi hw 13 rfl) (wi hw 8 rfl) (wi hw 15 rfl) (by decide) (owc := [a]) (W := 0) (argsL := [(.ref b), (.int (0 : Int32)), (.int cs.length.toInt32), .null]) (rest := []) (con_strInit4 l hw E FV FC A hcap hlat hne HC) rfl (lenOf pd_3 rfl) rfl (by decide) (Nat.le_of_eq rfl) (by decide) (by decide) (by decide) (by intro x hx; simp only [List.mem_cons, List.not_mem_nil, or_false] at hx ⊢; simp [hx]) (cells' := 1) (slots' := 4) rfl rfl (pc' := 9) rfl (fun r1 h4 q2 K3 => ?_)
  obtain ⟨rfl, S5⟩ := q2
  show Run _ _ _ _ _ _ _ _ _ _ _ _ _ _ _ _ _ _ _ _ (mkF m 9 #[.val (.ref a), .val (.ref b)] [])
  refine GoKit.retVoid G d2_9 rfl (by decide) (by decide) ?_
  exact ⟨rfl, S5⟩
theorem sh0 (x : Int32) : x >>> ((0 : Int32) &&& 31) = x := by rw [show ((0 : Int32) &&& 31) = 0 from rfl]; exact Int32.shiftRight_zero
theorem d15_0 : decode jdk_42_method_152_code 0 = .ok (.getstatic 38, 3) := by decide +kernel
theorem d15_3 : decode jdk_42_method_152_code 3 = .ok (.ifCond .eq 10, 3) := by decide +kernel
theorem d15_6 : decode jdk_42_method_152_code 6 = .ok (.aload_n 0, 1) := by decide +kernel
theorem d15_7 : decode jdk_42_method_152_code 7 = .ok (.getfield 15, 3) := by decide +kernel
theorem d15_10 : decode jdk_42_method_152_code 10 = .ok (.goto 4, 3) := by decide +kernel
theorem d15_14 : decode jdk_42_method_152_code 14 = .ok (.ireturn, 1) := by decide +kernel
abbrev rm_con_coder : Room := { frames := 0, cells := 0, slots := 0, locals := 0 }
set_option maxRecDepth 65536 in
set_option maxHeartbeats 40000000 in
theorem con_coder (l : Launch) {Z : State} {a0 : Array Value} (hw : ∀ d ∈ tables_1, d.before a0 Z = true) {n0 : Nat} {h0 : Heap} {a : Addr} {cs : List Int32} (S : Lat Z h0 a cs) (HC : Cst Z) :
    Con l Z false ELs n0 (⟨"java/lang/String", "coder", "()B"⟩ : MethodName) jdk_42_method_152_code 1 (some .byte) rm_con_coder [] #[(.ref a)] h0 [] (fun v h => v = some (.int 0) ∧ h = h0) := by
  refine Con.intro (plainFor_of_name pn_java_lang_String) (hELs hw) ?_
  intro p e s m below meth c hh G
  refine castRun (g' := mkF m 0 #[.val (.ref a)] []) (by first | rfl | (simp [entryFrame, mkF, argsToLocals, Value.category, maxLocals]; done)) ?_
  obtain ⟨E, ⟨b, FV, FC, A⟩, hlat⟩ := id S
  obtain ⟨cz, SC, hcz⟩ := id HC
  refine GoKit.gets G d15_0 (wi hw 19 rfl) Via.refl SC (pc' := 3) rfl ?_
  refine GoKit.if_eq_f G d15_3 hcz (pc' := 6) rfl ?_
  refine GoKit.aloadN G d15_6 rfl rfl (pc' := 7) rfl ?_
  refine GoKit.getf G d15_7 (wi hw 31 rfl) Via.refl FC (pc' := 10) rfl ?_
  refine GoKit.goto G d15_10 (by decide) (pc' := 14) rfl ?_
  refine GoKit.retNar G d15_14 (t := .byte) rfl (by simp) (by decide) (by decide) ?_
  exact ⟨rfl, rfl⟩
theorem d14_0 : decode jdk_42_method_54_code 0 = .ok (.aload_n 0, 1) := by decide +kernel
theorem d14_1 : decode jdk_42_method_54_code 1 = .ok (.getfield 9, 3) := by decide +kernel
theorem d14_4 : decode jdk_42_method_54_code 4 = .ok (.arraylength, 1) := by decide +kernel
theorem d14_5 : decode jdk_42_method_54_code 5 = .ok (.aload_n 0, 1) := by decide +kernel
theorem d14_6 : decode jdk_42_method_54_code 6 = .ok (.invokevirtual 335, 3) := by decide +kernel
theorem pd_4 : parseMethodDescriptor "()B" = some ⟨[], some .byte⟩ := by decide +kernel
theorem d14_9 : decode jdk_42_method_54_code 9 = .ok (.ishr, 1) := by decide +kernel
theorem d14_10 : decode jdk_42_method_54_code 10 = .ok (.ireturn, 1) := by decide +kernel
abbrev rm_con_strlen : Room := { frames := 1, cells := 0, slots := 0, locals := 13 }
set_option maxRecDepth 65536 in
set_option maxHeartbeats 40000000 in
theorem con_strlen (l : Launch) {Z : State} {a0 : Array Value} (hw : ∀ d ∈ tables_1, d.before a0 Z = true) {n0 : Nat} {h0 : Heap} {a : Addr} {cs : List Int32} (S : Lat Z h0 a cs) (HC : Cst Z) :
    Con l Z false ELs n0 (⟨"java/lang/String", "length", "()I"⟩ : MethodName) jdk_42_method_54_code 1 (some .int) rm_con_strlen [] #[(.ref a)] h0 [] (fun v h => v = some (.int cs.length.toInt32) ∧ h = h0) := by
  refine Con.intro (plainFor_of_name pn_java_lang_String) (hELs hw) ?_
  intro p e s m below meth c hh G
  refine castRun (g' := mkF m 0 #[.val (.ref a)] []) (by first | rfl | (simp [entryFrame, mkF, argsToLocals, Value.category, maxLocals]; done)) ?_
  obtain ⟨E, ⟨b, FV, FC, A⟩, hlat⟩ := id S
  refine GoKit.aloadN G d14_0 rfl rfl (pc' := 1) rfl ?_
  refine GoKit.getf G d14_1 (wi hw 33 rfl) Via.refl FV (pc' := 4) rfl ?_
  refine GoKit.arrlenI G d14_4 A (z := cs.length.toInt32) (by simp) (pc' := 5) rfl ?_
  refine GoKit.aloadN G d14_5 rfl rfl (pc' := 6) rfl ?_
  refine GoKit.callVirtualP G d14_6 (wi hw 63 rfl) (wi hw 64 rfl) (wi hw 66 rfl) (wi hw 65 rfl) (wi hw 8 rfl) (wi hw 67 rfl) (by decide) E (W := 1) (argsL := []) (rest := [(.int cs.length.toInt32)]) (con_coder l hw S HC) rfl (lenOf pd_4 rfl) rfl (by decide) (Nat.le_of_eq rfl) (by decide) (by decide) (by decide) (cells' := 0) (slots' := 0) rfl rfl (pc' := 9) rfl ?_
  show Run _ _ _ _ _ _ _ _ _ _ _ _ _ _ _ _ _ _ _ _ (mkF m 9 #[.val (.ref a)] [(.int 0), (.int cs.length.toInt32)])
  refine GoKit.ishr G d14_9 (pc' := 10) rfl (fun v1 hqv1 => ?_)
  refine GoKit.retInt G d14_10 rfl (by decide) (by decide) ?_
  exact ⟨by subst_vars; rw [sh0], rfl⟩
/-- the formatter's static is a reference -/
def Frm (Z : State) : Prop := ∃ fv : Value, Sta Z Z.heap "jdk/internal/util/Preconditions" "SIOOBE_FORMATTER" "Ljava/util/function/BiFunction;" fv ∧ fv.isRef = true
theorem lo8_mask (c : Int32) (h : 0 ≤ c.toInt ∧ c.toInt < 256) : nar .char ((c.toInt8.toInt32 &&& 255).toUInt32.toUInt16.toUInt32.toInt32) = c := by
  obtain ⟨n, hn, rfl⟩ : ∃ n : Nat, n < 256 ∧ c = Int32.ofNat n := by
    refine ⟨c.toInt.toNat, by omega, ?_⟩
    apply Int32.toInt_inj.mp
    rw [show Int32.ofNat c.toInt.toNat = c.toInt.toNat.toInt32 from rfl, toI_toInt (by omega)]; omega
  revert n; decide +kernel
theorem d20_0 : decode jdk_41_method_11_code 0 = .ok (.iload_n 0, 1) := by decide +kernel
theorem d20_1 : decode jdk_41_method_11_code 1 = .ok (.ifCond .lt 8, 3) := by decide +kernel
theorem d20_4 : decode jdk_41_method_11_code 4 = .ok (.iload_n 0, 1) := by decide +kernel
theorem d20_5 : decode jdk_41_method_11_code 5 = .ok (.iload_n 1, 1) := by decide +kernel
theorem d20_6 : decode jdk_41_method_11_code 6 = .ok (.if_icmp .lt 10, 3) := by decide +kernel
theorem d20_16 : decode jdk_41_method_11_code 16 = .ok (.iload_n 0, 1) := by decide +kernel
theorem d20_17 : decode jdk_41_method_11_code 17 = .ok (.ireturn, 1) := by decide +kernel
theorem pn_jdk_internal_util_Preconditions : plainName "jdk/internal/util/Preconditions" = true := by first | (simp [plainName, overriddenIn]; done) | decide +kernel
abbrev rm_con_preCheck : Room := { frames := 0, cells := 0, slots := 0, locals := 0 }
set_option maxRecDepth 65536 in
set_option maxHeartbeats 40000000 in
theorem con_preCheck (l : Launch) {Z : State} {a0 : Array Value} (hw : ∀ d ∈ tables_1, d.before a0 Z = true) {n0 : Nat} {h0 : Heap} {j z : Int32} {fv : Value} (hfv : fv.isRef = true) (hj0 : ¬ j < 0) (hjn : j < z) :
    Con l Z false ELs n0 (⟨"jdk/internal/util/Preconditions", "checkIndex", "(IILjava/util/function/BiFunction;)I"⟩ : MethodName) jdk_41_method_11_code 3 (some .int) rm_con_preCheck [] #[(.int j), (.int z), fv] h0 [] (fun v h => v = some (.int j) ∧ h = h0) := by
  refine Con.intro (plainFor_of_name pn_jdk_internal_util_Preconditions) (hELs hw) ?_
  intro p e s m below meth c hh G
  refine castRun (g' := mkF m 0 #[.val (.int j), .val (.int z), .val fv] []) (by rcases ref_cases hfv with rfl | ⟨r, rfl⟩ <;> rfl) ?_
  refine GoKit.iloadN G d20_0 rfl (pc' := 1) rfl ?_
  refine GoKit.if_lt_f G d20_1 hj0 (pc' := 4) rfl ?_
  refine GoKit.iloadN G d20_4 rfl (pc' := 5) rfl ?_
  refine GoKit.iloadN G d20_5 rfl (pc' := 6) rfl ?_
  refine GoKit.icmp_lt_t G d20_6 hjn (by decide) (pc' := 16) rfl ?_
  refine GoKit.iloadN G d20_16 rfl (pc' := 17) rfl ?_
  refine GoKit.retInt G d20_17 rfl (by decide) (by decide) ?_
  exact ⟨rfl, rfl⟩
theorem d19_0 : decode jdk_42_method_155_code 0 = .ok (.iload_n 0, 1) := by decide +kernel
theorem d19_1 : decode jdk_42_method_155_code 1 = .ok (.iload_n 1, 1) := by decide +kernel
theorem d19_2 : decode jdk_42_method_155_code 2 = .ok (.getstatic 1053, 3) := by decide +kernel
theorem d19_5 : decode jdk_42_method_155_code 5 = .ok (.invokestatic 1059, 3) := by decide +kernel
theorem pd_5 : parseMethodDescriptor "(IILjava/util/function/BiFunction;)I" = some ⟨[.int, .int, (.object "java/util/function/BiFunction")], some .int⟩ := by decide +kernel
theorem d19_8 : decode jdk_42_method_155_code 8 = .ok (.pop, 1) := by decide +kernel
theorem d19_9 : decode jdk_42_method_155_code 9 = .ok (.return_, 1) := by decide +kernel
abbrev rm_con_checkIndex : Room := { frames := 1, cells := 0, slots := 0, locals := 14 }
set_option maxRecDepth 65536 in
set_option maxHeartbeats 40000000 in
theorem con_checkIndex (l : Launch) {Z : State} {a0 : Array Value} (hw : ∀ d ∈ tables_1, d.before a0 Z = true) {n0 : Nat} {h0 : Heap} {j z : Int32} (HF : Frm Z) (hj0 : ¬ j < 0) (hjn : j < z) :
    Con l Z false ELs n0 (⟨"java/lang/String", "checkIndex", "(II)V"⟩ : MethodName) jdk_42_method_155_code 2 none rm_con_checkIndex [] #[(.int j), (.int z)] h0 [] (fun v h => v = none ∧ h = h0) := by
  refine Con.intro (plainFor_of_name pn_java_lang_String) (hELs hw) ?_
  intro p e s m below meth c hh G
  refine castRun (g' := mkF m 0 #[.val (.int j), .val (.int z)] []) (by first | rfl | (simp [entryFrame, mkF, argsToLocals, Value.category, maxLocals]; done)) ?_
  obtain ⟨fv, SF, hfv⟩ := id HF
  refine GoKit.iloadN G d19_0 rfl (pc' := 1) rfl ?_
  refine GoKit.iloadN G d19_1 rfl (pc' := 2) rfl ?_
  refine GoKit.gets G d19_2 (wi hw 84 rfl) Via.refl SF (pc' := 5) rfl ?_
  refine GoKit.callStaticP G d19_5 (wi hw 86 rfl) (wi hw 87 rfl) (wi hw 85 rfl) (wi hw 88 rfl) (by decide) (W := 0) (argsL := [(.int j), (.int z), fv]) (rest := []) (con_preCheck l hw hfv hj0 hjn) rfl (lenOf pd_5 rfl) rfl (by decide) (Nat.le_of_eq rfl) (by decide) (by decide) (by decide) (cells' := 0) (slots' := 0) rfl rfl (pc' := 8) rfl ?_
  show Run _ _ _ _ _ _ _ _ _ _ _ _ _ _ _ _ _ _ _ _ (mkF m 8 #[.val (.int j), .val (.int z)] [(.int j)])
  refine GoKit.pop G d19_8 rfl (pc' := 9) rfl ?_
  refine GoKit.retVoid G d19_9 rfl (by decide) (by decide) ?_
  exact ⟨rfl, rfl⟩
theorem d18_0 : decode jdk_43_method_2_code 0 = .ok (.iload_n 1, 1) := by decide +kernel
theorem d18_1 : decode jdk_43_method_2_code 1 = .ok (.aload_n 0, 1) := by decide +kernel
theorem d18_2 : decode jdk_43_method_2_code 2 = .ok (.arraylength, 1) := by decide +kernel
theorem d18_3 : decode jdk_43_method_2_code 3 = .ok (.invokestatic 9, 3) := by decide +kernel
theorem pd_6 : parseMethodDescriptor "(II)V" = some ⟨[.int, .int], none⟩ := by decide +kernel
theorem d18_6 : decode jdk_43_method_2_code 6 = .ok (.aload_n 0, 1) := by decide +kernel
theorem d18_7 : decode jdk_43_method_2_code 7 = .ok (.iload_n 1, 1) := by decide +kernel
theorem d18_8 : decode jdk_43_method_2_code 8 = .ok (.baload, 1) := by decide +kernel
theorem d18_9 : decode jdk_43_method_2_code 9 = .ok (.sipush 255, 3) := by decide +kernel
theorem d18_12 : decode jdk_43_method_2_code 12 = .ok (.iand, 1) := by decide +kernel
theorem d18_13 : decode jdk_43_method_2_code 13 = .ok (.i2c, 1) := by decide +kernel
theorem d18_14 : decode jdk_43_method_2_code 14 = .ok (.ireturn, 1) := by decide +kernel
theorem pn_java_lang_StringLatin1 : plainName "java/lang/StringLatin1" = true := by first | (simp [plainName, overriddenIn]; done) | decide +kernel
abbrev rm_con_latCharAt : Room := { frames := 2, cells := 0, slots := 0, locals := 27 }
set_option maxRecDepth 65536 in
set_option maxHeartbeats 40000000 in
theorem con_latCharAt (l : Launch) {Z : State} {a0 : Array Value} (hw : ∀ d ∈ tables_1, d.before a0 Z = true) {n0 : Nat} {h0 : Heap} {b : Addr} {cs : List Int32} {i : Nat} {ch : Int32} (A : IA Z h0 b .byte (cs.map fun c => c.toInt8.toInt32)) (hlat : ∀ c ∈ cs, 0 ≤ c.toInt ∧ c.toInt < 256) (hi : cs[i]? = some ch) (HF : Frm Z) :
    Con l Z false ELs n0 (⟨"java/lang/StringLatin1", "charAt", "([BI)C"⟩ : MethodName) jdk_43_method_2_code 2 (some .char) rm_con_latCharAt [] #[(.ref b), (.int i.toInt32)] h0 [] (fun v h => v = some (.int ch) ∧ h = h0) := by
  refine Con.intro (plainFor_of_name pn_java_lang_StringLatin1) (hELs hw) ?_
  intro p e s m below meth c hh G
  refine castRun (g' := mkF m 0 #[.val (.ref b), .val (.int i.toInt32)] []) (by first | rfl | (simp [entryFrame, mkF, argsToLocals, Value.category, maxLocals]; done)) ?_
  have hil := (List.getElem?_eq_some_iff.mp hi).1
  have hl := A.len
  rw [List.length_map] at hl
  refine GoKit.iloadN G d18_0 rfl (pc' := 1) rfl ?_
  refine GoKit.aloadN G d18_1 rfl rfl (pc' := 2) rfl ?_
  refine GoKit.arrlenI G d18_2 A (z := cs.length.toInt32) (by simp) (pc' := 3) rfl ?_
  refine GoKit.callStaticP G d18_3 (wi hw 81 rfl) (wi hw 82 rfl) (wi hw 8 rfl) (wi hw 83 rfl) (by decide) (W := 0) (argsL := [(.int i.toInt32), (.int cs.length.toInt32)]) (rest := []) (con_checkIndex l hw HF (toI_nn (by omega)) ((toI_lt (by omega) (by omega)).mpr hil)) rfl (lenOf pd_6 rfl) rfl (by decide) (Nat.le_of_eq rfl) (by decide) (by decide) (by decide) (cells' := 0) (slots' := 0) rfl rfl (pc' := 6) rfl ?_
  show Run _ _ _ _ _ _ _ _ _ _ _ _ _ _ _ _ _ _ _ _ (mkF m 6 #[.val (.ref b), .val (.int i.toInt32)] [])
  refine GoKit.aloadN G d18_6 rfl rfl (pc' := 7) rfl ?_
  refine GoKit.iloadN G d18_7 rfl (pc' := 8) rfl ?_
  refine GoKit.baloadI G d18_8 A (i := i) (toI_clamp (by omega)) (toI_nn (by omega)) (x := ch.toInt8.toInt32) (by simp [hi]) (pc' := 9) rfl ?_
  refine GoKit.sipush G (255 : Int32) d18_9 rfl (pc' := 12) rfl ?_
  refine GoKit.iand G d18_12 (pc' := 13) rfl (fun v1 hqv1 => ?_)
  refine GoKit.i2c G d18_13 (pc' := 14) rfl (fun v2 hqv2 => ?_)
  have l3 := ch8 _ _ _ hqv1 hqv2
  have c4 : nar .char v2 = v2 := by rw [hqv2]; exact nar_i2c _
  refine GoKit.retNar G d18_14 (t := .char) rfl (by simp) (by decide) (by decide) ?_
  exact ⟨by subst_vars; rw [lo8_mask ch (hlat ch (List.mem_of_getElem? hi))], rfl⟩
theorem d17_0 : decode jdk_42_method_154_code 0 = .ok (.getstatic 38, 3) := by decide +kernel
theorem d17_3 : decode jdk_42_method_154_code 3 = .ok (.ifCond .eq 14, 3) := by decide +kernel
theorem d17_6 : decode jdk_42_method_154_code 6 = .ok (.aload_n 0, 1) := by decide +kernel
theorem d17_7 : decode jdk_42_method_154_code 7 = .ok (.getfield 15, 3) := by decide +kernel
theorem d17_10 : decode jdk_42_method_154_code 10 = .ok (.ifCond .ne 7, 3) := by decide +kernel
theorem d17_13 : decode jdk_42_method_154_code 13 = .ok (.iconst 1, 1) := by decide +kernel
theorem d17_14 : decode jdk_42_method_154_code 14 = .ok (.goto 4, 3) := by decide +kernel
theorem d17_18 : decode jdk_42_method_154_code 18 = .ok (.ireturn, 1) := by decide +kernel
abbrev rm_con_isLatin1 : Room := { frames := 0, cells := 0, slots := 0, locals := 0 }
set_option maxRecDepth 65536 in
set_option maxHeartbeats 40000000 in
theorem con_isLatin1 (l : Launch) {Z : State} {a0 : Array Value} (hw : ∀ d ∈ tables_1, d.before a0 Z = true) {n0 : Nat} {h0 : Heap} {a : Addr} {cs : List Int32} (S : Lat Z h0 a cs) (HC : Cst Z) :
    Con l Z false ELs n0 (⟨"java/lang/String", "isLatin1", "()Z"⟩ : MethodName) jdk_42_method_154_code 1 (some .boolean) rm_con_isLatin1 [] #[(.ref a)] h0 [] (fun v h => v = some (.int 1) ∧ h = h0) := by
  refine Con.intro (plainFor_of_name pn_java_lang_String) (hELs hw) ?_
  intro p e s m below meth c hh G
  refine castRun (g' := mkF m 0 #[.val (.ref a)] []) (by first | rfl | (simp [entryFrame, mkF, argsToLocals, Value.category, maxLocals]; done)) ?_
  obtain ⟨E, ⟨b, FV, FC, A⟩, hlat⟩ := id S
  obtain ⟨cz, SC, hcz⟩ := id HC
  refine GoKit.gets G d17_0 (wi hw 19 rfl) Via.refl SC (pc' := 3) rfl ?_
  refine GoKit.if_eq_f G d17_3 hcz (pc' := 6) rfl ?_
  refine GoKit.aloadN G d17_6 rfl rfl (pc' := 7) rfl ?_
  refine GoKit.getf G d17_7 (wi hw 31 rfl) Via.refl FC (pc' := 10) rfl ?_
  refine GoKit.if_ne_f G d17_10 rfl (pc' := 13) rfl ?_
  refine GoKit.iconst G (1 : Int32) d17_13 rfl (pc' := 14) rfl ?_
  refine GoKit.goto G d17_14 (by decide) (pc' := 18) rfl ?_
  refine GoKit.retNar G d17_18 (t := .boolean) rfl (by simp) (by decide) (by decide) ?_
  exact ⟨rfl, rfl⟩
theorem lat_nar {c : Int32} (h : 0 ≤ c.toInt ∧ c.toInt < 256) : nar .char c = c := by
  obtain ⟨n, hn, rfl⟩ : ∃ n : Nat, n < 256 ∧ c = Int32.ofNat n := by
    refine ⟨c.toInt.toNat, by omega, ?_⟩
    apply Int32.toInt_inj.mp
    rw [show Int32.ofNat c.toInt.toNat = c.toInt.toNat.toInt32 from rfl, toI_toInt (by omega)]; omega
  revert n; decide +kernel
theorem d16_0 : decode jdk_42_method_56_code 0 = .ok (.aload_n 0, 1) := by decide +kernel
theorem d16_1 : decode jdk_42_method_56_code 1 = .ok (.invokevirtual 492, 3) := by decide +kernel
theorem pd_7 : parseMethodDescriptor "()Z" = some ⟨[], some .boolean⟩ := by decide +kernel
theorem d16_4 : decode jdk_42_method_56_code 4 = .ok (.ifCond .eq 12, 3) := by decide +kernel
theorem d16_7 : decode jdk_42_method_56_code 7 = .ok (.aload_n 0, 1) := by decide +kernel
theorem d16_8 : decode jdk_42_method_56_code 8 = .ok (.getfield 9, 3) := by decide +kernel
theorem d16_11 : decode jdk_42_method_56_code 11 = .ok (.iload_n 1, 1) := by decide +kernel
theorem d16_12 : decode jdk_42_method_56_code 12 = .ok (.invokestatic 495, 3) := by decide +kernel
theorem pd_8 : parseMethodDescriptor "([BI)C" = some ⟨[(.array .byte), .int], some .char⟩ := by decide +kernel
theorem d16_15 : decode jdk_42_method_56_code 15 = .ok (.ireturn, 1) := by decide +kernel
abbrev rm_con_charAt : Room := { frames := 3, cells := 0, slots := 0, locals := 40 }
set_option maxRecDepth 65536 in
set_option maxHeartbeats 40000000 in
theorem con_charAt (l : Launch) {Z : State} {a0 : Array Value} (hw : ∀ d ∈ tables_1, d.before a0 Z = true) {n0 : Nat} {h0 : Heap} {a : Addr} {cs : List Int32} (S : Lat Z h0 a cs) (HC : Cst Z) {i : Nat} {ch : Int32} (hi : cs[i]? = some ch) (HF : Frm Z) :
    Con l Z false ELs n0 (⟨"java/lang/String", "charAt", "(I)C"⟩ : MethodName) jdk_42_method_56_code 2 (some .char) rm_con_charAt [] #[(.ref a), (.int i.toInt32)] h0 [] (fun v h => v = some (.int ch) ∧ h = h0) := by
  refine Con.intro (plainFor_of_name pn_java_lang_String) (hELs hw) ?_
  intro p e s m below meth c hh G
  refine castRun (g' := mkF m 0 #[.val (.ref a), .val (.int i.toInt32)] []) (by first | rfl | (simp [entryFrame, mkF, argsToLocals, Value.category, maxLocals]; done)) ?_
  obtain ⟨E, ⟨b, FV, FC, A⟩, hlat⟩ := id S
  refine GoKit.aloadN G d16_0 rfl rfl (pc' := 1) rfl ?_
  refine GoKit.callVirtualP G d16_1 (wi hw 73 rfl) (wi hw 74 rfl) (wi hw 76 rfl) (wi hw 75 rfl) (wi hw 8 rfl) (wi hw 77 rfl) (by decide) E (W := 0) (argsL := []) (rest := []) (con_isLatin1 l hw S HC) rfl (lenOf pd_7 rfl) rfl (by decide) (Nat.le_of_eq rfl) (by decide) (by decide) (by decide) (cells' := 0) (slots' := 0) rfl rfl (pc' := 4) rfl ?_
  show Run _ _ _ _ _ _ _ _ _ _ _ _ _ _ _ _ _ _ _ _ (mkF m 4 #[.val (.ref a), .val (.int i.toInt32)] [(.int 1)])
  refine GoKit.if_eq_f G d16_4 (by decide) (pc' := 7) rfl ?_
  refine GoKit.aloadN G d16_7 rfl rfl (pc' := 8) rfl ?_
  refine GoKit.getf G d16_8 (wi hw 33 rfl) Via.refl FV (pc' := 11) rfl ?_
  refine GoKit.iloadN G d16_11 rfl (pc' := 12) rfl ?_
  refine GoKit.callStaticP G d16_12 (wi hw 78 rfl) (wi hw 79 rfl) (wi hw 40 rfl) (wi hw 80 rfl) (by decide) (W := 0) (argsL := [(.ref b), (.int i.toInt32)]) (rest := []) (con_latCharAt l hw A hlat hi HF) rfl (lenOf pd_8 rfl) rfl (by decide) (Nat.le_of_eq rfl) (by decide) (by decide) (by decide) (cells' := 0) (slots' := 0) rfl rfl (pc' := 15) rfl ?_
  show Run _ _ _ _ _ _ _ _ _ _ _ _ _ _ _ _ _ _ _ _ (mkF m 15 #[.val (.ref a), .val (.int i.toInt32)] [(.int ch)])
  refine GoKit.retNar G d16_15 (t := .char) rfl (by simp) (by decide) (by decide) ?_
  exact ⟨by rw [lat_nar (hlat ch (List.mem_of_getElem? hi))], rfl⟩
theorem d22_0 : decode jdk_42_method_66_code 0 = .ok (.aload_n 0, 1) := by decide +kernel
theorem d22_1 : decode jdk_42_method_66_code 1 = .ok (.aload_n 1, 1) := by decide +kernel
theorem d22_2 : decode jdk_42_method_66_code 2 = .ok (.if_acmp .ne 5, 3) := by decide +kernel
theorem d22_5 : decode jdk_42_method_66_code 5 = .ok (.iconst 1, 1) := by decide +kernel
theorem d22_6 : decode jdk_42_method_66_code 6 = .ok (.ireturn, 1) := by decide +kernel
abbrev rm_con_equalsSame : Room := { frames := 0, cells := 0, slots := 0, locals := 0 }
set_option maxRecDepth 65536 in
set_option maxHeartbeats 40000000 in
theorem con_equalsSame (l : Launch) {Z : State} {a0 : Array Value} (hw : ∀ d ∈ tables_1, d.before a0 Z = true) {n0 : Nat} {h0 : Heap} {a : Addr} :
    Con l Z false ELs n0 (⟨"java/lang/String", "equals", "(Ljava/lang/Object;)Z"⟩ : MethodName) jdk_42_method_66_code 3 (some .boolean) rm_con_equalsSame [] #[(.ref a), (.ref a)] h0 [] (fun v h => v = some (.int 1) ∧ h = h0) := by
  refine Con.intro (plainFor_of_name pn_java_lang_String) (hELs hw) ?_
  intro p e s m below meth c hh G
  refine castRun (g' := mkF m 0 #[.val (.ref a), .val (.ref a), .unset] []) (by first | rfl | (simp [entryFrame, mkF, argsToLocals, Value.category, maxLocals]; done)) ?_
  refine GoKit.aloadN G d22_0 rfl rfl (pc' := 1) rfl ?_
  refine GoKit.aloadN G d22_1 rfl rfl (pc' := 2) rfl ?_
  refine GoKit.acmp_ne_f G d22_2 rfl rfl rfl (pc' := 5) rfl ?_
  refine GoKit.iconst G (1 : Int32) d22_5 rfl (pc' := 6) rfl ?_
  refine GoKit.retNar G d22_6 (t := .boolean) rfl (by simp) (by decide) (by decide) ?_
  exact ⟨rfl, rfl⟩
theorem d13_0 : decode jdk_42_method_55_code 0 = .ok (.aload_n 0, 1) := by decide +kernel
theorem d13_1 : decode jdk_42_method_55_code 1 = .ok (.getfield 9, 3) := by decide +kernel
theorem d13_4 : decode jdk_42_method_55_code 4 = .ok (.arraylength, 1) := by decide +kernel
theorem d13_5 : decode jdk_42_method_55_code 5 = .ok (.ifCond .ne 7, 3) := by decide +kernel
theorem d13_12 : decode jdk_42_method_55_code 12 = .ok (.iconst 0, 1) := by decide +kernel
theorem d13_13 : decode jdk_42_method_55_code 13 = .ok (.ireturn, 1) := by decide +kernel
abbrev rm_con_isEmptyNo : Room := { frames := 0, cells := 0, slots := 0, locals := 0 }
set_option maxRecDepth 65536 in
set_option maxHeartbeats 40000000 in
theorem con_isEmptyNo (l : Launch) {Z : State} {a0 : Array Value} (hw : ∀ d ∈ tables_1, d.before a0 Z = true) {n0 : Nat} {h0 : Heap} {a : Addr} {cs : List Int32} (S : Lat Z h0 a cs) (hne : cs ≠ []) :
    Con l Z false ELs n0 (⟨"java/lang/String", "isEmpty", "()Z"⟩ : MethodName) jdk_42_method_55_code 1 (some .boolean) rm_con_isEmptyNo [] #[(.ref a)] h0 [] (fun v h => v = some (.int 0) ∧ h = h0) := by
  refine Con.intro (plainFor_of_name pn_java_lang_String) (hELs hw) ?_
  intro p e s m below meth c hh G
  refine castRun (g' := mkF m 0 #[.val (.ref a)] []) (by first | rfl | (simp [entryFrame, mkF, argsToLocals, Value.category, maxLocals]; done)) ?_
  obtain ⟨E, ⟨b, FV, FC, A⟩, hlat⟩ := id S
  refine GoKit.aloadN G d13_0 rfl rfl (pc' := 1) rfl ?_
  refine GoKit.getf G d13_1 (wi hw 33 rfl) Via.refl FV (pc' := 4) rfl ?_
  refine GoKit.arrlenI G d13_4 A (z := cs.length.toInt32) (by simp) (pc' := 5) rfl ?_
  refine GoKit.if_ne_t G d13_5 (fun q => hne (List.length_eq_zero_iff.mp ((toI_eq (k := 0) (by have := A.len; simpa using this) (by decide)).mp q))) (by decide) (pc' := 12) rfl ?_
  refine GoKit.iconst G (0 : Int32) d13_12 rfl (pc' := 13) rfl ?_
  refine GoKit.retNar G d13_13 (t := .boolean) rfl (by simp) (by decide) (by decide) ?_
  exact ⟨rfl, rfl⟩
theorem cases4 {v : Int32} (h : 0 ≤ v.toInt ∧ v.toInt < 4) : v = 0 ∨ v = 1 ∨ v = 2 ∨ v = 3 := by
  have h2 : v.toInt = 0 ∨ v.toInt = 1 ∨ v.toInt = 2 ∨ v.toInt = 3 := by omega
  rcases h2 with h2 | h2 | h2 | h2
  · exact Or.inl (Int32.toInt_inj.mp h2)
  · exact Or.inr (Or.inl (Int32.toInt_inj.mp h2))
  · exact Or.inr (Or.inr (Or.inl (Int32.toInt_inj.mp h2)))
  · exact Or.inr (Or.inr (Or.inr (Int32.toInt_inj.mp h2)))
def isNm (c : Int32) : Prop := (65 ≤ c.toInt ∧ c.toInt ≤ 90) ∨ (97 ≤ c.toInt ∧ c.toInt ≤ 122) ∨ (48 ≤ c.toInt ∧ c.toInt ≤ 57) ∨ c.toInt = 46 ∨ c.toInt = 95 ∨ c.toInt = 45
theorem isNm_lat {c : Int32} (h : isNm c) : 0 ≤ c.toInt ∧ c.toInt < 256 := by unfold isNm at h; omega
theorem i2c_small {c : Int32} (h : 0 ≤ c.toInt ∧ c.toInt < 256) : c.toUInt32.toUInt16.toUInt32.toInt32 = c := lat_nar h
theorem add_i {x y : Int32} (h1 : -1000 ≤ x.toInt ∧ x.toInt ≤ 1000) (h2 : -1000 ≤ y.toInt ∧ y.toInt ≤ 1000) : (x + y).toInt = x.toInt + y.toInt := XT.add32 ⟨by omega, by omega⟩
theorem sub_i {x y : Int32} (h1 : -1000 ≤ x.toInt ∧ x.toInt ≤ 1000) (h2 : -1000 ≤ y.toInt ∧ y.toInt ≤ 1000) : (x - y).toInt = x.toInt - y.toInt := XT.sub32 ⟨by omega, by omega⟩
theorem d1_0 : decode method_3_code 0 = .ok (.iload_n 0, 1) := by decide +kernel
theorem d1_1 : decode method_3_code 1 = .ok (.ldc 36, 2) := by decide +kernel
theorem d1_3 : decode method_3_code 3 = .ok (.iand, 1) := by decide +kernel
theorem d1_4 : decode method_3_code 4 = .ok (.bipush 65, 2) := by decide +kernel
theorem d1_6 : decode method_3_code 6 = .ok (.irem, 1) := by decide +kernel
theorem d1_7 : decode method_3_code 7 = .ok (.istore_n 1, 1) := by decide +kernel
theorem d1_8 : decode method_3_code 8 = .ok (.iload_n 1, 1) := by decide +kernel
theorem d1_9 : decode method_3_code 9 = .ok (.bipush 26, 2) := by decide +kernel
theorem d1_11 : decode method_3_code 11 = .ok (.if_icmp .ge 9, 3) := by decide +kernel
theorem d1_20 : decode method_3_code 20 = .ok (.iload_n 1, 1) := by decide +kernel
theorem d1_21 : decode method_3_code 21 = .ok (.bipush 52, 2) := by decide +kernel
theorem d1_23 : decode method_3_code 23 = .ok (.if_icmp .ge 12, 3) := by decide +kernel
theorem d1_35 : decode method_3_code 35 = .ok (.iload_n 1, 1) := by decide +kernel
theorem d1_36 : decode method_3_code 36 = .ok (.bipush 62, 2) := by decide +kernel
theorem d1_38 : decode method_3_code 38 = .ok (.if_icmp .ge 12, 3) := by decide +kernel
theorem d1_50 : decode method_3_code 50 = .ok (.iload_n 1, 1) := by decide +kernel
theorem d1_51 : decode method_3_code 51 = .ok (.bipush 62, 2) := by decide +kernel
theorem d1_53 : decode method_3_code 53 = .ok (.if_icmp .ne 6, 3) := by decide +kernel
theorem d1_59 : decode method_3_code 59 = .ok (.iload_n 1, 1) := by decide +kernel
theorem d1_60 : decode method_3_code 60 = .ok (.bipush 63, 2) := by decide +kernel
theorem d1_62 : decode method_3_code 62 = .ok (.if_icmp .ne 6, 3) := by decide +kernel
theorem d1_68 : decode method_3_code 68 = .ok (.bipush 45, 2) := by decide +kernel
theorem d1_70 : decode method_3_code 70 = .ok (.ireturn, 1) := by decide +kernel
theorem d1_65 : decode method_3_code 65 = .ok (.bipush 95, 2) := by decide +kernel
theorem d1_67 : decode method_3_code 67 = .ok (.ireturn, 1) := by decide +kernel
theorem d1_56 : decode method_3_code 56 = .ok (.bipush 46, 2) := by decide +kernel
theorem d1_58 : decode method_3_code 58 = .ok (.ireturn, 1) := by decide +kernel
theorem d1_41 : decode method_3_code 41 = .ok (.bipush 48, 2) := by decide +kernel
theorem d1_43 : decode method_3_code 43 = .ok (.iload_n 1, 1) := by decide +kernel
theorem d1_44 : decode method_3_code 44 = .ok (.bipush 52, 2) := by decide +kernel
theorem d1_46 : decode method_3_code 46 = .ok (.isub, 1) := by decide +kernel
theorem d1_47 : decode method_3_code 47 = .ok (.iadd, 1) := by decide +kernel
theorem d1_48 : decode method_3_code 48 = .ok (.i2c, 1) := by decide +kernel
theorem d1_49 : decode method_3_code 49 = .ok (.ireturn, 1) := by decide +kernel
theorem d1_26 : decode method_3_code 26 = .ok (.bipush 97, 2) := by decide +kernel
theorem d1_28 : decode method_3_code 28 = .ok (.iload_n 1, 1) := by decide +kernel
theorem d1_29 : decode method_3_code 29 = .ok (.bipush 26, 2) := by decide +kernel
theorem d1_31 : decode method_3_code 31 = .ok (.isub, 1) := by decide +kernel
theorem d1_32 : decode method_3_code 32 = .ok (.iadd, 1) := by decide +kernel
theorem d1_33 : decode method_3_code 33 = .ok (.i2c, 1) := by decide +kernel
theorem d1_34 : decode method_3_code 34 = .ok (.ireturn, 1) := by decide +kernel
theorem d1_14 : decode method_3_code 14 = .ok (.bipush 65, 2) := by decide +kernel
theorem d1_16 : decode method_3_code 16 = .ok (.iload_n 1, 1) := by decide +kernel
theorem d1_17 : decode method_3_code 17 = .ok (.iadd, 1) := by decide +kernel
theorem d1_18 : decode method_3_code 18 = .ok (.i2c, 1) := by decide +kernel
theorem d1_19 : decode method_3_code 19 = .ok (.ireturn, 1) := by decide +kernel
theorem pn_com_example_realmwarden_realmwarden_permission_NameCheckPinLaw : plainName "com/example/realmwarden/realmwarden/permission/NameCheckPinLaw" = true := by first | (simp [plainName, overriddenIn]; done) | decide +kernel
abbrev rm_con_nameChar : Room := { frames := 0, cells := 0, slots := 0, locals := 0 }
set_option maxRecDepth 65536 in
set_option maxHeartbeats 40000000 in
theorem con_nameChar (l : Launch) {Z : State} {a0 : Array Value} (hw : ∀ d ∈ tables_1, d.before a0 Z = true) {n0 : Nat} {h0 : Heap} (x : Int32) :
    Con l Z false ELs n0 (⟨"com/example/realmwarden/realmwarden/permission/NameCheckPinLaw", "nameChar", "(I)C"⟩ : MethodName) method_3_code 2 (some .char) rm_con_nameChar [] #[(.int x)] h0 [] (fun v h => ∃ ch : Int32, v = some (.int ch) ∧ isNm ch) := by
  refine Con.intro (plainFor_of_name pn_com_example_realmwarden_realmwarden_permission_NameCheckPinLaw) (hELs hw) ?_
  intro p e s m below meth c hh G
  refine castRun (g' := mkF m 0 #[.val (.int x), .unset] []) (by first | rfl | (simp [entryFrame, mkF, argsToLocals, Value.category, maxLocals]; done)) ?_
  refine GoKit.iloadN G d1_0 rfl (pc' := 1) rfl ?_
  refine GoKit.ldcInt G d1_1 (wi hw 5 rfl) (pc' := 3) rfl ?_
  refine GoKit.iand G d1_3 (pc' := 4) rfl (fun v1 hqv1 => ?_)
  refine GoKit.bipush G (65 : Int32) d1_4 rfl (pc' := 6) rfl ?_
  refine GoKit.irem G d1_6 (by decide) (pc' := 7) rfl (fun v2 hqv2 => ?_)
  have hk := and31_rem hqv1 hqv2 (by decide)
  rw [show (65 : Int32).toInt = 65 from rfl] at hk
  refine GoKit.istoreN G d1_7 (Ls' := #[.val (.int x), .val (.int v2)]) rfl (pc' := 8) rfl ?_
  refine GoKit.iloadN G d1_8 rfl (pc' := 9) rfl ?_
  refine GoKit.bipush G (26 : Int32) d1_9 rfl (pc' := 11) rfl ?_
  refine GoKit.icmp_ge G d1_11 (by decide) (pt := 20) (pf := 14) rfl rfl (fun hb3 => ?_) (fun hb3 => ?_)
  · refine GoKit.iloadN G d1_20 rfl (pc' := 21) rfl ?_
    refine GoKit.bipush G (52 : Int32) d1_21 rfl (pc' := 23) rfl ?_
    refine GoKit.icmp_ge G d1_23 (by decide) (pt := 35) (pf := 26) rfl rfl (fun hb4 => ?_) (fun hb4 => ?_)
    · refine GoKit.iloadN G d1_35 rfl (pc' := 36) rfl ?_
      refine GoKit.bipush G (62 : Int32) d1_36 rfl (pc' := 38) rfl ?_
      refine GoKit.icmp_ge G d1_38 (by decide) (pt := 50) (pf := 41) rfl rfl (fun hb5 => ?_) (fun hb5 => ?_)
      · refine GoKit.iloadN G d1_50 rfl (pc' := 51) rfl ?_
        refine GoKit.bipush G (62 : Int32) d1_51 rfl (pc' := 53) rfl ?_
        refine GoKit.icmp_ne G d1_53 (by decide) (pt := 59) (pf := 56) rfl rfl (fun hb6 => ?_) (fun hb6 => ?_)
        · refine GoKit.iloadN G d1_59 rfl (pc' := 60) rfl ?_
          refine GoKit.bipush G (63 : Int32) d1_60 rfl (pc' := 62) rfl ?_
          refine GoKit.icmp_ne G d1_62 (by decide) (pt := 68) (pf := 65) rfl rfl (fun hb7 => ?_) (fun hb7 => ?_)
          · refine GoKit.bipush G (45 : Int32) d1_68 rfl (pc' := 70) rfl ?_
            refine GoKit.retNar G d1_70 (t := .char) rfl (by simp) (by decide) (by decide) ?_
            exact ⟨_, rfl, by unfold isNm; decide⟩
          · refine GoKit.bipush G (95 : Int32) d1_65 rfl (pc' := 67) rfl ?_
            refine GoKit.retNar G d1_67 (t := .char) rfl (by simp) (by decide) (by decide) ?_
            exact ⟨_, rfl, by unfold isNm; decide⟩
        · refine GoKit.bipush G (46 : Int32) d1_56 rfl (pc' := 58) rfl ?_
          refine GoKit.retNar G d1_58 (t := .char) rfl (by simp) (by decide) (by decide) ?_
          exact ⟨_, rfl, by unfold isNm; decide⟩
      · refine GoKit.bipush G (48 : Int32) d1_41 rfl (pc' := 43) rfl ?_
        refine GoKit.iloadN G d1_43 rfl (pc' := 44) rfl ?_
        refine GoKit.bipush G (52 : Int32) d1_44 rfl (pc' := 46) rfl ?_
        refine GoKit.isub G d1_46 (pc' := 47) rfl (fun v8 hqv8 => ?_)
        refine GoKit.iadd G d1_47 (pc' := 48) rfl (fun v9 hqv9 => ?_)
        refine GoKit.i2c G d1_48 (pc' := 49) rfl (fun v10 hqv10 => ?_)
        have c11 : nar .char v10 = v10 := by rw [hqv10]; exact nar_i2c _
        refine GoKit.retNar G d1_49 (t := .char) rfl (by simp) (by decide) (by decide) ?_
        simp only [Int32.lt_iff_toInt_lt, ← Int32.toInt_inj, show (26 : Int32).toInt = 26 from rfl, show (52 : Int32).toInt = 52 from rfl, show (62 : Int32).toInt = 62 from rfl] at hb3 hb4 hb5
        have e0 : v8.toInt = v2.toInt - 52 := by rw [hqv8, sub_i (by omega) (by decide)]; rfl
        have e1 : v9.toInt = 48 + v8.toInt := by rw [hqv9, add_i (by decide) (by omega)]; rfl
        have e2 : v10 = v9 := by rw [hqv10]; exact i2c_small (by omega)
        have e3 : isNm v10 := by unfold isNm; rw [e2]; omega
        exact ⟨_, rfl, by rw [lat_nar (isNm_lat e3)]; exact e3⟩
    · refine GoKit.bipush G (97 : Int32) d1_26 rfl (pc' := 28) rfl ?_
      refine GoKit.iloadN G d1_28 rfl (pc' := 29) rfl ?_
      refine GoKit.bipush G (26 : Int32) d1_29 rfl (pc' := 31) rfl ?_
      refine GoKit.isub G d1_31 (pc' := 32) rfl (fun v12 hqv12 => ?_)
      refine GoKit.iadd G d1_32 (pc' := 33) rfl (fun v13 hqv13 => ?_)
      refine GoKit.i2c G d1_33 (pc' := 34) rfl (fun v14 hqv14 => ?_)
      have c15 : nar .char v14 = v14 := by rw [hqv14]; exact nar_i2c _
      refine GoKit.retNar G d1_34 (t := .char) rfl (by simp) (by decide) (by decide) ?_
      simp only [Int32.lt_iff_toInt_lt, ← Int32.toInt_inj, show (26 : Int32).toInt = 26 from rfl, show (52 : Int32).toInt = 52 from rfl, show (62 : Int32).toInt = 62 from rfl] at hb3 hb4
      have e0 : v12.toInt = v2.toInt - 26 := by rw [hqv12, sub_i (by omega) (by decide)]; rfl
      have e1 : v13.toInt = 97 + v12.toInt := by rw [hqv13, add_i (by decide) (by omega)]; rfl
      have e2 : v14 = v13 := by rw [hqv14]; exact i2c_small (by omega)
      have e3 : isNm v14 := by unfold isNm; rw [e2]; omega
      exact ⟨_, rfl, by rw [lat_nar (isNm_lat e3)]; exact e3⟩
  · refine GoKit.bipush G (65 : Int32) d1_14 rfl (pc' := 16) rfl ?_
    refine GoKit.iloadN G d1_16 rfl (pc' := 17) rfl ?_
    refine GoKit.iadd G d1_17 (pc' := 18) rfl (fun v16 hqv16 => ?_)
    refine GoKit.i2c G d1_18 (pc' := 19) rfl (fun v17 hqv17 => ?_)
    have c18 : nar .char v17 = v17 := by rw [hqv17]; exact nar_i2c _
    refine GoKit.retNar G d1_19 (t := .char) rfl (by simp) (by decide) (by decide) ?_
    simp only [Int32.lt_iff_toInt_lt, ← Int32.toInt_inj, show (26 : Int32).toInt = 26 from rfl, show (52 : Int32).toInt = 52 from rfl, show (62 : Int32).toInt = 62 from rfl] at hb3
    have e1 : v16.toInt = 65 + v2.toInt := by rw [hqv16, add_i (by decide) (by omega)]; rfl
    have e2 : v17 = v16 := by rw [hqv17]; exact i2c_small (by omega)
    have e3 : isNm v17 := by unfold isNm; rw [e2]; omega
    exact ⟨_, rfl, by rw [lat_nar (isNm_lat e3)]; exact e3⟩
theorem d21_0 : decode prog_21_method_3_code 0 = .ok (.iload_n 0, 1) := by decide +kernel
theorem d21_1 : decode prog_21_method_3_code 1 = .ok (.bipush 65, 2) := by decide +kernel
theorem d21_3 : decode prog_21_method_3_code 3 = .ok (.if_icmp .lt 9, 3) := by decide +kernel
theorem d21_12 : decode prog_21_method_3_code 12 = .ok (.iload_n 0, 1) := by decide +kernel
theorem d21_13 : decode prog_21_method_3_code 13 = .ok (.bipush 97, 2) := by decide +kernel
theorem d21_15 : decode prog_21_method_3_code 15 = .ok (.if_icmp .lt 9, 3) := by decide +kernel
theorem d21_24 : decode prog_21_method_3_code 24 = .ok (.iload_n 0, 1) := by decide +kernel
theorem d21_25 : decode prog_21_method_3_code 25 = .ok (.bipush 48, 2) := by decide +kernel
theorem d21_27 : decode prog_21_method_3_code 27 = .ok (.if_icmp .lt 9, 3) := by decide +kernel
theorem d21_36 : decode prog_21_method_3_code 36 = .ok (.iload_n 0, 1) := by decide +kernel
theorem d21_37 : decode prog_21_method_3_code 37 = .ok (.bipush 46, 2) := by decide +kernel
theorem d21_39 : decode prog_21_method_3_code 39 = .ok (.if_icmp .eq 15, 3) := by decide +kernel
theorem d21_54 : decode prog_21_method_3_code 54 = .ok (.iconst 1, 1) := by decide +kernel
theorem d21_55 : decode prog_21_method_3_code 55 = .ok (.goto 4, 3) := by decide +kernel
theorem d21_59 : decode prog_21_method_3_code 59 = .ok (.ireturn, 1) := by decide +kernel
theorem d21_42 : decode prog_21_method_3_code 42 = .ok (.iload_n 0, 1) := by decide +kernel
theorem d21_43 : decode prog_21_method_3_code 43 = .ok (.bipush 95, 2) := by decide +kernel
theorem d21_45 : decode prog_21_method_3_code 45 = .ok (.if_icmp .eq 9, 3) := by decide +kernel
theorem d21_48 : decode prog_21_method_3_code 48 = .ok (.iload_n 0, 1) := by decide +kernel
theorem d21_49 : decode prog_21_method_3_code 49 = .ok (.bipush 45, 2) := by decide +kernel
theorem d21_51 : decode prog_21_method_3_code 51 = .ok (.if_icmp .ne 7, 3) := by decide +kernel
theorem d21_58 : decode prog_21_method_3_code 58 = .ok (.iconst 0, 1) := by decide +kernel
theorem d21_30 : decode prog_21_method_3_code 30 = .ok (.iload_n 0, 1) := by decide +kernel
theorem d21_31 : decode prog_21_method_3_code 31 = .ok (.bipush 57, 2) := by decide +kernel
theorem d21_33 : decode prog_21_method_3_code 33 = .ok (.if_icmp .le 21, 3) := by decide +kernel
theorem d21_18 : decode prog_21_method_3_code 18 = .ok (.iload_n 0, 1) := by decide +kernel
theorem d21_19 : decode prog_21_method_3_code 19 = .ok (.bipush 122, 2) := by decide +kernel
theorem d21_21 : decode prog_21_method_3_code 21 = .ok (.if_icmp .le 33, 3) := by decide +kernel
theorem d21_6 : decode prog_21_method_3_code 6 = .ok (.iload_n 0, 1) := by decide +kernel
theorem d21_7 : decode prog_21_method_3_code 7 = .ok (.bipush 90, 2) := by decide +kernel
theorem d21_9 : decode prog_21_method_3_code 9 = .ok (.if_icmp .le 45, 3) := by decide +kernel
theorem pn_com_example_realmwarden_realmwarden_permission_Name : plainName "com/example/realmwarden/realmwarden/permission/Name" = true := by first | (simp [plainName, overriddenIn]; done) | decide +kernel
abbrev rm_con_isNm : Room := { frames := 0, cells := 0, slots := 0, locals := 0 }
set_option maxRecDepth 65536 in
set_option maxHeartbeats 40000000 in
theorem con_isNm (l : Launch) {Z : State} {a0 : Array Value} (hw : ∀ d ∈ tables_1, d.before a0 Z = true) {n0 : Nat} {h0 : Heap} {x : Int32} (H : isNm x) :
    Con l Z false ELs n0 (⟨"com/example/realmwarden/realmwarden/permission/Name", "isNameCharacter", "(C)Z"⟩ : MethodName) prog_21_method_3_code 1 (some .boolean) rm_con_isNm [] #[(.int x)] h0 [] (fun v h => v = some (.int 1) ∧ h = h0) := by
  refine Con.intro (plainFor_of_name pn_com_example_realmwarden_realmwarden_permission_Name) (hELs hw) ?_
  intro p e s m below meth c hh G
  refine castRun (g' := mkF m 0 #[.val (.int x)] []) (by first | rfl | (simp [entryFrame, mkF, argsToLocals, Value.category, maxLocals]; done)) ?_
  refine GoKit.iloadN G d21_0 rfl (pc' := 1) rfl ?_
  refine GoKit.bipush G (65 : Int32) d21_1 rfl (pc' := 3) rfl ?_
  refine GoKit.icmp_lt G d21_3 (by decide) (pt := 12) (pf := 6) rfl rfl (fun hb1 => ?_) (fun hb1 => ?_)
  · refine GoKit.iloadN G d21_12 rfl (pc' := 13) rfl ?_
    refine GoKit.bipush G (97 : Int32) d21_13 rfl (pc' := 15) rfl ?_
    refine GoKit.icmp_lt G d21_15 (by decide) (pt := 24) (pf := 18) rfl rfl (fun hb2 => ?_) (fun hb2 => ?_)
    · refine GoKit.iloadN G d21_24 rfl (pc' := 25) rfl ?_
      refine GoKit.bipush G (48 : Int32) d21_25 rfl (pc' := 27) rfl ?_
      refine GoKit.icmp_lt G d21_27 (by decide) (pt := 36) (pf := 30) rfl rfl (fun hb3 => ?_) (fun hb3 => ?_)
      · refine GoKit.iloadN G d21_36 rfl (pc' := 37) rfl ?_
        refine GoKit.bipush G (46 : Int32) d21_37 rfl (pc' := 39) rfl ?_
        refine GoKit.icmp_eq G d21_39 (by decide) (pt := 54) (pf := 42) rfl rfl (fun hb4 => ?_) (fun hb4 => ?_)
        · refine GoKit.iconst G (1 : Int32) d21_54 rfl (pc' := 55) rfl ?_
          refine GoKit.goto G d21_55 (by decide) (pc' := 59) rfl ?_
          refine GoKit.retNar G d21_59 (t := .boolean) rfl (by simp) (by decide) (by decide) ?_
          exact ⟨rfl, rfl⟩
        · refine GoKit.iloadN G d21_42 rfl (pc' := 43) rfl ?_
          refine GoKit.bipush G (95 : Int32) d21_43 rfl (pc' := 45) rfl ?_
          refine GoKit.icmp_eq G d21_45 (by decide) (pt := 54) (pf := 48) rfl rfl (fun hb5 => ?_) (fun hb5 => ?_)
          · refine GoKit.iconst G (1 : Int32) d21_54 rfl (pc' := 55) rfl ?_
            refine GoKit.goto G d21_55 (by decide) (pc' := 59) rfl ?_
            refine GoKit.retNar G d21_59 (t := .boolean) rfl (by simp) (by decide) (by decide) ?_
            exact ⟨rfl, rfl⟩
          · refine GoKit.iloadN G d21_48 rfl (pc' := 49) rfl ?_
            refine GoKit.bipush G (45 : Int32) d21_49 rfl (pc' := 51) rfl ?_
            refine GoKit.icmp_ne G d21_51 (by decide) (pt := 58) (pf := 54) rfl rfl (fun hb6 => ?_) (fun hb6 => ?_)
            · refine GoKit.iconst G (0 : Int32) d21_58 rfl (pc' := 59) rfl ?_
              refine GoKit.retNar G d21_59 (t := .boolean) rfl (by simp) (by decide) (by decide) ?_
              exfalso
              simp only [Int32.lt_iff_toInt_lt, ← Int32.toInt_inj, show (45 : Int32).toInt = 45 from rfl, show (46 : Int32).toInt = 46 from rfl, show (48 : Int32).toInt = 48 from rfl, show (57 : Int32).toInt = 57 from rfl, show (65 : Int32).toInt = 65 from rfl, show (90 : Int32).toInt = 90 from rfl, show (95 : Int32).toInt = 95 from rfl, show (97 : Int32).toInt = 97 from rfl, show (122 : Int32).toInt = 122 from rfl] at hb1 hb2 hb3 hb4 hb5 hb6
              unfold isNm at H; omega
            · refine GoKit.iconst G (1 : Int32) d21_54 rfl (pc' := 55) rfl ?_
              refine GoKit.goto G d21_55 (by decide) (pc' := 59) rfl ?_
              refine GoKit.retNar G d21_59 (t := .boolean) rfl (by simp) (by decide) (by decide) ?_
              exact ⟨rfl, rfl⟩
      · refine GoKit.iloadN G d21_30 rfl (pc' := 31) rfl ?_
        refine GoKit.bipush G (57 : Int32) d21_31 rfl (pc' := 33) rfl ?_
        refine GoKit.icmp_le G d21_33 (by decide) (pt := 54) (pf := 36) rfl rfl (fun hb7 => ?_) (fun hb7 => ?_)
        · refine GoKit.iconst G (1 : Int32) d21_54 rfl (pc' := 55) rfl ?_
          refine GoKit.goto G d21_55 (by decide) (pc' := 59) rfl ?_
          refine GoKit.retNar G d21_59 (t := .boolean) rfl (by simp) (by decide) (by decide) ?_
          exact ⟨rfl, rfl⟩
        · refine GoKit.iloadN G d21_36 rfl (pc' := 37) rfl ?_
          refine GoKit.bipush G (46 : Int32) d21_37 rfl (pc' := 39) rfl ?_
          refine GoKit.icmp_eq G d21_39 (by decide) (pt := 54) (pf := 42) rfl rfl (fun hb8 => ?_) (fun hb8 => ?_)
          · refine GoKit.iconst G (1 : Int32) d21_54 rfl (pc' := 55) rfl ?_
            refine GoKit.goto G d21_55 (by decide) (pc' := 59) rfl ?_
            refine GoKit.retNar G d21_59 (t := .boolean) rfl (by simp) (by decide) (by decide) ?_
            exact ⟨rfl, rfl⟩
          · refine GoKit.iloadN G d21_42 rfl (pc' := 43) rfl ?_
            refine GoKit.bipush G (95 : Int32) d21_43 rfl (pc' := 45) rfl ?_
            refine GoKit.icmp_eq G d21_45 (by decide) (pt := 54) (pf := 48) rfl rfl (fun hb9 => ?_) (fun hb9 => ?_)
            · refine GoKit.iconst G (1 : Int32) d21_54 rfl (pc' := 55) rfl ?_
              refine GoKit.goto G d21_55 (by decide) (pc' := 59) rfl ?_
              refine GoKit.retNar G d21_59 (t := .boolean) rfl (by simp) (by decide) (by decide) ?_
              exact ⟨rfl, rfl⟩
            · refine GoKit.iloadN G d21_48 rfl (pc' := 49) rfl ?_
              refine GoKit.bipush G (45 : Int32) d21_49 rfl (pc' := 51) rfl ?_
              refine GoKit.icmp_ne G d21_51 (by decide) (pt := 58) (pf := 54) rfl rfl (fun hb10 => ?_) (fun hb10 => ?_)
              · refine GoKit.iconst G (0 : Int32) d21_58 rfl (pc' := 59) rfl ?_
                refine GoKit.retNar G d21_59 (t := .boolean) rfl (by simp) (by decide) (by decide) ?_
                exfalso
                simp only [Int32.lt_iff_toInt_lt, ← Int32.toInt_inj, show (45 : Int32).toInt = 45 from rfl, show (46 : Int32).toInt = 46 from rfl, show (48 : Int32).toInt = 48 from rfl, show (57 : Int32).toInt = 57 from rfl, show (65 : Int32).toInt = 65 from rfl, show (90 : Int32).toInt = 90 from rfl, show (95 : Int32).toInt = 95 from rfl, show (97 : Int32).toInt = 97 from rfl, show (122 : Int32).toInt = 122 from rfl] at hb1 hb2 hb3 hb7 hb8 hb9 hb10
                unfold isNm at H; omega
              · refine GoKit.iconst G (1 : Int32) d21_54 rfl (pc' := 55) rfl ?_
                refine GoKit.goto G d21_55 (by decide) (pc' := 59) rfl ?_
                refine GoKit.retNar G d21_59 (t := .boolean) rfl (by simp) (by decide) (by decide) ?_
                exact ⟨rfl, rfl⟩
    · refine GoKit.iloadN G d21_18 rfl (pc' := 19) rfl ?_
      refine GoKit.bipush G (122 : Int32) d21_19 rfl (pc' := 21) rfl ?_
      refine GoKit.icmp_le G d21_21 (by decide) (pt := 54) (pf := 24) rfl rfl (fun hb11 => ?_) (fun hb11 => ?_)
      · refine GoKit.iconst G (1 : Int32) d21_54 rfl (pc' := 55) rfl ?_
        refine GoKit.goto G d21_55 (by decide) (pc' := 59) rfl ?_
        refine GoKit.retNar G d21_59 (t := .boolean) rfl (by simp) (by decide) (by decide) ?_
        exact ⟨rfl, rfl⟩
      · refine GoKit.iloadN G d21_24 rfl (pc' := 25) rfl ?_
        refine GoKit.bipush G (48 : Int32) d21_25 rfl (pc' := 27) rfl ?_
        refine GoKit.icmp_lt G d21_27 (by decide) (pt := 36) (pf := 30) rfl rfl (fun hb12 => ?_) (fun hb12 => ?_)
        · refine GoKit.iloadN G d21_36 rfl (pc' := 37) rfl ?_
          refine GoKit.bipush G (46 : Int32) d21_37 rfl (pc' := 39) rfl ?_
          refine GoKit.icmp_eq G d21_39 (by decide) (pt := 54) (pf := 42) rfl rfl (fun hb13 => ?_) (fun hb13 => ?_)
          · refine GoKit.iconst G (1 : Int32) d21_54 rfl (pc' := 55) rfl ?_
            refine GoKit.goto G d21_55 (by decide) (pc' := 59) rfl ?_
            refine GoKit.retNar G d21_59 (t := .boolean) rfl (by simp) (by decide) (by decide) ?_
            exact ⟨rfl, rfl⟩
          · refine GoKit.iloadN G d21_42 rfl (pc' := 43) rfl ?_
            refine GoKit.bipush G (95 : Int32) d21_43 rfl (pc' := 45) rfl ?_
            refine GoKit.icmp_eq G d21_45 (by decide) (pt := 54) (pf := 48) rfl rfl (fun hb14 => ?_) (fun hb14 => ?_)
            · refine GoKit.iconst G (1 : Int32) d21_54 rfl (pc' := 55) rfl ?_
              refine GoKit.goto G d21_55 (by decide) (pc' := 59) rfl ?_
              refine GoKit.retNar G d21_59 (t := .boolean) rfl (by simp) (by decide) (by decide) ?_
              exact ⟨rfl, rfl⟩
            · refine GoKit.iloadN G d21_48 rfl (pc' := 49) rfl ?_
              refine GoKit.bipush G (45 : Int32) d21_49 rfl (pc' := 51) rfl ?_
              refine GoKit.icmp_ne G d21_51 (by decide) (pt := 58) (pf := 54) rfl rfl (fun hb15 => ?_) (fun hb15 => ?_)
              · refine GoKit.iconst G (0 : Int32) d21_58 rfl (pc' := 59) rfl ?_
                refine GoKit.retNar G d21_59 (t := .boolean) rfl (by simp) (by decide) (by decide) ?_
                exfalso
                simp only [Int32.lt_iff_toInt_lt, ← Int32.toInt_inj, show (45 : Int32).toInt = 45 from rfl, show (46 : Int32).toInt = 46 from rfl, show (48 : Int32).toInt = 48 from rfl, show (57 : Int32).toInt = 57 from rfl, show (65 : Int32).toInt = 65 from rfl, show (90 : Int32).toInt = 90 from rfl, show (95 : Int32).toInt = 95 from rfl, show (97 : Int32).toInt = 97 from rfl, show (122 : Int32).toInt = 122 from rfl] at hb1 hb2 hb11 hb12 hb13 hb14 hb15
                unfold isNm at H; omega
              · refine GoKit.iconst G (1 : Int32) d21_54 rfl (pc' := 55) rfl ?_
                refine GoKit.goto G d21_55 (by decide) (pc' := 59) rfl ?_
                refine GoKit.retNar G d21_59 (t := .boolean) rfl (by simp) (by decide) (by decide) ?_
                exact ⟨rfl, rfl⟩
        · refine GoKit.iloadN G d21_30 rfl (pc' := 31) rfl ?_
          refine GoKit.bipush G (57 : Int32) d21_31 rfl (pc' := 33) rfl ?_
          refine GoKit.icmp_le G d21_33 (by decide) (pt := 54) (pf := 36) rfl rfl (fun hb16 => ?_) (fun hb16 => ?_)
          · refine GoKit.iconst G (1 : Int32) d21_54 rfl (pc' := 55) rfl ?_
            refine GoKit.goto G d21_55 (by decide) (pc' := 59) rfl ?_
            refine GoKit.retNar G d21_59 (t := .boolean) rfl (by simp) (by decide) (by decide) ?_
            exact ⟨rfl, rfl⟩
          · refine GoKit.iloadN G d21_36 rfl (pc' := 37) rfl ?_
            refine GoKit.bipush G (46 : Int32) d21_37 rfl (pc' := 39) rfl ?_
            refine GoKit.icmp_eq G d21_39 (by decide) (pt := 54) (pf := 42) rfl rfl (fun hb17 => ?_) (fun hb17 => ?_)
            · refine GoKit.iconst G (1 : Int32) d21_54 rfl (pc' := 55) rfl ?_
              refine GoKit.goto G d21_55 (by decide) (pc' := 59) rfl ?_
              refine GoKit.retNar G d21_59 (t := .boolean) rfl (by simp) (by decide) (by decide) ?_
              exact ⟨rfl, rfl⟩
            · refine GoKit.iloadN G d21_42 rfl (pc' := 43) rfl ?_
              refine GoKit.bipush G (95 : Int32) d21_43 rfl (pc' := 45) rfl ?_
              refine GoKit.icmp_eq G d21_45 (by decide) (pt := 54) (pf := 48) rfl rfl (fun hb18 => ?_) (fun hb18 => ?_)
              · refine GoKit.iconst G (1 : Int32) d21_54 rfl (pc' := 55) rfl ?_
                refine GoKit.goto G d21_55 (by decide) (pc' := 59) rfl ?_
                refine GoKit.retNar G d21_59 (t := .boolean) rfl (by simp) (by decide) (by decide) ?_
                exact ⟨rfl, rfl⟩
              · refine GoKit.iloadN G d21_48 rfl (pc' := 49) rfl ?_
                refine GoKit.bipush G (45 : Int32) d21_49 rfl (pc' := 51) rfl ?_
                refine GoKit.icmp_ne G d21_51 (by decide) (pt := 58) (pf := 54) rfl rfl (fun hb19 => ?_) (fun hb19 => ?_)
                · refine GoKit.iconst G (0 : Int32) d21_58 rfl (pc' := 59) rfl ?_
                  refine GoKit.retNar G d21_59 (t := .boolean) rfl (by simp) (by decide) (by decide) ?_
                  exfalso
                  simp only [Int32.lt_iff_toInt_lt, ← Int32.toInt_inj, show (45 : Int32).toInt = 45 from rfl, show (46 : Int32).toInt = 46 from rfl, show (48 : Int32).toInt = 48 from rfl, show (57 : Int32).toInt = 57 from rfl, show (65 : Int32).toInt = 65 from rfl, show (90 : Int32).toInt = 90 from rfl, show (95 : Int32).toInt = 95 from rfl, show (97 : Int32).toInt = 97 from rfl, show (122 : Int32).toInt = 122 from rfl] at hb1 hb2 hb11 hb12 hb16 hb17 hb18 hb19
                  unfold isNm at H; omega
                · refine GoKit.iconst G (1 : Int32) d21_54 rfl (pc' := 55) rfl ?_
                  refine GoKit.goto G d21_55 (by decide) (pc' := 59) rfl ?_
                  refine GoKit.retNar G d21_59 (t := .boolean) rfl (by simp) (by decide) (by decide) ?_
                  exact ⟨rfl, rfl⟩
  · refine GoKit.iloadN G d21_6 rfl (pc' := 7) rfl ?_
    refine GoKit.bipush G (90 : Int32) d21_7 rfl (pc' := 9) rfl ?_
    refine GoKit.icmp_le G d21_9 (by decide) (pt := 54) (pf := 12) rfl rfl (fun hb20 => ?_) (fun hb20 => ?_)
    · refine GoKit.iconst G (1 : Int32) d21_54 rfl (pc' := 55) rfl ?_
      refine GoKit.goto G d21_55 (by decide) (pc' := 59) rfl ?_
      refine GoKit.retNar G d21_59 (t := .boolean) rfl (by simp) (by decide) (by decide) ?_
      exact ⟨rfl, rfl⟩
    · refine GoKit.iloadN G d21_12 rfl (pc' := 13) rfl ?_
      refine GoKit.bipush G (97 : Int32) d21_13 rfl (pc' := 15) rfl ?_
      refine GoKit.icmp_lt G d21_15 (by decide) (pt := 24) (pf := 18) rfl rfl (fun hb21 => ?_) (fun hb21 => ?_)
      · refine GoKit.iloadN G d21_24 rfl (pc' := 25) rfl ?_
        refine GoKit.bipush G (48 : Int32) d21_25 rfl (pc' := 27) rfl ?_
        refine GoKit.icmp_lt G d21_27 (by decide) (pt := 36) (pf := 30) rfl rfl (fun hb22 => ?_) (fun hb22 => ?_)
        · refine GoKit.iloadN G d21_36 rfl (pc' := 37) rfl ?_
          refine GoKit.bipush G (46 : Int32) d21_37 rfl (pc' := 39) rfl ?_
          refine GoKit.icmp_eq G d21_39 (by decide) (pt := 54) (pf := 42) rfl rfl (fun hb23 => ?_) (fun hb23 => ?_)
          · refine GoKit.iconst G (1 : Int32) d21_54 rfl (pc' := 55) rfl ?_
            refine GoKit.goto G d21_55 (by decide) (pc' := 59) rfl ?_
            refine GoKit.retNar G d21_59 (t := .boolean) rfl (by simp) (by decide) (by decide) ?_
            exact ⟨rfl, rfl⟩
          · refine GoKit.iloadN G d21_42 rfl (pc' := 43) rfl ?_
            refine GoKit.bipush G (95 : Int32) d21_43 rfl (pc' := 45) rfl ?_
            refine GoKit.icmp_eq G d21_45 (by decide) (pt := 54) (pf := 48) rfl rfl (fun hb24 => ?_) (fun hb24 => ?_)
            · refine GoKit.iconst G (1 : Int32) d21_54 rfl (pc' := 55) rfl ?_
              refine GoKit.goto G d21_55 (by decide) (pc' := 59) rfl ?_
              refine GoKit.retNar G d21_59 (t := .boolean) rfl (by simp) (by decide) (by decide) ?_
              exact ⟨rfl, rfl⟩
            · refine GoKit.iloadN G d21_48 rfl (pc' := 49) rfl ?_
              refine GoKit.bipush G (45 : Int32) d21_49 rfl (pc' := 51) rfl ?_
              refine GoKit.icmp_ne G d21_51 (by decide) (pt := 58) (pf := 54) rfl rfl (fun hb25 => ?_) (fun hb25 => ?_)
              · refine GoKit.iconst G (0 : Int32) d21_58 rfl (pc' := 59) rfl ?_
                refine GoKit.retNar G d21_59 (t := .boolean) rfl (by simp) (by decide) (by decide) ?_
                exfalso
                simp only [Int32.lt_iff_toInt_lt, ← Int32.toInt_inj, show (45 : Int32).toInt = 45 from rfl, show (46 : Int32).toInt = 46 from rfl, show (48 : Int32).toInt = 48 from rfl, show (57 : Int32).toInt = 57 from rfl, show (65 : Int32).toInt = 65 from rfl, show (90 : Int32).toInt = 90 from rfl, show (95 : Int32).toInt = 95 from rfl, show (97 : Int32).toInt = 97 from rfl, show (122 : Int32).toInt = 122 from rfl] at hb1 hb20 hb21 hb22 hb23 hb24 hb25
                unfold isNm at H; omega
              · refine GoKit.iconst G (1 : Int32) d21_54 rfl (pc' := 55) rfl ?_
                refine GoKit.goto G d21_55 (by decide) (pc' := 59) rfl ?_
                refine GoKit.retNar G d21_59 (t := .boolean) rfl (by simp) (by decide) (by decide) ?_
                exact ⟨rfl, rfl⟩
        · refine GoKit.iloadN G d21_30 rfl (pc' := 31) rfl ?_
          refine GoKit.bipush G (57 : Int32) d21_31 rfl (pc' := 33) rfl ?_
          refine GoKit.icmp_le G d21_33 (by decide) (pt := 54) (pf := 36) rfl rfl (fun hb26 => ?_) (fun hb26 => ?_)
          · refine GoKit.iconst G (1 : Int32) d21_54 rfl (pc' := 55) rfl ?_
            refine GoKit.goto G d21_55 (by decide) (pc' := 59) rfl ?_
            refine GoKit.retNar G d21_59 (t := .boolean) rfl (by simp) (by decide) (by decide) ?_
            exact ⟨rfl, rfl⟩
          · refine GoKit.iloadN G d21_36 rfl (pc' := 37) rfl ?_
            refine GoKit.bipush G (46 : Int32) d21_37 rfl (pc' := 39) rfl ?_
            refine GoKit.icmp_eq G d21_39 (by decide) (pt := 54) (pf := 42) rfl rfl (fun hb27 => ?_) (fun hb27 => ?_)
            · refine GoKit.iconst G (1 : Int32) d21_54 rfl (pc' := 55) rfl ?_
              refine GoKit.goto G d21_55 (by decide) (pc' := 59) rfl ?_
              refine GoKit.retNar G d21_59 (t := .boolean) rfl (by simp) (by decide) (by decide) ?_
              exact ⟨rfl, rfl⟩
            · refine GoKit.iloadN G d21_42 rfl (pc' := 43) rfl ?_
              refine GoKit.bipush G (95 : Int32) d21_43 rfl (pc' := 45) rfl ?_
              refine GoKit.icmp_eq G d21_45 (by decide) (pt := 54) (pf := 48) rfl rfl (fun hb28 => ?_) (fun hb28 => ?_)
              · refine GoKit.iconst G (1 : Int32) d21_54 rfl (pc' := 55) rfl ?_
                refine GoKit.goto G d21_55 (by decide) (pc' := 59) rfl ?_
                refine GoKit.retNar G d21_59 (t := .boolean) rfl (by simp) (by decide) (by decide) ?_
                exact ⟨rfl, rfl⟩
              · refine GoKit.iloadN G d21_48 rfl (pc' := 49) rfl ?_
                refine GoKit.bipush G (45 : Int32) d21_49 rfl (pc' := 51) rfl ?_
                refine GoKit.icmp_ne G d21_51 (by decide) (pt := 58) (pf := 54) rfl rfl (fun hb29 => ?_) (fun hb29 => ?_)
                · refine GoKit.iconst G (0 : Int32) d21_58 rfl (pc' := 59) rfl ?_
                  refine GoKit.retNar G d21_59 (t := .boolean) rfl (by simp) (by decide) (by decide) ?_
                  exfalso
                  simp only [Int32.lt_iff_toInt_lt, ← Int32.toInt_inj, show (45 : Int32).toInt = 45 from rfl, show (46 : Int32).toInt = 46 from rfl, show (48 : Int32).toInt = 48 from rfl, show (57 : Int32).toInt = 57 from rfl, show (65 : Int32).toInt = 65 from rfl, show (90 : Int32).toInt = 90 from rfl, show (95 : Int32).toInt = 95 from rfl, show (97 : Int32).toInt = 97 from rfl, show (122 : Int32).toInt = 122 from rfl] at hb1 hb20 hb21 hb22 hb26 hb27 hb28 hb29
                  unfold isNm at H; omega
                · refine GoKit.iconst G (1 : Int32) d21_54 rfl (pc' := 55) rfl ?_
                  refine GoKit.goto G d21_55 (by decide) (pc' := 59) rfl ?_
                  refine GoKit.retNar G d21_59 (t := .boolean) rfl (by simp) (by decide) (by decide) ?_
                  exact ⟨rfl, rfl⟩
      · refine GoKit.iloadN G d21_18 rfl (pc' := 19) rfl ?_
        refine GoKit.bipush G (122 : Int32) d21_19 rfl (pc' := 21) rfl ?_
        refine GoKit.icmp_le G d21_21 (by decide) (pt := 54) (pf := 24) rfl rfl (fun hb30 => ?_) (fun hb30 => ?_)
        · refine GoKit.iconst G (1 : Int32) d21_54 rfl (pc' := 55) rfl ?_
          refine GoKit.goto G d21_55 (by decide) (pc' := 59) rfl ?_
          refine GoKit.retNar G d21_59 (t := .boolean) rfl (by simp) (by decide) (by decide) ?_
          exact ⟨rfl, rfl⟩
        · refine GoKit.iloadN G d21_24 rfl (pc' := 25) rfl ?_
          refine GoKit.bipush G (48 : Int32) d21_25 rfl (pc' := 27) rfl ?_
          refine GoKit.icmp_lt G d21_27 (by decide) (pt := 36) (pf := 30) rfl rfl (fun hb31 => ?_) (fun hb31 => ?_)
          · refine GoKit.iloadN G d21_36 rfl (pc' := 37) rfl ?_
            refine GoKit.bipush G (46 : Int32) d21_37 rfl (pc' := 39) rfl ?_
            refine GoKit.icmp_eq G d21_39 (by decide) (pt := 54) (pf := 42) rfl rfl (fun hb32 => ?_) (fun hb32 => ?_)
            · refine GoKit.iconst G (1 : Int32) d21_54 rfl (pc' := 55) rfl ?_
              refine GoKit.goto G d21_55 (by decide) (pc' := 59) rfl ?_
              refine GoKit.retNar G d21_59 (t := .boolean) rfl (by simp) (by decide) (by decide) ?_
              exact ⟨rfl, rfl⟩
            · refine GoKit.iloadN G d21_42 rfl (pc' := 43) rfl ?_
              refine GoKit.bipush G (95 : Int32) d21_43 rfl (pc' := 45) rfl ?_
              refine GoKit.icmp_eq G d21_45 (by decide) (pt := 54) (pf := 48) rfl rfl (fun hb33 => ?_) (fun hb33 => ?_)
              · refine GoKit.iconst G (1 : Int32) d21_54 rfl (pc' := 55) rfl ?_
                refine GoKit.goto G d21_55 (by decide) (pc' := 59) rfl ?_
                refine GoKit.retNar G d21_59 (t := .boolean) rfl (by simp) (by decide) (by decide) ?_
                exact ⟨rfl, rfl⟩
              · refine GoKit.iloadN G d21_48 rfl (pc' := 49) rfl ?_
                refine GoKit.bipush G (45 : Int32) d21_49 rfl (pc' := 51) rfl ?_
                refine GoKit.icmp_ne G d21_51 (by decide) (pt := 58) (pf := 54) rfl rfl (fun hb34 => ?_) (fun hb34 => ?_)
                · refine GoKit.iconst G (0 : Int32) d21_58 rfl (pc' := 59) rfl ?_
                  refine GoKit.retNar G d21_59 (t := .boolean) rfl (by simp) (by decide) (by decide) ?_
                  exfalso
                  simp only [Int32.lt_iff_toInt_lt, ← Int32.toInt_inj, show (45 : Int32).toInt = 45 from rfl, show (46 : Int32).toInt = 46 from rfl, show (48 : Int32).toInt = 48 from rfl, show (57 : Int32).toInt = 57 from rfl, show (65 : Int32).toInt = 65 from rfl, show (90 : Int32).toInt = 90 from rfl, show (95 : Int32).toInt = 95 from rfl, show (97 : Int32).toInt = 97 from rfl, show (122 : Int32).toInt = 122 from rfl] at hb1 hb20 hb21 hb30 hb31 hb32 hb33 hb34
                  unfold isNm at H; omega
                · refine GoKit.iconst G (1 : Int32) d21_54 rfl (pc' := 55) rfl ?_
                  refine GoKit.goto G d21_55 (by decide) (pc' := 59) rfl ?_
                  refine GoKit.retNar G d21_59 (t := .boolean) rfl (by simp) (by decide) (by decide) ?_
                  exact ⟨rfl, rfl⟩
          · refine GoKit.iloadN G d21_30 rfl (pc' := 31) rfl ?_
            refine GoKit.bipush G (57 : Int32) d21_31 rfl (pc' := 33) rfl ?_
            refine GoKit.icmp_le G d21_33 (by decide) (pt := 54) (pf := 36) rfl rfl (fun hb35 => ?_) (fun hb35 => ?_)
            · refine GoKit.iconst G (1 : Int32) d21_54 rfl (pc' := 55) rfl ?_
              refine GoKit.goto G d21_55 (by decide) (pc' := 59) rfl ?_
              refine GoKit.retNar G d21_59 (t := .boolean) rfl (by simp) (by decide) (by decide) ?_
              exact ⟨rfl, rfl⟩
            · refine GoKit.iloadN G d21_36 rfl (pc' := 37) rfl ?_
              refine GoKit.bipush G (46 : Int32) d21_37 rfl (pc' := 39) rfl ?_
              refine GoKit.icmp_eq G d21_39 (by decide) (pt := 54) (pf := 42) rfl rfl (fun hb36 => ?_) (fun hb36 => ?_)
              · refine GoKit.iconst G (1 : Int32) d21_54 rfl (pc' := 55) rfl ?_
                refine GoKit.goto G d21_55 (by decide) (pc' := 59) rfl ?_
                refine GoKit.retNar G d21_59 (t := .boolean) rfl (by simp) (by decide) (by decide) ?_
                exact ⟨rfl, rfl⟩
              · refine GoKit.iloadN G d21_42 rfl (pc' := 43) rfl ?_
                refine GoKit.bipush G (95 : Int32) d21_43 rfl (pc' := 45) rfl ?_
                refine GoKit.icmp_eq G d21_45 (by decide) (pt := 54) (pf := 48) rfl rfl (fun hb37 => ?_) (fun hb37 => ?_)
                · refine GoKit.iconst G (1 : Int32) d21_54 rfl (pc' := 55) rfl ?_
                  refine GoKit.goto G d21_55 (by decide) (pc' := 59) rfl ?_
                  refine GoKit.retNar G d21_59 (t := .boolean) rfl (by simp) (by decide) (by decide) ?_
                  exact ⟨rfl, rfl⟩
                · refine GoKit.iloadN G d21_48 rfl (pc' := 49) rfl ?_
                  refine GoKit.bipush G (45 : Int32) d21_49 rfl (pc' := 51) rfl ?_
                  refine GoKit.icmp_ne G d21_51 (by decide) (pt := 58) (pf := 54) rfl rfl (fun hb38 => ?_) (fun hb38 => ?_)
                  · refine GoKit.iconst G (0 : Int32) d21_58 rfl (pc' := 59) rfl ?_
                    refine GoKit.retNar G d21_59 (t := .boolean) rfl (by simp) (by decide) (by decide) ?_
                    exfalso
                    simp only [Int32.lt_iff_toInt_lt, ← Int32.toInt_inj, show (45 : Int32).toInt = 45 from rfl, show (46 : Int32).toInt = 46 from rfl, show (48 : Int32).toInt = 48 from rfl, show (57 : Int32).toInt = 57 from rfl, show (65 : Int32).toInt = 65 from rfl, show (90 : Int32).toInt = 90 from rfl, show (95 : Int32).toInt = 95 from rfl, show (97 : Int32).toInt = 97 from rfl, show (122 : Int32).toInt = 122 from rfl] at hb1 hb20 hb21 hb30 hb31 hb35 hb36 hb37 hb38
                    unfold isNm at H; omega
                  · refine GoKit.iconst G (1 : Int32) d21_54 rfl (pc' := 55) rfl ?_
                    refine GoKit.goto G d21_55 (by decide) (pc' := 59) rfl ?_
                    refine GoKit.retNar G d21_59 (t := .boolean) rfl (by simp) (by decide) (by decide) ?_
                    exact ⟨rfl, rfl⟩
theorem d12_15 : decode prog_21_method_2_code 15 = .ok (.iload_n 2, 1) := by decide +kernel
theorem d12_16 : decode prog_21_method_2_code 16 = .ok (.ifCond .eq 26, 3) := by decide +kernel
theorem d12_19 : decode prog_21_method_2_code 19 = .ok (.iload_n 3, 1) := by decide +kernel
theorem d12_20 : decode prog_21_method_2_code 20 = .ok (.aload_n 1, 1) := by decide +kernel
theorem d12_21 : decode prog_21_method_2_code 21 = .ok (.invokevirtual 13, 3) := by decide +kernel
theorem pd_9 : parseMethodDescriptor "()I" = some ⟨[], some .int⟩ := by decide +kernel
theorem d12_24 : decode prog_21_method_2_code 24 = .ok (.if_icmp .ge 18, 3) := by decide +kernel
theorem d12_42 : decode prog_21_method_2_code 42 = .ok (.iload_n 2, 1) := by decide +kernel
theorem d12_43 : decode prog_21_method_2_code 43 = .ok (.ifCond .ne 18, 3) := by decide +kernel
theorem d12_61 : decode prog_21_method_2_code 61 = .ok (.aload_n 1, 1) := by decide +kernel
theorem d12_62 : decode prog_21_method_2_code 62 = .ok (.areturn, 1) := by decide +kernel
theorem d12_27 : decode prog_21_method_2_code 27 = .ok (.aload_n 1, 1) := by decide +kernel
theorem d12_28 : decode prog_21_method_2_code 28 = .ok (.iload_n 3, 1) := by decide +kernel
theorem d12_29 : decode prog_21_method_2_code 29 = .ok (.invokevirtual 17, 3) := by decide +kernel
theorem pd_10 : parseMethodDescriptor "(I)C" = some ⟨[.int], some .char⟩ := by decide +kernel
theorem d12_32 : decode prog_21_method_2_code 32 = .ok (.invokestatic 21, 3) := by decide +kernel
theorem pd_11 : parseMethodDescriptor "(C)Z" = some ⟨[.char], some .boolean⟩ := by decide +kernel
theorem d12_35 : decode prog_21_method_2_code 35 = .ok (.istore_n 2, 1) := by decide +kernel
theorem d12_36 : decode prog_21_method_2_code 36 = .ok (.iinc 3 1, 3) := by decide +kernel
theorem d12_39 : decode prog_21_method_2_code 39 = .ok (.goto (-24), 3) := by decide +kernel
theorem d12_0 : decode prog_21_method_2_code 0 = .ok (.aload_n 1, 1) := by decide +kernel
theorem d12_1 : decode prog_21_method_2_code 1 = .ok (.invokevirtual 7, 3) := by decide +kernel
theorem d12_4 : decode prog_21_method_2_code 4 = .ok (.ifCond .ne 7, 3) := by decide +kernel
theorem d12_7 : decode prog_21_method_2_code 7 = .ok (.iconst 1, 1) := by decide +kernel
theorem d12_8 : decode prog_21_method_2_code 8 = .ok (.goto 4, 3) := by decide +kernel
theorem d12_12 : decode prog_21_method_2_code 12 = .ok (.istore_n 2, 1) := by decide +kernel
theorem d12_13 : decode prog_21_method_2_code 13 = .ok (.iconst 0, 1) := by decide +kernel
theorem d12_14 : decode prog_21_method_2_code 14 = .ok (.istore_n 3, 1) := by decide +kernel
abbrev rm_con_check : Room := { frames := 4, cells := 0, slots := 0, locals := 53 }
set_option maxRecDepth 65536 in
set_option maxHeartbeats 40000000 in
theorem con_check (l : Launch) {Z : State} {a0 : Array Value} (hw : ∀ d ∈ tables_1, d.before a0 Z = true) {n0 : Nat} {h0 : Heap} {t a : Addr} {cs : List Int32} (S : Lat Z h0 a cs) (hne : cs ≠ []) (hall : ∀ c ∈ cs, isNm c) (HC : Cst Z) (HF : Frm Z) :
    Con l Z false ELs n0 (⟨"com/example/realmwarden/realmwarden/permission/Name", "check", "(Ljava/lang/String;Ljava/lang/String;)Ljava/lang/String;"⟩ : MethodName) prog_21_method_2_code 4 (some (.object "java/lang/String")) rm_con_check [] #[(.ref t), (.ref a)] h0 [] (fun v h => v = some (.ref a) ∧ h = h0) := by
  refine Con.intro (plainFor_of_name pn_com_example_realmwarden_realmwarden_permission_Name) (hELs hw) ?_
  intro p e s m below meth c hh G
  refine castRun (g' := mkF m 0 #[.val (.ref t), .val (.ref a), .unset, .unset] []) (by first | rfl | (simp [entryFrame, mkF, argsToLocals, Value.category, maxLocals]; done)) ?_
  have hl : cs.length < 2 ^ 31 := by obtain ⟨-, ⟨b, -, -, A⟩, -⟩ := S; have := A.len; simpa using this
  have loop : ∀ (k i : Nat), i + k = cs.length →
      Run p l e rm_con_check s m #[.ref t, .ref a] below meth c Z false ELs n0 [] (fun v h => v = some (.ref a) ∧ h = h0) h0 [] 0 0 (mkF m 15 #[.val (.ref t), .val (.ref a), .val (.int 1), .val (.int i.toInt32)] []) := by
    intro k; induction k with
    | zero =>
      intro i hik
      have hi : i = cs.length := by omega
      subst hi
      refine GoKit.iloadN G d12_15 rfl (pc' := 16) rfl ?_
      refine GoKit.if_eq_f G d12_16 (by decide) (pc' := 19) rfl ?_
      refine GoKit.iloadN G d12_19 rfl (pc' := 20) rfl ?_
      refine GoKit.aloadN G d12_20 rfl rfl (pc' := 21) rfl ?_
      refine GoKit.callVirtualP G d12_21 (wi hw 58 rfl) (wi hw 59 rfl) (wi hw 61 rfl) (wi hw 60 rfl) (wi hw 8 rfl) (wi hw 62 rfl) (by decide) S.1 (W := 1) (argsL := []) (rest := [(.int cs.length.toInt32)]) (con_strlen l hw S HC) rfl (lenOf pd_9 rfl) rfl (by decide) (Nat.le_of_eq rfl) (by decide) (by decide) (by decide) (cells' := 0) (slots' := 0) rfl rfl (pc' := 24) rfl ?_
      show Run _ _ _ _ _ _ _ _ _ _ _ _ _ _ _ _ _ _ _ _ (mkF m 24 #[.val (.ref t), .val (.ref a), .val (.int 1), .val (.int cs.length.toInt32)] [(.int (cs).length.toInt32), (.int cs.length.toInt32)])
      refine GoKit.icmp_ge_t G d12_24 Int32.lt_irrefl (by decide) (pc' := 42) rfl ?_
      refine GoKit.iloadN G d12_42 rfl (pc' := 43) rfl ?_
      refine GoKit.if_ne_t G d12_43 (by decide) (by decide) (pc' := 61) rfl ?_
      refine GoKit.aloadN G d12_61 rfl rfl (pc' := 62) rfl ?_
      refine GoKit.retRef G d12_62 rfl rfl rfl (by decide) (by decide) ?_
      exact ⟨rfl, rfl⟩
    | succ k ih =>
      intro i hik
      have hi : i < cs.length := by omega
      obtain ⟨ch, hch⟩ : ∃ ch, cs[i]? = some ch := ⟨cs[i], List.getElem?_eq_getElem hi⟩
      refine GoKit.iloadN G d12_15 rfl (pc' := 16) rfl ?_
      refine GoKit.if_eq_f G d12_16 (by decide) (pc' := 19) rfl ?_
      refine GoKit.iloadN G d12_19 rfl (pc' := 20) rfl ?_
      refine GoKit.aloadN G d12_20 rfl rfl (pc' := 21) rfl ?_
      refine GoKit.callVirtualP G d12_21 (wi hw 58 rfl) (wi hw 59 rfl) (wi hw 61 rfl) (wi hw 60 rfl) (wi hw 8 rfl) (wi hw 62 rfl) (by decide) S.1 (W := 1) (argsL := []) (rest := [(.int i.toInt32)]) (con_strlen l hw S HC) rfl (lenOf pd_9 rfl) rfl (by decide) (Nat.le_of_eq rfl) (by decide) (by decide) (by decide) (cells' := 0) (slots' := 0) rfl rfl (pc' := 24) rfl ?_
      show Run _ _ _ _ _ _ _ _ _ _ _ _ _ _ _ _ _ _ _ _ (mkF m 24 #[.val (.ref t), .val (.ref a), .val (.int 1), .val (.int i.toInt32)] [(.int (cs).length.toInt32), (.int i.toInt32)])
      refine GoKit.icmp_ge_f G d12_24 ((toI_lt (by omega) (by omega)).mpr hi) (pc' := 27) rfl ?_
      refine GoKit.aloadN G d12_27 rfl rfl (pc' := 28) rfl ?_
      refine GoKit.iloadN G d12_28 rfl (pc' := 29) rfl ?_
      refine GoKit.callVirtualP G d12_29 (wi hw 68 rfl) (wi hw 69 rfl) (wi hw 71 rfl) (wi hw 70 rfl) (wi hw 8 rfl) (wi hw 72 rfl) (by decide) S.1 (W := 0) (argsL := [(.int i.toInt32)]) (rest := []) (con_charAt l hw S HC hch HF) rfl (lenOf pd_10 rfl) rfl (by decide) (Nat.le_of_eq rfl) (by decide) (by decide) (by decide) (cells' := 0) (slots' := 0) rfl rfl (pc' := 32) rfl ?_
      show Run _ _ _ _ _ _ _ _ _ _ _ _ _ _ _ _ _ _ _ _ (mkF m 32 #[.val (.ref t), .val (.ref a), .val (.int 1), .val (.int i.toInt32)] [(.int ch)])
      refine GoKit.callStaticP G d12_32 (wi hw 89 rfl) (wi hw 90 rfl) (wi hw 51 rfl) (wi hw 91 rfl) (by decide) (W := 0) (argsL := [(.int ch)]) (rest := []) (con_isNm l hw (hall ch (List.mem_of_getElem? hch))) rfl (lenOf pd_11 rfl) rfl (by decide) (Nat.le_of_eq rfl) (by decide) (by decide) (by decide) (cells' := 0) (slots' := 0) rfl rfl (pc' := 35) rfl ?_
      show Run _ _ _ _ _ _ _ _ _ _ _ _ _ _ _ _ _ _ _ _ (mkF m 35 #[.val (.ref t), .val (.ref a), .val (.int 1), .val (.int i.toInt32)] [(.int 1)])
      refine GoKit.istoreN G d12_35 (Ls' := #[.val (.ref t), .val (.ref a), .val (.int 1), .val (.int i.toInt32)]) rfl (pc' := 36) rfl ?_
      refine GoKit.iinc G (1 : Int32) d12_36 rfl rfl (Ls' := #[.val (.ref t), .val (.ref a), .val (.int 1), .val (.int (i.toInt32 + (1 : Int32)))]) rfl (pc' := 39) rfl ?_
      generalize hqv1 : (i.toInt32 + (1 : Int32)) = v1
      refine GoKit.goto G d12_39 (by decide) (pc' := 15) rfl ?_
      rw [toI_succ] at hqv1; subst hqv1
      exact ih (i + 1) (by omega)
  refine GoKit.aloadN G d12_0 rfl rfl (pc' := 1) rfl ?_
  refine GoKit.callVirtualP G d12_1 (wi hw 53 rfl) (wi hw 54 rfl) (wi hw 56 rfl) (wi hw 55 rfl) (wi hw 8 rfl) (wi hw 57 rfl) (by decide) S.1 (W := 0) (argsL := []) (rest := []) (con_isEmptyNo l hw S hne) rfl (lenOf pd_7 rfl) rfl (by decide) (Nat.le_of_eq rfl) (by decide) (by decide) (by decide) (cells' := 0) (slots' := 0) rfl rfl (pc' := 4) rfl ?_
  show Run _ _ _ _ _ _ _ _ _ _ _ _ _ _ _ _ _ _ _ _ (mkF m 4 #[.val (.ref t), .val (.ref a), .unset, .unset] [(.int 0)])
  refine GoKit.if_ne_f G d12_4 (by decide) (pc' := 7) rfl ?_
  refine GoKit.iconst G (1 : Int32) d12_7 rfl (pc' := 8) rfl ?_
  refine GoKit.goto G d12_8 (by decide) (pc' := 12) rfl ?_
  refine GoKit.istoreN G d12_12 (Ls' := #[.val (.ref t), .val (.ref a), .val (.int (1 : Int32)), .unset]) rfl (pc' := 13) rfl ?_
  refine GoKit.iconst G (0 : Int32) d12_13 rfl (pc' := 14) rfl ?_
  refine GoKit.istoreN G d12_14 (Ls' := #[.val (.ref t), .val (.ref a), .val (.int (1 : Int32)), .val (.int (0 : Int32))]) rfl (pc' := 15) rfl ?_
  exact loop cs.length 0 (by omega)
theorem d9_0 : decode jdk_43_method_3_code 0 = .ok (.iload_n 0, 1) := by decide +kernel
theorem d9_1 : decode jdk_43_method_3_code 1 = .ok (.sipush 255, 3) := by decide +kernel
theorem d9_4 : decode jdk_43_method_3_code 4 = .ok (.if_icmp .gt 7, 3) := by decide +kernel
theorem d9_7 : decode jdk_43_method_3_code 7 = .ok (.iconst 1, 1) := by decide +kernel
theorem d9_8 : decode jdk_43_method_3_code 8 = .ok (.goto 4, 3) := by decide +kernel
theorem d9_12 : decode jdk_43_method_3_code 12 = .ok (.ireturn, 1) := by decide +kernel
abbrev rm_con_canEnc : Room := { frames := 0, cells := 0, slots := 0, locals := 0 }
set_option maxRecDepth 65536 in
set_option maxHeartbeats 40000000 in
theorem con_canEnc (l : Launch) {Z : State} {a0 : Array Value} (hw : ∀ d ∈ tables_1, d.before a0 Z = true) {n0 : Nat} {h0 : Heap} {x : Int32} (hx : 0 ≤ x.toInt ∧ x.toInt < 256) :
    Con l Z false ELs n0 (⟨"java/lang/StringLatin1", "canEncode", "(C)Z"⟩ : MethodName) jdk_43_method_3_code 1 (some .boolean) rm_con_canEnc [] #[(.int x)] h0 [] (fun v h => v = some (.int 1) ∧ h = h0) := by
  refine Con.intro (plainFor_of_name pn_java_lang_StringLatin1) (hELs hw) ?_
  intro p e s m below meth c hh G
  refine castRun (g' := mkF m 0 #[.val (.int x)] []) (by first | rfl | (simp [entryFrame, mkF, argsToLocals, Value.category, maxLocals]; done)) ?_
  refine GoKit.iloadN G d9_0 rfl (pc' := 1) rfl ?_
  refine GoKit.sipush G (255 : Int32) d9_1 rfl (pc' := 4) rfl ?_
  refine GoKit.icmp_gt_f G d9_4 (lat_le hx) (pc' := 7) rfl ?_
  refine GoKit.iconst G (1 : Int32) d9_7 rfl (pc' := 8) rfl ?_
  refine GoKit.goto G d9_8 (by decide) (pc' := 12) rfl ?_
  refine GoKit.retNar G d9_12 (t := .boolean) rfl (by simp) (by decide) (by decide) ?_
  exact ⟨rfl, rfl⟩
theorem d10_0 : decode jdk_43_method_46_code 0 = .ok (.iconst 1, 1) := by decide +kernel
theorem d10_1 : decode jdk_43_method_46_code 1 = .ok (.newarray .byte, 2) := by decide +kernel
theorem d10_3 : decode jdk_43_method_46_code 3 = .ok (.dup, 1) := by decide +kernel
theorem d10_4 : decode jdk_43_method_46_code 4 = .ok (.iconst 0, 1) := by decide +kernel
theorem d10_5 : decode jdk_43_method_46_code 5 = .ok (.iload_n 0, 1) := by decide +kernel
theorem d10_6 : decode jdk_43_method_46_code 6 = .ok (.i2b, 1) := by decide +kernel
theorem d10_7 : decode jdk_43_method_46_code 7 = .ok (.bastore, 1) := by decide +kernel
theorem d10_8 : decode jdk_43_method_46_code 8 = .ok (.areturn, 1) := by decide +kernel
abbrev rm_con_toBytes : Room := { frames := 0, cells := 1, slots := 1, locals := 0 }
set_option maxRecDepth 65536 in
set_option maxHeartbeats 40000000 in
theorem con_toBytes (l : Launch) {Z : State} {a0 : Array Value} (hw : ∀ d ∈ tables_1, d.before a0 Z = true) {n0 : Nat} {h0 : Heap} (x : Int32) :
    Con l Z false ELs n0 (⟨"java/lang/StringLatin1", "toBytes", "(C)[B"⟩ : MethodName) jdk_43_method_46_code 1 (some (.array .byte)) rm_con_toBytes [] #[(.int x)] h0 [] (fun v h => ∃ d, v = some (.ref d)) := by
  refine Con.intro (plainFor_of_name pn_java_lang_StringLatin1) (hELs hw) ?_
  intro p e s m below meth c hh G
  refine castRun (g' := mkF m 0 #[.val (.int x)] []) (by first | rfl | (simp [entryFrame, mkF, argsToLocals, Value.category, maxLocals]; done)) ?_
  refine GoKit.iconst G (1 : Int32) d10_0 rfl (pc' := 1) rfl ?_
  refine GoKit.newbI G d10_1 (wi hw 24 rfl) (by decide) (k := 1) (cap := 1) rfl (Nat.le_refl _) (by decide) (by decide) (by decide) (cells' := 1) (slots' := 1) rfl rfl (pc' := 3) rfl (fun h4 a1 ga1 E2 A3 => ?_)
  refine GoKit.dup G d10_3 rfl (pc' := 4) rfl ?_
  refine GoKit.iconst G (0 : Int32) d10_4 rfl (pc' := 5) rfl ?_
  refine GoKit.iloadN G d10_5 rfl (pc' := 6) rfl ?_
  refine GoKit.i2b G d10_6 (pc' := 7) rfl (fun v5 hqv5 => ?_)
  refine GoKit.bastI G d10_7 A3 (i := 0) rfl (by decide) (Nat.le_of_ble_eq_true rfl) rfl (List.Mem.head _) (pc' := 8) rfl (fun h8 W6 A7 => ?_)
  change IA Z h8 a1 .byte [(nar .byte v5)] at A7
  refine GoKit.retRef G d10_8 rfl rfl rfl (by decide) (by decide) ?_
  exact ⟨_, rfl⟩
theorem d11_0 : decode jdk_42_method_151_code 0 = .ok (.aload_n 0, 1) := by decide +kernel
theorem d11_1 : decode jdk_42_method_151_code 1 = .ok (.invokespecial 1, 3) := by decide +kernel
theorem d11_4 : decode jdk_42_method_151_code 4 = .ok (.aload_n 0, 1) := by decide +kernel
theorem d11_5 : decode jdk_42_method_151_code 5 = .ok (.aload_n 1, 1) := by decide +kernel
theorem d11_6 : decode jdk_42_method_151_code 6 = .ok (.putfield 9, 3) := by decide +kernel
theorem d11_9 : decode jdk_42_method_151_code 9 = .ok (.aload_n 0, 1) := by decide +kernel
theorem d11_10 : decode jdk_42_method_151_code 10 = .ok (.iload_n 2, 1) := by decide +kernel
theorem d11_11 : decode jdk_42_method_151_code 11 = .ok (.putfield 15, 3) := by decide +kernel
theorem d11_14 : decode jdk_42_method_151_code 14 = .ok (.return_, 1) := by decide +kernel
abbrev rm_con_strBB : Room := { frames := 1, cells := 0, slots := 0, locals := 12 }
set_option maxRecDepth 65536 in
set_option maxHeartbeats 40000000 in
theorem con_strBB (l : Launch) {Z : State} {a0 : Array Value} (hw : ∀ d ∈ tables_1, d.before a0 Z = true) {n0 : Nat} {h0 : Heap} {a d : Addr} (E : Exa Z h0 a "java/lang/String") (FV : Fld Z h0 a "java/lang/String" "value" "[B" .null) (FC : Fld Z h0 a "java/lang/String" "coder" "B" (.int 0)) :
    Con l Z false ELs n0 (⟨"java/lang/String", "<init>", "([BB)V"⟩ : MethodName) jdk_42_method_151_code 3 none rm_con_strBB [] #[(.ref a), (.ref d), (.int 0)] h0 [a] (fun v h => v = none) := by
  refine Con.intro (plainFor_of_name pn_java_lang_String) (hELs hw) ?_
  intro p e s m below meth c hh G
  refine castRun (g' := mkF m 0 #[.val (.ref a), .val (.ref d), .val (.int 0)] []) (by first | rfl | (simp [entryFrame, mkF, argsToLocals, Value.category, maxLocals]; done)) ?_
  refine GoKit.aloadN G d11_0 rfl rfl (pc' := 1) rfl ?_
  refine GoKit.initObj G d11_1 (wi hw 16 rfl) (wi hw 17 rfl) (wi hw 18 rfl) rfl (by decide) (W := 0) (Nat.le_of_eq rfl) (by decide) (pc' := 4) rfl ?_
  refine GoKit.aloadN G d11_4 rfl rfl (pc' := 5) rfl ?_
  refine GoKit.aloadN G d11_5 rfl rfl (pc' := 6) rfl ?_
  refine GoKit.putf G d11_6 (wi hw 33 rfl) Via.refl FV E (Or.inr ⟨(wi hw 34 rfl), rfl, rfl⟩) (wi hw 7 rfl) (ty := (.array .byte)) (by decide) rfl rfl (List.Mem.head _) (pc' := 9) rfl (fun h2 W1 => ?_)
  have F3 := (FV).same W1
  refine GoKit.aloadN G d11_9 rfl rfl (pc' := 10) rfl ?_
  refine GoKit.iloadN G d11_10 rfl (pc' := 11) rfl ?_
  refine GoKit.putf G d11_11 (wi hw 31 rfl) Via.refl (FC.other W1 (Or.inr (slot_ne (Or.inr (wi hw 32 rfl)) (Or.inr (wi hw 34 rfl)) (by decide) (by decide : _ = some .byte) (by decide : _ = some (.array .byte))))) (E.wr W1) (Or.inr ⟨(wi hw 32 rfl), rfl, rfl⟩) (wi hw 7 rfl) (ty := .byte) (by decide) rfl rfl (List.Mem.head _) (pc' := 14) rfl (fun h5 W4 => ?_)
  have F6 := ((FC.other W1 (Or.inr (slot_ne (Or.inr (wi hw 32 rfl)) (Or.inr (wi hw 34 rfl)) (by decide) (by decide : _ = some .byte) (by decide : _ = some (.array .byte)))))).same W4
  refine GoKit.retVoid G d11_14 rfl (by decide) (by decide) ?_
  exact rfl
theorem d8_0 : decode jdk_42_method_139_code 0 = .ok (.getstatic 38, 3) := by decide +kernel
theorem d8_3 : decode jdk_42_method_139_code 3 = .ok (.ifCond .eq 23, 3) := by decide +kernel
theorem d8_6 : decode jdk_42_method_139_code 6 = .ok (.iload_n 0, 1) := by decide +kernel
theorem d8_7 : decode jdk_42_method_139_code 7 = .ok (.invokestatic 1015, 3) := by decide +kernel
theorem d8_10 : decode jdk_42_method_139_code 10 = .ok (.ifCond .eq 16, 3) := by decide +kernel
theorem d8_13 : decode jdk_42_method_139_code 13 = .ok (.new 10, 3) := by decide +kernel
theorem d8_16 : decode jdk_42_method_139_code 16 = .ok (.dup, 1) := by decide +kernel
theorem d8_17 : decode jdk_42_method_139_code 17 = .ok (.iload_n 0, 1) := by decide +kernel
theorem d8_18 : decode jdk_42_method_139_code 18 = .ok (.invokestatic 1018, 3) := by decide +kernel
theorem pd_12 : parseMethodDescriptor "(C)[B" = some ⟨[.char], some (.array .byte)⟩ := by decide +kernel
theorem d8_21 : decode jdk_42_method_139_code 21 = .ok (.iconst 0, 1) := by decide +kernel
theorem d8_22 : decode jdk_42_method_139_code 22 = .ok (.invokespecial 209, 3) := by decide +kernel
theorem pd_13 : parseMethodDescriptor "([BB)V" = some ⟨[(.array .byte), .byte], none⟩ := by decide +kernel
theorem d8_25 : decode jdk_42_method_139_code 25 = .ok (.areturn, 1) := by decide +kernel
abbrev rm_con_valueOf : Room := { frames := 2, cells := 2, slots := 5, locals := 27 }
set_option maxRecDepth 65536 in
set_option maxHeartbeats 40000000 in
theorem con_valueOf (l : Launch) {Z : State} {a0 : Array Value} (hw : ∀ d ∈ tables_1, d.before a0 Z = true) {n0 : Nat} {h0 : Heap} {x : Int32} (hx : 0 ≤ x.toInt ∧ x.toInt < 256) (HC : Cst Z) :
    Con l Z false ELs n0 (⟨"java/lang/String", "valueOf", "(C)Ljava/lang/String;"⟩ : MethodName) jdk_42_method_139_code 1 (some (.object "java/lang/String")) rm_con_valueOf [] #[(.int x)] h0 [] (fun v h => ∃ a, v = some (.ref a)) := by
  refine Con.intro (plainFor_of_name pn_java_lang_String) (hELs hw) ?_
  intro p e s m below meth c hh G
  refine castRun (g' := mkF m 0 #[.val (.int x)] []) (by first | rfl | (simp [entryFrame, mkF, argsToLocals, Value.category, maxLocals]; done)) ?_
  obtain ⟨cz, SC, hcz⟩ := id HC
  refine GoKit.gets G d8_0 (wi hw 19 rfl) Via.refl SC (pc' := 3) rfl ?_
  refine GoKit.if_eq_f G d8_3 hcz (pc' := 6) rfl ?_
  refine GoKit.iloadN G d8_6 rfl (pc' := 7) rfl ?_
  refine GoKit.callStaticP G d8_7 (wi hw 38 rfl) (wi hw 39 rfl) (wi hw 40 rfl) (wi hw 41 rfl) (by decide) (W := 0) (argsL := [(.int x)]) (rest := []) (con_canEnc l hw hx) rfl (lenOf pd_11 rfl) rfl (by decide) (Nat.le_of_eq rfl) (by decide) (by decide) (by decide) (cells' := 0) (slots' := 0) rfl rfl (pc' := 10) rfl ?_
  show Run _ _ _ _ _ _ _ _ _ _ _ _ _ _ _ _ _ _ _ _ (mkF m 10 #[.val (.int x)] [(.int 1)])
  refine GoKit.if_eq_f G d8_10 (by decide) (pc' := 13) rfl ?_
  refine GoKit.newobj G d8_13 (wi hw 42 rfl) (wi hw 7 rfl) (wi hw 8 rfl) (by decide) (by decide) (cells' := 1) (slots' := 4) rfl rfl (pc' := 16) rfl (fun h5 a1 ga1 E2 X3 D4 => ?_)
  have F6 : Fld Z h5 a1 "java/lang/String" "coder" "B" (.int 0) := D4 (Or.inr (wi hw 32 rfl)) (ty := .byte) (by decide)
  have F7 : Fld Z h5 a1 "java/lang/String" "value" "[B" .null := D4 (Or.inr (wi hw 34 rfl)) (ty := (.array .byte)) (by decide)
  refine GoKit.dup G d8_16 rfl (pc' := 17) rfl ?_
  refine GoKit.iloadN G d8_17 rfl (pc' := 18) rfl ?_
  refine GoKit.callStatic G d8_18 (wi hw 43 rfl) (wi hw 44 rfl) (wi hw 40 rfl) (wi hw 45 rfl) (by decide) (owc := []) (W := 2) (argsL := [(.int x)]) (rest := [(.ref a1), (.ref a1)]) (con_toBytes l hw x) rfl (lenOf pd_12 rfl) rfl (by decide) (Nat.le_of_eq rfl) (by decide) (by decide) (by decide) (fun _ q => nomatch q) (cells' := 2) (slots' := 5) rfl rfl (pc' := 21) rfl (fun r8 h11 q9 K10 => ?_)
  obtain ⟨d12, rfl⟩ := q9
  show Run _ _ _ _ _ _ _ _ _ _ _ _ _ _ _ _ _ _ _ _ (mkF m 21 #[.val (.int x)] [(.ref d12), (.ref a1), (.ref a1)])
  refine GoKit.iconst G (0 : Int32) d8_21 rfl (pc' := 22) rfl ?_
  refine GoKit.callSpecial G d8_22 rfl (wi hw 46 rfl) (wi hw 47 rfl) (wi hw 8 rfl) (wi hw 48 rfl) (by decide) (owc := [a1]) (W := 1) (argsL := [(.ref d12), (.int (0 : Int32))]) (rest := [(.ref a1)]) (con_strBB l hw (X3.keep K10) (F7.keep K10 nin0) (F6.keep K10 nin0)) rfl (lenOf pd_13 rfl) rfl (by decide) (Nat.le_of_eq rfl) (by decide) (by decide) (by decide) (by intro x hx; simp only [List.mem_cons, List.not_mem_nil, or_false] at hx ⊢; simp [hx]) (cells' := 2) (slots' := 5) rfl rfl (pc' := 25) rfl (fun r13 h16 q14 K15 => ?_)
  obtain rfl := q14
  show Run _ _ _ _ _ _ _ _ _ _ _ _ _ _ _ _ _ _ _ _ (mkF m 25 #[.val (.int x)] [(.ref a1)])
  refine GoKit.retRef G d8_25 rfl rfl rfl (by decide) (by decide) ?_
  exact ⟨_, rfl⟩
theorem pd_14 : parseMethodDescriptor "([C)V" = some ⟨[(.array .char)], none⟩ := by decide +kernel
theorem pd_15 : parseMethodDescriptor "(C)Ljava/lang/String;" = some ⟨[.char], some (.object "java/lang/String")⟩ := by decide +kernel
theorem pd_16 : parseMethodDescriptor "(Ljava/lang/String;Ljava/lang/String;)Ljava/lang/String;" = some ⟨[(.object "java/lang/String"), (.object "java/lang/String")], some (.object "java/lang/String")⟩ := by decide +kernel
theorem pd_17 : parseMethodDescriptor "(Ljava/lang/Object;)Z" = some ⟨[(.object "java/lang/Object")], some .boolean⟩ := by decide +kernel
set_option maxRecDepth 65536 in
set_option maxHeartbeats 40000000 in
theorem con_law (l : Launch) {Z : State} {a0 : Array Value} (hw : ∀ d ∈ tables_1, d.before a0 Z = true) {n0 : Nat} {h0 : Heap} (p0 : Int32) (p1 : Int32) (p2 : Int32) (p3 : Int32) (p4 : Int32) (p5 : Int32) (HC : Cst Z) (HF : Frm Z) :
    Con l Z false ELs n0 x code maxLocals ret room_1 tables_1 #[(.int p0), (.int p1), (.int p2), (.int p3), (.int p4), (.int p5)] h0 [] (fun v h => v = some (.int 1)) := by
  refine Con.intro (plainFor_of_name pn_com_example_realmwarden_realmwarden_permission_NameCheckPinLaw) (hELs hw) ?_
  intro p e s m below meth c hh G
  refine castRun (g' := mkF m 0 #[.val (.int p0), .val (.int p1), .val (.int p2), .val (.int p3), .val (.int p4), .val (.int p5), .unset, .unset, .unset, .unset, .unset] []) (by first | rfl | (simp [entryFrame, mkF, argsToLocals, Value.category, maxLocals]; done)) ?_
  refine GoKit.iconst G (1 : Int32) at_0 rfl (pc' := 1) rfl ?_
  refine GoKit.iloadN G at_1 rfl (pc' := 2) rfl ?_
  refine GoKit.iconst G (3 : Int32) at_2 rfl (pc' := 3) rfl ?_
  refine GoKit.iand G at_3 (pc' := 4) rfl (fun v1 hqv1 => ?_)
  rcases cases4 (v := v1) (by rw [hqv1]; have := and_rng p0 3 3 rfl (by decide); omega) with rfl | rfl | rfl | rfl
  · refine GoKit.iadd G at_4 (pc' := 5) rfl (fun v2 hqv2 => ?_)
    obtain rfl : v2 = (1 : Int32) := by rw [hqv2]; rfl
    refine GoKit.istore G at_5 (Ls' := #[.val (.int p0), .val (.int p1), .val (.int p2), .val (.int p3), .val (.int p4), .val (.int p5), .val (.int (1 : Int32)), .unset, .unset, .unset, .unset]) rfl (pc' := 7) rfl ?_
    refine GoKit.iload G at_7 rfl (pc' := 9) rfl ?_
    refine GoKit.newcI G at_9 (wi hw 0 rfl) (by decide) (k := 1) (cap := 1) rfl (Nat.le_refl _) (by decide) (by decide) (by decide) (cells' := 1) (slots' := 1) rfl rfl (pc' := 11) rfl (fun h6 a3 ga3 E4 A5 => ?_)
    refine GoKit.astore G at_11 rfl (Ls' := #[.val (.int p0), .val (.int p1), .val (.int p2), .val (.int p3), .val (.int p4), .val (.int p5), .val (.int (1 : Int32)), .val (.ref a3), .unset, .unset, .unset]) rfl (pc' := 13) rfl ?_
    refine GoKit.aload G at_13 rfl rfl (pc' := 15) rfl ?_
    refine GoKit.iconst G (0 : Int32) at_15 rfl (pc' := 16) rfl ?_
    refine GoKit.iloadN G at_16 rfl (pc' := 17) rfl ?_
    refine GoKit.callStatic G at_17 (wi hw 1 rfl) (wi hw 2 rfl) (wi hw 3 rfl) (wi hw 4 rfl) (by decide) (owc := []) (W := 2) (argsL := [(.int p1)]) (rest := [(.int (0 : Int32)), (.ref a3)]) (con_nameChar l hw p1) rfl (lenOf pd_10 rfl) rfl (by decide) (Nat.le_of_eq rfl) (by decide) (by decide) (by decide) (fun _ q => nomatch q) (cells' := 1) (slots' := 1) rfl rfl (pc' := 20) rfl (fun r7 h10 q8 K9 => ?_)
    obtain ⟨ch11, rfl, H12⟩ := q8
    show Run _ _ _ _ _ _ _ _ _ _ _ _ _ _ _ _ _ _ _ _ (mkF m 20 #[.val (.int p0), .val (.int p1), .val (.int p2), .val (.int p3), .val (.int p4), .val (.int p5), .val (.int (1 : Int32)), .val (.ref a3), .unset, .unset, .unset] [(.int ch11), (.int (0 : Int32)), (.ref a3)])
    refine GoKit.castI G at_20 (A5.keep K9 nin0) (i := 0) rfl (by decide) (Nat.le_of_ble_eq_true rfl) (lat_nar (isNm_lat H12)) (List.Mem.head _) (pc' := 21) rfl (fun h15 W13 A14 => ?_)
    change IA Z h15 a3 .char [ch11] at A14
    refine GoKit.iload G at_21 rfl (pc' := 23) rfl ?_
    refine GoKit.iconst G (1 : Int32) at_23 rfl (pc' := 24) rfl ?_
    refine GoKit.icmp_le_t G at_24 (by decide) (by decide) (pc' := 35) rfl ?_
    refine GoKit.iload G at_35 rfl (pc' := 37) rfl ?_
    refine GoKit.iconst G (2 : Int32) at_37 rfl (pc' := 38) rfl ?_
    refine GoKit.icmp_le_t G at_38 (by decide) (by decide) (pc' := 49) rfl ?_
    refine GoKit.iload G at_49 rfl (pc' := 51) rfl ?_
    refine GoKit.iconst G (3 : Int32) at_51 rfl (pc' := 52) rfl ?_
    refine GoKit.icmp_le_t G at_52 (by decide) (by decide) (pc' := 64) rfl ?_
    refine GoKit.newobj G at_64 (wi hw 6 rfl) (wi hw 7 rfl) (wi hw 8 rfl) (by decide) (by decide) (cells' := 2) (slots' := 5) rfl rfl (pc' := 67) rfl (fun h20 a16 ga16 E17 X18 D19 => ?_)
    have F21 : Fld Z h20 a16 "java/lang/String" "coder" "B" (.int 0) := D19 (Or.inr (wi hw 32 rfl)) (ty := .byte) (by decide)
    have F22 : Fld Z h20 a16 "java/lang/String" "value" "[B" .null := D19 (Or.inr (wi hw 34 rfl)) (ty := (.array .byte)) (by decide)
    refine GoKit.dup G at_67 rfl (pc' := 68) rfl ?_
    refine GoKit.aload G at_68 rfl rfl (pc' := 70) rfl ?_
    have hl23 : ∀ c ∈ ([ch11] : List Int32), 0 ≤ c.toInt ∧ c.toInt < 256 := by
      intro c hc
      simp only [List.mem_cons, List.not_mem_nil, or_false] at hc
      rcases hc with rfl
      · exact (isNm_lat H12)
    refine GoKit.callSpecial G at_70 rfl (wi hw 9 rfl) (wi hw 10 rfl) (wi hw 8 rfl) (wi hw 11 rfl) (by decide) (owc := [a16]) (W := 1) (argsL := [(.ref a3)]) (rest := [(.ref a16)]) (con_strInit l hw X18 F22 F21 (A14.ext E17) (Nat.le_of_ble_eq_true rfl) hl23 (by simp) HC) rfl (lenOf pd_14 rfl) rfl (by decide) (Nat.le_of_eq rfl) (by decide) (by decide) (by decide) (by intro x hx; simp only [List.mem_cons, List.not_mem_nil, or_false] at hx ⊢; simp [hx]) (cells' := 3) (slots' := 9) rfl rfl (pc' := 73) rfl (fun r24 h27 q25 K26 => ?_)
    obtain ⟨rfl, S28⟩ := q25
    show Run _ _ _ _ _ _ _ _ _ _ _ _ _ _ _ _ _ _ _ _ (mkF m 73 #[.val (.int p0), .val (.int p1), .val (.int p2), .val (.int p3), .val (.int p4), .val (.int p5), .val (.int (1 : Int32)), .val (.ref a3), .unset, .unset, .unset] [(.ref a16)])
    refine GoKit.astore G at_73 rfl (Ls' := #[.val (.int p0), .val (.int p1), .val (.int p2), .val (.int p3), .val (.int p4), .val (.int p5), .val (.int (1 : Int32)), .val (.ref a3), .val (.ref a16), .unset, .unset]) rfl (pc' := 75) rfl ?_
    refine GoKit.iload G at_75 rfl (pc' := 77) rfl ?_
    refine GoKit.sipush G (255 : Int32) at_77 rfl (pc' := 80) rfl ?_
    refine GoKit.iand G at_80 (pc' := 81) rfl (fun v29 hqv29 => ?_)
    refine GoKit.i2c G at_81 (pc' := 82) rfl (fun v30 hqv30 => ?_)
    have l31 := ch8 _ _ _ hqv29 hqv30
    have c32 : nar .char v30 = v30 := by rw [hqv30]; exact nar_i2c _
    refine GoKit.callStatic G at_82 (wi hw 35 rfl) (wi hw 36 rfl) (wi hw 8 rfl) (wi hw 37 rfl) (by decide) (owc := []) (W := 0) (argsL := [(.int v30)]) (rest := []) (con_valueOf l hw l31 HC) rfl (lenOf pd_15 rfl) rfl (by decide) (Nat.le_of_eq rfl) (by decide) (by decide) (by decide) (fun _ q => nomatch q) (cells' := 5) (slots' := 14) rfl rfl (pc' := 85) rfl (fun r33 h36 q34 K35 => ?_)
    obtain ⟨a37, rfl⟩ := q34
    show Run _ _ _ _ _ _ _ _ _ _ _ _ _ _ _ _ _ _ _ _ (mkF m 85 #[.val (.int p0), .val (.int p1), .val (.int p2), .val (.int p3), .val (.int p4), .val (.int p5), .val (.int (1 : Int32)), .val (.ref a3), .val (.ref a16), .unset, .unset] [(.ref a37)])
    refine GoKit.astore G at_85 rfl (Ls' := #[.val (.int p0), .val (.int p1), .val (.int p2), .val (.int p3), .val (.int p4), .val (.int p5), .val (.int (1 : Int32)), .val (.ref a3), .val (.ref a16), .val (.ref a37), .unset]) rfl (pc' := 87) rfl ?_
    refine GoKit.aload G at_87 rfl rfl (pc' := 89) rfl ?_
    refine GoKit.aload G at_89 rfl rfl (pc' := 91) rfl ?_
    have ha38 : ∀ c ∈ ([ch11] : List Int32), isNm c := by
      intro c hc
      simp only [List.mem_cons, List.not_mem_nil, or_false] at hc
      rcases hc with rfl
      · exact H12
    have KP39 : Keep h27 h36 [] := ((Keep.refl h27 []).trans K35 all0)
    refine GoKit.callStaticP G at_91 (wi hw 49 rfl) (wi hw 50 rfl) (wi hw 51 rfl) (wi hw 52 rfl) (by decide) (W := 0) (argsL := [(.ref a37), (.ref a16)]) (rest := []) (con_check l hw (S28.keep KP39) (by simp) ha38 HC HF) rfl (lenOf pd_16 rfl) rfl (by decide) (Nat.le_of_eq rfl) (by decide) (by decide) (by decide) (cells' := 5) (slots' := 14) rfl rfl (pc' := 94) rfl ?_
    show Run _ _ _ _ _ _ _ _ _ _ _ _ _ _ _ _ _ _ _ _ (mkF m 94 #[.val (.int p0), .val (.int p1), .val (.int p2), .val (.int p3), .val (.int p4), .val (.int p5), .val (.int (1 : Int32)), .val (.ref a3), .val (.ref a16), .val (.ref a37), .unset] [(.ref a16)])
    refine GoKit.astore G at_94 rfl (Ls' := #[.val (.int p0), .val (.int p1), .val (.int p2), .val (.int p3), .val (.int p4), .val (.int p5), .val (.int (1 : Int32)), .val (.ref a3), .val (.ref a16), .val (.ref a37), .val (.ref a16)]) rfl (pc' := 96) rfl ?_
    refine GoKit.aload G at_96 rfl rfl (pc' := 98) rfl ?_
    refine GoKit.aload G at_98 rfl rfl (pc' := 100) rfl ?_
    refine GoKit.acmp_ne_f G at_100 rfl rfl rfl (pc' := 103) rfl ?_
    refine GoKit.aload G at_103 rfl rfl (pc' := 105) rfl ?_
    refine GoKit.aload G at_105 rfl rfl (pc' := 107) rfl ?_
    refine GoKit.callVirtualP G at_107 (wi hw 92 rfl) (wi hw 93 rfl) (wi hw 95 rfl) (wi hw 94 rfl) (wi hw 8 rfl) (wi hw 96 rfl) (by decide) (S28.keep KP39).1 (W := 0) (argsL := [(.ref a16)]) (rest := []) (con_equalsSame l hw) rfl (lenOf pd_17 rfl) rfl (by decide) (Nat.le_of_eq rfl) (by decide) (by decide) (by decide) (cells' := 5) (slots' := 14) rfl rfl (pc' := 110) rfl ?_
    show Run _ _ _ _ _ _ _ _ _ _ _ _ _ _ _ _ _ _ _ _ (mkF m 110 #[.val (.int p0), .val (.int p1), .val (.int p2), .val (.int p3), .val (.int p4), .val (.int p5), .val (.int (1 : Int32)), .val (.ref a3), .val (.ref a16), .val (.ref a37), .val (.ref a16)] [(.int 1)])
    refine GoKit.if_eq_f G at_110 (by decide) (pc' := 113) rfl ?_
    refine GoKit.aload G at_113 rfl rfl (pc' := 115) rfl ?_
    refine GoKit.callVirtualP G at_115 (wi hw 97 rfl) (wi hw 59 rfl) (wi hw 61 rfl) (wi hw 60 rfl) (wi hw 8 rfl) (wi hw 62 rfl) (by decide) (S28.keep KP39).1 (W := 0) (argsL := []) (rest := []) (con_strlen l hw (S28.keep KP39) HC) rfl (lenOf pd_9 rfl) rfl (by decide) (Nat.le_of_eq rfl) (by decide) (by decide) (by decide) (cells' := 5) (slots' := 14) rfl rfl (pc' := 118) rfl ?_
    show Run _ _ _ _ _ _ _ _ _ _ _ _ _ _ _ _ _ _ _ _ (mkF m 118 #[.val (.int p0), .val (.int p1), .val (.int p2), .val (.int p3), .val (.int p4), .val (.int p5), .val (.int (1 : Int32)), .val (.ref a3), .val (.ref a16), .val (.ref a37), .val (.ref a16)] [(.int ([ch11]).length.toInt32)])
    refine GoKit.iload G at_118 rfl (pc' := 120) rfl ?_
    refine GoKit.icmp_ne_f G at_120 rfl (pc' := 123) rfl ?_
    refine GoKit.iconst G (1 : Int32) at_123 rfl (pc' := 124) rfl ?_
    refine GoKit.goto G at_124 (by decide) (pc' := 128) rfl ?_
    refine GoKit.retNar G at_128 (t := .boolean) rfl (by simp) (by decide) (by decide) ?_
    exact rfl
  · refine GoKit.iadd G at_4 (pc' := 5) rfl (fun v40 hqv40 => ?_)
    obtain rfl : v40 = (2 : Int32) := by rw [hqv40]; rfl
    refine GoKit.istore G at_5 (Ls' := #[.val (.int p0), .val (.int p1), .val (.int p2), .val (.int p3), .val (.int p4), .val (.int p5), .val (.int (2 : Int32)), .unset, .unset, .unset, .unset]) rfl (pc' := 7) rfl ?_
    refine GoKit.iload G at_7 rfl (pc' := 9) rfl ?_
    refine GoKit.newcI G at_9 (wi hw 0 rfl) (by decide) (k := 2) (cap := 2) rfl (Nat.le_refl _) (by decide) (by decide) (by decide) (cells' := 1) (slots' := 2) rfl rfl (pc' := 11) rfl (fun h44 a41 ga41 E42 A43 => ?_)
    refine GoKit.astore G at_11 rfl (Ls' := #[.val (.int p0), .val (.int p1), .val (.int p2), .val (.int p3), .val (.int p4), .val (.int p5), .val (.int (2 : Int32)), .val (.ref a41), .unset, .unset, .unset]) rfl (pc' := 13) rfl ?_
    refine GoKit.aload G at_13 rfl rfl (pc' := 15) rfl ?_
    refine GoKit.iconst G (0 : Int32) at_15 rfl (pc' := 16) rfl ?_
    refine GoKit.iloadN G at_16 rfl (pc' := 17) rfl ?_
    refine GoKit.callStatic G at_17 (wi hw 1 rfl) (wi hw 2 rfl) (wi hw 3 rfl) (wi hw 4 rfl) (by decide) (owc := []) (W := 2) (argsL := [(.int p1)]) (rest := [(.int (0 : Int32)), (.ref a41)]) (con_nameChar l hw p1) rfl (lenOf pd_10 rfl) rfl (by decide) (Nat.le_of_eq rfl) (by decide) (by decide) (by decide) (fun _ q => nomatch q) (cells' := 1) (slots' := 2) rfl rfl (pc' := 20) rfl (fun r45 h48 q46 K47 => ?_)
    obtain ⟨ch49, rfl, H50⟩ := q46
    show Run _ _ _ _ _ _ _ _ _ _ _ _ _ _ _ _ _ _ _ _ (mkF m 20 #[.val (.int p0), .val (.int p1), .val (.int p2), .val (.int p3), .val (.int p4), .val (.int p5), .val (.int (2 : Int32)), .val (.ref a41), .unset, .unset, .unset] [(.int ch49), (.int (0 : Int32)), (.ref a41)])
    refine GoKit.castI G at_20 (A43.keep K47 nin0) (i := 0) rfl (by decide) (Nat.le_of_ble_eq_true rfl) (lat_nar (isNm_lat H50)) (List.Mem.head _) (pc' := 21) rfl (fun h53 W51 A52 => ?_)
    change IA Z h53 a41 .char [ch49, 0] at A52
    refine GoKit.iload G at_21 rfl (pc' := 23) rfl ?_
    refine GoKit.iconst G (1 : Int32) at_23 rfl (pc' := 24) rfl ?_
    refine GoKit.icmp_le_f G at_24 (by decide) (pc' := 27) rfl ?_
    refine GoKit.aload G at_27 rfl rfl (pc' := 29) rfl ?_
    refine GoKit.iconst G (1 : Int32) at_29 rfl (pc' := 30) rfl ?_
    refine GoKit.iloadN G at_30 rfl (pc' := 31) rfl ?_
    refine GoKit.callStatic G at_31 (wi hw 1 rfl) (wi hw 2 rfl) (wi hw 3 rfl) (wi hw 4 rfl) (by decide) (owc := []) (W := 2) (argsL := [(.int p2)]) (rest := [(.int (1 : Int32)), (.ref a41)]) (con_nameChar l hw p2) rfl (lenOf pd_10 rfl) rfl (by decide) (Nat.le_of_eq rfl) (by decide) (by decide) (by decide) (fun _ q => nomatch q) (cells' := 1) (slots' := 2) rfl rfl (pc' := 34) rfl (fun r54 h57 q55 K56 => ?_)
    obtain ⟨ch58, rfl, H59⟩ := q55
    show Run _ _ _ _ _ _ _ _ _ _ _ _ _ _ _ _ _ _ _ _ (mkF m 34 #[.val (.int p0), .val (.int p1), .val (.int p2), .val (.int p3), .val (.int p4), .val (.int p5), .val (.int (2 : Int32)), .val (.ref a41), .unset, .unset, .unset] [(.int ch58), (.int (1 : Int32)), (.ref a41)])
    refine GoKit.castI G at_34 (A52.keep K56 nin0) (i := 1) rfl (by decide) (Nat.le_of_ble_eq_true rfl) (lat_nar (isNm_lat H59)) (List.Mem.head _) (pc' := 35) rfl (fun h62 W60 A61 => ?_)
    change IA Z h62 a41 .char [ch49, ch58] at A61
    refine GoKit.iload G at_35 rfl (pc' := 37) rfl ?_
    refine GoKit.iconst G (2 : Int32) at_37 rfl (pc' := 38) rfl ?_
    refine GoKit.icmp_le_t G at_38 (by decide) (by decide) (pc' := 49) rfl ?_
    refine GoKit.iload G at_49 rfl (pc' := 51) rfl ?_
    refine GoKit.iconst G (3 : Int32) at_51 rfl (pc' := 52) rfl ?_
    refine GoKit.icmp_le_t G at_52 (by decide) (by decide) (pc' := 64) rfl ?_
    refine GoKit.newobj G at_64 (wi hw 6 rfl) (wi hw 7 rfl) (wi hw 8 rfl) (by decide) (by decide) (cells' := 2) (slots' := 6) rfl rfl (pc' := 67) rfl (fun h67 a63 ga63 E64 X65 D66 => ?_)
    have F68 : Fld Z h67 a63 "java/lang/String" "coder" "B" (.int 0) := D66 (Or.inr (wi hw 32 rfl)) (ty := .byte) (by decide)
    have F69 : Fld Z h67 a63 "java/lang/String" "value" "[B" .null := D66 (Or.inr (wi hw 34 rfl)) (ty := (.array .byte)) (by decide)
    refine GoKit.dup G at_67 rfl (pc' := 68) rfl ?_
    refine GoKit.aload G at_68 rfl rfl (pc' := 70) rfl ?_
    have hl70 : ∀ c ∈ ([ch49, ch58] : List Int32), 0 ≤ c.toInt ∧ c.toInt < 256 := by
      intro c hc
      simp only [List.mem_cons, List.not_mem_nil, or_false] at hc
      rcases hc with rfl | rfl
      · exact (isNm_lat H50)
      · exact (isNm_lat H59)
    refine GoKit.callSpecial G at_70 rfl (wi hw 9 rfl) (wi hw 10 rfl) (wi hw 8 rfl) (wi hw 11 rfl) (by decide) (owc := [a63]) (W := 1) (argsL := [(.ref a41)]) (rest := [(.ref a63)]) (con_strInit l hw X65 F69 F68 (A61.ext E64) (Nat.le_of_ble_eq_true rfl) hl70 (by simp) HC) rfl (lenOf pd_14 rfl) rfl (by decide) (Nat.le_of_eq rfl) (by decide) (by decide) (by decide) (by intro x hx; simp only [List.mem_cons, List.not_mem_nil, or_false] at hx ⊢; simp [hx]) (cells' := 3) (slots' := 10) rfl rfl (pc' := 73) rfl (fun r71 h74 q72 K73 => ?_)
    obtain ⟨rfl, S75⟩ := q72
    show Run _ _ _ _ _ _ _ _ _ _ _ _ _ _ _ _ _ _ _ _ (mkF m 73 #[.val (.int p0), .val (.int p1), .val (.int p2), .val (.int p3), .val (.int p4), .val (.int p5), .val (.int (2 : Int32)), .val (.ref a41), .unset, .unset, .unset] [(.ref a63)])
    refine GoKit.astore G at_73 rfl (Ls' := #[.val (.int p0), .val (.int p1), .val (.int p2), .val (.int p3), .val (.int p4), .val (.int p5), .val (.int (2 : Int32)), .val (.ref a41), .val (.ref a63), .unset, .unset]) rfl (pc' := 75) rfl ?_
    refine GoKit.iload G at_75 rfl (pc' := 77) rfl ?_
    refine GoKit.sipush G (255 : Int32) at_77 rfl (pc' := 80) rfl ?_
    refine GoKit.iand G at_80 (pc' := 81) rfl (fun v76 hqv76 => ?_)
    refine GoKit.i2c G at_81 (pc' := 82) rfl (fun v77 hqv77 => ?_)
    have l78 := ch8 _ _ _ hqv76 hqv77
    have c79 : nar .char v77 = v77 := by rw [hqv77]; exact nar_i2c _
    refine GoKit.callStatic G at_82 (wi hw 35 rfl) (wi hw 36 rfl) (wi hw 8 rfl) (wi hw 37 rfl) (by decide) (owc := []) (W := 0) (argsL := [(.int v77)]) (rest := []) (con_valueOf l hw l78 HC) rfl (lenOf pd_15 rfl) rfl (by decide) (Nat.le_of_eq rfl) (by decide) (by decide) (by decide) (fun _ q => nomatch q) (cells' := 5) (slots' := 15) rfl rfl (pc' := 85) rfl (fun r80 h83 q81 K82 => ?_)
    obtain ⟨a84, rfl⟩ := q81
    show Run _ _ _ _ _ _ _ _ _ _ _ _ _ _ _ _ _ _ _ _ (mkF m 85 #[.val (.int p0), .val (.int p1), .val (.int p2), .val (.int p3), .val (.int p4), .val (.int p5), .val (.int (2 : Int32)), .val (.ref a41), .val (.ref a63), .unset, .unset] [(.ref a84)])
    refine GoKit.astore G at_85 rfl (Ls' := #[.val (.int p0), .val (.int p1), .val (.int p2), .val (.int p3), .val (.int p4), .val (.int p5), .val (.int (2 : Int32)), .val (.ref a41), .val (.ref a63), .val (.ref a84), .unset]) rfl (pc' := 87) rfl ?_
    refine GoKit.aload G at_87 rfl rfl (pc' := 89) rfl ?_
    refine GoKit.aload G at_89 rfl rfl (pc' := 91) rfl ?_
    have ha85 : ∀ c ∈ ([ch49, ch58] : List Int32), isNm c := by
      intro c hc
      simp only [List.mem_cons, List.not_mem_nil, or_false] at hc
      rcases hc with rfl | rfl
      · exact H50
      · exact H59
    have KP86 : Keep h74 h83 [] := ((Keep.refl h74 []).trans K82 all0)
    refine GoKit.callStaticP G at_91 (wi hw 49 rfl) (wi hw 50 rfl) (wi hw 51 rfl) (wi hw 52 rfl) (by decide) (W := 0) (argsL := [(.ref a84), (.ref a63)]) (rest := []) (con_check l hw (S75.keep KP86) (by simp) ha85 HC HF) rfl (lenOf pd_16 rfl) rfl (by decide) (Nat.le_of_eq rfl) (by decide) (by decide) (by decide) (cells' := 5) (slots' := 15) rfl rfl (pc' := 94) rfl ?_
    show Run _ _ _ _ _ _ _ _ _ _ _ _ _ _ _ _ _ _ _ _ (mkF m 94 #[.val (.int p0), .val (.int p1), .val (.int p2), .val (.int p3), .val (.int p4), .val (.int p5), .val (.int (2 : Int32)), .val (.ref a41), .val (.ref a63), .val (.ref a84), .unset] [(.ref a63)])
    refine GoKit.astore G at_94 rfl (Ls' := #[.val (.int p0), .val (.int p1), .val (.int p2), .val (.int p3), .val (.int p4), .val (.int p5), .val (.int (2 : Int32)), .val (.ref a41), .val (.ref a63), .val (.ref a84), .val (.ref a63)]) rfl (pc' := 96) rfl ?_
    refine GoKit.aload G at_96 rfl rfl (pc' := 98) rfl ?_
    refine GoKit.aload G at_98 rfl rfl (pc' := 100) rfl ?_
    refine GoKit.acmp_ne_f G at_100 rfl rfl rfl (pc' := 103) rfl ?_
    refine GoKit.aload G at_103 rfl rfl (pc' := 105) rfl ?_
    refine GoKit.aload G at_105 rfl rfl (pc' := 107) rfl ?_
    refine GoKit.callVirtualP G at_107 (wi hw 92 rfl) (wi hw 93 rfl) (wi hw 95 rfl) (wi hw 94 rfl) (wi hw 8 rfl) (wi hw 96 rfl) (by decide) (S75.keep KP86).1 (W := 0) (argsL := [(.ref a63)]) (rest := []) (con_equalsSame l hw) rfl (lenOf pd_17 rfl) rfl (by decide) (Nat.le_of_eq rfl) (by decide) (by decide) (by decide) (cells' := 5) (slots' := 15) rfl rfl (pc' := 110) rfl ?_
    show Run _ _ _ _ _ _ _ _ _ _ _ _ _ _ _ _ _ _ _ _ (mkF m 110 #[.val (.int p0), .val (.int p1), .val (.int p2), .val (.int p3), .val (.int p4), .val (.int p5), .val (.int (2 : Int32)), .val (.ref a41), .val (.ref a63), .val (.ref a84), .val (.ref a63)] [(.int 1)])
    refine GoKit.if_eq_f G at_110 (by decide) (pc' := 113) rfl ?_
    refine GoKit.aload G at_113 rfl rfl (pc' := 115) rfl ?_
    refine GoKit.callVirtualP G at_115 (wi hw 97 rfl) (wi hw 59 rfl) (wi hw 61 rfl) (wi hw 60 rfl) (wi hw 8 rfl) (wi hw 62 rfl) (by decide) (S75.keep KP86).1 (W := 0) (argsL := []) (rest := []) (con_strlen l hw (S75.keep KP86) HC) rfl (lenOf pd_9 rfl) rfl (by decide) (Nat.le_of_eq rfl) (by decide) (by decide) (by decide) (cells' := 5) (slots' := 15) rfl rfl (pc' := 118) rfl ?_
    show Run _ _ _ _ _ _ _ _ _ _ _ _ _ _ _ _ _ _ _ _ (mkF m 118 #[.val (.int p0), .val (.int p1), .val (.int p2), .val (.int p3), .val (.int p4), .val (.int p5), .val (.int (2 : Int32)), .val (.ref a41), .val (.ref a63), .val (.ref a84), .val (.ref a63)] [(.int ([ch49, ch58]).length.toInt32)])
    refine GoKit.iload G at_118 rfl (pc' := 120) rfl ?_
    refine GoKit.icmp_ne_f G at_120 rfl (pc' := 123) rfl ?_
    refine GoKit.iconst G (1 : Int32) at_123 rfl (pc' := 124) rfl ?_
    refine GoKit.goto G at_124 (by decide) (pc' := 128) rfl ?_
    refine GoKit.retNar G at_128 (t := .boolean) rfl (by simp) (by decide) (by decide) ?_
    exact rfl
  · refine GoKit.iadd G at_4 (pc' := 5) rfl (fun v87 hqv87 => ?_)
    obtain rfl : v87 = (3 : Int32) := by rw [hqv87]; rfl
    refine GoKit.istore G at_5 (Ls' := #[.val (.int p0), .val (.int p1), .val (.int p2), .val (.int p3), .val (.int p4), .val (.int p5), .val (.int (3 : Int32)), .unset, .unset, .unset, .unset]) rfl (pc' := 7) rfl ?_
    refine GoKit.iload G at_7 rfl (pc' := 9) rfl ?_
    refine GoKit.newcI G at_9 (wi hw 0 rfl) (by decide) (k := 3) (cap := 3) rfl (Nat.le_refl _) (by decide) (by decide) (by decide) (cells' := 1) (slots' := 3) rfl rfl (pc' := 11) rfl (fun h91 a88 ga88 E89 A90 => ?_)
    refine GoKit.astore G at_11 rfl (Ls' := #[.val (.int p0), .val (.int p1), .val (.int p2), .val (.int p3), .val (.int p4), .val (.int p5), .val (.int (3 : Int32)), .val (.ref a88), .unset, .unset, .unset]) rfl (pc' := 13) rfl ?_
    refine GoKit.aload G at_13 rfl rfl (pc' := 15) rfl ?_
    refine GoKit.iconst G (0 : Int32) at_15 rfl (pc' := 16) rfl ?_
    refine GoKit.iloadN G at_16 rfl (pc' := 17) rfl ?_
    refine GoKit.callStatic G at_17 (wi hw 1 rfl) (wi hw 2 rfl) (wi hw 3 rfl) (wi hw 4 rfl) (by decide) (owc := []) (W := 2) (argsL := [(.int p1)]) (rest := [(.int (0 : Int32)), (.ref a88)]) (con_nameChar l hw p1) rfl (lenOf pd_10 rfl) rfl (by decide) (Nat.le_of_eq rfl) (by decide) (by decide) (by decide) (fun _ q => nomatch q) (cells' := 1) (slots' := 3) rfl rfl (pc' := 20) rfl (fun r92 h95 q93 K94 => ?_)
    obtain ⟨ch96, rfl, H97⟩ := q93
    show Run _ _ _ _ _ _ _ _ _ _ _ _ _ _ _ _ _ _ _ _ (mkF m 20 #[.val (.int p0), .val (.int p1), .val (.int p2), .val (.int p3), .val (.int p4), .val (.int p5), .val (.int (3 : Int32)), .val (.ref a88), .unset, .unset, .unset] [(.int ch96), (.int (0 : Int32)), (.ref a88)])
    refine GoKit.castI G at_20 (A90.keep K94 nin0) (i := 0) rfl (by decide) (Nat.le_of_ble_eq_true rfl) (lat_nar (isNm_lat H97)) (List.Mem.head _) (pc' := 21) rfl (fun h100 W98 A99 => ?_)
    change IA Z h100 a88 .char [ch96, 0, 0] at A99
    refine GoKit.iload G at_21 rfl (pc' := 23) rfl ?_
    refine GoKit.iconst G (1 : Int32) at_23 rfl (pc' := 24) rfl ?_
    refine GoKit.icmp_le_f G at_24 (by decide) (pc' := 27) rfl ?_
    refine GoKit.aload G at_27 rfl rfl (pc' := 29) rfl ?_
    refine GoKit.iconst G (1 : Int32) at_29 rfl (pc' := 30) rfl ?_
    refine GoKit.iloadN G at_30 rfl (pc' := 31) rfl ?_
    refine GoKit.callStatic G at_31 (wi hw 1 rfl) (wi hw 2 rfl) (wi hw 3 rfl) (wi hw 4 rfl) (by decide) (owc := []) (W := 2) (argsL := [(.int p2)]) (rest := [(.int (1 : Int32)), (.ref a88)]) (con_nameChar l hw p2) rfl (lenOf pd_10 rfl) rfl (by decide) (Nat.le_of_eq rfl) (by decide) (by decide) (by decide) (fun _ q => nomatch q) (cells' := 1) (slots' := 3) rfl rfl (pc' := 34) rfl (fun r101 h104 q102 K103 => ?_)
    obtain ⟨ch105, rfl, H106⟩ := q102
    show Run _ _ _ _ _ _ _ _ _ _ _ _ _ _ _ _ _ _ _ _ (mkF m 34 #[.val (.int p0), .val (.int p1), .val (.int p2), .val (.int p3), .val (.int p4), .val (.int p5), .val (.int (3 : Int32)), .val (.ref a88), .unset, .unset, .unset] [(.int ch105), (.int (1 : Int32)), (.ref a88)])
    refine GoKit.castI G at_34 (A99.keep K103 nin0) (i := 1) rfl (by decide) (Nat.le_of_ble_eq_true rfl) (lat_nar (isNm_lat H106)) (List.Mem.head _) (pc' := 35) rfl (fun h109 W107 A108 => ?_)
    change IA Z h109 a88 .char [ch96, ch105, 0] at A108
    refine GoKit.iload G at_35 rfl (pc' := 37) rfl ?_
    refine GoKit.iconst G (2 : Int32) at_37 rfl (pc' := 38) rfl ?_
    refine GoKit.icmp_le_f G at_38 (by decide) (pc' := 41) rfl ?_
    refine GoKit.aload G at_41 rfl rfl (pc' := 43) rfl ?_
    refine GoKit.iconst G (2 : Int32) at_43 rfl (pc' := 44) rfl ?_
    refine GoKit.iloadN G at_44 rfl (pc' := 45) rfl ?_
    refine GoKit.callStatic G at_45 (wi hw 1 rfl) (wi hw 2 rfl) (wi hw 3 rfl) (wi hw 4 rfl) (by decide) (owc := []) (W := 2) (argsL := [(.int p3)]) (rest := [(.int (2 : Int32)), (.ref a88)]) (con_nameChar l hw p3) rfl (lenOf pd_10 rfl) rfl (by decide) (Nat.le_of_eq rfl) (by decide) (by decide) (by decide) (fun _ q => nomatch q) (cells' := 1) (slots' := 3) rfl rfl (pc' := 48) rfl (fun r110 h113 q111 K112 => ?_)
    obtain ⟨ch114, rfl, H115⟩ := q111
    show Run _ _ _ _ _ _ _ _ _ _ _ _ _ _ _ _ _ _ _ _ (mkF m 48 #[.val (.int p0), .val (.int p1), .val (.int p2), .val (.int p3), .val (.int p4), .val (.int p5), .val (.int (3 : Int32)), .val (.ref a88), .unset, .unset, .unset] [(.int ch114), (.int (2 : Int32)), (.ref a88)])
    refine GoKit.castI G at_48 (A108.keep K112 nin0) (i := 2) rfl (by decide) (Nat.le_of_ble_eq_true rfl) (lat_nar (isNm_lat H115)) (List.Mem.head _) (pc' := 49) rfl (fun h118 W116 A117 => ?_)
    change IA Z h118 a88 .char [ch96, ch105, ch114] at A117
    refine GoKit.iload G at_49 rfl (pc' := 51) rfl ?_
    refine GoKit.iconst G (3 : Int32) at_51 rfl (pc' := 52) rfl ?_
    refine GoKit.icmp_le_t G at_52 (by decide) (by decide) (pc' := 64) rfl ?_
    refine GoKit.newobj G at_64 (wi hw 6 rfl) (wi hw 7 rfl) (wi hw 8 rfl) (by decide) (by decide) (cells' := 2) (slots' := 7) rfl rfl (pc' := 67) rfl (fun h123 a119 ga119 E120 X121 D122 => ?_)
    have F124 : Fld Z h123 a119 "java/lang/String" "coder" "B" (.int 0) := D122 (Or.inr (wi hw 32 rfl)) (ty := .byte) (by decide)
    have F125 : Fld Z h123 a119 "java/lang/String" "value" "[B" .null := D122 (Or.inr (wi hw 34 rfl)) (ty := (.array .byte)) (by decide)
    refine GoKit.dup G at_67 rfl (pc' := 68) rfl ?_
    refine GoKit.aload G at_68 rfl rfl (pc' := 70) rfl ?_
    have hl126 : ∀ c ∈ ([ch96, ch105, ch114] : List Int32), 0 ≤ c.toInt ∧ c.toInt < 256 := by
      intro c hc
      simp only [List.mem_cons, List.not_mem_nil, or_false] at hc
      rcases hc with rfl | rfl | rfl
      · exact (isNm_lat H97)
      · exact (isNm_lat H106)
      · exact (isNm_lat H115)
    refine GoKit.callSpecial G at_70 rfl (wi hw 9 rfl) (wi hw 10 rfl) (wi hw 8 rfl) (wi hw 11 rfl) (by decide) (owc := [a119]) (W := 1) (argsL := [(.ref a88)]) (rest := [(.ref a119)]) (con_strInit l hw X121 F125 F124 (A117.ext E120) (Nat.le_of_ble_eq_true rfl) hl126 (by simp) HC) rfl (lenOf pd_14 rfl) rfl (by decide) (Nat.le_of_eq rfl) (by decide) (by decide) (by decide) (by intro x hx; simp only [List.mem_cons, List.not_mem_nil, or_false] at hx ⊢; simp [hx]) (cells' := 3) (slots' := 11) rfl rfl (pc' := 73) rfl (fun r127 h130 q128 K129 => ?_)
    obtain ⟨rfl, S131⟩ := q128
    show Run _ _ _ _ _ _ _ _ _ _ _ _ _ _ _ _ _ _ _ _ (mkF m 73 #[.val (.int p0), .val (.int p1), .val (.int p2), .val (.int p3), .val (.int p4), .val (.int p5), .val (.int (3 : Int32)), .val (.ref a88), .unset, .unset, .unset] [(.ref a119)])
    refine GoKit.astore G at_73 rfl (Ls' := #[.val (.int p0), .val (.int p1), .val (.int p2), .val (.int p3), .val (.int p4), .val (.int p5), .val (.int (3 : Int32)), .val (.ref a88), .val (.ref a119), .unset, .unset]) rfl (pc' := 75) rfl ?_
    refine GoKit.iload G at_75 rfl (pc' := 77) rfl ?_
    refine GoKit.sipush G (255 : Int32) at_77 rfl (pc' := 80) rfl ?_
    refine GoKit.iand G at_80 (pc' := 81) rfl (fun v132 hqv132 => ?_)
    refine GoKit.i2c G at_81 (pc' := 82) rfl (fun v133 hqv133 => ?_)
    have l134 := ch8 _ _ _ hqv132 hqv133
    have c135 : nar .char v133 = v133 := by rw [hqv133]; exact nar_i2c _
    refine GoKit.callStatic G at_82 (wi hw 35 rfl) (wi hw 36 rfl) (wi hw 8 rfl) (wi hw 37 rfl) (by decide) (owc := []) (W := 0) (argsL := [(.int v133)]) (rest := []) (con_valueOf l hw l134 HC) rfl (lenOf pd_15 rfl) rfl (by decide) (Nat.le_of_eq rfl) (by decide) (by decide) (by decide) (fun _ q => nomatch q) (cells' := 5) (slots' := 16) rfl rfl (pc' := 85) rfl (fun r136 h139 q137 K138 => ?_)
    obtain ⟨a140, rfl⟩ := q137
    show Run _ _ _ _ _ _ _ _ _ _ _ _ _ _ _ _ _ _ _ _ (mkF m 85 #[.val (.int p0), .val (.int p1), .val (.int p2), .val (.int p3), .val (.int p4), .val (.int p5), .val (.int (3 : Int32)), .val (.ref a88), .val (.ref a119), .unset, .unset] [(.ref a140)])
    refine GoKit.astore G at_85 rfl (Ls' := #[.val (.int p0), .val (.int p1), .val (.int p2), .val (.int p3), .val (.int p4), .val (.int p5), .val (.int (3 : Int32)), .val (.ref a88), .val (.ref a119), .val (.ref a140), .unset]) rfl (pc' := 87) rfl ?_
    refine GoKit.aload G at_87 rfl rfl (pc' := 89) rfl ?_
    refine GoKit.aload G at_89 rfl rfl (pc' := 91) rfl ?_
    have ha141 : ∀ c ∈ ([ch96, ch105, ch114] : List Int32), isNm c := by
      intro c hc
      simp only [List.mem_cons, List.not_mem_nil, or_false] at hc
      rcases hc with rfl | rfl | rfl
      · exact H97
      · exact H106
      · exact H115
    have KP142 : Keep h130 h139 [] := ((Keep.refl h130 []).trans K138 all0)
    refine GoKit.callStaticP G at_91 (wi hw 49 rfl) (wi hw 50 rfl) (wi hw 51 rfl) (wi hw 52 rfl) (by decide) (W := 0) (argsL := [(.ref a140), (.ref a119)]) (rest := []) (con_check l hw (S131.keep KP142) (by simp) ha141 HC HF) rfl (lenOf pd_16 rfl) rfl (by decide) (Nat.le_of_eq rfl) (by decide) (by decide) (by decide) (cells' := 5) (slots' := 16) rfl rfl (pc' := 94) rfl ?_
    show Run _ _ _ _ _ _ _ _ _ _ _ _ _ _ _ _ _ _ _ _ (mkF m 94 #[.val (.int p0), .val (.int p1), .val (.int p2), .val (.int p3), .val (.int p4), .val (.int p5), .val (.int (3 : Int32)), .val (.ref a88), .val (.ref a119), .val (.ref a140), .unset] [(.ref a119)])
    refine GoKit.astore G at_94 rfl (Ls' := #[.val (.int p0), .val (.int p1), .val (.int p2), .val (.int p3), .val (.int p4), .val (.int p5), .val (.int (3 : Int32)), .val (.ref a88), .val (.ref a119), .val (.ref a140), .val (.ref a119)]) rfl (pc' := 96) rfl ?_
    refine GoKit.aload G at_96 rfl rfl (pc' := 98) rfl ?_
    refine GoKit.aload G at_98 rfl rfl (pc' := 100) rfl ?_
    refine GoKit.acmp_ne_f G at_100 rfl rfl rfl (pc' := 103) rfl ?_
    refine GoKit.aload G at_103 rfl rfl (pc' := 105) rfl ?_
    refine GoKit.aload G at_105 rfl rfl (pc' := 107) rfl ?_
    refine GoKit.callVirtualP G at_107 (wi hw 92 rfl) (wi hw 93 rfl) (wi hw 95 rfl) (wi hw 94 rfl) (wi hw 8 rfl) (wi hw 96 rfl) (by decide) (S131.keep KP142).1 (W := 0) (argsL := [(.ref a119)]) (rest := []) (con_equalsSame l hw) rfl (lenOf pd_17 rfl) rfl (by decide) (Nat.le_of_eq rfl) (by decide) (by decide) (by decide) (cells' := 5) (slots' := 16) rfl rfl (pc' := 110) rfl ?_
    show Run _ _ _ _ _ _ _ _ _ _ _ _ _ _ _ _ _ _ _ _ (mkF m 110 #[.val (.int p0), .val (.int p1), .val (.int p2), .val (.int p3), .val (.int p4), .val (.int p5), .val (.int (3 : Int32)), .val (.ref a88), .val (.ref a119), .val (.ref a140), .val (.ref a119)] [(.int 1)])
    refine GoKit.if_eq_f G at_110 (by decide) (pc' := 113) rfl ?_
    refine GoKit.aload G at_113 rfl rfl (pc' := 115) rfl ?_
    refine GoKit.callVirtualP G at_115 (wi hw 97 rfl) (wi hw 59 rfl) (wi hw 61 rfl) (wi hw 60 rfl) (wi hw 8 rfl) (wi hw 62 rfl) (by decide) (S131.keep KP142).1 (W := 0) (argsL := []) (rest := []) (con_strlen l hw (S131.keep KP142) HC) rfl (lenOf pd_9 rfl) rfl (by decide) (Nat.le_of_eq rfl) (by decide) (by decide) (by decide) (cells' := 5) (slots' := 16) rfl rfl (pc' := 118) rfl ?_
    show Run _ _ _ _ _ _ _ _ _ _ _ _ _ _ _ _ _ _ _ _ (mkF m 118 #[.val (.int p0), .val (.int p1), .val (.int p2), .val (.int p3), .val (.int p4), .val (.int p5), .val (.int (3 : Int32)), .val (.ref a88), .val (.ref a119), .val (.ref a140), .val (.ref a119)] [(.int ([ch96, ch105, ch114]).length.toInt32)])
    refine GoKit.iload G at_118 rfl (pc' := 120) rfl ?_
    refine GoKit.icmp_ne_f G at_120 rfl (pc' := 123) rfl ?_
    refine GoKit.iconst G (1 : Int32) at_123 rfl (pc' := 124) rfl ?_
    refine GoKit.goto G at_124 (by decide) (pc' := 128) rfl ?_
    refine GoKit.retNar G at_128 (t := .boolean) rfl (by simp) (by decide) (by decide) ?_
    exact rfl
  · refine GoKit.iadd G at_4 (pc' := 5) rfl (fun v143 hqv143 => ?_)
    obtain rfl : v143 = (4 : Int32) := by rw [hqv143]; rfl
    refine GoKit.istore G at_5 (Ls' := #[.val (.int p0), .val (.int p1), .val (.int p2), .val (.int p3), .val (.int p4), .val (.int p5), .val (.int (4 : Int32)), .unset, .unset, .unset, .unset]) rfl (pc' := 7) rfl ?_
    refine GoKit.iload G at_7 rfl (pc' := 9) rfl ?_
    refine GoKit.newcI G at_9 (wi hw 0 rfl) (by decide) (k := 4) (cap := 4) rfl (Nat.le_refl _) (by decide) (by decide) (by decide) (cells' := 1) (slots' := 4) rfl rfl (pc' := 11) rfl (fun h147 a144 ga144 E145 A146 => ?_)
    refine GoKit.astore G at_11 rfl (Ls' := #[.val (.int p0), .val (.int p1), .val (.int p2), .val (.int p3), .val (.int p4), .val (.int p5), .val (.int (4 : Int32)), .val (.ref a144), .unset, .unset, .unset]) rfl (pc' := 13) rfl ?_
    refine GoKit.aload G at_13 rfl rfl (pc' := 15) rfl ?_
    refine GoKit.iconst G (0 : Int32) at_15 rfl (pc' := 16) rfl ?_
    refine GoKit.iloadN G at_16 rfl (pc' := 17) rfl ?_
    refine GoKit.callStatic G at_17 (wi hw 1 rfl) (wi hw 2 rfl) (wi hw 3 rfl) (wi hw 4 rfl) (by decide) (owc := []) (W := 2) (argsL := [(.int p1)]) (rest := [(.int (0 : Int32)), (.ref a144)]) (con_nameChar l hw p1) rfl (lenOf pd_10 rfl) rfl (by decide) (Nat.le_of_eq rfl) (by decide) (by decide) (by decide) (fun _ q => nomatch q) (cells' := 1) (slots' := 4) rfl rfl (pc' := 20) rfl (fun r148 h151 q149 K150 => ?_)
    obtain ⟨ch152, rfl, H153⟩ := q149
    show Run _ _ _ _ _ _ _ _ _ _ _ _ _ _ _ _ _ _ _ _ (mkF m 20 #[.val (.int p0), .val (.int p1), .val (.int p2), .val (.int p3), .val (.int p4), .val (.int p5), .val (.int (4 : Int32)), .val (.ref a144), .unset, .unset, .unset] [(.int ch152), (.int (0 : Int32)), (.ref a144)])
    refine GoKit.castI G at_20 (A146.keep K150 nin0) (i := 0) rfl (by decide) (Nat.le_of_ble_eq_true rfl) (lat_nar (isNm_lat H153)) (List.Mem.head _) (pc' := 21) rfl (fun h156 W154 A155 => ?_)
    change IA Z h156 a144 .char [ch152, 0, 0, 0] at A155
    refine GoKit.iload G at_21 rfl (pc' := 23) rfl ?_
    refine GoKit.iconst G (1 : Int32) at_23 rfl (pc' := 24) rfl ?_
    refine GoKit.icmp_le_f G at_24 (by decide) (pc' := 27) rfl ?_
    refine GoKit.aload G at_27 rfl rfl (pc' := 29) rfl ?_
    refine GoKit.iconst G (1 : Int32) at_29 rfl (pc' := 30) rfl ?_
    refine GoKit.iloadN G at_30 rfl (pc' := 31) rfl ?_
    refine GoKit.callStatic G at_31 (wi hw 1 rfl) (wi hw 2 rfl) (wi hw 3 rfl) (wi hw 4 rfl) (by decide) (owc := []) (W := 2) (argsL := [(.int p2)]) (rest := [(.int (1 : Int32)), (.ref a144)]) (con_nameChar l hw p2) rfl (lenOf pd_10 rfl) rfl (by decide) (Nat.le_of_eq rfl) (by decide) (by decide) (by decide) (fun _ q => nomatch q) (cells' := 1) (slots' := 4) rfl rfl (pc' := 34) rfl (fun r157 h160 q158 K159 => ?_)
    obtain ⟨ch161, rfl, H162⟩ := q158
    show Run _ _ _ _ _ _ _ _ _ _ _ _ _ _ _ _ _ _ _ _ (mkF m 34 #[.val (.int p0), .val (.int p1), .val (.int p2), .val (.int p3), .val (.int p4), .val (.int p5), .val (.int (4 : Int32)), .val (.ref a144), .unset, .unset, .unset] [(.int ch161), (.int (1 : Int32)), (.ref a144)])
    refine GoKit.castI G at_34 (A155.keep K159 nin0) (i := 1) rfl (by decide) (Nat.le_of_ble_eq_true rfl) (lat_nar (isNm_lat H162)) (List.Mem.head _) (pc' := 35) rfl (fun h165 W163 A164 => ?_)
    change IA Z h165 a144 .char [ch152, ch161, 0, 0] at A164
    refine GoKit.iload G at_35 rfl (pc' := 37) rfl ?_
    refine GoKit.iconst G (2 : Int32) at_37 rfl (pc' := 38) rfl ?_
    refine GoKit.icmp_le_f G at_38 (by decide) (pc' := 41) rfl ?_
    refine GoKit.aload G at_41 rfl rfl (pc' := 43) rfl ?_
    refine GoKit.iconst G (2 : Int32) at_43 rfl (pc' := 44) rfl ?_
    refine GoKit.iloadN G at_44 rfl (pc' := 45) rfl ?_
    refine GoKit.callStatic G at_45 (wi hw 1 rfl) (wi hw 2 rfl) (wi hw 3 rfl) (wi hw 4 rfl) (by decide) (owc := []) (W := 2) (argsL := [(.int p3)]) (rest := [(.int (2 : Int32)), (.ref a144)]) (con_nameChar l hw p3) rfl (lenOf pd_10 rfl) rfl (by decide) (Nat.le_of_eq rfl) (by decide) (by decide) (by decide) (fun _ q => nomatch q) (cells' := 1) (slots' := 4) rfl rfl (pc' := 48) rfl (fun r166 h169 q167 K168 => ?_)
    obtain ⟨ch170, rfl, H171⟩ := q167
    show Run _ _ _ _ _ _ _ _ _ _ _ _ _ _ _ _ _ _ _ _ (mkF m 48 #[.val (.int p0), .val (.int p1), .val (.int p2), .val (.int p3), .val (.int p4), .val (.int p5), .val (.int (4 : Int32)), .val (.ref a144), .unset, .unset, .unset] [(.int ch170), (.int (2 : Int32)), (.ref a144)])
    refine GoKit.castI G at_48 (A164.keep K168 nin0) (i := 2) rfl (by decide) (Nat.le_of_ble_eq_true rfl) (lat_nar (isNm_lat H171)) (List.Mem.head _) (pc' := 49) rfl (fun h174 W172 A173 => ?_)
    change IA Z h174 a144 .char [ch152, ch161, ch170, 0] at A173
    refine GoKit.iload G at_49 rfl (pc' := 51) rfl ?_
    refine GoKit.iconst G (3 : Int32) at_51 rfl (pc' := 52) rfl ?_
    refine GoKit.icmp_le_f G at_52 (by decide) (pc' := 55) rfl ?_
    refine GoKit.aload G at_55 rfl rfl (pc' := 57) rfl ?_
    refine GoKit.iconst G (3 : Int32) at_57 rfl (pc' := 58) rfl ?_
    refine GoKit.iload G at_58 rfl (pc' := 60) rfl ?_
    refine GoKit.callStatic G at_60 (wi hw 1 rfl) (wi hw 2 rfl) (wi hw 3 rfl) (wi hw 4 rfl) (by decide) (owc := []) (W := 2) (argsL := [(.int p4)]) (rest := [(.int (3 : Int32)), (.ref a144)]) (con_nameChar l hw p4) rfl (lenOf pd_10 rfl) rfl (by decide) (Nat.le_of_eq rfl) (by decide) (by decide) (by decide) (fun _ q => nomatch q) (cells' := 1) (slots' := 4) rfl rfl (pc' := 63) rfl (fun r175 h178 q176 K177 => ?_)
    obtain ⟨ch179, rfl, H180⟩ := q176
    show Run _ _ _ _ _ _ _ _ _ _ _ _ _ _ _ _ _ _ _ _ (mkF m 63 #[.val (.int p0), .val (.int p1), .val (.int p2), .val (.int p3), .val (.int p4), .val (.int p5), .val (.int (4 : Int32)), .val (.ref a144), .unset, .unset, .unset] [(.int ch179), (.int (3 : Int32)), (.ref a144)])
    refine GoKit.castI G at_63 (A173.keep K177 nin0) (i := 3) rfl (by decide) (Nat.le_of_ble_eq_true rfl) (lat_nar (isNm_lat H180)) (List.Mem.head _) (pc' := 64) rfl (fun h183 W181 A182 => ?_)
    change IA Z h183 a144 .char [ch152, ch161, ch170, ch179] at A182
    refine GoKit.newobj G at_64 (wi hw 6 rfl) (wi hw 7 rfl) (wi hw 8 rfl) (by decide) (by decide) (cells' := 2) (slots' := 8) rfl rfl (pc' := 67) rfl (fun h188 a184 ga184 E185 X186 D187 => ?_)
    have F189 : Fld Z h188 a184 "java/lang/String" "coder" "B" (.int 0) := D187 (Or.inr (wi hw 32 rfl)) (ty := .byte) (by decide)
    have F190 : Fld Z h188 a184 "java/lang/String" "value" "[B" .null := D187 (Or.inr (wi hw 34 rfl)) (ty := (.array .byte)) (by decide)
    refine GoKit.dup G at_67 rfl (pc' := 68) rfl ?_
    refine GoKit.aload G at_68 rfl rfl (pc' := 70) rfl ?_
    have hl191 : ∀ c ∈ ([ch152, ch161, ch170, ch179] : List Int32), 0 ≤ c.toInt ∧ c.toInt < 256 := by
      intro c hc
      simp only [List.mem_cons, List.not_mem_nil, or_false] at hc
      rcases hc with rfl | rfl | rfl | rfl
      · exact (isNm_lat H153)
      · exact (isNm_lat H162)
      · exact (isNm_lat H171)
      · exact (isNm_lat H180)
    refine GoKit.callSpecial G at_70 rfl (wi hw 9 rfl) (wi hw 10 rfl) (wi hw 8 rfl) (wi hw 11 rfl) (by decide) (owc := [a184]) (W := 1) (argsL := [(.ref a144)]) (rest := [(.ref a184)]) (con_strInit l hw X186 F190 F189 (A182.ext E185) (Nat.le_of_ble_eq_true rfl) hl191 (by simp) HC) rfl (lenOf pd_14 rfl) rfl (by decide) (Nat.le_of_eq rfl) (by decide) (by decide) (by decide) (by intro x hx; simp only [List.mem_cons, List.not_mem_nil, or_false] at hx ⊢; simp [hx]) (cells' := 3) (slots' := 12) rfl rfl (pc' := 73) rfl (fun r192 h195 q193 K194 => ?_)
    obtain ⟨rfl, S196⟩ := q193
    show Run _ _ _ _ _ _ _ _ _ _ _ _ _ _ _ _ _ _ _ _ (mkF m 73 #[.val (.int p0), .val (.int p1), .val (.int p2), .val (.int p3), .val (.int p4), .val (.int p5), .val (.int (4 : Int32)), .val (.ref a144), .unset, .unset, .unset] [(.ref a184)])
    refine GoKit.astore G at_73 rfl (Ls' := #[.val (.int p0), .val (.int p1), .val (.int p2), .val (.int p3), .val (.int p4), .val (.int p5), .val (.int (4 : Int32)), .val (.ref a144), .val (.ref a184), .unset, .unset]) rfl (pc' := 75) rfl ?_
    refine GoKit.iload G at_75 rfl (pc' := 77) rfl ?_
    refine GoKit.sipush G (255 : Int32) at_77 rfl (pc' := 80) rfl ?_
    refine GoKit.iand G at_80 (pc' := 81) rfl (fun v197 hqv197 => ?_)
    refine GoKit.i2c G at_81 (pc' := 82) rfl (fun v198 hqv198 => ?_)
    have l199 := ch8 _ _ _ hqv197 hqv198
    have c200 : nar .char v198 = v198 := by rw [hqv198]; exact nar_i2c _
    refine GoKit.callStatic G at_82 (wi hw 35 rfl) (wi hw 36 rfl) (wi hw 8 rfl) (wi hw 37 rfl) (by decide) (owc := []) (W := 0) (argsL := [(.int v198)]) (rest := []) (con_valueOf l hw l199 HC) rfl (lenOf pd_15 rfl) rfl (by decide) (Nat.le_of_eq rfl) (by decide) (by decide) (by decide) (fun _ q => nomatch q) (cells' := 5) (slots' := 17) rfl rfl (pc' := 85) rfl (fun r201 h204 q202 K203 => ?_)
    obtain ⟨a205, rfl⟩ := q202
    show Run _ _ _ _ _ _ _ _ _ _ _ _ _ _ _ _ _ _ _ _ (mkF m 85 #[.val (.int p0), .val (.int p1), .val (.int p2), .val (.int p3), .val (.int p4), .val (.int p5), .val (.int (4 : Int32)), .val (.ref a144), .val (.ref a184), .unset, .unset] [(.ref a205)])
    refine GoKit.astore G at_85 rfl (Ls' := #[.val (.int p0), .val (.int p1), .val (.int p2), .val (.int p3), .val (.int p4), .val (.int p5), .val (.int (4 : Int32)), .val (.ref a144), .val (.ref a184), .val (.ref a205), .unset]) rfl (pc' := 87) rfl ?_
    refine GoKit.aload G at_87 rfl rfl (pc' := 89) rfl ?_
    refine GoKit.aload G at_89 rfl rfl (pc' := 91) rfl ?_
    have ha206 : ∀ c ∈ ([ch152, ch161, ch170, ch179] : List Int32), isNm c := by
      intro c hc
      simp only [List.mem_cons, List.not_mem_nil, or_false] at hc
      rcases hc with rfl | rfl | rfl | rfl
      · exact H153
      · exact H162
      · exact H171
      · exact H180
    have KP207 : Keep h195 h204 [] := ((Keep.refl h195 []).trans K203 all0)
    refine GoKit.callStaticP G at_91 (wi hw 49 rfl) (wi hw 50 rfl) (wi hw 51 rfl) (wi hw 52 rfl) (by decide) (W := 0) (argsL := [(.ref a205), (.ref a184)]) (rest := []) (con_check l hw (S196.keep KP207) (by simp) ha206 HC HF) rfl (lenOf pd_16 rfl) rfl (by decide) (Nat.le_of_eq rfl) (by decide) (by decide) (by decide) (cells' := 5) (slots' := 17) rfl rfl (pc' := 94) rfl ?_
    show Run _ _ _ _ _ _ _ _ _ _ _ _ _ _ _ _ _ _ _ _ (mkF m 94 #[.val (.int p0), .val (.int p1), .val (.int p2), .val (.int p3), .val (.int p4), .val (.int p5), .val (.int (4 : Int32)), .val (.ref a144), .val (.ref a184), .val (.ref a205), .unset] [(.ref a184)])
    refine GoKit.astore G at_94 rfl (Ls' := #[.val (.int p0), .val (.int p1), .val (.int p2), .val (.int p3), .val (.int p4), .val (.int p5), .val (.int (4 : Int32)), .val (.ref a144), .val (.ref a184), .val (.ref a205), .val (.ref a184)]) rfl (pc' := 96) rfl ?_
    refine GoKit.aload G at_96 rfl rfl (pc' := 98) rfl ?_
    refine GoKit.aload G at_98 rfl rfl (pc' := 100) rfl ?_
    refine GoKit.acmp_ne_f G at_100 rfl rfl rfl (pc' := 103) rfl ?_
    refine GoKit.aload G at_103 rfl rfl (pc' := 105) rfl ?_
    refine GoKit.aload G at_105 rfl rfl (pc' := 107) rfl ?_
    refine GoKit.callVirtualP G at_107 (wi hw 92 rfl) (wi hw 93 rfl) (wi hw 95 rfl) (wi hw 94 rfl) (wi hw 8 rfl) (wi hw 96 rfl) (by decide) (S196.keep KP207).1 (W := 0) (argsL := [(.ref a184)]) (rest := []) (con_equalsSame l hw) rfl (lenOf pd_17 rfl) rfl (by decide) (Nat.le_of_eq rfl) (by decide) (by decide) (by decide) (cells' := 5) (slots' := 17) rfl rfl (pc' := 110) rfl ?_
    show Run _ _ _ _ _ _ _ _ _ _ _ _ _ _ _ _ _ _ _ _ (mkF m 110 #[.val (.int p0), .val (.int p1), .val (.int p2), .val (.int p3), .val (.int p4), .val (.int p5), .val (.int (4 : Int32)), .val (.ref a144), .val (.ref a184), .val (.ref a205), .val (.ref a184)] [(.int 1)])
    refine GoKit.if_eq_f G at_110 (by decide) (pc' := 113) rfl ?_
    refine GoKit.aload G at_113 rfl rfl (pc' := 115) rfl ?_
    refine GoKit.callVirtualP G at_115 (wi hw 97 rfl) (wi hw 59 rfl) (wi hw 61 rfl) (wi hw 60 rfl) (wi hw 8 rfl) (wi hw 62 rfl) (by decide) (S196.keep KP207).1 (W := 0) (argsL := []) (rest := []) (con_strlen l hw (S196.keep KP207) HC) rfl (lenOf pd_9 rfl) rfl (by decide) (Nat.le_of_eq rfl) (by decide) (by decide) (by decide) (cells' := 5) (slots' := 17) rfl rfl (pc' := 118) rfl ?_
    show Run _ _ _ _ _ _ _ _ _ _ _ _ _ _ _ _ _ _ _ _ (mkF m 118 #[.val (.int p0), .val (.int p1), .val (.int p2), .val (.int p3), .val (.int p4), .val (.int p5), .val (.int (4 : Int32)), .val (.ref a144), .val (.ref a184), .val (.ref a205), .val (.ref a184)] [(.int ([ch152, ch161, ch170, ch179]).length.toInt32)])
    refine GoKit.iload G at_118 rfl (pc' := 120) rfl ?_
    refine GoKit.icmp_ne_f G at_120 rfl (pc' := 123) rfl ?_
    refine GoKit.iconst G (1 : Int32) at_123 rfl (pc' := 124) rfl ?_
    refine GoKit.goto G at_124 (by decide) (pc' := 128) rfl ?_
    refine GoKit.retNar G at_128 (t := .boolean) rfl (by simp) (by decide) (by decide) ?_
    exact rfl
set_option maxRecDepth 65536 in
set_option maxHeartbeats 40000000 in
theorem comes_1 {Post : Tables → Env → Array Value → State → Outcome → State → Prop} (hpost : ∀ tb e args s v u, (limb_1_1.after args s (.returned v) u = true ∧ limb_1_2.after args s (.returned v) u = true ∧ True) → FrameEnd s (.returned v) u (Jvm.fieldLocs frame_1_writes args s ++ Jvm.arrayLocs frame_1_arrays args s ++ Jvm.staticLocs frame_1_statics s) 24 128 → Post tb e args s (.returned v) u) :
    ArmFor flags0 classFile x code maxLocals ret World_1 tables_1 room_1 Calls_1 rest_1 Pre_1 Post := by
  intro l hfl _ _ p e ha hc hk s m args below hf hA hF happ hP
  obtain ⟨hcalls, hrest, hpre⟩ := hP
  obtain ⟨-, -, -, hnamed, -, -, -, hat⟩ := (Spec.applies_iff hf).mp happ
  obtain ⟨hg, hn⟩ := and_e (Cond.before_iff.mp (show (Jvm.Cond.and given_1 narrow_1).before args s = true from hpre))
  obtain ⟨gc, g0⟩ := and_e hg
  obtain ⟨t0, g1⟩ := and_e g0
  obtain ⟨t1, g2⟩ := and_e g1
  obtain ⟨t2, g3⟩ := and_e g2
  obtain ⟨t3, g4⟩ := and_e g3
  obtain ⟨t4, g5⟩ := and_e g4
  have t5 := g5
  obtain ⟨w0, w1, w2, w3, w4, w5, rfl⟩ : ∃ w0 w1 w2 w3 w4 w5 : Value, args = #[w0, w1, w2, w3, w4, w5] := by
    have hs : args.size = 6 := by simpa [Cond.value, given_1] using gc
    obtain ⟨L⟩ := args
    match L, hs with
    | [w0, w1, w2, w3, w4, w5], _ => exact ⟨w0, w1, w2, w3, w4, w5, rfl⟩
  have hw := fun d (hd : d ∈ tables_1) => atoms_spec (ws := Jvm.Cond.code x code maxLocals ret :: tables_1) hat d (List.mem_cons_of_mem _ hd)
  have hfit : Fit s := fun {y c} hc i hi => by
    obtain ⟨ha, rfl⟩ := Array.getElem?_eq_some_iff.mp hc
    have q := List.all_eq_true.mp ((Array.all_eq_true_iff_forall_mem.mp hF) _ (Array.getElem_mem ha)) i (List.mem_range.mpr hi)
    simpa [Array.getElem?_eq_getElem hi] using q
  obtain ⟨hsets, hown0⟩ := atoms_of _ (rest_1_c_eq ▸ (show rest_1_c.before _ s = true from hrest))
  obtain ⟨i0, ei0⟩ := is_v t0
  obtain rfl : w0 = (.int i0) := Option.some.inj ei0
  obtain ⟨i1, ei1⟩ := is_v t1
  obtain rfl : w1 = (.int i1) := Option.some.inj ei1
  obtain ⟨i2, ei2⟩ := is_v t2
  obtain rfl : w2 = (.int i2) := Option.some.inj ei2
  obtain ⟨i3, ei3⟩ := is_v t3
  obtain rfl : w3 = (.int i3) := Option.some.inj ei3
  obtain ⟨i4, ei4⟩ := is_v t4
  obtain rfl : w4 = (.int i4) := Option.some.inj ei4
  obtain ⟨i5, ei5⟩ := is_v t5
  obtain rfl : w5 = (.int i5) := Option.some.inj ei5
  have HC : Cst s := by
    obtain ⟨cz, ecz⟩ := is_v (Cond.before_iff.mp (hsets _ (List.mem_of_getElem? (i := 1) rfl)))
    refine ⟨cz, Sta.start ecz (Or.inl (hsets _ (List.mem_of_getElem? (i := 0) rfl))), fun q => ?_⟩
    have := Cond.before_iff.mp (hsets _ (List.mem_of_getElem? (i := 2) rfl))
    subst q
    simp [Cond.value, ecz, Term.int_eval] at this
  have HF : Frm s := by
    have q := Cond.before_iff.mp (hsets _ (List.mem_of_getElem? (i := 8) rfl))
    cases ev : (Term.static "jdk/internal/util/Preconditions" "SIOOBE_FORMATTER" "Ljava/util/function/BiFunction;").eval #[.int i0, .int i1, .int i2, .int i3, .int i4, .int i5] s none [] s with
    | none => simp [Cond.value, ev] at q
    | some fv => exact ⟨fv, Sta.start ev (Or.inl (hsets _ (List.mem_of_getElem? (i := 7) rfl))), by cases fv <;> first | rfl | (simp [Cond.value, ev] at q)⟩
  have hCH : CHv s ELs s.vm s.heap := fun _ hp => nomatch hp
  obtain ⟨n, o, h1, h2, h3, v, L, rfl, rfl, N, -, -, hE, hWd⟩ := (con_law l hw i0 i1 i2 i3 i4 i5 HC HF) p e ha hc hk s m _ below hf ((Spec.applies_iff_loose hf).mp happ).1 ⟨rfl, State.Warmed39.refl s, rfl, Old.start s, hCH, all0⟩ trivial
  rcases hWd with hWd | hWd
  · cases hWd
  exact ⟨n, _, h1, h2, h3, hpost _ _ _ _ _ _ ⟨Cond.after_iff.mpr rfl, Cond.after_iff.mpr (eq_i res_at (Term.int_eval (1)) rfl), trivial⟩ ⟨hE.1, hWd, (hE.2.2.2.sift fun y hy => Or.inr (N y hy)).mono (by decide) (by decide)⟩⟩
theorem main_1_1 : Claimed_1_1 := comes_1 fun _ _ _ _ _ _ h hF => ⟨h.1, hF⟩
theorem main_1_2 : Claimed_1_2 := comes_1 fun _ _ _ _ _ _ h hF => ⟨h.2.1, hF⟩
end Jvm.Pilot.@@N@@
namespace Jvm.Pilot.@@N@@
open Jvm Jvm.ClassFile Sem Op Lib Jvm.Free Jvm.Stand Jvm.Pilot.@@N@@.Jvm.D
/-! MADE BY PROGRAM (witnessworld.py) out of the Statement's table words and the real class files: 20 classes; the members and pool entries that the words name. The judged class is class 1, her method 1. -/
namespace start1
open Jvm.ClassFile
def u (s : String) : CpInfo := .utf8 (stringToUtf16 s)
/-- a pool by its gaps: so many unusable entries, then the entry; so many at the end -/
def gap : Nat → List CpInfo → List CpInfo
  | 0, r => r
  | n + 1, r => .unusable :: gap n r
def poolList (es : List (Nat × CpInfo)) (last : Nat) : List CpInfo := es.foldr (fun e r => gap e.1 (e.2 :: r)) (gap last [])
def pool (es : List (Nat × CpInfo)) (last : Nat) : Array CpInfo := ⟨poolList es last⟩
def fileOf (pool : Array CpInfo) (this : Nat) (attrs : Array Attribute := #[]) (ms : Array MethodInfo := #[]) (fl : Nat := 33) (sup : Nat := 0) (ifs : Array Nat := #[]) (fds : Array FieldInfo := #[]) : ClassFile where
  minorVersion := 0
  majorVersion := 65
  constantPool := pool
  accessFlags := fl
  thisClass := this
  superClass := sup
  interfaces := ifs
  fields := fds
  methods := ms
  attributes := attrs
def plain (name : String) (sup : Option ClassId) : Class where
  name := name
  kind := .ordinary
  loader := none
  accessFlags := 33
  super := sup
  interfaces := #[]
  cf := none
  fields := #[]
  methods := #[]
  instanceTypes := #[]
  staticTypes := #[]
  resolved := #[]
  callSites := []
  init := .initialized
  statics := none
  mirror := none

def pool0 : Array CpInfo := pool [(5, u "<init>"), (0, u "()V"), (1, .class_ 10), (1, u "java/lang/Object")] 113

def k0c0 : Code := { maxStack := 0, maxLocals := 1, code := object_method_1_code, exceptionTable := #[], attributes := #[] }
def k0m0 : Method := { name := "<init>", desc := "()V", sig := { parameters := [], returnType := none }, accessFlags := 1, code := some k0c0 }
/-- java/lang/Object -/
def k0 : Class := { plain "java/lang/Object" none with
  accessFlags := 33
  interfaces := #[]
  cf := some (fileOf pool0 8 #[] #[{ accessFlags := 1, nameIndex := 5, descriptorIndex := 6, attributes := #[] }] 33 0 #[] #[])
  fields := #[]
  methods := #[k0m0]
  instanceTypes := #[]
  staticTypes := #[]
  resolved := Array.replicate 124 none
  statics := none }

def pool1 : Array CpInfo := pool [(2, .class_ 4), (1, u "java/lang/Object"), (0, u "<init>"), (0, u "()V"), (0, .methodref 8 9), (0, .class_ 10), (0, .nameAndType 11 12), (0, u "com/example/realmwarden/realmwarden/permission/NameCheckPinLaw"), (0, u "nameChar"), (0, u "(I)C"), (0, .class_ 14), (0, u "java/lang/String"), (0, .methodref 13 16), (0, .nameAndType 5 17), (0, u "([C)V"), (0, .methodref 13 19), (0, .nameAndType 20 21), (0, u "valueOf"), (0, u "(C)Ljava/lang/String;"), (0, .methodref 23 24), (0, .class_ 25), (0, .nameAndType 26 27), (0, u "com/example/realmwarden/realmwarden/permission/Name"), (0, u "check"), (0, u "(Ljava/lang/String;Ljava/lang/String;)Ljava/lang/String;"), (0, .methodref 13 29), (0, .nameAndType 30 31), (0, u "equals"), (0, u "(Ljava/lang/Object;)Z"), (0, .methodref 13 33), (0, .nameAndType 34 35), (0, u "length"), (0, u "()I"), (0, .integer 2147483647), (2, u "law"), (0, u "(IIIIII)Z")] 5

def k1m0 : Method := { name := "<init>", desc := "()V", sig := { parameters := [], returnType := none }, accessFlags := 1, code := none }
def k1c1 : Code := { maxStack := 3, maxLocals := 11, code := code, exceptionTable := #[], attributes := #[] }
def k1m1 : Method := { name := "law", desc := "(IIIIII)Z", sig := { parameters := [.int, .int, .int, .int, .int, .int], returnType := some .boolean }, accessFlags := 9, code := some k1c1 }
def k1c2 : Code := { maxStack := 3, maxLocals := 2, code := method_3_code, exceptionTable := #[], attributes := #[] }
def k1m2 : Method := { name := "nameChar", desc := "(I)C", sig := { parameters := [.int], returnType := some .char }, accessFlags := 10, code := some k1c2 }
/-- com/example/realmwarden/realmwarden/permission/NameCheckPinLaw -/
def k1 : Class := { plain "com/example/realmwarden/realmwarden/permission/NameCheckPinLaw" (some 0) with
  accessFlags := 49
  interfaces := #[]
  cf := some (fileOf pool1 8 #[] #[{ accessFlags := 1, nameIndex := 5, descriptorIndex := 6, attributes := #[] }, { accessFlags := 9, nameIndex := 39, descriptorIndex := 40, attributes := #[] }, { accessFlags := 10, nameIndex := 11, descriptorIndex := 12, attributes := #[] }] 49 2 #[] #[])
  fields := #[]
  methods := #[k1m0, k1m1, k1m2]
  instanceTypes := #[]
  staticTypes := #[]
  resolved := Array.replicate 46 none
  statics := none }

def pool2 : Array CpInfo := pool [(1, .class_ 2), (0, u "java/io/Serializable"), (0, .class_ 4), (0, u "java/lang/Object")] 2

/-- java/io/Serializable -/
def k2 : Class := { plain "java/io/Serializable" (some 0) with
  accessFlags := 1537
  interfaces := #[]
  cf := some (fileOf pool2 1 #[] #[] 1537 3 #[] #[])
  fields := #[]
  methods := #[]
  instanceTypes := #[]
  staticTypes := #[]
  resolved := Array.replicate 7 none
  statics := none }

def pool3 : Array CpInfo := pool [(1, .class_ 2), (0, u "java/lang/Comparable"), (0, .class_ 4), (0, u "java/lang/Object")] 7

/-- java/lang/Comparable -/
def k3 : Class := { plain "java/lang/Comparable" (some 0) with
  accessFlags := 1537
  interfaces := #[]
  cf := some (fileOf pool3 1 #[] #[] 1537 3 #[] #[])
  fields := #[]
  methods := #[]
  instanceTypes := #[]
  staticTypes := #[]
  resolved := Array.replicate 12 none
  statics := none }

def pool4 : Array CpInfo := pool [(2, .class_ 4), (1, u "java/lang/CharSequence"), (42, .class_ 48), (0, u "java/lang/CharSequence$1CodePointIterator"), (10, .class_ 60), (0, u "java/lang/CharSequence$1CharIterator"), (5, .class_ 67), (0, u "java/lang/Object")] 63

/-- java/lang/CharSequence -/
def k4 : Class := { plain "java/lang/CharSequence" (some 0) with
  accessFlags := 1537
  interfaces := #[]
  cf := some (fileOf pool4 2 #[.nestMembers #[47, 59]] #[] 1537 66 #[] #[])
  fields := #[]
  methods := #[]
  instanceTypes := #[]
  staticTypes := #[]
  resolved := Array.replicate 131 none
  statics := none }

def pool5 : Array CpInfo := pool [(1, .class_ 2), (0, u "java/lang/constant/Constable"), (0, .class_ 4), (0, u "java/lang/Object")] 6

/-- java/lang/constant/Constable -/
def k5 : Class := { plain "java/lang/constant/Constable" (some 0) with
  accessFlags := 1537
  interfaces := #[]
  cf := some (fileOf pool5 1 #[] #[] 1537 3 #[] #[])
  fields := #[]
  methods := #[]
  instanceTypes := #[]
  staticTypes := #[]
  resolved := Array.replicate 11 none
  statics := none }

def pool6 : Array CpInfo := pool [(1, .class_ 2), (0, u "java/lang/constant/ConstantDesc"), (0, .class_ 4), (0, u "java/lang/Object")] 32

/-- java/lang/constant/ConstantDesc -/
def k6 : Class := { plain "java/lang/constant/ConstantDesc" (some 0) with
  accessFlags := 1537
  interfaces := #[]
  cf := some (fileOf pool6 1 #[] #[] 1537 3 #[] #[])
  fields := #[]
  methods := #[]
  instanceTypes := #[]
  staticTypes := #[]
  resolved := Array.replicate 37 none
  statics := none }

def pool7 : Array CpInfo := pool [(1, .methodref 2 3), (0, .class_ 4), (0, .nameAndType 5 6), (0, u "java/lang/Object"), (0, u "<init>"), (0, u "()V"), (2, .fieldref 10 11), (0, .class_ 12), (0, .nameAndType 13 14), (0, u "java/lang/String"), (0, u "value"), (0, u "[B"), (0, .fieldref 10 16), (0, .nameAndType 17 18), (0, u "coder"), (0, u "B"), (2, u "hash"), (0, u "I"), (2, u "hashIsZero"), (0, u "Z"), (0, .methodref 10 28), (0, .nameAndType 5 29), (0, u "([CIILjava/lang/Void;)V"), (8, .fieldref 10 39), (0, .nameAndType 40 26), (0, u "COMPACT_STRINGS"), (1, .class_ 44), (1, u "java/lang/StringUTF16"), (0, u "compress"), (1, .methodref 42 48), (0, .nameAndType 49 50), (0, u "coderFromArrayLen"), (0, u "([BI)B"), (2, u "toBytes"), (53, .class_ 109), (1, u "java/lang/StringLatin1"), (32, u "()Z"), (34, .methodref 42 178), (0, .nameAndType 45 179), (0, u "([CII)[B"), (29, .methodref 10 210), (0, .nameAndType 5 211), (0, u "([BB)V"), (122, u "()I"), (0, .methodref 10 336), (0, .nameAndType 17 337), (0, u "()B"), (25, u "([BI)C"), (5, u "(C)Z"), (21, u "(II)V"), (35, u "(I)C"), (64, .methodref 10 493), (0, .nameAndType 494 142), (0, u "isLatin1"), (0, .methodref 107 496), (0, .nameAndType 497 363), (0, u "charAt"), (3, u "checkIndex"), (5, u "length"), (35, u "equals"), (29, u "(Ljava/lang/Object;)Z"), (1, .class_ 576), (0, u "java/lang/CharSequence"), (22, u "CASE_INSENSITIVE_ORDER"), (0, u "Ljava/util/Comparator;"), (91, u "isEmpty"), (89, u "valueOf"), (0, u "(C)Ljava/lang/String;"), (226, u "([C)V"), (4, .methodref 107 1016), (0, .nameAndType 1017 369), (0, u "canEncode"), (0, .methodref 107 1019), (0, .nameAndType 53 1020), (0, u "(C)[B"), (32, .fieldref 1054 1055), (0, .class_ 1056), (0, .nameAndType 1057 1058), (0, u "jdk/internal/util/Preconditions"), (0, u "SIOOBE_FORMATTER"), (0, u "Ljava/util/function/BiFunction;"), (0, .methodref 1054 1060), (0, .nameAndType 501 1061), (0, u "(IILjava/util/function/BiFunction;)I"), (39, u "serialPersistentFields"), (0, u "[Ljava/io/ObjectStreamField;"), (0, .class_ 1104), (0, u "java/lang/String$CaseInsensitiveComparator"), (1, .class_ 1107), (0, u "java/io/Serializable"), (0, .class_ 1109), (0, u "java/lang/Comparable"), (0, .class_ 1111), (0, u "java/lang/constant/Constable"), (0, .class_ 1113), (0, u "java/lang/constant/ConstantDesc"), (2, u "serialVersionUID"), (0, u "J"), (3, u "REPL"), (0, u "C"), (2, u "LATIN1"), (1, u "UTF16")] 323

def k7m0 : Method := { name := "<init>", desc := "()V", sig := { parameters := [], returnType := none }, accessFlags := 1, code := none }
def k7c1 : Code := { maxStack := 5, maxLocals := 2, code := jdk_42_method_3_code, exceptionTable := #[], attributes := #[] }
def k7m1 : Method := { name := "<init>", desc := "([C)V", sig := { parameters := [(.array .char)], returnType := none }, accessFlags := 1, code := some k7c1 }
def k7c2 : Code := { maxStack := 2, maxLocals := 1, code := jdk_42_method_54_code, exceptionTable := #[], attributes := #[] }
def k7m2 : Method := { name := "length", desc := "()I", sig := { parameters := [], returnType := some .int }, accessFlags := 1, code := some k7c2 }
def k7c3 : Code := { maxStack := 1, maxLocals := 1, code := jdk_42_method_55_code, exceptionTable := #[], attributes := #[] }
def k7m3 : Method := { name := "isEmpty", desc := "()Z", sig := { parameters := [], returnType := some .boolean }, accessFlags := 1, code := some k7c3 }
def k7c4 : Code := { maxStack := 2, maxLocals := 2, code := jdk_42_method_56_code, exceptionTable := #[], attributes := #[] }
def k7m4 : Method := { name := "charAt", desc := "(I)C", sig := { parameters := [.int], returnType := some .char }, accessFlags := 1, code := some k7c4 }
def k7c5 : Code := { maxStack := 2, maxLocals := 3, code := jdk_42_method_66_code, exceptionTable := #[], attributes := #[] }
def k7m5 : Method := { name := "equals", desc := "(Ljava/lang/Object;)Z", sig := { parameters := [(.object "java/lang/Object")], returnType := some .boolean }, accessFlags := 1, code := some k7c5 }
def k7c6 : Code := { maxStack := 4, maxLocals := 1, code := jdk_42_method_139_code, exceptionTable := #[], attributes := #[] }
def k7m6 : Method := { name := "valueOf", desc := "(C)Ljava/lang/String;", sig := { parameters := [.char], returnType := some (.object "java/lang/String") }, accessFlags := 9, code := some k7c6 }
def k7c7 : Code := { maxStack := 4, maxLocals := 6, code := jdk_42_method_149_code, exceptionTable := #[], attributes := #[] }
def k7m7 : Method := { name := "<init>", desc := "([CIILjava/lang/Void;)V", sig := { parameters := [(.array .char), .int, .int, (.object "java/lang/Void")], returnType := none }, accessFlags := 2, code := some k7c7 }
def k7c8 : Code := { maxStack := 2, maxLocals := 3, code := jdk_42_method_151_code, exceptionTable := #[], attributes := #[] }
def k7m8 : Method := { name := "<init>", desc := "([BB)V", sig := { parameters := [(.array .byte), .byte], returnType := none }, accessFlags := 0, code := some k7c8 }
def k7c9 : Code := { maxStack := 1, maxLocals := 1, code := jdk_42_method_152_code, exceptionTable := #[], attributes := #[] }
def k7m9 : Method := { name := "coder", desc := "()B", sig := { parameters := [], returnType := some .byte }, accessFlags := 0, code := some k7c9 }
def k7c10 : Code := { maxStack := 1, maxLocals := 1, code := jdk_42_method_154_code, exceptionTable := #[], attributes := #[] }
def k7m10 : Method := { name := "isLatin1", desc := "()Z", sig := { parameters := [], returnType := some .boolean }, accessFlags := 0, code := some k7c10 }
def k7c11 : Code := { maxStack := 3, maxLocals := 2, code := jdk_42_method_155_code, exceptionTable := #[], attributes := #[] }
def k7m11 : Method := { name := "checkIndex", desc := "(II)V", sig := { parameters := [.int, .int], returnType := none }, accessFlags := 8, code := some k7c11 }
/-- java/lang/String -/
def k7 : Class := { plain "java/lang/String" (some 0) with
  accessFlags := 49
  interfaces := #[2, 3, 4, 5, 6]
  cf := some (fileOf pool7 10 #[.nestMembers #[1103]] #[{ accessFlags := 1, nameIndex := 5, descriptorIndex := 6, attributes := #[] }, { accessFlags := 1, nameIndex := 5, descriptorIndex := 1010, attributes := #[] }, { accessFlags := 1, nameIndex := 507, descriptorIndex := 334, attributes := #[] }, { accessFlags := 1, nameIndex := 692, descriptorIndex := 142, attributes := #[] }, { accessFlags := 1, nameIndex := 497, descriptorIndex := 427, attributes := #[] }, { accessFlags := 1, nameIndex := 543, descriptorIndex := 573, attributes := #[] }, { accessFlags := 9, nameIndex := 782, descriptorIndex := 783, attributes := #[] }, { accessFlags := 2, nameIndex := 5, descriptorIndex := 29, attributes := #[] }, { accessFlags := 0, nameIndex := 5, descriptorIndex := 211, attributes := #[] }, { accessFlags := 0, nameIndex := 17, descriptorIndex := 337, attributes := #[] }, { accessFlags := 0, nameIndex := 494, descriptorIndex := 142, attributes := #[] }, { accessFlags := 8, nameIndex := 501, descriptorIndex := 391, attributes := #[] }] 49 2 #[1106, 1108, 575, 1110, 1112] #[{ accessFlags := 18, nameIndex := 13, descriptorIndex := 14, attributes := #[] }, { accessFlags := 18, nameIndex := 17, descriptorIndex := 18, attributes := #[] }, { accessFlags := 2, nameIndex := 21, descriptorIndex := 22, attributes := #[] }, { accessFlags := 2, nameIndex := 25, descriptorIndex := 26, attributes := #[] }, { accessFlags := 26, nameIndex := 1116, descriptorIndex := 1117, attributes := #[] }, { accessFlags := 24, nameIndex := 40, descriptorIndex := 26, attributes := #[] }, { accessFlags := 26, nameIndex := 1101, descriptorIndex := 1102, attributes := #[] }, { accessFlags := 26, nameIndex := 1121, descriptorIndex := 1122, attributes := #[] }, { accessFlags := 25, nameIndex := 599, descriptorIndex := 600, attributes := #[] }, { accessFlags := 24, nameIndex := 1125, descriptorIndex := 18, attributes := #[] }, { accessFlags := 24, nameIndex := 1127, descriptorIndex := 18, attributes := #[] }])
  fields := #[{ name := "value", type := (.array .byte), accessFlags := 18, slot := 0, constantValue := 0 }, { name := "coder", type := .byte, accessFlags := 18, slot := 1, constantValue := 0 }, { name := "hash", type := .int, accessFlags := 2, slot := 2, constantValue := 0 }, { name := "hashIsZero", type := .boolean, accessFlags := 2, slot := 3, constantValue := 0 }, { name := "serialVersionUID", type := .long, accessFlags := 26, slot := 0, constantValue := 0 }, { name := "COMPACT_STRINGS", type := .boolean, accessFlags := 24, slot := 1, constantValue := 0 }, { name := "serialPersistentFields", type := (.array (.object "java/io/ObjectStreamField")), accessFlags := 26, slot := 2, constantValue := 0 }, { name := "REPL", type := .char, accessFlags := 26, slot := 3, constantValue := 0 }, { name := "CASE_INSENSITIVE_ORDER", type := (.object "java/util/Comparator"), accessFlags := 25, slot := 4, constantValue := 0 }, { name := "LATIN1", type := .byte, accessFlags := 24, slot := 5, constantValue := 0 }, { name := "UTF16", type := .byte, accessFlags := 24, slot := 6, constantValue := 0 }]
  methods := #[k7m0, k7m1, k7m2, k7m3, k7m4, k7m5, k7m6, k7m7, k7m8, k7m9, k7m10, k7m11]
  instanceTypes := #[(.array .byte), .byte, .int, .boolean]
  staticTypes := #[.long, .boolean, (.array (.object "java/io/ObjectStreamField")), .char, (.object "java/util/Comparator"), .byte, .byte]
  resolved := Array.replicate 1451 none
  statics := some 0 }

def pool8 : Array CpInfo := pool [(6, .class_ 8), (1, u "java/lang/Object"), (0, u "<init>"), (0, u "()V"), (1, .class_ 14), (1, u "java/lang/StringUTF16"), (31, u "$assertionsDisabled"), (0, u "Z"), (13, u "HI_BYTE_SHIFT"), (0, u "I"), (2, u "LO_BYTE_SHIFT"), (49, .methodref 12 116), (0, .nameAndType 117 118), (0, u "compress"), (0, u "([CI[BII)I"), (3, u "([CII)[B"), (138, u "coderFromArrayLen"), (0, u "([BI)B"), (106, .class_ 371), (1, u "java/lang/StringUTF16$LinesSpliterator"), (58, u "MAX_LENGTH"), (196, .class_ 628), (0, u "java/lang/StringUTF16$CodePointsSpliterator"), (0, .class_ 630), (0, u "java/lang/StringUTF16$CharsSpliterator")] 4

def k8m0 : Method := { name := "<init>", desc := "()V", sig := { parameters := [], returnType := none }, accessFlags := 0, code := none }
def k8c1 : Code := { maxStack := 2, maxLocals := 2, code := jdk_52_method_15_code, exceptionTable := #[], attributes := #[] }
def k8m1 : Method := { name := "coderFromArrayLen", desc := "([BI)B", sig := { parameters := [(.array .byte), .int], returnType := some .byte }, accessFlags := 8, code := some k8c1 }
def k8c2 : Code := { maxStack := 5, maxLocals := 6, code := jdk_52_method_16_code, exceptionTable := #[], attributes := #[] }
def k8m2 : Method := { name := "compress", desc := "([CII)[B", sig := { parameters := [(.array .char), .int, .int], returnType := some (.array .byte) }, accessFlags := 9, code := some k8c2 }
def k8c3 : Code := { maxStack := 3, maxLocals := 7, code := jdk_52_method_21_code, exceptionTable := #[], attributes := #[] }
def k8m3 : Method := { name := "compress", desc := "([CI[BII)I", sig := { parameters := [(.array .char), .int, (.array .byte), .int, .int], returnType := some .int }, accessFlags := 9, code := some k8c3 }
/-- java/lang/StringUTF16 -/
def k8 : Class := { plain "java/lang/StringUTF16" (some 0) with
  accessFlags := 48
  interfaces := #[]
  cf := some (fileOf pool8 12 #[.nestMembers #[627, 629, 369]] #[{ accessFlags := 0, nameIndex := 9, descriptorIndex := 10, attributes := #[] }, { accessFlags := 8, nameIndex := 261, descriptorIndex := 262, attributes := #[] }, { accessFlags := 9, nameIndex := 117, descriptorIndex := 122, attributes := #[] }, { accessFlags := 9, nameIndex := 117, descriptorIndex := 118, attributes := #[] }] 48 6 #[] #[{ accessFlags := 26, nameIndex := 61, descriptorIndex := 62, attributes := #[] }, { accessFlags := 26, nameIndex := 65, descriptorIndex := 62, attributes := #[] }, { accessFlags := 24, nameIndex := 430, descriptorIndex := 62, attributes := #[] }, { accessFlags := 4120, nameIndex := 46, descriptorIndex := 47, attributes := #[] }])
  fields := #[{ name := "HI_BYTE_SHIFT", type := .int, accessFlags := 26, slot := 0, constantValue := 0 }, { name := "LO_BYTE_SHIFT", type := .int, accessFlags := 26, slot := 1, constantValue := 0 }, { name := "MAX_LENGTH", type := .int, accessFlags := 24, slot := 2, constantValue := 0 }, { name := "$assertionsDisabled", type := .boolean, accessFlags := 4120, slot := 3, constantValue := 0 }]
  methods := #[k8m0, k8m1, k8m2, k8m3]
  instanceTypes := #[]
  staticTypes := #[.int, .int, .int, .boolean]
  resolved := Array.replicate 635 none
  statics := none }

def pool9 : Array CpInfo := pool [(1, .class_ 2), (0, u "java/lang/String"), (1, .class_ 6), (1, u "java/lang/Object"), (0, u "<init>"), (0, u "()V"), (0, .methodref 1 10), (0, .nameAndType 11 12), (0, u "checkIndex"), (0, u "(II)V"), (1, .class_ 16), (1, u "java/lang/StringLatin1"), (36, u "([BI)C"), (36, u "canEncode"), (14, u "(C)Z"), (15, u "$assertionsDisabled"), (0, u "Z"), (98, .class_ 223), (1, u "java/lang/StringLatin1$LinesSpliterator"), (28, u "charAt"), (127, u "toBytes"), (1, u "(C)[B"), (7, .class_ 391), (0, u "java/lang/StringLatin1$CharsSpliterator")] 3

def k9m0 : Method := { name := "<init>", desc := "()V", sig := { parameters := [], returnType := none }, accessFlags := 0, code := none }
def k9c1 : Code := { maxStack := 2, maxLocals := 2, code := jdk_43_method_2_code, exceptionTable := #[], attributes := #[] }
def k9m1 : Method := { name := "charAt", desc := "([BI)C", sig := { parameters := [(.array .byte), .int], returnType := some .char }, accessFlags := 9, code := some k9c1 }
def k9c2 : Code := { maxStack := 2, maxLocals := 1, code := jdk_43_method_3_code, exceptionTable := #[], attributes := #[] }
def k9m2 : Method := { name := "canEncode", desc := "(C)Z", sig := { parameters := [.char], returnType := some .boolean }, accessFlags := 9, code := some k9c2 }
def k9c3 : Code := { maxStack := 4, maxLocals := 1, code := jdk_43_method_46_code, exceptionTable := #[], attributes := #[] }
def k9m3 : Method := { name := "toBytes", desc := "(C)[B", sig := { parameters := [.char], returnType := some (.array .byte) }, accessFlags := 9, code := some k9c3 }
/-- java/lang/StringLatin1 -/
def k9 : Class := { plain "java/lang/StringLatin1" (some 0) with
  accessFlags := 48
  interfaces := #[]
  cf := some (fileOf pool9 14 #[.nestMembers #[390, 221]] #[{ accessFlags := 0, nameIndex := 7, descriptorIndex := 8, attributes := #[] }, { accessFlags := 9, nameIndex := 252, descriptorIndex := 53, attributes := #[] }, { accessFlags := 9, nameIndex := 90, descriptorIndex := 105, attributes := #[] }, { accessFlags := 9, nameIndex := 380, descriptorIndex := 382, attributes := #[] }] 48 4 #[] #[{ accessFlags := 4120, nameIndex := 121, descriptorIndex := 122, attributes := #[] }])
  fields := #[{ name := "$assertionsDisabled", type := .boolean, accessFlags := 4120, slot := 0, constantValue := 0 }]
  methods := #[k9m0, k9m1, k9m2, k9m3]
  instanceTypes := #[]
  staticTypes := #[.boolean]
  resolved := Array.replicate 395 none
  statics := none }

def pool10 : Array CpInfo := pool [(2, .class_ 4), (1, u "java/lang/Object"), (0, u "<init>"), (0, u "()V"), (0, .methodref 8 9), (0, .class_ 10), (0, .nameAndType 11 12), (0, u "java/lang/String"), (0, u "isEmpty"), (0, u "()Z"), (0, .methodref 8 14), (0, .nameAndType 15 16), (0, u "length"), (0, u "()I"), (0, .methodref 8 18), (0, .nameAndType 19 20), (0, u "charAt"), (0, u "(I)C"), (0, .methodref 22 23), (0, .class_ 24), (0, .nameAndType 25 26), (0, u "com/example/realmwarden/realmwarden/permission/Name"), (0, u "isNameCharacter"), (0, u "(C)Z"), (5, u "(Ljava/lang/String;Ljava/lang/String;)Ljava/lang/String;"), (5, u "check")] 18

def k10m0 : Method := { name := "<init>", desc := "()V", sig := { parameters := [], returnType := none }, accessFlags := 2, code := none }
def k10c1 : Code := { maxStack := 4, maxLocals := 4, code := prog_21_method_2_code, exceptionTable := #[], attributes := #[] }
def k10m1 : Method := { name := "check", desc := "(Ljava/lang/String;Ljava/lang/String;)Ljava/lang/String;", sig := { parameters := [(.object "java/lang/String"), (.object "java/lang/String")], returnType := some (.object "java/lang/String") }, accessFlags := 9, code := some k10c1 }
def k10c2 : Code := { maxStack := 2, maxLocals := 1, code := prog_21_method_3_code, exceptionTable := #[], attributes := #[] }
def k10m2 : Method := { name := "isNameCharacter", desc := "(C)Z", sig := { parameters := [.char], returnType := some .boolean }, accessFlags := 10, code := some k10c2 }
/-- com/example/realmwarden/realmwarden/permission/Name -/
def k10 : Class := { plain "com/example/realmwarden/realmwarden/permission/Name" (some 0) with
  accessFlags := 49
  interfaces := #[]
  cf := some (fileOf pool10 22 #[] #[{ accessFlags := 2, nameIndex := 5, descriptorIndex := 6, attributes := #[] }, { accessFlags := 9, nameIndex := 38, descriptorIndex := 32, attributes := #[] }, { accessFlags := 10, nameIndex := 25, descriptorIndex := 26, attributes := #[] }] 49 2 #[] #[])
  fields := #[]
  methods := #[k10m0, k10m1, k10m2]
  instanceTypes := #[]
  staticTypes := #[]
  resolved := Array.replicate 57 none
  statics := none }

def pool11 : Array CpInfo := pool [(2, .class_ 4), (1, u "java/lang/Object"), (0, u "<init>"), (0, u "()V"), (17, .class_ 26), (1, u "jdk/internal/util/Preconditions"), (6, u "checkIndex"), (21, .class_ 56), (0, u "jdk/internal/util/Preconditions$4"), (57, .class_ 115), (0, u "jdk/internal/util/Preconditions$1"), (7, u "SIOOBE_FORMATTER"), (0, u "Ljava/util/function/BiFunction;"), (0, .class_ 126), (0, u "jdk/internal/util/Preconditions$2"), (3, u "AIOOBE_FORMATTER"), (0, .class_ 132), (0, u "jdk/internal/util/Preconditions$3"), (3, u "IOOBE_FORMATTER"), (41, u "(IILjava/util/function/BiFunction;)I")] 15

def k11m0 : Method := { name := "<init>", desc := "()V", sig := { parameters := [], returnType := none }, accessFlags := 1, code := none }
def k11c1 : Code := { maxStack := 3, maxLocals := 3, code := jdk_41_method_11_code, exceptionTable := #[], attributes := #[] }
def k11m1 : Method := { name := "checkIndex", desc := "(IILjava/util/function/BiFunction;)I", sig := { parameters := [.int, .int, (.object "java/util/function/BiFunction")], returnType := some .int }, accessFlags := 9, code := some k11c1 }
/-- jdk/internal/util/Preconditions -/
def k11 : Class := { plain "jdk/internal/util/Preconditions" (some 0) with
  accessFlags := 33
  interfaces := #[]
  cf := some (fileOf pool11 24 #[.nestMembers #[55, 131, 125, 114]] #[{ accessFlags := 1, nameIndex := 5, descriptorIndex := 6, attributes := #[] }, { accessFlags := 9, nameIndex := 33, descriptorIndex := 178, attributes := #[] }] 33 2 #[] #[{ accessFlags := 25, nameIndex := 123, descriptorIndex := 124, attributes := #[] }, { accessFlags := 25, nameIndex := 130, descriptorIndex := 124, attributes := #[] }, { accessFlags := 25, nameIndex := 136, descriptorIndex := 124, attributes := #[] }])
  fields := #[{ name := "SIOOBE_FORMATTER", type := (.object "java/util/function/BiFunction"), accessFlags := 25, slot := 0, constantValue := 0 }, { name := "AIOOBE_FORMATTER", type := (.object "java/util/function/BiFunction"), accessFlags := 25, slot := 1, constantValue := 0 }, { name := "IOOBE_FORMATTER", type := (.object "java/util/function/BiFunction"), accessFlags := 25, slot := 2, constantValue := 0 }]
  methods := #[k11m0, k11m1]
  instanceTypes := #[]
  staticTypes := #[(.object "java/util/function/BiFunction"), (.object "java/util/function/BiFunction"), (.object "java/util/function/BiFunction")]
  resolved := Array.replicate 194 none
  statics := some 1 }

def pool12 : Array CpInfo := pool [(9, u "<init>"), (6, .class_ 18), (1, u "java/lang/Object"), (0, u "()V"), (1, .class_ 23), (1, u "jdk/internal/util/ArraysSupport"), (0, u "LOG2_ARRAY_LONG_INDEX_SCALE"), (0, u "I"), (2, u "U"), (0, u "Ljdk/internal/misc/Unsafe;"), (8, u "BIG_ENDIAN"), (0, u "Z"), (8, u "LOG2_BYTE_BIT_SIZE"), (4, u "LOG2_ARRAY_INT_INDEX_SCALE"), (54, u "JLA"), (0, u "Ljdk/internal/access/JavaLangAccess;"), (11, u "LOG2_ARRAY_BOOLEAN_INDEX_SCALE"), (9, u "LOG2_ARRAY_BYTE_INDEX_SCALE"), (5, u "LOG2_ARRAY_CHAR_INDEX_SCALE"), (5, u "LOG2_ARRAY_SHORT_INDEX_SCALE"), (18, u "LOG2_ARRAY_FLOAT_INDEX_SCALE"), (24, u "LOG2_ARRAY_DOUBLE_INDEX_SCALE"), (89, u "T_BOOLEAN"), (2, u "T_CHAR"), (1, u "T_FLOAT"), (1, u "T_DOUBLE"), (1, u "T_BYTE"), (1, u "T_SHORT"), (1, u "T_INT"), (1, u "T_LONG"), (1, u "SOFT_MAX_ARRAY_LENGTH")] 83

def k12m0 : Method := { name := "<init>", desc := "()V", sig := { parameters := [], returnType := none }, accessFlags := 2, code := none }
/-- jdk/internal/util/ArraysSupport -/
def k12 : Class := { plain "jdk/internal/util/ArraysSupport" (some 0) with
  accessFlags := 33
  interfaces := #[]
  cf := some (fileOf pool12 21 #[] #[{ accessFlags := 2, nameIndex := 9, descriptorIndex := 19, attributes := #[] }] 33 16 #[] #[{ accessFlags := 24, nameIndex := 28, descriptorIndex := 29, attributes := #[] }, { accessFlags := 26, nameIndex := 38, descriptorIndex := 39, attributes := #[] }, { accessFlags := 25, nameIndex := 121, descriptorIndex := 25, attributes := #[] }, { accessFlags := 25, nameIndex := 131, descriptorIndex := 25, attributes := #[] }, { accessFlags := 25, nameIndex := 137, descriptorIndex := 25, attributes := #[] }, { accessFlags := 25, nameIndex := 143, descriptorIndex := 25, attributes := #[] }, { accessFlags := 25, nameIndex := 53, descriptorIndex := 25, attributes := #[] }, { accessFlags := 25, nameIndex := 24, descriptorIndex := 25, attributes := #[] }, { accessFlags := 25, nameIndex := 162, descriptorIndex := 25, attributes := #[] }, { accessFlags := 25, nameIndex := 187, descriptorIndex := 25, attributes := #[] }, { accessFlags := 26, nameIndex := 48, descriptorIndex := 25, attributes := #[] }, { accessFlags := 25, nameIndex := 277, descriptorIndex := 25, attributes := #[] }, { accessFlags := 25, nameIndex := 280, descriptorIndex := 25, attributes := #[] }, { accessFlags := 25, nameIndex := 282, descriptorIndex := 25, attributes := #[] }, { accessFlags := 25, nameIndex := 284, descriptorIndex := 25, attributes := #[] }, { accessFlags := 25, nameIndex := 286, descriptorIndex := 25, attributes := #[] }, { accessFlags := 25, nameIndex := 288, descriptorIndex := 25, attributes := #[] }, { accessFlags := 25, nameIndex := 290, descriptorIndex := 25, attributes := #[] }, { accessFlags := 25, nameIndex := 292, descriptorIndex := 25, attributes := #[] }, { accessFlags := 26, nameIndex := 108, descriptorIndex := 109, attributes := #[] }, { accessFlags := 25, nameIndex := 294, descriptorIndex := 25, attributes := #[] }])
  fields := #[{ name := "U", type := (.object "jdk/internal/misc/Unsafe"), accessFlags := 24, slot := 0, constantValue := 0 }, { name := "BIG_ENDIAN", type := .boolean, accessFlags := 26, slot := 1, constantValue := 0 }, { name := "LOG2_ARRAY_BOOLEAN_INDEX_SCALE", type := .int, accessFlags := 25, slot := 2, constantValue := 0 }, { name := "LOG2_ARRAY_BYTE_INDEX_SCALE", type := .int, accessFlags := 25, slot := 3, constantValue := 0 }, { name := "LOG2_ARRAY_CHAR_INDEX_SCALE", type := .int, accessFlags := 25, slot := 4, constantValue := 0 }, { name := "LOG2_ARRAY_SHORT_INDEX_SCALE", type := .int, accessFlags := 25, slot := 5, constantValue := 0 }, { name := "LOG2_ARRAY_INT_INDEX_SCALE", type := .int, accessFlags := 25, slot := 6, constantValue := 0 }, { name := "LOG2_ARRAY_LONG_INDEX_SCALE", type := .int, accessFlags := 25, slot := 7, constantValue := 0 }, { name := "LOG2_ARRAY_FLOAT_INDEX_SCALE", type := .int, accessFlags := 25, slot := 8, constantValue := 0 }, { name := "LOG2_ARRAY_DOUBLE_INDEX_SCALE", type := .int, accessFlags := 25, slot := 9, constantValue := 0 }, { name := "LOG2_BYTE_BIT_SIZE", type := .int, accessFlags := 26, slot := 10, constantValue := 0 }, { name := "T_BOOLEAN", type := .int, accessFlags := 25, slot := 11, constantValue := 0 }, { name := "T_CHAR", type := .int, accessFlags := 25, slot := 12, constantValue := 0 }, { name := "T_FLOAT", type := .int, accessFlags := 25, slot := 13, constantValue := 0 }, { name := "T_DOUBLE", type := .int, accessFlags := 25, slot := 14, constantValue := 0 }, { name := "T_BYTE", type := .int, accessFlags := 25, slot := 15, constantValue := 0 }, { name := "T_SHORT", type := .int, accessFlags := 25, slot := 16, constantValue := 0 }, { name := "T_INT", type := .int, accessFlags := 25, slot := 17, constantValue := 0 }, { name := "T_LONG", type := .int, accessFlags := 25, slot := 18, constantValue := 0 }, { name := "JLA", type := (.object "jdk/internal/access/JavaLangAccess"), accessFlags := 26, slot := 19, constantValue := 0 }, { name := "SOFT_MAX_ARRAY_LENGTH", type := .int, accessFlags := 25, slot := 20, constantValue := 0 }]
  methods := #[k12m0]
  instanceTypes := #[]
  staticTypes := #[(.object "jdk/internal/misc/Unsafe"), .boolean, .int, .int, .int, .int, .int, .int, .int, .int, .int, .int, .int, .int, .int, .int, .int, .int, .int, (.object "jdk/internal/access/JavaLangAccess"), .int]
  resolved := Array.replicate 378 none
  statics := none }

def pool13 : Array CpInfo := pool [(1, u "java/lang/Cloneable"), (0, .class_ 1), (0, u "java/lang/Object"), (0, .class_ 3)] 3

/-- java/lang/Cloneable -/
def k13 : Class := { plain "java/lang/Cloneable" (some 0) with
  accessFlags := 1537
  interfaces := #[]
  cf := some (fileOf pool13 2 #[] #[] 1537 4 #[] #[])
  fields := #[]
  methods := #[]
  instanceTypes := #[]
  staticTypes := #[]
  resolved := Array.replicate 8 none
  statics := none }

/-- the primitive byte -/
def k14 : Class := { plain "byte" none with kind := .primitive 'B', accessFlags := 0x411 }
/-- [B -/
def k15 : Class := { plain "[B" (some 0) with kind := .array 14 .byte, interfaces := #[13, 2], accessFlags := 1041 }

/-- the primitive char -/
def k16 : Class := { plain "char" none with kind := .primitive 'C', accessFlags := 0x411 }
/-- [C -/
def k17 : Class := { plain "[C" (some 0) with kind := .array 16 .char, interfaces := #[13, 2], accessFlags := 1041 }

/-- the primitive int -/
def k18 : Class := { plain "int" none with kind := .primitive 'I', accessFlags := 0x411 }
/-- [I -/
def k19 : Class := { plain "[I" (some 0) with kind := .array 18 .int, interfaces := #[13, 2], accessFlags := 1041 }

def heap : Heap := #[{ cls := 7, slots := #[.long 0, .int 1, .null, .int 0, .null, .int 0, .int 0], vm := .statics 7 },
  { cls := 11, slots := #[.null, .null, .null], vm := .statics 11 }]
def classes : Array Class := #[k0, k1, k2, k3, k4, k5, k6, k7, k8, k9, k10, k11, k12, k13, k14, k15, k16, k17, k18, k19]
def interned : List (Array UInt16 × Addr) := []
def slotsUsed : Nat := 10
def theMethod : MethodId := ⟨1, 1⟩
def args0 : Array Value := #[.int 5, .int 7, .int 3, .int 9, .int 3, .int 1]
def aboutOver (below : List Frame) : State where
  vm := { classes := classes, interned := interned.toArray }
  heap := heap
  slotsUsed := slotsUsed
  threads := #[{ frames := .invoking theMethod args0 :: below }]
def below0 : List Frame := [.native { method := ⟨0, 0⟩, args := #[] }]
def about1 : State := aboutOver below0
def p0 : Program := .bare "" "" ""
def e0 : Env := launch0.env 0 0 0
theorem w_frames : about1.frames = Frame.invoking theMethod args0 :: below0 := rfl
set_option maxRecDepth 65536 in
theorem w_args : argsFit about1.vm theMethod args0 = true := by decide +kernel
set_option maxRecDepth 65536 in
theorem w_heap : heapFits about1 = true := by decide +kernel
set_option maxRecDepth 65536 in
theorem w_runnable : about1.curStatus? = some .runnable := by decide +kernel
set_option maxRecDepth 65536 in
theorem w_alone : about1.alone = true := by decide +kernel
set_option maxRecDepth 65536 in
theorem w_named : about1.methodNamed? x = some theMethod := by decide +kernel
set_option maxRecDepth 65536 in
theorem w_hears : about1.hears theMethod below0 = true := by decide +kernel
set_option maxRecDepth 65536 in
theorem w_ripe : about1.ripe theMethod args0 below0 = true := by decide +kernel
theorem w_running : about1.status = .running := rfl
set_option maxRecDepth 65536 in
theorem w_room : about1.hasRoom e0.platform room_1 = true :=
  launch0.hasRoom_least _ room_1 (by decide +kernel) (by decide +kernel) (by decide +kernel) (by decide +kernel) (by decide +kernel) (by decide +kernel)
theorem allAtoms_all (ts : List Jvm.Cond) (a : Array Jvm.Value) (st : Jvm.State) : (allAtoms ts).before a st = ts.all (fun c => c.before a st) := by
  induction ts with
  | nil => rfl
  | cons c t ih =>
    show (Jvm.Cond.and c (allAtoms t)).before a st = _
    rw [Jvm.Cond.before_and, ih, List.all_cons]
def words1 : List Jvm.Cond := Jvm.Cond.code x code maxLocals ret :: tables_1
/-- a 'code' word, met by the world's own term for the bytes: nothing is compared byte by byte -/
theorem code_word {y : MethodName} {bytes : ByteArray} {mx : Nat} {rt : Option FieldType} {a : Array Value} {s : State} {m : MethodId} {meth : Method} {c : Code} (h1 : s.methodNamed? y = some m) (h2 : s.vm.method? m = some meth) (h3 : meth.code = some c) (h4 : c.code = bytes)
    (h5 : (c.maxLocals == mx && c.exceptionTable.isEmpty && decide (c.maxStack ≤ mostOperands) && decide (meth.sig.returnType = rt) && !meth.locks && decide (parseMethodDescriptor y.desc = some meth.sig)) = true) : (Jvm.Cond.code y bytes mx rt).before a s = true := by
  simp only [Bool.and_eq_true, beq_iff_eq, Bool.not_eq_true', decide_eq_true_eq] at h5
  obtain ⟨⟨⟨⟨⟨g1, g2⟩, g3⟩, g4⟩, g5⟩, g6⟩ := h5
  simp [Cond.before, Cond.holds, Cond.value, h1, h2, h3, h4, g1, g2, g3, g4, g5, g6]
def isCode : Jvm.Cond → Bool
  | .code _ _ _ _ => true
  | _ => false
theorem all_split {L : List Jvm.Cond} {P : Jvm.Cond → Bool} (h1 : L.all (fun c => isCode c || P c) = true) (h2 : ∀ c ∈ L.filter isCode, P c = true) : L.all P = true := by
  refine List.all_eq_true.mpr fun c hc => ?_
  have h := List.all_eq_true.mp h1 c hc
  rcases Bool.eq_false_or_eq_true (isCode c) with hi | hi
  · exact h2 c (List.mem_filter.mpr ⟨hc, hi⟩)
  · simpa [hi] using h
set_option maxRecDepth 65536 in
theorem w_c0 : (Jvm.Cond.code x code maxLocals ret).before args0 about1 = true := code_word (m := ⟨1, 1⟩) (meth := k1m1) (c := k1c1) (by decide +kernel) rfl rfl rfl (by decide +kernel)
set_option maxRecDepth 65536 in
theorem w_c1 : (Jvm.Cond.code ({ cls := "com/example/realmwarden/realmwarden/permission/NameCheckPinLaw", name := "nameChar", desc := "(I)C" } : Jvm.MethodName) method_3_code (2 : Nat) (Option.some Jvm.ClassFile.FieldType.char)).before args0 about1 = true := code_word (m := ⟨1, 2⟩) (meth := k1m2) (c := k1c2) (by decide +kernel) rfl rfl rfl (by decide +kernel)
set_option maxRecDepth 65536 in
theorem w_c2 : (Jvm.Cond.code ({ cls := "java/lang/String", name := "<init>", desc := "([C)V" } : Jvm.MethodName) jdk_42_method_3_code (2 : Nat) (Option.none : Option Jvm.ClassFile.FieldType)).before args0 about1 = true := code_word (m := ⟨7, 1⟩) (meth := k7m1) (c := k7c1) (by decide +kernel) rfl rfl rfl (by decide +kernel)
set_option maxRecDepth 65536 in
theorem w_c3 : (Jvm.Cond.code ({ cls := "java/lang/String", name := "<init>", desc := "([CIILjava/lang/Void;)V" } : Jvm.MethodName) jdk_42_method_149_code (6 : Nat) (Option.none : Option Jvm.ClassFile.FieldType)).before args0 about1 = true := code_word (m := ⟨7, 7⟩) (meth := k7m7) (c := k7c7) (by decide +kernel) rfl rfl rfl (by decide +kernel)
set_option maxRecDepth 65536 in
theorem w_c4 : (Jvm.Cond.code ({ cls := "java/lang/Object", name := "<init>", desc := "()V" } : Jvm.MethodName) object_method_1_code (1 : Nat) (Option.none : Option Jvm.ClassFile.FieldType)).before args0 about1 = true := code_word (m := ⟨0, 0⟩) (meth := k0m0) (c := k0c0) (by decide +kernel) rfl rfl rfl (by decide +kernel)
set_option maxRecDepth 65536 in
theorem w_c5 : (Jvm.Cond.code ({ cls := "java/lang/StringUTF16", name := "compress", desc := "([CII)[B" } : Jvm.MethodName) jdk_52_method_16_code (6 : Nat) (Option.some (Jvm.ClassFile.FieldType.array Jvm.ClassFile.FieldType.byte))).before args0 about1 = true := code_word (m := ⟨8, 2⟩) (meth := k8m2) (c := k8c2) (by decide +kernel) rfl rfl rfl (by decide +kernel)
set_option maxRecDepth 65536 in
theorem w_c6 : (Jvm.Cond.code ({ cls := "java/lang/StringUTF16", name := "compress", desc := "([CI[BII)I" } : Jvm.MethodName) jdk_52_method_21_code (7 : Nat) (Option.some Jvm.ClassFile.FieldType.int)).before args0 about1 = true := code_word (m := ⟨8, 3⟩) (meth := k8m3) (c := k8c3) (by decide +kernel) rfl rfl rfl (by decide +kernel)
set_option maxRecDepth 65536 in
theorem w_c7 : (Jvm.Cond.code ({ cls := "java/lang/StringUTF16", name := "coderFromArrayLen", desc := "([BI)B" } : Jvm.MethodName) jdk_52_method_15_code (2 : Nat) (Option.some Jvm.ClassFile.FieldType.byte)).before args0 about1 = true := code_word (m := ⟨8, 1⟩) (meth := k8m1) (c := k8c1) (by decide +kernel) rfl rfl rfl (by decide +kernel)
set_option maxRecDepth 65536 in
theorem w_c8 : (Jvm.Cond.code ({ cls := "java/lang/String", name := "valueOf", desc := "(C)Ljava/lang/String;" } : Jvm.MethodName) jdk_42_method_139_code (1 : Nat) (Option.some (Jvm.ClassFile.FieldType.object "java/lang/String"))).before args0 about1 = true := code_word (m := ⟨7, 6⟩) (meth := k7m6) (c := k7c6) (by decide +kernel) rfl rfl rfl (by decide +kernel)
set_option maxRecDepth 65536 in
theorem w_c9 : (Jvm.Cond.code ({ cls := "java/lang/StringLatin1", name := "canEncode", desc := "(C)Z" } : Jvm.MethodName) jdk_43_method_3_code (1 : Nat) (Option.some Jvm.ClassFile.FieldType.boolean)).before args0 about1 = true := code_word (m := ⟨9, 2⟩) (meth := k9m2) (c := k9c2) (by decide +kernel) rfl rfl rfl (by decide +kernel)
set_option maxRecDepth 65536 in
theorem w_c10 : (Jvm.Cond.code ({ cls := "java/lang/StringLatin1", name := "toBytes", desc := "(C)[B" } : Jvm.MethodName) jdk_43_method_46_code (1 : Nat) (Option.some (Jvm.ClassFile.FieldType.array Jvm.ClassFile.FieldType.byte))).before args0 about1 = true := code_word (m := ⟨9, 3⟩) (meth := k9m3) (c := k9c3) (by decide +kernel) rfl rfl rfl (by decide +kernel)
set_option maxRecDepth 65536 in
theorem w_c11 : (Jvm.Cond.code ({ cls := "java/lang/String", name := "<init>", desc := "([BB)V" } : Jvm.MethodName) jdk_42_method_151_code (3 : Nat) (Option.none : Option Jvm.ClassFile.FieldType)).before args0 about1 = true := code_word (m := ⟨7, 8⟩) (meth := k7m8) (c := k7c8) (by decide +kernel) rfl rfl rfl (by decide +kernel)
set_option maxRecDepth 65536 in
theorem w_c12 : (Jvm.Cond.code ({ cls := "com/example/realmwarden/realmwarden/permission/Name", name := "check", desc := "(Ljava/lang/String;Ljava/lang/String;)Ljava/lang/String;" } : Jvm.MethodName) prog_21_method_2_code (4 : Nat) (Option.some (Jvm.ClassFile.FieldType.object "java/lang/String"))).before args0 about1 = true := code_word (m := ⟨10, 1⟩) (meth := k10m1) (c := k10c1) (by decide +kernel) rfl rfl rfl (by decide +kernel)
set_option maxRecDepth 65536 in
theorem w_c13 : (Jvm.Cond.code ({ cls := "java/lang/String", name := "isEmpty", desc := "()Z" } : Jvm.MethodName) jdk_42_method_55_code (1 : Nat) (Option.some Jvm.ClassFile.FieldType.boolean)).before args0 about1 = true := code_word (m := ⟨7, 3⟩) (meth := k7m3) (c := k7c3) (by decide +kernel) rfl rfl rfl (by decide +kernel)
set_option maxRecDepth 65536 in
theorem w_c14 : (Jvm.Cond.code ({ cls := "java/lang/String", name := "length", desc := "()I" } : Jvm.MethodName) jdk_42_method_54_code (1 : Nat) (Option.some Jvm.ClassFile.FieldType.int)).before args0 about1 = true := code_word (m := ⟨7, 2⟩) (meth := k7m2) (c := k7c2) (by decide +kernel) rfl rfl rfl (by decide +kernel)
set_option maxRecDepth 65536 in
theorem w_c15 : (Jvm.Cond.code ({ cls := "java/lang/String", name := "coder", desc := "()B" } : Jvm.MethodName) jdk_42_method_152_code (1 : Nat) (Option.some Jvm.ClassFile.FieldType.byte)).before args0 about1 = true := code_word (m := ⟨7, 9⟩) (meth := k7m9) (c := k7c9) (by decide +kernel) rfl rfl rfl (by decide +kernel)
set_option maxRecDepth 65536 in
theorem w_c16 : (Jvm.Cond.code ({ cls := "java/lang/String", name := "charAt", desc := "(I)C" } : Jvm.MethodName) jdk_42_method_56_code (2 : Nat) (Option.some Jvm.ClassFile.FieldType.char)).before args0 about1 = true := code_word (m := ⟨7, 4⟩) (meth := k7m4) (c := k7c4) (by decide +kernel) rfl rfl rfl (by decide +kernel)
set_option maxRecDepth 65536 in
theorem w_c17 : (Jvm.Cond.code ({ cls := "java/lang/String", name := "isLatin1", desc := "()Z" } : Jvm.MethodName) jdk_42_method_154_code (1 : Nat) (Option.some Jvm.ClassFile.FieldType.boolean)).before args0 about1 = true := code_word (m := ⟨7, 10⟩) (meth := k7m10) (c := k7c10) (by decide +kernel) rfl rfl rfl (by decide +kernel)
set_option maxRecDepth 65536 in
theorem w_c18 : (Jvm.Cond.code ({ cls := "java/lang/StringLatin1", name := "charAt", desc := "([BI)C" } : Jvm.MethodName) jdk_43_method_2_code (2 : Nat) (Option.some Jvm.ClassFile.FieldType.char)).before args0 about1 = true := code_word (m := ⟨9, 1⟩) (meth := k9m1) (c := k9c1) (by decide +kernel) rfl rfl rfl (by decide +kernel)
set_option maxRecDepth 65536 in
theorem w_c19 : (Jvm.Cond.code ({ cls := "java/lang/String", name := "checkIndex", desc := "(II)V" } : Jvm.MethodName) jdk_42_method_155_code (2 : Nat) (Option.none : Option Jvm.ClassFile.FieldType)).before args0 about1 = true := code_word (m := ⟨7, 11⟩) (meth := k7m11) (c := k7c11) (by decide +kernel) rfl rfl rfl (by decide +kernel)
set_option maxRecDepth 65536 in
theorem w_c20 : (Jvm.Cond.code ({ cls := "jdk/internal/util/Preconditions", name := "checkIndex", desc := "(IILjava/util/function/BiFunction;)I" } : Jvm.MethodName) jdk_41_method_11_code (3 : Nat) (Option.some Jvm.ClassFile.FieldType.int)).before args0 about1 = true := code_word (m := ⟨11, 1⟩) (meth := k11m1) (c := k11c1) (by decide +kernel) rfl rfl rfl (by decide +kernel)
set_option maxRecDepth 65536 in
theorem w_c21 : (Jvm.Cond.code ({ cls := "com/example/realmwarden/realmwarden/permission/Name", name := "isNameCharacter", desc := "(C)Z" } : Jvm.MethodName) prog_21_method_3_code (1 : Nat) (Option.some Jvm.ClassFile.FieldType.boolean)).before args0 about1 = true := code_word (m := ⟨10, 2⟩) (meth := k10m2) (c := k10c2) (by decide +kernel) rfl rfl rfl (by decide +kernel)
set_option maxRecDepth 65536 in
theorem w_c22 : (Jvm.Cond.code ({ cls := "java/lang/String", name := "equals", desc := "(Ljava/lang/Object;)Z" } : Jvm.MethodName) jdk_42_method_66_code (3 : Nat) (Option.some Jvm.ClassFile.FieldType.boolean)).before args0 about1 = true := code_word (m := ⟨7, 5⟩) (meth := k7m5) (c := k7c5) (by decide +kernel) rfl rfl rfl (by decide +kernel)
def codes1 : List Jvm.Cond := [Jvm.Cond.code x code maxLocals ret, Jvm.Cond.code ({ cls := "com/example/realmwarden/realmwarden/permission/NameCheckPinLaw", name := "nameChar", desc := "(I)C" } : Jvm.MethodName) method_3_code (2 : Nat) (Option.some Jvm.ClassFile.FieldType.char), Jvm.Cond.code ({ cls := "java/lang/String", name := "<init>", desc := "([C)V" } : Jvm.MethodName) jdk_42_method_3_code (2 : Nat) (Option.none : Option Jvm.ClassFile.FieldType), Jvm.Cond.code ({ cls := "java/lang/String", name := "<init>", desc := "([CIILjava/lang/Void;)V" } : Jvm.MethodName) jdk_42_method_149_code (6 : Nat) (Option.none : Option Jvm.ClassFile.FieldType), Jvm.Cond.code ({ cls := "java/lang/Object", name := "<init>", desc := "()V" } : Jvm.MethodName) object_method_1_code (1 : Nat) (Option.none : Option Jvm.ClassFile.FieldType), Jvm.Cond.code ({ cls := "java/lang/StringUTF16", name := "compress", desc := "([CII)[B" } : Jvm.MethodName) jdk_52_method_16_code (6 : Nat) (Option.some (Jvm.ClassFile.FieldType.array Jvm.ClassFile.FieldType.byte)), Jvm.Cond.code ({ cls := "java/lang/StringUTF16", name := "compress", desc := "([CI[BII)I" } : Jvm.MethodName) jdk_52_method_21_code (7 : Nat) (Option.some Jvm.ClassFile.FieldType.int), Jvm.Cond.code ({ cls := "java/lang/StringUTF16", name := "coderFromArrayLen", desc := "([BI)B" } : Jvm.MethodName) jdk_52_method_15_code (2 : Nat) (Option.some Jvm.ClassFile.FieldType.byte), Jvm.Cond.code ({ cls := "java/lang/String", name := "valueOf", desc := "(C)Ljava/lang/String;" } : Jvm.MethodName) jdk_42_method_139_code (1 : Nat) (Option.some (Jvm.ClassFile.FieldType.object "java/lang/String")), Jvm.Cond.code ({ cls := "java/lang/StringLatin1", name := "canEncode", desc := "(C)Z" } : Jvm.MethodName) jdk_43_method_3_code (1 : Nat) (Option.some Jvm.ClassFile.FieldType.boolean), Jvm.Cond.code ({ cls := "java/lang/StringLatin1", name := "toBytes", desc := "(C)[B" } : Jvm.MethodName) jdk_43_method_46_code (1 : Nat) (Option.some (Jvm.ClassFile.FieldType.array Jvm.ClassFile.FieldType.byte)), Jvm.Cond.code ({ cls := "java/lang/String", name := "<init>", desc := "([BB)V" } : Jvm.MethodName) jdk_42_method_151_code (3 : Nat) (Option.none : Option Jvm.ClassFile.FieldType), Jvm.Cond.code ({ cls := "com/example/realmwarden/realmwarden/permission/Name", name := "check", desc := "(Ljava/lang/String;Ljava/lang/String;)Ljava/lang/String;" } : Jvm.MethodName) prog_21_method_2_code (4 : Nat) (Option.some (Jvm.ClassFile.FieldType.object "java/lang/String")), Jvm.Cond.code ({ cls := "java/lang/String", name := "isEmpty", desc := "()Z" } : Jvm.MethodName) jdk_42_method_55_code (1 : Nat) (Option.some Jvm.ClassFile.FieldType.boolean), Jvm.Cond.code ({ cls := "java/lang/String", name := "length", desc := "()I" } : Jvm.MethodName) jdk_42_method_54_code (1 : Nat) (Option.some Jvm.ClassFile.FieldType.int), Jvm.Cond.code ({ cls := "java/lang/String", name := "coder", desc := "()B" } : Jvm.MethodName) jdk_42_method_152_code (1 : Nat) (Option.some Jvm.ClassFile.FieldType.byte), Jvm.Cond.code ({ cls := "java/lang/String", name := "charAt", desc := "(I)C" } : Jvm.MethodName) jdk_42_method_56_code (2 : Nat) (Option.some Jvm.ClassFile.FieldType.char), Jvm.Cond.code ({ cls := "java/lang/String", name := "isLatin1", desc := "()Z" } : Jvm.MethodName) jdk_42_method_154_code (1 : Nat) (Option.some Jvm.ClassFile.FieldType.boolean), Jvm.Cond.code ({ cls := "java/lang/StringLatin1", name := "charAt", desc := "([BI)C" } : Jvm.MethodName) jdk_43_method_2_code (2 : Nat) (Option.some Jvm.ClassFile.FieldType.char), Jvm.Cond.code ({ cls := "java/lang/String", name := "checkIndex", desc := "(II)V" } : Jvm.MethodName) jdk_42_method_155_code (2 : Nat) (Option.none : Option Jvm.ClassFile.FieldType), Jvm.Cond.code ({ cls := "jdk/internal/util/Preconditions", name := "checkIndex", desc := "(IILjava/util/function/BiFunction;)I" } : Jvm.MethodName) jdk_41_method_11_code (3 : Nat) (Option.some Jvm.ClassFile.FieldType.int), Jvm.Cond.code ({ cls := "com/example/realmwarden/realmwarden/permission/Name", name := "isNameCharacter", desc := "(C)Z" } : Jvm.MethodName) prog_21_method_3_code (1 : Nat) (Option.some Jvm.ClassFile.FieldType.boolean), Jvm.Cond.code ({ cls := "java/lang/String", name := "equals", desc := "(Ljava/lang/Object;)Z" } : Jvm.MethodName) jdk_42_method_66_code (3 : Nat) (Option.some Jvm.ClassFile.FieldType.boolean)]
set_option maxRecDepth 65536 in
theorem codes_eq : words1.filter isCode = codes1 := rfl
theorem w_codes : ∀ c ∈ words1.filter isCode, c.before args0 about1 = true := by
  rw [codes_eq]
  intro c hc
  simp only [codes1, List.mem_cons, List.not_mem_nil, or_false] at hc
  rcases hc with rfl | rfl | rfl | rfl | rfl | rfl | rfl | rfl | rfl | rfl | rfl | rfl | rfl | rfl | rfl | rfl | rfl | rfl | rfl | rfl | rfl | rfl | rfl
  · exact w_c0
  · exact w_c1
  · exact w_c2
  · exact w_c3
  · exact w_c4
  · exact w_c5
  · exact w_c6
  · exact w_c7
  · exact w_c8
  · exact w_c9
  · exact w_c10
  · exact w_c11
  · exact w_c12
  · exact w_c13
  · exact w_c14
  · exact w_c15
  · exact w_c16
  · exact w_c17
  · exact w_c18
  · exact w_c19
  · exact w_c20
  · exact w_c21
  · exact w_c22
set_option maxRecDepth 65536 in
theorem w_t1 : (words1.take 24).all (fun c => isCode c || c.before args0 about1) = true := by decide +kernel
set_option maxRecDepth 65536 in
theorem w_t2 : ((words1.drop 24).take 24).all (fun c => isCode c || c.before args0 about1) = true := by decide +kernel
set_option maxRecDepth 65536 in
theorem w_t3 : (((words1.drop 24).drop 24).take 24).all (fun c => isCode c || c.before args0 about1) = true := by decide +kernel
set_option maxRecDepth 65536 in
theorem w_t4 : ((((words1.drop 24).drop 24).drop 24).take 24).all (fun c => isCode c || c.before args0 about1) = true := by decide +kernel
set_option maxRecDepth 65536 in
theorem w_t5 : ((((words1.drop 24).drop 24).drop 24).drop 24).all (fun c => isCode c || c.before args0 about1) = true := by decide +kernel
theorem w_tables : (allAtoms (Jvm.Cond.code x code maxLocals ret :: tables_1)).before args0 about1 = true := by
  rw [allAtoms_all]
  show words1.all (fun c => c.before args0 about1) = true
  refine all_split ?_ w_codes
  rw [← List.take_append_drop 24 words1, List.all_append, w_t1, ← List.take_append_drop 24 (words1.drop 24), List.all_append, w_t2, ← List.take_append_drop 24 ((words1.drop 24).drop 24), List.all_append, w_t3, ← List.take_append_drop 24 (((words1.drop 24).drop 24).drop 24), List.all_append, w_t4, w_t5]
  rfl
set_option maxRecDepth 65536 in
theorem w_rest : rest_1_c.before args0 about1 = true := by decide +kernel
set_option maxRecDepth 65536 in
theorem w_case : (Jvm.Cond.and given_1 narrow_1).before args0 about1 = true := by decide +kernel
theorem w_applies : (headSpec (Jvm.Cond.code x code maxLocals ret :: tables_1) room_1).applies x e0.platform about1 = true :=
  (Spec.applies_iff w_frames).mpr ⟨w_running, w_runnable, w_alone, w_named, w_hears, w_ripe, w_room, w_tables⟩
theorem atStart : AtStart classFile x code maxLocals ret World_1 tables_1 room_1 Calls_1 rest_1 Pre_1 launch0 p0 e0 about1 theMethod args0 below0 :=
  ⟨lists_1, trivial, launch0.admits_env _ _ _, launch0.least_env, fairChoices_fair.cas, fairChoices_fair.clock, w_frames, w_args, w_heap, w_applies, trivial, w_rest, w_case⟩
end start1
theorem witness_1 : WitnessClaimed_1 := ⟨start1.p0, start1.e0, start1.about1, start1.theMethod, start1.args0, start1.below0, start1.atStart⟩
end Jvm.Pilot.@@N@@
