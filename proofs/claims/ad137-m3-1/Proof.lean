import JvmDerived
import JvmDerived.Pilot.@@N@@Statement
import JvmDerived.Pilot.@@N@@Code
set_option linter.unusedVariables false
set_option linter.unusedSimpArgs false

namespace Jvm.GoKit
open Jvm Jvm.ClassFile Sem Op Lib Jvm.Free Jvm.Stand Jvm.LawKit Jvm.RoadKit Bundle
/-- what goes with a Stand over the re-based start -/
def Hid (s Z : State) (wd : Bool) (EL : List (String × Nat)) (n0 : Nat) (ow0 ow : List Addr) (T : State) (locs : List Loc) (vm0 : Vm) (k0 : Nat) (h : Heap) : Prop :=
  s.Since vm0 k0 ∧ k0 ≤ h.size ∧ Z.Warmed39 vm0 ∧ T.heap = h ∧ Fr n0 locs ∧ CHr Z EL s.vm s.heap vm0 h ∧ Keep s.heap h ow0 ∧ Old Z n0 h ∧ (∀ x ∈ ow, Safe Z EL vm0 h x ∧ x < h.size ∧ n0 ≤ x ∧ (x ∈ ow0 ∨ s.heap.size ≤ x)) ∧ (wd = true ∨ s.WarmedH vm0)
/-- what a body leaves -/
def FinS (s Z : State) (wd : Bool) (EL : List (String × Nat)) (n0 : Nat) (ow0 : List Addr) (R : Room) (Q : Option Value → Heap → Prop) (o : Outcome) (t : State) : Prop :=
  ∃ v L, o = .returned v ∧ Q v t.heap ∧ Fr n0 L ∧ CHr Z EL s.vm s.heap t.vm t.heap ∧ Keep s.heap t.heap ow0 ∧ ReturnedEndW s o t L R.cells R.slots ∧ (wd = true ∨ s.WarmedH t.vm)
/-- from wherever the walk stands with heap h at the frame g, the run ends in Q -/
def Run (p : Program) (l : Launch) (e : Env) (R : Room) (s : State) (m : MethodId) (args : Array Value) (below : List Frame) (meth : Method) (c : Code) (Z : State) (wd : Bool) (EL : List (String × Nat)) (n0 : Nat) (ow0 : List Addr) (Q : Option Value → Heap → Prop)
    (h : Heap) (ow : List Addr) (cells slots : Nat) (g : JFrame) : Prop :=
  ∀ (T : State) (locs : List Loc) (vm0 : Vm) (k0 : Nat), Stand p l e R (s.setVm vm0) m args below meth c T locs cells slots → Hid s Z wd EL n0 ow0 ow T locs vm0 k0 h →
    ∃ s₂ o, Steps p.tables e below (T.setTop g) s₂ ∧ s₂.status = .running ∧ Ended s₂ below o ∧ FinS s Z wd EL n0 ow0 R Q o s₂
/-- a method's contract -/
def Con (l : Launch) (Z : State) (wd : Bool) (EL : List (String × Nat)) (n0 : Nat) (y : MethodName) (bytes : ByteArray) (maxL : Nat) (ret : Option FieldType) (rm : Room) (ws : List Jvm.Cond) (as' : Array Value) (h0 : Heap) (ow : List Addr) (Q : Option Value → Heap → Prop) : Prop :=
  MetFree l y (head1 (Jvm.Cond.code y bytes maxL ret :: ws) rm) (fun a U => a = as' ∧ Z.Warmed39 U.vm ∧ U.heap = h0 ∧ Old Z n0 h0 ∧ CHv Z EL U.vm h0 ∧ ∀ x ∈ ow, Safe Z EL U.vm h0 x ∧ x < h0.size ∧ n0 ≤ x) (fun _ _ _ _ _ => True) (fun _ U o U' => FinS U Z wd EL n0 ow rm Q o U')
/-- what stays of a body -/
def Gd (p : Program) (s : State) (m : MethodId) (meth : Method) (c : Code) (y : MethodName) (bytes : ByteArray) (maxL : Nat) (ret : Option FieldType) (Z : State) (a0 : Array Value) (EL : List (String × Nat)) : Prop :=
  p.tables.exec = Jvm.exec ∧ c.code = bytes ∧ c.maxLocals = maxL ∧ s.vm.findClass y.cls = some m.cls ∧ meth.sig.returnType = ret ∧ meth.name = y.name ∧ meth.locks = false ∧ EW Z a0 EL
section
variable {p : Program} {l : Launch} {e : Env} {R : Room} {s : State} {m : MethodId} {args : Array Value} {below : List Frame} {meth : Method} {c : Code} {Z : State} {wd : Bool} {EL : List (String × Nat)} {n0 : Nat} {ow0 : List Addr} {Q : Option Value → Heap → Prop}
variable {h : Heap} {ow : List Addr} {cells slots cells' slots' : Nat} {pc pc' : Nat} {Ls Ls' : Array Slot} {st rest : List Value} {y : MethodName} {bytes : ByteArray} {maxL : Nat} {ret : Option FieldType} {a0 : Array Value}
theorem Con.intro {ws : List Jvm.Cond} {as' : Array Value} (hx : plainFor y = true) (hEL : EW Z a0 EL)
    (body : ∀ (p : Program) (e : Env) (s : State) (m : MethodId) (below : List Frame) (meth : Method) (c : Code), s.heap = h → Gd p s m meth c y bytes maxL ret Z a0 EL → Run p l e R s m as' below meth c Z wd EL n0 ow Q h ow 0 0 (entryFrame m as' maxL)) :
    Con l Z wd EL n0 y bytes maxL ret R ws as' h ow Q := by
  refine MetFree.of_bodySF hx hisR ?_
  intro p e s m args below meth c s₁ Bd hml0 hP hK
  obtain ⟨rfl, hZ, hh, hO, hC, hS⟩ := hP
  have e0 : s₁.heap = h := by rw [← hh, Bd.state]; rfl
  have X0 : Stand p l e R s m args below meth c s₁ [] 0 0 := Stand.of_body Bd
  refine body p e s m below meth c hh ⟨Bd.exec, Bd.bytes, hml0, findClass_of_methodNamed Bd.named, Bd.returns, (name_of_methodNamed Bd.named Bd.method).1, Bd.notSynchronized, hEL⟩ s₁ [] s.vm h.size X0 ?_
  have hc : CHr Z EL s.vm s.heap s.vm h := by rw [hh]; exact CHr.refl hC
  refine ⟨(State.WarmedH.refl s).since _, Nat.le_refl _, hZ, e0, Fr.nil _, hc, by rw [hh]; exact Keep.refl _ _, hO, fun x hx => ⟨(hS x hx).1, (hS x hx).2.1, (hS x hx).2.2, Or.inl hx⟩, Or.inr (State.WarmedH.refl s)⟩
theorem Run.stp {g g' : JFrame} (stp : ∀ (T : State) (locs : List Loc) (vm0 : Vm) (k0 : Nat), Stand p l e R (s.setVm vm0) m args below meth c T locs cells slots → Hid s Z wd EL n0 ow0 ow T locs vm0 k0 h → ∀ t, Steps p.tables e below (T.setTop g') t → Steps p.tables e below (T.setTop g) t)
    (K : Run p l e R s m args below meth c Z wd EL n0 ow0 Q h ow cells slots g') : Run p l e R s m args below meth c Z wd EL n0 ow0 Q h ow cells slots g := fun T locs vm0 k0 X H => by
  obtain ⟨s₂, o, a, b⟩ := K T locs vm0 k0 X H
  exact ⟨s₂, o, stp T locs vm0 k0 X H _ a, b⟩
theorem Run.mov {g g' : JFrame} (stp : ∀ (T : State) (locs : List Loc) (vm0 : Vm) (k0 : Nat), Stand p l e R (s.setVm vm0) m args below meth c T locs cells slots → Hid s Z wd EL n0 ow0 ow T locs vm0 k0 h →
      ∃ T', Stand p l e R (s.setVm vm0) m args below meth c T' locs cells slots ∧ T'.heap = h ∧ ∀ t, Steps p.tables e below (T'.setTop g') t → Steps p.tables e below (T.setTop g) t)
    (K : Run p l e R s m args below meth c Z wd EL n0 ow0 Q h ow cells slots g') : Run p l e R s m args below meth c Z wd EL n0 ow0 Q h ow cells slots g := fun T locs vm0 k0 X H => by
  obtain ⟨T', X', eT, st⟩ := stp T locs vm0 k0 X H
  obtain ⟨i1, i2, i3, -, i5⟩ := H
  obtain ⟨s₂, o, a, b⟩ := K T' locs vm0 k0 X' ⟨i1, i2, i3, eT, i5⟩
  exact ⟨s₂, o, st _ a, b⟩
theorem Run.mono {g : JFrame} {cells' slots' : Nat} (hc : cells ≤ cells') (hs : slots ≤ slots') (K : Run p l e R s m args below meth c Z wd EL n0 ow0 Q h ow cells' slots' g) : Run p l e R s m args below meth c Z wd EL n0 ow0 Q h ow cells slots g := fun T locs vm0 k0 X H => K T locs vm0 k0 (X.mono hc hs) H
theorem Run.owless {g : JFrame} {ow' : List Addr} (hs : ∀ x ∈ ow', x ∈ ow) (K : Run p l e R s m args below meth c Z wd EL n0 ow0 Q h ow' cells slots g) : Run p l e R s m args below meth c Z wd EL n0 ow0 Q h ow cells slots g := fun T locs vm0 k0 X H => by
  obtain ⟨i1, i2, i3, i4, i5, i6, i7, i8, i9, i10⟩ := H
  exact K T locs vm0 k0 X ⟨i1, i2, i3, i4, i5, i6, i7, i8, fun x q => i9 x (hs x q), i10⟩
/-- what is known at every point -/
theorem Run.know {g : JFrame} (K : Ext Z.heap h → Keep s.heap h ow0 → (∀ x ∈ ow, x < h.size ∧ n0 ≤ x ∧ (x ∈ ow0 ∨ s.heap.size ≤ x)) → Run p l e R s m args below meth c Z wd EL n0 ow0 Q h ow cells slots g) : Run p l e R s m args below meth c Z wd EL n0 ow0 Q h ow cells slots g := fun T locs vm0 k0 X H =>
  K H.2.2.2.2.2.2.2.1.2 H.2.2.2.2.2.2.1 (fun x q => (H.2.2.2.2.2.2.2.2.1 x q).2) T locs vm0 k0 X H
theorem Gd.own (G : Gd p s m meth c y bytes maxL ret Z a0 EL) {vm0 : Vm} {k0 : Nat} (hS : s.Since vm0 k0) : vm0.findClass y.cls = some m.cls := (hS.1.alike.findClass _ _).trans G.2.2.2.1
theorem Gd.hb (G : Gd p s m meth c y bytes maxL ret Z a0 EL) {pc : Nat} {r : Except ClassFile.DecodeError (ClassFile.Instr × Nat)} (h2 : ClassFile.decode bytes pc = r) : ClassFile.decode c.code pc = r := Jvm.hb G.2.1 h2
theorem Hid.cell {T : State} {locs : List Loc} {vm0 : Vm} {k0 : Nat} {a : Addr} {cl : Cell} {ty : FieldType} (H : Hid s Z wd EL n0 ow0 ow T locs vm0 k0 h) (A : Arr Z h a cl ty) : T.heap[a]? = some cl := by
  rw [H.2.2.2.1]; exact A.1
theorem Hid.arr {T : State} {locs : List Loc} {vm0 : Vm} {k0 : Nat} {a : Addr} {cl : Cell} {ty : FieldType} (H : Hid s Z wd EL n0 ow0 ow T locs vm0 k0 h) (A : Arr Z h a cl ty) : (s.setVm vm0).isArrayOf cl ty := State.isArrayOf_alike (T := s.setVm vm0) H.2.2.1.alike A.2.1
/-- a write at a place that is ours -/
theorem Hid.wr {T T' : State} {locs : List Loc} {vm0 : Vm} {k0 sl : Nat} {h' : Heap} {a : Addr} {v : Value} (H : Hid s Z wd EL n0 ow0 ow T locs vm0 k0 h) (W : Wr h h' a sl v) (ha : a ∈ ow) (eT : T'.heap = h') : Hid s Z wd EL n0 ow0 ow T' (locs ++ [⟨a, sl⟩]) vm0 k0 h' := by
  obtain ⟨i1, i2, i3, i4, i5, i6, i7, i8, i9, i10⟩ := H
  obtain ⟨S, q1, q2, q3⟩ := i9 a ha
  have hsz : h'.size = h.size := W.size
  refine ⟨i1, by rw [hsz]; exact i2, i3, eT, i5.app (fun y hy => by cases List.mem_singleton.mp hy; exact q2), i6.trans (CHr.wr W S i6.1), i7.wr W q3, i8.wr W q2, fun x hx => ?_, i10⟩
  obtain ⟨S', r1, r2, r3⟩ := i9 x hx
  exact ⟨Safe.wr W S i6.1 S', by rw [hsz]; exact r1, r2, r3⟩
theorem instNAt {T : State} {locs : List Loc} {vm0 : Vm} (X : Stand p l e R (s.setVm vm0) m args below meth c T locs cells slots) (hx : p.tables.exec = Jvm.exec) (hZ : Z.Warmed39 vm0) {own K D : String} {index : Nat} (hown : vm0.findClass own = some m.cls) (w : (Jvm.Cond.classLink own index K).before a0 Z = true) (eT : T.heap = h) {a : Addr} (F : Ins Z h a K false) (E : Exa Z h a D)
    {g : JFrame} (hg : g.method = m) {rest : List Value} (hs : g.stack = .ref a :: rest) (hd : decode c.code g.pc = .ok (.instanceof index, 3)) : ∃ T', Stand p l e R (s.setVm vm0) m args below meth c T' locs cells slots ∧ T'.heap = h ∧ ∀ target, Steps p.tables e below (T'.setTop { g with pc := g.pc + 3, stack := .int 0 :: rest }) target → Steps p.tables e below (T.setTop g) target := by
  obtain ⟨cell, cT, h1, h2, h3⟩ := F
  obtain ⟨cell', k, e1, -, e3, e4, -⟩ := E
  cases h1.symm.trans e1
  obtain ⟨k', q, -⟩ := hZ.alike.2.2 _ _ e3
  obtain ⟨vm', X', st⟩ := Sym.instanceofNoAt X hx hown (mv (s := s.setVm vm0) hZ w) (by rw [eT]; exact h1) e4 q (by show vm0.findClass K = _; rw [hZ.alike.findClass]; exact h2) (by show vm0.assignable _ _ = _; rw [hZ.alike.assignable]; simpa [e4] using h3) hg hs hd
  exact ⟨_, X', eT, st⟩
/-- a new cell -/
theorem Hid.ext {T T' : State} {locs : List Loc} {vm0 : Vm} {k0 : Nat} {h' : Heap} (H : Hid s Z wd EL n0 ow0 ow T locs vm0 k0 h) (E : Ext h h') (hlt : h.size < h'.size) (eT : T'.heap = h') : Hid s Z wd EL n0 ow0 (h.size :: ow) T' locs vm0 k0 h' := by
  obtain ⟨i1, i2, i3, i4, i5, i6, i7, i8, i9, i10⟩ := H
  refine ⟨i1, Nat.le_trans i2 E.1, i3, eT, i5, i6.trans (CHr.ext E i6.1), i7.ext E, i8.ext E, fun x hx => ?_, i10⟩
  rcases List.mem_cons.mp hx with rfl | hx
  · exact ⟨(Safe.new (Nat.le_refl _)).ext E i6.1, hlt, i8.1 ▸ i8.2.1, Or.inr i7.1⟩
  · obtain ⟨S', r1, r2, r3⟩ := i9 x hx
    exact ⟨S'.ext E i6.1, Nat.lt_of_lt_of_le r1 E.1, r2, r3⟩
theorem aloadN (G : Gd p s m meth c y bytes maxL ret Z a0 EL) {k : Fin 4} {v : Value} (hd : decode bytes pc = .ok (.aload_n k, 1)) (hl : Ls[k.val]? = some (.val v)) (hv : v.isRef = true) (hp : pc + 1 = pc') (K : Run p l e R s m args below meth c Z wd EL n0 ow0 Q h ow cells slots (mkF m pc' Ls (v :: st))) : Run p l e R s m args below meth c Z wd EL n0 ow0 Q h ow cells slots (mkF m pc Ls st) := by
  subst hp
  exact Run.stp (fun T locs vm0 k0 X H t k => XS.aloadN X.here G.1 rfl (G.hb hd) hl hv k) K
theorem aload (G : Gd p s m meth c y bytes maxL ret Z a0 EL) {k : Nat} {v : Value} (hd : decode bytes pc = .ok (.aload k, 2)) (hl : Ls[k]? = some (.val v)) (hv : v.isRef = true) (hp : pc + 2 = pc') (K : Run p l e R s m args below meth c Z wd EL n0 ow0 Q h ow cells slots (mkF m pc' Ls (v :: st))) : Run p l e R s m args below meth c Z wd EL n0 ow0 Q h ow cells slots (mkF m pc Ls st) := by
  subst hp
  exact Run.stp (fun T locs vm0 k0 X H t k => XS.aload X.here G.1 rfl (G.hb hd) hl hv k) K
theorem iloadN (G : Gd p s m meth c y bytes maxL ret Z a0 EL) {k : Fin 4} {v : Int32} (hd : decode bytes pc = .ok (.iload_n k, 1)) (hl : Ls[k.val]? = some (.val (.int v))) (hp : pc + 1 = pc') (K : Run p l e R s m args below meth c Z wd EL n0 ow0 Q h ow cells slots (mkF m pc' Ls (.int v :: st))) : Run p l e R s m args below meth c Z wd EL n0 ow0 Q h ow cells slots (mkF m pc Ls st) := by
  subst hp
  exact Run.stp (fun T locs vm0 k0 X H t k => XS.iloadN X.here G.1 rfl (G.hb hd) hl k) K
theorem iload (G : Gd p s m meth c y bytes maxL ret Z a0 EL) {k : Nat} {v : Int32} (hd : decode bytes pc = .ok (.iload k, 2)) (hl : Ls[k]? = some (.val (.int v))) (hp : pc + 2 = pc') (K : Run p l e R s m args below meth c Z wd EL n0 ow0 Q h ow cells slots (mkF m pc' Ls (.int v :: st))) : Run p l e R s m args below meth c Z wd EL n0 ow0 Q h ow cells slots (mkF m pc Ls st) := by
  subst hp
  exact Run.stp (fun T locs vm0 k0 X H t k => XS.iload X.here G.1 rfl (G.hb hd) hl k) K
theorem iconst (G : Gd p s m meth c y bytes maxL ret Z a0 EL) {i : Int} (v : Int32) (hd : decode bytes pc = .ok (.iconst i, 1)) (hv : Int32.ofInt i = v) (hp : pc + 1 = pc') (K : Run p l e R s m args below meth c Z wd EL n0 ow0 Q h ow cells slots (mkF m pc' Ls (.int v :: st))) : Run p l e R s m args below meth c Z wd EL n0 ow0 Q h ow cells slots (mkF m pc Ls st) := by
  subst hp
  exact Run.stp (fun T locs vm0 k0 X H t k => XT.iconstV X.here G.1 rfl v (G.hb hd) hv k) K
theorem bipush (G : Gd p s m meth c y bytes maxL ret Z a0 EL) {i : Int} (v : Int32) (hd : decode bytes pc = .ok (.bipush i, 2)) (hv : (Int8.ofInt i).toInt32 = v) (hp : pc + 2 = pc') (K : Run p l e R s m args below meth c Z wd EL n0 ow0 Q h ow cells slots (mkF m pc' Ls (.int v :: st))) : Run p l e R s m args below meth c Z wd EL n0 ow0 Q h ow cells slots (mkF m pc Ls st) := by
  subst hp
  exact Run.stp (fun T locs vm0 k0 X H t k => XT.bipushV X.here G.1 rfl v (G.hb hd) hv k) K
theorem sipush (G : Gd p s m meth c y bytes maxL ret Z a0 EL) {i : Int} (v : Int32) (hd : decode bytes pc = .ok (.sipush i, 3)) (hv : (Int16.ofInt i).toInt32 = v) (hp : pc + 3 = pc') (K : Run p l e R s m args below meth c Z wd EL n0 ow0 Q h ow cells slots (mkF m pc' Ls (.int v :: st))) : Run p l e R s m args below meth c Z wd EL n0 ow0 Q h ow cells slots (mkF m pc Ls st) := by
  subst hp
  exact Run.stp (fun T locs vm0 k0 X H t k => XT.sipushV X.here G.1 rfl v (G.hb hd) hv k) K
theorem aconstNull (G : Gd p s m meth c y bytes maxL ret Z a0 EL)  (hd : decode bytes pc = .ok (.aconst_null, 1))  (hp : pc + 1 = pc') (K : Run p l e R s m args below meth c Z wd EL n0 ow0 Q h ow cells slots (mkF m pc' Ls (.null :: st))) : Run p l e R s m args below meth c Z wd EL n0 ow0 Q h ow cells slots (mkF m pc Ls st) := by
  subst hp
  exact Run.stp (fun T locs vm0 k0 X H t k => XS.aconstNull X.here G.1 rfl (G.hb hd) k) K
theorem dup (G : Gd p s m meth c y bytes maxL ret Z a0 EL) {v : Value} (hd : decode bytes pc = .ok (.dup, 1)) (hv : v.category = 1) (hp : pc + 1 = pc') (K : Run p l e R s m args below meth c Z wd EL n0 ow0 Q h ow cells slots (mkF m pc' Ls (v :: v :: rest))) : Run p l e R s m args below meth c Z wd EL n0 ow0 Q h ow cells slots (mkF m pc Ls (v :: rest)) := by
  subst hp
  exact Run.stp (fun T locs vm0 k0 X H t k => XS.dup X.here G.1 rfl (G.hb hd) rfl hv k) K
theorem pop (G : Gd p s m meth c y bytes maxL ret Z a0 EL) {v : Value} (hd : decode bytes pc = .ok (.pop, 1)) (hv : v.category = 1) (hp : pc + 1 = pc') (K : Run p l e R s m args below meth c Z wd EL n0 ow0 Q h ow cells slots (mkF m pc' Ls rest)) : Run p l e R s m args below meth c Z wd EL n0 ow0 Q h ow cells slots (mkF m pc Ls (v :: rest)) := by
  subst hp
  exact Run.stp (fun T locs vm0 k0 X H t k => XT.pop X.here G.1 rfl (G.hb hd) rfl hv k) K
theorem dupX1 (G : Gd p s m meth c y bytes maxL ret Z a0 EL) {v w : Value} (hd : decode bytes pc = .ok (.dup_x1, 1)) (hv : v.category = 1) (hw : w.category = 1) (hp : pc + 1 = pc') (K : Run p l e R s m args below meth c Z wd EL n0 ow0 Q h ow cells slots (mkF m pc' Ls (v :: w :: v :: rest))) : Run p l e R s m args below meth c Z wd EL n0 ow0 Q h ow cells slots (mkF m pc Ls (v :: w :: rest)) := by
  subst hp
  exact Run.stp (fun T locs vm0 k0 X H t k => XT.dupX1 X.here G.1 rfl (G.hb hd) rfl hv hw k) K
theorem istoreN (G : Gd p s m meth c y bytes maxL ret Z a0 EL) {k : Fin 4} {x : Int32} (hd : decode bytes pc = .ok (.istore_n k, 1)) (hl : storeLocals Ls k.val (.int x) = some Ls') (hp : pc + 1 = pc') (K : Run p l e R s m args below meth c Z wd EL n0 ow0 Q h ow cells slots (mkF m pc' Ls' rest)) : Run p l e R s m args below meth c Z wd EL n0 ow0 Q h ow cells slots (mkF m pc Ls (.int x :: rest)) := by
  subst hp
  exact Run.stp (fun T locs vm0 k0 X H t k => XS.istoreN X.here G.1 rfl (G.hb hd) rfl hl k) K
theorem istore (G : Gd p s m meth c y bytes maxL ret Z a0 EL) {k : Nat} {x : Int32} (hd : decode bytes pc = .ok (.istore k, 2)) (hl : storeLocals Ls k (.int x) = some Ls') (hp : pc + 2 = pc') (K : Run p l e R s m args below meth c Z wd EL n0 ow0 Q h ow cells slots (mkF m pc' Ls' rest)) : Run p l e R s m args below meth c Z wd EL n0 ow0 Q h ow cells slots (mkF m pc Ls (.int x :: rest)) := by
  subst hp
  exact Run.stp (fun T locs vm0 k0 X H t k => XS.istore X.here G.1 rfl (G.hb hd) rfl hl k) K
theorem astoreN (G : Gd p s m meth c y bytes maxL ret Z a0 EL) {k : Fin 4} {x : Value} (hd : decode bytes pc = .ok (.astore_n k, 1)) (hv : x.isRef = true) (hl : storeLocals Ls k.val x = some Ls') (hp : pc + 1 = pc') (K : Run p l e R s m args below meth c Z wd EL n0 ow0 Q h ow cells slots (mkF m pc' Ls' rest)) : Run p l e R s m args below meth c Z wd EL n0 ow0 Q h ow cells slots (mkF m pc Ls (x :: rest)) := by
  subst hp
  exact Run.stp (fun T locs vm0 k0 X H t k => XS.astoreN X.here G.1 rfl (G.hb hd) rfl hv hl k) K
theorem astore (G : Gd p s m meth c y bytes maxL ret Z a0 EL) {k : Nat} {x : Value} (hd : decode bytes pc = .ok (.astore k, 2)) (hv : x.isRef = true) (hl : storeLocals Ls k x = some Ls') (hp : pc + 2 = pc') (K : Run p l e R s m args below meth c Z wd EL n0 ow0 Q h ow cells slots (mkF m pc' Ls' rest)) : Run p l e R s m args below meth c Z wd EL n0 ow0 Q h ow cells slots (mkF m pc Ls (x :: rest)) := by
  subst hp
  exact Run.stp (fun T locs vm0 k0 X H t k => XS.astore X.here G.1 rfl (G.hb hd) rfl hv hl k) K
theorem iinc (G : Gd p s m meth c y bytes maxL ret Z a0 EL) {k : Nat} {i : Int} {x : Int32} (v : Int32) (hd : decode bytes pc = .ok (.iinc k i, 3)) (hv : Int32.ofInt i = v) (hl : Ls[k]? = some (.val (.int x))) (hl' : storeLocals Ls k (.int (x + v)) = some Ls') (hp : pc + 3 = pc') (K : Run p l e R s m args below meth c Z wd EL n0 ow0 Q h ow cells slots (mkF m pc' Ls' st)) : Run p l e R s m args below meth c Z wd EL n0 ow0 Q h ow cells slots (mkF m pc Ls st) := by
  subst hp
  exact Run.stp (fun T locs vm0 k0 X H t k => XT.iincV X.here G.1 rfl v (G.hb hd) hv hl hl' k) K
theorem iadd (G : Gd p s m meth c y bytes maxL ret Z a0 EL) {x z : Int32} (hd : decode bytes pc = .ok (.iadd, 1))  (hp : pc + 1 = pc') (K : ∀ v : Int32, v = x + z → Run p l e R s m args below meth c Z wd EL n0 ow0 Q h ow cells slots (mkF m pc' Ls (.int v :: rest))) : Run p l e R s m args below meth c Z wd EL n0 ow0 Q h ow cells slots (mkF m pc Ls (.int z :: .int x :: rest)) := by
  subst hp
  exact Run.stp (fun T locs vm0 k0 X H t k => XS.iadd X.here G.1 rfl (G.hb hd) rfl k) (K _ rfl)
theorem isub (G : Gd p s m meth c y bytes maxL ret Z a0 EL) {x z : Int32} (hd : decode bytes pc = .ok (.isub, 1))  (hp : pc + 1 = pc') (K : ∀ v : Int32, v = x - z → Run p l e R s m args below meth c Z wd EL n0 ow0 Q h ow cells slots (mkF m pc' Ls (.int v :: rest))) : Run p l e R s m args below meth c Z wd EL n0 ow0 Q h ow cells slots (mkF m pc Ls (.int z :: .int x :: rest)) := by
  subst hp
  exact Run.stp (fun T locs vm0 k0 X H t k => XS.isub X.here G.1 rfl (G.hb hd) rfl k) (K _ rfl)
theorem iand (G : Gd p s m meth c y bytes maxL ret Z a0 EL) {x z : Int32} (hd : decode bytes pc = .ok (.iand, 1))  (hp : pc + 1 = pc') (K : ∀ v : Int32, v = x &&& z → Run p l e R s m args below meth c Z wd EL n0 ow0 Q h ow cells slots (mkF m pc' Ls (.int v :: rest))) : Run p l e R s m args below meth c Z wd EL n0 ow0 Q h ow cells slots (mkF m pc Ls (.int z :: .int x :: rest)) := by
  subst hp
  exact Run.stp (fun T locs vm0 k0 X H t k => XS.iand X.here G.1 rfl (G.hb hd) rfl k) (K _ rfl)
theorem imul (G : Gd p s m meth c y bytes maxL ret Z a0 EL) {x z : Int32} (hd : decode bytes pc = .ok (.imul, 1))  (hp : pc + 1 = pc') (K : ∀ v : Int32, v = x * z → Run p l e R s m args below meth c Z wd EL n0 ow0 Q h ow cells slots (mkF m pc' Ls (.int v :: rest))) : Run p l e R s m args below meth c Z wd EL n0 ow0 Q h ow cells slots (mkF m pc Ls (.int z :: .int x :: rest)) := by
  subst hp
  exact Run.stp (fun T locs vm0 k0 X H t k => XS.imul X.here G.1 rfl (G.hb hd) rfl k) (K _ rfl)
theorem ior (G : Gd p s m meth c y bytes maxL ret Z a0 EL) {x z : Int32} (hd : decode bytes pc = .ok (.ior, 1))  (hp : pc + 1 = pc') (K : ∀ v : Int32, v = x ||| z → Run p l e R s m args below meth c Z wd EL n0 ow0 Q h ow cells slots (mkF m pc' Ls (.int v :: rest))) : Run p l e R s m args below meth c Z wd EL n0 ow0 Q h ow cells slots (mkF m pc Ls (.int z :: .int x :: rest)) := by
  subst hp
  exact Run.stp (fun T locs vm0 k0 X H t k => XT.ior X.here G.1 rfl (G.hb hd) rfl k) (K _ rfl)
theorem ixor (G : Gd p s m meth c y bytes maxL ret Z a0 EL) {x z : Int32} (hd : decode bytes pc = .ok (.ixor, 1))  (hp : pc + 1 = pc') (K : ∀ v : Int32, v = x ^^^ z → Run p l e R s m args below meth c Z wd EL n0 ow0 Q h ow cells slots (mkF m pc' Ls (.int v :: rest))) : Run p l e R s m args below meth c Z wd EL n0 ow0 Q h ow cells slots (mkF m pc Ls (.int z :: .int x :: rest)) := by
  subst hp
  exact Run.stp (fun T locs vm0 k0 X H t k => XT.ixor X.here G.1 rfl (G.hb hd) rfl k) (K _ rfl)
theorem irem (G : Gd p s m meth c y bytes maxL ret Z a0 EL) {x z : Int32} (hd : decode bytes pc = .ok (.irem, 1)) (hz : z ≠ 0) (hp : pc + 1 = pc') (K : ∀ v : Int32, v = x % z → Run p l e R s m args below meth c Z wd EL n0 ow0 Q h ow cells slots (mkF m pc' Ls (.int v :: rest))) : Run p l e R s m args below meth c Z wd EL n0 ow0 Q h ow cells slots (mkF m pc Ls (.int z :: .int x :: rest)) := by
  subst hp
  exact Run.stp (fun T locs vm0 k0 X H t k => iremM X G.1 rfl (G.hb hd) rfl hz k) (K _ rfl)
theorem ineg (G : Gd p s m meth c y bytes maxL ret Z a0 EL) {x : Int32} (hd : decode bytes pc = .ok (.ineg, 1)) (hp : pc + 1 = pc') (K : ∀ v : Int32, v = -x → Run p l e R s m args below meth c Z wd EL n0 ow0 Q h ow cells slots (mkF m pc' Ls (.int v :: rest))) : Run p l e R s m args below meth c Z wd EL n0 ow0 Q h ow cells slots (mkF m pc Ls (.int x :: rest)) := by
  subst hp
  exact Run.stp (fun T locs vm0 k0 X H t k => XS.ineg X.here G.1 rfl (G.hb hd) rfl k) (K _ rfl)
theorem i2c (G : Gd p s m meth c y bytes maxL ret Z a0 EL) {x : Int32} (hd : decode bytes pc = .ok (.i2c, 1)) (hp : pc + 1 = pc') (K : ∀ v : Int32, v = x.toUInt32.toUInt16.toUInt32.toInt32 → Run p l e R s m args below meth c Z wd EL n0 ow0 Q h ow cells slots (mkF m pc' Ls (.int v :: rest))) : Run p l e R s m args below meth c Z wd EL n0 ow0 Q h ow cells slots (mkF m pc Ls (.int x :: rest)) := by
  subst hp
  exact Run.stp (fun T locs vm0 k0 X H t k => XT.i2c X.here G.1 rfl (G.hb hd) rfl k) (K _ rfl)
theorem i2b (G : Gd p s m meth c y bytes maxL ret Z a0 EL) {x : Int32} (hd : decode bytes pc = .ok (.i2b, 1)) (hp : pc + 1 = pc') (K : ∀ v : Int32, v = x.toInt8.toInt32 → Run p l e R s m args below meth c Z wd EL n0 ow0 Q h ow cells slots (mkF m pc' Ls (.int v :: rest))) : Run p l e R s m args below meth c Z wd EL n0 ow0 Q h ow cells slots (mkF m pc Ls (.int x :: rest)) := by
  subst hp
  exact Run.stp (fun T locs vm0 k0 X H t k => XT.i2b X.here G.1 rfl (G.hb hd) rfl k) (K _ rfl)
theorem ishl (G : Gd p s m meth c y bytes maxL ret Z a0 EL) {x z : Int32} (hd : decode bytes pc = .ok (.ishl, 1))  (hp : pc + 1 = pc') (K : ∀ v : Int32, v = x <<< (z &&& 31) → Run p l e R s m args below meth c Z wd EL n0 ow0 Q h ow cells slots (mkF m pc' Ls (.int v :: rest))) : Run p l e R s m args below meth c Z wd EL n0 ow0 Q h ow cells slots (mkF m pc Ls (.int z :: .int x :: rest)) := by
  subst hp
  exact Run.stp (fun T locs vm0 k0 X H t k => XT.ishl X.here G.1 rfl (G.hb hd) rfl k) (K _ rfl)
theorem ishr (G : Gd p s m meth c y bytes maxL ret Z a0 EL) {x z : Int32} (hd : decode bytes pc = .ok (.ishr, 1))  (hp : pc + 1 = pc') (K : ∀ v : Int32, v = x >>> (z &&& 31) → Run p l e R s m args below meth c Z wd EL n0 ow0 Q h ow cells slots (mkF m pc' Ls (.int v :: rest))) : Run p l e R s m args below meth c Z wd EL n0 ow0 Q h ow cells slots (mkF m pc Ls (.int z :: .int x :: rest)) := by
  subst hp
  exact Run.stp (fun T locs vm0 k0 X H t k => XT.ishr X.here G.1 rfl (G.hb hd) rfl k) (K _ rfl)
theorem iushr (G : Gd p s m meth c y bytes maxL ret Z a0 EL) {x z : Int32} (hd : decode bytes pc = .ok (.iushr, 1))  (hp : pc + 1 = pc') (K : ∀ v : Int32, v = (x.toUInt32 >>> (z &&& 31).toUInt32).toInt32 → Run p l e R s m args below meth c Z wd EL n0 ow0 Q h ow cells slots (mkF m pc' Ls (.int v :: rest))) : Run p l e R s m args below meth c Z wd EL n0 ow0 Q h ow cells slots (mkF m pc Ls (.int z :: .int x :: rest)) := by
  subst hp
  exact Run.stp (fun T locs vm0 k0 X H t k => XT.iushr X.here G.1 rfl (G.hb hd) rfl k) (K _ rfl)
theorem goto (G : Gd p s m meth c y bytes maxL ret Z a0 EL) {o : Int} (hd : decode bytes pc = .ok (.goto o, 3)) (ho : 0 ≤ (pc : Int) + o) (hp : ((pc : Int) + o).toNat = pc') (K : Run p l e R s m args below meth c Z wd EL n0 ow0 Q h ow cells slots (mkF m pc' Ls st)) : Run p l e R s m args below meth c Z wd EL n0 ow0 Q h ow cells slots (mkF m pc Ls st) :=
  Run.stp (fun T locs vm0 k0 X H t k => XS.goto X.here G.1 rfl rfl (G.hb hd) ho hp k) K
theorem icmp_eq_t (G : Gd p s m meth c y bytes maxL ret Z a0 EL) {o : Int} {x z : Int32} (hd : decode bytes pc = .ok (.if_icmp .eq o, 3)) (hc : x = z) (ho : 0 ≤ (pc : Int) + o) (hp : ((pc : Int) + o).toNat = pc') (K : Run p l e R s m args below meth c Z wd EL n0 ow0 Q h ow cells slots (mkF m pc' Ls rest)) : Run p l e R s m args below meth c Z wd EL n0 ow0 Q h ow cells slots (mkF m pc Ls (.int z :: .int x :: rest)) :=
  Run.stp (fun T locs vm0 k0 X H t k => XS.icmpYes X.here G.1 rfl rfl (G.hb hd) rfl (XT.ii_eq_t hc) ho hp k) K
theorem icmp_eq_f (G : Gd p s m meth c y bytes maxL ret Z a0 EL) {o : Int} {x z : Int32} (hd : decode bytes pc = .ok (.if_icmp .eq o, 3)) (hc : ¬ x = z) (hp : pc + 3 = pc') (K : Run p l e R s m args below meth c Z wd EL n0 ow0 Q h ow cells slots (mkF m pc' Ls rest)) : Run p l e R s m args below meth c Z wd EL n0 ow0 Q h ow cells slots (mkF m pc Ls (.int z :: .int x :: rest)) := by
  subst hp
  exact Run.stp (fun T locs vm0 k0 X H t k => XS.icmpNo X.here G.1 rfl (G.hb hd) rfl (XT.ii_eq_f hc) k) K
theorem icmp_eq (G : Gd p s m meth c y bytes maxL ret Z a0 EL) {o : Int} {x z : Int32} {pt pf : Nat} (hd : decode bytes pc = .ok (.if_icmp .eq o, 3)) (ho : 0 ≤ (pc : Int) + o) (hp : ((pc : Int) + o).toNat = pt) (hq : pc + 3 = pf) (K1 : (x = z) → Run p l e R s m args below meth c Z wd EL n0 ow0 Q h ow cells slots (mkF m pt Ls rest)) (K2 : (¬ x = z) → Run p l e R s m args below meth c Z wd EL n0 ow0 Q h ow cells slots (mkF m pf Ls rest)) : Run p l e R s m args below meth c Z wd EL n0 ow0 Q h ow cells slots (mkF m pc Ls (.int z :: .int x :: rest)) := by
  by_cases q : x = z
  · exact icmp_eq_t G hd q ho hp (K1 q)
  · exact icmp_eq_f G hd q hq (K2 q)
theorem icmp_ne_t (G : Gd p s m meth c y bytes maxL ret Z a0 EL) {o : Int} {x z : Int32} (hd : decode bytes pc = .ok (.if_icmp .ne o, 3)) (hc : ¬ x = z) (ho : 0 ≤ (pc : Int) + o) (hp : ((pc : Int) + o).toNat = pc') (K : Run p l e R s m args below meth c Z wd EL n0 ow0 Q h ow cells slots (mkF m pc' Ls rest)) : Run p l e R s m args below meth c Z wd EL n0 ow0 Q h ow cells slots (mkF m pc Ls (.int z :: .int x :: rest)) :=
  Run.stp (fun T locs vm0 k0 X H t k => XS.icmpYes X.here G.1 rfl rfl (G.hb hd) rfl (XT.ii_ne_t hc) ho hp k) K
theorem icmp_ne_f (G : Gd p s m meth c y bytes maxL ret Z a0 EL) {o : Int} {x z : Int32} (hd : decode bytes pc = .ok (.if_icmp .ne o, 3)) (hc : x = z) (hp : pc + 3 = pc') (K : Run p l e R s m args below meth c Z wd EL n0 ow0 Q h ow cells slots (mkF m pc' Ls rest)) : Run p l e R s m args below meth c Z wd EL n0 ow0 Q h ow cells slots (mkF m pc Ls (.int z :: .int x :: rest)) := by
  subst hp
  exact Run.stp (fun T locs vm0 k0 X H t k => XS.icmpNo X.here G.1 rfl (G.hb hd) rfl (XT.ii_ne_f hc) k) K
theorem icmp_ne (G : Gd p s m meth c y bytes maxL ret Z a0 EL) {o : Int} {x z : Int32} {pt pf : Nat} (hd : decode bytes pc = .ok (.if_icmp .ne o, 3)) (ho : 0 ≤ (pc : Int) + o) (hp : ((pc : Int) + o).toNat = pt) (hq : pc + 3 = pf) (K1 : (¬ x = z) → Run p l e R s m args below meth c Z wd EL n0 ow0 Q h ow cells slots (mkF m pt Ls rest)) (K2 : (x = z) → Run p l e R s m args below meth c Z wd EL n0 ow0 Q h ow cells slots (mkF m pf Ls rest)) : Run p l e R s m args below meth c Z wd EL n0 ow0 Q h ow cells slots (mkF m pc Ls (.int z :: .int x :: rest)) := by
  by_cases q : x = z
  · exact icmp_ne_f G hd q hq (K2 q)
  · exact icmp_ne_t G hd q ho hp (K1 q)
theorem icmp_lt_t (G : Gd p s m meth c y bytes maxL ret Z a0 EL) {o : Int} {x z : Int32} (hd : decode bytes pc = .ok (.if_icmp .lt o, 3)) (hc : x < z) (ho : 0 ≤ (pc : Int) + o) (hp : ((pc : Int) + o).toNat = pc') (K : Run p l e R s m args below meth c Z wd EL n0 ow0 Q h ow cells slots (mkF m pc' Ls rest)) : Run p l e R s m args below meth c Z wd EL n0 ow0 Q h ow cells slots (mkF m pc Ls (.int z :: .int x :: rest)) :=
  Run.stp (fun T locs vm0 k0 X H t k => XS.icmpYes X.here G.1 rfl rfl (G.hb hd) rfl (XT.ii_lt_t hc) ho hp k) K
theorem icmp_lt_f (G : Gd p s m meth c y bytes maxL ret Z a0 EL) {o : Int} {x z : Int32} (hd : decode bytes pc = .ok (.if_icmp .lt o, 3)) (hc : ¬ x < z) (hp : pc + 3 = pc') (K : Run p l e R s m args below meth c Z wd EL n0 ow0 Q h ow cells slots (mkF m pc' Ls rest)) : Run p l e R s m args below meth c Z wd EL n0 ow0 Q h ow cells slots (mkF m pc Ls (.int z :: .int x :: rest)) := by
  subst hp
  exact Run.stp (fun T locs vm0 k0 X H t k => XS.icmpNo X.here G.1 rfl (G.hb hd) rfl (XT.ii_lt_f hc) k) K
theorem icmp_lt (G : Gd p s m meth c y bytes maxL ret Z a0 EL) {o : Int} {x z : Int32} {pt pf : Nat} (hd : decode bytes pc = .ok (.if_icmp .lt o, 3)) (ho : 0 ≤ (pc : Int) + o) (hp : ((pc : Int) + o).toNat = pt) (hq : pc + 3 = pf) (K1 : (x < z) → Run p l e R s m args below meth c Z wd EL n0 ow0 Q h ow cells slots (mkF m pt Ls rest)) (K2 : (¬ x < z) → Run p l e R s m args below meth c Z wd EL n0 ow0 Q h ow cells slots (mkF m pf Ls rest)) : Run p l e R s m args below meth c Z wd EL n0 ow0 Q h ow cells slots (mkF m pc Ls (.int z :: .int x :: rest)) := by
  by_cases q : x < z
  · exact icmp_lt_t G hd q ho hp (K1 q)
  · exact icmp_lt_f G hd q hq (K2 q)
theorem icmp_ge_t (G : Gd p s m meth c y bytes maxL ret Z a0 EL) {o : Int} {x z : Int32} (hd : decode bytes pc = .ok (.if_icmp .ge o, 3)) (hc : ¬ x < z) (ho : 0 ≤ (pc : Int) + o) (hp : ((pc : Int) + o).toNat = pc') (K : Run p l e R s m args below meth c Z wd EL n0 ow0 Q h ow cells slots (mkF m pc' Ls rest)) : Run p l e R s m args below meth c Z wd EL n0 ow0 Q h ow cells slots (mkF m pc Ls (.int z :: .int x :: rest)) :=
  Run.stp (fun T locs vm0 k0 X H t k => XS.icmpYes X.here G.1 rfl rfl (G.hb hd) rfl (XT.ii_ge_t hc) ho hp k) K
theorem icmp_ge_f (G : Gd p s m meth c y bytes maxL ret Z a0 EL) {o : Int} {x z : Int32} (hd : decode bytes pc = .ok (.if_icmp .ge o, 3)) (hc : x < z) (hp : pc + 3 = pc') (K : Run p l e R s m args below meth c Z wd EL n0 ow0 Q h ow cells slots (mkF m pc' Ls rest)) : Run p l e R s m args below meth c Z wd EL n0 ow0 Q h ow cells slots (mkF m pc Ls (.int z :: .int x :: rest)) := by
  subst hp
  exact Run.stp (fun T locs vm0 k0 X H t k => XS.icmpNo X.here G.1 rfl (G.hb hd) rfl (XT.ii_ge_f hc) k) K
theorem icmp_ge (G : Gd p s m meth c y bytes maxL ret Z a0 EL) {o : Int} {x z : Int32} {pt pf : Nat} (hd : decode bytes pc = .ok (.if_icmp .ge o, 3)) (ho : 0 ≤ (pc : Int) + o) (hp : ((pc : Int) + o).toNat = pt) (hq : pc + 3 = pf) (K1 : (¬ x < z) → Run p l e R s m args below meth c Z wd EL n0 ow0 Q h ow cells slots (mkF m pt Ls rest)) (K2 : (x < z) → Run p l e R s m args below meth c Z wd EL n0 ow0 Q h ow cells slots (mkF m pf Ls rest)) : Run p l e R s m args below meth c Z wd EL n0 ow0 Q h ow cells slots (mkF m pc Ls (.int z :: .int x :: rest)) := by
  by_cases q : x < z
  · exact icmp_ge_f G hd q hq (K2 q)
  · exact icmp_ge_t G hd q ho hp (K1 q)
theorem icmp_gt_t (G : Gd p s m meth c y bytes maxL ret Z a0 EL) {o : Int} {x z : Int32} (hd : decode bytes pc = .ok (.if_icmp .gt o, 3)) (hc : z < x) (ho : 0 ≤ (pc : Int) + o) (hp : ((pc : Int) + o).toNat = pc') (K : Run p l e R s m args below meth c Z wd EL n0 ow0 Q h ow cells slots (mkF m pc' Ls rest)) : Run p l e R s m args below meth c Z wd EL n0 ow0 Q h ow cells slots (mkF m pc Ls (.int z :: .int x :: rest)) :=
  Run.stp (fun T locs vm0 k0 X H t k => XS.icmpYes X.here G.1 rfl rfl (G.hb hd) rfl (XT.ii_gt_t hc) ho hp k) K
theorem icmp_gt_f (G : Gd p s m meth c y bytes maxL ret Z a0 EL) {o : Int} {x z : Int32} (hd : decode bytes pc = .ok (.if_icmp .gt o, 3)) (hc : ¬ z < x) (hp : pc + 3 = pc') (K : Run p l e R s m args below meth c Z wd EL n0 ow0 Q h ow cells slots (mkF m pc' Ls rest)) : Run p l e R s m args below meth c Z wd EL n0 ow0 Q h ow cells slots (mkF m pc Ls (.int z :: .int x :: rest)) := by
  subst hp
  exact Run.stp (fun T locs vm0 k0 X H t k => XS.icmpNo X.here G.1 rfl (G.hb hd) rfl (XT.ii_gt_f hc) k) K
theorem icmp_gt (G : Gd p s m meth c y bytes maxL ret Z a0 EL) {o : Int} {x z : Int32} {pt pf : Nat} (hd : decode bytes pc = .ok (.if_icmp .gt o, 3)) (ho : 0 ≤ (pc : Int) + o) (hp : ((pc : Int) + o).toNat = pt) (hq : pc + 3 = pf) (K1 : (z < x) → Run p l e R s m args below meth c Z wd EL n0 ow0 Q h ow cells slots (mkF m pt Ls rest)) (K2 : (¬ z < x) → Run p l e R s m args below meth c Z wd EL n0 ow0 Q h ow cells slots (mkF m pf Ls rest)) : Run p l e R s m args below meth c Z wd EL n0 ow0 Q h ow cells slots (mkF m pc Ls (.int z :: .int x :: rest)) := by
  by_cases q : z < x
  · exact icmp_gt_t G hd q ho hp (K1 q)
  · exact icmp_gt_f G hd q hq (K2 q)
theorem icmp_le_t (G : Gd p s m meth c y bytes maxL ret Z a0 EL) {o : Int} {x z : Int32} (hd : decode bytes pc = .ok (.if_icmp .le o, 3)) (hc : ¬ z < x) (ho : 0 ≤ (pc : Int) + o) (hp : ((pc : Int) + o).toNat = pc') (K : Run p l e R s m args below meth c Z wd EL n0 ow0 Q h ow cells slots (mkF m pc' Ls rest)) : Run p l e R s m args below meth c Z wd EL n0 ow0 Q h ow cells slots (mkF m pc Ls (.int z :: .int x :: rest)) :=
  Run.stp (fun T locs vm0 k0 X H t k => XS.icmpYes X.here G.1 rfl rfl (G.hb hd) rfl (XT.ii_le_t hc) ho hp k) K
theorem icmp_le_f (G : Gd p s m meth c y bytes maxL ret Z a0 EL) {o : Int} {x z : Int32} (hd : decode bytes pc = .ok (.if_icmp .le o, 3)) (hc : z < x) (hp : pc + 3 = pc') (K : Run p l e R s m args below meth c Z wd EL n0 ow0 Q h ow cells slots (mkF m pc' Ls rest)) : Run p l e R s m args below meth c Z wd EL n0 ow0 Q h ow cells slots (mkF m pc Ls (.int z :: .int x :: rest)) := by
  subst hp
  exact Run.stp (fun T locs vm0 k0 X H t k => XS.icmpNo X.here G.1 rfl (G.hb hd) rfl (XT.ii_le_f hc) k) K
theorem icmp_le (G : Gd p s m meth c y bytes maxL ret Z a0 EL) {o : Int} {x z : Int32} {pt pf : Nat} (hd : decode bytes pc = .ok (.if_icmp .le o, 3)) (ho : 0 ≤ (pc : Int) + o) (hp : ((pc : Int) + o).toNat = pt) (hq : pc + 3 = pf) (K1 : (¬ z < x) → Run p l e R s m args below meth c Z wd EL n0 ow0 Q h ow cells slots (mkF m pt Ls rest)) (K2 : (z < x) → Run p l e R s m args below meth c Z wd EL n0 ow0 Q h ow cells slots (mkF m pf Ls rest)) : Run p l e R s m args below meth c Z wd EL n0 ow0 Q h ow cells slots (mkF m pc Ls (.int z :: .int x :: rest)) := by
  by_cases q : z < x
  · exact icmp_le_f G hd q hq (K2 q)
  · exact icmp_le_t G hd q ho hp (K1 q)
theorem if_eq_t (G : Gd p s m meth c y bytes maxL ret Z a0 EL) {o : Int} {x : Int32} (hd : decode bytes pc = .ok (.ifCond .eq o, 3)) (hc : x = 0) (ho : 0 ≤ (pc : Int) + o) (hp : ((pc : Int) + o).toNat = pc') (K : Run p l e R s m args below meth c Z wd EL n0 ow0 Q h ow cells slots (mkF m pc' Ls rest)) : Run p l e R s m args below meth c Z wd EL n0 ow0 Q h ow cells slots (mkF m pc Ls (.int x :: rest)) :=
  Run.stp (fun T locs vm0 k0 X H t k => XS.ifYes X.here G.1 rfl rfl (G.hb hd) rfl (XT.i0_eq_t hc) ho hp k) K
theorem if_eq_f (G : Gd p s m meth c y bytes maxL ret Z a0 EL) {o : Int} {x : Int32} (hd : decode bytes pc = .ok (.ifCond .eq o, 3)) (hc : ¬ x = 0) (hp : pc + 3 = pc') (K : Run p l e R s m args below meth c Z wd EL n0 ow0 Q h ow cells slots (mkF m pc' Ls rest)) : Run p l e R s m args below meth c Z wd EL n0 ow0 Q h ow cells slots (mkF m pc Ls (.int x :: rest)) := by
  subst hp
  exact Run.stp (fun T locs vm0 k0 X H t k => XS.ifNo X.here G.1 rfl (G.hb hd) rfl (XT.i0_eq_f hc) k) K
theorem if_eq (G : Gd p s m meth c y bytes maxL ret Z a0 EL) {o : Int} {x : Int32} {pt pf : Nat} (hd : decode bytes pc = .ok (.ifCond .eq o, 3)) (ho : 0 ≤ (pc : Int) + o) (hp : ((pc : Int) + o).toNat = pt) (hq : pc + 3 = pf) (K1 : (x = 0) → Run p l e R s m args below meth c Z wd EL n0 ow0 Q h ow cells slots (mkF m pt Ls rest)) (K2 : (¬ x = 0) → Run p l e R s m args below meth c Z wd EL n0 ow0 Q h ow cells slots (mkF m pf Ls rest)) : Run p l e R s m args below meth c Z wd EL n0 ow0 Q h ow cells slots (mkF m pc Ls (.int x :: rest)) := by
  by_cases q : x = 0
  · exact if_eq_t G hd q ho hp (K1 q)
  · exact if_eq_f G hd q hq (K2 q)
theorem if_ne_t (G : Gd p s m meth c y bytes maxL ret Z a0 EL) {o : Int} {x : Int32} (hd : decode bytes pc = .ok (.ifCond .ne o, 3)) (hc : ¬ x = 0) (ho : 0 ≤ (pc : Int) + o) (hp : ((pc : Int) + o).toNat = pc') (K : Run p l e R s m args below meth c Z wd EL n0 ow0 Q h ow cells slots (mkF m pc' Ls rest)) : Run p l e R s m args below meth c Z wd EL n0 ow0 Q h ow cells slots (mkF m pc Ls (.int x :: rest)) :=
  Run.stp (fun T locs vm0 k0 X H t k => XS.ifYes X.here G.1 rfl rfl (G.hb hd) rfl (XT.i0_ne_t hc) ho hp k) K
theorem if_ne_f (G : Gd p s m meth c y bytes maxL ret Z a0 EL) {o : Int} {x : Int32} (hd : decode bytes pc = .ok (.ifCond .ne o, 3)) (hc : x = 0) (hp : pc + 3 = pc') (K : Run p l e R s m args below meth c Z wd EL n0 ow0 Q h ow cells slots (mkF m pc' Ls rest)) : Run p l e R s m args below meth c Z wd EL n0 ow0 Q h ow cells slots (mkF m pc Ls (.int x :: rest)) := by
  subst hp
  exact Run.stp (fun T locs vm0 k0 X H t k => XS.ifNo X.here G.1 rfl (G.hb hd) rfl (XT.i0_ne_f hc) k) K
theorem if_ne (G : Gd p s m meth c y bytes maxL ret Z a0 EL) {o : Int} {x : Int32} {pt pf : Nat} (hd : decode bytes pc = .ok (.ifCond .ne o, 3)) (ho : 0 ≤ (pc : Int) + o) (hp : ((pc : Int) + o).toNat = pt) (hq : pc + 3 = pf) (K1 : (¬ x = 0) → Run p l e R s m args below meth c Z wd EL n0 ow0 Q h ow cells slots (mkF m pt Ls rest)) (K2 : (x = 0) → Run p l e R s m args below meth c Z wd EL n0 ow0 Q h ow cells slots (mkF m pf Ls rest)) : Run p l e R s m args below meth c Z wd EL n0 ow0 Q h ow cells slots (mkF m pc Ls (.int x :: rest)) := by
  by_cases q : x = 0
  · exact if_ne_f G hd q hq (K2 q)
  · exact if_ne_t G hd q ho hp (K1 q)
theorem if_lt_t (G : Gd p s m meth c y bytes maxL ret Z a0 EL) {o : Int} {x : Int32} (hd : decode bytes pc = .ok (.ifCond .lt o, 3)) (hc : x < 0) (ho : 0 ≤ (pc : Int) + o) (hp : ((pc : Int) + o).toNat = pc') (K : Run p l e R s m args below meth c Z wd EL n0 ow0 Q h ow cells slots (mkF m pc' Ls rest)) : Run p l e R s m args below meth c Z wd EL n0 ow0 Q h ow cells slots (mkF m pc Ls (.int x :: rest)) :=
  Run.stp (fun T locs vm0 k0 X H t k => XS.ifYes X.here G.1 rfl rfl (G.hb hd) rfl (XT.i0_lt_t hc) ho hp k) K
theorem if_lt_f (G : Gd p s m meth c y bytes maxL ret Z a0 EL) {o : Int} {x : Int32} (hd : decode bytes pc = .ok (.ifCond .lt o, 3)) (hc : ¬ x < 0) (hp : pc + 3 = pc') (K : Run p l e R s m args below meth c Z wd EL n0 ow0 Q h ow cells slots (mkF m pc' Ls rest)) : Run p l e R s m args below meth c Z wd EL n0 ow0 Q h ow cells slots (mkF m pc Ls (.int x :: rest)) := by
  subst hp
  exact Run.stp (fun T locs vm0 k0 X H t k => XS.ifNo X.here G.1 rfl (G.hb hd) rfl (XT.i0_lt_f hc) k) K
theorem if_lt (G : Gd p s m meth c y bytes maxL ret Z a0 EL) {o : Int} {x : Int32} {pt pf : Nat} (hd : decode bytes pc = .ok (.ifCond .lt o, 3)) (ho : 0 ≤ (pc : Int) + o) (hp : ((pc : Int) + o).toNat = pt) (hq : pc + 3 = pf) (K1 : (x < 0) → Run p l e R s m args below meth c Z wd EL n0 ow0 Q h ow cells slots (mkF m pt Ls rest)) (K2 : (¬ x < 0) → Run p l e R s m args below meth c Z wd EL n0 ow0 Q h ow cells slots (mkF m pf Ls rest)) : Run p l e R s m args below meth c Z wd EL n0 ow0 Q h ow cells slots (mkF m pc Ls (.int x :: rest)) := by
  by_cases q : x < 0
  · exact if_lt_t G hd q ho hp (K1 q)
  · exact if_lt_f G hd q hq (K2 q)
theorem if_ge_t (G : Gd p s m meth c y bytes maxL ret Z a0 EL) {o : Int} {x : Int32} (hd : decode bytes pc = .ok (.ifCond .ge o, 3)) (hc : ¬ x < 0) (ho : 0 ≤ (pc : Int) + o) (hp : ((pc : Int) + o).toNat = pc') (K : Run p l e R s m args below meth c Z wd EL n0 ow0 Q h ow cells slots (mkF m pc' Ls rest)) : Run p l e R s m args below meth c Z wd EL n0 ow0 Q h ow cells slots (mkF m pc Ls (.int x :: rest)) :=
  Run.stp (fun T locs vm0 k0 X H t k => XS.ifYes X.here G.1 rfl rfl (G.hb hd) rfl (XT.i0_ge_t hc) ho hp k) K
theorem if_ge_f (G : Gd p s m meth c y bytes maxL ret Z a0 EL) {o : Int} {x : Int32} (hd : decode bytes pc = .ok (.ifCond .ge o, 3)) (hc : x < 0) (hp : pc + 3 = pc') (K : Run p l e R s m args below meth c Z wd EL n0 ow0 Q h ow cells slots (mkF m pc' Ls rest)) : Run p l e R s m args below meth c Z wd EL n0 ow0 Q h ow cells slots (mkF m pc Ls (.int x :: rest)) := by
  subst hp
  exact Run.stp (fun T locs vm0 k0 X H t k => XS.ifNo X.here G.1 rfl (G.hb hd) rfl (XT.i0_ge_f hc) k) K
theorem if_ge (G : Gd p s m meth c y bytes maxL ret Z a0 EL) {o : Int} {x : Int32} {pt pf : Nat} (hd : decode bytes pc = .ok (.ifCond .ge o, 3)) (ho : 0 ≤ (pc : Int) + o) (hp : ((pc : Int) + o).toNat = pt) (hq : pc + 3 = pf) (K1 : (¬ x < 0) → Run p l e R s m args below meth c Z wd EL n0 ow0 Q h ow cells slots (mkF m pt Ls rest)) (K2 : (x < 0) → Run p l e R s m args below meth c Z wd EL n0 ow0 Q h ow cells slots (mkF m pf Ls rest)) : Run p l e R s m args below meth c Z wd EL n0 ow0 Q h ow cells slots (mkF m pc Ls (.int x :: rest)) := by
  by_cases q : x < 0
  · exact if_ge_f G hd q hq (K2 q)
  · exact if_ge_t G hd q ho hp (K1 q)
theorem if_gt_t (G : Gd p s m meth c y bytes maxL ret Z a0 EL) {o : Int} {x : Int32} (hd : decode bytes pc = .ok (.ifCond .gt o, 3)) (hc : 0 < x) (ho : 0 ≤ (pc : Int) + o) (hp : ((pc : Int) + o).toNat = pc') (K : Run p l e R s m args below meth c Z wd EL n0 ow0 Q h ow cells slots (mkF m pc' Ls rest)) : Run p l e R s m args below meth c Z wd EL n0 ow0 Q h ow cells slots (mkF m pc Ls (.int x :: rest)) :=
  Run.stp (fun T locs vm0 k0 X H t k => XS.ifYes X.here G.1 rfl rfl (G.hb hd) rfl (XT.i0_gt_t hc) ho hp k) K
theorem if_gt_f (G : Gd p s m meth c y bytes maxL ret Z a0 EL) {o : Int} {x : Int32} (hd : decode bytes pc = .ok (.ifCond .gt o, 3)) (hc : ¬ 0 < x) (hp : pc + 3 = pc') (K : Run p l e R s m args below meth c Z wd EL n0 ow0 Q h ow cells slots (mkF m pc' Ls rest)) : Run p l e R s m args below meth c Z wd EL n0 ow0 Q h ow cells slots (mkF m pc Ls (.int x :: rest)) := by
  subst hp
  exact Run.stp (fun T locs vm0 k0 X H t k => XS.ifNo X.here G.1 rfl (G.hb hd) rfl (XT.i0_gt_f hc) k) K
theorem if_gt (G : Gd p s m meth c y bytes maxL ret Z a0 EL) {o : Int} {x : Int32} {pt pf : Nat} (hd : decode bytes pc = .ok (.ifCond .gt o, 3)) (ho : 0 ≤ (pc : Int) + o) (hp : ((pc : Int) + o).toNat = pt) (hq : pc + 3 = pf) (K1 : (0 < x) → Run p l e R s m args below meth c Z wd EL n0 ow0 Q h ow cells slots (mkF m pt Ls rest)) (K2 : (¬ 0 < x) → Run p l e R s m args below meth c Z wd EL n0 ow0 Q h ow cells slots (mkF m pf Ls rest)) : Run p l e R s m args below meth c Z wd EL n0 ow0 Q h ow cells slots (mkF m pc Ls (.int x :: rest)) := by
  by_cases q : 0 < x
  · exact if_gt_t G hd q ho hp (K1 q)
  · exact if_gt_f G hd q hq (K2 q)
theorem if_le_t (G : Gd p s m meth c y bytes maxL ret Z a0 EL) {o : Int} {x : Int32} (hd : decode bytes pc = .ok (.ifCond .le o, 3)) (hc : ¬ 0 < x) (ho : 0 ≤ (pc : Int) + o) (hp : ((pc : Int) + o).toNat = pc') (K : Run p l e R s m args below meth c Z wd EL n0 ow0 Q h ow cells slots (mkF m pc' Ls rest)) : Run p l e R s m args below meth c Z wd EL n0 ow0 Q h ow cells slots (mkF m pc Ls (.int x :: rest)) :=
  Run.stp (fun T locs vm0 k0 X H t k => XS.ifYes X.here G.1 rfl rfl (G.hb hd) rfl (XT.i0_le_t hc) ho hp k) K
theorem if_le_f (G : Gd p s m meth c y bytes maxL ret Z a0 EL) {o : Int} {x : Int32} (hd : decode bytes pc = .ok (.ifCond .le o, 3)) (hc : 0 < x) (hp : pc + 3 = pc') (K : Run p l e R s m args below meth c Z wd EL n0 ow0 Q h ow cells slots (mkF m pc' Ls rest)) : Run p l e R s m args below meth c Z wd EL n0 ow0 Q h ow cells slots (mkF m pc Ls (.int x :: rest)) := by
  subst hp
  exact Run.stp (fun T locs vm0 k0 X H t k => XS.ifNo X.here G.1 rfl (G.hb hd) rfl (XT.i0_le_f hc) k) K
theorem if_le (G : Gd p s m meth c y bytes maxL ret Z a0 EL) {o : Int} {x : Int32} {pt pf : Nat} (hd : decode bytes pc = .ok (.ifCond .le o, 3)) (ho : 0 ≤ (pc : Int) + o) (hp : ((pc : Int) + o).toNat = pt) (hq : pc + 3 = pf) (K1 : (¬ 0 < x) → Run p l e R s m args below meth c Z wd EL n0 ow0 Q h ow cells slots (mkF m pt Ls rest)) (K2 : (0 < x) → Run p l e R s m args below meth c Z wd EL n0 ow0 Q h ow cells slots (mkF m pf Ls rest)) : Run p l e R s m args below meth c Z wd EL n0 ow0 Q h ow cells slots (mkF m pc Ls (.int x :: rest)) := by
  by_cases q : 0 < x
  · exact if_le_f G hd q hq (K2 q)
  · exact if_le_t G hd q ho hp (K1 q)
theorem ifnull_t (G : Gd p s m meth c y bytes maxL ret Z a0 EL) {o : Int} (hd : decode bytes pc = .ok (.ifnull o, 3)) (ho : 0 ≤ (pc : Int) + o) (hp : ((pc : Int) + o).toNat = pc') (K : Run p l e R s m args below meth c Z wd EL n0 ow0 Q h ow cells slots (mkF m pc' Ls rest)) : Run p l e R s m args below meth c Z wd EL n0 ow0 Q h ow cells slots (mkF m pc Ls (.null :: rest)) :=
  Run.stp (fun T locs vm0 k0 X H t k => XS.ifnullYes X.here G.1 rfl rfl (G.hb hd) rfl ho hp k) K
theorem ifnull_f (G : Gd p s m meth c y bytes maxL ret Z a0 EL) {o : Int} {b : Addr} (hd : decode bytes pc = .ok (.ifnull o, 3)) (hp : pc + 3 = pc') (K : Run p l e R s m args below meth c Z wd EL n0 ow0 Q h ow cells slots (mkF m pc' Ls rest)) : Run p l e R s m args below meth c Z wd EL n0 ow0 Q h ow cells slots (mkF m pc Ls (.ref b :: rest)) := by
  subst hp
  exact Run.stp (fun T locs vm0 k0 X H t k => XS.ifnullNo X.here G.1 rfl (G.hb hd) rfl k) K
theorem ifnonnull_t (G : Gd p s m meth c y bytes maxL ret Z a0 EL) {o : Int} {b : Addr} (hd : decode bytes pc = .ok (.ifnonnull o, 3)) (ho : 0 ≤ (pc : Int) + o) (hp : ((pc : Int) + o).toNat = pc') (K : Run p l e R s m args below meth c Z wd EL n0 ow0 Q h ow cells slots (mkF m pc' Ls rest)) : Run p l e R s m args below meth c Z wd EL n0 ow0 Q h ow cells slots (mkF m pc Ls (.ref b :: rest)) :=
  Run.stp (fun T locs vm0 k0 X H t k => XT.ifnonnullYes X.here G.1 rfl rfl (G.hb hd) rfl ho hp k) K
theorem ifnonnull_f (G : Gd p s m meth c y bytes maxL ret Z a0 EL) {o : Int} (hd : decode bytes pc = .ok (.ifnonnull o, 3)) (hp : pc + 3 = pc') (K : Run p l e R s m args below meth c Z wd EL n0 ow0 Q h ow cells slots (mkF m pc' Ls rest)) : Run p l e R s m args below meth c Z wd EL n0 ow0 Q h ow cells slots (mkF m pc Ls (.null :: rest)) := by
  subst hp
  exact Run.stp (fun T locs vm0 k0 X H t k => XT.ifnonnullNo X.here G.1 rfl (G.hb hd) rfl k) K
theorem acmp_eq_t (G : Gd p s m meth c y bytes maxL ret Z a0 EL) {o : Int} {v w : Value} (hd : decode bytes pc = .ok (.if_acmp .eq o, 3)) (hv : v.isRef = true) (hw : w.isRef = true) (hc : v = w) (ho : 0 ≤ (pc : Int) + o) (hp : ((pc : Int) + o).toNat = pc') (K : Run p l e R s m args below meth c Z wd EL n0 ow0 Q h ow cells slots (mkF m pc' Ls rest)) : Run p l e R s m args below meth c Z wd EL n0 ow0 Q h ow cells slots (mkF m pc Ls (w :: v :: rest)) :=
  Run.stp (fun T locs vm0 k0 X H t k => XT.acmpYes X.here G.1 rfl rfl (G.hb hd) rfl hv hw (XT.aa_eq_t hc) ho hp k) K
theorem acmp_eq_f (G : Gd p s m meth c y bytes maxL ret Z a0 EL) {o : Int} {v w : Value} (hd : decode bytes pc = .ok (.if_acmp .eq o, 3)) (hv : v.isRef = true) (hw : w.isRef = true) (hc : ¬ v = w) (hp : pc + 3 = pc') (K : Run p l e R s m args below meth c Z wd EL n0 ow0 Q h ow cells slots (mkF m pc' Ls rest)) : Run p l e R s m args below meth c Z wd EL n0 ow0 Q h ow cells slots (mkF m pc Ls (w :: v :: rest)) := by
  subst hp
  exact Run.stp (fun T locs vm0 k0 X H t k => XT.acmpNo X.here G.1 rfl (G.hb hd) rfl hv hw (XT.aa_eq_f hc) k) K
theorem acmp_ne_t (G : Gd p s m meth c y bytes maxL ret Z a0 EL) {o : Int} {v w : Value} (hd : decode bytes pc = .ok (.if_acmp .ne o, 3)) (hv : v.isRef = true) (hw : w.isRef = true) (hc : ¬ v = w) (ho : 0 ≤ (pc : Int) + o) (hp : ((pc : Int) + o).toNat = pc') (K : Run p l e R s m args below meth c Z wd EL n0 ow0 Q h ow cells slots (mkF m pc' Ls rest)) : Run p l e R s m args below meth c Z wd EL n0 ow0 Q h ow cells slots (mkF m pc Ls (w :: v :: rest)) :=
  Run.stp (fun T locs vm0 k0 X H t k => XT.acmpYes X.here G.1 rfl rfl (G.hb hd) rfl hv hw (XT.aa_ne_t hc) ho hp k) K
theorem acmp_ne_f (G : Gd p s m meth c y bytes maxL ret Z a0 EL) {o : Int} {v w : Value} (hd : decode bytes pc = .ok (.if_acmp .ne o, 3)) (hv : v.isRef = true) (hw : w.isRef = true) (hc : v = w) (hp : pc + 3 = pc') (K : Run p l e R s m args below meth c Z wd EL n0 ow0 Q h ow cells slots (mkF m pc' Ls rest)) : Run p l e R s m args below meth c Z wd EL n0 ow0 Q h ow cells slots (mkF m pc Ls (w :: v :: rest)) := by
  subst hp
  exact Run.stp (fun T locs vm0 k0 X H t k => XT.acmpNo X.here G.1 rfl (G.hb hd) rfl hv hw (XT.aa_ne_f hc) k) K
theorem ldcInt (G : Gd p s m meth c y bytes maxL ret Z a0 EL) {idx : Nat} {v : Int32} (hd : decode bytes pc = .ok (.ldc idx, 2)) (w : (Jvm.Cond.constant y.cls idx v).before a0 Z = true) (hp : pc + 2 = pc') (K : Run p l e R s m args below meth c Z wd EL n0 ow0 Q h ow cells slots (mkF m pc' Ls (.int v :: st))) : Run p l e R s m args below meth c Z wd EL n0 ow0 Q h ow cells slots (mkF m pc Ls st) := by
  subst hp
  exact Run.stp (fun T locs vm0 k0 X H t k => X.ldcI G.1 (G.own H.1) (mv (s := s.setVm vm0) H.2.2.1 w) rfl (G.hb hd) k) K
theorem getf (G : Gd p s m meth c y bytes maxL ret Z a0 EL) {idx : Nat} {R0 O n d : String} {a : Addr} {v : Value} (hd : decode bytes pc = .ok (.getfield idx, 3)) (w : (Jvm.Cond.fieldLink y.cls idx R0 n d).before a0 Z = true) (via : Via Z R0 O n d) (F : Fld Z h a O n d v) (hp : pc + 3 = pc') (K : Run p l e R s m args below meth c Z wd EL n0 ow0 Q h ow cells slots (mkF m pc' Ls (v :: rest))) : Run p l e R s m args below meth c Z wd EL n0 ow0 Q h ow cells slots (mkF m pc Ls (.ref a :: rest)) := by
  subst hp
  exact Run.mov (fun T locs vm0 k0 X H => getF X G.1 H.2.2.1 (host := "") (G.own H.1) (Or.inl w) via H.2.2.2.1 F rfl rfl (G.hb hd)) K
theorem gets (G : Gd p s m meth c y bytes maxL ret Z a0 EL) {idx : Nat} {R0 O n d : String} {v : Value} (hd : decode bytes pc = .ok (.getstatic idx, 3)) (w : (Jvm.Cond.fieldLink y.cls idx R0 n d).before a0 Z = true) (via : Via Z R0 O n d) (F : Sta Z Z.heap O n d v) (hp : pc + 3 = pc') (K : Run p l e R s m args below meth c Z wd EL n0 ow0 Q h ow cells slots (mkF m pc' Ls (v :: st))) : Run p l e R s m args below meth c Z wd EL n0 ow0 Q h ow cells slots (mkF m pc Ls st) := by
  subst hp
  exact Run.mov (fun T locs vm0 k0 X H => getS X G.1 H.2.2.1 (host := "") (G.own H.1) w via H.2.2.2.1 (F.ext H.2.2.2.2.2.2.2.1.2) rfl (G.hb hd)) K
theorem putf (G : Gd p s m meth c y bytes maxL ret Z a0 EL) {idx kk : Nat} {R0 O n d C : String} {a : Addr} {v old : Value} {ty : FieldType} (hd : decode bytes pc = .ok (.putfield idx, 3)) (w : (Jvm.Cond.fieldLink y.cls idx R0 n d).before a0 Z = true) (via : Via Z R0 O n d) (F : Fld Z h a O n d old) (E : Exa Z h a C) (L : (Jvm.Cond.lays C O n d).before a0 Z = true ∨ ((Jvm.Cond.laysFinal C O n d).before a0 Z = true ∧ y.cls = O ∧ y.name = "<init>")) (wi : (Jvm.Cond.instantiable C kk).before a0 Z = true) (hty : parseFieldDescriptor d = some ty) (hn : narrow ty v = v) (hf : fits ty v = true) (ha : a ∈ ow) (hp : pc + 3 = pc')
    (K : ∀ h', Wr h h' a (RoadKit.slotOf Z O n d) v → Run p l e R s m args below meth c Z wd EL n0 ow0 Q h' ow cells slots (mkF m pc' Ls rest)) : Run p l e R s m args below meth c Z wd EL n0 ow0 Q h ow cells slots (mkF m pc Ls (v :: .ref a :: rest)) := by
  subst hp
  intro T locs vm0 k0 X H
  obtain ⟨T', h', X', eT, W, st⟩ := putF X G.1 H.2.2.1 (host := "") (G.own H.1) (Or.inl w) via H.2.2.2.1 F E (L.imp id fun q => ⟨q.1, q.2.1, G.2.2.2.2.2.1.trans q.2.2⟩) wi hty hn hf (g := mkF m pc Ls (v :: .ref a :: rest)) rfl rfl (G.hb hd)
  obtain ⟨s₂, o, q, r⟩ := K h' W T' _ vm0 k0 X' (H.wr W ha eT)
  exact ⟨s₂, o, st _ q, r⟩
theorem castOk (G : Gd p s m meth c y bytes maxL ret Z a0 EL) {idx : Nat} {C : String} {a : Addr} (hd : decode bytes pc = .ok (.checkcast idx, 3)) (w : (Jvm.Cond.classLink y.cls idx C).before a0 Z = true) (F : Ins Z h a C true) (hp : pc + 3 = pc') (K : Run p l e R s m args below meth c Z wd EL n0 ow0 Q h ow cells slots (mkF m pc' Ls (.ref a :: rest))) : Run p l e R s m args below meth c Z wd EL n0 ow0 Q h ow cells slots (mkF m pc Ls (.ref a :: rest)) := by
  subst hp
  exact Run.mov (fun T locs vm0 k0 X H => castY X G.1 H.2.2.1 (G.own H.1) w H.2.2.2.1 F rfl rfl (G.hb hd)) K
theorem instYes (G : Gd p s m meth c y bytes maxL ret Z a0 EL) {idx : Nat} {C : String} {a : Addr} (hd : decode bytes pc = .ok (.instanceof idx, 3)) (w : (Jvm.Cond.classLink y.cls idx C).before a0 Z = true) (F : Ins Z h a C true) (hp : pc + 3 = pc') (K : Run p l e R s m args below meth c Z wd EL n0 ow0 Q h ow cells slots (mkF m pc' Ls (.int 1 :: rest))) : Run p l e R s m args below meth c Z wd EL n0 ow0 Q h ow cells slots (mkF m pc Ls (.ref a :: rest)) := by
  subst hp
  exact Run.mov (fun T locs vm0 k0 X H => instY X G.1 H.2.2.1 (G.own H.1) w H.2.2.2.1 F rfl rfl (G.hb hd)) K
theorem instNo (G : Gd p s m meth c y bytes maxL ret Z a0 EL) {idx : Nat} {C D : String} {a : Addr} (hd : decode bytes pc = .ok (.instanceof idx, 3)) (w : (Jvm.Cond.classLink y.cls idx C).before a0 Z = true) (F : Ins Z h a C false) (E : Exa Z h a D) (hp : pc + 3 = pc') (K : Run p l e R s m args below meth c Z wd EL n0 ow0 Q h ow cells slots (mkF m pc' Ls (.int 0 :: rest))) : Run p l e R s m args below meth c Z wd EL n0 ow0 Q h ow cells slots (mkF m pc Ls (.ref a :: rest)) := by
  subst hp
  exact Run.mov (fun T locs vm0 k0 X H => instNAt X G.1 H.2.2.1 (G.own H.1) w H.2.2.2.1 F E rfl rfl (G.hb hd)) K
theorem arrlen (G : Gd p s m meth c y bytes maxL ret Z a0 EL) {a : Addr} {cl : Cell} {ty : FieldType} (hd : decode bytes pc = .ok (.arraylength, 1)) (A : Arr Z h a cl ty) (hp : pc + 1 = pc') (K : Run p l e R s m args below meth c Z wd EL n0 ow0 Q h ow cells slots (mkF m pc' Ls (.int cl.slots.size.toInt32 :: rest))) : Run p l e R s m args below meth c Z wd EL n0 ow0 Q h ow cells slots (mkF m pc Ls (.ref a :: rest)) := by
  subst hp
  exact Run.stp (fun T locs vm0 k0 X H t k => X.arraylength G.1 (H.cell A) (H.arr A) (g := mkF m pc Ls (.ref a :: rest)) rfl rfl (G.hb hd) t k) K
theorem caload (G : Gd p s m meth c y bytes maxL ret Z a0 EL) {a : Addr} {cl : Cell} {j : Int32} {v : Value} (hd : decode bytes pc = .ok (.caload, 1)) (A : Arr Z h a cl .char) (hj : ¬ (j < 0 ∨ cl.slots.size ≤ j.toNatClampNeg)) (hv : cl.slots[j.toNatClampNeg]? = some v) (hp : pc + 1 = pc') (K : Run p l e R s m args below meth c Z wd EL n0 ow0 Q h ow cells slots (mkF m pc' Ls (v :: rest))) : Run p l e R s m args below meth c Z wd EL n0 ow0 Q h ow cells slots (mkF m pc Ls (.int j :: .ref a :: rest)) := by
  subst hp
  exact Run.stp (fun T locs vm0 k0 X H t k => X.caload G.1 (H.cell A) (H.arr A) A.2.2 hj hv (g := mkF m pc Ls (.int j :: .ref a :: rest)) rfl rfl (G.hb hd) t k) K
theorem baload (G : Gd p s m meth c y bytes maxL ret Z a0 EL) {a : Addr} {cl : Cell} {j : Int32} {v : Value} (hd : decode bytes pc = .ok (.baload, 1)) (A : Arr Z h a cl .byte) (hj : ¬ (j < 0 ∨ cl.slots.size ≤ j.toNatClampNeg)) (hv : cl.slots[j.toNatClampNeg]? = some v) (hp : pc + 1 = pc') (K : Run p l e R s m args below meth c Z wd EL n0 ow0 Q h ow cells slots (mkF m pc' Ls (v :: rest))) : Run p l e R s m args below meth c Z wd EL n0 ow0 Q h ow cells slots (mkF m pc Ls (.int j :: .ref a :: rest)) := by
  subst hp
  exact Run.stp (fun T locs vm0 k0 X H t k => X.baloadBytes G.1 (H.cell A) (H.arr A) A.2.2 hj hv (g := mkF m pc Ls (.int j :: .ref a :: rest)) rfl rfl (G.hb hd) t k) K
theorem iaload (G : Gd p s m meth c y bytes maxL ret Z a0 EL) {a : Addr} {cl : Cell} {j : Int32} {v : Value} (hd : decode bytes pc = .ok (.iaload, 1)) (A : Arr Z h a cl .int) (hj : ¬ (j < 0 ∨ cl.slots.size ≤ j.toNatClampNeg)) (hv : cl.slots[j.toNatClampNeg]? = some v) (hp : pc + 1 = pc') (K : Run p l e R s m args below meth c Z wd EL n0 ow0 Q h ow cells slots (mkF m pc' Ls (v :: rest))) : Run p l e R s m args below meth c Z wd EL n0 ow0 Q h ow cells slots (mkF m pc Ls (.int j :: .ref a :: rest)) := by
  subst hp
  exact Run.stp (fun T locs vm0 k0 X H t k => X.iaload G.1 (H.cell A) (H.arr A) A.2.2 hj hv (g := mkF m pc Ls (.int j :: .ref a :: rest)) rfl rfl (G.hb hd) t k) K
theorem aaload (G : Gd p s m meth c y bytes maxL ret Z a0 EL) {a : Addr} {cl : Cell} {j : Int32} {v : Value} {ty : FieldType} (hd : decode bytes pc = .ok (.aaload, 1)) (A : Arr Z h a cl ty) (hty : ty.isReference = true) (hj : ¬ (j < 0 ∨ cl.slots.size ≤ j.toNatClampNeg)) (hv : cl.slots[j.toNatClampNeg]? = some v) (hp : pc + 1 = pc') (K : Run p l e R s m args below meth c Z wd EL n0 ow0 Q h ow cells slots (mkF m pc' Ls (v :: rest))) : Run p l e R s m args below meth c Z wd EL n0 ow0 Q h ow cells slots (mkF m pc Ls (.int j :: .ref a :: rest)) := by
  subst hp
  exact Run.stp (fun T locs vm0 k0 X H t k => X.aaload G.1 (H.cell A) (H.arr A) hty A.2.2 hj hv (g := mkF m pc Ls (.int j :: .ref a :: rest)) rfl rfl (G.hb hd) t k) K
theorem castore (G : Gd p s m meth c y bytes maxL ret Z a0 EL) {a : Addr} {cl : Cell} {j x : Int32} (hd : decode bytes pc = .ok (.castore, 1)) (A : Arr Z h a cl .char) (hj : ¬ (j < 0 ∨ cl.slots.size ≤ j.toNatClampNeg)) (ha : a ∈ ow) (hp : pc + 1 = pc') (K : ∀ h', Wr h h' a j.toNatClampNeg (.int (nar .char x)) → Run p l e R s m args below meth c Z wd EL n0 ow0 Q h' ow cells slots (mkF m pc' Ls rest)) : Run p l e R s m args below meth c Z wd EL n0 ow0 Q h ow cells slots (mkF m pc Ls (.int x :: .int j :: .ref a :: rest)) := by
  subst hp
  intro T locs vm0 k0 X H
  obtain ⟨T', h', X', eT, W, st⟩ := stC X G.1 H.2.2.1 H.2.2.2.1 A hj (g := mkF m pc Ls (.int x :: .int j :: .ref a :: rest)) rfl rfl (G.hb hd)
  obtain ⟨s₂, o, q, r⟩ := K h' W T' _ vm0 k0 X' (H.wr W ha eT)
  exact ⟨s₂, o, st _ q, r⟩
theorem bastore (G : Gd p s m meth c y bytes maxL ret Z a0 EL) {a : Addr} {cl : Cell} {j x : Int32} (hd : decode bytes pc = .ok (.bastore, 1)) (A : Arr Z h a cl .byte) (hj : ¬ (j < 0 ∨ cl.slots.size ≤ j.toNatClampNeg)) (ha : a ∈ ow) (hp : pc + 1 = pc') (K : ∀ h', Wr h h' a j.toNatClampNeg (.int (nar .byte x)) → Run p l e R s m args below meth c Z wd EL n0 ow0 Q h' ow cells slots (mkF m pc' Ls rest)) : Run p l e R s m args below meth c Z wd EL n0 ow0 Q h ow cells slots (mkF m pc Ls (.int x :: .int j :: .ref a :: rest)) := by
  subst hp
  intro T locs vm0 k0 X H
  obtain ⟨T', h', X', eT, W, st⟩ := stB X G.1 H.2.2.1 H.2.2.2.1 A hj (g := mkF m pc Ls (.int x :: .int j :: .ref a :: rest)) rfl rfl (G.hb hd)
  obtain ⟨s₂, o, q, r⟩ := K h' W T' _ vm0 k0 X' (H.wr W ha eT)
  exact ⟨s₂, o, st _ q, r⟩
theorem newarr (G : Gd p s m meth c y bytes maxL ret Z a0 EL) {aty : ArrayType} {n : Int32} {cap : Nat} (hd : decode bytes pc = .ok (.newarray aty, 2)) (w : (Jvm.Cond.arrayClass (newarray.typeOf aty)).before a0 Z = true) (hn : ¬ n < 0) (hcap : n.toNatClampNeg ≤ cap) (hb : cap * 8 ≤ 536870912) (hc : cells + 1 ≤ R.cells) (hl : slots + cap ≤ R.slots) (hc' : cells + 1 = cells') (hs' : slots + cap = slots') (hp : pc + 2 = pc')
    (K : ∀ (h' : Heap) (cA : ClassId) (a : Addr), a = h.size → Ext h h' → Arr Z h' a (newA cA (newarray.typeOf aty) n) (newarray.typeOf aty) → Run p l e R s m args below meth c Z wd EL n0 ow0 Q h' (a :: ow) cells' slots' (mkF m pc' Ls (.ref a :: rest))) : Run p l e R s m args below meth c Z wd EL n0 ow0 Q h ow cells slots (mkF m pc Ls (.int n :: rest)) := by
  subst hp hc' hs'
  intro T locs vm0 k0 X H
  obtain ⟨T', h', cA, X', eT, E, A, st⟩ := newP X G.1 H.2.2.1 w H.2.2.2.1 (g := mkF m pc Ls (.int n :: rest)) rfl (G.hb hd) rfl hn hcap hb hc hl
  obtain ⟨s₂, o, q, r⟩ := K h' cA h.size rfl E A T' _ vm0 k0 X' (H.ext E A.lt eT)
  exact ⟨s₂, o, st _ q, r⟩
theorem newobj (G : Gd p s m meth c y bytes maxL ret Z a0 EL) {idx n : Nat} {C : String} (hd : decode bytes pc = .ok (.new idx, 3)) (w : (Jvm.Cond.classLink y.cls idx C).before a0 Z = true) (wi : (Jvm.Cond.instantiable C n).before a0 Z = true) (wz : (Jvm.Cond.initialized C).before a0 Z = true) (hc : cells + 1 ≤ R.cells) (hl : slots + n ≤ R.slots) (hc' : cells + 1 = cells') (hs' : slots + n = slots') (hp : pc + 3 = pc')
    (K : ∀ (h' : Heap) (a : Addr), a = h.size → Ext h h' → Exa Z h' a C → (∀ {O nm d : String} {ty : FieldType}, Laid Z a0 C O nm d → parseFieldDescriptor d = some ty → Fld Z h' a O nm d (defaultValue ty)) → Run p l e R s m args below meth c Z wd EL n0 ow0 Q h' (a :: ow) cells' slots' (mkF m pc' Ls (.ref a :: st))) : Run p l e R s m args below meth c Z wd EL n0 ow0 Q h ow cells slots (mkF m pc Ls st) := by
  subst hp hc' hs'
  intro T locs vm0 k0 X H
  obtain ⟨T', h', X', eT, E, A, D, -, st⟩ := newO X G.1 H.2.2.1 (G.own H.1) w wi wz H.2.2.2.1 (g := mkF m pc Ls st) rfl (G.hb hd) hc hl
  obtain ⟨s₂, o, q, r⟩ := K h' h.size rfl E A D T' _ vm0 k0 X' (H.ext E A.lt eT)
  exact ⟨s₂, o, st _ q, r⟩
theorem initObj (G : Gd p s m meth c y bytes maxL ret Z a0 EL) {idx : Nat} {a : Addr} {W : Nat} (hd : decode bytes pc = .ok (.invokespecial idx, 3)) (w1 : (Jvm.Cond.methodLink y.cls idx Lib.objectInit).before a0 Z = true) (w2 : (Jvm.Cond.instanceMethod Lib.objectInit).before a0 Z = true) (w3 : (Jvm.Cond.code Lib.objectInit ⟨#[0xb1]⟩ 1 none).before a0 Z = true) (hsz : Ls.size = maxL) (hf : 1 ≤ R.frames) (hW : (rest.map fun v => v.category).sum ≤ W) (hl : W + 12 ≤ R.locals) (hp : pc + 3 = pc') (K : Run p l e R s m args below meth c Z wd EL n0 ow0 Q h ow cells slots (mkF m pc' Ls rest)) : Run p l e R s m args below meth c Z wd EL n0 ow0 Q h ow cells slots (mkF m pc Ls (.ref a :: rest)) := by
  subst hp
  exact Run.mov (fun T locs vm0 k0 X H => initO X G.1 H.2.2.1 (G.own H.1) w1 w2 w3 H.2.2.2.1 rfl (hsz.trans G.2.2.1.symm) rfl (G.hb hd) hf (by show 2 * 0 + _ ≤ W; omega) hl) K
theorem ldcStr (G : Gd p s m meth c y bytes maxL ret Z a0 EL) {idx n : Nat} {text : String} {vs : List Value} {z : Int32} (hd : decode bytes pc = .ok (.ldc idx, 2)) (hwd : wd = true) (w : (Jvm.Cond.stringLink y.cls idx text).before a0 Z = true) (wS : ∀ a ∈ Bundle.stringAtoms, a.before a0 Z = true) (hmem : (y.cls, idx) ∈ EL)
    (ht : (∀ c ∈ text.toList, c.toNat < 256) ∧ text.toList.map (fun c => Value.int (Jvm.Lit.byteI c.toNat.toUInt16)) = vs) (hz : ¬ z < 0) (hl : z.toNatClampNeg = vs.length) (hn : 4 * text.toList.length ≤ n) (hbig : n ≤ 536870912) (hc : cells + 2 ≤ R.cells) (hl' : slots + (n + 4) ≤ R.slots) (hc' : cells + 2 = cells') (hs' : slots + (n + 4) = slots') (hp : pc + 2 = pc')
    (K : ∀ (a b : Addr) (k : ClassId) (h' : Heap), Ext h h' → Exa Z h' a "java/lang/String" → Fld Z h' a "java/lang/String" "coder" "B" (.int 0) → Fld Z h' a "java/lang/String" "value" "[B" (.ref b) → Arv Z h' b k .byte z vs (.int 0) → (∀ x ∈ ow, x ≠ a ∧ x ≠ b) → Run p l e R s m args below meth c Z wd EL n0 ow0 Q h' ow cells' slots' (mkF m pc' Ls (.ref a :: st))) : Run p l e R s m args below meth c Z wd EL n0 ow0 Q h ow cells slots (mkF m pc Ls st) := by
  subst hp hc' hs'
  intro T locs vm0 k0 X H
  obtain ⟨i1, i2, i3, i4, i5, i6, i7, i8, i9, i10⟩ := H
  obtain ⟨a, T', h', k1, b, k, X', eT, E, hS, hk, hW, -, q1, q2, q3, q4, -, -, hC, -, hne, st⟩ := ldcCH X G.1 i3 (G.own i1) w wS i4 i1 i2 G.2.2.2.2.2.2.2 hmem i6.1 ht hz hl (g := mkF m pc Ls st) rfl (G.hb hd) hn hbig hc hl'
  have hsafe : ∀ x ∈ ow, Safe Z EL T'.vm h' x := fun x hx => hC.safe (i9 x hx).2.1 (i9 x hx).1
  obtain ⟨s₂, o, q, r⟩ := K a b k h' E q1 q2 q3 q4 (fun x hx => hne x (hsafe x hx)) T' locs T'.vm k1 X' ⟨hS, hk, hW, eT, i5, i6.trans hC, i7.ext E, i8.ext E, fun x hx => ⟨hsafe x hx, Nat.lt_of_lt_of_le (i9 x hx).2.1 E.1, (i9 x hx).2.2⟩, Or.inl hwd⟩
  exact ⟨s₂, o, st _ q, r⟩
theorem ldcOpaque (G : Gd p s m meth c y bytes maxL ret Z a0 EL) {idx n : Nat} {text : String} (hd : decode bytes pc = .ok (.ldc idx, 2)) (hwd : wd = true) (w : (Jvm.Cond.stringLink y.cls idx text).before a0 Z = true) (wS : ∀ a ∈ Bundle.stringAtoms, a.before a0 Z = true)
    (hn : 4 * text.toList.length ≤ n) (hbig : n ≤ 536870912) (hc : cells + 2 ≤ R.cells) (hl' : slots + (n + 4) ≤ R.slots) (hc' : cells + 2 = cells') (hs' : slots + (n + 4) = slots') (hp : pc + 2 = pc')
    (K : ∀ (a : Addr) (h' : Heap), Ext h h' → Run p l e R s m args below meth c Z wd EL n0 ow0 Q h' ow cells' slots' (mkF m pc' Ls (.ref a :: st))) : Run p l e R s m args below meth c Z wd EL n0 ow0 Q h ow cells slots (mkF m pc Ls st) := by
  subst hp hc' hs'
  intro T locs vm0 k0 X H
  obtain ⟨i1, i2, i3, i4, i5, i6, i7, i8, i9, i10⟩ := H
  obtain ⟨a, T', h', k1, X', eT, E, hS, hk, hW, -, hC, -, st⟩ := ldcOH X G.1 i3 (G.own i1) w wS i4 i1 i2 G.2.2.2.2.2.2.2 i6.1 (g := mkF m pc Ls st) rfl (G.hb hd) hn hbig hc hl'
  have hsafe : ∀ x ∈ ow, Safe Z EL T'.vm h' x := fun x hx => hC.safe (i9 x hx).2.1 (i9 x hx).1
  obtain ⟨s₂, o, q, r⟩ := K a h' E T' locs T'.vm k1 X' ⟨hS, hk, hW, eT, i5, i6.trans hC, i7.ext E, i8.ext E, fun x hx => ⟨hsafe x hx, Nat.lt_of_lt_of_le (i9 x hx).2.1 E.1, (i9 x hx).2.2⟩, Or.inl hwd⟩
  exact ⟨s₂, o, st _ q, r⟩
theorem fin (G : Gd p s m meth c y bytes maxL ret Z a0 EL) {v : Option Value} {g : JFrame} (hv : ret = none → v = none) (hc : cells ≤ R.cells) (hs : slots ≤ R.slots) (q : Q v h)
    (stp : ∀ (T : State) (locs : List Loc) (vm0 : Vm) (k0 : Nat) (fs : List Frame), Stand p l e R (s.setVm vm0) m args below meth c T locs cells slots → (∀ (f : JFrame) (acts : List Action), f.method = m → f.locked = none → f.entered = [] → (doReturn e (T.setTop f) acts v).1 = T.setFrames fs) → Steps p.tables e below (T.setTop g) (T.setFrames fs)) : Run p l e R s m args below meth c Z wd EL n0 ow0 Q h ow cells slots g := by
  intro T locs vm0 k0 X H
  obtain ⟨i1, i2, i3, i4, i5, i6, i7, i8, i9, i10⟩ := H
  obtain ⟨fs, hr, hrun, hended, hW⟩ := X.leaveW i1 (by rw [i4]; exact i2) (v := v) (fun h => hv (G.2.2.2.2.1.symm.trans h)) G.2.2.2.2.2.2.1
  have hT : (T.setFrames fs).heap = h := i4
  have hA := CHv.at X i3 G.2.2.2.2.2.2.2 i6.1
  refine ⟨_, _, stp T locs vm0 k0 fs X hr, hrun, hended, v, locs, rfl, by rw [hT]; exact q, i5, by rw [hT]; exact i6.trans hA, by rw [hT]; exact i7, ⟨hW.1, hW.2.1, hW.2.2.1, hW.2.2.2.mono hc hs⟩, i10.imp id fun w => State.WarmedH.trans (t := s.setVm vm0) w X.warmed⟩
theorem retInt (G : Gd p s m meth c y bytes maxL ret Z a0 EL) {z : Int32} (hd : decode bytes pc = .ok (.ireturn, 1)) (hret : ret = some .int) (hc : cells ≤ R.cells) (hs : slots ≤ R.slots) (q : Q (some (.int z)) h) : Run p l e R s m args below meth c Z wd EL n0 ow0 Q h ow cells slots (mkF m pc Ls (.int z :: rest)) :=
  fin G (fun h => by rw [hret] at h; cases h) hc hs q fun T locs vm0 k0 fs X hr => retOut X G.1 (G.2.2.2.2.1.trans hret) rfl (Or.inl ⟨rfl, Or.inl rfl, z, rfl⟩) (G.hb hd) hr
theorem retNar (G : Gd p s m meth c y bytes maxL ret Z a0 EL) {z : Int32} {t : FieldType} (hd : decode bytes pc = .ok (.ireturn, 1)) (hret : ret = some t) (ht : t = .boolean ∨ t = .byte ∨ t = .char ∨ t = .short) (hc : cells ≤ R.cells) (hs : slots ≤ R.slots) (q : Q (some (.int (nar t z))) h) : Run p l e R s m args below meth c Z wd EL n0 ow0 Q h ow cells slots (mkF m pc Ls (.int z :: rest)) :=
  fin G (fun h => by rw [hret] at h; cases h) hc hs q fun T locs vm0 k0 fs X hr => retN X G.1 (G.2.2.2.2.1.trans hret) ht (G.hb hd) hr
theorem retRef (G : Gd p s m meth c y bytes maxL ret Z a0 EL) {v : Value} {t : FieldType} (hd : decode bytes pc = .ok (.areturn, 1)) (hret : ret = some t) (ht : t.isReference = true) (hv : v.isRef = true) (hc : cells ≤ R.cells) (hs : slots ≤ R.slots) (q : Q (some v) h) : Run p l e R s m args below meth c Z wd EL n0 ow0 Q h ow cells slots (mkF m pc Ls (v :: rest)) :=
  fin G (fun h => by rw [hret] at h; cases h) hc hs q fun T locs vm0 k0 fs X hr => retOut X G.1 (G.2.2.2.2.1.trans hret) (by cases t <;> cases v <;> first | rfl | (simp [Value.isRef, FieldType.isReference] at hv ht)) (Or.inr (Or.inr (Or.inr (Or.inr ⟨rfl, ht, hv⟩)))) (G.hb hd) hr
theorem retVoid (G : Gd p s m meth c y bytes maxL ret Z a0 EL) (hd : decode bytes pc = .ok (.return_, 1)) (hret : ret = none) (hc : cells ≤ R.cells) (hs : slots ≤ R.slots) (q : Q none h) : Run p l e R s m args below meth c Z wd EL n0 ow0 Q h ow cells slots (mkF m pc Ls []) :=
  fin G (fun _ => rfl) hc hs q fun T locs vm0 k0 fs X hr => X.returnOut G.1 (G.2.2.2.2.1.trans hret) (G.hb hd) hr
/-- a callee's contract pays the call -/
theorem backG {y' : MethodName} {bytes' : ByteArray} {maxL' : Nat} {ret' : Option FieldType} {rm : Room} {len W : Nat} {as' : Array Value} {owc : List Addr} {Q' : Option Value → Heap → Prop} {vm0 : Vm}
    (C : Con l Z wd EL n0 y' bytes' maxL' ret' rm [] as' h owc Q') (hZ : Z.Warmed39 vm0) (wc : (Jvm.Cond.code y' bytes' maxL' ret').before a0 Z = true) (wz : (Jvm.Cond.initialized y'.cls).before a0 Z = true) (hf : rm.frames + 1 ≤ R.frames) (hl : W + (maxL' + 11) + rm.locals ≤ R.locals) (hEL : EW Z a0 EL) (H : CHv Z EL vm0 h) (hO : Old Z n0 h) (hS : ∀ x ∈ owc, Safe Z EL vm0 h x ∧ x < h.size ∧ n0 ≤ x) :
    BackS l R p e below (s.setVm vm0) args y' len W (fun A a => a = as' ∧ A.U.heap = h ∧ A.cells + rm.cells ≤ R.cells ∧ A.slots + rm.slots ≤ R.slots)
      (fun A _ v B => ∃ L, Q' v B.U.heap ∧ Fr n0 L ∧ Keep h B.U.heap owc ∧ B.locs = A.locs ++ L ∧ B.cells = A.cells + rm.cells ∧ B.slots = A.slots + rm.slots ∧ CHr Z EL vm0 h B.U.vm B.U.heap ∧ (wd = true ∨ (s.setVm vm0).WarmedH B.U.vm)) :=
  BackS.of_freeW (bytes := bytes') (maxL := maxL') (ret := ret') (E := fun _ first o t L k n => k = rm.cells ∧ n = rm.slots ∧ (∃ v, o = .returned v ∧ Q' v t.heap) ∧ Fr n0 L ∧ Keep first.heap t.heap owc ∧ CHr Z EL first.vm first.heap t.vm t.heap ∧ (wd = true ∨ first.WarmedH t.vm)) C hf hl
    (fun m meth c A a Y hp => have hU : Z.Warmed39 A.U.vm := wtrans (s := s.setVm vm0) hZ Y.warmed
      ⟨by show (Cond.and _ .tt).before a A.U = true; rw [Cond.before_and, mv hU wc]; rfl, mv hU wc, mv hU wz, hp.2.2.1, hp.2.2.2⟩)
    (fun m meth c A a g mk Y hp => ⟨hp.1, wtrans (s := s.setVm vm0) hZ Y.warmed, hp.2.1, hO, (CHv.at Y hZ hEL H).1, fun x hx => ⟨(CHv.at Y hZ hEL H).safe (hS x hx).2.1 (hS x hx).1, (hS x hx).2⟩⟩) (fun _ _ _ _ _ _ _ _ _ => trivial)
    (fun _ _ _ _ ⟨v, L, h1, h2, h3, h4, h5, h6, h7⟩ => ⟨L, _, _, h6, rfl, rfl, ⟨v, h1, h2⟩, h3, h5, h4, h7⟩)
    (fun m meth c A a g mk v t L k n Y hp _ _ ⟨e1, e2, ⟨v', e3, e4⟩, e5, e6, e7, e8⟩ => by
      cases e3; subst e1 e2
      have hh : (A.U.calling g mk a).heap = h := hp.2.1
      rw [hh] at e6 e7
      exact ⟨L, e4, e5, e6, rfl, rfl, rfl, (CHv.at Y hZ hEL H).trans e7, e8.imp id fun w => State.WarmedH.trans (t := A.U) Y.warmed w⟩)
theorem Hid.call {T T' : State} {locs L : List Loc} {vm0 : Vm} {k0 : Nat} {owc : List Addr} (H : Hid s Z wd EL n0 ow0 ow T locs vm0 k0 h) (how : ∀ x ∈ owc, x ∈ ow) (hS : (s.setVm vm0).Since T'.vm T'.heap.size) (N : Fr n0 L) (K : Keep h T'.heap owc) (hC : CHr Z EL vm0 h T'.vm T'.heap) (hw : wd = true ∨ (s.setVm vm0).WarmedH T'.vm) :
    Hid s Z wd EL n0 ow0 ow T' (locs ++ L) T'.vm T'.heap.size T'.heap := by
  obtain ⟨i1, i2, i3, i4, i5, i6, i7, i8, i9, i10⟩ := H
  refine ⟨i1.trans hS (Nat.le_trans i2 K.1), Nat.le_refl _, State.Warmed39.trans (t := s.setVm vm0) i3 hS.1, rfl, i5.app N, i6.trans hC, i7.trans K (fun x hx => (i9 x (how x hx)).2.2.2), i8.keep K (fun x hx => (i9 x (how x hx)).2.2.1), fun x hx => ⟨hC.safe (i9 x hx).2.1 (i9 x hx).1, Nat.lt_of_lt_of_le (i9 x hx).2.1 K.1, (i9 x hx).2.2⟩, ?_⟩
  rcases hw with hw | hw
  · exact Or.inl hw
  · exact i10.imp id fun w => State.WarmedH.trans (t := s.setVm vm0) w hw
theorem callStatic (G : Gd p s m meth c y bytes maxL ret Z a0 EL) {idx : Nat} {y' : MethodName} {bytes' : ByteArray} {maxL' : Nat} {ret' : Option FieldType} {rm : Room} {W : Nat} {argsL : List Value} {owc : List Addr} {Q' : Option Value → Heap → Prop} (hd : decode bytes pc = .ok (.invokestatic idx, 3))
    (w1 : (Jvm.Cond.methodLink y.cls idx y').before a0 Z = true) (w2 : (Jvm.Cond.static y').before a0 Z = true) (w3 : (Jvm.Cond.initialized y'.cls).before a0 Z = true) (w4 : (Jvm.Cond.code y' bytes' maxL' ret').before a0 Z = true) (hy : y'.cls ≠ "java/lang/invoke/MethodHandle" ∧ y'.cls ≠ "java/lang/invoke/VarHandle")
    (C : Con l Z wd EL n0 y' bytes' maxL' ret' rm [] argsL.toArray h owc Q') (hst : st = argsL.reverse ++ rest) (hlen : ∀ sig, parseMethodDescriptor y'.desc = some sig → argsL.length = sig.parameters.length) (hsz : Ls.size = maxL) (hfr : rm.frames + 1 ≤ R.frames) (hW : (rest.map fun v => v.category).sum ≤ W) (hlo : W + (maxL' + 11) + rm.locals ≤ R.locals) (hc : cells + rm.cells ≤ R.cells) (hs : slots + rm.slots ≤ R.slots) (how : ∀ x ∈ owc, x ∈ ow) (hc' : cells + rm.cells = cells') (hs' : slots + rm.slots = slots') (hp : pc + 3 = pc')
    (K : ∀ (v : Option Value) (h' : Heap), Q' v h' → Keep h h' owc → Run p l e R s m args below meth c Z wd EL n0 ow0 Q h' ow cells' slots' (mkF m pc' Ls (v.toList ++ rest))) : Run p l e R s m args below meth c Z wd EL n0 ow0 Q h ow cells slots (mkF m pc Ls st) := by
  subst hp hst hc' hs'
  intro T locs vm0 k0 X H
  have hZ := H.2.2.1
  obtain ⟨v, vm₁, B, -, X', hS, -, ⟨L, q1, q2, q3, q4, q5, q6, q7, q8⟩, stp⟩ := callSS X G.1 (bytes := bytes') (maxL := maxL') (ret := ret') (G.own H.1) (mv (s := s.setVm vm0) hZ w1) (mv (s := s.setVm vm0) hZ w2) (mv (s := s.setVm vm0) hZ w3) (mv (s := s.setVm vm0) hZ w4) hy
    (backG C hZ w4 w3 hfr hlo G.2.2.2.2.2.2.2 H.2.2.2.2.2.1.1 H.2.2.2.2.2.2.2.1 (fun x hx => ⟨(H.2.2.2.2.2.2.2.2.1 x (how x hx)).1, (H.2.2.2.2.2.2.2.2.1 x (how x hx)).2.1, (H.2.2.2.2.2.2.2.2.1 x (how x hx)).2.2.1⟩)) (g := mkF m pc Ls (argsL.reverse ++ rest)) rfl (hsz.trans G.2.2.1.symm) hlen rfl (by show 2 * 0 + _ ≤ W; omega) (G.hb hd) (fun _ _ => ⟨rfl, H.2.2.2.1, hc, hs⟩)
  obtain ⟨T', Lc, kc, nc⟩ := B
  dsimp only [Pt.U, Pt.locs, Pt.cells, Pt.slots] at X' q1 q3 q4 q5 q6 q7 q8 hS stp
  subst q4 q5 q6
  obtain ⟨s₂, o, q, r⟩ := K v T'.heap q1 q3 T' (locs ++ L) T'.vm T'.heap.size X' (H.call how hS q2 q3 q7 q8)
  exact ⟨s₂, o, stp.trans q, r⟩
theorem callSpecial (G : Gd p s m meth c y bytes maxL ret Z a0 EL) {idx : Nat} {y' : MethodName} {bytes' : ByteArray} {maxL' : Nat} {rm : Room} {W : Nat} {a : Addr} {argsL : List Value} {owc : List Addr} {Q' : Option Value → Heap → Prop} (hd : decode bytes pc = .ok (.invokespecial idx, 3)) (hn : y'.name = "<init>")
    (w1 : (Jvm.Cond.methodLink y.cls idx y').before a0 Z = true) (w2 : (Jvm.Cond.instanceMethod y').before a0 Z = true) (w3 : (Jvm.Cond.initialized y'.cls).before a0 Z = true) (w4 : (Jvm.Cond.code y' bytes' maxL' none).before a0 Z = true) (hy : y'.cls ≠ "java/lang/invoke/MethodHandle" ∧ y'.cls ≠ "java/lang/invoke/VarHandle")
    (C : Con l Z wd EL n0 y' bytes' maxL' none rm [] (.ref a :: argsL).toArray h owc Q') (hst : st = argsL.reverse ++ .ref a :: rest) (hlen : ∀ sig, parseMethodDescriptor y'.desc = some sig → argsL.length = sig.parameters.length) (hsz : Ls.size = maxL) (hfr : rm.frames + 1 ≤ R.frames) (hW : (rest.map fun v => v.category).sum ≤ W) (hlo : W + (maxL' + 11) + rm.locals ≤ R.locals) (hc : cells + rm.cells ≤ R.cells) (hs : slots + rm.slots ≤ R.slots) (how : ∀ x ∈ owc, x ∈ ow) (hc' : cells + rm.cells = cells') (hs' : slots + rm.slots = slots') (hp : pc + 3 = pc')
    (K : ∀ (v : Option Value) (h' : Heap), Q' v h' → Keep h h' owc → Run p l e R s m args below meth c Z wd EL n0 ow0 Q h' ow cells' slots' (mkF m pc' Ls (v.toList ++ rest))) : Run p l e R s m args below meth c Z wd EL n0 ow0 Q h ow cells slots (mkF m pc Ls st) := by
  subst hp hst hc' hs'
  intro T locs vm0 k0 X H
  have hZ := H.2.2.1
  obtain ⟨v, vm₁, B, -, X', hS, -, ⟨L, q1, q2, q3, q4, q5, q6, q7, q8⟩, stp⟩ := X.specialBackS G.1 (bytes := bytes') (maxL := maxL') hn (G.own H.1) (mv (s := s.setVm vm0) hZ w1) (mv (s := s.setVm vm0) hZ w2) (mv (s := s.setVm vm0) hZ w4) hy
    (backG C hZ w4 w3 hfr hlo G.2.2.2.2.2.2.2 H.2.2.2.2.2.1.1 H.2.2.2.2.2.2.2.1 (fun x hx => ⟨(H.2.2.2.2.2.2.2.2.1 x (how x hx)).1, (H.2.2.2.2.2.2.2.2.1 x (how x hx)).2.1, (H.2.2.2.2.2.2.2.2.1 x (how x hx)).2.2.1⟩)) (g := mkF m pc Ls (argsL.reverse ++ .ref a :: rest)) rfl (hsz.trans G.2.2.1.symm) (Steps.refl _) hlen rfl (by show 2 * 0 + _ ≤ W; omega) (G.hb hd) (fun _ _ => ⟨rfl, H.2.2.2.1, hc, hs⟩)
  obtain ⟨T', Lc, kc, nc⟩ := B
  dsimp only [Pt.U, Pt.locs, Pt.cells, Pt.slots] at X' q1 q3 q4 q5 q6 q7 q8 hS stp
  subst q4 q5 q6
  obtain ⟨s₂, o, q, r⟩ := K v T'.heap q1 q3 T' (locs ++ L) T'.vm T'.heap.size X' (H.call how hS q2 q3 q7 q8)
  exact ⟨s₂, o, stp.trans q, r⟩
theorem callVirtual (G : Gd p s m meth c y bytes maxL ret Z a0 EL) {idx : Nat} {y' z' : MethodName} {D : String} {bytes' : ByteArray} {maxL' : Nat} {ret' : Option FieldType} {rm : Room} {W : Nat} {a : Addr} {argsL : List Value} {owc : List Addr} {Q' : Option Value → Heap → Prop} (hd : decode bytes pc = .ok (.invokevirtual idx, 3))
    (w1 : (Jvm.Cond.methodLink y.cls idx y').before a0 Z = true) (w2 : (Jvm.Cond.declares y').before a0 Z = true) (w3 : (Jvm.Cond.selects D y' z').before a0 Z = true) (hnf : ∀ (s : State), Z.Warmed39 s.vm → NotFace s y') (w4 : (Jvm.Cond.instanceMethod z').before a0 Z = true) (w5 : (Jvm.Cond.initialized z'.cls).before a0 Z = true) (w6 : (Jvm.Cond.code z' bytes' maxL' ret').before a0 Z = true) (hy : y'.cls ≠ "java/lang/invoke/MethodHandle" ∧ y'.cls ≠ "java/lang/invoke/VarHandle")
    (E : Exa Z h a D) (C : Con l Z wd EL n0 z' bytes' maxL' ret' rm [] (.ref a :: argsL).toArray h owc Q') (hst : st = argsL.reverse ++ .ref a :: rest) (hlen : ∀ sig, parseMethodDescriptor y'.desc = some sig → argsL.length = sig.parameters.length) (hsz : Ls.size = maxL) (hfr : rm.frames + 1 ≤ R.frames) (hW : (rest.map fun v => v.category).sum ≤ W) (hlo : W + (maxL' + 11) + rm.locals ≤ R.locals) (hc : cells + rm.cells ≤ R.cells) (hs : slots + rm.slots ≤ R.slots) (how : ∀ x ∈ owc, x ∈ ow) (hc' : cells + rm.cells = cells') (hs' : slots + rm.slots = slots') (hp : pc + 3 = pc')
    (K : ∀ (v : Option Value) (h' : Heap), Q' v h' → Keep h h' owc → Run p l e R s m args below meth c Z wd EL n0 ow0 Q h' ow cells' slots' (mkF m pc' Ls (v.toList ++ rest))) : Run p l e R s m args below meth c Z wd EL n0 ow0 Q h ow cells slots (mkF m pc Ls st) := by
  subst hp hst hc' hs'
  intro T locs vm0 k0 X H
  have hZ := H.2.2.1
  obtain ⟨cq, kq, r1, -, r3⟩ := isOf (s := s.setVm vm0) (T := T) hZ H.2.2.2.1 E
  obtain ⟨v, vm₁, B, -, X', hS, -, ⟨L, q1, q2, q3, q4, q5, q6, q7, q8⟩, stp⟩ := X.virtualBackS G.1 (G.own H.1) (mv (s := s.setVm vm0) hZ w1) (mv (s := s.setVm vm0) hZ w2) (hnf (s.setVm vm0) hZ) (mv (s := s.setVm vm0) hZ w3) (mv (s := s.setVm vm0) hZ w4) hy
    (backG C hZ w6 w5 hfr hlo G.2.2.2.2.2.2.2 H.2.2.2.2.2.1.1 H.2.2.2.2.2.2.2.1 (fun x hx => ⟨(H.2.2.2.2.2.2.2.2.1 x (how x hx)).1, (H.2.2.2.2.2.2.2.2.1 x (how x hx)).2.1, (H.2.2.2.2.2.2.2.2.1 x (how x hx)).2.2.1⟩)) r1 r3 (g := mkF m pc Ls (argsL.reverse ++ .ref a :: rest)) rfl (hsz.trans G.2.2.1.symm) (Steps.refl _) hlen rfl (by show 2 * 0 + _ ≤ W; omega) (G.hb hd) (fun _ _ => ⟨rfl, H.2.2.2.1, hc, hs⟩)
  obtain ⟨T', Lc, kc, nc⟩ := B
  dsimp only [Pt.U, Pt.locs, Pt.cells, Pt.slots] at X' q1 q3 q4 q5 q6 q7 q8 hS stp
  subst q4 q5 q6
  obtain ⟨s₂, o, q, r⟩ := K v T'.heap q1 q3 T' (locs ++ L) T'.vm T'.heap.size X' (H.call how hS q2 q3 q7 q8)
  exact ⟨s₂, o, stp.trans q, r⟩
theorem callFace (G : Gd p s m meth c y bytes maxL ret Z a0 EL) {idx count : Nat} {y' z' : MethodName} {D : String} {bytes' : ByteArray} {maxL' : Nat} {ret' : Option FieldType} {rm : Room} {W : Nat} {a : Addr} {argsL : List Value} {owc : List Addr} {Q' : Option Value → Heap → Prop} (hd : decode bytes pc = .ok (.invokeinterface idx count, 5))
    (w1 : (Jvm.Cond.methodLink y.cls idx y').before a0 Z = true) (w2 : (Jvm.Cond.declares y').before a0 Z = true) (w3 : (Jvm.Cond.selects D y' z').before a0 Z = true) (wf : ∀ (a1 : Array Value) (s : State), Z.Warmed39 s.vm → (Jvm.Cond.interfaceMethod y'.cls y'.cls y'.name y'.desc).before a1 s = true) (wp : (Jvm.Cond.publicMethod z').before a0 Z = true) (wu : (Jvm.Cond.unhidden D y'.name y'.desc).before a0 Z = true) (wk : (Jvm.Cond.castable D y'.cls).before a0 Z = true) (w4 : (Jvm.Cond.instanceMethod z').before a0 Z = true) (w5 : (Jvm.Cond.initialized z'.cls).before a0 Z = true) (w6 : (Jvm.Cond.code z' bytes' maxL' ret').before a0 Z = true) (hy : y'.cls ≠ "java/lang/invoke/MethodHandle" ∧ y'.cls ≠ "java/lang/invoke/VarHandle")
    (E : Exa Z h a D) (C : Con l Z wd EL n0 z' bytes' maxL' ret' rm [] (.ref a :: argsL).toArray h owc Q') (hst : st = argsL.reverse ++ .ref a :: rest) (hlen : ∀ sig, parseMethodDescriptor y'.desc = some sig → argsL.length = sig.parameters.length) (hsz : Ls.size = maxL) (hfr : rm.frames + 1 ≤ R.frames) (hW : (rest.map fun v => v.category).sum ≤ W) (hlo : W + (maxL' + 11) + rm.locals ≤ R.locals) (hc : cells + rm.cells ≤ R.cells) (hs : slots + rm.slots ≤ R.slots) (how : ∀ x ∈ owc, x ∈ ow) (hc' : cells + rm.cells = cells') (hs' : slots + rm.slots = slots') (hp : pc + 5 = pc')
    (K : ∀ (v : Option Value) (h' : Heap), Q' v h' → Keep h h' owc → Run p l e R s m args below meth c Z wd EL n0 ow0 Q h' ow cells' slots' (mkF m pc' Ls (v.toList ++ rest))) : Run p l e R s m args below meth c Z wd EL n0 ow0 Q h ow cells slots (mkF m pc Ls st) := by
  subst hp hst hc' hs'
  intro T locs vm0 k0 X H
  have hZ := H.2.2.1
  obtain ⟨cq, kq, r1, r2, r3⟩ := isOf (s := s.setVm vm0) (T := T) hZ H.2.2.2.1 E
  obtain ⟨v, vm₁, B, -, X', hS, -, ⟨L, q1, q2, q3, q4, q5, q6, q7, q8⟩, stp⟩ := X.interfaceBackS G.1 (G.own H.1) (mv (s := s.setVm vm0) hZ w1) (mv (s := s.setVm vm0) hZ w2) (wf _ (s.setVm vm0) hZ) (mv (s := s.setVm vm0) hZ w3) (mv (s := s.setVm vm0) hZ w4) (mv (s := s.setVm vm0) hZ wp) (mv (s := s.setVm vm0) hZ wu) (mv (s := s.setVm vm0) hZ wk) hy
    (backG C hZ w6 w5 hfr hlo G.2.2.2.2.2.2.2 H.2.2.2.2.2.1.1 H.2.2.2.2.2.2.2.1 (fun x hx => ⟨(H.2.2.2.2.2.2.2.2.1 x (how x hx)).1, (H.2.2.2.2.2.2.2.2.1 x (how x hx)).2.1, (H.2.2.2.2.2.2.2.2.1 x (how x hx)).2.2.1⟩)) r1 r2 r3 (g := mkF m pc Ls (argsL.reverse ++ .ref a :: rest)) rfl (hsz.trans G.2.2.1.symm) (Steps.refl _) hlen rfl (by show 2 * 0 + _ ≤ W; omega) (G.hb hd) (fun _ _ => ⟨rfl, H.2.2.2.1, hc, hs⟩)
  obtain ⟨T', Lc, kc, nc⟩ := B
  dsimp only [Pt.U, Pt.locs, Pt.cells, Pt.slots] at X' q1 q3 q4 q5 q6 q7 q8 hS stp
  subst q4 q5 q6
  obtain ⟨s₂, o, q, r⟩ := K v T'.heap q1 q3 T' (locs ++ L) T'.vm T'.heap.size X' (H.call how hS q2 q3 q7 q8)
  exact ⟨s₂, o, stp.trans q, r⟩
theorem nface {y' : MethodName} {D : String} (w3 : (Jvm.Cond.selects D y' y').before a0 Z = true) : ∀ (s : State), Z.Warmed39 s.vm → NotFace s y' := fun s hZ => notFace_of_selects (args := #[]) (mv (s := s) hZ w3)
end
end Jvm.GoKit


namespace Jvm.GoKit
open Jvm Jvm.ClassFile Sem Op Lib Jvm.Free Jvm.Stand Jvm.LawKit Jvm.RoadKit Bundle
theorem wi {L : List Jvm.Cond} {a0 : Array Value} {Z : State} (hw : ∀ d ∈ L, d.before a0 Z = true) (i : Nat) {d : Jvm.Cond} (h : L[i]? = some d) : d.before a0 Z = true := hw _ (List.mem_of_getElem? h)
/-- an array of chars or bytes, with its values -/
def IA (Z : State) (h : Heap) (b : Addr) (ty : FieldType) (xs : List Int32) : Prop := ∃ cl : Cell, Arr Z h b cl ty ∧ cl.slots = (xs.map Value.int).toArray ∧ xs.length < 2 ^ 31
section
variable {p : Program} {l : Launch} {e : Env} {R : Room} {s : State} {m : MethodId} {args : Array Value} {below : List Frame} {meth : Method} {c : Code} {Z : State} {wd : Bool} {EL : List (String × Nat)} {n0 : Nat} {ow0 : List Addr} {Q : Option Value → Heap → Prop}
variable {h h' : Heap} {ow : List Addr} {cells slots cells' slots' : Nat} {pc pc' : Nat} {Ls Ls' : Array Slot} {st rest : List Value} {y : MethodName} {bytes : ByteArray} {maxL : Nat} {ret : Option FieldType} {a0 : Array Value}
variable {a b : Addr} {ty : FieldType} {xs : List Int32} {i : Nat} {x x' z j : Int32} {ws : List Addr} {sl : Nat} {v : Value}
theorem IA.lt (A : IA Z h b ty xs) : b < h.size := by obtain ⟨cl, A, -⟩ := A; exact A.lt
theorem IA.ext (A : IA Z h b ty xs) (E : Ext h h') : IA Z h' b ty xs := by obtain ⟨cl, A, r⟩ := A; exact ⟨cl, A.ext E, r⟩
theorem IA.other (A : IA Z h b ty xs) (W : Wr h h' a sl v) (q : b ≠ a) : IA Z h' b ty xs := by obtain ⟨cl, A, r⟩ := A; exact ⟨cl, A.other W q, r⟩
theorem IA.keep (A : IA Z h b ty xs) (K : Keep h h' ws) (q : b ∉ ws) : IA Z h' b ty xs := by obtain ⟨cl, A, r⟩ := A; exact ⟨cl, ⟨K.2.1 b cl A.1 q, A.2⟩, r⟩
theorem IA.new {cA : ClassId} {n : Int32} {k : Nat} (A : Arr Z h a (newA cA ty n) ty) (hk : n.toNatClampNeg = k) (hd : defaultValue ty = .int 0) : IA Z h a ty (List.replicate k 0) := by
  refine ⟨_, A, ?_, ?_⟩
  · subst hk; simp [newA, hd]
  · rw [List.length_replicate, ← hk]
    have := n.toInt_lt
    simp only [Int32.toNatClampNeg]; omega
theorem idx_ok {cl : Cell} {j : Int32} {i n : Nat} (hs : cl.slots.size = n) (hj : j.toNatClampNeg = i) (hj0 : ¬ j < 0) (hi : i < n) : ¬ (j < 0 ∨ cl.slots.size ≤ j.toNatClampNeg) := by
  rintro (q | q)
  · exact hj0 q
  · omega
theorem IA.set (A : IA Z h a ty xs) (W : Wr h h' a i (.int x)) (hi : i < xs.length) : IA Z h' a ty (xs.set i x) := by
  obtain ⟨cl, A, e, hl⟩ := A
  refine ⟨_, A.same W, ?_, by simpa using hl⟩
  simp only [Cell.setSlot]
  rw [e, ← Array.toList_inj]
  simp [List.map_set]
theorem castI (G : Gd p s m meth c y bytes maxL ret Z a0 EL) (hd : decode bytes pc = .ok (.castore, 1)) (A : IA Z h a .char xs) (hj : j.toNatClampNeg = i) (hj0 : ¬ j < 0) (hi : i < xs.length) (hx : nar .char x = x') (ha : a ∈ ow) (hp : pc + 1 = pc')
    (K : ∀ h', Wr h h' a i (.int x') → IA Z h' a .char (xs.set i x') → Run p l e R s m args below meth c Z wd EL n0 ow0 Q h' ow cells slots (mkF m pc' Ls rest)) : Run p l e R s m args below meth c Z wd EL n0 ow0 Q h ow cells slots (mkF m pc Ls (.int x :: .int j :: .ref a :: rest)) := by
  obtain ⟨cl, A1, e1, hl⟩ := id A
  refine castore G hd A1 (idx_ok (by rw [e1]; simp) hj hj0 hi) ha hp fun h' W => ?_
  rw [hj, hx] at W
  exact K h' W (A.set W hi)
theorem bastI (G : Gd p s m meth c y bytes maxL ret Z a0 EL) (hd : decode bytes pc = .ok (.bastore, 1)) (A : IA Z h a .byte xs) (hj : j.toNatClampNeg = i) (hj0 : ¬ j < 0) (hi : i < xs.length) (hx : nar .byte x = x') (ha : a ∈ ow) (hp : pc + 1 = pc')
    (K : ∀ h', Wr h h' a i (.int x') → IA Z h' a .byte (xs.set i x') → Run p l e R s m args below meth c Z wd EL n0 ow0 Q h' ow cells slots (mkF m pc' Ls rest)) : Run p l e R s m args below meth c Z wd EL n0 ow0 Q h ow cells slots (mkF m pc Ls (.int x :: .int j :: .ref a :: rest)) := by
  obtain ⟨cl, A1, e1, hl⟩ := id A
  refine bastore G hd A1 (idx_ok (by rw [e1]; simp) hj hj0 hi) ha hp fun h' W => ?_
  rw [hj, hx] at W
  exact K h' W (A.set W hi)
theorem caloadI (G : Gd p s m meth c y bytes maxL ret Z a0 EL) (hd : decode bytes pc = .ok (.caload, 1)) (A : IA Z h a .char xs) (hj : j.toNatClampNeg = i) (hj0 : ¬ j < 0) (hv : xs[i]? = some x) (hp : pc + 1 = pc') (K : Run p l e R s m args below meth c Z wd EL n0 ow0 Q h ow cells slots (mkF m pc' Ls (.int x :: rest))) : Run p l e R s m args below meth c Z wd EL n0 ow0 Q h ow cells slots (mkF m pc Ls (.int j :: .ref a :: rest)) := by
  obtain ⟨cl, A1, e1, hl⟩ := A
  have hi := (List.getElem?_eq_some_iff.mp hv).1
  exact caload G hd A1 (idx_ok (by rw [e1]; simp) hj hj0 hi) (by rw [e1, hj]; simp [hv]) hp K
theorem baloadI (G : Gd p s m meth c y bytes maxL ret Z a0 EL) (hd : decode bytes pc = .ok (.baload, 1)) (A : IA Z h a .byte xs) (hj : j.toNatClampNeg = i) (hj0 : ¬ j < 0) (hv : xs[i]? = some x) (hp : pc + 1 = pc') (K : Run p l e R s m args below meth c Z wd EL n0 ow0 Q h ow cells slots (mkF m pc' Ls (.int x :: rest))) : Run p l e R s m args below meth c Z wd EL n0 ow0 Q h ow cells slots (mkF m pc Ls (.int j :: .ref a :: rest)) := by
  obtain ⟨cl, A1, e1, hl⟩ := A
  have hi := (List.getElem?_eq_some_iff.mp hv).1
  exact baload G hd A1 (idx_ok (by rw [e1]; simp) hj hj0 hi) (by rw [e1, hj]; simp [hv]) hp K
theorem arrlenI (G : Gd p s m meth c y bytes maxL ret Z a0 EL) (hd : decode bytes pc = .ok (.arraylength, 1)) (A : IA Z h a ty xs) (hz : xs.length.toInt32 = z) (hp : pc + 1 = pc') (K : Run p l e R s m args below meth c Z wd EL n0 ow0 Q h ow cells slots (mkF m pc' Ls (.int z :: rest))) : Run p l e R s m args below meth c Z wd EL n0 ow0 Q h ow cells slots (mkF m pc Ls (.ref a :: rest)) := by
  obtain ⟨cl, A1, e1, hl⟩ := A
  refine arrlen G hd A1 hp ?_
  rw [e1, List.size_toArray, List.length_map, hz]
  exact K
theorem newcI (G : Gd p s m meth c y bytes maxL ret Z a0 EL) {n : Int32} {k cap : Nat} (hd : decode bytes pc = .ok (.newarray .char, 2)) (w : (Jvm.Cond.arrayClass .char).before a0 Z = true) (hn : ¬ n < 0) (hk : n.toNatClampNeg = k) (hcap : k ≤ cap) (hb : cap * 8 ≤ 536870912) (hc : cells + 1 ≤ R.cells) (hl : slots + cap ≤ R.slots) (hc' : cells + 1 = cells') (hs' : slots + cap = slots') (hp : pc + 2 = pc')
    (K : ∀ (h' : Heap) (a : Addr), a = h.size → Ext h h' → IA Z h' a .char (List.replicate k 0) → Run p l e R s m args below meth c Z wd EL n0 ow0 Q h' (a :: ow) cells' slots' (mkF m pc' Ls (.ref a :: rest))) : Run p l e R s m args below meth c Z wd EL n0 ow0 Q h ow cells slots (mkF m pc Ls (.int n :: rest)) :=
  newarr G hd w hn (hk ▸ hcap) hb hc hl hc' hs' hp fun h' cA a g E A => K h' a g E (IA.new A hk rfl)
theorem newbI (G : Gd p s m meth c y bytes maxL ret Z a0 EL) {n : Int32} {k cap : Nat} (hd : decode bytes pc = .ok (.newarray .byte, 2)) (w : (Jvm.Cond.arrayClass .byte).before a0 Z = true) (hn : ¬ n < 0) (hk : n.toNatClampNeg = k) (hcap : k ≤ cap) (hb : cap * 8 ≤ 536870912) (hc : cells + 1 ≤ R.cells) (hl : slots + cap ≤ R.slots) (hc' : cells + 1 = cells') (hs' : slots + cap = slots') (hp : pc + 2 = pc')
    (K : ∀ (h' : Heap) (a : Addr), a = h.size → Ext h h' → IA Z h' a .byte (List.replicate k 0) → Run p l e R s m args below meth c Z wd EL n0 ow0 Q h' (a :: ow) cells' slots' (mkF m pc' Ls (.ref a :: rest))) : Run p l e R s m args below meth c Z wd EL n0 ow0 Q h ow cells slots (mkF m pc Ls (.int n :: rest)) :=
  newarr G hd w hn (hk ▸ hcap) hb hc hl hc' hs' hp fun h' cA a g E A => K h' a g E (IA.new A hk rfl)
/-- calls of a callee that leaves the heap as it was -/
theorem callStaticP (G : Gd p s m meth c y bytes maxL ret Z a0 EL) {idx : Nat} {y' : MethodName} {bytes' : ByteArray} {maxL' : Nat} {ret' : Option FieldType} {rm : Room} {W : Nat} {argsL : List Value} {r : Option Value} (hd : decode bytes pc = .ok (.invokestatic idx, 3))
    (w1 : (Jvm.Cond.methodLink y.cls idx y').before a0 Z = true) (w2 : (Jvm.Cond.static y').before a0 Z = true) (w3 : (Jvm.Cond.initialized y'.cls).before a0 Z = true) (w4 : (Jvm.Cond.code y' bytes' maxL' ret').before a0 Z = true) (hy : y'.cls ≠ "java/lang/invoke/MethodHandle" ∧ y'.cls ≠ "java/lang/invoke/VarHandle")
    (C : Con l Z wd EL n0 y' bytes' maxL' ret' rm [] argsL.toArray h [] (fun v h' => v = r ∧ h' = h)) (hst : st = argsL.reverse ++ rest) (hlen : ∀ sig, parseMethodDescriptor y'.desc = some sig → argsL.length = sig.parameters.length) (hsz : Ls.size = maxL) (hfr : rm.frames + 1 ≤ R.frames) (hW : (rest.map fun v => v.category).sum ≤ W) (hlo : W + (maxL' + 11) + rm.locals ≤ R.locals) (hc : cells + rm.cells ≤ R.cells) (hs : slots + rm.slots ≤ R.slots) (hc' : cells + rm.cells = cells') (hs' : slots + rm.slots = slots') (hp : pc + 3 = pc')
    (K : Run p l e R s m args below meth c Z wd EL n0 ow0 Q h ow cells' slots' (mkF m pc' Ls (r.toList ++ rest))) : Run p l e R s m args below meth c Z wd EL n0 ow0 Q h ow cells slots (mkF m pc Ls st) :=
  callStatic G hd w1 w2 w3 w4 hy C hst hlen hsz hfr hW hlo hc hs (fun _ q => nomatch q) hc' hs' hp fun v h' q _ => by rw [q.1, q.2]; exact K
theorem callVirtualP (G : Gd p s m meth c y bytes maxL ret Z a0 EL) {idx : Nat} {y' : MethodName} {D : String} {bytes' : ByteArray} {maxL' : Nat} {ret' : Option FieldType} {rm : Room} {W : Nat} {a : Addr} {argsL : List Value} {r : Option Value} (hd : decode bytes pc = .ok (.invokevirtual idx, 3))
    (w1 : (Jvm.Cond.methodLink y.cls idx y').before a0 Z = true) (w2 : (Jvm.Cond.declares y').before a0 Z = true) (w3 : (Jvm.Cond.selects D y' y').before a0 Z = true) (w4 : (Jvm.Cond.instanceMethod y').before a0 Z = true) (w5 : (Jvm.Cond.initialized y'.cls).before a0 Z = true) (w6 : (Jvm.Cond.code y' bytes' maxL' ret').before a0 Z = true) (hy : y'.cls ≠ "java/lang/invoke/MethodHandle" ∧ y'.cls ≠ "java/lang/invoke/VarHandle")
    (E : Exa Z h a D) (C : Con l Z wd EL n0 y' bytes' maxL' ret' rm [] (.ref a :: argsL).toArray h [] (fun v h' => v = r ∧ h' = h)) (hst : st = argsL.reverse ++ .ref a :: rest) (hlen : ∀ sig, parseMethodDescriptor y'.desc = some sig → argsL.length = sig.parameters.length) (hsz : Ls.size = maxL) (hfr : rm.frames + 1 ≤ R.frames) (hW : (rest.map fun v => v.category).sum ≤ W) (hlo : W + (maxL' + 11) + rm.locals ≤ R.locals) (hc : cells + rm.cells ≤ R.cells) (hs : slots + rm.slots ≤ R.slots) (hc' : cells + rm.cells = cells') (hs' : slots + rm.slots = slots') (hp : pc + 3 = pc')
    (K : Run p l e R s m args below meth c Z wd EL n0 ow0 Q h ow cells' slots' (mkF m pc' Ls (r.toList ++ rest))) : Run p l e R s m args below meth c Z wd EL n0 ow0 Q h ow cells slots (mkF m pc Ls st) :=
  callVirtual G hd w1 w2 w3 (nface w3) w4 w5 w6 hy E C hst hlen hsz hfr hW hlo hc hs (fun _ q => nomatch q) hc' hs' hp fun v h' q _ => by rw [q.1, q.2]; exact K
theorem callFaceP (G : Gd p s m meth c y bytes maxL ret Z a0 EL) {idx count : Nat} {y' z' : MethodName} {D : String} {bytes' : ByteArray} {maxL' : Nat} {ret' : Option FieldType} {rm : Room} {W : Nat} {a : Addr} {argsL : List Value} {r : Option Value} (hd : decode bytes pc = .ok (.invokeinterface idx count, 5))
    (w1 : (Jvm.Cond.methodLink y.cls idx y').before a0 Z = true) (w2 : (Jvm.Cond.declares y').before a0 Z = true) (w3 : (Jvm.Cond.selects D y' z').before a0 Z = true) (wf : ∀ (a1 : Array Value) (s : State), Z.Warmed39 s.vm → (Jvm.Cond.interfaceMethod y'.cls y'.cls y'.name y'.desc).before a1 s = true) (wp : (Jvm.Cond.publicMethod z').before a0 Z = true) (wu : (Jvm.Cond.unhidden D y'.name y'.desc).before a0 Z = true) (wk : (Jvm.Cond.castable D y'.cls).before a0 Z = true) (w4 : (Jvm.Cond.instanceMethod z').before a0 Z = true) (w5 : (Jvm.Cond.initialized z'.cls).before a0 Z = true) (w6 : (Jvm.Cond.code z' bytes' maxL' ret').before a0 Z = true) (hy : y'.cls ≠ "java/lang/invoke/MethodHandle" ∧ y'.cls ≠ "java/lang/invoke/VarHandle")
    (E : Exa Z h a D) (C : Con l Z wd EL n0 z' bytes' maxL' ret' rm [] (.ref a :: argsL).toArray h [] (fun v h' => v = r ∧ h' = h)) (hst : st = argsL.reverse ++ .ref a :: rest) (hlen : ∀ sig, parseMethodDescriptor y'.desc = some sig → argsL.length = sig.parameters.length) (hsz : Ls.size = maxL) (hfr : rm.frames + 1 ≤ R.frames) (hW : (rest.map fun v => v.category).sum ≤ W) (hlo : W + (maxL' + 11) + rm.locals ≤ R.locals) (hc : cells + rm.cells ≤ R.cells) (hs : slots + rm.slots ≤ R.slots) (hc' : cells + rm.cells = cells') (hs' : slots + rm.slots = slots') (hp : pc + 5 = pc')
    (K : Run p l e R s m args below meth c Z wd EL n0 ow0 Q h ow cells' slots' (mkF m pc' Ls (r.toList ++ rest))) : Run p l e R s m args below meth c Z wd EL n0 ow0 Q h ow cells slots (mkF m pc Ls st) :=
  callFace G hd w1 w2 w3 wf wp wu wk w4 w5 w6 hy E C hst hlen hsz hfr hW hlo hc hs (fun _ q => nomatch q) hc' hs' hp fun v h' q _ => by rw [q.1, q.2]; exact K
/-- a Latin-1 String of known chars -/
def Lat (Z : State) (h : Heap) (a : Addr) (cs : List Int32) : Prop := Exa Z h a "java/lang/String" ∧ (∃ b, Fld Z h a "java/lang/String" "value" "[B" (.ref b) ∧ Fld Z h a "java/lang/String" "coder" "B" (.int 0) ∧ IA Z h b .byte (cs.map fun c => c.toInt8.toInt32)) ∧ ∀ c ∈ cs, 0 ≤ c.toInt ∧ c.toInt < 256
theorem Lat.ext {cs : List Int32} (S : Lat Z h a cs) (E : Ext h h') : Lat Z h' a cs := by
  obtain ⟨S1, ⟨b, S2, S3, S4⟩, S5⟩ := S
  exact ⟨S1.ext E, ⟨b, S2.ext E, S3.ext E, S4.ext E⟩, S5⟩
theorem Lat.keep {cs : List Int32} (S : Lat Z h a cs) (K : Keep h h' []) : Lat Z h' a cs := by
  obtain ⟨S1, ⟨b, S2, S3, S4⟩, S5⟩ := S
  exact ⟨S1.keep K, ⟨b, S2.keep K nin0, S3.keep K nin0, S4.keep K nin0⟩, S5⟩
theorem Lat.lt {cs : List Int32} (S : Lat Z h a cs) : a < h.size := S.1.lt
theorem IA.ne {n : Nat} {C : String} (A : IA Z h b ty xs) (E : Exa Z h a C) (wi : (Jvm.Cond.instantiable C n).before a0 Z = true) : b ≠ a := by obtain ⟨cl, A, -⟩ := A; exact (ne_arr E wi A).symm
theorem IA.neTy {ty' : FieldType} {ys : List Int32} (A : IA Z h b ty xs) (B : IA Z h a ty' ys) (hn : ty ≠ ty') : b ≠ a := fun q => by
  subst q
  obtain ⟨c1, A, -⟩ := A
  obtain ⟨c2, B, -⟩ := B
  cases A.1.symm.trans B.1
  obtain ⟨-, k1, e1, p1, r1⟩ := A.2.1
  obtain ⟨-, k2, e2, p2, r2⟩ := B.2.1
  cases e1.symm.trans e2
  have := r1.symm.trans r2
  injection this with _ q
  exact hn q
theorem IA.len (A : IA Z h b ty xs) : xs.length < 2 ^ 31 := by obtain ⟨-, -, -, h⟩ := A; exact h
theorem castRun {g g' : JFrame} (q : g = g') (K : Run p l e R s m args below meth c Z wd EL n0 ow0 Q h ow cells slots g') : Run p l e R s m args below meth c Z wd EL n0 ow0 Q h ow cells slots g := q ▸ K
theorem toI_toInt {i : Nat} (h : i < 2 ^ 31) : i.toInt32.toInt = i := len_toInt h
theorem toI_clamp {i : Nat} (h : i < 2 ^ 31) : i.toInt32.toNatClampNeg = i := by simp only [Int32.toNatClampNeg, toI_toInt h]; rfl
theorem toI_nn {i : Nat} (h : i < 2 ^ 31) : ¬ i.toInt32 < 0 := by
  rw [Int32.lt_iff_toInt_lt, toI_toInt h]; show ¬ (i : Int) < 0; omega
theorem toI_lt {i k : Nat} (h : i < 2 ^ 31) (h' : k < 2 ^ 31) : i.toInt32 < k.toInt32 ↔ i < k := by
  rw [Int32.lt_iff_toInt_lt, toI_toInt h, toI_toInt h']; omega
theorem toI_succ (i : Nat) : i.toInt32 + 1 = (i + 1).toInt32 := by
  apply Int32.toBitVec_inj.mp
  simp [Nat.toInt32, BitVec.ofNat_add]
theorem toI_eq {i k : Nat} (h : i < 2 ^ 31) (h' : k < 2 ^ 31) : i.toInt32 = k.toInt32 ↔ i = k := by
  refine ⟨fun q => ?_, fun q => by rw [q]⟩
  have := congrArg Int32.toInt q
  rw [toI_toInt h, toI_toInt h'] at this; omega
theorem lo8_nar (c : Int32) : nar .byte (c.toInt8.toInt32) = c.toInt8.toInt32 := by simp [nar]
theorem nar_i2c (x : Int32) : nar .char (x.toUInt32.toUInt16.toUInt32.toInt32) = x.toUInt32.toUInt16.toUInt32.toInt32 := by simp only [nar, UInt32.toUInt32_toInt32, UInt16.toUInt16_toUInt32]
theorem set_fill (f : Int32 → Int32) (cs : List Int32) (i k : Nat) (c : Int32) (hc : cs[i]? = some c) : (((cs.take i).map f) ++ List.replicate (k + 1) 0).set i (f c) = ((cs.take (i + 1)).map f) ++ List.replicate k 0 := by
  have hi := (List.getElem?_eq_some_iff.mp hc).1
  have hl : ((cs.take i).map f).length = i := by simp; omega
  rw [List.set_append_right _ _ (by omega), hl, Nat.sub_self, List.replicate_succ, List.set_cons_zero, List.take_add_one, hc]
  simp
theorem and_rng (x m : Int32) (M : Nat) (hm : m.toBitVec.toNat = M) (hM : M < 2 ^ 31) : 0 ≤ (x &&& m).toInt ∧ (x &&& m).toInt ≤ M := by
  have h : (x &&& m).toBitVec.toNat ≤ M := by
    show (x.toBitVec &&& m.toBitVec).toNat ≤ M
    rw [BitVec.toNat_and, ← hm]; exact Nat.and_le_right
  have e : (x &&& m).toInt = ((x &&& m).toBitVec.toNat : Int) := by
    show (x &&& m).toBitVec.toInt = _
    rw [BitVec.toInt_eq_toNat_cond]; rw [if_pos (by omega)]
  omega
theorem and255_rng (x : Int32) : 0 ≤ (x &&& 255).toInt ∧ (x &&& 255).toInt < 256 := by
  have := and_rng x 255 255 rfl (by decide); omega
theorem ch8 (x v w : Int32) (h1 : v = x &&& 255) (h2 : w = v.toUInt32.toUInt16.toUInt32.toInt32) : 0 ≤ w.toInt ∧ w.toInt < 256 := by
  subst h1 h2; rw [i2c_mask]; exact and255_rng x
theorem bool_ok {z : Int32} (h : z = 0 ∨ z = 1) : narrow .boolean (.int z) = .int z ∧ fits .boolean (.int z) = true ∧ nar .boolean z = z := by
  rcases h with rfl | rfl <;> exact ⟨rfl, rfl, rfl⟩
theorem ref_ok {v : Value} (C : String) (h : v.isRef = true) : narrow (.object C) v = v ∧ fits (.object C) v = true := by
  rcases ref_cases h with rfl | ⟨r, rfl⟩ <;> exact ⟨rfl, rfl⟩
theorem rem_rng (x m : Int32) (hx : 0 ≤ x.toInt) (hm : 0 < m.toInt) : 0 ≤ (x % m).toInt ∧ (x % m).toInt < m.toInt := by
  rw [Int32.toInt_mod, Int.tmod_eq_emod_of_nonneg hx]
  exact ⟨Int.emod_nonneg _ (by omega), Int.emod_lt_of_pos _ hm⟩
theorem and31_rem {x v w m : Int32} (h1 : v = x &&& 2147483647) (h2 : w = v % m) (hm : 0 < m.toInt) : 0 ≤ w.toInt ∧ w.toInt < m.toInt := by
  subst h1 h2; exact rem_rng _ _ (and_rng x 2147483647 2147483647 rfl (by decide)).1 hm
/-- compact strings are on -/
def Cst (Z : State) : Prop := ∃ cz : Int32, Sta Z Z.heap "java/lang/String" "COMPACT_STRINGS" "Z" (.int cz) ∧ cz ≠ 0
theorem keepExt (K : Keep h h' []) : Ext h h' := ⟨K.1, fun x c q => K.2.1 x c q nin0⟩
theorem extKeep (E : Ext h h') : Keep h h' [] := (Keep.refl h []).ext E
end
end Jvm.GoKit

namespace Jvm.Pilot.@@N@@
open Jvm Jvm.ClassFile Sem Op Lib Jvm.Free Jvm.Stand Jvm.LawKit Jvm.RoadKit Jvm.GoKit Bundle Jvm.Pilot.@@N@@.Jvm.D
abbrev ELs : List (String × Nat) := consts_1
theorem hELs {Z : State} {a0 : Array Value} (hw : ∀ d ∈ tables_1, d.before a0 Z = true) : EW Z a0 ELs := EW.cons (wi hw 53 rfl) (by decide +kernel) (EW.cons (wi hw 72 rfl) (by decide +kernel) (EW.cons (wi hw 80 rfl) (by decide +kernel) (EW.cons (wi hw 35 rfl) (by decide +kernel) (EW.cons (wi hw 48 rfl) (by decide +kernel) (EW.cons (wi hw 106 rfl) (by decide +kernel) (EW.nil))))))
theorem wS {Z : State} {a0 : Array Value} (hw : ∀ d ∈ tables_1, d.before a0 Z = true) : ∀ a ∈ Bundle.stringAtoms, a.before a0 Z = true := by
  intro d hd
  simp only [Bundle.stringAtoms, List.mem_cons, List.not_mem_nil, or_false] at hd
  rcases hd with rfl | rfl | rfl | rfl | rfl | rfl | rfl
  · exact (wi hw 7 rfl)
  · exact (wi hw 6 rfl)
  · exact (wi hw 24 rfl)
  · exact (wi hw 34 rfl)
  · exact (wi hw 32 rfl)
  · exact (wi hw 36 rfl)
  · exact (wi hw 37 rfl)
theorem iaLit {Z : State} {h : Heap} {b : Addr} {k : ClassId} {z : Int32} {vs : List Value} {cs : List Int32} (A : Arv Z h b k .byte z vs (.int 0)) (hz : z.toNatClampNeg = cs.length) (hv : vs = cs.map fun c => Value.int c.toInt8.toInt32) : IA Z h b .byte (cs.map fun c => c.toInt8.toInt32) := by
  obtain ⟨c, A1, -, e, hn, H, -⟩ := A
  refine ⟨c, A1, ?_, ?_⟩
  · apply Array.ext_getElem?
    intro i
    by_cases hi : i < c.slots.size
    · rw [H i hi, hv]
      have : i < cs.length := by omega
      simp [this]
    · rw [Array.getElem?_eq_none (by omega), Array.getElem?_eq_none (by simp; omega)]
  · rw [List.length_map, ← hz]
    have := z.toInt_lt
    simp only [Int32.toNatClampNeg]; omega
theorem latLit {Z : State} {h : Heap} {a b : Addr} {k : ClassId} {z : Int32} {vs : List Value} {cs : List Int32} (X : Exa Z h a "java/lang/String") (FC : Fld Z h a "java/lang/String" "coder" "B" (.int 0)) (FV : Fld Z h a "java/lang/String" "value" "[B" (.ref b)) (A : Arv Z h b k .byte z vs (.int 0)) (hz : z.toNatClampNeg = cs.length) (hv : vs = cs.map fun c => Value.int c.toInt8.toInt32) (hl : ∀ c ∈ cs, 0 ≤ c.toInt ∧ c.toInt < 256) : Lat Z h a cs :=
  ⟨X, ⟨b, FV, FC, iaLit A hz hv⟩, hl⟩
theorem d7_0 : decode jdk_52_method_15_code 0 = .ok (.iload_n 1, 1) := by decide +kernel
theorem d7_1 : decode jdk_52_method_15_code 1 = .ok (.aload_n 0, 1) := by decide +kernel
theorem d7_2 : decode jdk_52_method_15_code 2 = .ok (.arraylength, 1) := by decide +kernel
theorem d7_3 : decode jdk_52_method_15_code 3 = .ok (.isub, 1) := by decide +kernel
theorem d7_4 : decode jdk_52_method_15_code 4 = .ok (.bipush 31, 2) := by decide +kernel
theorem d7_6 : decode jdk_52_method_15_code 6 = .ok (.iushr, 1) := by decide +kernel
theorem d7_7 : decode jdk_52_method_15_code 7 = .ok (.i2b, 1) := by decide +kernel
theorem d7_8 : decode jdk_52_method_15_code 8 = .ok (.ireturn, 1) := by decide +kernel
theorem pn_java_lang_StringUTF16 : plainName "java/lang/StringUTF16" = true := by first | (simp [plainName, overriddenIn]; done) | decide +kernel
abbrev rm_con_coderLen : Room := { frames := 0, cells := 0, slots := 0, locals := 0 }
set_option maxRecDepth 65536 in
set_option maxHeartbeats 40000000 in
theorem con_coderLen (l : Launch) {Z : State} {a0 : Array Value} (hw : ∀ d ∈ tables_1, d.before a0 Z = true) {n0 : Nat} {h0 : Heap} {d : Addr} {xs : List Int32} (A : IA Z h0 d .byte xs) :
    Con l Z true ELs n0 (⟨"java/lang/StringUTF16", "coderFromArrayLen", "([BI)B"⟩ : MethodName) jdk_52_method_15_code 2 (some .byte) rm_con_coderLen [] #[(.ref d), (.int xs.length.toInt32)] h0 [] (fun v h => v = some (.int 0) ∧ h = h0) := by
  refine Con.intro (plainFor_of_name pn_java_lang_StringUTF16) (hELs hw) ?_
  intro p e s m below meth c hh G
  refine castRun (g' := mkF m 0 #[.val (.ref d), .val (.int xs.length.toInt32)] []) (by first | rfl | (simp [entryFrame, mkF, argsToLocals, Value.category, maxLocals]; done)) ?_
  refine GoKit.iloadN G d7_0 rfl (pc' := 1) rfl ?_
  refine GoKit.aloadN G d7_1 rfl rfl (pc' := 2) rfl ?_
  refine GoKit.arrlenI G d7_2 A (z := xs.length.toInt32) rfl (pc' := 3) rfl ?_
  refine GoKit.isub G d7_3 (pc' := 4) rfl (fun v1 hqv1 => ?_)
  refine GoKit.bipush G (31 : Int32) d7_4 rfl (pc' := 6) rfl ?_
  refine GoKit.iushr G d7_6 (pc' := 7) rfl (fun v2 hqv2 => ?_)
  refine GoKit.i2b G d7_7 (pc' := 8) rfl (fun v3 hqv3 => ?_)
  refine GoKit.retNar G d7_8 (t := .byte) rfl (by simp) (by decide) (by decide) ?_
  exact ⟨by subst_vars; rw [show (xs.length.toInt32 - xs.length.toInt32 : Int32) = 0 from Int32.sub_self _]; rfl, rfl⟩
theorem lat_le {c : Int32} (h : 0 ≤ c.toInt ∧ c.toInt < 256) : ¬ (255 : Int32) < c := by rw [Int32.lt_iff_toInt_lt]; show ¬ (255 : Int) < c.toInt; omega
theorem d6_3 : decode jdk_52_method_21_code 3 = .ok (.iload 5, 2) := by decide +kernel
theorem d6_5 : decode jdk_52_method_21_code 5 = .ok (.iload 4, 2) := by decide +kernel
theorem d6_7 : decode jdk_52_method_21_code 7 = .ok (.if_icmp .ge 37, 3) := by decide +kernel
theorem d6_44 : decode jdk_52_method_21_code 44 = .ok (.iload 4, 2) := by decide +kernel
theorem d6_46 : decode jdk_52_method_21_code 46 = .ok (.ireturn, 1) := by decide +kernel
theorem d6_10 : decode jdk_52_method_21_code 10 = .ok (.aload_n 0, 1) := by decide +kernel
theorem d6_11 : decode jdk_52_method_21_code 11 = .ok (.iload_n 1, 1) := by decide +kernel
theorem d6_12 : decode jdk_52_method_21_code 12 = .ok (.caload, 1) := by decide +kernel
theorem d6_13 : decode jdk_52_method_21_code 13 = .ok (.istore 6, 2) := by decide +kernel
theorem d6_15 : decode jdk_52_method_21_code 15 = .ok (.iload 6, 2) := by decide +kernel
theorem d6_17 : decode jdk_52_method_21_code 17 = .ok (.sipush 255, 3) := by decide +kernel
theorem d6_20 : decode jdk_52_method_21_code 20 = .ok (.if_icmp .le 6, 3) := by decide +kernel
theorem d6_26 : decode jdk_52_method_21_code 26 = .ok (.aload_n 2, 1) := by decide +kernel
theorem d6_27 : decode jdk_52_method_21_code 27 = .ok (.iload_n 3, 1) := by decide +kernel
theorem d6_28 : decode jdk_52_method_21_code 28 = .ok (.iload 6, 2) := by decide +kernel
theorem d6_30 : decode jdk_52_method_21_code 30 = .ok (.i2b, 1) := by decide +kernel
theorem d6_31 : decode jdk_52_method_21_code 31 = .ok (.bastore, 1) := by decide +kernel
theorem d6_32 : decode jdk_52_method_21_code 32 = .ok (.iinc 1 1, 3) := by decide +kernel
theorem d6_35 : decode jdk_52_method_21_code 35 = .ok (.iinc 3 1, 3) := by decide +kernel
theorem d6_38 : decode jdk_52_method_21_code 38 = .ok (.iinc 5 1, 3) := by decide +kernel
theorem d6_41 : decode jdk_52_method_21_code 41 = .ok (.goto (-38), 3) := by decide +kernel
theorem d6_0 : decode jdk_52_method_21_code 0 = .ok (.iconst 0, 1) := by decide +kernel
theorem d6_1 : decode jdk_52_method_21_code 1 = .ok (.istore 5, 2) := by decide +kernel
abbrev rm_con_compress5 : Room := { frames := 0, cells := 0, slots := 0, locals := 0 }
set_option maxRecDepth 65536 in
set_option maxHeartbeats 40000000 in
theorem con_compress5 (l : Launch) {Z : State} {a0 : Array Value} (hw : ∀ d ∈ tables_1, d.before a0 Z = true) {n0 : Nat} {h0 : Heap} {b d : Addr} {cs : List Int32} (A : IA Z h0 b .char cs) (D : IA Z h0 d .byte (List.replicate cs.length 0)) (hlat : ∀ c ∈ cs, 0 ≤ c.toInt ∧ c.toInt < 256) :
    Con l Z true ELs n0 (⟨"java/lang/StringUTF16", "compress", "([CI[BII)I"⟩ : MethodName) jdk_52_method_21_code 7 (some .int) rm_con_compress5 [] #[(.ref b), (.int 0), (.ref d), (.int 0), (.int cs.length.toInt32)] h0 [d] (fun v h => v = some (.int cs.length.toInt32) ∧ IA Z h d .byte (cs.map fun c => c.toInt8.toInt32)) := by
  refine Con.intro (plainFor_of_name pn_java_lang_StringUTF16) (hELs hw) ?_
  intro p e s m below meth c hh G
  refine castRun (g' := mkF m 0 #[.val (.ref b), .val (.int 0), .val (.ref d), .val (.int 0), .val (.int cs.length.toInt32), .unset, .unset] []) (by first | rfl | (simp [entryFrame, mkF, argsToLocals, Value.category, maxLocals]; done)) ?_
  have hl := A.len
  have loop : ∀ (k i : Nat) (h : Heap) (sl : Slot), i + k = cs.length → IA Z h b .char cs → IA Z h d .byte ((cs.take i).map (fun c => c.toInt8.toInt32) ++ List.replicate k 0) → (sl = .unset ∨ ∃ w, sl = .val w ∧ w.category = 1) →
      Run p l e rm_con_compress5 s m #[.ref b, .int 0, .ref d, .int 0, .int cs.length.toInt32] below meth c Z true ELs n0 [d] (fun v h => v = some (.int cs.length.toInt32) ∧ IA Z h d .byte (cs.map fun c => c.toInt8.toInt32)) h [d] 0 0 (mkF m 3 #[.val (.ref b), .val (.int i.toInt32), .val (.ref d), .val (.int i.toInt32), .val (.int cs.length.toInt32), .val (.int i.toInt32), sl] []) := by
    intro k; induction k with
    | zero =>
      intro i h sl hik A D hsl
      have hi : i = cs.length := by omega
      subst hi
      refine GoKit.iload G d6_3 rfl (pc' := 5) rfl ?_
      refine GoKit.iload G d6_5 rfl (pc' := 7) rfl ?_
      refine GoKit.icmp_ge_t G d6_7 Int32.lt_irrefl (by decide) (pc' := 44) rfl ?_
      refine GoKit.iload G d6_44 rfl (pc' := 46) rfl ?_
      refine GoKit.retInt G d6_46 rfl (by decide) (by decide) ?_
      exact ⟨rfl, by simpa using D⟩
    | succ k ih =>
      intro i h sl hik A D hsl
      have hi : i < cs.length := by omega
      obtain ⟨ch, hch⟩ : ∃ ch, cs[i]? = some ch := ⟨cs[i], List.getElem?_eq_getElem hi⟩
      have hcl := hlat ch (List.mem_of_getElem? hch)
      refine GoKit.iload G d6_3 rfl (pc' := 5) rfl ?_
      refine GoKit.iload G d6_5 rfl (pc' := 7) rfl ?_
      refine GoKit.icmp_ge_f G d6_7 ((toI_lt (by omega) (by omega)).mpr hi) (pc' := 10) rfl ?_
      refine GoKit.aloadN G d6_10 rfl rfl (pc' := 11) rfl ?_
      refine GoKit.iloadN G d6_11 rfl (pc' := 12) rfl ?_
      refine GoKit.caloadI G d6_12 A (i := i) (toI_clamp (by omega)) (toI_nn (by omega)) hch (pc' := 13) rfl ?_
      refine GoKit.istore G d6_13 (Ls' := #[.val (.ref b), .val (.int i.toInt32), .val (.ref d), .val (.int i.toInt32), .val (.int cs.length.toInt32), .val (.int i.toInt32), .val (.int ch)]) (XS.store1 rfl hsl rfl) (pc' := 15) rfl ?_
      refine GoKit.iload G d6_15 rfl (pc' := 17) rfl ?_
      refine GoKit.sipush G (255 : Int32) d6_17 rfl (pc' := 20) rfl ?_
      refine GoKit.icmp_le_t G d6_20 (lat_le hcl) (by decide) (pc' := 26) rfl ?_
      refine GoKit.aloadN G d6_26 rfl rfl (pc' := 27) rfl ?_
      refine GoKit.iloadN G d6_27 rfl (pc' := 28) rfl ?_
      refine GoKit.iload G d6_28 rfl (pc' := 30) rfl ?_
      refine GoKit.i2b G d6_30 (pc' := 31) rfl (fun v1 hqv1 => ?_)
      refine GoKit.bastI G d6_31 D (i := i) (toI_clamp (by omega)) (toI_nn (by omega)) (by simp; omega) (x' := ch.toInt8.toInt32) (by rw [hqv1]; exact lo8_nar _) (List.Mem.head _) (pc' := 32) rfl (fun h' W' D' => ?_)
      rw [set_fill _ cs i k ch hch] at D'
      refine GoKit.iinc G (1 : Int32) d6_32 rfl rfl (Ls' := #[.val (.ref b), .val (.int (i.toInt32 + (1 : Int32))), .val (.ref d), .val (.int i.toInt32), .val (.int cs.length.toInt32), .val (.int i.toInt32), .val (.int ch)]) rfl (pc' := 35) rfl ?_
      generalize hqv2 : (i.toInt32 + (1 : Int32)) = v2
      refine GoKit.iinc G (1 : Int32) d6_35 rfl rfl (Ls' := #[.val (.ref b), .val (.int v2), .val (.ref d), .val (.int (i.toInt32 + (1 : Int32))), .val (.int cs.length.toInt32), .val (.int i.toInt32), .val (.int ch)]) rfl (pc' := 38) rfl ?_
      generalize hqv3 : (i.toInt32 + (1 : Int32)) = v3
      refine GoKit.iinc G (1 : Int32) d6_38 rfl rfl (Ls' := #[.val (.ref b), .val (.int v2), .val (.ref d), .val (.int v3), .val (.int cs.length.toInt32), .val (.int (i.toInt32 + (1 : Int32))), .val (.int ch)]) rfl (pc' := 41) rfl ?_
      generalize hqv4 : (i.toInt32 + (1 : Int32)) = v4
      refine GoKit.goto G d6_41 (by decide) (pc' := 3) rfl ?_
      rw [toI_succ] at hqv2; subst hqv2
      rw [toI_succ] at hqv3; subst hqv3
      rw [toI_succ] at hqv4; subst hqv4
      exact ih (i + 1) h' (.val (.int ch)) (by omega) (A.other W' (IA.neTy A D (by decide))) D' (Or.inr ⟨_, rfl, rfl⟩)
  refine GoKit.iconst G (0 : Int32) d6_0 rfl (pc' := 1) rfl ?_
  refine GoKit.istore G d6_1 (Ls' := #[.val (.ref b), .val (.int (0 : Int32)), .val (.ref d), .val (.int (0 : Int32)), .val (.int cs.length.toInt32), .val (.int (0 : Int32)), .unset]) rfl (pc' := 3) rfl ?_
  exact loop cs.length 0 h0 .unset (by omega) A (by simpa using D) (Or.inl rfl)
theorem d5_0 : decode jdk_52_method_16_code 0 = .ok (.iload_n 2, 1) := by decide +kernel
theorem d5_1 : decode jdk_52_method_16_code 1 = .ok (.newarray .byte, 2) := by decide +kernel
theorem d5_3 : decode jdk_52_method_16_code 3 = .ok (.astore_n 3, 1) := by decide +kernel
theorem d5_4 : decode jdk_52_method_16_code 4 = .ok (.aload_n 0, 1) := by decide +kernel
theorem d5_5 : decode jdk_52_method_16_code 5 = .ok (.iload_n 1, 1) := by decide +kernel
theorem d5_6 : decode jdk_52_method_16_code 6 = .ok (.aload_n 3, 1) := by decide +kernel
theorem d5_7 : decode jdk_52_method_16_code 7 = .ok (.iconst 0, 1) := by decide +kernel
theorem d5_8 : decode jdk_52_method_16_code 8 = .ok (.iload_n 2, 1) := by decide +kernel
theorem d5_9 : decode jdk_52_method_16_code 9 = .ok (.invokestatic 115, 3) := by decide +kernel
theorem pd_0 : parseMethodDescriptor "([CI[BII)I" = some ⟨[(.array .char), .int, (.array .byte), .int, .int], some .int⟩ := by decide +kernel
theorem d5_12 : decode jdk_52_method_16_code 12 = .ok (.istore 4, 2) := by decide +kernel
theorem d5_14 : decode jdk_52_method_16_code 14 = .ok (.iload 4, 2) := by decide +kernel
theorem d5_16 : decode jdk_52_method_16_code 16 = .ok (.iload_n 2, 1) := by decide +kernel
theorem d5_17 : decode jdk_52_method_16_code 17 = .ok (.if_icmp .eq 40, 3) := by decide +kernel
theorem d5_57 : decode jdk_52_method_16_code 57 = .ok (.aload_n 3, 1) := by decide +kernel
theorem d5_58 : decode jdk_52_method_16_code 58 = .ok (.areturn, 1) := by decide +kernel
abbrev rm_con_compress3 : Room := { frames := 1, cells := 1, slots := 37, locals := 18 }
set_option maxRecDepth 65536 in
set_option maxHeartbeats 40000000 in
theorem con_compress3 (l : Launch) {Z : State} {a0 : Array Value} (hw : ∀ d ∈ tables_1, d.before a0 Z = true) {n0 : Nat} {h0 : Heap} {b : Addr} {cs : List Int32} (A : IA Z h0 b .char cs) (hcap : cs.length ≤ 37) (hlat : ∀ c ∈ cs, 0 ≤ c.toInt ∧ c.toInt < 256) :
    Con l Z true ELs n0 (⟨"java/lang/StringUTF16", "compress", "([CII)[B"⟩ : MethodName) jdk_52_method_16_code 6 (some (.array .byte)) rm_con_compress3 [] #[(.ref b), (.int 0), (.int cs.length.toInt32)] h0 [] (fun v h => ∃ d, v = some (.ref d) ∧ IA Z h d .byte (cs.map fun c => c.toInt8.toInt32)) := by
  refine Con.intro (plainFor_of_name pn_java_lang_StringUTF16) (hELs hw) ?_
  intro p e s m below meth c hh G
  refine castRun (g' := mkF m 0 #[.val (.ref b), .val (.int 0), .val (.int cs.length.toInt32), .unset, .unset, .unset] []) (by first | rfl | (simp [entryFrame, mkF, argsToLocals, Value.category, maxLocals]; done)) ?_
  have hl := A.len
  refine GoKit.iloadN G d5_0 rfl (pc' := 1) rfl ?_
  refine GoKit.newbI G d5_1 (wi hw 24 rfl) (toI_nn hl) (k := cs.length) (cap := 37) (toI_clamp hl) hcap (by decide) (by decide) (by decide) (cells' := 1) (slots' := 37) rfl rfl (pc' := 3) rfl (fun h4 a1 ga1 E2 A3 => ?_)
  refine GoKit.astoreN G d5_3 rfl (Ls' := #[.val (.ref b), .val (.int 0), .val (.int cs.length.toInt32), .val (.ref a1), .unset, .unset]) rfl (pc' := 4) rfl ?_
  refine GoKit.aloadN G d5_4 rfl rfl (pc' := 5) rfl ?_
  refine GoKit.iloadN G d5_5 rfl (pc' := 6) rfl ?_
  refine GoKit.aloadN G d5_6 rfl rfl (pc' := 7) rfl ?_
  refine GoKit.iconst G (0 : Int32) d5_7 rfl (pc' := 8) rfl ?_
  refine GoKit.iloadN G d5_8 rfl (pc' := 9) rfl ?_
  refine GoKit.callStatic G d5_9 (wi hw 25 rfl) (wi hw 26 rfl) (wi hw 22 rfl) (wi hw 27 rfl) (by decide) (owc := [a1]) (W := 0) (argsL := [(.ref b), (.int 0), (.ref a1), (.int (0 : Int32)), (.int cs.length.toInt32)]) (rest := []) (con_compress5 l hw (A.ext E2) A3 hlat) rfl (lenOf pd_0 rfl) rfl (by decide) (Nat.le_of_eq rfl) (by decide) (by decide) (by decide) (by intro x hx; simp only [List.mem_cons, List.not_mem_nil, or_false] at hx ⊢; simp [hx]) (cells' := 1) (slots' := 37) rfl rfl (pc' := 12) rfl (fun r5 h8 q6 K7 => ?_)
  obtain ⟨rfl, A9⟩ := q6
  show Run _ _ _ _ _ _ _ _ _ _ _ _ _ _ _ _ _ _ _ _ (mkF m 12 #[.val (.ref b), .val (.int 0), .val (.int cs.length.toInt32), .val (.ref a1), .unset, .unset] [(.int cs.length.toInt32)])
  refine GoKit.istore G d5_12 (Ls' := #[.val (.ref b), .val (.int 0), .val (.int cs.length.toInt32), .val (.ref a1), .val (.int cs.length.toInt32), .unset]) rfl (pc' := 14) rfl ?_
  refine GoKit.iload G d5_14 rfl (pc' := 16) rfl ?_
  refine GoKit.iloadN G d5_16 rfl (pc' := 17) rfl ?_
  refine GoKit.icmp_eq_t G d5_17 rfl (by decide) (pc' := 57) rfl ?_
  refine GoKit.aloadN G d5_57 rfl rfl (pc' := 58) rfl ?_
  refine GoKit.retRef G d5_58 rfl rfl rfl (by decide) (by decide) ?_
  exact ⟨_, rfl, A9⟩
theorem d3_0 : decode jdk_42_method_149_code 0 = .ok (.aload_n 0, 1) := by decide +kernel
theorem d3_1 : decode jdk_42_method_149_code 1 = .ok (.invokespecial 1, 3) := by decide +kernel
theorem d3_4 : decode jdk_42_method_149_code 4 = .ok (.iload_n 3, 1) := by decide +kernel
theorem d3_5 : decode jdk_42_method_149_code 5 = .ok (.ifCond .ne 22, 3) := by decide +kernel
theorem d3_27 : decode jdk_42_method_149_code 27 = .ok (.getstatic 38, 3) := by decide +kernel
theorem d3_30 : decode jdk_42_method_149_code 30 = .ok (.ifCond .eq 28, 3) := by decide +kernel
theorem d3_33 : decode jdk_42_method_149_code 33 = .ok (.aload_n 1, 1) := by decide +kernel
theorem d3_34 : decode jdk_42_method_149_code 34 = .ok (.iload_n 2, 1) := by decide +kernel
theorem d3_35 : decode jdk_42_method_149_code 35 = .ok (.iload_n 3, 1) := by decide +kernel
theorem d3_36 : decode jdk_42_method_149_code 36 = .ok (.invokestatic 177, 3) := by decide +kernel
theorem pd_1 : parseMethodDescriptor "([CII)[B" = some ⟨[(.array .char), .int, .int], some (.array .byte)⟩ := by decide +kernel
theorem d3_39 : decode jdk_42_method_149_code 39 = .ok (.astore 5, 2) := by decide +kernel
theorem d3_41 : decode jdk_42_method_149_code 41 = .ok (.aload_n 0, 1) := by decide +kernel
theorem d3_42 : decode jdk_42_method_149_code 42 = .ok (.aload 5, 2) := by decide +kernel
theorem d3_44 : decode jdk_42_method_149_code 44 = .ok (.iload_n 3, 1) := by decide +kernel
theorem d3_45 : decode jdk_42_method_149_code 45 = .ok (.invokestatic 47, 3) := by decide +kernel
theorem pd_2 : parseMethodDescriptor "([BI)B" = some ⟨[(.array .byte), .int], some .byte⟩ := by decide +kernel
theorem d3_48 : decode jdk_42_method_149_code 48 = .ok (.putfield 15, 3) := by decide +kernel
theorem d3_51 : decode jdk_42_method_149_code 51 = .ok (.aload_n 0, 1) := by decide +kernel
theorem d3_52 : decode jdk_42_method_149_code 52 = .ok (.aload 5, 2) := by decide +kernel
theorem d3_54 : decode jdk_42_method_149_code 54 = .ok (.putfield 9, 3) := by decide +kernel
theorem d3_57 : decode jdk_42_method_149_code 57 = .ok (.return_, 1) := by decide +kernel
theorem pn_java_lang_String : plainName "java/lang/String" = true := by first | (simp [plainName, overriddenIn]; done) | decide +kernel
abbrev rm_con_strInit4 : Room := { frames := 2, cells := 1, slots := 37, locals := 35 }
set_option maxRecDepth 65536 in
set_option maxHeartbeats 40000000 in
theorem con_strInit4 (l : Launch) {Z : State} {a0 : Array Value} (hw : ∀ d ∈ tables_1, d.before a0 Z = true) {n0 : Nat} {h0 : Heap} {a b : Addr} {cs : List Int32} (E : Exa Z h0 a "java/lang/String") (FV : Fld Z h0 a "java/lang/String" "value" "[B" .null) (FC : Fld Z h0 a "java/lang/String" "coder" "B" (.int 0)) (A : IA Z h0 b .char cs) (hcap : cs.length ≤ 37) (hlat : ∀ c ∈ cs, 0 ≤ c.toInt ∧ c.toInt < 256) (hne : cs ≠ []) (HC : Cst Z) :
    Con l Z true ELs n0 (⟨"java/lang/String", "<init>", "([CIILjava/lang/Void;)V"⟩ : MethodName) jdk_42_method_149_code 6 none rm_con_strInit4 [] #[(.ref a), (.ref b), (.int 0), (.int cs.length.toInt32), .null] h0 [a] (fun v h => v = none ∧ Lat Z h a cs) := by
  refine Con.intro (plainFor_of_name pn_java_lang_String) (hELs hw) ?_
  intro p e s m below meth c hh G
  refine castRun (g' := mkF m 0 #[.val (.ref a), .val (.ref b), .val (.int 0), .val (.int cs.length.toInt32), .val .null, .unset] []) (by first | rfl | (simp [entryFrame, mkF, argsToLocals, Value.category, maxLocals]; done)) ?_
  obtain ⟨cz, SC, hcz⟩ := HC
  have hl := A.len
  have hz : ¬ cs.length.toInt32 = 0 := fun q => hne (List.length_eq_zero_iff.mp ((toI_eq (k := 0) hl (by decide)).mp q))
  refine GoKit.aloadN G d3_0 rfl rfl (pc' := 1) rfl ?_
  refine GoKit.initObj G d3_1 (wi hw 16 rfl) (wi hw 17 rfl) (wi hw 18 rfl) rfl (by decide) (W := 0) (Nat.le_of_eq rfl) (by decide) (pc' := 4) rfl ?_
  refine GoKit.iloadN G d3_4 rfl (pc' := 5) rfl ?_
  refine GoKit.if_ne_t G d3_5 hz (by decide) (pc' := 27) rfl ?_
  refine GoKit.gets G d3_27 (wi hw 19 rfl) Via.refl SC (pc' := 30) rfl ?_
  refine GoKit.if_eq_f G d3_30 hcz (pc' := 33) rfl ?_
  refine GoKit.aloadN G d3_33 rfl rfl (pc' := 34) rfl ?_
  refine GoKit.iloadN G d3_34 rfl (pc' := 35) rfl ?_
  refine GoKit.iloadN G d3_35 rfl (pc' := 36) rfl ?_
  refine GoKit.callStatic G d3_36 (wi hw 20 rfl) (wi hw 21 rfl) (wi hw 22 rfl) (wi hw 23 rfl) (by decide) (owc := []) (W := 0) (argsL := [(.ref b), (.int 0), (.int cs.length.toInt32)]) (rest := []) (con_compress3 l hw A hcap hlat) rfl (lenOf pd_1 rfl) rfl (by decide) (Nat.le_of_eq rfl) (by decide) (by decide) (by decide) (fun _ q => nomatch q) (cells' := 1) (slots' := 37) rfl rfl (pc' := 39) rfl (fun r1 h4 q2 K3 => ?_)
  obtain ⟨d5, rfl, A6⟩ := q2
  have ne7 := IA.ne A6 (E.keep K3) (wi hw 6 rfl)
  show Run _ _ _ _ _ _ _ _ _ _ _ _ _ _ _ _ _ _ _ _ (mkF m 39 #[.val (.ref a), .val (.ref b), .val (.int 0), .val (.int cs.length.toInt32), .val .null, .unset] [(.ref d5)])
  refine GoKit.astore G d3_39 rfl (Ls' := #[.val (.ref a), .val (.ref b), .val (.int 0), .val (.int cs.length.toInt32), .val .null, .val (.ref d5)]) rfl (pc' := 41) rfl ?_
  refine GoKit.aloadN G d3_41 rfl rfl (pc' := 42) rfl ?_
  refine GoKit.aload G d3_42 rfl rfl (pc' := 44) rfl ?_
  refine GoKit.iloadN G d3_44 rfl (pc' := 45) rfl ?_
  refine GoKit.callStaticP G d3_45 (wi hw 28 rfl) (wi hw 29 rfl) (wi hw 22 rfl) (wi hw 30 rfl) (by decide) (W := 1) (argsL := [(.ref d5), (.int cs.length.toInt32)]) (rest := [(.ref a)]) ((by simpa using con_coderLen l hw A6)) rfl (lenOf pd_2 rfl) rfl (by decide) (Nat.le_of_eq rfl) (by decide) (by decide) (by decide) (cells' := 1) (slots' := 37) rfl rfl (pc' := 48) rfl ?_
  show Run _ _ _ _ _ _ _ _ _ _ _ _ _ _ _ _ _ _ _ _ (mkF m 48 #[.val (.ref a), .val (.ref b), .val (.int 0), .val (.int cs.length.toInt32), .val .null, .val (.ref d5)] [(.int 0), (.ref a)])
  refine GoKit.putf G d3_48 (wi hw 31 rfl) Via.refl (FC.keep K3 nin0) (E.keep K3) (Or.inr ⟨(wi hw 32 rfl), rfl, rfl⟩) (wi hw 6 rfl) (ty := .byte) (by decide) rfl rfl (List.Mem.head _) (pc' := 51) rfl (fun h9 W8 => ?_)
  have F10 := ((FC.keep K3 nin0)).same W8
  refine GoKit.aloadN G d3_51 rfl rfl (pc' := 52) rfl ?_
  refine GoKit.aload G d3_52 rfl rfl (pc' := 54) rfl ?_
  refine GoKit.putf G d3_54 (wi hw 33 rfl) Via.refl ((FV.keep K3 nin0).other W8 (Or.inr (slot_ne (Or.inr (wi hw 34 rfl)) (Or.inr (wi hw 32 rfl)) (by decide) (by decide : _ = some (.array .byte)) (by decide : _ = some .byte)))) ((E.keep K3).wr W8) (Or.inr ⟨(wi hw 34 rfl), rfl, rfl⟩) (wi hw 6 rfl) (ty := (.array .byte)) (by decide) rfl rfl (List.Mem.head _) (pc' := 57) rfl (fun h12 W11 => ?_)
  have F13 := (((FV.keep K3 nin0).other W8 (Or.inr (slot_ne (Or.inr (wi hw 34 rfl)) (Or.inr (wi hw 32 rfl)) (by decide) (by decide : _ = some (.array .byte)) (by decide : _ = some .byte))))).same W11
  refine GoKit.retVoid G d3_57 rfl (by decide) (by decide) ?_
  exact ⟨rfl, (((E.keep K3).wr W8).wr W11), ⟨d5, F13, (F10.other W11 (Or.inr (slot_ne (Or.inr (wi hw 32 rfl)) (Or.inr (wi hw 34 rfl)) (by decide) (by decide : _ = some .byte) (by decide : _ = some (.array .byte))))), ((A6.other W8 ne7).other W11 ne7)⟩, hlat⟩
theorem d2_0 : decode jdk_42_method_3_code 0 = .ok (.aload_n 0, 1) := by decide +kernel
theorem d2_1 : decode jdk_42_method_3_code 1 = .ok (.aload_n 1, 1) := by decide +kernel
theorem d2_2 : decode jdk_42_method_3_code 2 = .ok (.iconst 0, 1) := by decide +kernel
theorem d2_3 : decode jdk_42_method_3_code 3 = .ok (.aload_n 1, 1) := by decide +kernel
theorem d2_4 : decode jdk_42_method_3_code 4 = .ok (.arraylength, 1) := by decide +kernel
theorem d2_5 : decode jdk_42_method_3_code 5 = .ok (.aconst_null, 1) := by decide +kernel
theorem d2_6 : decode jdk_42_method_3_code 6 = .ok (.invokespecial 27, 3) := by decide +kernel
theorem pd_3 : parseMethodDescriptor "([CIILjava/lang/Void;)V" = some ⟨[(.array .char), .int, .int, (.object "java/lang/Void")], none⟩ := by decide +kernel
theorem d2_9 : decode jdk_42_method_3_code 9 = .ok (.return_, 1) := by decide +kernel
abbrev rm_con_strInit : Room := { frames := 3, cells := 1, slots := 37, locals := 52 }
set_option maxRecDepth 65536 in
set_option maxHeartbeats 40000000 in
theorem con_strInit (l : Launch) {Z : State} {a0 : Array Value} (hw : ∀ d ∈ tables_1, d.before a0 Z = true) {n0 : Nat} {h0 : Heap} {a b : Addr} {cs : List Int32} (E : Exa Z h0 a "java/lang/String") (FV : Fld Z h0 a "java/lang/String" "value" "[B" .null) (FC : Fld Z h0 a "java/lang/String" "coder" "B" (.int 0)) (A : IA Z h0 b .char cs) (hcap : cs.length ≤ 37) (hlat : ∀ c ∈ cs, 0 ≤ c.toInt ∧ c.toInt < 256) (hne : cs ≠ []) (HC : Cst Z) :
    Con l Z true ELs n0 (⟨"java/lang/String", "<init>", "([C)V"⟩ : MethodName) jdk_42_method_3_code 2 none rm_con_strInit [] #[(.ref a), (.ref b)] h0 [a] (fun v h => v = none ∧ Lat Z h a cs) := by
  refine Con.intro (plainFor_of_name pn_java_lang_String) (hELs hw) ?_
  intro p e s m below meth c hh G
  refine castRun (g' := mkF m 0 #[.val (.ref a), .val (.ref b)] []) (by first | rfl | (simp [entryFrame, mkF, argsToLocals, Value.category, maxLocals]; done)) ?_
  refine GoKit.aloadN G d2_0 rfl rfl (pc' := 1) rfl ?_
  refine GoKit.aloadN G d2_1 rfl rfl (pc' := 2) rfl ?_
  refine GoKit.iconst G (0 : Int32) d2_2 rfl (pc' := 3) rfl ?_
  refine GoKit.aloadN G d2_3 rfl rfl (pc' := 4) rfl ?_
  refine GoKit.arrlenI G d2_4 A (z := cs.length.toInt32) rfl (pc' := 5) rfl ?_
  refine GoKit.aconstNull G d2_5 (pc' := 6) rfl ?_
  refine GoKit.callSpecial G d2_6 rfl (wi hw 12 rfl) (wi hw 13 rfl) (wi hw 7 rfl) (wi hw 15 rfl) (by decide) (owc := [a]) (W := 0) (argsL := [(.ref b), (.int (0 : Int32)), (.int cs.length.toInt32), .null]) (rest := []) (con_strInit4 l hw E FV FC A hcap hlat hne HC) rfl (lenOf pd_3 rfl) rfl (by decide) (Nat.le_of_eq rfl) (by decide) (by decide) (by decide) (by intro x hx; simp only [List.mem_cons, List.not_mem_nil, or_false] at hx ⊢; simp [hx]) (cells' := 1) (slots' := 37) rfl rfl (pc' := 9) rfl (fun r1 h4 q2 K3 => ?_)
  obtain ⟨rfl, S5⟩ := q2
  show Run _ _ _ _ _ _ _ _ _ _ _ _ _ _ _ _ _ _ _ _ (mkF m 9 #[.val (.ref a), .val (.ref b)] [])
  refine GoKit.retVoid G d2_9 rfl (by decide) (by decide) ?_
  exact ⟨rfl, S5⟩
theorem d3_8 : decode jdk_42_method_149_code 8 = .ok (.aload_n 0, 1) := by decide +kernel
theorem d3_9 : decode jdk_42_method_149_code 9 = .ok (.ldc 7, 2) := by decide +kernel
theorem d3_11 : decode jdk_42_method_149_code 11 = .ok (.getfield 9, 3) := by decide +kernel
theorem d3_14 : decode jdk_42_method_149_code 14 = .ok (.putfield 9, 3) := by decide +kernel
theorem d3_17 : decode jdk_42_method_149_code 17 = .ok (.aload_n 0, 1) := by decide +kernel
theorem d3_18 : decode jdk_42_method_149_code 18 = .ok (.ldc 7, 2) := by decide +kernel
theorem d3_20 : decode jdk_42_method_149_code 20 = .ok (.getfield 15, 3) := by decide +kernel
theorem d3_23 : decode jdk_42_method_149_code 23 = .ok (.putfield 15, 3) := by decide +kernel
theorem d3_26 : decode jdk_42_method_149_code 26 = .ok (.return_, 1) := by decide +kernel
abbrev rm_con_strInitE4 : Room := { frames := 1, cells := 4, slots := 8, locals := 12 }
set_option maxRecDepth 65536 in
set_option maxHeartbeats 40000000 in
theorem con_strInitE4 (l : Launch) {Z : State} {a0 : Array Value} (hw : ∀ d ∈ tables_1, d.before a0 Z = true) {n0 : Nat} {h0 : Heap} {a b : Addr} (E : Exa Z h0 a "java/lang/String") (FV : Fld Z h0 a "java/lang/String" "value" "[B" .null) (FC : Fld Z h0 a "java/lang/String" "coder" "B" (.int 0)) (A : IA Z h0 b .char []) :
    Con l Z true ELs n0 (⟨"java/lang/String", "<init>", "([CIILjava/lang/Void;)V"⟩ : MethodName) jdk_42_method_149_code 6 none rm_con_strInitE4 [] #[(.ref a), (.ref b), (.int 0), (.int 0), .null] h0 [a] (fun v h => v = none ∧ Lat Z h a []) := by
  refine Con.intro (plainFor_of_name pn_java_lang_String) (hELs hw) ?_
  intro p e s m below meth c hh G
  refine castRun (g' := mkF m 0 #[.val (.ref a), .val (.ref b), .val (.int 0), .val (.int 0), .val .null, .unset] []) (by first | rfl | (simp [entryFrame, mkF, argsToLocals, Value.category, maxLocals]; done)) ?_
  refine GoKit.aloadN G d3_0 rfl rfl (pc' := 1) rfl ?_
  refine GoKit.initObj G d3_1 (wi hw 16 rfl) (wi hw 17 rfl) (wi hw 18 rfl) rfl (by decide) (W := 0) (Nat.le_of_eq rfl) (by decide) (pc' := 4) rfl ?_
  refine GoKit.iloadN G d3_4 rfl (pc' := 5) rfl ?_
  refine GoKit.if_ne_f G d3_5 rfl (pc' := 8) rfl ?_
  refine GoKit.aloadN G d3_8 rfl rfl (pc' := 9) rfl ?_
  refine GoKit.ldcStr G d3_9 rfl (wi hw 106 rfl) (wS hw) (by decide) (vs := []) (z := (0 : Int32)) ⟨by decide +kernel, by decide +kernel⟩ (by decide) rfl (n := 0) (by decide +kernel) (by decide) (by decide) (by decide) (cells' := 2) (slots' := 4) rfl rfl (pc' := 11) rfl (fun a1 b2 k3 h10 E4 X5 FC6 FV7 A8 N9 => ?_)
  have S11 : Lat Z h10 a1 [] := latLit X5 FC6 FV7 A8 rfl (by decide +kernel) (by decide +kernel)
  have A12 : IA Z h10 b2 .byte (([] : List Int32).map fun c => c.toInt8.toInt32) := iaLit A8 rfl (by decide +kernel)
  refine GoKit.getf G d3_11 (wi hw 33 rfl) Via.refl FV7 (pc' := 14) rfl ?_
  refine GoKit.putf G d3_14 (wi hw 33 rfl) Via.refl (FV.ext E4) (E.ext E4) (Or.inr ⟨(wi hw 34 rfl), rfl, rfl⟩) (wi hw 6 rfl) (ty := (.array .byte)) (by decide) rfl rfl (List.Mem.head _) (pc' := 17) rfl (fun h14 W13 => ?_)
  have F15 := ((FV.ext E4)).same W13
  refine GoKit.aloadN G d3_17 rfl rfl (pc' := 18) rfl ?_
  refine GoKit.ldcStr G d3_18 rfl (wi hw 106 rfl) (wS hw) (by decide) (vs := []) (z := (0 : Int32)) ⟨by decide +kernel, by decide +kernel⟩ (by decide) rfl (n := 0) (by decide +kernel) (by decide) (by decide) (by decide) (cells' := 4) (slots' := 8) rfl rfl (pc' := 20) rfl (fun a16 b17 k18 h25 E19 X20 FC21 FV22 A23 N24 => ?_)
  have S26 : Lat Z h25 a16 [] := latLit X20 FC21 FV22 A23 rfl (by decide +kernel) (by decide +kernel)
  have A27 : IA Z h25 b17 .byte (([] : List Int32).map fun c => c.toInt8.toInt32) := iaLit A23 rfl (by decide +kernel)
  refine GoKit.getf G d3_20 (wi hw 31 rfl) Via.refl FC21 (pc' := 23) rfl ?_
  refine GoKit.putf G d3_23 (wi hw 31 rfl) Via.refl (((FC.ext E4).other W13 (Or.inr (slot_ne (Or.inr (wi hw 32 rfl)) (Or.inr (wi hw 34 rfl)) (by decide) (by decide : _ = some .byte) (by decide : _ = some (.array .byte))))).ext E19) (((E.ext E4).wr W13).ext E19) (Or.inr ⟨(wi hw 32 rfl), rfl, rfl⟩) (wi hw 6 rfl) (ty := .byte) (by decide) rfl rfl (List.Mem.head _) (pc' := 26) rfl (fun h29 W28 => ?_)
  have F30 := ((((FC.ext E4).other W13 (Or.inr (slot_ne (Or.inr (wi hw 32 rfl)) (Or.inr (wi hw 34 rfl)) (by decide) (by decide : _ = some .byte) (by decide : _ = some (.array .byte))))).ext E19)).same W28
  refine GoKit.retVoid G d3_26 rfl (by decide) (by decide) ?_
  exact ⟨rfl, ((((E.ext E4).wr W13).ext E19).wr W28), ⟨b2, ((F15.ext E19).other W28 (Or.inr (slot_ne (Or.inr (wi hw 34 rfl)) (Or.inr (wi hw 32 rfl)) (by decide) (by decide : _ = some (.array .byte)) (by decide : _ = some .byte)))), F30, (((A12.other W13 (Ne.symm (N9 _ (List.Mem.head _)).2)).ext E19).other W28 (Ne.symm (N9 _ (List.Mem.head _)).2))⟩, fun _ q => nomatch q⟩
abbrev rm_con_strInitE : Room := { frames := 2, cells := 4, slots := 8, locals := 29 }
set_option maxRecDepth 65536 in
set_option maxHeartbeats 40000000 in
theorem con_strInitE (l : Launch) {Z : State} {a0 : Array Value} (hw : ∀ d ∈ tables_1, d.before a0 Z = true) {n0 : Nat} {h0 : Heap} {a b : Addr} (E : Exa Z h0 a "java/lang/String") (FV : Fld Z h0 a "java/lang/String" "value" "[B" .null) (FC : Fld Z h0 a "java/lang/String" "coder" "B" (.int 0)) (A : IA Z h0 b .char []) :
    Con l Z true ELs n0 (⟨"java/lang/String", "<init>", "([C)V"⟩ : MethodName) jdk_42_method_3_code 2 none rm_con_strInitE [] #[(.ref a), (.ref b)] h0 [a] (fun v h => v = none ∧ Lat Z h a []) := by
  refine Con.intro (plainFor_of_name pn_java_lang_String) (hELs hw) ?_
  intro p e s m below meth c hh G
  refine castRun (g' := mkF m 0 #[.val (.ref a), .val (.ref b)] []) (by first | rfl | (simp [entryFrame, mkF, argsToLocals, Value.category, maxLocals]; done)) ?_
  refine GoKit.aloadN G d2_0 rfl rfl (pc' := 1) rfl ?_
  refine GoKit.aloadN G d2_1 rfl rfl (pc' := 2) rfl ?_
  refine GoKit.iconst G (0 : Int32) d2_2 rfl (pc' := 3) rfl ?_
  refine GoKit.aloadN G d2_3 rfl rfl (pc' := 4) rfl ?_
  refine GoKit.arrlenI G d2_4 A (z := (0 : Int32)) rfl (pc' := 5) rfl ?_
  refine GoKit.aconstNull G d2_5 (pc' := 6) rfl ?_
  refine GoKit.callSpecial G d2_6 rfl (wi hw 12 rfl) (wi hw 13 rfl) (wi hw 7 rfl) (wi hw 15 rfl) (by decide) (owc := [a]) (W := 0) (argsL := [(.ref b), (.int (0 : Int32)), (.int (0 : Int32)), .null]) (rest := []) (con_strInitE4 l hw E FV FC A) rfl (lenOf pd_3 rfl) rfl (by decide) (Nat.le_of_eq rfl) (by decide) (by decide) (by decide) (by intro x hx; simp only [List.mem_cons, List.not_mem_nil, or_false] at hx ⊢; simp [hx]) (cells' := 4) (slots' := 8) rfl rfl (pc' := 9) rfl (fun r1 h4 q2 K3 => ?_)
  obtain ⟨rfl, S5⟩ := q2
  show Run _ _ _ _ _ _ _ _ _ _ _ _ _ _ _ _ _ _ _ _ (mkF m 9 #[.val (.ref a), .val (.ref b)] [])
  refine GoKit.retVoid G d2_9 rfl (by decide) (by decide) ?_
  exact ⟨rfl, S5⟩
theorem fld_uniq {Z : State} {h : Heap} {a : Addr} {C n d : String} {v w : Value} (F : Fld Z h a C n d v) (G : Fld Z h a C n d w) : v = w := by
  obtain ⟨c1, _, _, _, _, h1, h2, -, -, -, -, h7⟩ := F
  obtain ⟨c2, _, _, _, _, g1, g2, -, -, -, -, g7⟩ := G
  cases h1.symm.trans g1; cases h2.symm.trans g2; exact Option.some.inj (h7.symm.trans g7)
theorem map_int_inj : ∀ {xs ys : List Int32}, xs.map Value.int = ys.map Value.int → xs = ys
  | [], [], _ => rfl
  | [], _ :: _, q => by cases q
  | _ :: _, [], q => by cases q
  | x :: xs, z :: ys, q => by
    simp only [List.map_cons, List.cons.injEq, Value.int.injEq] at q
    rw [q.1, map_int_inj q.2]
theorem ia_uniq {Z : State} {h : Heap} {b : Addr} {t u : FieldType} {xs ys : List Int32} (A : IA Z h b t xs) (B : IA Z h b u ys) : xs = ys := by
  obtain ⟨c1, A, e1, -⟩ := A
  obtain ⟨c2, B, e2, -⟩ := B
  cases A.1.symm.trans B.1
  have := e1.symm.trans e2
  exact map_int_inj (by simpa using this)
theorem lo8_mask0 (c : Int32) (h : 0 ≤ c.toInt ∧ c.toInt < 256) : c.toInt8.toInt32 &&& 255 = c := by
  obtain ⟨n, hn, rfl⟩ : ∃ n : Nat, n < 256 ∧ c = Int32.ofNat n := by
    refine ⟨c.toInt.toNat, by omega, ?_⟩
    apply Int32.toInt_inj.mp
    rw [show Int32.ofNat c.toInt.toNat = c.toInt.toNat.toInt32 from rfl, toI_toInt (by omega)]; omega
  revert n; decide +kernel
theorem lo8_inj : ∀ {cs ds : List Int32}, (∀ c ∈ cs, 0 ≤ c.toInt ∧ c.toInt < 256) → (∀ c ∈ ds, 0 ≤ c.toInt ∧ c.toInt < 256) → (cs.map fun c => c.toInt8.toInt32) = (ds.map fun c => c.toInt8.toInt32) → cs = ds
  | [], [], _, _, _ => rfl
  | [], _ :: _, _, _, q => by cases q
  | _ :: _, [], _, _, q => by cases q
  | c :: cs, d :: ds, h1, h2, q => by
    simp only [List.map_cons, List.cons.injEq] at q
    have e : c = d := by
      rw [← lo8_mask0 c (h1 c (List.Mem.head _)), ← lo8_mask0 d (h2 d (List.Mem.head _)), q.1]
    rw [e, lo8_inj (fun x hx => h1 x (List.Mem.tail _ hx)) (fun x hx => h2 x (List.Mem.tail _ hx)) q.2]
theorem lat_uniq {Z : State} {h : Heap} {a : Addr} {cs ds : List Int32} (S : Lat Z h a cs) (T : Lat Z h a ds) : cs = ds := by
  obtain ⟨-, ⟨b, V, -, A⟩, l1⟩ := S
  obtain ⟨-, ⟨d, U, -, B⟩, l2⟩ := T
  cases fld_uniq V U
  exact lo8_inj l1 l2 (ia_uniq A B)
theorem take_step {xs ys : List Int32} {i : Nat} {v : Int32} (h : xs.take i = ys.take i) (h1 : xs[i]? = some v) (h2 : ys[i]? = some v) : xs.take (i + 1) = ys.take (i + 1) := by
  rw [List.take_add_one, List.take_add_one, h, h1, h2]
theorem d9_9 : decode jdk_43_method_13_code 9 = .ok (.iload_n 2, 1) := by decide +kernel
theorem d9_10 : decode jdk_43_method_13_code 10 = .ok (.aload_n 0, 1) := by decide +kernel
theorem d9_11 : decode jdk_43_method_13_code 11 = .ok (.arraylength, 1) := by decide +kernel
theorem d9_12 : decode jdk_43_method_13_code 12 = .ok (.if_icmp .ge 20, 3) := by decide +kernel
theorem d9_32 : decode jdk_43_method_13_code 32 = .ok (.iconst 1, 1) := by decide +kernel
theorem d9_33 : decode jdk_43_method_13_code 33 = .ok (.ireturn, 1) := by decide +kernel
theorem d9_15 : decode jdk_43_method_13_code 15 = .ok (.aload_n 0, 1) := by decide +kernel
theorem d9_16 : decode jdk_43_method_13_code 16 = .ok (.iload_n 2, 1) := by decide +kernel
theorem d9_17 : decode jdk_43_method_13_code 17 = .ok (.baload, 1) := by decide +kernel
theorem d9_18 : decode jdk_43_method_13_code 18 = .ok (.aload_n 1, 1) := by decide +kernel
theorem d9_19 : decode jdk_43_method_13_code 19 = .ok (.iload_n 2, 1) := by decide +kernel
theorem d9_20 : decode jdk_43_method_13_code 20 = .ok (.baload, 1) := by decide +kernel
theorem d9_21 : decode jdk_43_method_13_code 21 = .ok (.if_icmp .eq 5, 3) := by decide +kernel
theorem d9_26 : decode jdk_43_method_13_code 26 = .ok (.iinc 2 1, 3) := by decide +kernel
theorem d9_29 : decode jdk_43_method_13_code 29 = .ok (.goto (-20), 3) := by decide +kernel
theorem d9_24 : decode jdk_43_method_13_code 24 = .ok (.iconst 0, 1) := by decide +kernel
theorem d9_25 : decode jdk_43_method_13_code 25 = .ok (.ireturn, 1) := by decide +kernel
theorem d9_0 : decode jdk_43_method_13_code 0 = .ok (.aload_n 0, 1) := by decide +kernel
theorem d9_1 : decode jdk_43_method_13_code 1 = .ok (.arraylength, 1) := by decide +kernel
theorem d9_2 : decode jdk_43_method_13_code 2 = .ok (.aload_n 1, 1) := by decide +kernel
theorem d9_3 : decode jdk_43_method_13_code 3 = .ok (.arraylength, 1) := by decide +kernel
theorem d9_4 : decode jdk_43_method_13_code 4 = .ok (.if_icmp .ne 30, 3) := by decide +kernel
theorem d9_34 : decode jdk_43_method_13_code 34 = .ok (.iconst 0, 1) := by decide +kernel
theorem d9_35 : decode jdk_43_method_13_code 35 = .ok (.ireturn, 1) := by decide +kernel
theorem d9_7 : decode jdk_43_method_13_code 7 = .ok (.iconst 0, 1) := by decide +kernel
theorem d9_8 : decode jdk_43_method_13_code 8 = .ok (.istore_n 2, 1) := by decide +kernel
theorem pn_java_lang_StringLatin1 : plainName "java/lang/StringLatin1" = true := by first | (simp [plainName, overriddenIn]; done) | decide +kernel
abbrev rm_con_latEq : Room := { frames := 0, cells := 0, slots := 0, locals := 0 }
set_option maxRecDepth 65536 in
set_option maxHeartbeats 40000000 in
theorem con_latEq (l : Launch) {Z : State} {a0 : Array Value} (hw : ∀ d ∈ tables_1, d.before a0 Z = true) {n0 : Nat} {h0 : Heap} {b d : Addr} {xs ys : List Int32} (A : IA Z h0 b .byte xs) (B : IA Z h0 d .byte ys) :
    Con l Z true ELs n0 (⟨"java/lang/StringLatin1", "equals", "([B[B)Z"⟩ : MethodName) jdk_43_method_13_code 3 (some .boolean) rm_con_latEq [] #[(.ref b), (.ref d)] h0 [] (fun v h => v = some (.int (if xs = ys then 1 else 0)) ∧ h = h0) := by
  refine Con.intro (plainFor_of_name pn_java_lang_StringLatin1) (hELs hw) ?_
  intro p e s m below meth c hh G
  refine castRun (g' := mkF m 0 #[.val (.ref b), .val (.ref d), .unset] []) (by first | rfl | (simp [entryFrame, mkF, argsToLocals, Value.category, maxLocals]; done)) ?_
  have hl := A.len
  have hl2 := B.len
  have loop : xs.length = ys.length → ∀ (k i : Nat), i + k = xs.length → xs.take i = ys.take i →
      Run p l e rm_con_latEq s m #[.ref b, .ref d] below meth c Z true ELs n0 [] (fun v h => v = some (.int (if xs = ys then 1 else 0)) ∧ h = h0) h0 [] 0 0 (mkF m 9 #[.val (.ref b), .val (.ref d), .val (.int i.toInt32)] []) := by
    intro hxy k; induction k with
    | zero =>
      intro i hik htk
      have hi : i = xs.length := by omega
      subst hi
      refine GoKit.iloadN G d9_9 rfl (pc' := 10) rfl ?_
      refine GoKit.aloadN G d9_10 rfl rfl (pc' := 11) rfl ?_
      refine GoKit.arrlenI G d9_11 A (z := xs.length.toInt32) rfl (pc' := 12) rfl ?_
      refine GoKit.icmp_ge_t G d9_12 Int32.lt_irrefl (by decide) (pc' := 32) rfl ?_
      refine GoKit.iconst G (1 : Int32) d9_32 rfl (pc' := 33) rfl ?_
      refine GoKit.retNar G d9_33 (t := .boolean) rfl (by simp) (by decide) (by decide) ?_
      exact ⟨by rw [if_pos (by rw [List.take_length] at htk; rw [htk, hxy, List.take_length])]; rfl, rfl⟩
    | succ k ih =>
      intro i hik htk
      have hi : i < xs.length := by omega
      obtain ⟨u, hu⟩ : ∃ u, xs[i]? = some u := ⟨xs[i], List.getElem?_eq_getElem hi⟩
      obtain ⟨t, ht⟩ : ∃ t, ys[i]? = some t := ⟨ys[i], List.getElem?_eq_getElem (by omega)⟩
      refine GoKit.iloadN G d9_9 rfl (pc' := 10) rfl ?_
      refine GoKit.aloadN G d9_10 rfl rfl (pc' := 11) rfl ?_
      refine GoKit.arrlenI G d9_11 A (z := xs.length.toInt32) rfl (pc' := 12) rfl ?_
      refine GoKit.icmp_ge_f G d9_12 ((toI_lt (by omega) (by omega)).mpr hi) (pc' := 15) rfl ?_
      refine GoKit.aloadN G d9_15 rfl rfl (pc' := 16) rfl ?_
      refine GoKit.iloadN G d9_16 rfl (pc' := 17) rfl ?_
      refine GoKit.baloadI G d9_17 A (i := i) (toI_clamp (by omega)) (toI_nn (by omega)) (x := u) hu (pc' := 18) rfl ?_
      refine GoKit.aloadN G d9_18 rfl rfl (pc' := 19) rfl ?_
      refine GoKit.iloadN G d9_19 rfl (pc' := 20) rfl ?_
      refine GoKit.baloadI G d9_20 B (i := i) (toI_clamp (by omega)) (toI_nn (by omega)) (x := t) ht (pc' := 21) rfl ?_
      refine GoKit.icmp_eq G d9_21 (by decide) (pt := 26) (pf := 24) rfl rfl (fun hb1 => ?_) (fun hb1 => ?_)
      · refine GoKit.iinc G (1 : Int32) d9_26 rfl rfl (Ls' := #[.val (.ref b), .val (.ref d), .val (.int (i.toInt32 + (1 : Int32)))]) rfl (pc' := 29) rfl ?_
        generalize hqv2 : (i.toInt32 + (1 : Int32)) = v2
        refine GoKit.goto G d9_29 (by decide) (pc' := 9) rfl ?_
        rw [toI_succ] at hqv2; subst hqv2
        exact ih (i + 1) (by omega) (take_step htk hu (by rw [ht, hb1]))
      · refine GoKit.iconst G (0 : Int32) d9_24 rfl (pc' := 25) rfl ?_
        refine GoKit.retNar G d9_25 (t := .boolean) rfl (by simp) (by decide) (by decide) ?_
        exact ⟨by rw [if_neg (fun q => hb1 (by subst q; exact Option.some.inj (hu.symm.trans ht)))]; rfl, rfl⟩
  refine GoKit.aloadN G d9_0 rfl rfl (pc' := 1) rfl ?_
  refine GoKit.arrlenI G d9_1 A (z := xs.length.toInt32) rfl (pc' := 2) rfl ?_
  refine GoKit.aloadN G d9_2 rfl rfl (pc' := 3) rfl ?_
  refine GoKit.arrlenI G d9_3 B (z := ys.length.toInt32) rfl (pc' := 4) rfl ?_
  refine GoKit.icmp_ne G d9_4 (by decide) (pt := 34) (pf := 7) rfl rfl (fun hb3 => ?_) (fun hb3 => ?_)
  · refine GoKit.iconst G (0 : Int32) d9_34 rfl (pc' := 35) rfl ?_
    refine GoKit.retNar G d9_35 (t := .boolean) rfl (by simp) (by decide) (by decide) ?_
    exact ⟨by rw [if_neg (fun q => hb3 (by rw [q]))]; rfl, rfl⟩
  · refine GoKit.iconst G (0 : Int32) d9_7 rfl (pc' := 8) rfl ?_
    refine GoKit.istoreN G d9_8 (Ls' := #[.val (.ref b), .val (.ref d), .val (.int (0 : Int32))]) rfl (pc' := 9) rfl ?_
    exact loop ((toI_eq hl hl2).mp hb3) xs.length 0 (by omega) rfl
theorem d8_0 : decode jdk_42_method_66_code 0 = .ok (.aload_n 0, 1) := by decide +kernel
theorem d8_1 : decode jdk_42_method_66_code 1 = .ok (.aload_n 1, 1) := by decide +kernel
theorem d8_2 : decode jdk_42_method_66_code 2 = .ok (.if_acmp .ne 5, 3) := by decide +kernel
theorem d8_7 : decode jdk_42_method_66_code 7 = .ok (.aload_n 1, 1) := by decide +kernel
theorem d8_8 : decode jdk_42_method_66_code 8 = .ok (.instanceof 10, 3) := by decide +kernel
theorem d8_11 : decode jdk_42_method_66_code 11 = .ok (.ifCond .eq 43, 3) := by decide +kernel
theorem d8_14 : decode jdk_42_method_66_code 14 = .ok (.aload_n 1, 1) := by decide +kernel
theorem d8_15 : decode jdk_42_method_66_code 15 = .ok (.checkcast 10, 3) := by decide +kernel
theorem d8_18 : decode jdk_42_method_66_code 18 = .ok (.astore_n 2, 1) := by decide +kernel
theorem d8_19 : decode jdk_42_method_66_code 19 = .ok (.getstatic 38, 3) := by decide +kernel
theorem d8_22 : decode jdk_42_method_66_code 22 = .ok (.ifCond .eq 14, 3) := by decide +kernel
theorem d8_25 : decode jdk_42_method_66_code 25 = .ok (.aload_n 0, 1) := by decide +kernel
theorem d8_26 : decode jdk_42_method_66_code 26 = .ok (.getfield 15, 3) := by decide +kernel
theorem d8_29 : decode jdk_42_method_66_code 29 = .ok (.aload_n 2, 1) := by decide +kernel
theorem d8_30 : decode jdk_42_method_66_code 30 = .ok (.getfield 15, 3) := by decide +kernel
theorem d8_33 : decode jdk_42_method_66_code 33 = .ok (.if_icmp .ne 21, 3) := by decide +kernel
theorem d8_36 : decode jdk_42_method_66_code 36 = .ok (.aload_n 0, 1) := by decide +kernel
theorem d8_37 : decode jdk_42_method_66_code 37 = .ok (.getfield 9, 3) := by decide +kernel
theorem d8_40 : decode jdk_42_method_66_code 40 = .ok (.aload_n 2, 1) := by decide +kernel
theorem d8_41 : decode jdk_42_method_66_code 41 = .ok (.getfield 9, 3) := by decide +kernel
theorem d8_44 : decode jdk_42_method_66_code 44 = .ok (.invokestatic 541, 3) := by decide +kernel
theorem pd_4 : parseMethodDescriptor "([B[B)Z" = some ⟨[(.array .byte), (.array .byte)], some .boolean⟩ := by decide +kernel
theorem d8_47 : decode jdk_42_method_66_code 47 = .ok (.ifCond .eq 7, 3) := by decide +kernel
theorem d8_54 : decode jdk_42_method_66_code 54 = .ok (.iconst 0, 1) := by decide +kernel
theorem d8_55 : decode jdk_42_method_66_code 55 = .ok (.ireturn, 1) := by decide +kernel
theorem d8_50 : decode jdk_42_method_66_code 50 = .ok (.iconst 1, 1) := by decide +kernel
theorem d8_51 : decode jdk_42_method_66_code 51 = .ok (.goto 4, 3) := by decide +kernel
abbrev rm_con_equalsNe : Room := { frames := 1, cells := 0, slots := 0, locals := 14 }
set_option maxRecDepth 65536 in
set_option maxHeartbeats 40000000 in
theorem con_equalsNe (l : Launch) {Z : State} {a0 : Array Value} (hw : ∀ d ∈ tables_1, d.before a0 Z = true) {n0 : Nat} {h0 : Heap} {a a1 : Addr} {cs ds : List Int32} (S : Lat Z h0 a cs) (S1 : Lat Z h0 a1 ds) (HC : Cst Z) (hab : a ≠ a1) :
    Con l Z true ELs n0 (⟨"java/lang/String", "equals", "(Ljava/lang/Object;)Z"⟩ : MethodName) jdk_42_method_66_code 3 (some .boolean) rm_con_equalsNe [] #[(.ref a), (.ref a1)] h0 [] (fun v h => v = some (.int (if cs = ds then 1 else 0)) ∧ h = h0) := by
  refine Con.intro (plainFor_of_name pn_java_lang_String) (hELs hw) ?_
  intro p e s m below meth c hh G
  refine castRun (g' := mkF m 0 #[.val (.ref a), .val (.ref a1), .unset] []) (by first | rfl | (simp [entryFrame, mkF, argsToLocals, Value.category, maxLocals]; done)) ?_
  obtain ⟨E, ⟨b, FV, FC, A⟩, hlat⟩ := id S
  obtain ⟨E1, ⟨b1, FV1, FC1, A1⟩, hlat1⟩ := id S1
  obtain ⟨cz, SC, hcz⟩ := id HC
  refine GoKit.aloadN G d8_0 rfl rfl (pc' := 1) rfl ?_
  refine GoKit.aloadN G d8_1 rfl rfl (pc' := 2) rfl ?_
  refine GoKit.acmp_ne_t G d8_2 rfl rfl (fun q => hab (Value.ref.inj q)) (by decide) (pc' := 7) rfl ?_
  refine GoKit.aloadN G d8_7 rfl rfl (pc' := 8) rfl ?_
  refine GoKit.instYes G d8_8 (wi hw 43 rfl) (Ins.self E1) (pc' := 11) rfl ?_
  refine GoKit.if_eq_f G d8_11 (by decide) (pc' := 14) rfl ?_
  refine GoKit.aloadN G d8_14 rfl rfl (pc' := 15) rfl ?_
  refine GoKit.castOk G d8_15 (wi hw 43 rfl) (Ins.self E1) (pc' := 18) rfl ?_
  refine GoKit.astoreN G d8_18 rfl (Ls' := #[.val (.ref a), .val (.ref a1), .val (.ref a1)]) rfl (pc' := 19) rfl ?_
  refine GoKit.gets G d8_19 (wi hw 19 rfl) Via.refl SC (pc' := 22) rfl ?_
  refine GoKit.if_eq_f G d8_22 hcz (pc' := 25) rfl ?_
  refine GoKit.aloadN G d8_25 rfl rfl (pc' := 26) rfl ?_
  refine GoKit.getf G d8_26 (wi hw 31 rfl) Via.refl FC (pc' := 29) rfl ?_
  refine GoKit.aloadN G d8_29 rfl rfl (pc' := 30) rfl ?_
  refine GoKit.getf G d8_30 (wi hw 31 rfl) Via.refl FC1 (pc' := 33) rfl ?_
  refine GoKit.icmp_ne_f G d8_33 rfl (pc' := 36) rfl ?_
  refine GoKit.aloadN G d8_36 rfl rfl (pc' := 37) rfl ?_
  refine GoKit.getf G d8_37 (wi hw 33 rfl) Via.refl FV (pc' := 40) rfl ?_
  refine GoKit.aloadN G d8_40 rfl rfl (pc' := 41) rfl ?_
  refine GoKit.getf G d8_41 (wi hw 33 rfl) Via.refl FV1 (pc' := 44) rfl ?_
  refine GoKit.callStaticP G d8_44 (wi hw 44 rfl) (wi hw 45 rfl) (wi hw 46 rfl) (wi hw 47 rfl) (by decide) (W := 0) (argsL := [(.ref b), (.ref b1)]) (rest := []) (con_latEq l hw A A1) rfl (lenOf pd_4 rfl) rfl (by decide) (Nat.le_of_eq rfl) (by decide) (by decide) (by decide) (cells' := 0) (slots' := 0) rfl rfl (pc' := 47) rfl ?_
  show Run _ _ _ _ _ _ _ _ _ _ _ _ _ _ _ _ _ _ _ _ (mkF m 47 #[.val (.ref a), .val (.ref a1), .val (.ref a1)] [(.int (if (cs.map fun c => c.toInt8.toInt32) = (ds.map fun c => c.toInt8.toInt32) then 1 else 0))])
  refine GoKit.if_eq G d8_47 (by decide) (pt := 54) (pf := 50) rfl rfl (fun hb1 => ?_) (fun hb1 => ?_)
  · refine GoKit.iconst G (0 : Int32) d8_54 rfl (pc' := 55) rfl ?_
    refine GoKit.retNar G d8_55 (t := .boolean) rfl (by simp) (by decide) (by decide) ?_
    exact ⟨by rw [if_neg (fun q => by rw [q, if_pos rfl] at hb1; exact absurd hb1 (by decide))]; rfl, rfl⟩
  · refine GoKit.iconst G (1 : Int32) d8_50 rfl (pc' := 51) rfl ?_
    refine GoKit.goto G d8_51 (by decide) (pc' := 55) rfl ?_
    refine GoKit.retNar G d8_55 (t := .boolean) rfl (by simp) (by decide) (by decide) ?_
    exact ⟨by rw [if_pos (Classical.byContradiction fun q => hb1 (if_neg fun z => q (lo8_inj hlat hlat1 z)))]; rfl, rfl⟩
theorem d8_5 : decode jdk_42_method_66_code 5 = .ok (.iconst 1, 1) := by decide +kernel
theorem d8_6 : decode jdk_42_method_66_code 6 = .ok (.ireturn, 1) := by decide +kernel
set_option maxRecDepth 65536 in
set_option maxHeartbeats 40000000 in
theorem con_equalsSelf (l : Launch) {Z : State} {a0 : Array Value} (hw : ∀ d ∈ tables_1, d.before a0 Z = true) {n0 : Nat} {h0 : Heap} {a : Addr} :
    Con l Z true ELs n0 (⟨"java/lang/String", "equals", "(Ljava/lang/Object;)Z"⟩ : MethodName) jdk_42_method_66_code 3 (some .boolean) rm_con_equalsNe [] #[(.ref a), (.ref a)] h0 [] (fun v h => v = some (.int 1) ∧ h = h0) := by
  refine Con.intro (plainFor_of_name pn_java_lang_String) (hELs hw) ?_
  intro p e s m below meth c hh G
  refine castRun (g' := mkF m 0 #[.val (.ref a), .val (.ref a), .unset] []) (by first | rfl | (simp [entryFrame, mkF, argsToLocals, Value.category, maxLocals]; done)) ?_
  refine GoKit.aloadN G d8_0 rfl rfl (pc' := 1) rfl ?_
  refine GoKit.aloadN G d8_1 rfl rfl (pc' := 2) rfl ?_
  refine GoKit.acmp_ne_f G d8_2 rfl rfl rfl (pc' := 5) rfl ?_
  refine GoKit.iconst G (1 : Int32) d8_5 rfl (pc' := 6) rfl ?_
  refine GoKit.retNar G d8_6 (t := .boolean) rfl (by simp) (by decide) (by decide) ?_
  exact ⟨rfl, rfl⟩
theorem con_equals (l : Launch) {Z : State} {a0 : Array Value} (hw : ∀ d ∈ tables_1, d.before a0 Z = true) {n0 : Nat} {h0 : Heap} {a a1 : Addr} {cs ds : List Int32} (S : Lat Z h0 a cs) (S1 : Lat Z h0 a1 ds) (HC : Cst Z) :
    Con l Z true ELs n0 (⟨"java/lang/String", "equals", "(Ljava/lang/Object;)Z"⟩ : MethodName) jdk_42_method_66_code 3 (some .boolean) rm_con_equalsNe [] #[.ref a, .ref a1] h0 [] (fun v h => v = some (.int (if cs = ds then 1 else 0)) ∧ h = h0) := by
  by_cases hab : a = a1
  · subst hab
    have e := lat_uniq S S1
    rw [if_pos e]
    exact con_equalsSelf l hw
  · exact con_equalsNe l hw S S1 HC hab
theorem lat_nar {c : Int32} (h : 0 ≤ c.toInt ∧ c.toInt < 256) : nar .char c = c := by
  obtain ⟨n, hn, rfl⟩ : ∃ n : Nat, n < 256 ∧ c = Int32.ofNat n := by
    refine ⟨c.toInt.toNat, by omega, ?_⟩
    apply Int32.toInt_inj.mp
    rw [show Int32.ofNat c.toInt.toNat = c.toInt.toNat.toInt32 from rfl, toI_toInt (by omega)]; omega
  revert n; decide +kernel
def thingL : List Int32 := [(104 : Int32), (116 : Int32), (116 : Int32), (112 : Int32), (58 : Int32), (47 : Int32), (47 : Int32), (119 : Int32), (119 : Int32), (119 : Int32), (46 : Int32), (119 : Int32), (51 : Int32), (46 : Int32), (111 : Int32), (114 : Int32), (103 : Int32), (47 : Int32), (50 : Int32), (48 : Int32), (48 : Int32), (50 : Int32), (47 : Int32), (48 : Int32), (55 : Int32), (47 : Int32), (111 : Int32), (119 : Int32), (108 : Int32), (35 : Int32), (84 : Int32), (104 : Int32), (105 : Int32), (110 : Int32), (103 : Int32)]
def nothingL : List Int32 := [(104 : Int32), (116 : Int32), (116 : Int32), (112 : Int32), (58 : Int32), (47 : Int32), (47 : Int32), (119 : Int32), (119 : Int32), (119 : Int32), (46 : Int32), (119 : Int32), (51 : Int32), (46 : Int32), (111 : Int32), (114 : Int32), (103 : Int32), (47 : Int32), (50 : Int32), (48 : Int32), (48 : Int32), (50 : Int32), (47 : Int32), (48 : Int32), (55 : Int32), (47 : Int32), (111 : Int32), (119 : Int32), (108 : Int32), (35 : Int32), (78 : Int32), (111 : Int32), (116 : Int32), (104 : Int32), (105 : Int32), (110 : Int32), (103 : Int32)]
theorem d1_0 : decode method_2_code 0 = .ok (.new 7, 3) := by decide +kernel
theorem d1_3 : decode method_2_code 3 = .ok (.dup, 1) := by decide +kernel
theorem d1_4 : decode method_2_code 4 = .ok (.bipush 35, 2) := by decide +kernel
theorem d1_6 : decode method_2_code 6 = .ok (.newarray .char, 2) := by decide +kernel
theorem d1_8 : decode method_2_code 8 = .ok (.dup, 1) := by decide +kernel
theorem d1_9 : decode method_2_code 9 = .ok (.iconst 0, 1) := by decide +kernel
theorem d1_10 : decode method_2_code 10 = .ok (.bipush 104, 2) := by decide +kernel
theorem d1_12 : decode method_2_code 12 = .ok (.castore, 1) := by decide +kernel
theorem d1_13 : decode method_2_code 13 = .ok (.dup, 1) := by decide +kernel
theorem d1_14 : decode method_2_code 14 = .ok (.iconst 1, 1) := by decide +kernel
theorem d1_15 : decode method_2_code 15 = .ok (.bipush 116, 2) := by decide +kernel
theorem d1_17 : decode method_2_code 17 = .ok (.castore, 1) := by decide +kernel
theorem d1_18 : decode method_2_code 18 = .ok (.dup, 1) := by decide +kernel
theorem d1_19 : decode method_2_code 19 = .ok (.iconst 2, 1) := by decide +kernel
theorem d1_20 : decode method_2_code 20 = .ok (.bipush 116, 2) := by decide +kernel
theorem d1_22 : decode method_2_code 22 = .ok (.castore, 1) := by decide +kernel
theorem d1_23 : decode method_2_code 23 = .ok (.dup, 1) := by decide +kernel
theorem d1_24 : decode method_2_code 24 = .ok (.iconst 3, 1) := by decide +kernel
theorem d1_25 : decode method_2_code 25 = .ok (.bipush 112, 2) := by decide +kernel
theorem d1_27 : decode method_2_code 27 = .ok (.castore, 1) := by decide +kernel
theorem d1_28 : decode method_2_code 28 = .ok (.dup, 1) := by decide +kernel
theorem d1_29 : decode method_2_code 29 = .ok (.iconst 4, 1) := by decide +kernel
theorem d1_30 : decode method_2_code 30 = .ok (.bipush 58, 2) := by decide +kernel
theorem d1_32 : decode method_2_code 32 = .ok (.castore, 1) := by decide +kernel
theorem d1_33 : decode method_2_code 33 = .ok (.dup, 1) := by decide +kernel
theorem d1_34 : decode method_2_code 34 = .ok (.iconst 5, 1) := by decide +kernel
theorem d1_35 : decode method_2_code 35 = .ok (.bipush 47, 2) := by decide +kernel
theorem d1_37 : decode method_2_code 37 = .ok (.castore, 1) := by decide +kernel
theorem d1_38 : decode method_2_code 38 = .ok (.dup, 1) := by decide +kernel
theorem d1_39 : decode method_2_code 39 = .ok (.bipush 6, 2) := by decide +kernel
theorem d1_41 : decode method_2_code 41 = .ok (.bipush 47, 2) := by decide +kernel
theorem d1_43 : decode method_2_code 43 = .ok (.castore, 1) := by decide +kernel
theorem d1_44 : decode method_2_code 44 = .ok (.dup, 1) := by decide +kernel
theorem d1_45 : decode method_2_code 45 = .ok (.bipush 7, 2) := by decide +kernel
theorem d1_47 : decode method_2_code 47 = .ok (.bipush 119, 2) := by decide +kernel
theorem d1_49 : decode method_2_code 49 = .ok (.castore, 1) := by decide +kernel
theorem d1_50 : decode method_2_code 50 = .ok (.dup, 1) := by decide +kernel
theorem d1_51 : decode method_2_code 51 = .ok (.bipush 8, 2) := by decide +kernel
theorem d1_53 : decode method_2_code 53 = .ok (.bipush 119, 2) := by decide +kernel
theorem d1_55 : decode method_2_code 55 = .ok (.castore, 1) := by decide +kernel
theorem d1_56 : decode method_2_code 56 = .ok (.dup, 1) := by decide +kernel
theorem d1_57 : decode method_2_code 57 = .ok (.bipush 9, 2) := by decide +kernel
theorem d1_59 : decode method_2_code 59 = .ok (.bipush 119, 2) := by decide +kernel
theorem d1_61 : decode method_2_code 61 = .ok (.castore, 1) := by decide +kernel
theorem d1_62 : decode method_2_code 62 = .ok (.dup, 1) := by decide +kernel
theorem d1_63 : decode method_2_code 63 = .ok (.bipush 10, 2) := by decide +kernel
theorem d1_65 : decode method_2_code 65 = .ok (.bipush 46, 2) := by decide +kernel
theorem d1_67 : decode method_2_code 67 = .ok (.castore, 1) := by decide +kernel
theorem d1_68 : decode method_2_code 68 = .ok (.dup, 1) := by decide +kernel
theorem d1_69 : decode method_2_code 69 = .ok (.bipush 11, 2) := by decide +kernel
theorem d1_71 : decode method_2_code 71 = .ok (.bipush 119, 2) := by decide +kernel
theorem d1_73 : decode method_2_code 73 = .ok (.castore, 1) := by decide +kernel
theorem d1_74 : decode method_2_code 74 = .ok (.dup, 1) := by decide +kernel
theorem d1_75 : decode method_2_code 75 = .ok (.bipush 12, 2) := by decide +kernel
theorem d1_77 : decode method_2_code 77 = .ok (.bipush 51, 2) := by decide +kernel
theorem d1_79 : decode method_2_code 79 = .ok (.castore, 1) := by decide +kernel
theorem d1_80 : decode method_2_code 80 = .ok (.dup, 1) := by decide +kernel
theorem d1_81 : decode method_2_code 81 = .ok (.bipush 13, 2) := by decide +kernel
theorem d1_83 : decode method_2_code 83 = .ok (.bipush 46, 2) := by decide +kernel
theorem d1_85 : decode method_2_code 85 = .ok (.castore, 1) := by decide +kernel
theorem d1_86 : decode method_2_code 86 = .ok (.dup, 1) := by decide +kernel
theorem d1_87 : decode method_2_code 87 = .ok (.bipush 14, 2) := by decide +kernel
theorem d1_89 : decode method_2_code 89 = .ok (.bipush 111, 2) := by decide +kernel
theorem d1_91 : decode method_2_code 91 = .ok (.castore, 1) := by decide +kernel
theorem d1_92 : decode method_2_code 92 = .ok (.dup, 1) := by decide +kernel
theorem d1_93 : decode method_2_code 93 = .ok (.bipush 15, 2) := by decide +kernel
theorem d1_95 : decode method_2_code 95 = .ok (.bipush 114, 2) := by decide +kernel
theorem d1_97 : decode method_2_code 97 = .ok (.castore, 1) := by decide +kernel
theorem d1_98 : decode method_2_code 98 = .ok (.dup, 1) := by decide +kernel
theorem d1_99 : decode method_2_code 99 = .ok (.bipush 16, 2) := by decide +kernel
theorem d1_101 : decode method_2_code 101 = .ok (.bipush 103, 2) := by decide +kernel
theorem d1_103 : decode method_2_code 103 = .ok (.castore, 1) := by decide +kernel
theorem d1_104 : decode method_2_code 104 = .ok (.dup, 1) := by decide +kernel
theorem d1_105 : decode method_2_code 105 = .ok (.bipush 17, 2) := by decide +kernel
theorem d1_107 : decode method_2_code 107 = .ok (.bipush 47, 2) := by decide +kernel
theorem d1_109 : decode method_2_code 109 = .ok (.castore, 1) := by decide +kernel
theorem d1_110 : decode method_2_code 110 = .ok (.dup, 1) := by decide +kernel
theorem d1_111 : decode method_2_code 111 = .ok (.bipush 18, 2) := by decide +kernel
theorem d1_113 : decode method_2_code 113 = .ok (.bipush 50, 2) := by decide +kernel
theorem d1_115 : decode method_2_code 115 = .ok (.castore, 1) := by decide +kernel
theorem d1_116 : decode method_2_code 116 = .ok (.dup, 1) := by decide +kernel
theorem d1_117 : decode method_2_code 117 = .ok (.bipush 19, 2) := by decide +kernel
theorem d1_119 : decode method_2_code 119 = .ok (.bipush 48, 2) := by decide +kernel
theorem d1_121 : decode method_2_code 121 = .ok (.castore, 1) := by decide +kernel
theorem d1_122 : decode method_2_code 122 = .ok (.dup, 1) := by decide +kernel
theorem d1_123 : decode method_2_code 123 = .ok (.bipush 20, 2) := by decide +kernel
theorem d1_125 : decode method_2_code 125 = .ok (.bipush 48, 2) := by decide +kernel
theorem d1_127 : decode method_2_code 127 = .ok (.castore, 1) := by decide +kernel
theorem d1_128 : decode method_2_code 128 = .ok (.dup, 1) := by decide +kernel
theorem d1_129 : decode method_2_code 129 = .ok (.bipush 21, 2) := by decide +kernel
theorem d1_131 : decode method_2_code 131 = .ok (.bipush 50, 2) := by decide +kernel
theorem d1_133 : decode method_2_code 133 = .ok (.castore, 1) := by decide +kernel
theorem d1_134 : decode method_2_code 134 = .ok (.dup, 1) := by decide +kernel
theorem d1_135 : decode method_2_code 135 = .ok (.bipush 22, 2) := by decide +kernel
theorem d1_137 : decode method_2_code 137 = .ok (.bipush 47, 2) := by decide +kernel
theorem d1_139 : decode method_2_code 139 = .ok (.castore, 1) := by decide +kernel
theorem d1_140 : decode method_2_code 140 = .ok (.dup, 1) := by decide +kernel
theorem d1_141 : decode method_2_code 141 = .ok (.bipush 23, 2) := by decide +kernel
theorem d1_143 : decode method_2_code 143 = .ok (.bipush 48, 2) := by decide +kernel
theorem d1_145 : decode method_2_code 145 = .ok (.castore, 1) := by decide +kernel
theorem d1_146 : decode method_2_code 146 = .ok (.dup, 1) := by decide +kernel
theorem d1_147 : decode method_2_code 147 = .ok (.bipush 24, 2) := by decide +kernel
theorem d1_149 : decode method_2_code 149 = .ok (.bipush 55, 2) := by decide +kernel
theorem d1_151 : decode method_2_code 151 = .ok (.castore, 1) := by decide +kernel
theorem d1_152 : decode method_2_code 152 = .ok (.dup, 1) := by decide +kernel
theorem d1_153 : decode method_2_code 153 = .ok (.bipush 25, 2) := by decide +kernel
theorem d1_155 : decode method_2_code 155 = .ok (.bipush 47, 2) := by decide +kernel
theorem d1_157 : decode method_2_code 157 = .ok (.castore, 1) := by decide +kernel
theorem d1_158 : decode method_2_code 158 = .ok (.dup, 1) := by decide +kernel
theorem d1_159 : decode method_2_code 159 = .ok (.bipush 26, 2) := by decide +kernel
theorem d1_161 : decode method_2_code 161 = .ok (.bipush 111, 2) := by decide +kernel
theorem d1_163 : decode method_2_code 163 = .ok (.castore, 1) := by decide +kernel
theorem d1_164 : decode method_2_code 164 = .ok (.dup, 1) := by decide +kernel
theorem d1_165 : decode method_2_code 165 = .ok (.bipush 27, 2) := by decide +kernel
theorem d1_167 : decode method_2_code 167 = .ok (.bipush 119, 2) := by decide +kernel
theorem d1_169 : decode method_2_code 169 = .ok (.castore, 1) := by decide +kernel
theorem d1_170 : decode method_2_code 170 = .ok (.dup, 1) := by decide +kernel
theorem d1_171 : decode method_2_code 171 = .ok (.bipush 28, 2) := by decide +kernel
theorem d1_173 : decode method_2_code 173 = .ok (.bipush 108, 2) := by decide +kernel
theorem d1_175 : decode method_2_code 175 = .ok (.castore, 1) := by decide +kernel
theorem d1_176 : decode method_2_code 176 = .ok (.dup, 1) := by decide +kernel
theorem d1_177 : decode method_2_code 177 = .ok (.bipush 29, 2) := by decide +kernel
theorem d1_179 : decode method_2_code 179 = .ok (.bipush 35, 2) := by decide +kernel
theorem d1_181 : decode method_2_code 181 = .ok (.castore, 1) := by decide +kernel
theorem d1_182 : decode method_2_code 182 = .ok (.dup, 1) := by decide +kernel
theorem d1_183 : decode method_2_code 183 = .ok (.bipush 30, 2) := by decide +kernel
theorem d1_185 : decode method_2_code 185 = .ok (.bipush 84, 2) := by decide +kernel
theorem d1_187 : decode method_2_code 187 = .ok (.castore, 1) := by decide +kernel
theorem d1_188 : decode method_2_code 188 = .ok (.dup, 1) := by decide +kernel
theorem d1_189 : decode method_2_code 189 = .ok (.bipush 31, 2) := by decide +kernel
theorem d1_191 : decode method_2_code 191 = .ok (.bipush 104, 2) := by decide +kernel
theorem d1_193 : decode method_2_code 193 = .ok (.castore, 1) := by decide +kernel
theorem d1_194 : decode method_2_code 194 = .ok (.dup, 1) := by decide +kernel
theorem d1_195 : decode method_2_code 195 = .ok (.bipush 32, 2) := by decide +kernel
theorem d1_197 : decode method_2_code 197 = .ok (.bipush 105, 2) := by decide +kernel
theorem d1_199 : decode method_2_code 199 = .ok (.castore, 1) := by decide +kernel
theorem d1_200 : decode method_2_code 200 = .ok (.dup, 1) := by decide +kernel
theorem d1_201 : decode method_2_code 201 = .ok (.bipush 33, 2) := by decide +kernel
theorem d1_203 : decode method_2_code 203 = .ok (.bipush 110, 2) := by decide +kernel
theorem d1_205 : decode method_2_code 205 = .ok (.castore, 1) := by decide +kernel
theorem d1_206 : decode method_2_code 206 = .ok (.dup, 1) := by decide +kernel
theorem d1_207 : decode method_2_code 207 = .ok (.bipush 34, 2) := by decide +kernel
theorem d1_209 : decode method_2_code 209 = .ok (.iload_n 0, 1) := by decide +kernel
theorem d1_210 : decode method_2_code 210 = .ok (.castore, 1) := by decide +kernel
theorem d1_211 : decode method_2_code 211 = .ok (.invokespecial 9, 3) := by decide +kernel
theorem pd_5 : parseMethodDescriptor "([C)V" = some ⟨[(.array .char)], none⟩ := by decide +kernel
theorem d1_214 : decode method_2_code 214 = .ok (.areturn, 1) := by decide +kernel
theorem pn_com_example_tiny_reasoner_tinyreasoner_concept_ConceptOfClassPinLaw : plainName "com/example/tiny_reasoner/tinyreasoner/concept/ConceptOfClassPinLaw" = true := by first | (simp [plainName, overriddenIn]; done) | decide +kernel
abbrev rm_con_thingWith : Room := { frames := 4, cells := 3, slots := 76, locals := 66 }
set_option maxRecDepth 65536 in
set_option maxHeartbeats 40000000 in
theorem con_thingWith (l : Launch) {Z : State} {a0 : Array Value} (hw : ∀ d ∈ tables_1, d.before a0 Z = true) {n0 : Nat} {h0 : Heap} {x : Int32} (H : 0 ≤ x.toInt ∧ x.toInt < 256) (HC : Cst Z) :
    Con l Z true ELs n0 (⟨"com/example/tiny_reasoner/tinyreasoner/concept/ConceptOfClassPinLaw", "thingWith", "(C)Ljava/lang/String;"⟩ : MethodName) method_2_code 1 (some (.object "java/lang/String")) rm_con_thingWith [] #[(.int x)] h0 [] (fun v h => ∃ a cs, v = some (.ref a) ∧ Lat Z h a cs) := by
  refine Con.intro (plainFor_of_name pn_com_example_tiny_reasoner_tinyreasoner_concept_ConceptOfClassPinLaw) (hELs hw) ?_
  intro p e s m below meth c hh G
  refine castRun (g' := mkF m 0 #[.val (.int x)] []) (by first | rfl | (simp [entryFrame, mkF, argsToLocals, Value.category, maxLocals]; done)) ?_
  refine GoKit.newobj G d1_0 (wi hw 5 rfl) (wi hw 6 rfl) (wi hw 7 rfl) (by decide) (by decide) (cells' := 1) (slots' := 4) rfl rfl (pc' := 3) rfl (fun h5 a1 ga1 E2 X3 D4 => ?_)
  have F6 : Fld Z h5 a1 "java/lang/String" "coder" "B" (.int 0) := D4 (Or.inr (wi hw 32 rfl)) (ty := .byte) (by decide)
  have F7 : Fld Z h5 a1 "java/lang/String" "value" "[B" .null := D4 (Or.inr (wi hw 34 rfl)) (ty := (.array .byte)) (by decide)
  refine GoKit.dup G d1_3 rfl (pc' := 4) rfl ?_
  refine GoKit.bipush G (35 : Int32) d1_4 rfl (pc' := 6) rfl ?_
  refine GoKit.newcI G d1_6 (wi hw 8 rfl) (by decide) (k := 35) (cap := 35) rfl (Nat.le_refl _) (by decide) (by decide) (by decide) (cells' := 2) (slots' := 39) rfl rfl (pc' := 8) rfl (fun h11 a8 ga8 E9 A10 => ?_)
  refine GoKit.dup G d1_8 rfl (pc' := 9) rfl ?_
  refine GoKit.iconst G (0 : Int32) d1_9 rfl (pc' := 10) rfl ?_
  refine GoKit.bipush G (104 : Int32) d1_10 rfl (pc' := 12) rfl ?_
  refine GoKit.castI G d1_12 A10 (i := 0) rfl (by decide) (Nat.le_of_ble_eq_true rfl) rfl (List.Mem.head _) (pc' := 13) rfl (fun h14 W12 A13 => ?_)
  change IA Z h14 a8 .char [(104 : Int32), 0, 0, 0, 0, 0, 0, 0, 0, 0, 0, 0, 0, 0, 0, 0, 0, 0, 0, 0, 0, 0, 0, 0, 0, 0, 0, 0, 0, 0, 0, 0, 0, 0, 0] at A13
  refine GoKit.dup G d1_13 rfl (pc' := 14) rfl ?_
  refine GoKit.iconst G (1 : Int32) d1_14 rfl (pc' := 15) rfl ?_
  refine GoKit.bipush G (116 : Int32) d1_15 rfl (pc' := 17) rfl ?_
  refine GoKit.castI G d1_17 A13 (i := 1) rfl (by decide) (Nat.le_of_ble_eq_true rfl) rfl (List.Mem.head _) (pc' := 18) rfl (fun h17 W15 A16 => ?_)
  change IA Z h17 a8 .char [(104 : Int32), (116 : Int32), 0, 0, 0, 0, 0, 0, 0, 0, 0, 0, 0, 0, 0, 0, 0, 0, 0, 0, 0, 0, 0, 0, 0, 0, 0, 0, 0, 0, 0, 0, 0, 0, 0] at A16
  refine GoKit.dup G d1_18 rfl (pc' := 19) rfl ?_
  refine GoKit.iconst G (2 : Int32) d1_19 rfl (pc' := 20) rfl ?_
  refine GoKit.bipush G (116 : Int32) d1_20 rfl (pc' := 22) rfl ?_
  refine GoKit.castI G d1_22 A16 (i := 2) rfl (by decide) (Nat.le_of_ble_eq_true rfl) rfl (List.Mem.head _) (pc' := 23) rfl (fun h20 W18 A19 => ?_)
  change IA Z h20 a8 .char [(104 : Int32), (116 : Int32), (116 : Int32), 0, 0, 0, 0, 0, 0, 0, 0, 0, 0, 0, 0, 0, 0, 0, 0, 0, 0, 0, 0, 0, 0, 0, 0, 0, 0, 0, 0, 0, 0, 0, 0] at A19
  refine GoKit.dup G d1_23 rfl (pc' := 24) rfl ?_
  refine GoKit.iconst G (3 : Int32) d1_24 rfl (pc' := 25) rfl ?_
  refine GoKit.bipush G (112 : Int32) d1_25 rfl (pc' := 27) rfl ?_
  refine GoKit.castI G d1_27 A19 (i := 3) rfl (by decide) (Nat.le_of_ble_eq_true rfl) rfl (List.Mem.head _) (pc' := 28) rfl (fun h23 W21 A22 => ?_)
  change IA Z h23 a8 .char [(104 : Int32), (116 : Int32), (116 : Int32), (112 : Int32), 0, 0, 0, 0, 0, 0, 0, 0, 0, 0, 0, 0, 0, 0, 0, 0, 0, 0, 0, 0, 0, 0, 0, 0, 0, 0, 0, 0, 0, 0, 0] at A22
  refine GoKit.dup G d1_28 rfl (pc' := 29) rfl ?_
  refine GoKit.iconst G (4 : Int32) d1_29 rfl (pc' := 30) rfl ?_
  refine GoKit.bipush G (58 : Int32) d1_30 rfl (pc' := 32) rfl ?_
  refine GoKit.castI G d1_32 A22 (i := 4) rfl (by decide) (Nat.le_of_ble_eq_true rfl) rfl (List.Mem.head _) (pc' := 33) rfl (fun h26 W24 A25 => ?_)
  change IA Z h26 a8 .char [(104 : Int32), (116 : Int32), (116 : Int32), (112 : Int32), (58 : Int32), 0, 0, 0, 0, 0, 0, 0, 0, 0, 0, 0, 0, 0, 0, 0, 0, 0, 0, 0, 0, 0, 0, 0, 0, 0, 0, 0, 0, 0, 0] at A25
  refine GoKit.dup G d1_33 rfl (pc' := 34) rfl ?_
  refine GoKit.iconst G (5 : Int32) d1_34 rfl (pc' := 35) rfl ?_
  refine GoKit.bipush G (47 : Int32) d1_35 rfl (pc' := 37) rfl ?_
  refine GoKit.castI G d1_37 A25 (i := 5) rfl (by decide) (Nat.le_of_ble_eq_true rfl) rfl (List.Mem.head _) (pc' := 38) rfl (fun h29 W27 A28 => ?_)
  change IA Z h29 a8 .char [(104 : Int32), (116 : Int32), (116 : Int32), (112 : Int32), (58 : Int32), (47 : Int32), 0, 0, 0, 0, 0, 0, 0, 0, 0, 0, 0, 0, 0, 0, 0, 0, 0, 0, 0, 0, 0, 0, 0, 0, 0, 0, 0, 0, 0] at A28
  refine GoKit.dup G d1_38 rfl (pc' := 39) rfl ?_
  refine GoKit.bipush G (6 : Int32) d1_39 rfl (pc' := 41) rfl ?_
  refine GoKit.bipush G (47 : Int32) d1_41 rfl (pc' := 43) rfl ?_
  refine GoKit.castI G d1_43 A28 (i := 6) rfl (by decide) (Nat.le_of_ble_eq_true rfl) rfl (List.Mem.head _) (pc' := 44) rfl (fun h32 W30 A31 => ?_)
  change IA Z h32 a8 .char [(104 : Int32), (116 : Int32), (116 : Int32), (112 : Int32), (58 : Int32), (47 : Int32), (47 : Int32), 0, 0, 0, 0, 0, 0, 0, 0, 0, 0, 0, 0, 0, 0, 0, 0, 0, 0, 0, 0, 0, 0, 0, 0, 0, 0, 0, 0] at A31
  refine GoKit.dup G d1_44 rfl (pc' := 45) rfl ?_
  refine GoKit.bipush G (7 : Int32) d1_45 rfl (pc' := 47) rfl ?_
  refine GoKit.bipush G (119 : Int32) d1_47 rfl (pc' := 49) rfl ?_
  refine GoKit.castI G d1_49 A31 (i := 7) rfl (by decide) (Nat.le_of_ble_eq_true rfl) rfl (List.Mem.head _) (pc' := 50) rfl (fun h35 W33 A34 => ?_)
  change IA Z h35 a8 .char [(104 : Int32), (116 : Int32), (116 : Int32), (112 : Int32), (58 : Int32), (47 : Int32), (47 : Int32), (119 : Int32), 0, 0, 0, 0, 0, 0, 0, 0, 0, 0, 0, 0, 0, 0, 0, 0, 0, 0, 0, 0, 0, 0, 0, 0, 0, 0, 0] at A34
  refine GoKit.dup G d1_50 rfl (pc' := 51) rfl ?_
  refine GoKit.bipush G (8 : Int32) d1_51 rfl (pc' := 53) rfl ?_
  refine GoKit.bipush G (119 : Int32) d1_53 rfl (pc' := 55) rfl ?_
  refine GoKit.castI G d1_55 A34 (i := 8) rfl (by decide) (Nat.le_of_ble_eq_true rfl) rfl (List.Mem.head _) (pc' := 56) rfl (fun h38 W36 A37 => ?_)
  change IA Z h38 a8 .char [(104 : Int32), (116 : Int32), (116 : Int32), (112 : Int32), (58 : Int32), (47 : Int32), (47 : Int32), (119 : Int32), (119 : Int32), 0, 0, 0, 0, 0, 0, 0, 0, 0, 0, 0, 0, 0, 0, 0, 0, 0, 0, 0, 0, 0, 0, 0, 0, 0, 0] at A37
  refine GoKit.dup G d1_56 rfl (pc' := 57) rfl ?_
  refine GoKit.bipush G (9 : Int32) d1_57 rfl (pc' := 59) rfl ?_
  refine GoKit.bipush G (119 : Int32) d1_59 rfl (pc' := 61) rfl ?_
  refine GoKit.castI G d1_61 A37 (i := 9) rfl (by decide) (Nat.le_of_ble_eq_true rfl) rfl (List.Mem.head _) (pc' := 62) rfl (fun h41 W39 A40 => ?_)
  change IA Z h41 a8 .char [(104 : Int32), (116 : Int32), (116 : Int32), (112 : Int32), (58 : Int32), (47 : Int32), (47 : Int32), (119 : Int32), (119 : Int32), (119 : Int32), 0, 0, 0, 0, 0, 0, 0, 0, 0, 0, 0, 0, 0, 0, 0, 0, 0, 0, 0, 0, 0, 0, 0, 0, 0] at A40
  refine GoKit.dup G d1_62 rfl (pc' := 63) rfl ?_
  refine GoKit.bipush G (10 : Int32) d1_63 rfl (pc' := 65) rfl ?_
  refine GoKit.bipush G (46 : Int32) d1_65 rfl (pc' := 67) rfl ?_
  refine GoKit.castI G d1_67 A40 (i := 10) rfl (by decide) (Nat.le_of_ble_eq_true rfl) rfl (List.Mem.head _) (pc' := 68) rfl (fun h44 W42 A43 => ?_)
  change IA Z h44 a8 .char [(104 : Int32), (116 : Int32), (116 : Int32), (112 : Int32), (58 : Int32), (47 : Int32), (47 : Int32), (119 : Int32), (119 : Int32), (119 : Int32), (46 : Int32), 0, 0, 0, 0, 0, 0, 0, 0, 0, 0, 0, 0, 0, 0, 0, 0, 0, 0, 0, 0, 0, 0, 0, 0] at A43
  refine GoKit.dup G d1_68 rfl (pc' := 69) rfl ?_
  refine GoKit.bipush G (11 : Int32) d1_69 rfl (pc' := 71) rfl ?_
  refine GoKit.bipush G (119 : Int32) d1_71 rfl (pc' := 73) rfl ?_
  refine GoKit.castI G d1_73 A43 (i := 11) rfl (by decide) (Nat.le_of_ble_eq_true rfl) rfl (List.Mem.head _) (pc' := 74) rfl (fun h47 W45 A46 => ?_)
  change IA Z h47 a8 .char [(104 : Int32), (116 : Int32), (116 : Int32), (112 : Int32), (58 : Int32), (47 : Int32), (47 : Int32), (119 : Int32), (119 : Int32), (119 : Int32), (46 : Int32), (119 : Int32), 0, 0, 0, 0, 0, 0, 0, 0, 0, 0, 0, 0, 0, 0, 0, 0, 0, 0, 0, 0, 0, 0, 0] at A46
  refine GoKit.dup G d1_74 rfl (pc' := 75) rfl ?_
  refine GoKit.bipush G (12 : Int32) d1_75 rfl (pc' := 77) rfl ?_
  refine GoKit.bipush G (51 : Int32) d1_77 rfl (pc' := 79) rfl ?_
  refine GoKit.castI G d1_79 A46 (i := 12) rfl (by decide) (Nat.le_of_ble_eq_true rfl) rfl (List.Mem.head _) (pc' := 80) rfl (fun h50 W48 A49 => ?_)
  change IA Z h50 a8 .char [(104 : Int32), (116 : Int32), (116 : Int32), (112 : Int32), (58 : Int32), (47 : Int32), (47 : Int32), (119 : Int32), (119 : Int32), (119 : Int32), (46 : Int32), (119 : Int32), (51 : Int32), 0, 0, 0, 0, 0, 0, 0, 0, 0, 0, 0, 0, 0, 0, 0, 0, 0, 0, 0, 0, 0, 0] at A49
  refine GoKit.dup G d1_80 rfl (pc' := 81) rfl ?_
  refine GoKit.bipush G (13 : Int32) d1_81 rfl (pc' := 83) rfl ?_
  refine GoKit.bipush G (46 : Int32) d1_83 rfl (pc' := 85) rfl ?_
  refine GoKit.castI G d1_85 A49 (i := 13) rfl (by decide) (Nat.le_of_ble_eq_true rfl) rfl (List.Mem.head _) (pc' := 86) rfl (fun h53 W51 A52 => ?_)
  change IA Z h53 a8 .char [(104 : Int32), (116 : Int32), (116 : Int32), (112 : Int32), (58 : Int32), (47 : Int32), (47 : Int32), (119 : Int32), (119 : Int32), (119 : Int32), (46 : Int32), (119 : Int32), (51 : Int32), (46 : Int32), 0, 0, 0, 0, 0, 0, 0, 0, 0, 0, 0, 0, 0, 0, 0, 0, 0, 0, 0, 0, 0] at A52
  refine GoKit.dup G d1_86 rfl (pc' := 87) rfl ?_
  refine GoKit.bipush G (14 : Int32) d1_87 rfl (pc' := 89) rfl ?_
  refine GoKit.bipush G (111 : Int32) d1_89 rfl (pc' := 91) rfl ?_
  refine GoKit.castI G d1_91 A52 (i := 14) rfl (by decide) (Nat.le_of_ble_eq_true rfl) rfl (List.Mem.head _) (pc' := 92) rfl (fun h56 W54 A55 => ?_)
  change IA Z h56 a8 .char [(104 : Int32), (116 : Int32), (116 : Int32), (112 : Int32), (58 : Int32), (47 : Int32), (47 : Int32), (119 : Int32), (119 : Int32), (119 : Int32), (46 : Int32), (119 : Int32), (51 : Int32), (46 : Int32), (111 : Int32), 0, 0, 0, 0, 0, 0, 0, 0, 0, 0, 0, 0, 0, 0, 0, 0, 0, 0, 0, 0] at A55
  refine GoKit.dup G d1_92 rfl (pc' := 93) rfl ?_
  refine GoKit.bipush G (15 : Int32) d1_93 rfl (pc' := 95) rfl ?_
  refine GoKit.bipush G (114 : Int32) d1_95 rfl (pc' := 97) rfl ?_
  refine GoKit.castI G d1_97 A55 (i := 15) rfl (by decide) (Nat.le_of_ble_eq_true rfl) rfl (List.Mem.head _) (pc' := 98) rfl (fun h59 W57 A58 => ?_)
  change IA Z h59 a8 .char [(104 : Int32), (116 : Int32), (116 : Int32), (112 : Int32), (58 : Int32), (47 : Int32), (47 : Int32), (119 : Int32), (119 : Int32), (119 : Int32), (46 : Int32), (119 : Int32), (51 : Int32), (46 : Int32), (111 : Int32), (114 : Int32), 0, 0, 0, 0, 0, 0, 0, 0, 0, 0, 0, 0, 0, 0, 0, 0, 0, 0, 0] at A58
  refine GoKit.dup G d1_98 rfl (pc' := 99) rfl ?_
  refine GoKit.bipush G (16 : Int32) d1_99 rfl (pc' := 101) rfl ?_
  refine GoKit.bipush G (103 : Int32) d1_101 rfl (pc' := 103) rfl ?_
  refine GoKit.castI G d1_103 A58 (i := 16) rfl (by decide) (Nat.le_of_ble_eq_true rfl) rfl (List.Mem.head _) (pc' := 104) rfl (fun h62 W60 A61 => ?_)
  change IA Z h62 a8 .char [(104 : Int32), (116 : Int32), (116 : Int32), (112 : Int32), (58 : Int32), (47 : Int32), (47 : Int32), (119 : Int32), (119 : Int32), (119 : Int32), (46 : Int32), (119 : Int32), (51 : Int32), (46 : Int32), (111 : Int32), (114 : Int32), (103 : Int32), 0, 0, 0, 0, 0, 0, 0, 0, 0, 0, 0, 0, 0, 0, 0, 0, 0, 0] at A61
  refine GoKit.dup G d1_104 rfl (pc' := 105) rfl ?_
  refine GoKit.bipush G (17 : Int32) d1_105 rfl (pc' := 107) rfl ?_
  refine GoKit.bipush G (47 : Int32) d1_107 rfl (pc' := 109) rfl ?_
  refine GoKit.castI G d1_109 A61 (i := 17) rfl (by decide) (Nat.le_of_ble_eq_true rfl) rfl (List.Mem.head _) (pc' := 110) rfl (fun h65 W63 A64 => ?_)
  change IA Z h65 a8 .char [(104 : Int32), (116 : Int32), (116 : Int32), (112 : Int32), (58 : Int32), (47 : Int32), (47 : Int32), (119 : Int32), (119 : Int32), (119 : Int32), (46 : Int32), (119 : Int32), (51 : Int32), (46 : Int32), (111 : Int32), (114 : Int32), (103 : Int32), (47 : Int32), 0, 0, 0, 0, 0, 0, 0, 0, 0, 0, 0, 0, 0, 0, 0, 0, 0] at A64
  refine GoKit.dup G d1_110 rfl (pc' := 111) rfl ?_
  refine GoKit.bipush G (18 : Int32) d1_111 rfl (pc' := 113) rfl ?_
  refine GoKit.bipush G (50 : Int32) d1_113 rfl (pc' := 115) rfl ?_
  refine GoKit.castI G d1_115 A64 (i := 18) rfl (by decide) (Nat.le_of_ble_eq_true rfl) rfl (List.Mem.head _) (pc' := 116) rfl (fun h68 W66 A67 => ?_)
  change IA Z h68 a8 .char [(104 : Int32), (116 : Int32), (116 : Int32), (112 : Int32), (58 : Int32), (47 : Int32), (47 : Int32), (119 : Int32), (119 : Int32), (119 : Int32), (46 : Int32), (119 : Int32), (51 : Int32), (46 : Int32), (111 : Int32), (114 : Int32), (103 : Int32), (47 : Int32), (50 : Int32), 0, 0, 0, 0, 0, 0, 0, 0, 0, 0, 0, 0, 0, 0, 0, 0] at A67
  refine GoKit.dup G d1_116 rfl (pc' := 117) rfl ?_
  refine GoKit.bipush G (19 : Int32) d1_117 rfl (pc' := 119) rfl ?_
  refine GoKit.bipush G (48 : Int32) d1_119 rfl (pc' := 121) rfl ?_
  refine GoKit.castI G d1_121 A67 (i := 19) rfl (by decide) (Nat.le_of_ble_eq_true rfl) rfl (List.Mem.head _) (pc' := 122) rfl (fun h71 W69 A70 => ?_)
  change IA Z h71 a8 .char [(104 : Int32), (116 : Int32), (116 : Int32), (112 : Int32), (58 : Int32), (47 : Int32), (47 : Int32), (119 : Int32), (119 : Int32), (119 : Int32), (46 : Int32), (119 : Int32), (51 : Int32), (46 : Int32), (111 : Int32), (114 : Int32), (103 : Int32), (47 : Int32), (50 : Int32), (48 : Int32), 0, 0, 0, 0, 0, 0, 0, 0, 0, 0, 0, 0, 0, 0, 0] at A70
  refine GoKit.dup G d1_122 rfl (pc' := 123) rfl ?_
  refine GoKit.bipush G (20 : Int32) d1_123 rfl (pc' := 125) rfl ?_
  refine GoKit.bipush G (48 : Int32) d1_125 rfl (pc' := 127) rfl ?_
  refine GoKit.castI G d1_127 A70 (i := 20) rfl (by decide) (Nat.le_of_ble_eq_true rfl) rfl (List.Mem.head _) (pc' := 128) rfl (fun h74 W72 A73 => ?_)
  change IA Z h74 a8 .char [(104 : Int32), (116 : Int32), (116 : Int32), (112 : Int32), (58 : Int32), (47 : Int32), (47 : Int32), (119 : Int32), (119 : Int32), (119 : Int32), (46 : Int32), (119 : Int32), (51 : Int32), (46 : Int32), (111 : Int32), (114 : Int32), (103 : Int32), (47 : Int32), (50 : Int32), (48 : Int32), (48 : Int32), 0, 0, 0, 0, 0, 0, 0, 0, 0, 0, 0, 0, 0, 0] at A73
  refine GoKit.dup G d1_128 rfl (pc' := 129) rfl ?_
  refine GoKit.bipush G (21 : Int32) d1_129 rfl (pc' := 131) rfl ?_
  refine GoKit.bipush G (50 : Int32) d1_131 rfl (pc' := 133) rfl ?_
  refine GoKit.castI G d1_133 A73 (i := 21) rfl (by decide) (Nat.le_of_ble_eq_true rfl) rfl (List.Mem.head _) (pc' := 134) rfl (fun h77 W75 A76 => ?_)
  change IA Z h77 a8 .char [(104 : Int32), (116 : Int32), (116 : Int32), (112 : Int32), (58 : Int32), (47 : Int32), (47 : Int32), (119 : Int32), (119 : Int32), (119 : Int32), (46 : Int32), (119 : Int32), (51 : Int32), (46 : Int32), (111 : Int32), (114 : Int32), (103 : Int32), (47 : Int32), (50 : Int32), (48 : Int32), (48 : Int32), (50 : Int32), 0, 0, 0, 0, 0, 0, 0, 0, 0, 0, 0, 0, 0] at A76
  refine GoKit.dup G d1_134 rfl (pc' := 135) rfl ?_
  refine GoKit.bipush G (22 : Int32) d1_135 rfl (pc' := 137) rfl ?_
  refine GoKit.bipush G (47 : Int32) d1_137 rfl (pc' := 139) rfl ?_
  refine GoKit.castI G d1_139 A76 (i := 22) rfl (by decide) (Nat.le_of_ble_eq_true rfl) rfl (List.Mem.head _) (pc' := 140) rfl (fun h80 W78 A79 => ?_)
  change IA Z h80 a8 .char [(104 : Int32), (116 : Int32), (116 : Int32), (112 : Int32), (58 : Int32), (47 : Int32), (47 : Int32), (119 : Int32), (119 : Int32), (119 : Int32), (46 : Int32), (119 : Int32), (51 : Int32), (46 : Int32), (111 : Int32), (114 : Int32), (103 : Int32), (47 : Int32), (50 : Int32), (48 : Int32), (48 : Int32), (50 : Int32), (47 : Int32), 0, 0, 0, 0, 0, 0, 0, 0, 0, 0, 0, 0] at A79
  refine GoKit.dup G d1_140 rfl (pc' := 141) rfl ?_
  refine GoKit.bipush G (23 : Int32) d1_141 rfl (pc' := 143) rfl ?_
  refine GoKit.bipush G (48 : Int32) d1_143 rfl (pc' := 145) rfl ?_
  refine GoKit.castI G d1_145 A79 (i := 23) rfl (by decide) (Nat.le_of_ble_eq_true rfl) rfl (List.Mem.head _) (pc' := 146) rfl (fun h83 W81 A82 => ?_)
  change IA Z h83 a8 .char [(104 : Int32), (116 : Int32), (116 : Int32), (112 : Int32), (58 : Int32), (47 : Int32), (47 : Int32), (119 : Int32), (119 : Int32), (119 : Int32), (46 : Int32), (119 : Int32), (51 : Int32), (46 : Int32), (111 : Int32), (114 : Int32), (103 : Int32), (47 : Int32), (50 : Int32), (48 : Int32), (48 : Int32), (50 : Int32), (47 : Int32), (48 : Int32), 0, 0, 0, 0, 0, 0, 0, 0, 0, 0, 0] at A82
  refine GoKit.dup G d1_146 rfl (pc' := 147) rfl ?_
  refine GoKit.bipush G (24 : Int32) d1_147 rfl (pc' := 149) rfl ?_
  refine GoKit.bipush G (55 : Int32) d1_149 rfl (pc' := 151) rfl ?_
  refine GoKit.castI G d1_151 A82 (i := 24) rfl (by decide) (Nat.le_of_ble_eq_true rfl) rfl (List.Mem.head _) (pc' := 152) rfl (fun h86 W84 A85 => ?_)
  change IA Z h86 a8 .char [(104 : Int32), (116 : Int32), (116 : Int32), (112 : Int32), (58 : Int32), (47 : Int32), (47 : Int32), (119 : Int32), (119 : Int32), (119 : Int32), (46 : Int32), (119 : Int32), (51 : Int32), (46 : Int32), (111 : Int32), (114 : Int32), (103 : Int32), (47 : Int32), (50 : Int32), (48 : Int32), (48 : Int32), (50 : Int32), (47 : Int32), (48 : Int32), (55 : Int32), 0, 0, 0, 0, 0, 0, 0, 0, 0, 0] at A85
  refine GoKit.dup G d1_152 rfl (pc' := 153) rfl ?_
  refine GoKit.bipush G (25 : Int32) d1_153 rfl (pc' := 155) rfl ?_
  refine GoKit.bipush G (47 : Int32) d1_155 rfl (pc' := 157) rfl ?_
  refine GoKit.castI G d1_157 A85 (i := 25) rfl (by decide) (Nat.le_of_ble_eq_true rfl) rfl (List.Mem.head _) (pc' := 158) rfl (fun h89 W87 A88 => ?_)
  change IA Z h89 a8 .char [(104 : Int32), (116 : Int32), (116 : Int32), (112 : Int32), (58 : Int32), (47 : Int32), (47 : Int32), (119 : Int32), (119 : Int32), (119 : Int32), (46 : Int32), (119 : Int32), (51 : Int32), (46 : Int32), (111 : Int32), (114 : Int32), (103 : Int32), (47 : Int32), (50 : Int32), (48 : Int32), (48 : Int32), (50 : Int32), (47 : Int32), (48 : Int32), (55 : Int32), (47 : Int32), 0, 0, 0, 0, 0, 0, 0, 0, 0] at A88
  refine GoKit.dup G d1_158 rfl (pc' := 159) rfl ?_
  refine GoKit.bipush G (26 : Int32) d1_159 rfl (pc' := 161) rfl ?_
  refine GoKit.bipush G (111 : Int32) d1_161 rfl (pc' := 163) rfl ?_
  refine GoKit.castI G d1_163 A88 (i := 26) rfl (by decide) (Nat.le_of_ble_eq_true rfl) rfl (List.Mem.head _) (pc' := 164) rfl (fun h92 W90 A91 => ?_)
  change IA Z h92 a8 .char [(104 : Int32), (116 : Int32), (116 : Int32), (112 : Int32), (58 : Int32), (47 : Int32), (47 : Int32), (119 : Int32), (119 : Int32), (119 : Int32), (46 : Int32), (119 : Int32), (51 : Int32), (46 : Int32), (111 : Int32), (114 : Int32), (103 : Int32), (47 : Int32), (50 : Int32), (48 : Int32), (48 : Int32), (50 : Int32), (47 : Int32), (48 : Int32), (55 : Int32), (47 : Int32), (111 : Int32), 0, 0, 0, 0, 0, 0, 0, 0] at A91
  refine GoKit.dup G d1_164 rfl (pc' := 165) rfl ?_
  refine GoKit.bipush G (27 : Int32) d1_165 rfl (pc' := 167) rfl ?_
  refine GoKit.bipush G (119 : Int32) d1_167 rfl (pc' := 169) rfl ?_
  refine GoKit.castI G d1_169 A91 (i := 27) rfl (by decide) (Nat.le_of_ble_eq_true rfl) rfl (List.Mem.head _) (pc' := 170) rfl (fun h95 W93 A94 => ?_)
  change IA Z h95 a8 .char [(104 : Int32), (116 : Int32), (116 : Int32), (112 : Int32), (58 : Int32), (47 : Int32), (47 : Int32), (119 : Int32), (119 : Int32), (119 : Int32), (46 : Int32), (119 : Int32), (51 : Int32), (46 : Int32), (111 : Int32), (114 : Int32), (103 : Int32), (47 : Int32), (50 : Int32), (48 : Int32), (48 : Int32), (50 : Int32), (47 : Int32), (48 : Int32), (55 : Int32), (47 : Int32), (111 : Int32), (119 : Int32), 0, 0, 0, 0, 0, 0, 0] at A94
  refine GoKit.dup G d1_170 rfl (pc' := 171) rfl ?_
  refine GoKit.bipush G (28 : Int32) d1_171 rfl (pc' := 173) rfl ?_
  refine GoKit.bipush G (108 : Int32) d1_173 rfl (pc' := 175) rfl ?_
  refine GoKit.castI G d1_175 A94 (i := 28) rfl (by decide) (Nat.le_of_ble_eq_true rfl) rfl (List.Mem.head _) (pc' := 176) rfl (fun h98 W96 A97 => ?_)
  change IA Z h98 a8 .char [(104 : Int32), (116 : Int32), (116 : Int32), (112 : Int32), (58 : Int32), (47 : Int32), (47 : Int32), (119 : Int32), (119 : Int32), (119 : Int32), (46 : Int32), (119 : Int32), (51 : Int32), (46 : Int32), (111 : Int32), (114 : Int32), (103 : Int32), (47 : Int32), (50 : Int32), (48 : Int32), (48 : Int32), (50 : Int32), (47 : Int32), (48 : Int32), (55 : Int32), (47 : Int32), (111 : Int32), (119 : Int32), (108 : Int32), 0, 0, 0, 0, 0, 0] at A97
  refine GoKit.dup G d1_176 rfl (pc' := 177) rfl ?_
  refine GoKit.bipush G (29 : Int32) d1_177 rfl (pc' := 179) rfl ?_
  refine GoKit.bipush G (35 : Int32) d1_179 rfl (pc' := 181) rfl ?_
  refine GoKit.castI G d1_181 A97 (i := 29) rfl (by decide) (Nat.le_of_ble_eq_true rfl) rfl (List.Mem.head _) (pc' := 182) rfl (fun h101 W99 A100 => ?_)
  change IA Z h101 a8 .char [(104 : Int32), (116 : Int32), (116 : Int32), (112 : Int32), (58 : Int32), (47 : Int32), (47 : Int32), (119 : Int32), (119 : Int32), (119 : Int32), (46 : Int32), (119 : Int32), (51 : Int32), (46 : Int32), (111 : Int32), (114 : Int32), (103 : Int32), (47 : Int32), (50 : Int32), (48 : Int32), (48 : Int32), (50 : Int32), (47 : Int32), (48 : Int32), (55 : Int32), (47 : Int32), (111 : Int32), (119 : Int32), (108 : Int32), (35 : Int32), 0, 0, 0, 0, 0] at A100
  refine GoKit.dup G d1_182 rfl (pc' := 183) rfl ?_
  refine GoKit.bipush G (30 : Int32) d1_183 rfl (pc' := 185) rfl ?_
  refine GoKit.bipush G (84 : Int32) d1_185 rfl (pc' := 187) rfl ?_
  refine GoKit.castI G d1_187 A100 (i := 30) rfl (by decide) (Nat.le_of_ble_eq_true rfl) rfl (List.Mem.head _) (pc' := 188) rfl (fun h104 W102 A103 => ?_)
  change IA Z h104 a8 .char [(104 : Int32), (116 : Int32), (116 : Int32), (112 : Int32), (58 : Int32), (47 : Int32), (47 : Int32), (119 : Int32), (119 : Int32), (119 : Int32), (46 : Int32), (119 : Int32), (51 : Int32), (46 : Int32), (111 : Int32), (114 : Int32), (103 : Int32), (47 : Int32), (50 : Int32), (48 : Int32), (48 : Int32), (50 : Int32), (47 : Int32), (48 : Int32), (55 : Int32), (47 : Int32), (111 : Int32), (119 : Int32), (108 : Int32), (35 : Int32), (84 : Int32), 0, 0, 0, 0] at A103
  refine GoKit.dup G d1_188 rfl (pc' := 189) rfl ?_
  refine GoKit.bipush G (31 : Int32) d1_189 rfl (pc' := 191) rfl ?_
  refine GoKit.bipush G (104 : Int32) d1_191 rfl (pc' := 193) rfl ?_
  refine GoKit.castI G d1_193 A103 (i := 31) rfl (by decide) (Nat.le_of_ble_eq_true rfl) rfl (List.Mem.head _) (pc' := 194) rfl (fun h107 W105 A106 => ?_)
  change IA Z h107 a8 .char [(104 : Int32), (116 : Int32), (116 : Int32), (112 : Int32), (58 : Int32), (47 : Int32), (47 : Int32), (119 : Int32), (119 : Int32), (119 : Int32), (46 : Int32), (119 : Int32), (51 : Int32), (46 : Int32), (111 : Int32), (114 : Int32), (103 : Int32), (47 : Int32), (50 : Int32), (48 : Int32), (48 : Int32), (50 : Int32), (47 : Int32), (48 : Int32), (55 : Int32), (47 : Int32), (111 : Int32), (119 : Int32), (108 : Int32), (35 : Int32), (84 : Int32), (104 : Int32), 0, 0, 0] at A106
  refine GoKit.dup G d1_194 rfl (pc' := 195) rfl ?_
  refine GoKit.bipush G (32 : Int32) d1_195 rfl (pc' := 197) rfl ?_
  refine GoKit.bipush G (105 : Int32) d1_197 rfl (pc' := 199) rfl ?_
  refine GoKit.castI G d1_199 A106 (i := 32) rfl (by decide) (Nat.le_of_ble_eq_true rfl) rfl (List.Mem.head _) (pc' := 200) rfl (fun h110 W108 A109 => ?_)
  change IA Z h110 a8 .char [(104 : Int32), (116 : Int32), (116 : Int32), (112 : Int32), (58 : Int32), (47 : Int32), (47 : Int32), (119 : Int32), (119 : Int32), (119 : Int32), (46 : Int32), (119 : Int32), (51 : Int32), (46 : Int32), (111 : Int32), (114 : Int32), (103 : Int32), (47 : Int32), (50 : Int32), (48 : Int32), (48 : Int32), (50 : Int32), (47 : Int32), (48 : Int32), (55 : Int32), (47 : Int32), (111 : Int32), (119 : Int32), (108 : Int32), (35 : Int32), (84 : Int32), (104 : Int32), (105 : Int32), 0, 0] at A109
  refine GoKit.dup G d1_200 rfl (pc' := 201) rfl ?_
  refine GoKit.bipush G (33 : Int32) d1_201 rfl (pc' := 203) rfl ?_
  refine GoKit.bipush G (110 : Int32) d1_203 rfl (pc' := 205) rfl ?_
  refine GoKit.castI G d1_205 A109 (i := 33) rfl (by decide) (Nat.le_of_ble_eq_true rfl) rfl (List.Mem.head _) (pc' := 206) rfl (fun h113 W111 A112 => ?_)
  change IA Z h113 a8 .char [(104 : Int32), (116 : Int32), (116 : Int32), (112 : Int32), (58 : Int32), (47 : Int32), (47 : Int32), (119 : Int32), (119 : Int32), (119 : Int32), (46 : Int32), (119 : Int32), (51 : Int32), (46 : Int32), (111 : Int32), (114 : Int32), (103 : Int32), (47 : Int32), (50 : Int32), (48 : Int32), (48 : Int32), (50 : Int32), (47 : Int32), (48 : Int32), (55 : Int32), (47 : Int32), (111 : Int32), (119 : Int32), (108 : Int32), (35 : Int32), (84 : Int32), (104 : Int32), (105 : Int32), (110 : Int32), 0] at A112
  refine GoKit.dup G d1_206 rfl (pc' := 207) rfl ?_
  refine GoKit.bipush G (34 : Int32) d1_207 rfl (pc' := 209) rfl ?_
  refine GoKit.iloadN G d1_209 rfl (pc' := 210) rfl ?_
  refine GoKit.castI G d1_210 A112 (i := 34) rfl (by decide) (Nat.le_of_ble_eq_true rfl) (lat_nar H) (List.Mem.head _) (pc' := 211) rfl (fun h116 W114 A115 => ?_)
  change IA Z h116 a8 .char [(104 : Int32), (116 : Int32), (116 : Int32), (112 : Int32), (58 : Int32), (47 : Int32), (47 : Int32), (119 : Int32), (119 : Int32), (119 : Int32), (46 : Int32), (119 : Int32), (51 : Int32), (46 : Int32), (111 : Int32), (114 : Int32), (103 : Int32), (47 : Int32), (50 : Int32), (48 : Int32), (48 : Int32), (50 : Int32), (47 : Int32), (48 : Int32), (55 : Int32), (47 : Int32), (111 : Int32), (119 : Int32), (108 : Int32), (35 : Int32), (84 : Int32), (104 : Int32), (105 : Int32), (110 : Int32), x] at A115
  have hl117 : ∀ c ∈ ([(104 : Int32), (116 : Int32), (116 : Int32), (112 : Int32), (58 : Int32), (47 : Int32), (47 : Int32), (119 : Int32), (119 : Int32), (119 : Int32), (46 : Int32), (119 : Int32), (51 : Int32), (46 : Int32), (111 : Int32), (114 : Int32), (103 : Int32), (47 : Int32), (50 : Int32), (48 : Int32), (48 : Int32), (50 : Int32), (47 : Int32), (48 : Int32), (55 : Int32), (47 : Int32), (111 : Int32), (119 : Int32), (108 : Int32), (35 : Int32), (84 : Int32), (104 : Int32), (105 : Int32), (110 : Int32), x] : List Int32), 0 ≤ c.toInt ∧ c.toInt < 256 := by
    intro c hc
    simp only [List.mem_cons, List.not_mem_nil, or_false] at hc
    rcases hc with rfl | rfl | rfl | rfl | rfl | rfl | rfl | rfl | rfl | rfl | rfl | rfl | rfl | rfl | rfl | rfl | rfl | rfl | rfl | rfl | rfl | rfl | rfl | rfl | rfl | rfl | rfl | rfl | rfl | rfl | rfl | rfl | rfl | rfl | rfl
    · exact (by decide)
    · exact (by decide)
    · exact (by decide)
    · exact (by decide)
    · exact (by decide)
    · exact (by decide)
    · exact (by decide)
    · exact (by decide)
    · exact (by decide)
    · exact (by decide)
    · exact (by decide)
    · exact (by decide)
    · exact (by decide)
    · exact (by decide)
    · exact (by decide)
    · exact (by decide)
    · exact (by decide)
    · exact (by decide)
    · exact (by decide)
    · exact (by decide)
    · exact (by decide)
    · exact (by decide)
    · exact (by decide)
    · exact (by decide)
    · exact (by decide)
    · exact (by decide)
    · exact (by decide)
    · exact (by decide)
    · exact (by decide)
    · exact (by decide)
    · exact (by decide)
    · exact (by decide)
    · exact (by decide)
    · exact (by decide)
    · exact H
  refine GoKit.callSpecial G d1_211 rfl (wi hw 9 rfl) (wi hw 10 rfl) (wi hw 7 rfl) (wi hw 11 rfl) (by decide) (owc := [a1]) (W := 1) (argsL := [(.ref a8)]) (rest := [(.ref a1)]) (con_strInit l hw ((((((((((((((((((((((((((((((((((((X3.ext E9).wr W12).wr W15).wr W18).wr W21).wr W24).wr W27).wr W30).wr W33).wr W36).wr W39).wr W42).wr W45).wr W48).wr W51).wr W54).wr W57).wr W60).wr W63).wr W66).wr W69).wr W72).wr W75).wr W78).wr W81).wr W84).wr W87).wr W90).wr W93).wr W96).wr W99).wr W102).wr W105).wr W108).wr W111).wr W114) ((((((((((((((((((((((((((((((((((((F7.ext E9).other W12 (Or.inl (Nat.ne_of_lt (Nat.lt_of_lt_of_eq (X3).lt ga8.symm)))).other W15 (Or.inl (Nat.ne_of_lt (Nat.lt_of_lt_of_eq (X3).lt ga8.symm)))).other W18 (Or.inl (Nat.ne_of_lt (Nat.lt_of_lt_of_eq (X3).lt ga8.symm)))).other W21 (Or.inl (Nat.ne_of_lt (Nat.lt_of_lt_of_eq (X3).lt ga8.symm)))).other W24 (Or.inl (Nat.ne_of_lt (Nat.lt_of_lt_of_eq (X3).lt ga8.symm)))).other W27 (Or.inl (Nat.ne_of_lt (Nat.lt_of_lt_of_eq (X3).lt ga8.symm)))).other W30 (Or.inl (Nat.ne_of_lt (Nat.lt_of_lt_of_eq (X3).lt ga8.symm)))).other W33 (Or.inl (Nat.ne_of_lt (Nat.lt_of_lt_of_eq (X3).lt ga8.symm)))).other W36 (Or.inl (Nat.ne_of_lt (Nat.lt_of_lt_of_eq (X3).lt ga8.symm)))).other W39 (Or.inl (Nat.ne_of_lt (Nat.lt_of_lt_of_eq (X3).lt ga8.symm)))).other W42 (Or.inl (Nat.ne_of_lt (Nat.lt_of_lt_of_eq (X3).lt ga8.symm)))).other W45 (Or.inl (Nat.ne_of_lt (Nat.lt_of_lt_of_eq (X3).lt ga8.symm)))).other W48 (Or.inl (Nat.ne_of_lt (Nat.lt_of_lt_of_eq (X3).lt ga8.symm)))).other W51 (Or.inl (Nat.ne_of_lt (Nat.lt_of_lt_of_eq (X3).lt ga8.symm)))).other W54 (Or.inl (Nat.ne_of_lt (Nat.lt_of_lt_of_eq (X3).lt ga8.symm)))).other W57 (Or.inl (Nat.ne_of_lt (Nat.lt_of_lt_of_eq (X3).lt ga8.symm)))).other W60 (Or.inl (Nat.ne_of_lt (Nat.lt_of_lt_of_eq (X3).lt ga8.symm)))).other W63 (Or.inl (Nat.ne_of_lt (Nat.lt_of_lt_of_eq (X3).lt ga8.symm)))).other W66 (Or.inl (Nat.ne_of_lt (Nat.lt_of_lt_of_eq (X3).lt ga8.symm)))).other W69 (Or.inl (Nat.ne_of_lt (Nat.lt_of_lt_of_eq (X3).lt ga8.symm)))).other W72 (Or.inl (Nat.ne_of_lt (Nat.lt_of_lt_of_eq (X3).lt ga8.symm)))).other W75 (Or.inl (Nat.ne_of_lt (Nat.lt_of_lt_of_eq (X3).lt ga8.symm)))).other W78 (Or.inl (Nat.ne_of_lt (Nat.lt_of_lt_of_eq (X3).lt ga8.symm)))).other W81 (Or.inl (Nat.ne_of_lt (Nat.lt_of_lt_of_eq (X3).lt ga8.symm)))).other W84 (Or.inl (Nat.ne_of_lt (Nat.lt_of_lt_of_eq (X3).lt ga8.symm)))).other W87 (Or.inl (Nat.ne_of_lt (Nat.lt_of_lt_of_eq (X3).lt ga8.symm)))).other W90 (Or.inl (Nat.ne_of_lt (Nat.lt_of_lt_of_eq (X3).lt ga8.symm)))).other W93 (Or.inl (Nat.ne_of_lt (Nat.lt_of_lt_of_eq (X3).lt ga8.symm)))).other W96 (Or.inl (Nat.ne_of_lt (Nat.lt_of_lt_of_eq (X3).lt ga8.symm)))).other W99 (Or.inl (Nat.ne_of_lt (Nat.lt_of_lt_of_eq (X3).lt ga8.symm)))).other W102 (Or.inl (Nat.ne_of_lt (Nat.lt_of_lt_of_eq (X3).lt ga8.symm)))).other W105 (Or.inl (Nat.ne_of_lt (Nat.lt_of_lt_of_eq (X3).lt ga8.symm)))).other W108 (Or.inl (Nat.ne_of_lt (Nat.lt_of_lt_of_eq (X3).lt ga8.symm)))).other W111 (Or.inl (Nat.ne_of_lt (Nat.lt_of_lt_of_eq (X3).lt ga8.symm)))).other W114 (Or.inl (Nat.ne_of_lt (Nat.lt_of_lt_of_eq (X3).lt ga8.symm)))) ((((((((((((((((((((((((((((((((((((F6.ext E9).other W12 (Or.inl (Nat.ne_of_lt (Nat.lt_of_lt_of_eq (X3).lt ga8.symm)))).other W15 (Or.inl (Nat.ne_of_lt (Nat.lt_of_lt_of_eq (X3).lt ga8.symm)))).other W18 (Or.inl (Nat.ne_of_lt (Nat.lt_of_lt_of_eq (X3).lt ga8.symm)))).other W21 (Or.inl (Nat.ne_of_lt (Nat.lt_of_lt_of_eq (X3).lt ga8.symm)))).other W24 (Or.inl (Nat.ne_of_lt (Nat.lt_of_lt_of_eq (X3).lt ga8.symm)))).other W27 (Or.inl (Nat.ne_of_lt (Nat.lt_of_lt_of_eq (X3).lt ga8.symm)))).other W30 (Or.inl (Nat.ne_of_lt (Nat.lt_of_lt_of_eq (X3).lt ga8.symm)))).other W33 (Or.inl (Nat.ne_of_lt (Nat.lt_of_lt_of_eq (X3).lt ga8.symm)))).other W36 (Or.inl (Nat.ne_of_lt (Nat.lt_of_lt_of_eq (X3).lt ga8.symm)))).other W39 (Or.inl (Nat.ne_of_lt (Nat.lt_of_lt_of_eq (X3).lt ga8.symm)))).other W42 (Or.inl (Nat.ne_of_lt (Nat.lt_of_lt_of_eq (X3).lt ga8.symm)))).other W45 (Or.inl (Nat.ne_of_lt (Nat.lt_of_lt_of_eq (X3).lt ga8.symm)))).other W48 (Or.inl (Nat.ne_of_lt (Nat.lt_of_lt_of_eq (X3).lt ga8.symm)))).other W51 (Or.inl (Nat.ne_of_lt (Nat.lt_of_lt_of_eq (X3).lt ga8.symm)))).other W54 (Or.inl (Nat.ne_of_lt (Nat.lt_of_lt_of_eq (X3).lt ga8.symm)))).other W57 (Or.inl (Nat.ne_of_lt (Nat.lt_of_lt_of_eq (X3).lt ga8.symm)))).other W60 (Or.inl (Nat.ne_of_lt (Nat.lt_of_lt_of_eq (X3).lt ga8.symm)))).other W63 (Or.inl (Nat.ne_of_lt (Nat.lt_of_lt_of_eq (X3).lt ga8.symm)))).other W66 (Or.inl (Nat.ne_of_lt (Nat.lt_of_lt_of_eq (X3).lt ga8.symm)))).other W69 (Or.inl (Nat.ne_of_lt (Nat.lt_of_lt_of_eq (X3).lt ga8.symm)))).other W72 (Or.inl (Nat.ne_of_lt (Nat.lt_of_lt_of_eq (X3).lt ga8.symm)))).other W75 (Or.inl (Nat.ne_of_lt (Nat.lt_of_lt_of_eq (X3).lt ga8.symm)))).other W78 (Or.inl (Nat.ne_of_lt (Nat.lt_of_lt_of_eq (X3).lt ga8.symm)))).other W81 (Or.inl (Nat.ne_of_lt (Nat.lt_of_lt_of_eq (X3).lt ga8.symm)))).other W84 (Or.inl (Nat.ne_of_lt (Nat.lt_of_lt_of_eq (X3).lt ga8.symm)))).other W87 (Or.inl (Nat.ne_of_lt (Nat.lt_of_lt_of_eq (X3).lt ga8.symm)))).other W90 (Or.inl (Nat.ne_of_lt (Nat.lt_of_lt_of_eq (X3).lt ga8.symm)))).other W93 (Or.inl (Nat.ne_of_lt (Nat.lt_of_lt_of_eq (X3).lt ga8.symm)))).other W96 (Or.inl (Nat.ne_of_lt (Nat.lt_of_lt_of_eq (X3).lt ga8.symm)))).other W99 (Or.inl (Nat.ne_of_lt (Nat.lt_of_lt_of_eq (X3).lt ga8.symm)))).other W102 (Or.inl (Nat.ne_of_lt (Nat.lt_of_lt_of_eq (X3).lt ga8.symm)))).other W105 (Or.inl (Nat.ne_of_lt (Nat.lt_of_lt_of_eq (X3).lt ga8.symm)))).other W108 (Or.inl (Nat.ne_of_lt (Nat.lt_of_lt_of_eq (X3).lt ga8.symm)))).other W111 (Or.inl (Nat.ne_of_lt (Nat.lt_of_lt_of_eq (X3).lt ga8.symm)))).other W114 (Or.inl (Nat.ne_of_lt (Nat.lt_of_lt_of_eq (X3).lt ga8.symm)))) A115 (Nat.le_of_ble_eq_true rfl) hl117 (by simp) HC) rfl (lenOf pd_5 rfl) rfl (by decide) (Nat.le_of_eq rfl) (by decide) (by decide) (by decide) (by intro x hx; simp only [List.mem_cons, List.not_mem_nil, or_false] at hx ⊢; simp [hx]) (cells' := 3) (slots' := 76) rfl rfl (pc' := 214) rfl (fun r118 h121 q119 K120 => ?_)
  obtain ⟨rfl, S122⟩ := q119
  show Run _ _ _ _ _ _ _ _ _ _ _ _ _ _ _ _ _ _ _ _ (mkF m 214 #[.val (.int x)] [(.ref a1)])
  refine GoKit.retRef G d1_214 rfl rfl rfl (by decide) (by decide) ?_
  exact ⟨_, _, rfl, S122⟩
theorem d13_0 : decode method_3_code 0 = .ok (.new 7, 3) := by decide +kernel
theorem d13_3 : decode method_3_code 3 = .ok (.dup, 1) := by decide +kernel
theorem d13_4 : decode method_3_code 4 = .ok (.bipush 37, 2) := by decide +kernel
theorem d13_6 : decode method_3_code 6 = .ok (.newarray .char, 2) := by decide +kernel
theorem d13_8 : decode method_3_code 8 = .ok (.dup, 1) := by decide +kernel
theorem d13_9 : decode method_3_code 9 = .ok (.iconst 0, 1) := by decide +kernel
theorem d13_10 : decode method_3_code 10 = .ok (.bipush 104, 2) := by decide +kernel
theorem d13_12 : decode method_3_code 12 = .ok (.castore, 1) := by decide +kernel
theorem d13_13 : decode method_3_code 13 = .ok (.dup, 1) := by decide +kernel
theorem d13_14 : decode method_3_code 14 = .ok (.iconst 1, 1) := by decide +kernel
theorem d13_15 : decode method_3_code 15 = .ok (.bipush 116, 2) := by decide +kernel
theorem d13_17 : decode method_3_code 17 = .ok (.castore, 1) := by decide +kernel
theorem d13_18 : decode method_3_code 18 = .ok (.dup, 1) := by decide +kernel
theorem d13_19 : decode method_3_code 19 = .ok (.iconst 2, 1) := by decide +kernel
theorem d13_20 : decode method_3_code 20 = .ok (.bipush 116, 2) := by decide +kernel
theorem d13_22 : decode method_3_code 22 = .ok (.castore, 1) := by decide +kernel
theorem d13_23 : decode method_3_code 23 = .ok (.dup, 1) := by decide +kernel
theorem d13_24 : decode method_3_code 24 = .ok (.iconst 3, 1) := by decide +kernel
theorem d13_25 : decode method_3_code 25 = .ok (.bipush 112, 2) := by decide +kernel
theorem d13_27 : decode method_3_code 27 = .ok (.castore, 1) := by decide +kernel
theorem d13_28 : decode method_3_code 28 = .ok (.dup, 1) := by decide +kernel
theorem d13_29 : decode method_3_code 29 = .ok (.iconst 4, 1) := by decide +kernel
theorem d13_30 : decode method_3_code 30 = .ok (.bipush 58, 2) := by decide +kernel
theorem d13_32 : decode method_3_code 32 = .ok (.castore, 1) := by decide +kernel
theorem d13_33 : decode method_3_code 33 = .ok (.dup, 1) := by decide +kernel
theorem d13_34 : decode method_3_code 34 = .ok (.iconst 5, 1) := by decide +kernel
theorem d13_35 : decode method_3_code 35 = .ok (.bipush 47, 2) := by decide +kernel
theorem d13_37 : decode method_3_code 37 = .ok (.castore, 1) := by decide +kernel
theorem d13_38 : decode method_3_code 38 = .ok (.dup, 1) := by decide +kernel
theorem d13_39 : decode method_3_code 39 = .ok (.bipush 6, 2) := by decide +kernel
theorem d13_41 : decode method_3_code 41 = .ok (.bipush 47, 2) := by decide +kernel
theorem d13_43 : decode method_3_code 43 = .ok (.castore, 1) := by decide +kernel
theorem d13_44 : decode method_3_code 44 = .ok (.dup, 1) := by decide +kernel
theorem d13_45 : decode method_3_code 45 = .ok (.bipush 7, 2) := by decide +kernel
theorem d13_47 : decode method_3_code 47 = .ok (.bipush 119, 2) := by decide +kernel
theorem d13_49 : decode method_3_code 49 = .ok (.castore, 1) := by decide +kernel
theorem d13_50 : decode method_3_code 50 = .ok (.dup, 1) := by decide +kernel
theorem d13_51 : decode method_3_code 51 = .ok (.bipush 8, 2) := by decide +kernel
theorem d13_53 : decode method_3_code 53 = .ok (.bipush 119, 2) := by decide +kernel
theorem d13_55 : decode method_3_code 55 = .ok (.castore, 1) := by decide +kernel
theorem d13_56 : decode method_3_code 56 = .ok (.dup, 1) := by decide +kernel
theorem d13_57 : decode method_3_code 57 = .ok (.bipush 9, 2) := by decide +kernel
theorem d13_59 : decode method_3_code 59 = .ok (.bipush 119, 2) := by decide +kernel
theorem d13_61 : decode method_3_code 61 = .ok (.castore, 1) := by decide +kernel
theorem d13_62 : decode method_3_code 62 = .ok (.dup, 1) := by decide +kernel
theorem d13_63 : decode method_3_code 63 = .ok (.bipush 10, 2) := by decide +kernel
theorem d13_65 : decode method_3_code 65 = .ok (.bipush 46, 2) := by decide +kernel
theorem d13_67 : decode method_3_code 67 = .ok (.castore, 1) := by decide +kernel
theorem d13_68 : decode method_3_code 68 = .ok (.dup, 1) := by decide +kernel
theorem d13_69 : decode method_3_code 69 = .ok (.bipush 11, 2) := by decide +kernel
theorem d13_71 : decode method_3_code 71 = .ok (.bipush 119, 2) := by decide +kernel
theorem d13_73 : decode method_3_code 73 = .ok (.castore, 1) := by decide +kernel
theorem d13_74 : decode method_3_code 74 = .ok (.dup, 1) := by decide +kernel
theorem d13_75 : decode method_3_code 75 = .ok (.bipush 12, 2) := by decide +kernel
theorem d13_77 : decode method_3_code 77 = .ok (.bipush 51, 2) := by decide +kernel
theorem d13_79 : decode method_3_code 79 = .ok (.castore, 1) := by decide +kernel
theorem d13_80 : decode method_3_code 80 = .ok (.dup, 1) := by decide +kernel
theorem d13_81 : decode method_3_code 81 = .ok (.bipush 13, 2) := by decide +kernel
theorem d13_83 : decode method_3_code 83 = .ok (.bipush 46, 2) := by decide +kernel
theorem d13_85 : decode method_3_code 85 = .ok (.castore, 1) := by decide +kernel
theorem d13_86 : decode method_3_code 86 = .ok (.dup, 1) := by decide +kernel
theorem d13_87 : decode method_3_code 87 = .ok (.bipush 14, 2) := by decide +kernel
theorem d13_89 : decode method_3_code 89 = .ok (.bipush 111, 2) := by decide +kernel
theorem d13_91 : decode method_3_code 91 = .ok (.castore, 1) := by decide +kernel
theorem d13_92 : decode method_3_code 92 = .ok (.dup, 1) := by decide +kernel
theorem d13_93 : decode method_3_code 93 = .ok (.bipush 15, 2) := by decide +kernel
theorem d13_95 : decode method_3_code 95 = .ok (.bipush 114, 2) := by decide +kernel
theorem d13_97 : decode method_3_code 97 = .ok (.castore, 1) := by decide +kernel
theorem d13_98 : decode method_3_code 98 = .ok (.dup, 1) := by decide +kernel
theorem d13_99 : decode method_3_code 99 = .ok (.bipush 16, 2) := by decide +kernel
theorem d13_101 : decode method_3_code 101 = .ok (.bipush 103, 2) := by decide +kernel
theorem d13_103 : decode method_3_code 103 = .ok (.castore, 1) := by decide +kernel
theorem d13_104 : decode method_3_code 104 = .ok (.dup, 1) := by decide +kernel
theorem d13_105 : decode method_3_code 105 = .ok (.bipush 17, 2) := by decide +kernel
theorem d13_107 : decode method_3_code 107 = .ok (.bipush 47, 2) := by decide +kernel
theorem d13_109 : decode method_3_code 109 = .ok (.castore, 1) := by decide +kernel
theorem d13_110 : decode method_3_code 110 = .ok (.dup, 1) := by decide +kernel
theorem d13_111 : decode method_3_code 111 = .ok (.bipush 18, 2) := by decide +kernel
theorem d13_113 : decode method_3_code 113 = .ok (.bipush 50, 2) := by decide +kernel
theorem d13_115 : decode method_3_code 115 = .ok (.castore, 1) := by decide +kernel
theorem d13_116 : decode method_3_code 116 = .ok (.dup, 1) := by decide +kernel
theorem d13_117 : decode method_3_code 117 = .ok (.bipush 19, 2) := by decide +kernel
theorem d13_119 : decode method_3_code 119 = .ok (.bipush 48, 2) := by decide +kernel
theorem d13_121 : decode method_3_code 121 = .ok (.castore, 1) := by decide +kernel
theorem d13_122 : decode method_3_code 122 = .ok (.dup, 1) := by decide +kernel
theorem d13_123 : decode method_3_code 123 = .ok (.bipush 20, 2) := by decide +kernel
theorem d13_125 : decode method_3_code 125 = .ok (.bipush 48, 2) := by decide +kernel
theorem d13_127 : decode method_3_code 127 = .ok (.castore, 1) := by decide +kernel
theorem d13_128 : decode method_3_code 128 = .ok (.dup, 1) := by decide +kernel
theorem d13_129 : decode method_3_code 129 = .ok (.bipush 21, 2) := by decide +kernel
theorem d13_131 : decode method_3_code 131 = .ok (.bipush 50, 2) := by decide +kernel
theorem d13_133 : decode method_3_code 133 = .ok (.castore, 1) := by decide +kernel
theorem d13_134 : decode method_3_code 134 = .ok (.dup, 1) := by decide +kernel
theorem d13_135 : decode method_3_code 135 = .ok (.bipush 22, 2) := by decide +kernel
theorem d13_137 : decode method_3_code 137 = .ok (.bipush 47, 2) := by decide +kernel
theorem d13_139 : decode method_3_code 139 = .ok (.castore, 1) := by decide +kernel
theorem d13_140 : decode method_3_code 140 = .ok (.dup, 1) := by decide +kernel
theorem d13_141 : decode method_3_code 141 = .ok (.bipush 23, 2) := by decide +kernel
theorem d13_143 : decode method_3_code 143 = .ok (.bipush 48, 2) := by decide +kernel
theorem d13_145 : decode method_3_code 145 = .ok (.castore, 1) := by decide +kernel
theorem d13_146 : decode method_3_code 146 = .ok (.dup, 1) := by decide +kernel
theorem d13_147 : decode method_3_code 147 = .ok (.bipush 24, 2) := by decide +kernel
theorem d13_149 : decode method_3_code 149 = .ok (.bipush 55, 2) := by decide +kernel
theorem d13_151 : decode method_3_code 151 = .ok (.castore, 1) := by decide +kernel
theorem d13_152 : decode method_3_code 152 = .ok (.dup, 1) := by decide +kernel
theorem d13_153 : decode method_3_code 153 = .ok (.bipush 25, 2) := by decide +kernel
theorem d13_155 : decode method_3_code 155 = .ok (.bipush 47, 2) := by decide +kernel
theorem d13_157 : decode method_3_code 157 = .ok (.castore, 1) := by decide +kernel
theorem d13_158 : decode method_3_code 158 = .ok (.dup, 1) := by decide +kernel
theorem d13_159 : decode method_3_code 159 = .ok (.bipush 26, 2) := by decide +kernel
theorem d13_161 : decode method_3_code 161 = .ok (.bipush 111, 2) := by decide +kernel
theorem d13_163 : decode method_3_code 163 = .ok (.castore, 1) := by decide +kernel
theorem d13_164 : decode method_3_code 164 = .ok (.dup, 1) := by decide +kernel
theorem d13_165 : decode method_3_code 165 = .ok (.bipush 27, 2) := by decide +kernel
theorem d13_167 : decode method_3_code 167 = .ok (.bipush 119, 2) := by decide +kernel
theorem d13_169 : decode method_3_code 169 = .ok (.castore, 1) := by decide +kernel
theorem d13_170 : decode method_3_code 170 = .ok (.dup, 1) := by decide +kernel
theorem d13_171 : decode method_3_code 171 = .ok (.bipush 28, 2) := by decide +kernel
theorem d13_173 : decode method_3_code 173 = .ok (.bipush 108, 2) := by decide +kernel
theorem d13_175 : decode method_3_code 175 = .ok (.castore, 1) := by decide +kernel
theorem d13_176 : decode method_3_code 176 = .ok (.dup, 1) := by decide +kernel
theorem d13_177 : decode method_3_code 177 = .ok (.bipush 29, 2) := by decide +kernel
theorem d13_179 : decode method_3_code 179 = .ok (.bipush 35, 2) := by decide +kernel
theorem d13_181 : decode method_3_code 181 = .ok (.castore, 1) := by decide +kernel
theorem d13_182 : decode method_3_code 182 = .ok (.dup, 1) := by decide +kernel
theorem d13_183 : decode method_3_code 183 = .ok (.bipush 30, 2) := by decide +kernel
theorem d13_185 : decode method_3_code 185 = .ok (.bipush 78, 2) := by decide +kernel
theorem d13_187 : decode method_3_code 187 = .ok (.castore, 1) := by decide +kernel
theorem d13_188 : decode method_3_code 188 = .ok (.dup, 1) := by decide +kernel
theorem d13_189 : decode method_3_code 189 = .ok (.bipush 31, 2) := by decide +kernel
theorem d13_191 : decode method_3_code 191 = .ok (.bipush 111, 2) := by decide +kernel
theorem d13_193 : decode method_3_code 193 = .ok (.castore, 1) := by decide +kernel
theorem d13_194 : decode method_3_code 194 = .ok (.dup, 1) := by decide +kernel
theorem d13_195 : decode method_3_code 195 = .ok (.bipush 32, 2) := by decide +kernel
theorem d13_197 : decode method_3_code 197 = .ok (.bipush 116, 2) := by decide +kernel
theorem d13_199 : decode method_3_code 199 = .ok (.castore, 1) := by decide +kernel
theorem d13_200 : decode method_3_code 200 = .ok (.dup, 1) := by decide +kernel
theorem d13_201 : decode method_3_code 201 = .ok (.bipush 33, 2) := by decide +kernel
theorem d13_203 : decode method_3_code 203 = .ok (.bipush 104, 2) := by decide +kernel
theorem d13_205 : decode method_3_code 205 = .ok (.castore, 1) := by decide +kernel
theorem d13_206 : decode method_3_code 206 = .ok (.dup, 1) := by decide +kernel
theorem d13_207 : decode method_3_code 207 = .ok (.bipush 34, 2) := by decide +kernel
theorem d13_209 : decode method_3_code 209 = .ok (.bipush 105, 2) := by decide +kernel
theorem d13_211 : decode method_3_code 211 = .ok (.castore, 1) := by decide +kernel
theorem d13_212 : decode method_3_code 212 = .ok (.dup, 1) := by decide +kernel
theorem d13_213 : decode method_3_code 213 = .ok (.bipush 35, 2) := by decide +kernel
theorem d13_215 : decode method_3_code 215 = .ok (.bipush 110, 2) := by decide +kernel
theorem d13_217 : decode method_3_code 217 = .ok (.castore, 1) := by decide +kernel
theorem d13_218 : decode method_3_code 218 = .ok (.dup, 1) := by decide +kernel
theorem d13_219 : decode method_3_code 219 = .ok (.bipush 36, 2) := by decide +kernel
theorem d13_221 : decode method_3_code 221 = .ok (.iload_n 0, 1) := by decide +kernel
theorem d13_222 : decode method_3_code 222 = .ok (.castore, 1) := by decide +kernel
theorem d13_223 : decode method_3_code 223 = .ok (.invokespecial 9, 3) := by decide +kernel
theorem d13_226 : decode method_3_code 226 = .ok (.areturn, 1) := by decide +kernel
abbrev rm_con_nothingWith : Room := { frames := 4, cells := 3, slots := 78, locals := 66 }
set_option maxRecDepth 65536 in
set_option maxHeartbeats 40000000 in
theorem con_nothingWith (l : Launch) {Z : State} {a0 : Array Value} (hw : ∀ d ∈ tables_1, d.before a0 Z = true) {n0 : Nat} {h0 : Heap} {x : Int32} (H : 0 ≤ x.toInt ∧ x.toInt < 256) (HC : Cst Z) :
    Con l Z true ELs n0 (⟨"com/example/tiny_reasoner/tinyreasoner/concept/ConceptOfClassPinLaw", "nothingWith", "(C)Ljava/lang/String;"⟩ : MethodName) method_3_code 1 (some (.object "java/lang/String")) rm_con_nothingWith [] #[(.int x)] h0 [] (fun v h => ∃ a cs, v = some (.ref a) ∧ Lat Z h a cs) := by
  refine Con.intro (plainFor_of_name pn_com_example_tiny_reasoner_tinyreasoner_concept_ConceptOfClassPinLaw) (hELs hw) ?_
  intro p e s m below meth c hh G
  refine castRun (g' := mkF m 0 #[.val (.int x)] []) (by first | rfl | (simp [entryFrame, mkF, argsToLocals, Value.category, maxLocals]; done)) ?_
  refine GoKit.newobj G d13_0 (wi hw 5 rfl) (wi hw 6 rfl) (wi hw 7 rfl) (by decide) (by decide) (cells' := 1) (slots' := 4) rfl rfl (pc' := 3) rfl (fun h5 a1 ga1 E2 X3 D4 => ?_)
  have F6 : Fld Z h5 a1 "java/lang/String" "coder" "B" (.int 0) := D4 (Or.inr (wi hw 32 rfl)) (ty := .byte) (by decide)
  have F7 : Fld Z h5 a1 "java/lang/String" "value" "[B" .null := D4 (Or.inr (wi hw 34 rfl)) (ty := (.array .byte)) (by decide)
  refine GoKit.dup G d13_3 rfl (pc' := 4) rfl ?_
  refine GoKit.bipush G (37 : Int32) d13_4 rfl (pc' := 6) rfl ?_
  refine GoKit.newcI G d13_6 (wi hw 8 rfl) (by decide) (k := 37) (cap := 37) rfl (Nat.le_refl _) (by decide) (by decide) (by decide) (cells' := 2) (slots' := 41) rfl rfl (pc' := 8) rfl (fun h11 a8 ga8 E9 A10 => ?_)
  refine GoKit.dup G d13_8 rfl (pc' := 9) rfl ?_
  refine GoKit.iconst G (0 : Int32) d13_9 rfl (pc' := 10) rfl ?_
  refine GoKit.bipush G (104 : Int32) d13_10 rfl (pc' := 12) rfl ?_
  refine GoKit.castI G d13_12 A10 (i := 0) rfl (by decide) (Nat.le_of_ble_eq_true rfl) rfl (List.Mem.head _) (pc' := 13) rfl (fun h14 W12 A13 => ?_)
  change IA Z h14 a8 .char [(104 : Int32), 0, 0, 0, 0, 0, 0, 0, 0, 0, 0, 0, 0, 0, 0, 0, 0, 0, 0, 0, 0, 0, 0, 0, 0, 0, 0, 0, 0, 0, 0, 0, 0, 0, 0, 0, 0] at A13
  refine GoKit.dup G d13_13 rfl (pc' := 14) rfl ?_
  refine GoKit.iconst G (1 : Int32) d13_14 rfl (pc' := 15) rfl ?_
  refine GoKit.bipush G (116 : Int32) d13_15 rfl (pc' := 17) rfl ?_
  refine GoKit.castI G d13_17 A13 (i := 1) rfl (by decide) (Nat.le_of_ble_eq_true rfl) rfl (List.Mem.head _) (pc' := 18) rfl (fun h17 W15 A16 => ?_)
  change IA Z h17 a8 .char [(104 : Int32), (116 : Int32), 0, 0, 0, 0, 0, 0, 0, 0, 0, 0, 0, 0, 0, 0, 0, 0, 0, 0, 0, 0, 0, 0, 0, 0, 0, 0, 0, 0, 0, 0, 0, 0, 0, 0, 0] at A16
  refine GoKit.dup G d13_18 rfl (pc' := 19) rfl ?_
  refine GoKit.iconst G (2 : Int32) d13_19 rfl (pc' := 20) rfl ?_
  refine GoKit.bipush G (116 : Int32) d13_20 rfl (pc' := 22) rfl ?_
  refine GoKit.castI G d13_22 A16 (i := 2) rfl (by decide) (Nat.le_of_ble_eq_true rfl) rfl (List.Mem.head _) (pc' := 23) rfl (fun h20 W18 A19 => ?_)
  change IA Z h20 a8 .char [(104 : Int32), (116 : Int32), (116 : Int32), 0, 0, 0, 0, 0, 0, 0, 0, 0, 0, 0, 0, 0, 0, 0, 0, 0, 0, 0, 0, 0, 0, 0, 0, 0, 0, 0, 0, 0, 0, 0, 0, 0, 0] at A19
  refine GoKit.dup G d13_23 rfl (pc' := 24) rfl ?_
  refine GoKit.iconst G (3 : Int32) d13_24 rfl (pc' := 25) rfl ?_
  refine GoKit.bipush G (112 : Int32) d13_25 rfl (pc' := 27) rfl ?_
  refine GoKit.castI G d13_27 A19 (i := 3) rfl (by decide) (Nat.le_of_ble_eq_true rfl) rfl (List.Mem.head _) (pc' := 28) rfl (fun h23 W21 A22 => ?_)
  change IA Z h23 a8 .char [(104 : Int32), (116 : Int32), (116 : Int32), (112 : Int32), 0, 0, 0, 0, 0, 0, 0, 0, 0, 0, 0, 0, 0, 0, 0, 0, 0, 0, 0, 0, 0, 0, 0, 0, 0, 0, 0, 0, 0, 0, 0, 0, 0] at A22
  refine GoKit.dup G d13_28 rfl (pc' := 29) rfl ?_
  refine GoKit.iconst G (4 : Int32) d13_29 rfl (pc' := 30) rfl ?_
  refine GoKit.bipush G (58 : Int32) d13_30 rfl (pc' := 32) rfl ?_
  refine GoKit.castI G d13_32 A22 (i := 4) rfl (by decide) (Nat.le_of_ble_eq_true rfl) rfl (List.Mem.head _) (pc' := 33) rfl (fun h26 W24 A25 => ?_)
  change IA Z h26 a8 .char [(104 : Int32), (116 : Int32), (116 : Int32), (112 : Int32), (58 : Int32), 0, 0, 0, 0, 0, 0, 0, 0, 0, 0, 0, 0, 0, 0, 0, 0, 0, 0, 0, 0, 0, 0, 0, 0, 0, 0, 0, 0, 0, 0, 0, 0] at A25
  refine GoKit.dup G d13_33 rfl (pc' := 34) rfl ?_
  refine GoKit.iconst G (5 : Int32) d13_34 rfl (pc' := 35) rfl ?_
  refine GoKit.bipush G (47 : Int32) d13_35 rfl (pc' := 37) rfl ?_
  refine GoKit.castI G d13_37 A25 (i := 5) rfl (by decide) (Nat.le_of_ble_eq_true rfl) rfl (List.Mem.head _) (pc' := 38) rfl (fun h29 W27 A28 => ?_)
  change IA Z h29 a8 .char [(104 : Int32), (116 : Int32), (116 : Int32), (112 : Int32), (58 : Int32), (47 : Int32), 0, 0, 0, 0, 0, 0, 0, 0, 0, 0, 0, 0, 0, 0, 0, 0, 0, 0, 0, 0, 0, 0, 0, 0, 0, 0, 0, 0, 0, 0, 0] at A28
  refine GoKit.dup G d13_38 rfl (pc' := 39) rfl ?_
  refine GoKit.bipush G (6 : Int32) d13_39 rfl (pc' := 41) rfl ?_
  refine GoKit.bipush G (47 : Int32) d13_41 rfl (pc' := 43) rfl ?_
  refine GoKit.castI G d13_43 A28 (i := 6) rfl (by decide) (Nat.le_of_ble_eq_true rfl) rfl (List.Mem.head _) (pc' := 44) rfl (fun h32 W30 A31 => ?_)
  change IA Z h32 a8 .char [(104 : Int32), (116 : Int32), (116 : Int32), (112 : Int32), (58 : Int32), (47 : Int32), (47 : Int32), 0, 0, 0, 0, 0, 0, 0, 0, 0, 0, 0, 0, 0, 0, 0, 0, 0, 0, 0, 0, 0, 0, 0, 0, 0, 0, 0, 0, 0, 0] at A31
  refine GoKit.dup G d13_44 rfl (pc' := 45) rfl ?_
  refine GoKit.bipush G (7 : Int32) d13_45 rfl (pc' := 47) rfl ?_
  refine GoKit.bipush G (119 : Int32) d13_47 rfl (pc' := 49) rfl ?_
  refine GoKit.castI G d13_49 A31 (i := 7) rfl (by decide) (Nat.le_of_ble_eq_true rfl) rfl (List.Mem.head _) (pc' := 50) rfl (fun h35 W33 A34 => ?_)
  change IA Z h35 a8 .char [(104 : Int32), (116 : Int32), (116 : Int32), (112 : Int32), (58 : Int32), (47 : Int32), (47 : Int32), (119 : Int32), 0, 0, 0, 0, 0, 0, 0, 0, 0, 0, 0, 0, 0, 0, 0, 0, 0, 0, 0, 0, 0, 0, 0, 0, 0, 0, 0, 0, 0] at A34
  refine GoKit.dup G d13_50 rfl (pc' := 51) rfl ?_
  refine GoKit.bipush G (8 : Int32) d13_51 rfl (pc' := 53) rfl ?_
  refine GoKit.bipush G (119 : Int32) d13_53 rfl (pc' := 55) rfl ?_
  refine GoKit.castI G d13_55 A34 (i := 8) rfl (by decide) (Nat.le_of_ble_eq_true rfl) rfl (List.Mem.head _) (pc' := 56) rfl (fun h38 W36 A37 => ?_)
  change IA Z h38 a8 .char [(104 : Int32), (116 : Int32), (116 : Int32), (112 : Int32), (58 : Int32), (47 : Int32), (47 : Int32), (119 : Int32), (119 : Int32), 0, 0, 0, 0, 0, 0, 0, 0, 0, 0, 0, 0, 0, 0, 0, 0, 0, 0, 0, 0, 0, 0, 0, 0, 0, 0, 0, 0] at A37
  refine GoKit.dup G d13_56 rfl (pc' := 57) rfl ?_
  refine GoKit.bipush G (9 : Int32) d13_57 rfl (pc' := 59) rfl ?_
  refine GoKit.bipush G (119 : Int32) d13_59 rfl (pc' := 61) rfl ?_
  refine GoKit.castI G d13_61 A37 (i := 9) rfl (by decide) (Nat.le_of_ble_eq_true rfl) rfl (List.Mem.head _) (pc' := 62) rfl (fun h41 W39 A40 => ?_)
  change IA Z h41 a8 .char [(104 : Int32), (116 : Int32), (116 : Int32), (112 : Int32), (58 : Int32), (47 : Int32), (47 : Int32), (119 : Int32), (119 : Int32), (119 : Int32), 0, 0, 0, 0, 0, 0, 0, 0, 0, 0, 0, 0, 0, 0, 0, 0, 0, 0, 0, 0, 0, 0, 0, 0, 0, 0, 0] at A40
  refine GoKit.dup G d13_62 rfl (pc' := 63) rfl ?_
  refine GoKit.bipush G (10 : Int32) d13_63 rfl (pc' := 65) rfl ?_
  refine GoKit.bipush G (46 : Int32) d13_65 rfl (pc' := 67) rfl ?_
  refine GoKit.castI G d13_67 A40 (i := 10) rfl (by decide) (Nat.le_of_ble_eq_true rfl) rfl (List.Mem.head _) (pc' := 68) rfl (fun h44 W42 A43 => ?_)
  change IA Z h44 a8 .char [(104 : Int32), (116 : Int32), (116 : Int32), (112 : Int32), (58 : Int32), (47 : Int32), (47 : Int32), (119 : Int32), (119 : Int32), (119 : Int32), (46 : Int32), 0, 0, 0, 0, 0, 0, 0, 0, 0, 0, 0, 0, 0, 0, 0, 0, 0, 0, 0, 0, 0, 0, 0, 0, 0, 0] at A43
  refine GoKit.dup G d13_68 rfl (pc' := 69) rfl ?_
  refine GoKit.bipush G (11 : Int32) d13_69 rfl (pc' := 71) rfl ?_
  refine GoKit.bipush G (119 : Int32) d13_71 rfl (pc' := 73) rfl ?_
  refine GoKit.castI G d13_73 A43 (i := 11) rfl (by decide) (Nat.le_of_ble_eq_true rfl) rfl (List.Mem.head _) (pc' := 74) rfl (fun h47 W45 A46 => ?_)
  change IA Z h47 a8 .char [(104 : Int32), (116 : Int32), (116 : Int32), (112 : Int32), (58 : Int32), (47 : Int32), (47 : Int32), (119 : Int32), (119 : Int32), (119 : Int32), (46 : Int32), (119 : Int32), 0, 0, 0, 0, 0, 0, 0, 0, 0, 0, 0, 0, 0, 0, 0, 0, 0, 0, 0, 0, 0, 0, 0, 0, 0] at A46
  refine GoKit.dup G d13_74 rfl (pc' := 75) rfl ?_
  refine GoKit.bipush G (12 : Int32) d13_75 rfl (pc' := 77) rfl ?_
  refine GoKit.bipush G (51 : Int32) d13_77 rfl (pc' := 79) rfl ?_
  refine GoKit.castI G d13_79 A46 (i := 12) rfl (by decide) (Nat.le_of_ble_eq_true rfl) rfl (List.Mem.head _) (pc' := 80) rfl (fun h50 W48 A49 => ?_)
  change IA Z h50 a8 .char [(104 : Int32), (116 : Int32), (116 : Int32), (112 : Int32), (58 : Int32), (47 : Int32), (47 : Int32), (119 : Int32), (119 : Int32), (119 : Int32), (46 : Int32), (119 : Int32), (51 : Int32), 0, 0, 0, 0, 0, 0, 0, 0, 0, 0, 0, 0, 0, 0, 0, 0, 0, 0, 0, 0, 0, 0, 0, 0] at A49
  refine GoKit.dup G d13_80 rfl (pc' := 81) rfl ?_
  refine GoKit.bipush G (13 : Int32) d13_81 rfl (pc' := 83) rfl ?_
  refine GoKit.bipush G (46 : Int32) d13_83 rfl (pc' := 85) rfl ?_
  refine GoKit.castI G d13_85 A49 (i := 13) rfl (by decide) (Nat.le_of_ble_eq_true rfl) rfl (List.Mem.head _) (pc' := 86) rfl (fun h53 W51 A52 => ?_)
  change IA Z h53 a8 .char [(104 : Int32), (116 : Int32), (116 : Int32), (112 : Int32), (58 : Int32), (47 : Int32), (47 : Int32), (119 : Int32), (119 : Int32), (119 : Int32), (46 : Int32), (119 : Int32), (51 : Int32), (46 : Int32), 0, 0, 0, 0, 0, 0, 0, 0, 0, 0, 0, 0, 0, 0, 0, 0, 0, 0, 0, 0, 0, 0, 0] at A52
  refine GoKit.dup G d13_86 rfl (pc' := 87) rfl ?_
  refine GoKit.bipush G (14 : Int32) d13_87 rfl (pc' := 89) rfl ?_
  refine GoKit.bipush G (111 : Int32) d13_89 rfl (pc' := 91) rfl ?_
  refine GoKit.castI G d13_91 A52 (i := 14) rfl (by decide) (Nat.le_of_ble_eq_true rfl) rfl (List.Mem.head _) (pc' := 92) rfl (fun h56 W54 A55 => ?_)
  change IA Z h56 a8 .char [(104 : Int32), (116 : Int32), (116 : Int32), (112 : Int32), (58 : Int32), (47 : Int32), (47 : Int32), (119 : Int32), (119 : Int32), (119 : Int32), (46 : Int32), (119 : Int32), (51 : Int32), (46 : Int32), (111 : Int32), 0, 0, 0, 0, 0, 0, 0, 0, 0, 0, 0, 0, 0, 0, 0, 0, 0, 0, 0, 0, 0, 0] at A55
  refine GoKit.dup G d13_92 rfl (pc' := 93) rfl ?_
  refine GoKit.bipush G (15 : Int32) d13_93 rfl (pc' := 95) rfl ?_
  refine GoKit.bipush G (114 : Int32) d13_95 rfl (pc' := 97) rfl ?_
  refine GoKit.castI G d13_97 A55 (i := 15) rfl (by decide) (Nat.le_of_ble_eq_true rfl) rfl (List.Mem.head _) (pc' := 98) rfl (fun h59 W57 A58 => ?_)
  change IA Z h59 a8 .char [(104 : Int32), (116 : Int32), (116 : Int32), (112 : Int32), (58 : Int32), (47 : Int32), (47 : Int32), (119 : Int32), (119 : Int32), (119 : Int32), (46 : Int32), (119 : Int32), (51 : Int32), (46 : Int32), (111 : Int32), (114 : Int32), 0, 0, 0, 0, 0, 0, 0, 0, 0, 0, 0, 0, 0, 0, 0, 0, 0, 0, 0, 0, 0] at A58
  refine GoKit.dup G d13_98 rfl (pc' := 99) rfl ?_
  refine GoKit.bipush G (16 : Int32) d13_99 rfl (pc' := 101) rfl ?_
  refine GoKit.bipush G (103 : Int32) d13_101 rfl (pc' := 103) rfl ?_
  refine GoKit.castI G d13_103 A58 (i := 16) rfl (by decide) (Nat.le_of_ble_eq_true rfl) rfl (List.Mem.head _) (pc' := 104) rfl (fun h62 W60 A61 => ?_)
  change IA Z h62 a8 .char [(104 : Int32), (116 : Int32), (116 : Int32), (112 : Int32), (58 : Int32), (47 : Int32), (47 : Int32), (119 : Int32), (119 : Int32), (119 : Int32), (46 : Int32), (119 : Int32), (51 : Int32), (46 : Int32), (111 : Int32), (114 : Int32), (103 : Int32), 0, 0, 0, 0, 0, 0, 0, 0, 0, 0, 0, 0, 0, 0, 0, 0, 0, 0, 0, 0] at A61
  refine GoKit.dup G d13_104 rfl (pc' := 105) rfl ?_
  refine GoKit.bipush G (17 : Int32) d13_105 rfl (pc' := 107) rfl ?_
  refine GoKit.bipush G (47 : Int32) d13_107 rfl (pc' := 109) rfl ?_
  refine GoKit.castI G d13_109 A61 (i := 17) rfl (by decide) (Nat.le_of_ble_eq_true rfl) rfl (List.Mem.head _) (pc' := 110) rfl (fun h65 W63 A64 => ?_)
  change IA Z h65 a8 .char [(104 : Int32), (116 : Int32), (116 : Int32), (112 : Int32), (58 : Int32), (47 : Int32), (47 : Int32), (119 : Int32), (119 : Int32), (119 : Int32), (46 : Int32), (119 : Int32), (51 : Int32), (46 : Int32), (111 : Int32), (114 : Int32), (103 : Int32), (47 : Int32), 0, 0, 0, 0, 0, 0, 0, 0, 0, 0, 0, 0, 0, 0, 0, 0, 0, 0, 0] at A64
  refine GoKit.dup G d13_110 rfl (pc' := 111) rfl ?_
  refine GoKit.bipush G (18 : Int32) d13_111 rfl (pc' := 113) rfl ?_
  refine GoKit.bipush G (50 : Int32) d13_113 rfl (pc' := 115) rfl ?_
  refine GoKit.castI G d13_115 A64 (i := 18) rfl (by decide) (Nat.le_of_ble_eq_true rfl) rfl (List.Mem.head _) (pc' := 116) rfl (fun h68 W66 A67 => ?_)
  change IA Z h68 a8 .char [(104 : Int32), (116 : Int32), (116 : Int32), (112 : Int32), (58 : Int32), (47 : Int32), (47 : Int32), (119 : Int32), (119 : Int32), (119 : Int32), (46 : Int32), (119 : Int32), (51 : Int32), (46 : Int32), (111 : Int32), (114 : Int32), (103 : Int32), (47 : Int32), (50 : Int32), 0, 0, 0, 0, 0, 0, 0, 0, 0, 0, 0, 0, 0, 0, 0, 0, 0, 0] at A67
  refine GoKit.dup G d13_116 rfl (pc' := 117) rfl ?_
  refine GoKit.bipush G (19 : Int32) d13_117 rfl (pc' := 119) rfl ?_
  refine GoKit.bipush G (48 : Int32) d13_119 rfl (pc' := 121) rfl ?_
  refine GoKit.castI G d13_121 A67 (i := 19) rfl (by decide) (Nat.le_of_ble_eq_true rfl) rfl (List.Mem.head _) (pc' := 122) rfl (fun h71 W69 A70 => ?_)
  change IA Z h71 a8 .char [(104 : Int32), (116 : Int32), (116 : Int32), (112 : Int32), (58 : Int32), (47 : Int32), (47 : Int32), (119 : Int32), (119 : Int32), (119 : Int32), (46 : Int32), (119 : Int32), (51 : Int32), (46 : Int32), (111 : Int32), (114 : Int32), (103 : Int32), (47 : Int32), (50 : Int32), (48 : Int32), 0, 0, 0, 0, 0, 0, 0, 0, 0, 0, 0, 0, 0, 0, 0, 0, 0] at A70
  refine GoKit.dup G d13_122 rfl (pc' := 123) rfl ?_
  refine GoKit.bipush G (20 : Int32) d13_123 rfl (pc' := 125) rfl ?_
  refine GoKit.bipush G (48 : Int32) d13_125 rfl (pc' := 127) rfl ?_
  refine GoKit.castI G d13_127 A70 (i := 20) rfl (by decide) (Nat.le_of_ble_eq_true rfl) rfl (List.Mem.head _) (pc' := 128) rfl (fun h74 W72 A73 => ?_)
  change IA Z h74 a8 .char [(104 : Int32), (116 : Int32), (116 : Int32), (112 : Int32), (58 : Int32), (47 : Int32), (47 : Int32), (119 : Int32), (119 : Int32), (119 : Int32), (46 : Int32), (119 : Int32), (51 : Int32), (46 : Int32), (111 : Int32), (114 : Int32), (103 : Int32), (47 : Int32), (50 : Int32), (48 : Int32), (48 : Int32), 0, 0, 0, 0, 0, 0, 0, 0, 0, 0, 0, 0, 0, 0, 0, 0] at A73
  refine GoKit.dup G d13_128 rfl (pc' := 129) rfl ?_
  refine GoKit.bipush G (21 : Int32) d13_129 rfl (pc' := 131) rfl ?_
  refine GoKit.bipush G (50 : Int32) d13_131 rfl (pc' := 133) rfl ?_
  refine GoKit.castI G d13_133 A73 (i := 21) rfl (by decide) (Nat.le_of_ble_eq_true rfl) rfl (List.Mem.head _) (pc' := 134) rfl (fun h77 W75 A76 => ?_)
  change IA Z h77 a8 .char [(104 : Int32), (116 : Int32), (116 : Int32), (112 : Int32), (58 : Int32), (47 : Int32), (47 : Int32), (119 : Int32), (119 : Int32), (119 : Int32), (46 : Int32), (119 : Int32), (51 : Int32), (46 : Int32), (111 : Int32), (114 : Int32), (103 : Int32), (47 : Int32), (50 : Int32), (48 : Int32), (48 : Int32), (50 : Int32), 0, 0, 0, 0, 0, 0, 0, 0, 0, 0, 0, 0, 0, 0, 0] at A76
  refine GoKit.dup G d13_134 rfl (pc' := 135) rfl ?_
  refine GoKit.bipush G (22 : Int32) d13_135 rfl (pc' := 137) rfl ?_
  refine GoKit.bipush G (47 : Int32) d13_137 rfl (pc' := 139) rfl ?_
  refine GoKit.castI G d13_139 A76 (i := 22) rfl (by decide) (Nat.le_of_ble_eq_true rfl) rfl (List.Mem.head _) (pc' := 140) rfl (fun h80 W78 A79 => ?_)
  change IA Z h80 a8 .char [(104 : Int32), (116 : Int32), (116 : Int32), (112 : Int32), (58 : Int32), (47 : Int32), (47 : Int32), (119 : Int32), (119 : Int32), (119 : Int32), (46 : Int32), (119 : Int32), (51 : Int32), (46 : Int32), (111 : Int32), (114 : Int32), (103 : Int32), (47 : Int32), (50 : Int32), (48 : Int32), (48 : Int32), (50 : Int32), (47 : Int32), 0, 0, 0, 0, 0, 0, 0, 0, 0, 0, 0, 0, 0, 0] at A79
  refine GoKit.dup G d13_140 rfl (pc' := 141) rfl ?_
  refine GoKit.bipush G (23 : Int32) d13_141 rfl (pc' := 143) rfl ?_
  refine GoKit.bipush G (48 : Int32) d13_143 rfl (pc' := 145) rfl ?_
  refine GoKit.castI G d13_145 A79 (i := 23) rfl (by decide) (Nat.le_of_ble_eq_true rfl) rfl (List.Mem.head _) (pc' := 146) rfl (fun h83 W81 A82 => ?_)
  change IA Z h83 a8 .char [(104 : Int32), (116 : Int32), (116 : Int32), (112 : Int32), (58 : Int32), (47 : Int32), (47 : Int32), (119 : Int32), (119 : Int32), (119 : Int32), (46 : Int32), (119 : Int32), (51 : Int32), (46 : Int32), (111 : Int32), (114 : Int32), (103 : Int32), (47 : Int32), (50 : Int32), (48 : Int32), (48 : Int32), (50 : Int32), (47 : Int32), (48 : Int32), 0, 0, 0, 0, 0, 0, 0, 0, 0, 0, 0, 0, 0] at A82
  refine GoKit.dup G d13_146 rfl (pc' := 147) rfl ?_
  refine GoKit.bipush G (24 : Int32) d13_147 rfl (pc' := 149) rfl ?_
  refine GoKit.bipush G (55 : Int32) d13_149 rfl (pc' := 151) rfl ?_
  refine GoKit.castI G d13_151 A82 (i := 24) rfl (by decide) (Nat.le_of_ble_eq_true rfl) rfl (List.Mem.head _) (pc' := 152) rfl (fun h86 W84 A85 => ?_)
  change IA Z h86 a8 .char [(104 : Int32), (116 : Int32), (116 : Int32), (112 : Int32), (58 : Int32), (47 : Int32), (47 : Int32), (119 : Int32), (119 : Int32), (119 : Int32), (46 : Int32), (119 : Int32), (51 : Int32), (46 : Int32), (111 : Int32), (114 : Int32), (103 : Int32), (47 : Int32), (50 : Int32), (48 : Int32), (48 : Int32), (50 : Int32), (47 : Int32), (48 : Int32), (55 : Int32), 0, 0, 0, 0, 0, 0, 0, 0, 0, 0, 0, 0] at A85
  refine GoKit.dup G d13_152 rfl (pc' := 153) rfl ?_
  refine GoKit.bipush G (25 : Int32) d13_153 rfl (pc' := 155) rfl ?_
  refine GoKit.bipush G (47 : Int32) d13_155 rfl (pc' := 157) rfl ?_
  refine GoKit.castI G d13_157 A85 (i := 25) rfl (by decide) (Nat.le_of_ble_eq_true rfl) rfl (List.Mem.head _) (pc' := 158) rfl (fun h89 W87 A88 => ?_)
  change IA Z h89 a8 .char [(104 : Int32), (116 : Int32), (116 : Int32), (112 : Int32), (58 : Int32), (47 : Int32), (47 : Int32), (119 : Int32), (119 : Int32), (119 : Int32), (46 : Int32), (119 : Int32), (51 : Int32), (46 : Int32), (111 : Int32), (114 : Int32), (103 : Int32), (47 : Int32), (50 : Int32), (48 : Int32), (48 : Int32), (50 : Int32), (47 : Int32), (48 : Int32), (55 : Int32), (47 : Int32), 0, 0, 0, 0, 0, 0, 0, 0, 0, 0, 0] at A88
  refine GoKit.dup G d13_158 rfl (pc' := 159) rfl ?_
  refine GoKit.bipush G (26 : Int32) d13_159 rfl (pc' := 161) rfl ?_
  refine GoKit.bipush G (111 : Int32) d13_161 rfl (pc' := 163) rfl ?_
  refine GoKit.castI G d13_163 A88 (i := 26) rfl (by decide) (Nat.le_of_ble_eq_true rfl) rfl (List.Mem.head _) (pc' := 164) rfl (fun h92 W90 A91 => ?_)
  change IA Z h92 a8 .char [(104 : Int32), (116 : Int32), (116 : Int32), (112 : Int32), (58 : Int32), (47 : Int32), (47 : Int32), (119 : Int32), (119 : Int32), (119 : Int32), (46 : Int32), (119 : Int32), (51 : Int32), (46 : Int32), (111 : Int32), (114 : Int32), (103 : Int32), (47 : Int32), (50 : Int32), (48 : Int32), (48 : Int32), (50 : Int32), (47 : Int32), (48 : Int32), (55 : Int32), (47 : Int32), (111 : Int32), 0, 0, 0, 0, 0, 0, 0, 0, 0, 0] at A91
  refine GoKit.dup G d13_164 rfl (pc' := 165) rfl ?_
  refine GoKit.bipush G (27 : Int32) d13_165 rfl (pc' := 167) rfl ?_
  refine GoKit.bipush G (119 : Int32) d13_167 rfl (pc' := 169) rfl ?_
  refine GoKit.castI G d13_169 A91 (i := 27) rfl (by decide) (Nat.le_of_ble_eq_true rfl) rfl (List.Mem.head _) (pc' := 170) rfl (fun h95 W93 A94 => ?_)
  change IA Z h95 a8 .char [(104 : Int32), (116 : Int32), (116 : Int32), (112 : Int32), (58 : Int32), (47 : Int32), (47 : Int32), (119 : Int32), (119 : Int32), (119 : Int32), (46 : Int32), (119 : Int32), (51 : Int32), (46 : Int32), (111 : Int32), (114 : Int32), (103 : Int32), (47 : Int32), (50 : Int32), (48 : Int32), (48 : Int32), (50 : Int32), (47 : Int32), (48 : Int32), (55 : Int32), (47 : Int32), (111 : Int32), (119 : Int32), 0, 0, 0, 0, 0, 0, 0, 0, 0] at A94
  refine GoKit.dup G d13_170 rfl (pc' := 171) rfl ?_
  refine GoKit.bipush G (28 : Int32) d13_171 rfl (pc' := 173) rfl ?_
  refine GoKit.bipush G (108 : Int32) d13_173 rfl (pc' := 175) rfl ?_
  refine GoKit.castI G d13_175 A94 (i := 28) rfl (by decide) (Nat.le_of_ble_eq_true rfl) rfl (List.Mem.head _) (pc' := 176) rfl (fun h98 W96 A97 => ?_)
  change IA Z h98 a8 .char [(104 : Int32), (116 : Int32), (116 : Int32), (112 : Int32), (58 : Int32), (47 : Int32), (47 : Int32), (119 : Int32), (119 : Int32), (119 : Int32), (46 : Int32), (119 : Int32), (51 : Int32), (46 : Int32), (111 : Int32), (114 : Int32), (103 : Int32), (47 : Int32), (50 : Int32), (48 : Int32), (48 : Int32), (50 : Int32), (47 : Int32), (48 : Int32), (55 : Int32), (47 : Int32), (111 : Int32), (119 : Int32), (108 : Int32), 0, 0, 0, 0, 0, 0, 0, 0] at A97
  refine GoKit.dup G d13_176 rfl (pc' := 177) rfl ?_
  refine GoKit.bipush G (29 : Int32) d13_177 rfl (pc' := 179) rfl ?_
  refine GoKit.bipush G (35 : Int32) d13_179 rfl (pc' := 181) rfl ?_
  refine GoKit.castI G d13_181 A97 (i := 29) rfl (by decide) (Nat.le_of_ble_eq_true rfl) rfl (List.Mem.head _) (pc' := 182) rfl (fun h101 W99 A100 => ?_)
  change IA Z h101 a8 .char [(104 : Int32), (116 : Int32), (116 : Int32), (112 : Int32), (58 : Int32), (47 : Int32), (47 : Int32), (119 : Int32), (119 : Int32), (119 : Int32), (46 : Int32), (119 : Int32), (51 : Int32), (46 : Int32), (111 : Int32), (114 : Int32), (103 : Int32), (47 : Int32), (50 : Int32), (48 : Int32), (48 : Int32), (50 : Int32), (47 : Int32), (48 : Int32), (55 : Int32), (47 : Int32), (111 : Int32), (119 : Int32), (108 : Int32), (35 : Int32), 0, 0, 0, 0, 0, 0, 0] at A100
  refine GoKit.dup G d13_182 rfl (pc' := 183) rfl ?_
  refine GoKit.bipush G (30 : Int32) d13_183 rfl (pc' := 185) rfl ?_
  refine GoKit.bipush G (78 : Int32) d13_185 rfl (pc' := 187) rfl ?_
  refine GoKit.castI G d13_187 A100 (i := 30) rfl (by decide) (Nat.le_of_ble_eq_true rfl) rfl (List.Mem.head _) (pc' := 188) rfl (fun h104 W102 A103 => ?_)
  change IA Z h104 a8 .char [(104 : Int32), (116 : Int32), (116 : Int32), (112 : Int32), (58 : Int32), (47 : Int32), (47 : Int32), (119 : Int32), (119 : Int32), (119 : Int32), (46 : Int32), (119 : Int32), (51 : Int32), (46 : Int32), (111 : Int32), (114 : Int32), (103 : Int32), (47 : Int32), (50 : Int32), (48 : Int32), (48 : Int32), (50 : Int32), (47 : Int32), (48 : Int32), (55 : Int32), (47 : Int32), (111 : Int32), (119 : Int32), (108 : Int32), (35 : Int32), (78 : Int32), 0, 0, 0, 0, 0, 0] at A103
  refine GoKit.dup G d13_188 rfl (pc' := 189) rfl ?_
  refine GoKit.bipush G (31 : Int32) d13_189 rfl (pc' := 191) rfl ?_
  refine GoKit.bipush G (111 : Int32) d13_191 rfl (pc' := 193) rfl ?_
  refine GoKit.castI G d13_193 A103 (i := 31) rfl (by decide) (Nat.le_of_ble_eq_true rfl) rfl (List.Mem.head _) (pc' := 194) rfl (fun h107 W105 A106 => ?_)
  change IA Z h107 a8 .char [(104 : Int32), (116 : Int32), (116 : Int32), (112 : Int32), (58 : Int32), (47 : Int32), (47 : Int32), (119 : Int32), (119 : Int32), (119 : Int32), (46 : Int32), (119 : Int32), (51 : Int32), (46 : Int32), (111 : Int32), (114 : Int32), (103 : Int32), (47 : Int32), (50 : Int32), (48 : Int32), (48 : Int32), (50 : Int32), (47 : Int32), (48 : Int32), (55 : Int32), (47 : Int32), (111 : Int32), (119 : Int32), (108 : Int32), (35 : Int32), (78 : Int32), (111 : Int32), 0, 0, 0, 0, 0] at A106
  refine GoKit.dup G d13_194 rfl (pc' := 195) rfl ?_
  refine GoKit.bipush G (32 : Int32) d13_195 rfl (pc' := 197) rfl ?_
  refine GoKit.bipush G (116 : Int32) d13_197 rfl (pc' := 199) rfl ?_
  refine GoKit.castI G d13_199 A106 (i := 32) rfl (by decide) (Nat.le_of_ble_eq_true rfl) rfl (List.Mem.head _) (pc' := 200) rfl (fun h110 W108 A109 => ?_)
  change IA Z h110 a8 .char [(104 : Int32), (116 : Int32), (116 : Int32), (112 : Int32), (58 : Int32), (47 : Int32), (47 : Int32), (119 : Int32), (119 : Int32), (119 : Int32), (46 : Int32), (119 : Int32), (51 : Int32), (46 : Int32), (111 : Int32), (114 : Int32), (103 : Int32), (47 : Int32), (50 : Int32), (48 : Int32), (48 : Int32), (50 : Int32), (47 : Int32), (48 : Int32), (55 : Int32), (47 : Int32), (111 : Int32), (119 : Int32), (108 : Int32), (35 : Int32), (78 : Int32), (111 : Int32), (116 : Int32), 0, 0, 0, 0] at A109
  refine GoKit.dup G d13_200 rfl (pc' := 201) rfl ?_
  refine GoKit.bipush G (33 : Int32) d13_201 rfl (pc' := 203) rfl ?_
  refine GoKit.bipush G (104 : Int32) d13_203 rfl (pc' := 205) rfl ?_
  refine GoKit.castI G d13_205 A109 (i := 33) rfl (by decide) (Nat.le_of_ble_eq_true rfl) rfl (List.Mem.head _) (pc' := 206) rfl (fun h113 W111 A112 => ?_)
  change IA Z h113 a8 .char [(104 : Int32), (116 : Int32), (116 : Int32), (112 : Int32), (58 : Int32), (47 : Int32), (47 : Int32), (119 : Int32), (119 : Int32), (119 : Int32), (46 : Int32), (119 : Int32), (51 : Int32), (46 : Int32), (111 : Int32), (114 : Int32), (103 : Int32), (47 : Int32), (50 : Int32), (48 : Int32), (48 : Int32), (50 : Int32), (47 : Int32), (48 : Int32), (55 : Int32), (47 : Int32), (111 : Int32), (119 : Int32), (108 : Int32), (35 : Int32), (78 : Int32), (111 : Int32), (116 : Int32), (104 : Int32), 0, 0, 0] at A112
  refine GoKit.dup G d13_206 rfl (pc' := 207) rfl ?_
  refine GoKit.bipush G (34 : Int32) d13_207 rfl (pc' := 209) rfl ?_
  refine GoKit.bipush G (105 : Int32) d13_209 rfl (pc' := 211) rfl ?_
  refine GoKit.castI G d13_211 A112 (i := 34) rfl (by decide) (Nat.le_of_ble_eq_true rfl) rfl (List.Mem.head _) (pc' := 212) rfl (fun h116 W114 A115 => ?_)
  change IA Z h116 a8 .char [(104 : Int32), (116 : Int32), (116 : Int32), (112 : Int32), (58 : Int32), (47 : Int32), (47 : Int32), (119 : Int32), (119 : Int32), (119 : Int32), (46 : Int32), (119 : Int32), (51 : Int32), (46 : Int32), (111 : Int32), (114 : Int32), (103 : Int32), (47 : Int32), (50 : Int32), (48 : Int32), (48 : Int32), (50 : Int32), (47 : Int32), (48 : Int32), (55 : Int32), (47 : Int32), (111 : Int32), (119 : Int32), (108 : Int32), (35 : Int32), (78 : Int32), (111 : Int32), (116 : Int32), (104 : Int32), (105 : Int32), 0, 0] at A115
  refine GoKit.dup G d13_212 rfl (pc' := 213) rfl ?_
  refine GoKit.bipush G (35 : Int32) d13_213 rfl (pc' := 215) rfl ?_
  refine GoKit.bipush G (110 : Int32) d13_215 rfl (pc' := 217) rfl ?_
  refine GoKit.castI G d13_217 A115 (i := 35) rfl (by decide) (Nat.le_of_ble_eq_true rfl) rfl (List.Mem.head _) (pc' := 218) rfl (fun h119 W117 A118 => ?_)
  change IA Z h119 a8 .char [(104 : Int32), (116 : Int32), (116 : Int32), (112 : Int32), (58 : Int32), (47 : Int32), (47 : Int32), (119 : Int32), (119 : Int32), (119 : Int32), (46 : Int32), (119 : Int32), (51 : Int32), (46 : Int32), (111 : Int32), (114 : Int32), (103 : Int32), (47 : Int32), (50 : Int32), (48 : Int32), (48 : Int32), (50 : Int32), (47 : Int32), (48 : Int32), (55 : Int32), (47 : Int32), (111 : Int32), (119 : Int32), (108 : Int32), (35 : Int32), (78 : Int32), (111 : Int32), (116 : Int32), (104 : Int32), (105 : Int32), (110 : Int32), 0] at A118
  refine GoKit.dup G d13_218 rfl (pc' := 219) rfl ?_
  refine GoKit.bipush G (36 : Int32) d13_219 rfl (pc' := 221) rfl ?_
  refine GoKit.iloadN G d13_221 rfl (pc' := 222) rfl ?_
  refine GoKit.castI G d13_222 A118 (i := 36) rfl (by decide) (Nat.le_of_ble_eq_true rfl) (lat_nar H) (List.Mem.head _) (pc' := 223) rfl (fun h122 W120 A121 => ?_)
  change IA Z h122 a8 .char [(104 : Int32), (116 : Int32), (116 : Int32), (112 : Int32), (58 : Int32), (47 : Int32), (47 : Int32), (119 : Int32), (119 : Int32), (119 : Int32), (46 : Int32), (119 : Int32), (51 : Int32), (46 : Int32), (111 : Int32), (114 : Int32), (103 : Int32), (47 : Int32), (50 : Int32), (48 : Int32), (48 : Int32), (50 : Int32), (47 : Int32), (48 : Int32), (55 : Int32), (47 : Int32), (111 : Int32), (119 : Int32), (108 : Int32), (35 : Int32), (78 : Int32), (111 : Int32), (116 : Int32), (104 : Int32), (105 : Int32), (110 : Int32), x] at A121
  have hl123 : ∀ c ∈ ([(104 : Int32), (116 : Int32), (116 : Int32), (112 : Int32), (58 : Int32), (47 : Int32), (47 : Int32), (119 : Int32), (119 : Int32), (119 : Int32), (46 : Int32), (119 : Int32), (51 : Int32), (46 : Int32), (111 : Int32), (114 : Int32), (103 : Int32), (47 : Int32), (50 : Int32), (48 : Int32), (48 : Int32), (50 : Int32), (47 : Int32), (48 : Int32), (55 : Int32), (47 : Int32), (111 : Int32), (119 : Int32), (108 : Int32), (35 : Int32), (78 : Int32), (111 : Int32), (116 : Int32), (104 : Int32), (105 : Int32), (110 : Int32), x] : List Int32), 0 ≤ c.toInt ∧ c.toInt < 256 := by
    intro c hc
    simp only [List.mem_cons, List.not_mem_nil, or_false] at hc
    rcases hc with rfl | rfl | rfl | rfl | rfl | rfl | rfl | rfl | rfl | rfl | rfl | rfl | rfl | rfl | rfl | rfl | rfl | rfl | rfl | rfl | rfl | rfl | rfl | rfl | rfl | rfl | rfl | rfl | rfl | rfl | rfl | rfl | rfl | rfl | rfl | rfl | rfl
    · exact (by decide)
    · exact (by decide)
    · exact (by decide)
    · exact (by decide)
    · exact (by decide)
    · exact (by decide)
    · exact (by decide)
    · exact (by decide)
    · exact (by decide)
    · exact (by decide)
    · exact (by decide)
    · exact (by decide)
    · exact (by decide)
    · exact (by decide)
    · exact (by decide)
    · exact (by decide)
    · exact (by decide)
    · exact (by decide)
    · exact (by decide)
    · exact (by decide)
    · exact (by decide)
    · exact (by decide)
    · exact (by decide)
    · exact (by decide)
    · exact (by decide)
    · exact (by decide)
    · exact (by decide)
    · exact (by decide)
    · exact (by decide)
    · exact (by decide)
    · exact (by decide)
    · exact (by decide)
    · exact (by decide)
    · exact (by decide)
    · exact (by decide)
    · exact (by decide)
    · exact H
  refine GoKit.callSpecial G d13_223 rfl (wi hw 9 rfl) (wi hw 10 rfl) (wi hw 7 rfl) (wi hw 11 rfl) (by decide) (owc := [a1]) (W := 1) (argsL := [(.ref a8)]) (rest := [(.ref a1)]) (con_strInit l hw ((((((((((((((((((((((((((((((((((((((X3.ext E9).wr W12).wr W15).wr W18).wr W21).wr W24).wr W27).wr W30).wr W33).wr W36).wr W39).wr W42).wr W45).wr W48).wr W51).wr W54).wr W57).wr W60).wr W63).wr W66).wr W69).wr W72).wr W75).wr W78).wr W81).wr W84).wr W87).wr W90).wr W93).wr W96).wr W99).wr W102).wr W105).wr W108).wr W111).wr W114).wr W117).wr W120) ((((((((((((((((((((((((((((((((((((((F7.ext E9).other W12 (Or.inl (Nat.ne_of_lt (Nat.lt_of_lt_of_eq (X3).lt ga8.symm)))).other W15 (Or.inl (Nat.ne_of_lt (Nat.lt_of_lt_of_eq (X3).lt ga8.symm)))).other W18 (Or.inl (Nat.ne_of_lt (Nat.lt_of_lt_of_eq (X3).lt ga8.symm)))).other W21 (Or.inl (Nat.ne_of_lt (Nat.lt_of_lt_of_eq (X3).lt ga8.symm)))).other W24 (Or.inl (Nat.ne_of_lt (Nat.lt_of_lt_of_eq (X3).lt ga8.symm)))).other W27 (Or.inl (Nat.ne_of_lt (Nat.lt_of_lt_of_eq (X3).lt ga8.symm)))).other W30 (Or.inl (Nat.ne_of_lt (Nat.lt_of_lt_of_eq (X3).lt ga8.symm)))).other W33 (Or.inl (Nat.ne_of_lt (Nat.lt_of_lt_of_eq (X3).lt ga8.symm)))).other W36 (Or.inl (Nat.ne_of_lt (Nat.lt_of_lt_of_eq (X3).lt ga8.symm)))).other W39 (Or.inl (Nat.ne_of_lt (Nat.lt_of_lt_of_eq (X3).lt ga8.symm)))).other W42 (Or.inl (Nat.ne_of_lt (Nat.lt_of_lt_of_eq (X3).lt ga8.symm)))).other W45 (Or.inl (Nat.ne_of_lt (Nat.lt_of_lt_of_eq (X3).lt ga8.symm)))).other W48 (Or.inl (Nat.ne_of_lt (Nat.lt_of_lt_of_eq (X3).lt ga8.symm)))).other W51 (Or.inl (Nat.ne_of_lt (Nat.lt_of_lt_of_eq (X3).lt ga8.symm)))).other W54 (Or.inl (Nat.ne_of_lt (Nat.lt_of_lt_of_eq (X3).lt ga8.symm)))).other W57 (Or.inl (Nat.ne_of_lt (Nat.lt_of_lt_of_eq (X3).lt ga8.symm)))).other W60 (Or.inl (Nat.ne_of_lt (Nat.lt_of_lt_of_eq (X3).lt ga8.symm)))).other W63 (Or.inl (Nat.ne_of_lt (Nat.lt_of_lt_of_eq (X3).lt ga8.symm)))).other W66 (Or.inl (Nat.ne_of_lt (Nat.lt_of_lt_of_eq (X3).lt ga8.symm)))).other W69 (Or.inl (Nat.ne_of_lt (Nat.lt_of_lt_of_eq (X3).lt ga8.symm)))).other W72 (Or.inl (Nat.ne_of_lt (Nat.lt_of_lt_of_eq (X3).lt ga8.symm)))).other W75 (Or.inl (Nat.ne_of_lt (Nat.lt_of_lt_of_eq (X3).lt ga8.symm)))).other W78 (Or.inl (Nat.ne_of_lt (Nat.lt_of_lt_of_eq (X3).lt ga8.symm)))).other W81 (Or.inl (Nat.ne_of_lt (Nat.lt_of_lt_of_eq (X3).lt ga8.symm)))).other W84 (Or.inl (Nat.ne_of_lt (Nat.lt_of_lt_of_eq (X3).lt ga8.symm)))).other W87 (Or.inl (Nat.ne_of_lt (Nat.lt_of_lt_of_eq (X3).lt ga8.symm)))).other W90 (Or.inl (Nat.ne_of_lt (Nat.lt_of_lt_of_eq (X3).lt ga8.symm)))).other W93 (Or.inl (Nat.ne_of_lt (Nat.lt_of_lt_of_eq (X3).lt ga8.symm)))).other W96 (Or.inl (Nat.ne_of_lt (Nat.lt_of_lt_of_eq (X3).lt ga8.symm)))).other W99 (Or.inl (Nat.ne_of_lt (Nat.lt_of_lt_of_eq (X3).lt ga8.symm)))).other W102 (Or.inl (Nat.ne_of_lt (Nat.lt_of_lt_of_eq (X3).lt ga8.symm)))).other W105 (Or.inl (Nat.ne_of_lt (Nat.lt_of_lt_of_eq (X3).lt ga8.symm)))).other W108 (Or.inl (Nat.ne_of_lt (Nat.lt_of_lt_of_eq (X3).lt ga8.symm)))).other W111 (Or.inl (Nat.ne_of_lt (Nat.lt_of_lt_of_eq (X3).lt ga8.symm)))).other W114 (Or.inl (Nat.ne_of_lt (Nat.lt_of_lt_of_eq (X3).lt ga8.symm)))).other W117 (Or.inl (Nat.ne_of_lt (Nat.lt_of_lt_of_eq (X3).lt ga8.symm)))).other W120 (Or.inl (Nat.ne_of_lt (Nat.lt_of_lt_of_eq (X3).lt ga8.symm)))) ((((((((((((((((((((((((((((((((((((((F6.ext E9).other W12 (Or.inl (Nat.ne_of_lt (Nat.lt_of_lt_of_eq (X3).lt ga8.symm)))).other W15 (Or.inl (Nat.ne_of_lt (Nat.lt_of_lt_of_eq (X3).lt ga8.symm)))).other W18 (Or.inl (Nat.ne_of_lt (Nat.lt_of_lt_of_eq (X3).lt ga8.symm)))).other W21 (Or.inl (Nat.ne_of_lt (Nat.lt_of_lt_of_eq (X3).lt ga8.symm)))).other W24 (Or.inl (Nat.ne_of_lt (Nat.lt_of_lt_of_eq (X3).lt ga8.symm)))).other W27 (Or.inl (Nat.ne_of_lt (Nat.lt_of_lt_of_eq (X3).lt ga8.symm)))).other W30 (Or.inl (Nat.ne_of_lt (Nat.lt_of_lt_of_eq (X3).lt ga8.symm)))).other W33 (Or.inl (Nat.ne_of_lt (Nat.lt_of_lt_of_eq (X3).lt ga8.symm)))).other W36 (Or.inl (Nat.ne_of_lt (Nat.lt_of_lt_of_eq (X3).lt ga8.symm)))).other W39 (Or.inl (Nat.ne_of_lt (Nat.lt_of_lt_of_eq (X3).lt ga8.symm)))).other W42 (Or.inl (Nat.ne_of_lt (Nat.lt_of_lt_of_eq (X3).lt ga8.symm)))).other W45 (Or.inl (Nat.ne_of_lt (Nat.lt_of_lt_of_eq (X3).lt ga8.symm)))).other W48 (Or.inl (Nat.ne_of_lt (Nat.lt_of_lt_of_eq (X3).lt ga8.symm)))).other W51 (Or.inl (Nat.ne_of_lt (Nat.lt_of_lt_of_eq (X3).lt ga8.symm)))).other W54 (Or.inl (Nat.ne_of_lt (Nat.lt_of_lt_of_eq (X3).lt ga8.symm)))).other W57 (Or.inl (Nat.ne_of_lt (Nat.lt_of_lt_of_eq (X3).lt ga8.symm)))).other W60 (Or.inl (Nat.ne_of_lt (Nat.lt_of_lt_of_eq (X3).lt ga8.symm)))).other W63 (Or.inl (Nat.ne_of_lt (Nat.lt_of_lt_of_eq (X3).lt ga8.symm)))).other W66 (Or.inl (Nat.ne_of_lt (Nat.lt_of_lt_of_eq (X3).lt ga8.symm)))).other W69 (Or.inl (Nat.ne_of_lt (Nat.lt_of_lt_of_eq (X3).lt ga8.symm)))).other W72 (Or.inl (Nat.ne_of_lt (Nat.lt_of_lt_of_eq (X3).lt ga8.symm)))).other W75 (Or.inl (Nat.ne_of_lt (Nat.lt_of_lt_of_eq (X3).lt ga8.symm)))).other W78 (Or.inl (Nat.ne_of_lt (Nat.lt_of_lt_of_eq (X3).lt ga8.symm)))).other W81 (Or.inl (Nat.ne_of_lt (Nat.lt_of_lt_of_eq (X3).lt ga8.symm)))).other W84 (Or.inl (Nat.ne_of_lt (Nat.lt_of_lt_of_eq (X3).lt ga8.symm)))).other W87 (Or.inl (Nat.ne_of_lt (Nat.lt_of_lt_of_eq (X3).lt ga8.symm)))).other W90 (Or.inl (Nat.ne_of_lt (Nat.lt_of_lt_of_eq (X3).lt ga8.symm)))).other W93 (Or.inl (Nat.ne_of_lt (Nat.lt_of_lt_of_eq (X3).lt ga8.symm)))).other W96 (Or.inl (Nat.ne_of_lt (Nat.lt_of_lt_of_eq (X3).lt ga8.symm)))).other W99 (Or.inl (Nat.ne_of_lt (Nat.lt_of_lt_of_eq (X3).lt ga8.symm)))).other W102 (Or.inl (Nat.ne_of_lt (Nat.lt_of_lt_of_eq (X3).lt ga8.symm)))).other W105 (Or.inl (Nat.ne_of_lt (Nat.lt_of_lt_of_eq (X3).lt ga8.symm)))).other W108 (Or.inl (Nat.ne_of_lt (Nat.lt_of_lt_of_eq (X3).lt ga8.symm)))).other W111 (Or.inl (Nat.ne_of_lt (Nat.lt_of_lt_of_eq (X3).lt ga8.symm)))).other W114 (Or.inl (Nat.ne_of_lt (Nat.lt_of_lt_of_eq (X3).lt ga8.symm)))).other W117 (Or.inl (Nat.ne_of_lt (Nat.lt_of_lt_of_eq (X3).lt ga8.symm)))).other W120 (Or.inl (Nat.ne_of_lt (Nat.lt_of_lt_of_eq (X3).lt ga8.symm)))) A121 (Nat.le_of_ble_eq_true rfl) hl123 (by simp) HC) rfl (lenOf pd_5 rfl) rfl (by decide) (Nat.le_of_eq rfl) (by decide) (by decide) (by decide) (by intro x hx; simp only [List.mem_cons, List.not_mem_nil, or_false] at hx ⊢; simp [hx]) (cells' := 3) (slots' := 78) rfl rfl (pc' := 226) rfl (fun r124 h127 q125 K126 => ?_)
  obtain ⟨rfl, S128⟩ := q125
  show Run _ _ _ _ _ _ _ _ _ _ _ _ _ _ _ _ _ _ _ _ (mkF m 226 #[.val (.int x)] [(.ref a1)])
  refine GoKit.retRef G d13_226 rfl rfl rfl (by decide) (by decide) ?_
  exact ⟨_, _, rfl, S128⟩
theorem d17_0 : decode method_4_code 0 = .ok (.iload_n 1, 1) := by decide +kernel
theorem d17_1 : decode method_4_code 1 = .ok (.sipush 255, 3) := by decide +kernel
theorem d17_4 : decode method_4_code 4 = .ok (.iand, 1) := by decide +kernel
theorem d17_5 : decode method_4_code 5 = .ok (.i2c, 1) := by decide +kernel
theorem d17_6 : decode method_4_code 6 = .ok (.istore 4, 2) := by decide +kernel
theorem d17_8 : decode method_4_code 8 = .ok (.iload_n 2, 1) := by decide +kernel
theorem d17_9 : decode method_4_code 9 = .ok (.sipush 255, 3) := by decide +kernel
theorem d17_12 : decode method_4_code 12 = .ok (.iand, 1) := by decide +kernel
theorem d17_13 : decode method_4_code 13 = .ok (.i2c, 1) := by decide +kernel
theorem d17_14 : decode method_4_code 14 = .ok (.istore 5, 2) := by decide +kernel
theorem d17_16 : decode method_4_code 16 = .ok (.iload_n 3, 1) := by decide +kernel
theorem d17_17 : decode method_4_code 17 = .ok (.sipush 255, 3) := by decide +kernel
theorem d17_20 : decode method_4_code 20 = .ok (.iand, 1) := by decide +kernel
theorem d17_21 : decode method_4_code 21 = .ok (.i2c, 1) := by decide +kernel
theorem d17_22 : decode method_4_code 22 = .ok (.istore 6, 2) := by decide +kernel
theorem d17_24 : decode method_4_code 24 = .ok (.iload_n 0, 1) := by decide +kernel
theorem d17_25 : decode method_4_code 25 = .ok (.ifCond .ne 14, 3) := by decide +kernel
theorem d17_39 : decode method_4_code 39 = .ok (.iload_n 0, 1) := by decide +kernel
theorem d17_40 : decode method_4_code 40 = .ok (.iconst 1, 1) := by decide +kernel
theorem d17_41 : decode method_4_code 41 = .ok (.if_icmp .ne 19, 3) := by decide +kernel
theorem d17_60 : decode method_4_code 60 = .ok (.iload_n 0, 1) := by decide +kernel
theorem d17_61 : decode method_4_code 61 = .ok (.iconst 2, 1) := by decide +kernel
theorem d17_62 : decode method_4_code 62 = .ok (.if_icmp .ne 24, 3) := by decide +kernel
theorem d17_86 : decode method_4_code 86 = .ok (.new 7, 3) := by decide +kernel
theorem d17_89 : decode method_4_code 89 = .ok (.dup, 1) := by decide +kernel
theorem d17_90 : decode method_4_code 90 = .ok (.iconst 3, 1) := by decide +kernel
theorem d17_91 : decode method_4_code 91 = .ok (.newarray .char, 2) := by decide +kernel
theorem d17_93 : decode method_4_code 93 = .ok (.dup, 1) := by decide +kernel
theorem d17_94 : decode method_4_code 94 = .ok (.iconst 0, 1) := by decide +kernel
theorem d17_95 : decode method_4_code 95 = .ok (.iload 4, 2) := by decide +kernel
theorem d17_97 : decode method_4_code 97 = .ok (.castore, 1) := by decide +kernel
theorem d17_98 : decode method_4_code 98 = .ok (.dup, 1) := by decide +kernel
theorem d17_99 : decode method_4_code 99 = .ok (.iconst 1, 1) := by decide +kernel
theorem d17_100 : decode method_4_code 100 = .ok (.iload 5, 2) := by decide +kernel
theorem d17_102 : decode method_4_code 102 = .ok (.castore, 1) := by decide +kernel
theorem d17_103 : decode method_4_code 103 = .ok (.dup, 1) := by decide +kernel
theorem d17_104 : decode method_4_code 104 = .ok (.iconst 2, 1) := by decide +kernel
theorem d17_105 : decode method_4_code 105 = .ok (.iload 6, 2) := by decide +kernel
theorem d17_107 : decode method_4_code 107 = .ok (.castore, 1) := by decide +kernel
theorem d17_108 : decode method_4_code 108 = .ok (.invokespecial 9, 3) := by decide +kernel
theorem d17_111 : decode method_4_code 111 = .ok (.areturn, 1) := by decide +kernel
theorem d17_65 : decode method_4_code 65 = .ok (.new 7, 3) := by decide +kernel
theorem d17_68 : decode method_4_code 68 = .ok (.dup, 1) := by decide +kernel
theorem d17_69 : decode method_4_code 69 = .ok (.iconst 2, 1) := by decide +kernel
theorem d17_70 : decode method_4_code 70 = .ok (.newarray .char, 2) := by decide +kernel
theorem d17_72 : decode method_4_code 72 = .ok (.dup, 1) := by decide +kernel
theorem d17_73 : decode method_4_code 73 = .ok (.iconst 0, 1) := by decide +kernel
theorem d17_74 : decode method_4_code 74 = .ok (.iload 4, 2) := by decide +kernel
theorem d17_76 : decode method_4_code 76 = .ok (.castore, 1) := by decide +kernel
theorem d17_77 : decode method_4_code 77 = .ok (.dup, 1) := by decide +kernel
theorem d17_78 : decode method_4_code 78 = .ok (.iconst 1, 1) := by decide +kernel
theorem d17_79 : decode method_4_code 79 = .ok (.iload 5, 2) := by decide +kernel
theorem d17_81 : decode method_4_code 81 = .ok (.castore, 1) := by decide +kernel
theorem d17_82 : decode method_4_code 82 = .ok (.invokespecial 9, 3) := by decide +kernel
theorem d17_85 : decode method_4_code 85 = .ok (.areturn, 1) := by decide +kernel
theorem d17_44 : decode method_4_code 44 = .ok (.new 7, 3) := by decide +kernel
theorem d17_47 : decode method_4_code 47 = .ok (.dup, 1) := by decide +kernel
theorem d17_48 : decode method_4_code 48 = .ok (.iconst 1, 1) := by decide +kernel
theorem d17_49 : decode method_4_code 49 = .ok (.newarray .char, 2) := by decide +kernel
theorem d17_51 : decode method_4_code 51 = .ok (.dup, 1) := by decide +kernel
theorem d17_52 : decode method_4_code 52 = .ok (.iconst 0, 1) := by decide +kernel
theorem d17_53 : decode method_4_code 53 = .ok (.iload 4, 2) := by decide +kernel
theorem d17_55 : decode method_4_code 55 = .ok (.castore, 1) := by decide +kernel
theorem d17_56 : decode method_4_code 56 = .ok (.invokespecial 9, 3) := by decide +kernel
theorem d17_59 : decode method_4_code 59 = .ok (.areturn, 1) := by decide +kernel
theorem d17_28 : decode method_4_code 28 = .ok (.new 7, 3) := by decide +kernel
theorem d17_31 : decode method_4_code 31 = .ok (.dup, 1) := by decide +kernel
theorem d17_32 : decode method_4_code 32 = .ok (.iconst 0, 1) := by decide +kernel
theorem d17_33 : decode method_4_code 33 = .ok (.newarray .char, 2) := by decide +kernel
theorem d17_35 : decode method_4_code 35 = .ok (.invokespecial 9, 3) := by decide +kernel
theorem d17_38 : decode method_4_code 38 = .ok (.areturn, 1) := by decide +kernel
abbrev rm_con_drawn : Room := { frames := 4, cells := 6, slots := 44, locals := 66 }
set_option maxRecDepth 65536 in
set_option maxHeartbeats 40000000 in
theorem con_drawn (l : Launch) {Z : State} {a0 : Array Value} (hw : ∀ d ∈ tables_1, d.before a0 Z = true) {n0 : Nat} {h0 : Heap} (n x y z : Int32) (HC : Cst Z) :
    Con l Z true ELs n0 (⟨"com/example/tiny_reasoner/tinyreasoner/concept/ConceptOfClassPinLaw", "drawn", "(IIII)Ljava/lang/String;"⟩ : MethodName) method_4_code 7 (some (.object "java/lang/String")) rm_con_drawn [] #[(.int n), (.int x), (.int y), (.int z)] h0 [] (fun v h => ∃ a cs, v = some (.ref a) ∧ Lat Z h a cs) := by
  refine Con.intro (plainFor_of_name pn_com_example_tiny_reasoner_tinyreasoner_concept_ConceptOfClassPinLaw) (hELs hw) ?_
  intro p e s m below meth c hh G
  refine castRun (g' := mkF m 0 #[.val (.int n), .val (.int x), .val (.int y), .val (.int z), .unset, .unset, .unset] []) (by first | rfl | (simp [entryFrame, mkF, argsToLocals, Value.category, maxLocals]; done)) ?_
  refine GoKit.iloadN G d17_0 rfl (pc' := 1) rfl ?_
  refine GoKit.sipush G (255 : Int32) d17_1 rfl (pc' := 4) rfl ?_
  refine GoKit.iand G d17_4 (pc' := 5) rfl (fun v1 hqv1 => ?_)
  refine GoKit.i2c G d17_5 (pc' := 6) rfl (fun v2 hqv2 => ?_)
  have l3 := ch8 _ _ _ hqv1 hqv2
  have c4 : nar .char v2 = v2 := by rw [hqv2]; exact nar_i2c _
  refine GoKit.istore G d17_6 (Ls' := #[.val (.int n), .val (.int x), .val (.int y), .val (.int z), .val (.int v2), .unset, .unset]) rfl (pc' := 8) rfl ?_
  refine GoKit.iloadN G d17_8 rfl (pc' := 9) rfl ?_
  refine GoKit.sipush G (255 : Int32) d17_9 rfl (pc' := 12) rfl ?_
  refine GoKit.iand G d17_12 (pc' := 13) rfl (fun v5 hqv5 => ?_)
  refine GoKit.i2c G d17_13 (pc' := 14) rfl (fun v6 hqv6 => ?_)
  have l7 := ch8 _ _ _ hqv5 hqv6
  have c8 : nar .char v6 = v6 := by rw [hqv6]; exact nar_i2c _
  refine GoKit.istore G d17_14 (Ls' := #[.val (.int n), .val (.int x), .val (.int y), .val (.int z), .val (.int v2), .val (.int v6), .unset]) rfl (pc' := 16) rfl ?_
  refine GoKit.iloadN G d17_16 rfl (pc' := 17) rfl ?_
  refine GoKit.sipush G (255 : Int32) d17_17 rfl (pc' := 20) rfl ?_
  refine GoKit.iand G d17_20 (pc' := 21) rfl (fun v9 hqv9 => ?_)
  refine GoKit.i2c G d17_21 (pc' := 22) rfl (fun v10 hqv10 => ?_)
  have l11 := ch8 _ _ _ hqv9 hqv10
  have c12 : nar .char v10 = v10 := by rw [hqv10]; exact nar_i2c _
  refine GoKit.istore G d17_22 (Ls' := #[.val (.int n), .val (.int x), .val (.int y), .val (.int z), .val (.int v2), .val (.int v6), .val (.int v10)]) rfl (pc' := 24) rfl ?_
  refine GoKit.iloadN G d17_24 rfl (pc' := 25) rfl ?_
  refine GoKit.if_ne G d17_25 (by decide) (pt := 39) (pf := 28) rfl rfl (fun hb13 => ?_) (fun hb13 => ?_)
  · refine GoKit.iloadN G d17_39 rfl (pc' := 40) rfl ?_
    refine GoKit.iconst G (1 : Int32) d17_40 rfl (pc' := 41) rfl ?_
    refine GoKit.icmp_ne G d17_41 (by decide) (pt := 60) (pf := 44) rfl rfl (fun hb14 => ?_) (fun hb14 => ?_)
    · refine GoKit.iloadN G d17_60 rfl (pc' := 61) rfl ?_
      refine GoKit.iconst G (2 : Int32) d17_61 rfl (pc' := 62) rfl ?_
      refine GoKit.icmp_ne G d17_62 (by decide) (pt := 86) (pf := 65) rfl rfl (fun hb15 => ?_) (fun hb15 => ?_)
      · refine GoKit.newobj G d17_86 (wi hw 5 rfl) (wi hw 6 rfl) (wi hw 7 rfl) (by decide) (by decide) (cells' := 1) (slots' := 4) rfl rfl (pc' := 89) rfl (fun h20 a16 ga16 E17 X18 D19 => ?_)
        have F21 : Fld Z h20 a16 "java/lang/String" "coder" "B" (.int 0) := D19 (Or.inr (wi hw 32 rfl)) (ty := .byte) (by decide)
        have F22 : Fld Z h20 a16 "java/lang/String" "value" "[B" .null := D19 (Or.inr (wi hw 34 rfl)) (ty := (.array .byte)) (by decide)
        refine GoKit.dup G d17_89 rfl (pc' := 90) rfl ?_
        refine GoKit.iconst G (3 : Int32) d17_90 rfl (pc' := 91) rfl ?_
        refine GoKit.newcI G d17_91 (wi hw 8 rfl) (by decide) (k := 3) (cap := 3) rfl (Nat.le_refl _) (by decide) (by decide) (by decide) (cells' := 2) (slots' := 7) rfl rfl (pc' := 93) rfl (fun h26 a23 ga23 E24 A25 => ?_)
        refine GoKit.dup G d17_93 rfl (pc' := 94) rfl ?_
        refine GoKit.iconst G (0 : Int32) d17_94 rfl (pc' := 95) rfl ?_
        refine GoKit.iload G d17_95 rfl (pc' := 97) rfl ?_
        refine GoKit.castI G d17_97 A25 (i := 0) rfl (by decide) (Nat.le_of_ble_eq_true rfl) c4 (List.Mem.head _) (pc' := 98) rfl (fun h29 W27 A28 => ?_)
        change IA Z h29 a23 .char [v2, 0, 0] at A28
        refine GoKit.dup G d17_98 rfl (pc' := 99) rfl ?_
        refine GoKit.iconst G (1 : Int32) d17_99 rfl (pc' := 100) rfl ?_
        refine GoKit.iload G d17_100 rfl (pc' := 102) rfl ?_
        refine GoKit.castI G d17_102 A28 (i := 1) rfl (by decide) (Nat.le_of_ble_eq_true rfl) c8 (List.Mem.head _) (pc' := 103) rfl (fun h32 W30 A31 => ?_)
        change IA Z h32 a23 .char [v2, v6, 0] at A31
        refine GoKit.dup G d17_103 rfl (pc' := 104) rfl ?_
        refine GoKit.iconst G (2 : Int32) d17_104 rfl (pc' := 105) rfl ?_
        refine GoKit.iload G d17_105 rfl (pc' := 107) rfl ?_
        refine GoKit.castI G d17_107 A31 (i := 2) rfl (by decide) (Nat.le_of_ble_eq_true rfl) c12 (List.Mem.head _) (pc' := 108) rfl (fun h35 W33 A34 => ?_)
        change IA Z h35 a23 .char [v2, v6, v10] at A34
        have hl36 : ∀ c ∈ ([v2, v6, v10] : List Int32), 0 ≤ c.toInt ∧ c.toInt < 256 := by
          intro c hc
          simp only [List.mem_cons, List.not_mem_nil, or_false] at hc
          rcases hc with rfl | rfl | rfl
          · exact l3
          · exact l7
          · exact l11
        refine GoKit.callSpecial G d17_108 rfl (wi hw 9 rfl) (wi hw 10 rfl) (wi hw 7 rfl) (wi hw 11 rfl) (by decide) (owc := [a16]) (W := 1) (argsL := [(.ref a23)]) (rest := [(.ref a16)]) (con_strInit l hw ((((X18.ext E24).wr W27).wr W30).wr W33) ((((F22.ext E24).other W27 (Or.inl (Nat.ne_of_lt (Nat.lt_of_lt_of_eq (X18).lt ga23.symm)))).other W30 (Or.inl (Nat.ne_of_lt (Nat.lt_of_lt_of_eq (X18).lt ga23.symm)))).other W33 (Or.inl (Nat.ne_of_lt (Nat.lt_of_lt_of_eq (X18).lt ga23.symm)))) ((((F21.ext E24).other W27 (Or.inl (Nat.ne_of_lt (Nat.lt_of_lt_of_eq (X18).lt ga23.symm)))).other W30 (Or.inl (Nat.ne_of_lt (Nat.lt_of_lt_of_eq (X18).lt ga23.symm)))).other W33 (Or.inl (Nat.ne_of_lt (Nat.lt_of_lt_of_eq (X18).lt ga23.symm)))) A34 (Nat.le_of_ble_eq_true rfl) hl36 (by simp) HC) rfl (lenOf pd_5 rfl) rfl (by decide) (Nat.le_of_eq rfl) (by decide) (by decide) (by decide) (by intro x hx; simp only [List.mem_cons, List.not_mem_nil, or_false] at hx ⊢; simp [hx]) (cells' := 3) (slots' := 44) rfl rfl (pc' := 111) rfl (fun r37 h40 q38 K39 => ?_)
        obtain ⟨rfl, S41⟩ := q38
        show Run _ _ _ _ _ _ _ _ _ _ _ _ _ _ _ _ _ _ _ _ (mkF m 111 #[.val (.int n), .val (.int x), .val (.int y), .val (.int z), .val (.int v2), .val (.int v6), .val (.int v10)] [(.ref a16)])
        refine GoKit.retRef G d17_111 rfl rfl rfl (by decide) (by decide) ?_
        exact ⟨_, _, rfl, S41⟩
      · refine GoKit.newobj G d17_65 (wi hw 5 rfl) (wi hw 6 rfl) (wi hw 7 rfl) (by decide) (by decide) (cells' := 1) (slots' := 4) rfl rfl (pc' := 68) rfl (fun h46 a42 ga42 E43 X44 D45 => ?_)
        have F47 : Fld Z h46 a42 "java/lang/String" "coder" "B" (.int 0) := D45 (Or.inr (wi hw 32 rfl)) (ty := .byte) (by decide)
        have F48 : Fld Z h46 a42 "java/lang/String" "value" "[B" .null := D45 (Or.inr (wi hw 34 rfl)) (ty := (.array .byte)) (by decide)
        refine GoKit.dup G d17_68 rfl (pc' := 69) rfl ?_
        refine GoKit.iconst G (2 : Int32) d17_69 rfl (pc' := 70) rfl ?_
        refine GoKit.newcI G d17_70 (wi hw 8 rfl) (by decide) (k := 2) (cap := 2) rfl (Nat.le_refl _) (by decide) (by decide) (by decide) (cells' := 2) (slots' := 6) rfl rfl (pc' := 72) rfl (fun h52 a49 ga49 E50 A51 => ?_)
        refine GoKit.dup G d17_72 rfl (pc' := 73) rfl ?_
        refine GoKit.iconst G (0 : Int32) d17_73 rfl (pc' := 74) rfl ?_
        refine GoKit.iload G d17_74 rfl (pc' := 76) rfl ?_
        refine GoKit.castI G d17_76 A51 (i := 0) rfl (by decide) (Nat.le_of_ble_eq_true rfl) c4 (List.Mem.head _) (pc' := 77) rfl (fun h55 W53 A54 => ?_)
        change IA Z h55 a49 .char [v2, 0] at A54
        refine GoKit.dup G d17_77 rfl (pc' := 78) rfl ?_
        refine GoKit.iconst G (1 : Int32) d17_78 rfl (pc' := 79) rfl ?_
        refine GoKit.iload G d17_79 rfl (pc' := 81) rfl ?_
        refine GoKit.castI G d17_81 A54 (i := 1) rfl (by decide) (Nat.le_of_ble_eq_true rfl) c8 (List.Mem.head _) (pc' := 82) rfl (fun h58 W56 A57 => ?_)
        change IA Z h58 a49 .char [v2, v6] at A57
        have hl59 : ∀ c ∈ ([v2, v6] : List Int32), 0 ≤ c.toInt ∧ c.toInt < 256 := by
          intro c hc
          simp only [List.mem_cons, List.not_mem_nil, or_false] at hc
          rcases hc with rfl | rfl
          · exact l3
          · exact l7
        refine GoKit.callSpecial G d17_82 rfl (wi hw 9 rfl) (wi hw 10 rfl) (wi hw 7 rfl) (wi hw 11 rfl) (by decide) (owc := [a42]) (W := 1) (argsL := [(.ref a49)]) (rest := [(.ref a42)]) (con_strInit l hw (((X44.ext E50).wr W53).wr W56) (((F48.ext E50).other W53 (Or.inl (Nat.ne_of_lt (Nat.lt_of_lt_of_eq (X44).lt ga49.symm)))).other W56 (Or.inl (Nat.ne_of_lt (Nat.lt_of_lt_of_eq (X44).lt ga49.symm)))) (((F47.ext E50).other W53 (Or.inl (Nat.ne_of_lt (Nat.lt_of_lt_of_eq (X44).lt ga49.symm)))).other W56 (Or.inl (Nat.ne_of_lt (Nat.lt_of_lt_of_eq (X44).lt ga49.symm)))) A57 (Nat.le_of_ble_eq_true rfl) hl59 (by simp) HC) rfl (lenOf pd_5 rfl) rfl (by decide) (Nat.le_of_eq rfl) (by decide) (by decide) (by decide) (by intro x hx; simp only [List.mem_cons, List.not_mem_nil, or_false] at hx ⊢; simp [hx]) (cells' := 3) (slots' := 43) rfl rfl (pc' := 85) rfl (fun r60 h63 q61 K62 => ?_)
        obtain ⟨rfl, S64⟩ := q61
        show Run _ _ _ _ _ _ _ _ _ _ _ _ _ _ _ _ _ _ _ _ (mkF m 85 #[.val (.int n), .val (.int x), .val (.int y), .val (.int z), .val (.int v2), .val (.int v6), .val (.int v10)] [(.ref a42)])
        refine GoKit.retRef G d17_85 rfl rfl rfl (by decide) (by decide) ?_
        exact ⟨_, _, rfl, S64⟩
    · refine GoKit.newobj G d17_44 (wi hw 5 rfl) (wi hw 6 rfl) (wi hw 7 rfl) (by decide) (by decide) (cells' := 1) (slots' := 4) rfl rfl (pc' := 47) rfl (fun h69 a65 ga65 E66 X67 D68 => ?_)
      have F70 : Fld Z h69 a65 "java/lang/String" "coder" "B" (.int 0) := D68 (Or.inr (wi hw 32 rfl)) (ty := .byte) (by decide)
      have F71 : Fld Z h69 a65 "java/lang/String" "value" "[B" .null := D68 (Or.inr (wi hw 34 rfl)) (ty := (.array .byte)) (by decide)
      refine GoKit.dup G d17_47 rfl (pc' := 48) rfl ?_
      refine GoKit.iconst G (1 : Int32) d17_48 rfl (pc' := 49) rfl ?_
      refine GoKit.newcI G d17_49 (wi hw 8 rfl) (by decide) (k := 1) (cap := 1) rfl (Nat.le_refl _) (by decide) (by decide) (by decide) (cells' := 2) (slots' := 5) rfl rfl (pc' := 51) rfl (fun h75 a72 ga72 E73 A74 => ?_)
      refine GoKit.dup G d17_51 rfl (pc' := 52) rfl ?_
      refine GoKit.iconst G (0 : Int32) d17_52 rfl (pc' := 53) rfl ?_
      refine GoKit.iload G d17_53 rfl (pc' := 55) rfl ?_
      refine GoKit.castI G d17_55 A74 (i := 0) rfl (by decide) (Nat.le_of_ble_eq_true rfl) c4 (List.Mem.head _) (pc' := 56) rfl (fun h78 W76 A77 => ?_)
      change IA Z h78 a72 .char [v2] at A77
      have hl79 : ∀ c ∈ ([v2] : List Int32), 0 ≤ c.toInt ∧ c.toInt < 256 := by
        intro c hc
        simp only [List.mem_cons, List.not_mem_nil, or_false] at hc
        rcases hc with rfl
        · exact l3
      refine GoKit.callSpecial G d17_56 rfl (wi hw 9 rfl) (wi hw 10 rfl) (wi hw 7 rfl) (wi hw 11 rfl) (by decide) (owc := [a65]) (W := 1) (argsL := [(.ref a72)]) (rest := [(.ref a65)]) (con_strInit l hw ((X67.ext E73).wr W76) ((F71.ext E73).other W76 (Or.inl (Nat.ne_of_lt (Nat.lt_of_lt_of_eq (X67).lt ga72.symm)))) ((F70.ext E73).other W76 (Or.inl (Nat.ne_of_lt (Nat.lt_of_lt_of_eq (X67).lt ga72.symm)))) A77 (Nat.le_of_ble_eq_true rfl) hl79 (by simp) HC) rfl (lenOf pd_5 rfl) rfl (by decide) (Nat.le_of_eq rfl) (by decide) (by decide) (by decide) (by intro x hx; simp only [List.mem_cons, List.not_mem_nil, or_false] at hx ⊢; simp [hx]) (cells' := 3) (slots' := 42) rfl rfl (pc' := 59) rfl (fun r80 h83 q81 K82 => ?_)
      obtain ⟨rfl, S84⟩ := q81
      show Run _ _ _ _ _ _ _ _ _ _ _ _ _ _ _ _ _ _ _ _ (mkF m 59 #[.val (.int n), .val (.int x), .val (.int y), .val (.int z), .val (.int v2), .val (.int v6), .val (.int v10)] [(.ref a65)])
      refine GoKit.retRef G d17_59 rfl rfl rfl (by decide) (by decide) ?_
      exact ⟨_, _, rfl, S84⟩
  · refine GoKit.newobj G d17_28 (wi hw 5 rfl) (wi hw 6 rfl) (wi hw 7 rfl) (by decide) (by decide) (cells' := 1) (slots' := 4) rfl rfl (pc' := 31) rfl (fun h89 a85 ga85 E86 X87 D88 => ?_)
    have F90 : Fld Z h89 a85 "java/lang/String" "coder" "B" (.int 0) := D88 (Or.inr (wi hw 32 rfl)) (ty := .byte) (by decide)
    have F91 : Fld Z h89 a85 "java/lang/String" "value" "[B" .null := D88 (Or.inr (wi hw 34 rfl)) (ty := (.array .byte)) (by decide)
    refine GoKit.dup G d17_31 rfl (pc' := 32) rfl ?_
    refine GoKit.iconst G (0 : Int32) d17_32 rfl (pc' := 33) rfl ?_
    refine GoKit.newcI G d17_33 (wi hw 8 rfl) (by decide) (k := 0) (cap := 0) rfl (Nat.le_refl _) (by decide) (by decide) (by decide) (cells' := 2) (slots' := 4) rfl rfl (pc' := 35) rfl (fun h95 a92 ga92 E93 A94 => ?_)
    refine GoKit.callSpecial G d17_35 rfl (wi hw 9 rfl) (wi hw 10 rfl) (wi hw 7 rfl) (wi hw 11 rfl) (by decide) (owc := [a85]) (W := 1) (argsL := [(.ref a92)]) (rest := [(.ref a85)]) (con_strInitE l hw (X87.ext E93) (F91.ext E93) (F90.ext E93) A94) rfl (lenOf pd_5 rfl) rfl (by decide) (Nat.le_of_eq rfl) (by decide) (by decide) (by decide) (by intro x hx; simp only [List.mem_cons, List.not_mem_nil, or_false] at hx ⊢; simp [hx]) (cells' := 6) (slots' := 12) rfl rfl (pc' := 38) rfl (fun r96 h99 q97 K98 => ?_)
    obtain ⟨rfl, S100⟩ := q97
    show Run _ _ _ _ _ _ _ _ _ _ _ _ _ _ _ _ _ _ _ _ (mkF m 38 #[.val (.int n), .val (.int x), .val (.int y), .val (.int z), .val (.int v2), .val (.int v6), .val (.int v10)] [(.ref a85)])
    refine GoKit.retRef G d17_38 rfl rfl rfl (by decide) (by decide) ?_
    exact ⟨_, _, rfl, S100⟩
theorem d12_0 : decode jdk_30_method_1_code 0 = .ok (.aload_n 0, 1) := by decide +kernel
theorem d12_1 : decode jdk_30_method_1_code 1 = .ok (.invokespecial 1, 3) := by decide +kernel
theorem d12_4 : decode jdk_30_method_1_code 4 = .ok (.return_, 1) := by decide +kernel
theorem pn_java_lang_Record : plainName "java/lang/Record" = true := by first | (simp [plainName, overriddenIn]; done) | decide +kernel
abbrev rm_con_rec : Room := { frames := 1, cells := 0, slots := 0, locals := 12 }
set_option maxRecDepth 65536 in
set_option maxHeartbeats 40000000 in
theorem con_rec (l : Launch) {Z : State} {a0 : Array Value} (hw : ∀ d ∈ tables_1, d.before a0 Z = true) {n0 : Nat} {h0 : Heap} {a : Addr} :
    Con l Z true ELs n0 (⟨"java/lang/Record", "<init>", "()V"⟩ : MethodName) jdk_30_method_1_code 1 none rm_con_rec [] #[(.ref a)] h0 [] (fun v h => v = none) := by
  refine Con.intro (plainFor_of_name pn_java_lang_Record) (hELs hw) ?_
  intro p e s m below meth c hh G
  refine castRun (g' := mkF m 0 #[.val (.ref a)] []) (by first | rfl | (simp [entryFrame, mkF, argsToLocals, Value.category, maxLocals]; done)) ?_
  refine GoKit.aloadN G d12_0 rfl rfl (pc' := 1) rfl ?_
  refine GoKit.initObj G d12_1 (wi hw 66 rfl) (wi hw 17 rfl) (wi hw 18 rfl) rfl (by decide) (W := 0) (Nat.le_of_eq rfl) (by decide) (pc' := 4) rfl ?_
  refine GoKit.retVoid G d12_4 rfl (by decide) (by decide) ?_
  exact rfl
theorem d11_0 : decode prog_9_method_1_code 0 = .ok (.aload_n 0, 1) := by decide +kernel
theorem d11_1 : decode prog_9_method_1_code 1 = .ok (.invokespecial 1, 3) := by decide +kernel
theorem pd_6 : parseMethodDescriptor "()V" = some ⟨[], none⟩ := by decide +kernel
theorem d11_4 : decode prog_9_method_1_code 4 = .ok (.return_, 1) := by decide +kernel
theorem pn_com_example_tiny_reasoner_tinyreasoner_concept_Concept_Top : plainName "com/example/tiny_reasoner/tinyreasoner/concept/Concept$Top" = true := by first | (simp [plainName, overriddenIn]; done) | decide +kernel
abbrev rm_con_top : Room := { frames := 2, cells := 0, slots := 0, locals := 24 }
set_option maxRecDepth 65536 in
set_option maxHeartbeats 40000000 in
theorem con_top (l : Launch) {Z : State} {a0 : Array Value} (hw : ∀ d ∈ tables_1, d.before a0 Z = true) {n0 : Nat} {h0 : Heap} {a : Addr} :
    Con l Z true ELs n0 (⟨"com/example/tiny_reasoner/tinyreasoner/concept/Concept$Top", "<init>", "()V"⟩ : MethodName) prog_9_method_1_code 1 none rm_con_top [] #[(.ref a)] h0 [] (fun v h => v = none) := by
  refine Con.intro (plainFor_of_name pn_com_example_tiny_reasoner_tinyreasoner_concept_Concept_Top) (hELs hw) ?_
  intro p e s m below meth c hh G
  refine castRun (g' := mkF m 0 #[.val (.ref a)] []) (by first | rfl | (simp [entryFrame, mkF, argsToLocals, Value.category, maxLocals]; done)) ?_
  refine GoKit.aloadN G d11_0 rfl rfl (pc' := 1) rfl ?_
  refine GoKit.callSpecial G d11_1 rfl (wi hw 61 rfl) (wi hw 62 rfl) (wi hw 64 rfl) (wi hw 65 rfl) (by decide) (owc := []) (W := 0) (argsL := []) (rest := []) (con_rec l hw) rfl (lenOf pd_6 rfl) rfl (by decide) (Nat.le_of_eq rfl) (by decide) (by decide) (by decide) (fun _ q => nomatch q) (cells' := 0) (slots' := 0) rfl rfl (pc' := 4) rfl (fun r1 h4 q2 K3 => ?_)
  obtain rfl := q2
  show Run _ _ _ _ _ _ _ _ _ _ _ _ _ _ _ _ _ _ _ _ (mkF m 4 #[.val (.ref a)] [])
  refine GoKit.retVoid G d11_4 rfl (by decide) (by decide) ?_
  exact rfl
theorem d18_0 : decode prog_4_method_1_code 0 = .ok (.aload_n 0, 1) := by decide +kernel
theorem d18_1 : decode prog_4_method_1_code 1 = .ok (.invokespecial 1, 3) := by decide +kernel
theorem d18_4 : decode prog_4_method_1_code 4 = .ok (.return_, 1) := by decide +kernel
theorem pn_com_example_tiny_reasoner_tinyreasoner_concept_Concept_Bottom : plainName "com/example/tiny_reasoner/tinyreasoner/concept/Concept$Bottom" = true := by first | (simp [plainName, overriddenIn]; done) | decide +kernel
abbrev rm_con_bot : Room := { frames := 2, cells := 0, slots := 0, locals := 24 }
set_option maxRecDepth 65536 in
set_option maxHeartbeats 40000000 in
theorem con_bot (l : Launch) {Z : State} {a0 : Array Value} (hw : ∀ d ∈ tables_1, d.before a0 Z = true) {n0 : Nat} {h0 : Heap} {a : Addr} :
    Con l Z true ELs n0 (⟨"com/example/tiny_reasoner/tinyreasoner/concept/Concept$Bottom", "<init>", "()V"⟩ : MethodName) prog_4_method_1_code 1 none rm_con_bot [] #[(.ref a)] h0 [] (fun v h => v = none) := by
  refine Con.intro (plainFor_of_name pn_com_example_tiny_reasoner_tinyreasoner_concept_Concept_Bottom) (hELs hw) ?_
  intro p e s m below meth c hh G
  refine castRun (g' := mkF m 0 #[.val (.ref a)] []) (by first | rfl | (simp [entryFrame, mkF, argsToLocals, Value.category, maxLocals]; done)) ?_
  refine GoKit.aloadN G d18_0 rfl rfl (pc' := 1) rfl ?_
  refine GoKit.callSpecial G d18_1 rfl (wi hw 103 rfl) (wi hw 62 rfl) (wi hw 64 rfl) (wi hw 65 rfl) (by decide) (owc := []) (W := 0) (argsL := []) (rest := []) (con_rec l hw) rfl (lenOf pd_6 rfl) rfl (by decide) (Nat.le_of_eq rfl) (by decide) (by decide) (by decide) (fun _ q => nomatch q) (cells' := 0) (slots' := 0) rfl rfl (pc' := 4) rfl (fun r1 h4 q2 K3 => ?_)
  obtain rfl := q2
  show Run _ _ _ _ _ _ _ _ _ _ _ _ _ _ _ _ _ _ _ _ (mkF m 4 #[.val (.ref a)] [])
  refine GoKit.retVoid G d18_4 rfl (by decide) (by decide) ?_
  exact rfl
theorem d15_0 : decode jdk_31_method_11_code 0 = .ok (.aload_n 0, 1) := by decide +kernel
theorem d15_1 : decode jdk_31_method_11_code 1 = .ok (.ifnonnull 12, 3) := by decide +kernel
theorem d15_13 : decode jdk_31_method_11_code 13 = .ok (.aload_n 0, 1) := by decide +kernel
theorem d15_14 : decode jdk_31_method_11_code 14 = .ok (.areturn, 1) := by decide +kernel
theorem pn_java_util_Objects : plainName "java/util/Objects" = true := by first | (simp [plainName, overriddenIn]; done) | decide +kernel
abbrev rm_con_rnn : Room := { frames := 0, cells := 0, slots := 0, locals := 0 }
set_option maxRecDepth 65536 in
set_option maxHeartbeats 40000000 in
theorem con_rnn (l : Launch) {Z : State} {a0 : Array Value} (hw : ∀ d ∈ tables_1, d.before a0 Z = true) {n0 : Nat} {h0 : Heap} {a b : Addr} :
    Con l Z true ELs n0 (⟨"java/util/Objects", "requireNonNull", "(Ljava/lang/Object;Ljava/lang/String;)Ljava/lang/Object;"⟩ : MethodName) jdk_31_method_11_code 2 (some (.object "java/lang/Object")) rm_con_rnn [] #[(.ref a), (.ref b)] h0 [] (fun v h => v = some (.ref a) ∧ h = h0) := by
  refine Con.intro (plainFor_of_name pn_java_util_Objects) (hELs hw) ?_
  intro p e s m below meth c hh G
  refine castRun (g' := mkF m 0 #[.val (.ref a), .val (.ref b)] []) (by first | rfl | (simp [entryFrame, mkF, argsToLocals, Value.category, maxLocals]; done)) ?_
  refine GoKit.aloadN G d15_0 rfl rfl (pc' := 1) rfl ?_
  refine GoKit.ifnonnull_t G d15_1 (by decide) (pc' := 13) rfl ?_
  refine GoKit.aloadN G d15_13 rfl rfl (pc' := 14) rfl ?_
  refine GoKit.retRef G d15_14 rfl rfl rfl (by decide) (by decide) ?_
  exact ⟨rfl, rfl⟩
theorem d14_0 : decode prog_5_method_1_code 0 = .ok (.aload_n 0, 1) := by decide +kernel
theorem d14_1 : decode prog_5_method_1_code 1 = .ok (.invokespecial 1, 3) := by decide +kernel
theorem d14_4 : decode prog_5_method_1_code 4 = .ok (.aload_n 1, 1) := by decide +kernel
theorem d14_5 : decode prog_5_method_1_code 5 = .ok (.ldc 7, 2) := by decide +kernel
theorem d14_7 : decode prog_5_method_1_code 7 = .ok (.invokestatic 9, 3) := by decide +kernel
theorem pd_7 : parseMethodDescriptor "(Ljava/lang/Object;Ljava/lang/String;)Ljava/lang/Object;" = some ⟨[(.object "java/lang/Object"), (.object "java/lang/String")], some (.object "java/lang/Object")⟩ := by decide +kernel
theorem d14_10 : decode prog_5_method_1_code 10 = .ok (.pop, 1) := by decide +kernel
theorem d14_11 : decode prog_5_method_1_code 11 = .ok (.aload_n 0, 1) := by decide +kernel
theorem d14_12 : decode prog_5_method_1_code 12 = .ok (.aload_n 1, 1) := by decide +kernel
theorem d14_13 : decode prog_5_method_1_code 13 = .ok (.putfield 15, 3) := by decide +kernel
theorem d14_16 : decode prog_5_method_1_code 16 = .ok (.return_, 1) := by decide +kernel
theorem pn_com_example_tiny_reasoner_tinyreasoner_concept_Concept_Name : plainName "com/example/tiny_reasoner/tinyreasoner/concept/Concept$Name" = true := by first | (simp [plainName, overriddenIn]; done) | decide +kernel
abbrev rm_con_name : Room := { frames := 2, cells := 2, slots := 16, locals := 24 }
set_option maxRecDepth 65536 in
set_option maxHeartbeats 40000000 in
theorem con_name (l : Launch) {Z : State} {a0 : Array Value} (hw : ∀ d ∈ tables_1, d.before a0 Z = true) {n0 : Nat} {h0 : Heap} {a t : Addr} (O : Exa Z h0 a "com/example/tiny_reasoner/tinyreasoner/concept/Concept$Name" ∧ Fld Z h0 a "com/example/tiny_reasoner/tinyreasoner/concept/Concept$Name" "iri" "Ljava/lang/String;" .null) :
    Con l Z true ELs n0 (⟨"com/example/tiny_reasoner/tinyreasoner/concept/Concept$Name", "<init>", "(Ljava/lang/String;)V"⟩ : MethodName) prog_5_method_1_code 2 none rm_con_name [] #[(.ref a), (.ref t)] h0 [a] (fun v h => v = none ∧ Exa Z h a "com/example/tiny_reasoner/tinyreasoner/concept/Concept$Name" ∧ Fld Z h a "com/example/tiny_reasoner/tinyreasoner/concept/Concept$Name" "iri" "Ljava/lang/String;" (.ref t)) := by
  refine Con.intro (plainFor_of_name pn_com_example_tiny_reasoner_tinyreasoner_concept_Concept_Name) (hELs hw) ?_
  intro p e s m below meth c hh G
  refine castRun (g' := mkF m 0 #[.val (.ref a), .val (.ref t)] []) (by first | rfl | (simp [entryFrame, mkF, argsToLocals, Value.category, maxLocals]; done)) ?_
  refine GoKit.aloadN G d14_0 rfl rfl (pc' := 1) rfl ?_
  refine GoKit.callSpecial G d14_1 rfl (wi hw 79 rfl) (wi hw 62 rfl) (wi hw 64 rfl) (wi hw 65 rfl) (by decide) (owc := []) (W := 0) (argsL := []) (rest := []) (con_rec l hw) rfl (lenOf pd_6 rfl) rfl (by decide) (Nat.le_of_eq rfl) (by decide) (by decide) (by decide) (fun _ q => nomatch q) (cells' := 0) (slots' := 0) rfl rfl (pc' := 4) rfl (fun r1 h4 q2 K3 => ?_)
  obtain rfl := q2
  show Run _ _ _ _ _ _ _ _ _ _ _ _ _ _ _ _ _ _ _ _ (mkF m 4 #[.val (.ref a), .val (.ref t)] [])
  refine GoKit.aloadN G d14_4 rfl rfl (pc' := 5) rfl ?_
  refine GoKit.ldcStr G d14_5 rfl (wi hw 80 rfl) (wS hw) (by decide) (vs := [.int (105 : Int32), .int (114 : Int32), .int (105 : Int32)]) (z := (3 : Int32)) ⟨by decide +kernel, by decide +kernel⟩ (by decide) rfl (n := 12) (by decide +kernel) (by decide) (by decide) (by decide) (cells' := 2) (slots' := 16) rfl rfl (pc' := 7) rfl (fun a5 b6 k7 h14 E8 X9 FC10 FV11 A12 N13 => ?_)
  have S15 : Lat Z h14 a5 [(105 : Int32), (114 : Int32), (105 : Int32)] := latLit X9 FC10 FV11 A12 rfl (by decide +kernel) (by decide +kernel)
  have A16 : IA Z h14 b6 .byte (([(105 : Int32), (114 : Int32), (105 : Int32)] : List Int32).map fun c => c.toInt8.toInt32) := iaLit A12 rfl (by decide +kernel)
  refine GoKit.callStaticP G d14_7 (wi hw 81 rfl) (wi hw 82 rfl) (wi hw 83 rfl) (wi hw 84 rfl) (by decide) (W := 0) (argsL := [(.ref t), (.ref a5)]) (rest := []) (con_rnn l hw) rfl (lenOf pd_7 rfl) rfl (by decide) (Nat.le_of_eq rfl) (by decide) (by decide) (by decide) (cells' := 2) (slots' := 16) rfl rfl (pc' := 10) rfl ?_
  show Run _ _ _ _ _ _ _ _ _ _ _ _ _ _ _ _ _ _ _ _ (mkF m 10 #[.val (.ref a), .val (.ref t)] [(.ref t)])
  refine GoKit.pop G d14_10 rfl (pc' := 11) rfl ?_
  refine GoKit.aloadN G d14_11 rfl rfl (pc' := 12) rfl ?_
  refine GoKit.aloadN G d14_12 rfl rfl (pc' := 13) rfl ?_
  refine GoKit.putf G d14_13 (wi hw 85 rfl) Via.refl ((O.2.keep K3 nin0).ext E8) ((O.1.keep K3).ext E8) (Or.inr ⟨(wi hw 86 rfl), rfl, rfl⟩) (wi hw 74 rfl) (ty := (.object "java/lang/String")) (by decide) rfl rfl (List.Mem.head _) (pc' := 16) rfl (fun h18 W17 => ?_)
  have F19 := (((O.2.keep K3 nin0).ext E8)).same W17
  refine GoKit.retVoid G d14_16 rfl (by decide) (by decide) ?_
  exact ⟨rfl, ⟨(((O.1.keep K3).ext E8).wr W17), F19⟩⟩
theorem d16_0 : decode prog_5_method_7_code 0 = .ok (.aload_n 0, 1) := by decide +kernel
theorem d16_1 : decode prog_5_method_7_code 1 = .ok (.getfield 15, 3) := by decide +kernel
theorem d16_4 : decode prog_5_method_7_code 4 = .ok (.areturn, 1) := by decide +kernel
abbrev rm_con_iri : Room := { frames := 0, cells := 0, slots := 0, locals := 0 }
set_option maxRecDepth 65536 in
set_option maxHeartbeats 40000000 in
theorem con_iri (l : Launch) {Z : State} {a0 : Array Value} (hw : ∀ d ∈ tables_1, d.before a0 Z = true) {n0 : Nat} {h0 : Heap} {a t : Addr} (O : Exa Z h0 a "com/example/tiny_reasoner/tinyreasoner/concept/Concept$Name" ∧ Fld Z h0 a "com/example/tiny_reasoner/tinyreasoner/concept/Concept$Name" "iri" "Ljava/lang/String;" (.ref t)) :
    Con l Z true ELs n0 (⟨"com/example/tiny_reasoner/tinyreasoner/concept/Concept$Name", "iri", "()Ljava/lang/String;"⟩ : MethodName) prog_5_method_7_code 1 (some (.object "java/lang/String")) rm_con_iri [] #[(.ref a)] h0 [] (fun v h => v = some (.ref t) ∧ h = h0) := by
  refine Con.intro (plainFor_of_name pn_com_example_tiny_reasoner_tinyreasoner_concept_Concept_Name) (hELs hw) ?_
  intro p e s m below meth c hh G
  refine castRun (g' := mkF m 0 #[.val (.ref a)] []) (by first | rfl | (simp [entryFrame, mkF, argsToLocals, Value.category, maxLocals]; done)) ?_
  refine GoKit.aloadN G d16_0 rfl rfl (pc' := 1) rfl ?_
  refine GoKit.getf G d16_1 (wi hw 85 rfl) Via.refl O.2 (pc' := 4) rfl ?_
  refine GoKit.retRef G d16_4 rfl rfl rfl (by decide) (by decide) ?_
  exact ⟨rfl, rfl⟩
theorem ite_f {P : Prop} [Decidable P] (h : (if P then (1 : Int32) else 0) = 0) : ¬ P := fun q => by rw [if_pos q] at h; exact absurd h (by decide)
theorem ite_t {P : Prop} [Decidable P] (h : ¬ (if P then (1 : Int32) else 0) = 0) : P := Classical.byContradiction fun q => h (if_neg q)
theorem d10_0 : decode prog_1_method_1_code 0 = .ok (.ldc 3, 2) := by decide +kernel
theorem d10_2 : decode prog_1_method_1_code 2 = .ok (.aload_n 0, 1) := by decide +kernel
theorem d10_3 : decode prog_1_method_1_code 3 = .ok (.invokevirtual 5, 3) := by decide +kernel
theorem pd_8 : parseMethodDescriptor "(Ljava/lang/Object;)Z" = some ⟨[(.object "java/lang/Object")], some .boolean⟩ := by decide +kernel
theorem d10_6 : decode prog_1_method_1_code 6 = .ok (.ifCond .eq 14, 3) := by decide +kernel
theorem d10_20 : decode prog_1_method_1_code 20 = .ok (.ldc 17, 2) := by decide +kernel
theorem d10_22 : decode prog_1_method_1_code 22 = .ok (.aload_n 0, 1) := by decide +kernel
theorem d10_23 : decode prog_1_method_1_code 23 = .ok (.invokevirtual 5, 3) := by decide +kernel
theorem d10_26 : decode prog_1_method_1_code 26 = .ok (.ifCond .eq 14, 3) := by decide +kernel
theorem d10_40 : decode prog_1_method_1_code 40 = .ok (.new 22, 3) := by decide +kernel
theorem d10_43 : decode prog_1_method_1_code 43 = .ok (.dup, 1) := by decide +kernel
theorem d10_44 : decode prog_1_method_1_code 44 = .ok (.aload_n 0, 1) := by decide +kernel
theorem d10_45 : decode prog_1_method_1_code 45 = .ok (.invokespecial 24, 3) := by decide +kernel
theorem pd_9 : parseMethodDescriptor "(Ljava/lang/String;)V" = some ⟨[(.object "java/lang/String")], none⟩ := by decide +kernel
theorem d10_48 : decode prog_1_method_1_code 48 = .ok (.astore_n 1, 1) := by decide +kernel
theorem d10_49 : decode prog_1_method_1_code 49 = .ok (.aload_n 1, 1) := by decide +kernel
theorem d10_50 : decode prog_1_method_1_code 50 = .ok (.areturn, 1) := by decide +kernel
theorem d10_29 : decode prog_1_method_1_code 29 = .ok (.new 19, 3) := by decide +kernel
theorem d10_32 : decode prog_1_method_1_code 32 = .ok (.dup, 1) := by decide +kernel
theorem d10_33 : decode prog_1_method_1_code 33 = .ok (.invokespecial 21, 3) := by decide +kernel
theorem d10_36 : decode prog_1_method_1_code 36 = .ok (.astore_n 1, 1) := by decide +kernel
theorem d10_37 : decode prog_1_method_1_code 37 = .ok (.goto 12, 3) := by decide +kernel
theorem d10_9 : decode prog_1_method_1_code 9 = .ok (.new 11, 3) := by decide +kernel
theorem d10_12 : decode prog_1_method_1_code 12 = .ok (.dup, 1) := by decide +kernel
theorem d10_13 : decode prog_1_method_1_code 13 = .ok (.invokespecial 13, 3) := by decide +kernel
theorem d10_16 : decode prog_1_method_1_code 16 = .ok (.astore_n 1, 1) := by decide +kernel
theorem d10_17 : decode prog_1_method_1_code 17 = .ok (.goto 32, 3) := by decide +kernel
theorem pn_com_example_tiny_reasoner_tinyreasoner_concept_Concept : plainName "com/example/tiny_reasoner/tinyreasoner/concept/Concept" = true := by first | (simp [plainName, overriddenIn]; done) | decide +kernel
abbrev rm_con_ofClass : Room := { frames := 3, cells := 7, slots := 313, locals := 38 }
set_option maxRecDepth 65536 in
set_option maxHeartbeats 40000000 in
theorem con_ofClass (l : Launch) {Z : State} {a0 : Array Value} (hw : ∀ d ∈ tables_1, d.before a0 Z = true) {n0 : Nat} {h0 : Heap} {a : Addr} {cs : List Int32} (S : Lat Z h0 a cs) (HC : Cst Z) :
    Con l Z true ELs n0 (⟨"com/example/tiny_reasoner/tinyreasoner/concept/Concept", "ofClass", "(Ljava/lang/String;)Lcom/example/tiny_reasoner/tinyreasoner/concept/Concept;"⟩ : MethodName) prog_1_method_1_code 2 (some (.object "com/example/tiny_reasoner/tinyreasoner/concept/Concept")) rm_con_ofClass [] #[(.ref a)] h0 [] (fun v h => ∃ b, v = some (.ref b) ∧ ((cs = thingL ∧ Exa Z h b "com/example/tiny_reasoner/tinyreasoner/concept/Concept$Top") ∨ (¬ cs = thingL ∧ cs = nothingL ∧ Exa Z h b "com/example/tiny_reasoner/tinyreasoner/concept/Concept$Bottom") ∨ (¬ cs = thingL ∧ ¬ cs = nothingL ∧ Exa Z h b "com/example/tiny_reasoner/tinyreasoner/concept/Concept$Name" ∧ Fld Z h b "com/example/tiny_reasoner/tinyreasoner/concept/Concept$Name" "iri" "Ljava/lang/String;" (.ref a)))) := by
  refine Con.intro (plainFor_of_name pn_com_example_tiny_reasoner_tinyreasoner_concept_Concept) (hELs hw) ?_
  intro p e s m below meth c hh G
  refine castRun (g' := mkF m 0 #[.val (.ref a), .unset] []) (by first | rfl | (simp [entryFrame, mkF, argsToLocals, Value.category, maxLocals]; done)) ?_
  refine GoKit.ldcStr G d10_0 rfl (wi hw 53 rfl) (wS hw) (by decide) (vs := [.int (104 : Int32), .int (116 : Int32), .int (116 : Int32), .int (112 : Int32), .int (58 : Int32), .int (47 : Int32), .int (47 : Int32), .int (119 : Int32), .int (119 : Int32), .int (119 : Int32), .int (46 : Int32), .int (119 : Int32), .int (51 : Int32), .int (46 : Int32), .int (111 : Int32), .int (114 : Int32), .int (103 : Int32), .int (47 : Int32), .int (50 : Int32), .int (48 : Int32), .int (48 : Int32), .int (50 : Int32), .int (47 : Int32), .int (48 : Int32), .int (55 : Int32), .int (47 : Int32), .int (111 : Int32), .int (119 : Int32), .int (108 : Int32), .int (35 : Int32), .int (84 : Int32), .int (104 : Int32), .int (105 : Int32), .int (110 : Int32), .int (103 : Int32)]) (z := (35 : Int32)) ⟨by decide +kernel, by decide +kernel⟩ (by decide) rfl (n := 140) (by decide +kernel) (by decide) (by decide) (by decide) (cells' := 2) (slots' := 144) rfl rfl (pc' := 2) rfl (fun a1 b2 k3 h10 E4 X5 FC6 FV7 A8 N9 => ?_)
  have S11 : Lat Z h10 a1 [(104 : Int32), (116 : Int32), (116 : Int32), (112 : Int32), (58 : Int32), (47 : Int32), (47 : Int32), (119 : Int32), (119 : Int32), (119 : Int32), (46 : Int32), (119 : Int32), (51 : Int32), (46 : Int32), (111 : Int32), (114 : Int32), (103 : Int32), (47 : Int32), (50 : Int32), (48 : Int32), (48 : Int32), (50 : Int32), (47 : Int32), (48 : Int32), (55 : Int32), (47 : Int32), (111 : Int32), (119 : Int32), (108 : Int32), (35 : Int32), (84 : Int32), (104 : Int32), (105 : Int32), (110 : Int32), (103 : Int32)] := latLit X5 FC6 FV7 A8 rfl (by decide +kernel) (by decide +kernel)
  have A12 : IA Z h10 b2 .byte (([(104 : Int32), (116 : Int32), (116 : Int32), (112 : Int32), (58 : Int32), (47 : Int32), (47 : Int32), (119 : Int32), (119 : Int32), (119 : Int32), (46 : Int32), (119 : Int32), (51 : Int32), (46 : Int32), (111 : Int32), (114 : Int32), (103 : Int32), (47 : Int32), (50 : Int32), (48 : Int32), (48 : Int32), (50 : Int32), (47 : Int32), (48 : Int32), (55 : Int32), (47 : Int32), (111 : Int32), (119 : Int32), (108 : Int32), (35 : Int32), (84 : Int32), (104 : Int32), (105 : Int32), (110 : Int32), (103 : Int32)] : List Int32).map fun c => c.toInt8.toInt32) := iaLit A8 rfl (by decide +kernel)
  refine GoKit.aloadN G d10_2 rfl rfl (pc' := 3) rfl ?_
  have KP13 : Keep h0 h10 [] := ((Keep.refl h0 []).ext E4)
  refine GoKit.callVirtualP G d10_3 (wi hw 54 rfl) (wi hw 39 rfl) (wi hw 41 rfl) (wi hw 40 rfl) (wi hw 7 rfl) (wi hw 42 rfl) (by decide) S11.1 (W := 0) (argsL := [(.ref a)]) (rest := []) (con_equals l hw (cs := thingL) (ds := cs) S11 (S.keep KP13) HC) rfl (lenOf pd_8 rfl) rfl (by decide) (Nat.le_of_eq rfl) (by decide) (by decide) (by decide) (cells' := 2) (slots' := 144) rfl rfl (pc' := 6) rfl ?_
  show Run _ _ _ _ _ _ _ _ _ _ _ _ _ _ _ _ _ _ _ _ (mkF m 6 #[.val (.ref a), .unset] [(.int (if thingL = cs then 1 else 0))])
  refine GoKit.if_eq G d10_6 (by decide) (pt := 20) (pf := 9) rfl rfl (fun hb14 => ?_) (fun hb14 => ?_)
  · refine GoKit.ldcStr G d10_20 rfl (wi hw 72 rfl) (wS hw) (by decide) (vs := [.int (104 : Int32), .int (116 : Int32), .int (116 : Int32), .int (112 : Int32), .int (58 : Int32), .int (47 : Int32), .int (47 : Int32), .int (119 : Int32), .int (119 : Int32), .int (119 : Int32), .int (46 : Int32), .int (119 : Int32), .int (51 : Int32), .int (46 : Int32), .int (111 : Int32), .int (114 : Int32), .int (103 : Int32), .int (47 : Int32), .int (50 : Int32), .int (48 : Int32), .int (48 : Int32), .int (50 : Int32), .int (47 : Int32), .int (48 : Int32), .int (55 : Int32), .int (47 : Int32), .int (111 : Int32), .int (119 : Int32), .int (108 : Int32), .int (35 : Int32), .int (78 : Int32), .int (111 : Int32), .int (116 : Int32), .int (104 : Int32), .int (105 : Int32), .int (110 : Int32), .int (103 : Int32)]) (z := (37 : Int32)) ⟨by decide +kernel, by decide +kernel⟩ (by decide) rfl (n := 148) (by decide +kernel) (by decide) (by decide) (by decide) (cells' := 4) (slots' := 296) rfl rfl (pc' := 22) rfl (fun a15 b16 k17 h24 E18 X19 FC20 FV21 A22 N23 => ?_)
    have S25 : Lat Z h24 a15 [(104 : Int32), (116 : Int32), (116 : Int32), (112 : Int32), (58 : Int32), (47 : Int32), (47 : Int32), (119 : Int32), (119 : Int32), (119 : Int32), (46 : Int32), (119 : Int32), (51 : Int32), (46 : Int32), (111 : Int32), (114 : Int32), (103 : Int32), (47 : Int32), (50 : Int32), (48 : Int32), (48 : Int32), (50 : Int32), (47 : Int32), (48 : Int32), (55 : Int32), (47 : Int32), (111 : Int32), (119 : Int32), (108 : Int32), (35 : Int32), (78 : Int32), (111 : Int32), (116 : Int32), (104 : Int32), (105 : Int32), (110 : Int32), (103 : Int32)] := latLit X19 FC20 FV21 A22 rfl (by decide +kernel) (by decide +kernel)
    have A26 : IA Z h24 b16 .byte (([(104 : Int32), (116 : Int32), (116 : Int32), (112 : Int32), (58 : Int32), (47 : Int32), (47 : Int32), (119 : Int32), (119 : Int32), (119 : Int32), (46 : Int32), (119 : Int32), (51 : Int32), (46 : Int32), (111 : Int32), (114 : Int32), (103 : Int32), (47 : Int32), (50 : Int32), (48 : Int32), (48 : Int32), (50 : Int32), (47 : Int32), (48 : Int32), (55 : Int32), (47 : Int32), (111 : Int32), (119 : Int32), (108 : Int32), (35 : Int32), (78 : Int32), (111 : Int32), (116 : Int32), (104 : Int32), (105 : Int32), (110 : Int32), (103 : Int32)] : List Int32).map fun c => c.toInt8.toInt32) := iaLit A22 rfl (by decide +kernel)
    refine GoKit.aloadN G d10_22 rfl rfl (pc' := 23) rfl ?_
    have KP27 : Keep h0 h24 [] := (KP13.ext E18)
    refine GoKit.callVirtualP G d10_23 (wi hw 54 rfl) (wi hw 39 rfl) (wi hw 41 rfl) (wi hw 40 rfl) (wi hw 7 rfl) (wi hw 42 rfl) (by decide) S25.1 (W := 0) (argsL := [(.ref a)]) (rest := []) (con_equals l hw (cs := nothingL) (ds := cs) S25 (S.keep KP27) HC) rfl (lenOf pd_8 rfl) rfl (by decide) (Nat.le_of_eq rfl) (by decide) (by decide) (by decide) (cells' := 4) (slots' := 296) rfl rfl (pc' := 26) rfl ?_
    show Run _ _ _ _ _ _ _ _ _ _ _ _ _ _ _ _ _ _ _ _ (mkF m 26 #[.val (.ref a), .unset] [(.int (if nothingL = cs then 1 else 0))])
    refine GoKit.if_eq G d10_26 (by decide) (pt := 40) (pf := 29) rfl rfl (fun hb28 => ?_) (fun hb28 => ?_)
    · refine GoKit.newobj G d10_40 (wi hw 73 rfl) (wi hw 74 rfl) (wi hw 75 rfl) (by decide) (by decide) (cells' := 5) (slots' := 297) rfl rfl (pc' := 43) rfl (fun h33 a29 ga29 E30 X31 D32 => ?_)
      have F34 : Fld Z h33 a29 "com/example/tiny_reasoner/tinyreasoner/concept/Concept$Name" "iri" "Ljava/lang/String;" .null := D32 (Or.inr (wi hw 86 rfl)) (ty := (.object "java/lang/String")) (by decide)
      refine GoKit.dup G d10_43 rfl (pc' := 44) rfl ?_
      refine GoKit.aloadN G d10_44 rfl rfl (pc' := 45) rfl ?_
      refine GoKit.callSpecial G d10_45 rfl (wi hw 76 rfl) (wi hw 77 rfl) (wi hw 75 rfl) (wi hw 78 rfl) (by decide) (owc := [a29]) (W := 1) (argsL := [(.ref a)]) (rest := [(.ref a29)]) (con_name l hw ⟨X31, F34⟩) rfl (lenOf pd_9 rfl) rfl (by decide) (Nat.le_of_eq rfl) (by decide) (by decide) (by decide) (by intro x hx; simp only [List.mem_cons, List.not_mem_nil, or_false] at hx ⊢; simp [hx]) (cells' := 7) (slots' := 313) rfl rfl (pc' := 48) rfl (fun r35 h38 q36 K37 => ?_)
      obtain ⟨rfl, O39⟩ := q36
      show Run _ _ _ _ _ _ _ _ _ _ _ _ _ _ _ _ _ _ _ _ (mkF m 48 #[.val (.ref a), .unset] [(.ref a29)])
      refine GoKit.astoreN G d10_48 rfl (Ls' := #[.val (.ref a), .val (.ref a29)]) rfl (pc' := 49) rfl ?_
      refine GoKit.aloadN G d10_49 rfl rfl (pc' := 50) rfl ?_
      refine GoKit.retRef G d10_50 rfl rfl rfl (by decide) (by decide) ?_
      exact ⟨_, rfl, Or.inr (Or.inr ⟨fun q => ite_f hb14 q.symm, fun q => ite_f hb28 q.symm, ⟨O39.1, O39.2⟩⟩)⟩
    · refine GoKit.newobj G d10_29 (wi hw 97 rfl) (wi hw 98 rfl) (wi hw 99 rfl) (by decide) (by decide) (cells' := 5) (slots' := 296) rfl rfl (pc' := 32) rfl (fun h44 a40 ga40 E41 X42 D43 => ?_)
      refine GoKit.dup G d10_32 rfl (pc' := 33) rfl ?_
      refine GoKit.callSpecial G d10_33 rfl (wi hw 100 rfl) (wi hw 101 rfl) (wi hw 99 rfl) (wi hw 102 rfl) (by decide) (owc := []) (W := 1) (argsL := []) (rest := [(.ref a40)]) (con_bot l hw) rfl (lenOf pd_6 rfl) rfl (by decide) (Nat.le_of_eq rfl) (by decide) (by decide) (by decide) (fun _ q => nomatch q) (cells' := 5) (slots' := 296) rfl rfl (pc' := 36) rfl (fun r45 h48 q46 K47 => ?_)
      obtain rfl := q46
      show Run _ _ _ _ _ _ _ _ _ _ _ _ _ _ _ _ _ _ _ _ (mkF m 36 #[.val (.ref a), .unset] [(.ref a40)])
      refine GoKit.astoreN G d10_36 rfl (Ls' := #[.val (.ref a), .val (.ref a40)]) rfl (pc' := 37) rfl ?_
      refine GoKit.goto G d10_37 (by decide) (pc' := 49) rfl ?_
      refine GoKit.aloadN G d10_49 rfl rfl (pc' := 50) rfl ?_
      refine GoKit.retRef G d10_50 rfl rfl rfl (by decide) (by decide) ?_
      exact ⟨_, rfl, Or.inr (Or.inl ⟨fun q => ite_f hb14 q.symm, (ite_t hb28).symm, (X42.keep K47)⟩)⟩
  · refine GoKit.newobj G d10_9 (wi hw 55 rfl) (wi hw 56 rfl) (wi hw 57 rfl) (by decide) (by decide) (cells' := 3) (slots' := 144) rfl rfl (pc' := 12) rfl (fun h53 a49 ga49 E50 X51 D52 => ?_)
    refine GoKit.dup G d10_12 rfl (pc' := 13) rfl ?_
    refine GoKit.callSpecial G d10_13 rfl (wi hw 58 rfl) (wi hw 59 rfl) (wi hw 57 rfl) (wi hw 60 rfl) (by decide) (owc := []) (W := 1) (argsL := []) (rest := [(.ref a49)]) (con_top l hw) rfl (lenOf pd_6 rfl) rfl (by decide) (Nat.le_of_eq rfl) (by decide) (by decide) (by decide) (fun _ q => nomatch q) (cells' := 3) (slots' := 144) rfl rfl (pc' := 16) rfl (fun r54 h57 q55 K56 => ?_)
    obtain rfl := q55
    show Run _ _ _ _ _ _ _ _ _ _ _ _ _ _ _ _ _ _ _ _ (mkF m 16 #[.val (.ref a), .unset] [(.ref a49)])
    refine GoKit.astoreN G d10_16 rfl (Ls' := #[.val (.ref a), .val (.ref a49)]) rfl (pc' := 17) rfl ?_
    refine GoKit.goto G d10_17 (by decide) (pc' := 49) rfl ?_
    refine GoKit.aloadN G d10_49 rfl rfl (pc' := 50) rfl ?_
    refine GoKit.retRef G d10_50 rfl rfl rfl (by decide) (by decide) ?_
    exact ⟨_, rfl, Or.inl ⟨(ite_t hb14).symm, (X51.keep K56)⟩⟩
theorem pd_10 : parseMethodDescriptor "(Ljava/lang/String;)Lcom/example/tiny_reasoner/tinyreasoner/concept/Concept;" = some ⟨[(.object "java/lang/String")], some (.object "com/example/tiny_reasoner/tinyreasoner/concept/Concept")⟩ := by decide +kernel
theorem pd_11 : parseMethodDescriptor "()Ljava/lang/String;" = some ⟨[], some (.object "java/lang/String")⟩ := by decide +kernel
theorem pd_12 : parseMethodDescriptor "(IIII)Ljava/lang/String;" = some ⟨[.int, .int, .int, .int], some (.object "java/lang/String")⟩ := by decide +kernel
theorem pd_13 : parseMethodDescriptor "(C)Ljava/lang/String;" = some ⟨[.char], some (.object "java/lang/String")⟩ := by decide +kernel
set_option maxRecDepth 65536 in
set_option maxHeartbeats 40000000 in
theorem con_law (l : Launch) {Z : State} {a0 : Array Value} (hw : ∀ d ∈ tables_1, d.before a0 Z = true) {n0 : Nat} {h0 : Heap} (p0 : Int32) (p1 : Int32) (p2 : Int32) (p3 : Int32) (p4 : Int32) (HC : Cst Z) :
    Con l Z true ELs n0 x code maxLocals ret room_1 tables_1 #[(.int p0), (.int p1), (.int p2), (.int p3), (.int p4)] h0 [] (fun v h => v = some (.int 1)) := by
  refine Con.intro (plainFor_of_name pn_com_example_tiny_reasoner_tinyreasoner_concept_ConceptOfClassPinLaw) (hELs hw) ?_
  intro p e s m below meth c hh G
  refine castRun (g' := mkF m 0 #[.val (.int p0), .val (.int p1), .val (.int p2), .val (.int p3), .val (.int p4), .unset, .unset, .unset, .unset, .unset] []) (by first | rfl | (simp [entryFrame, mkF, argsToLocals, Value.category, maxLocals]; done)) ?_
  have J : ∀ (a6 : Addr) (cs : List Int32) (m5 : Int32) (h : Heap), Lat Z h a6 cs → Run p l e room_1 s m #[.int p0, .int p1, .int p2, .int p3, .int p4] below meth c Z true ELs n0 [] (fun v h => v = some (.int 1)) h [] 12 700 (mkF m 116 #[.val (.int p0), .val (.int p1), .val (.int p2), .val (.int p3), .val (.int p4), .val (.int m5), .val (.ref a6), .unset, .unset, .unset] []) := by
    intro a6 cs m5 h S
    refine GoKit.aload G at_116 rfl rfl (pc' := 118) rfl ?_
    refine GoKit.ldcStr G at_118 rfl (wi hw 35 rfl) (wS hw) (by decide) (vs := [.int (104 : Int32), .int (116 : Int32), .int (116 : Int32), .int (112 : Int32), .int (58 : Int32), .int (47 : Int32), .int (47 : Int32), .int (119 : Int32), .int (119 : Int32), .int (119 : Int32), .int (46 : Int32), .int (119 : Int32), .int (51 : Int32), .int (46 : Int32), .int (111 : Int32), .int (114 : Int32), .int (103 : Int32), .int (47 : Int32), .int (50 : Int32), .int (48 : Int32), .int (48 : Int32), .int (50 : Int32), .int (47 : Int32), .int (48 : Int32), .int (55 : Int32), .int (47 : Int32), .int (111 : Int32), .int (119 : Int32), .int (108 : Int32), .int (35 : Int32), .int (84 : Int32), .int (104 : Int32), .int (105 : Int32), .int (110 : Int32), .int (103 : Int32)]) (z := (35 : Int32)) ⟨by decide +kernel, by decide +kernel⟩ (by decide) rfl (n := 140) (by decide +kernel) (by decide) (by decide) (by decide) (cells' := 14) (slots' := 844) rfl rfl (pc' := 120) rfl (fun a1 b2 k3 h10 E4 X5 FC6 FV7 A8 N9 => ?_)
    have S11 : Lat Z h10 a1 [(104 : Int32), (116 : Int32), (116 : Int32), (112 : Int32), (58 : Int32), (47 : Int32), (47 : Int32), (119 : Int32), (119 : Int32), (119 : Int32), (46 : Int32), (119 : Int32), (51 : Int32), (46 : Int32), (111 : Int32), (114 : Int32), (103 : Int32), (47 : Int32), (50 : Int32), (48 : Int32), (48 : Int32), (50 : Int32), (47 : Int32), (48 : Int32), (55 : Int32), (47 : Int32), (111 : Int32), (119 : Int32), (108 : Int32), (35 : Int32), (84 : Int32), (104 : Int32), (105 : Int32), (110 : Int32), (103 : Int32)] := latLit X5 FC6 FV7 A8 rfl (by decide +kernel) (by decide +kernel)
    have A12 : IA Z h10 b2 .byte (([(104 : Int32), (116 : Int32), (116 : Int32), (112 : Int32), (58 : Int32), (47 : Int32), (47 : Int32), (119 : Int32), (119 : Int32), (119 : Int32), (46 : Int32), (119 : Int32), (51 : Int32), (46 : Int32), (111 : Int32), (114 : Int32), (103 : Int32), (47 : Int32), (50 : Int32), (48 : Int32), (48 : Int32), (50 : Int32), (47 : Int32), (48 : Int32), (55 : Int32), (47 : Int32), (111 : Int32), (119 : Int32), (108 : Int32), (35 : Int32), (84 : Int32), (104 : Int32), (105 : Int32), (110 : Int32), (103 : Int32)] : List Int32).map fun c => c.toInt8.toInt32) := iaLit A8 rfl (by decide +kernel)
    have KP13 : Keep h h10 [] := ((Keep.refl h []).ext E4)
    refine GoKit.callVirtualP G at_120 (wi hw 38 rfl) (wi hw 39 rfl) (wi hw 41 rfl) (wi hw 40 rfl) (wi hw 7 rfl) (wi hw 42 rfl) (by decide) (S.keep KP13).1 (W := 0) (argsL := [(.ref a1)]) (rest := []) (con_equals l hw (cs := cs) (ds := thingL) (S.keep KP13) S11 HC) rfl (lenOf pd_8 rfl) rfl (by decide) (Nat.le_of_eq rfl) (by decide) (by decide) (by decide) (cells' := 14) (slots' := 844) rfl rfl (pc' := 123) rfl ?_
    show Run _ _ _ _ _ _ _ _ _ _ _ _ _ _ _ _ _ _ _ _ (mkF m 123 #[.val (.int p0), .val (.int p1), .val (.int p2), .val (.int p3), .val (.int p4), .val (.int m5), .val (.ref a6), .unset, .unset, .unset] [(.int (if cs = thingL then 1 else 0))])
    refine GoKit.istore G at_123 (Ls' := #[.val (.int p0), .val (.int p1), .val (.int p2), .val (.int p3), .val (.int p4), .val (.int m5), .val (.ref a6), .val (.int (if cs = thingL then 1 else 0)), .unset, .unset]) rfl (pc' := 125) rfl ?_
    refine GoKit.aload G at_125 rfl rfl (pc' := 127) rfl ?_
    refine GoKit.ldcStr G at_127 rfl (wi hw 48 rfl) (wS hw) (by decide) (vs := [.int (104 : Int32), .int (116 : Int32), .int (116 : Int32), .int (112 : Int32), .int (58 : Int32), .int (47 : Int32), .int (47 : Int32), .int (119 : Int32), .int (119 : Int32), .int (119 : Int32), .int (46 : Int32), .int (119 : Int32), .int (51 : Int32), .int (46 : Int32), .int (111 : Int32), .int (114 : Int32), .int (103 : Int32), .int (47 : Int32), .int (50 : Int32), .int (48 : Int32), .int (48 : Int32), .int (50 : Int32), .int (47 : Int32), .int (48 : Int32), .int (55 : Int32), .int (47 : Int32), .int (111 : Int32), .int (119 : Int32), .int (108 : Int32), .int (35 : Int32), .int (78 : Int32), .int (111 : Int32), .int (116 : Int32), .int (104 : Int32), .int (105 : Int32), .int (110 : Int32), .int (103 : Int32)]) (z := (37 : Int32)) ⟨by decide +kernel, by decide +kernel⟩ (by decide) rfl (n := 148) (by decide +kernel) (by decide) (by decide) (by decide) (cells' := 16) (slots' := 996) rfl rfl (pc' := 129) rfl (fun a14 b15 k16 h23 E17 X18 FC19 FV20 A21 N22 => ?_)
    have S24 : Lat Z h23 a14 [(104 : Int32), (116 : Int32), (116 : Int32), (112 : Int32), (58 : Int32), (47 : Int32), (47 : Int32), (119 : Int32), (119 : Int32), (119 : Int32), (46 : Int32), (119 : Int32), (51 : Int32), (46 : Int32), (111 : Int32), (114 : Int32), (103 : Int32), (47 : Int32), (50 : Int32), (48 : Int32), (48 : Int32), (50 : Int32), (47 : Int32), (48 : Int32), (55 : Int32), (47 : Int32), (111 : Int32), (119 : Int32), (108 : Int32), (35 : Int32), (78 : Int32), (111 : Int32), (116 : Int32), (104 : Int32), (105 : Int32), (110 : Int32), (103 : Int32)] := latLit X18 FC19 FV20 A21 rfl (by decide +kernel) (by decide +kernel)
    have A25 : IA Z h23 b15 .byte (([(104 : Int32), (116 : Int32), (116 : Int32), (112 : Int32), (58 : Int32), (47 : Int32), (47 : Int32), (119 : Int32), (119 : Int32), (119 : Int32), (46 : Int32), (119 : Int32), (51 : Int32), (46 : Int32), (111 : Int32), (114 : Int32), (103 : Int32), (47 : Int32), (50 : Int32), (48 : Int32), (48 : Int32), (50 : Int32), (47 : Int32), (48 : Int32), (55 : Int32), (47 : Int32), (111 : Int32), (119 : Int32), (108 : Int32), (35 : Int32), (78 : Int32), (111 : Int32), (116 : Int32), (104 : Int32), (105 : Int32), (110 : Int32), (103 : Int32)] : List Int32).map fun c => c.toInt8.toInt32) := iaLit A21 rfl (by decide +kernel)
    have KP26 : Keep h h23 [] := (KP13.ext E17)
    refine GoKit.callVirtualP G at_129 (wi hw 38 rfl) (wi hw 39 rfl) (wi hw 41 rfl) (wi hw 40 rfl) (wi hw 7 rfl) (wi hw 42 rfl) (by decide) (S.keep KP26).1 (W := 0) (argsL := [(.ref a14)]) (rest := []) (con_equals l hw (cs := cs) (ds := nothingL) (S.keep KP26) S24 HC) rfl (lenOf pd_8 rfl) rfl (by decide) (Nat.le_of_eq rfl) (by decide) (by decide) (by decide) (cells' := 16) (slots' := 996) rfl rfl (pc' := 132) rfl ?_
    show Run _ _ _ _ _ _ _ _ _ _ _ _ _ _ _ _ _ _ _ _ (mkF m 132 #[.val (.int p0), .val (.int p1), .val (.int p2), .val (.int p3), .val (.int p4), .val (.int m5), .val (.ref a6), .val (.int (if cs = thingL then 1 else 0)), .unset, .unset] [(.int (if cs = nothingL then 1 else 0))])
    refine GoKit.istore G at_132 (Ls' := #[.val (.int p0), .val (.int p1), .val (.int p2), .val (.int p3), .val (.int p4), .val (.int m5), .val (.ref a6), .val (.int (if cs = thingL then 1 else 0)), .val (.int (if cs = nothingL then 1 else 0)), .unset]) rfl (pc' := 134) rfl ?_
    refine GoKit.aload G at_134 rfl rfl (pc' := 136) rfl ?_
    refine GoKit.callStatic G at_136 (wi hw 49 rfl) (wi hw 50 rfl) (wi hw 51 rfl) (wi hw 52 rfl) (by decide) (owc := []) (W := 0) (argsL := [(.ref a6)]) (rest := []) (con_ofClass l hw (S.keep KP26) HC) rfl (lenOf pd_10 rfl) rfl (by decide) (Nat.le_of_eq rfl) (by decide) (by decide) (by decide) (fun _ q => nomatch q) (cells' := 23) (slots' := 1309) rfl rfl (pc' := 139) rfl (fun r27 h30 q28 K29 => ?_)
    obtain ⟨b31, rfl, H32⟩ := q28
    show Run _ _ _ _ _ _ _ _ _ _ _ _ _ _ _ _ _ _ _ _ (mkF m 139 #[.val (.int p0), .val (.int p1), .val (.int p2), .val (.int p3), .val (.int p4), .val (.int m5), .val (.ref a6), .val (.int (if cs = thingL then 1 else 0)), .val (.int (if cs = nothingL then 1 else 0)), .unset] [(.ref b31)])
    refine GoKit.astore G at_139 rfl (Ls' := #[.val (.int p0), .val (.int p1), .val (.int p2), .val (.int p3), .val (.int p4), .val (.int m5), .val (.ref a6), .val (.int (if cs = thingL then 1 else 0)), .val (.int (if cs = nothingL then 1 else 0)), .val (.ref b31)]) rfl (pc' := 141) rfl ?_
    rcases H32 with ⟨e1, X1⟩ | ⟨e1, e2, X1⟩ | ⟨e1, e2, X1⟩
    · refine GoKit.iload G at_141 rfl (pc' := 143) rfl ?_
      refine GoKit.if_eq_f G at_143 (by rw [if_pos e1]; decide) (pc' := 146) rfl ?_
      refine GoKit.aload G at_146 rfl rfl (pc' := 148) rfl ?_
      refine GoKit.instYes G at_148 (wi hw 67 rfl) (Ins.self X1) (pc' := 151) rfl ?_
      refine GoKit.retNar G at_151 (t := .boolean) rfl (by simp) (by decide) (by decide) ?_
      exact rfl
    · refine GoKit.iload G at_141 rfl (pc' := 143) rfl ?_
      refine GoKit.if_eq_t G at_143 (if_neg e1) (by decide) (pc' := 152) rfl ?_
      refine GoKit.iload G at_152 rfl (pc' := 154) rfl ?_
      refine GoKit.if_eq_f G at_154 (by rw [if_pos e2]; decide) (pc' := 157) rfl ?_
      refine GoKit.aload G at_157 rfl rfl (pc' := 159) rfl ?_
      refine GoKit.instYes G at_159 (wi hw 104 rfl) (Ins.self X1) (pc' := 162) rfl ?_
      refine GoKit.retNar G at_162 (t := .boolean) rfl (by simp) (by decide) (by decide) ?_
      exact rfl
    · refine GoKit.iload G at_141 rfl (pc' := 143) rfl ?_
      refine GoKit.if_eq_t G at_143 (if_neg e1) (by decide) (pc' := 152) rfl ?_
      refine GoKit.iload G at_152 rfl (pc' := 154) rfl ?_
      refine GoKit.if_eq_t G at_154 (if_neg e2) (by decide) (pc' := 163) rfl ?_
      refine GoKit.aload G at_163 rfl rfl (pc' := 165) rfl ?_
      refine GoKit.instYes G at_165 (wi hw 87 rfl) (Ins.self X1.1) (pc' := 168) rfl ?_
      refine GoKit.if_ne_t G at_168 (by decide) (by decide) (pc' := 173) rfl ?_
      refine GoKit.aload G at_173 rfl rfl (pc' := 175) rfl ?_
      refine GoKit.castOk G at_175 (wi hw 87 rfl) (Ins.self X1.1) (pc' := 178) rfl ?_
      refine GoKit.callVirtualP G at_178 (wi hw 89 rfl) (wi hw 90 rfl) (wi hw 92 rfl) (wi hw 91 rfl) (wi hw 75 rfl) (wi hw 93 rfl) (by decide) X1.1 (W := 0) (argsL := []) (rest := []) (con_iri l hw ⟨X1.1, X1.2⟩) rfl (lenOf pd_11 rfl) rfl (by decide) (Nat.le_of_eq rfl) (by decide) (by decide) (by decide) (cells' := 23) (slots' := 1309) rfl rfl (pc' := 181) rfl ?_
      show Run _ _ _ _ _ _ _ _ _ _ _ _ _ _ _ _ _ _ _ _ (mkF m 181 #[.val (.int p0), .val (.int p1), .val (.int p2), .val (.int p3), .val (.int p4), .val (.int m5), .val (.ref a6), .val (.int (if cs = thingL then 1 else 0)), .val (.int (if cs = nothingL then 1 else 0)), .val (.ref b31)] [(.ref a6)])
      refine GoKit.aload G at_181 rfl rfl (pc' := 183) rfl ?_
      have KP33 : Keep h h30 [] := (KP26.trans K29 all0)
      refine GoKit.callVirtualP G at_183 (wi hw 38 rfl) (wi hw 39 rfl) (wi hw 41 rfl) (wi hw 40 rfl) (wi hw 7 rfl) (wi hw 42 rfl) (by decide) (S.keep KP33).1 (W := 0) (argsL := [(.ref a6)]) (rest := []) (con_equalsSelf l hw) rfl (lenOf pd_8 rfl) rfl (by decide) (Nat.le_of_eq rfl) (by decide) (by decide) (by decide) (cells' := 23) (slots' := 1309) rfl rfl (pc' := 186) rfl ?_
      show Run _ _ _ _ _ _ _ _ _ _ _ _ _ _ _ _ _ _ _ _ (mkF m 186 #[.val (.int p0), .val (.int p1), .val (.int p2), .val (.int p3), .val (.int p4), .val (.int m5), .val (.ref a6), .val (.int (if cs = thingL then 1 else 0)), .val (.int (if cs = nothingL then 1 else 0)), .val (.ref b31)] [(.int 1)])
      refine GoKit.retNar G at_186 (t := .boolean) rfl (by simp) (by decide) (by decide) ?_
      exact rfl
  refine GoKit.iloadN G at_0 rfl (pc' := 1) rfl ?_
  refine GoKit.ldcInt G at_1 (wi hw 0 rfl) (pc' := 3) rfl ?_
  refine GoKit.iand G at_3 (pc' := 4) rfl (fun v34 hqv34 => ?_)
  refine GoKit.bipush G (6 : Int32) at_4 rfl (pc' := 6) rfl ?_
  refine GoKit.irem G at_6 (by decide) (pc' := 7) rfl (fun v35 hqv35 => ?_)
  refine GoKit.istore G at_7 (Ls' := #[.val (.int p0), .val (.int p1), .val (.int p2), .val (.int p3), .val (.int p4), .val (.int v35), .unset, .unset, .unset, .unset]) rfl (pc' := 9) rfl ?_
  refine GoKit.iload G at_9 rfl (pc' := 11) rfl ?_
  refine GoKit.if_ne G at_11 (by decide) (pt := 24) (pf := 14) rfl rfl (fun hb36 => ?_) (fun hb36 => ?_)
  · refine GoKit.iload G at_24 rfl (pc' := 26) rfl ?_
    refine GoKit.iconst G (1 : Int32) at_26 rfl (pc' := 27) rfl ?_
    refine GoKit.icmp_ne G at_27 (by decide) (pt := 40) (pf := 30) rfl rfl (fun hb37 => ?_) (fun hb37 => ?_)
    · refine GoKit.iload G at_40 rfl (pc' := 42) rfl ?_
      refine GoKit.iconst G (2 : Int32) at_42 rfl (pc' := 43) rfl ?_
      refine GoKit.icmp_ne G at_43 (by decide) (pt := 60) (pf := 46) rfl rfl (fun hb38 => ?_) (fun hb38 => ?_)
      · refine GoKit.iload G at_60 rfl (pc' := 62) rfl ?_
        refine GoKit.iconst G (3 : Int32) at_62 rfl (pc' := 63) rfl ?_
        refine GoKit.icmp_ne G at_63 (by decide) (pt := 80) (pf := 66) rfl rfl (fun hb39 => ?_) (fun hb39 => ?_)
        · refine GoKit.iload G at_80 rfl (pc' := 82) rfl ?_
          refine GoKit.iconst G (4 : Int32) at_82 rfl (pc' := 83) rfl ?_
          refine GoKit.icmp_ne G at_83 (by decide) (pt := 101) (pf := 86) rfl rfl (fun hb40 => ?_) (fun hb40 => ?_)
          · refine GoKit.iloadN G at_101 rfl (pc' := 102) rfl ?_
            refine GoKit.iconst G (1 : Int32) at_102 rfl (pc' := 103) rfl ?_
            refine GoKit.iand G at_103 (pc' := 104) rfl (fun v41 hqv41 => ?_)
            refine GoKit.if_ne G at_104 (by decide) (pt := 112) (pf := 107) rfl rfl (fun hb42 => ?_) (fun hb42 => ?_)
            · refine GoKit.ldcStr G at_112 rfl (wi hw 48 rfl) (wS hw) (by decide) (vs := [.int (104 : Int32), .int (116 : Int32), .int (116 : Int32), .int (112 : Int32), .int (58 : Int32), .int (47 : Int32), .int (47 : Int32), .int (119 : Int32), .int (119 : Int32), .int (119 : Int32), .int (46 : Int32), .int (119 : Int32), .int (51 : Int32), .int (46 : Int32), .int (111 : Int32), .int (114 : Int32), .int (103 : Int32), .int (47 : Int32), .int (50 : Int32), .int (48 : Int32), .int (48 : Int32), .int (50 : Int32), .int (47 : Int32), .int (48 : Int32), .int (55 : Int32), .int (47 : Int32), .int (111 : Int32), .int (119 : Int32), .int (108 : Int32), .int (35 : Int32), .int (78 : Int32), .int (111 : Int32), .int (116 : Int32), .int (104 : Int32), .int (105 : Int32), .int (110 : Int32), .int (103 : Int32)]) (z := (37 : Int32)) ⟨by decide +kernel, by decide +kernel⟩ (by decide) rfl (n := 148) (by decide +kernel) (by decide) (by decide) (by decide) (cells' := 2) (slots' := 152) rfl rfl (pc' := 114) rfl (fun a43 b44 k45 h52 E46 X47 FC48 FV49 A50 N51 => ?_)
              have S53 : Lat Z h52 a43 [(104 : Int32), (116 : Int32), (116 : Int32), (112 : Int32), (58 : Int32), (47 : Int32), (47 : Int32), (119 : Int32), (119 : Int32), (119 : Int32), (46 : Int32), (119 : Int32), (51 : Int32), (46 : Int32), (111 : Int32), (114 : Int32), (103 : Int32), (47 : Int32), (50 : Int32), (48 : Int32), (48 : Int32), (50 : Int32), (47 : Int32), (48 : Int32), (55 : Int32), (47 : Int32), (111 : Int32), (119 : Int32), (108 : Int32), (35 : Int32), (78 : Int32), (111 : Int32), (116 : Int32), (104 : Int32), (105 : Int32), (110 : Int32), (103 : Int32)] := latLit X47 FC48 FV49 A50 rfl (by decide +kernel) (by decide +kernel)
              have A54 : IA Z h52 b44 .byte (([(104 : Int32), (116 : Int32), (116 : Int32), (112 : Int32), (58 : Int32), (47 : Int32), (47 : Int32), (119 : Int32), (119 : Int32), (119 : Int32), (46 : Int32), (119 : Int32), (51 : Int32), (46 : Int32), (111 : Int32), (114 : Int32), (103 : Int32), (47 : Int32), (50 : Int32), (48 : Int32), (48 : Int32), (50 : Int32), (47 : Int32), (48 : Int32), (55 : Int32), (47 : Int32), (111 : Int32), (119 : Int32), (108 : Int32), (35 : Int32), (78 : Int32), (111 : Int32), (116 : Int32), (104 : Int32), (105 : Int32), (110 : Int32), (103 : Int32)] : List Int32).map fun c => c.toInt8.toInt32) := iaLit A50 rfl (by decide +kernel)
              refine GoKit.astore G at_114 rfl (Ls' := #[.val (.int p0), .val (.int p1), .val (.int p2), .val (.int p3), .val (.int p4), .val (.int v35), .val (.ref a43), .unset, .unset, .unset]) rfl (pc' := 116) rfl ?_
              refine Run.mono (cells' := 12) (slots' := 700) (by decide) (by decide) ?_
              refine Run.owless (ow' := []) (fun _ q => nomatch q) ?_
              exact J _ _ _ _ S53
            · refine GoKit.ldcStr G at_107 rfl (wi hw 35 rfl) (wS hw) (by decide) (vs := [.int (104 : Int32), .int (116 : Int32), .int (116 : Int32), .int (112 : Int32), .int (58 : Int32), .int (47 : Int32), .int (47 : Int32), .int (119 : Int32), .int (119 : Int32), .int (119 : Int32), .int (46 : Int32), .int (119 : Int32), .int (51 : Int32), .int (46 : Int32), .int (111 : Int32), .int (114 : Int32), .int (103 : Int32), .int (47 : Int32), .int (50 : Int32), .int (48 : Int32), .int (48 : Int32), .int (50 : Int32), .int (47 : Int32), .int (48 : Int32), .int (55 : Int32), .int (47 : Int32), .int (111 : Int32), .int (119 : Int32), .int (108 : Int32), .int (35 : Int32), .int (84 : Int32), .int (104 : Int32), .int (105 : Int32), .int (110 : Int32), .int (103 : Int32)]) (z := (35 : Int32)) ⟨by decide +kernel, by decide +kernel⟩ (by decide) rfl (n := 140) (by decide +kernel) (by decide) (by decide) (by decide) (cells' := 2) (slots' := 144) rfl rfl (pc' := 109) rfl (fun a55 b56 k57 h64 E58 X59 FC60 FV61 A62 N63 => ?_)
              have S65 : Lat Z h64 a55 [(104 : Int32), (116 : Int32), (116 : Int32), (112 : Int32), (58 : Int32), (47 : Int32), (47 : Int32), (119 : Int32), (119 : Int32), (119 : Int32), (46 : Int32), (119 : Int32), (51 : Int32), (46 : Int32), (111 : Int32), (114 : Int32), (103 : Int32), (47 : Int32), (50 : Int32), (48 : Int32), (48 : Int32), (50 : Int32), (47 : Int32), (48 : Int32), (55 : Int32), (47 : Int32), (111 : Int32), (119 : Int32), (108 : Int32), (35 : Int32), (84 : Int32), (104 : Int32), (105 : Int32), (110 : Int32), (103 : Int32)] := latLit X59 FC60 FV61 A62 rfl (by decide +kernel) (by decide +kernel)
              have A66 : IA Z h64 b56 .byte (([(104 : Int32), (116 : Int32), (116 : Int32), (112 : Int32), (58 : Int32), (47 : Int32), (47 : Int32), (119 : Int32), (119 : Int32), (119 : Int32), (46 : Int32), (119 : Int32), (51 : Int32), (46 : Int32), (111 : Int32), (114 : Int32), (103 : Int32), (47 : Int32), (50 : Int32), (48 : Int32), (48 : Int32), (50 : Int32), (47 : Int32), (48 : Int32), (55 : Int32), (47 : Int32), (111 : Int32), (119 : Int32), (108 : Int32), (35 : Int32), (84 : Int32), (104 : Int32), (105 : Int32), (110 : Int32), (103 : Int32)] : List Int32).map fun c => c.toInt8.toInt32) := iaLit A62 rfl (by decide +kernel)
              refine GoKit.goto G at_109 (by decide) (pc' := 114) rfl ?_
              refine GoKit.astore G at_114 rfl (Ls' := #[.val (.int p0), .val (.int p1), .val (.int p2), .val (.int p3), .val (.int p4), .val (.int v35), .val (.ref a55), .unset, .unset, .unset]) rfl (pc' := 116) rfl ?_
              refine Run.mono (cells' := 12) (slots' := 700) (by decide) (by decide) ?_
              refine Run.owless (ow' := []) (fun _ q => nomatch q) ?_
              exact J _ _ _ _ S65
          · refine GoKit.iload G at_86 rfl (pc' := 88) rfl ?_
            refine GoKit.iconst G (3 : Int32) at_88 rfl (pc' := 89) rfl ?_
            refine GoKit.iand G at_89 (pc' := 90) rfl (fun v67 hqv67 => ?_)
            refine GoKit.iloadN G at_90 rfl (pc' := 91) rfl ?_
            refine GoKit.iloadN G at_91 rfl (pc' := 92) rfl ?_
            refine GoKit.iloadN G at_92 rfl (pc' := 93) rfl ?_
            refine GoKit.callStatic G at_93 (wi hw 94 rfl) (wi hw 95 rfl) (wi hw 3 rfl) (wi hw 96 rfl) (by decide) (owc := []) (W := 0) (argsL := [(.int v67), (.int p1), (.int p2), (.int p3)]) (rest := []) (con_drawn l hw v67 p1 p2 p3 HC) rfl (lenOf pd_12 rfl) rfl (by decide) (Nat.le_of_eq rfl) (by decide) (by decide) (by decide) (fun _ q => nomatch q) (cells' := 6) (slots' := 44) rfl rfl (pc' := 96) rfl (fun r68 h71 q69 K70 => ?_)
            obtain ⟨a72, cs73, rfl, S74⟩ := q69
            show Run _ _ _ _ _ _ _ _ _ _ _ _ _ _ _ _ _ _ _ _ (mkF m 96 #[.val (.int p0), .val (.int p1), .val (.int p2), .val (.int p3), .val (.int p4), .val (.int v35), .unset, .unset, .unset, .unset] [(.ref a72)])
            refine GoKit.astore G at_96 rfl (Ls' := #[.val (.int p0), .val (.int p1), .val (.int p2), .val (.int p3), .val (.int p4), .val (.int v35), .val (.ref a72), .unset, .unset, .unset]) rfl (pc' := 98) rfl ?_
            refine GoKit.goto G at_98 (by decide) (pc' := 116) rfl ?_
            refine Run.mono (cells' := 12) (slots' := 700) (by decide) (by decide) ?_
            refine Run.owless (ow' := []) (fun _ q => nomatch q) ?_
            exact J _ _ _ _ S74
        · refine GoKit.iloadN G at_66 rfl (pc' := 67) rfl ?_
          refine GoKit.sipush G (255 : Int32) at_67 rfl (pc' := 70) rfl ?_
          refine GoKit.iand G at_70 (pc' := 71) rfl (fun v75 hqv75 => ?_)
          refine GoKit.i2c G at_71 (pc' := 72) rfl (fun v76 hqv76 => ?_)
          have l77 := ch8 _ _ _ hqv75 hqv76
          have c78 : nar .char v76 = v76 := by rw [hqv76]; exact nar_i2c _
          refine GoKit.callStatic G at_72 (wi hw 69 rfl) (wi hw 70 rfl) (wi hw 3 rfl) (wi hw 71 rfl) (by decide) (owc := []) (W := 0) (argsL := [(.int v76)]) (rest := []) (con_nothingWith l hw l77 HC) rfl (lenOf pd_13 rfl) rfl (by decide) (Nat.le_of_eq rfl) (by decide) (by decide) (by decide) (fun _ q => nomatch q) (cells' := 3) (slots' := 78) rfl rfl (pc' := 75) rfl (fun r79 h82 q80 K81 => ?_)
          obtain ⟨a83, cs84, rfl, S85⟩ := q80
          show Run _ _ _ _ _ _ _ _ _ _ _ _ _ _ _ _ _ _ _ _ (mkF m 75 #[.val (.int p0), .val (.int p1), .val (.int p2), .val (.int p3), .val (.int p4), .val (.int v35), .unset, .unset, .unset, .unset] [(.ref a83)])
          refine GoKit.astore G at_75 rfl (Ls' := #[.val (.int p0), .val (.int p1), .val (.int p2), .val (.int p3), .val (.int p4), .val (.int v35), .val (.ref a83), .unset, .unset, .unset]) rfl (pc' := 77) rfl ?_
          refine GoKit.goto G at_77 (by decide) (pc' := 116) rfl ?_
          refine Run.mono (cells' := 12) (slots' := 700) (by decide) (by decide) ?_
          refine Run.owless (ow' := []) (fun _ q => nomatch q) ?_
          exact J _ _ _ _ S85
      · refine GoKit.iloadN G at_46 rfl (pc' := 47) rfl ?_
        refine GoKit.sipush G (255 : Int32) at_47 rfl (pc' := 50) rfl ?_
        refine GoKit.iand G at_50 (pc' := 51) rfl (fun v86 hqv86 => ?_)
        refine GoKit.i2c G at_51 (pc' := 52) rfl (fun v87 hqv87 => ?_)
        have l88 := ch8 _ _ _ hqv86 hqv87
        have c89 : nar .char v87 = v87 := by rw [hqv87]; exact nar_i2c _
        refine GoKit.callStatic G at_52 (wi hw 1 rfl) (wi hw 2 rfl) (wi hw 3 rfl) (wi hw 4 rfl) (by decide) (owc := []) (W := 0) (argsL := [(.int v87)]) (rest := []) (con_thingWith l hw l88 HC) rfl (lenOf pd_13 rfl) rfl (by decide) (Nat.le_of_eq rfl) (by decide) (by decide) (by decide) (fun _ q => nomatch q) (cells' := 3) (slots' := 76) rfl rfl (pc' := 55) rfl (fun r90 h93 q91 K92 => ?_)
        obtain ⟨a94, cs95, rfl, S96⟩ := q91
        show Run _ _ _ _ _ _ _ _ _ _ _ _ _ _ _ _ _ _ _ _ (mkF m 55 #[.val (.int p0), .val (.int p1), .val (.int p2), .val (.int p3), .val (.int p4), .val (.int v35), .unset, .unset, .unset, .unset] [(.ref a94)])
        refine GoKit.astore G at_55 rfl (Ls' := #[.val (.int p0), .val (.int p1), .val (.int p2), .val (.int p3), .val (.int p4), .val (.int v35), .val (.ref a94), .unset, .unset, .unset]) rfl (pc' := 57) rfl ?_
        refine GoKit.goto G at_57 (by decide) (pc' := 116) rfl ?_
        refine Run.mono (cells' := 12) (slots' := 700) (by decide) (by decide) ?_
        refine Run.owless (ow' := []) (fun _ q => nomatch q) ?_
        exact J _ _ _ _ S96
    · refine GoKit.bipush G (103 : Int32) at_30 rfl (pc' := 32) rfl ?_
      refine GoKit.callStatic G at_32 (wi hw 69 rfl) (wi hw 70 rfl) (wi hw 3 rfl) (wi hw 71 rfl) (by decide) (owc := []) (W := 0) (argsL := [(.int (103 : Int32))]) (rest := []) (con_nothingWith l hw (by decide) HC) rfl (lenOf pd_13 rfl) rfl (by decide) (Nat.le_of_eq rfl) (by decide) (by decide) (by decide) (fun _ q => nomatch q) (cells' := 3) (slots' := 78) rfl rfl (pc' := 35) rfl (fun r97 h100 q98 K99 => ?_)
      obtain ⟨a101, cs102, rfl, S103⟩ := q98
      show Run _ _ _ _ _ _ _ _ _ _ _ _ _ _ _ _ _ _ _ _ (mkF m 35 #[.val (.int p0), .val (.int p1), .val (.int p2), .val (.int p3), .val (.int p4), .val (.int v35), .unset, .unset, .unset, .unset] [(.ref a101)])
      refine GoKit.astore G at_35 rfl (Ls' := #[.val (.int p0), .val (.int p1), .val (.int p2), .val (.int p3), .val (.int p4), .val (.int v35), .val (.ref a101), .unset, .unset, .unset]) rfl (pc' := 37) rfl ?_
      refine GoKit.goto G at_37 (by decide) (pc' := 116) rfl ?_
      refine Run.mono (cells' := 12) (slots' := 700) (by decide) (by decide) ?_
      refine Run.owless (ow' := []) (fun _ q => nomatch q) ?_
      exact J _ _ _ _ S103
  · refine GoKit.bipush G (103 : Int32) at_14 rfl (pc' := 16) rfl ?_
    refine GoKit.callStatic G at_16 (wi hw 1 rfl) (wi hw 2 rfl) (wi hw 3 rfl) (wi hw 4 rfl) (by decide) (owc := []) (W := 0) (argsL := [(.int (103 : Int32))]) (rest := []) (con_thingWith l hw (by decide) HC) rfl (lenOf pd_13 rfl) rfl (by decide) (Nat.le_of_eq rfl) (by decide) (by decide) (by decide) (fun _ q => nomatch q) (cells' := 3) (slots' := 76) rfl rfl (pc' := 19) rfl (fun r104 h107 q105 K106 => ?_)
    obtain ⟨a108, cs109, rfl, S110⟩ := q105
    show Run _ _ _ _ _ _ _ _ _ _ _ _ _ _ _ _ _ _ _ _ (mkF m 19 #[.val (.int p0), .val (.int p1), .val (.int p2), .val (.int p3), .val (.int p4), .val (.int v35), .unset, .unset, .unset, .unset] [(.ref a108)])
    refine GoKit.astore G at_19 rfl (Ls' := #[.val (.int p0), .val (.int p1), .val (.int p2), .val (.int p3), .val (.int p4), .val (.int v35), .val (.ref a108), .unset, .unset, .unset]) rfl (pc' := 21) rfl ?_
    refine GoKit.goto G at_21 (by decide) (pc' := 116) rfl ?_
    refine Run.mono (cells' := 12) (slots' := 700) (by decide) (by decide) ?_
    refine Run.owless (ow' := []) (fun _ q => nomatch q) ?_
    exact J _ _ _ _ S110
set_option maxRecDepth 65536 in
set_option maxHeartbeats 40000000 in
theorem comes_1 {Post : Tables → Env → Array Value → State → Outcome → State → Prop} (hpost : ∀ tb e args s v u, (limb_1_1.after args s (.returned v) u = true ∧ limb_1_2.after args s (.returned v) u = true ∧ True) → ReturnedEndW s (.returned v) u (Jvm.fieldLocs frame_1_writes args s ++ Jvm.arrayLocs frame_1_arrays args s ++ Jvm.staticLocs frame_1_statics s) 32 6400 → Post tb e args s (.returned v) u) :
    ArmFor flags0 classFile x code maxLocals ret World_1 tables_1 room_1 Calls_1 rest_1 Pre_1 Post := by
  intro l hfl _ _ p e ha hc hk s m args below hf hA hF happ hP
  obtain ⟨hcalls, hrest, hpre⟩ := hP
  obtain ⟨-, -, -, hnamed, -, -, -, hat⟩ := (Spec.applies_iff hf).mp happ
  obtain ⟨hg, hn⟩ := and_e (Cond.before_iff.mp (show (Jvm.Cond.and given_1 narrow_1).before args s = true from hpre))
  obtain ⟨gc, g0⟩ := and_e hg
  obtain ⟨t0, g1⟩ := and_e g0
  obtain ⟨t1, g2⟩ := and_e g1
  obtain ⟨t2, g3⟩ := and_e g2
  obtain ⟨t3, g4⟩ := and_e g3
  have t4 := g4
  obtain ⟨w0, w1, w2, w3, w4, rfl⟩ : ∃ w0 w1 w2 w3 w4 : Value, args = #[w0, w1, w2, w3, w4] := by
    have hs : args.size = 5 := by simpa [Cond.value, given_1] using gc
    obtain ⟨L⟩ := args
    match L, hs with
    | [w0, w1, w2, w3, w4], _ => exact ⟨w0, w1, w2, w3, w4, rfl⟩
  have hw := fun d (hd : d ∈ tables_1) => atoms_spec (ws := Jvm.Cond.code x code maxLocals ret :: tables_1) hat d (List.mem_cons_of_mem _ hd)
  have hfit : Fit s := fun {y c} hc i hi => by
    obtain ⟨ha, rfl⟩ := Array.getElem?_eq_some_iff.mp hc
    have q := List.all_eq_true.mp ((Array.all_eq_true_iff_forall_mem.mp hF) _ (Array.getElem_mem ha)) i (List.mem_range.mpr hi)
    simpa [Array.getElem?_eq_getElem hi] using q
  obtain ⟨hsets, hown0⟩ := atoms_of _ (rest_1_c_eq ▸ (show rest_1_c.before _ s = true from hrest))
  obtain ⟨i0, ei0⟩ := is_v t0
  obtain rfl : w0 = (.int i0) := Option.some.inj ei0
  obtain ⟨i1, ei1⟩ := is_v t1
  obtain rfl : w1 = (.int i1) := Option.some.inj ei1
  obtain ⟨i2, ei2⟩ := is_v t2
  obtain rfl : w2 = (.int i2) := Option.some.inj ei2
  obtain ⟨i3, ei3⟩ := is_v t3
  obtain rfl : w3 = (.int i3) := Option.some.inj ei3
  obtain ⟨i4, ei4⟩ := is_v t4
  obtain rfl : w4 = (.int i4) := Option.some.inj ei4
  have HC : Cst s := by
    obtain ⟨cz, ecz⟩ := is_v (Cond.before_iff.mp (hsets _ (List.mem_of_getElem? (i := 1) rfl)))
    refine ⟨cz, Sta.start ecz (Or.inl (hsets _ (List.mem_of_getElem? (i := 0) rfl))), fun q => ?_⟩
    have := Cond.before_iff.mp (hsets _ (List.mem_of_getElem? (i := 2) rfl))
    subst q
    simp [Cond.value, ecz, Term.int_eval] at this
  have hCH : CHv s ELs s.vm s.heap := CHv.start (hELs hw) (fun q hq => hcalls.1 q hq) (hsets _ (List.mem_of_getElem? (i := 2) rfl)) (wi hw 24 rfl) (wi hw 6 rfl)
  obtain ⟨n, o, h1, h2, h3, v, L, rfl, rfl, N, -, -, hE, hWd⟩ := (con_law l hw i0 i1 i2 i3 i4 HC) p e ha hc hk s m _ below hf ((Spec.applies_iff_loose hf).mp happ).1 ⟨rfl, State.Warmed39.refl s, rfl, Old.start s, hCH, all0⟩ trivial
  exact ⟨n, _, h1, h2, h3, hpost _ _ _ _ _ _ ⟨Cond.after_iff.mpr rfl, Cond.after_iff.mpr (eq_i res_at (Term.int_eval (1)) rfl), trivial⟩ ⟨hE.1, hE.2.1, hE.2.2.1, (hE.2.2.2.sift fun y hy => Or.inr (N y hy)).mono (by decide) (by decide)⟩⟩
theorem main_1_1 : Claimed_1_1 := comes_1 fun _ _ _ _ _ _ h hF => ⟨h.1, hF⟩
theorem main_1_2 : Claimed_1_2 := comes_1 fun _ _ _ _ _ _ h hF => ⟨h.2.1, hF⟩
end Jvm.Pilot.@@N@@
namespace Jvm.Pilot.@@N@@
open Jvm Jvm.ClassFile Sem Op Lib Jvm.Free Jvm.Stand Jvm.Pilot.@@N@@.Jvm.D
/-! MADE BY PROGRAM (witnessworld.py) out of the Statement's table words and the real class files: 25 classes; the members and pool entries that the words name. The judged class is class 1, her method 4. -/
namespace start1
open Jvm.ClassFile
def u (s : String) : CpInfo := .utf8 (stringToUtf16 s)
/-- a pool by its gaps: so many unusable entries, then the entry; so many at the end -/
def gap : Nat → List CpInfo → List CpInfo
  | 0, r => r
  | n + 1, r => .unusable :: gap n r
def poolList (es : List (Nat × CpInfo)) (last : Nat) : List CpInfo := es.foldr (fun e r => gap e.1 (e.2 :: r)) (gap last [])
def pool (es : List (Nat × CpInfo)) (last : Nat) : Array CpInfo := ⟨poolList es last⟩
def fileOf (pool : Array CpInfo) (this : Nat) (attrs : Array Attribute := #[]) (ms : Array MethodInfo := #[]) (fl : Nat := 33) (sup : Nat := 0) (ifs : Array Nat := #[]) (fds : Array FieldInfo := #[]) : ClassFile where
  minorVersion := 0
  majorVersion := 65
  constantPool := pool
  accessFlags := fl
  thisClass := this
  superClass := sup
  interfaces := ifs
  fields := fds
  methods := ms
  attributes := attrs
def plain (name : String) (sup : Option ClassId) : Class where
  name := name
  kind := .ordinary
  loader := none
  accessFlags := 33
  super := sup
  interfaces := #[]
  cf := none
  fields := #[]
  methods := #[]
  instanceTypes := #[]
  staticTypes := #[]
  resolved := #[]
  callSites := []
  init := .initialized
  statics := none
  mirror := none

def pool0 : Array CpInfo := pool [(5, u "<init>"), (0, u "()V"), (1, .class_ 10), (1, u "java/lang/Object")] 113

def k0c0 : Code := { maxStack := 0, maxLocals := 1, code := object_method_1_code, exceptionTable := #[], attributes := #[] }
def k0m0 : Method := { name := "<init>", desc := "()V", sig := { parameters := [], returnType := none }, accessFlags := 1, code := some k0c0 }
/-- java/lang/Object -/
def k0 : Class := { plain "java/lang/Object" none with
  accessFlags := 33
  interfaces := #[]
  cf := some (fileOf pool0 8 #[] #[{ accessFlags := 1, nameIndex := 5, descriptorIndex := 6, attributes := #[] }] 33 0 #[] #[])
  fields := #[]
  methods := #[k0m0]
  instanceTypes := #[]
  staticTypes := #[]
  resolved := Array.replicate 124 none
  statics := none }

def pool1 : Array CpInfo := pool [(2, .class_ 4), (1, u "java/lang/Object"), (0, u "<init>"), (0, u "()V"), (0, .class_ 8), (0, u "java/lang/String"), (0, .methodref 7 10), (0, .nameAndType 5 11), (0, u "([C)V"), (0, .integer 2147483647), (0, .methodref 14 15), (0, .class_ 16), (0, .nameAndType 17 18), (0, u "com/example/tiny_reasoner/tinyreasoner/concept/ConceptOfClassPinLaw"), (0, u "thingWith"), (0, u "(C)Ljava/lang/String;"), (0, .methodref 14 20), (0, .nameAndType 21 18), (0, u "nothingWith"), (0, .methodref 14 23), (0, .nameAndType 24 25), (0, u "drawn"), (0, u "(IIII)Ljava/lang/String;"), (0, .class_ 27), (0, u "com/example/tiny_reasoner/tinyreasoner/concept/Concept"), (0, .string 29), (0, u "http://www.w3.org/2002/07/owl#Thing"), (0, .string 31), (0, u "http://www.w3.org/2002/07/owl#Nothing"), (0, .methodref 7 33), (0, .nameAndType 34 35), (0, u "equals"), (0, u "(Ljava/lang/Object;)Z"), (0, .interfaceMethodref 26 37), (0, .nameAndType 38 39), (0, u "ofClass"), (0, u "(Ljava/lang/String;)Lcom/example/tiny_reasoner/tinyreasoner/concept/Concept;"), (0, .class_ 41), (0, u "com/example/tiny_reasoner/tinyreasoner/concept/Concept$Top"), (0, .class_ 43), (0, u "com/example/tiny_reasoner/tinyreasoner/concept/Concept$Bottom"), (0, .class_ 45), (0, u "com/example/tiny_reasoner/tinyreasoner/concept/Concept$Name"), (0, .methodref 44 47), (0, .nameAndType 48 49), (0, u "iri"), (0, u "()Ljava/lang/String;"), (3, u "law"), (0, u "(IIIII)Z")] 6

def k1m0 : Method := { name := "<init>", desc := "()V", sig := { parameters := [], returnType := none }, accessFlags := 1, code := none }
def k1c1 : Code := { maxStack := 6, maxLocals := 1, code := method_2_code, exceptionTable := #[], attributes := #[] }
def k1m1 : Method := { name := "thingWith", desc := "(C)Ljava/lang/String;", sig := { parameters := [.char], returnType := some (.object "java/lang/String") }, accessFlags := 10, code := some k1c1 }
def k1c2 : Code := { maxStack := 6, maxLocals := 1, code := method_3_code, exceptionTable := #[], attributes := #[] }
def k1m2 : Method := { name := "nothingWith", desc := "(C)Ljava/lang/String;", sig := { parameters := [.char], returnType := some (.object "java/lang/String") }, accessFlags := 10, code := some k1c2 }
def k1c3 : Code := { maxStack := 6, maxLocals := 7, code := method_4_code, exceptionTable := #[], attributes := #[] }
def k1m3 : Method := { name := "drawn", desc := "(IIII)Ljava/lang/String;", sig := { parameters := [.int, .int, .int, .int], returnType := some (.object "java/lang/String") }, accessFlags := 10, code := some k1c3 }
def k1c4 : Code := { maxStack := 4, maxLocals := 10, code := code, exceptionTable := #[], attributes := #[] }
def k1m4 : Method := { name := "law", desc := "(IIIII)Z", sig := { parameters := [.int, .int, .int, .int, .int], returnType := some .boolean }, accessFlags := 9, code := some k1c4 }
/-- com/example/tiny_reasoner/tinyreasoner/concept/ConceptOfClassPinLaw -/
def k1 : Class := { plain "com/example/tiny_reasoner/tinyreasoner/concept/ConceptOfClassPinLaw" (some 0) with
  accessFlags := 49
  interfaces := #[]
  cf := some (fileOf pool1 14 #[] #[{ accessFlags := 1, nameIndex := 5, descriptorIndex := 6, attributes := #[] }, { accessFlags := 10, nameIndex := 17, descriptorIndex := 18, attributes := #[] }, { accessFlags := 10, nameIndex := 21, descriptorIndex := 18, attributes := #[] }, { accessFlags := 10, nameIndex := 24, descriptorIndex := 25, attributes := #[] }, { accessFlags := 9, nameIndex := 53, descriptorIndex := 54, attributes := #[] }] 49 2 #[] #[])
  fields := #[]
  methods := #[k1m0, k1m1, k1m2, k1m3, k1m4]
  instanceTypes := #[]
  staticTypes := #[]
  resolved := Array.replicate 61 none
  statics := none }

def pool2 : Array CpInfo := pool [(1, .class_ 2), (0, u "java/io/Serializable"), (0, .class_ 4), (0, u "java/lang/Object")] 2

/-- java/io/Serializable -/
def k2 : Class := { plain "java/io/Serializable" (some 0) with
  accessFlags := 1537
  interfaces := #[]
  cf := some (fileOf pool2 1 #[] #[] 1537 3 #[] #[])
  fields := #[]
  methods := #[]
  instanceTypes := #[]
  staticTypes := #[]
  resolved := Array.replicate 7 none
  statics := none }

def pool3 : Array CpInfo := pool [(1, .class_ 2), (0, u "java/lang/Comparable"), (0, .class_ 4), (0, u "java/lang/Object")] 7

/-- java/lang/Comparable -/
def k3 : Class := { plain "java/lang/Comparable" (some 0) with
  accessFlags := 1537
  interfaces := #[]
  cf := some (fileOf pool3 1 #[] #[] 1537 3 #[] #[])
  fields := #[]
  methods := #[]
  instanceTypes := #[]
  staticTypes := #[]
  resolved := Array.replicate 12 none
  statics := none }

def pool4 : Array CpInfo := pool [(2, .class_ 4), (1, u "java/lang/CharSequence"), (42, .class_ 48), (0, u "java/lang/CharSequence$1CodePointIterator"), (10, .class_ 60), (0, u "java/lang/CharSequence$1CharIterator"), (5, .class_ 67), (0, u "java/lang/Object")] 63

/-- java/lang/CharSequence -/
def k4 : Class := { plain "java/lang/CharSequence" (some 0) with
  accessFlags := 1537
  interfaces := #[]
  cf := some (fileOf pool4 2 #[.nestMembers #[47, 59]] #[] 1537 66 #[] #[])
  fields := #[]
  methods := #[]
  instanceTypes := #[]
  staticTypes := #[]
  resolved := Array.replicate 131 none
  statics := none }

def pool5 : Array CpInfo := pool [(1, .class_ 2), (0, u "java/lang/constant/Constable"), (0, .class_ 4), (0, u "java/lang/Object")] 6

/-- java/lang/constant/Constable -/
def k5 : Class := { plain "java/lang/constant/Constable" (some 0) with
  accessFlags := 1537
  interfaces := #[]
  cf := some (fileOf pool5 1 #[] #[] 1537 3 #[] #[])
  fields := #[]
  methods := #[]
  instanceTypes := #[]
  staticTypes := #[]
  resolved := Array.replicate 11 none
  statics := none }

def pool6 : Array CpInfo := pool [(1, .class_ 2), (0, u "java/lang/constant/ConstantDesc"), (0, .class_ 4), (0, u "java/lang/Object")] 32

/-- java/lang/constant/ConstantDesc -/
def k6 : Class := { plain "java/lang/constant/ConstantDesc" (some 0) with
  accessFlags := 1537
  interfaces := #[]
  cf := some (fileOf pool6 1 #[] #[] 1537 3 #[] #[])
  fields := #[]
  methods := #[]
  instanceTypes := #[]
  staticTypes := #[]
  resolved := Array.replicate 37 none
  statics := none }

def pool7 : Array CpInfo := pool [(1, .methodref 2 3), (0, .class_ 4), (0, .nameAndType 5 6), (0, u "java/lang/Object"), (0, u "<init>"), (0, u "()V"), (0, .string 8), (0, u ""), (0, .fieldref 10 11), (0, .class_ 12), (0, .nameAndType 13 14), (0, u "java/lang/String"), (0, u "value"), (0, u "[B"), (0, .fieldref 10 16), (0, .nameAndType 17 18), (0, u "coder"), (0, u "B"), (2, u "hash"), (0, u "I"), (2, u "hashIsZero"), (0, u "Z"), (0, .methodref 10 28), (0, .nameAndType 5 29), (0, u "([CIILjava/lang/Void;)V"), (8, .fieldref 10 39), (0, .nameAndType 40 26), (0, u "COMPACT_STRINGS"), (1, .class_ 44), (1, u "java/lang/StringUTF16"), (0, u "compress"), (1, .methodref 42 48), (0, .nameAndType 49 50), (0, u "coderFromArrayLen"), (0, u "([BI)B"), (56, .class_ 109), (1, u "java/lang/StringLatin1"), (67, .methodref 42 178), (0, .nameAndType 45 179), (0, u "([CII)[B"), (361, .methodref 107 542), (0, .nameAndType 543 544), (0, u "equals"), (0, u "([B[B)Z"), (28, u "(Ljava/lang/Object;)Z"), (1, .class_ 576), (0, u "java/lang/CharSequence"), (22, u "CASE_INSENSITIVE_ORDER"), (0, u "Ljava/util/Comparator;"), (409, u "([C)V"), (90, u "serialPersistentFields"), (0, u "[Ljava/io/ObjectStreamField;"), (0, .class_ 1104), (0, u "java/lang/String$CaseInsensitiveComparator"), (1, .class_ 1107), (0, u "java/io/Serializable"), (0, .class_ 1109), (0, u "java/lang/Comparable"), (0, .class_ 1111), (0, u "java/lang/constant/Constable"), (0, .class_ 1113), (0, u "java/lang/constant/ConstantDesc"), (2, u "serialVersionUID"), (0, u "J"), (3, u "REPL"), (0, u "C"), (2, u "LATIN1"), (1, u "UTF16")] 323

def k7m0 : Method := { name := "<init>", desc := "()V", sig := { parameters := [], returnType := none }, accessFlags := 1, code := none }
def k7c1 : Code := { maxStack := 5, maxLocals := 2, code := jdk_42_method_3_code, exceptionTable := #[], attributes := #[] }
def k7m1 : Method := { name := "<init>", desc := "([C)V", sig := { parameters := [(.array .char)], returnType := none }, accessFlags := 1, code := some k7c1 }
def k7c2 : Code := { maxStack := 2, maxLocals := 3, code := jdk_42_method_66_code, exceptionTable := #[], attributes := #[] }
def k7m2 : Method := { name := "equals", desc := "(Ljava/lang/Object;)Z", sig := { parameters := [(.object "java/lang/Object")], returnType := some .boolean }, accessFlags := 1, code := some k7c2 }
def k7c3 : Code := { maxStack := 4, maxLocals := 6, code := jdk_42_method_149_code, exceptionTable := #[], attributes := #[] }
def k7m3 : Method := { name := "<init>", desc := "([CIILjava/lang/Void;)V", sig := { parameters := [(.array .char), .int, .int, (.object "java/lang/Void")], returnType := none }, accessFlags := 2, code := some k7c3 }
/-- java/lang/String -/
def k7 : Class := { plain "java/lang/String" (some 0) with
  accessFlags := 49
  interfaces := #[2, 3, 4, 5, 6]
  cf := some (fileOf pool7 10 #[.nestMembers #[1103]] #[{ accessFlags := 1, nameIndex := 5, descriptorIndex := 6, attributes := #[] }, { accessFlags := 1, nameIndex := 5, descriptorIndex := 1010, attributes := #[] }, { accessFlags := 1, nameIndex := 543, descriptorIndex := 573, attributes := #[] }, { accessFlags := 2, nameIndex := 5, descriptorIndex := 29, attributes := #[] }] 49 2 #[1106, 1108, 575, 1110, 1112] #[{ accessFlags := 18, nameIndex := 13, descriptorIndex := 14, attributes := #[] }, { accessFlags := 18, nameIndex := 17, descriptorIndex := 18, attributes := #[] }, { accessFlags := 2, nameIndex := 21, descriptorIndex := 22, attributes := #[] }, { accessFlags := 2, nameIndex := 25, descriptorIndex := 26, attributes := #[] }, { accessFlags := 26, nameIndex := 1116, descriptorIndex := 1117, attributes := #[] }, { accessFlags := 24, nameIndex := 40, descriptorIndex := 26, attributes := #[] }, { accessFlags := 26, nameIndex := 1101, descriptorIndex := 1102, attributes := #[] }, { accessFlags := 26, nameIndex := 1121, descriptorIndex := 1122, attributes := #[] }, { accessFlags := 25, nameIndex := 599, descriptorIndex := 600, attributes := #[] }, { accessFlags := 24, nameIndex := 1125, descriptorIndex := 18, attributes := #[] }, { accessFlags := 24, nameIndex := 1127, descriptorIndex := 18, attributes := #[] }])
  fields := #[{ name := "value", type := (.array .byte), accessFlags := 18, slot := 0, constantValue := 0 }, { name := "coder", type := .byte, accessFlags := 18, slot := 1, constantValue := 0 }, { name := "hash", type := .int, accessFlags := 2, slot := 2, constantValue := 0 }, { name := "hashIsZero", type := .boolean, accessFlags := 2, slot := 3, constantValue := 0 }, { name := "serialVersionUID", type := .long, accessFlags := 26, slot := 0, constantValue := 0 }, { name := "COMPACT_STRINGS", type := .boolean, accessFlags := 24, slot := 1, constantValue := 0 }, { name := "serialPersistentFields", type := (.array (.object "java/io/ObjectStreamField")), accessFlags := 26, slot := 2, constantValue := 0 }, { name := "REPL", type := .char, accessFlags := 26, slot := 3, constantValue := 0 }, { name := "CASE_INSENSITIVE_ORDER", type := (.object "java/util/Comparator"), accessFlags := 25, slot := 4, constantValue := 0 }, { name := "LATIN1", type := .byte, accessFlags := 24, slot := 5, constantValue := 0 }, { name := "UTF16", type := .byte, accessFlags := 24, slot := 6, constantValue := 0 }]
  methods := #[k7m0, k7m1, k7m2, k7m3]
  instanceTypes := #[(.array .byte), .byte, .int, .boolean]
  staticTypes := #[.long, .boolean, (.array (.object "java/io/ObjectStreamField")), .char, (.object "java/util/Comparator"), .byte, .byte]
  resolved := Array.replicate 1451 none
  statics := some 0 }

def pool8 : Array CpInfo := pool [(6, .class_ 8), (1, u "java/lang/Object"), (0, u "<init>"), (0, u "()V"), (1, .class_ 14), (1, u "java/lang/StringUTF16"), (31, u "$assertionsDisabled"), (0, u "Z"), (13, u "HI_BYTE_SHIFT"), (0, u "I"), (2, u "LO_BYTE_SHIFT"), (49, .methodref 12 116), (0, .nameAndType 117 118), (0, u "compress"), (0, u "([CI[BII)I"), (3, u "([CII)[B"), (138, u "coderFromArrayLen"), (0, u "([BI)B"), (106, .class_ 371), (1, u "java/lang/StringUTF16$LinesSpliterator"), (58, u "MAX_LENGTH"), (196, .class_ 628), (0, u "java/lang/StringUTF16$CodePointsSpliterator"), (0, .class_ 630), (0, u "java/lang/StringUTF16$CharsSpliterator")] 4

def k8m0 : Method := { name := "<init>", desc := "()V", sig := { parameters := [], returnType := none }, accessFlags := 0, code := none }
def k8c1 : Code := { maxStack := 2, maxLocals := 2, code := jdk_52_method_15_code, exceptionTable := #[], attributes := #[] }
def k8m1 : Method := { name := "coderFromArrayLen", desc := "([BI)B", sig := { parameters := [(.array .byte), .int], returnType := some .byte }, accessFlags := 8, code := some k8c1 }
def k8c2 : Code := { maxStack := 5, maxLocals := 6, code := jdk_52_method_16_code, exceptionTable := #[], attributes := #[] }
def k8m2 : Method := { name := "compress", desc := "([CII)[B", sig := { parameters := [(.array .char), .int, .int], returnType := some (.array .byte) }, accessFlags := 9, code := some k8c2 }
def k8c3 : Code := { maxStack := 3, maxLocals := 7, code := jdk_52_method_21_code, exceptionTable := #[], attributes := #[] }
def k8m3 : Method := { name := "compress", desc := "([CI[BII)I", sig := { parameters := [(.array .char), .int, (.array .byte), .int, .int], returnType := some .int }, accessFlags := 9, code := some k8c3 }
/-- java/lang/StringUTF16 -/
def k8 : Class := { plain "java/lang/StringUTF16" (some 0) with
  accessFlags := 48
  interfaces := #[]
  cf := some (fileOf pool8 12 #[.nestMembers #[627, 629, 369]] #[{ accessFlags := 0, nameIndex := 9, descriptorIndex := 10, attributes := #[] }, { accessFlags := 8, nameIndex := 261, descriptorIndex := 262, attributes := #[] }, { accessFlags := 9, nameIndex := 117, descriptorIndex := 122, attributes := #[] }, { accessFlags := 9, nameIndex := 117, descriptorIndex := 118, attributes := #[] }] 48 6 #[] #[{ accessFlags := 26, nameIndex := 61, descriptorIndex := 62, attributes := #[] }, { accessFlags := 26, nameIndex := 65, descriptorIndex := 62, attributes := #[] }, { accessFlags := 24, nameIndex := 430, descriptorIndex := 62, attributes := #[] }, { accessFlags := 4120, nameIndex := 46, descriptorIndex := 47, attributes := #[] }])
  fields := #[{ name := "HI_BYTE_SHIFT", type := .int, accessFlags := 26, slot := 0, constantValue := 0 }, { name := "LO_BYTE_SHIFT", type := .int, accessFlags := 26, slot := 1, constantValue := 0 }, { name := "MAX_LENGTH", type := .int, accessFlags := 24, slot := 2, constantValue := 0 }, { name := "$assertionsDisabled", type := .boolean, accessFlags := 4120, slot := 3, constantValue := 0 }]
  methods := #[k8m0, k8m1, k8m2, k8m3]
  instanceTypes := #[]
  staticTypes := #[.int, .int, .int, .boolean]
  resolved := Array.replicate 635 none
  statics := none }

def pool9 : Array CpInfo := pool [(4, .class_ 6), (1, u "java/lang/Object"), (0, u "<init>"), (0, u "()V"), (5, .class_ 16), (1, u "java/lang/StringLatin1"), (104, u "$assertionsDisabled"), (0, u "Z"), (98, .class_ 223), (1, u "java/lang/StringLatin1$LinesSpliterator"), (57, u "equals"), (0, u "([B[B)Z"), (107, .class_ 391), (0, u "java/lang/StringLatin1$CharsSpliterator")] 3

def k9m0 : Method := { name := "<init>", desc := "()V", sig := { parameters := [], returnType := none }, accessFlags := 0, code := none }
def k9c1 : Code := { maxStack := 3, maxLocals := 3, code := jdk_43_method_13_code, exceptionTable := #[], attributes := #[] }
def k9m1 : Method := { name := "equals", desc := "([B[B)Z", sig := { parameters := [(.array .byte), (.array .byte)], returnType := some .boolean }, accessFlags := 9, code := some k9c1 }
/-- java/lang/StringLatin1 -/
def k9 : Class := { plain "java/lang/StringLatin1" (some 0) with
  accessFlags := 48
  interfaces := #[]
  cf := some (fileOf pool9 14 #[.nestMembers #[390, 221]] #[{ accessFlags := 0, nameIndex := 7, descriptorIndex := 8, attributes := #[] }, { accessFlags := 9, nameIndex := 281, descriptorIndex := 282, attributes := #[] }] 48 4 #[] #[{ accessFlags := 4120, nameIndex := 121, descriptorIndex := 122, attributes := #[] }])
  fields := #[{ name := "$assertionsDisabled", type := .boolean, accessFlags := 4120, slot := 0, constantValue := 0 }]
  methods := #[k9m0, k9m1]
  instanceTypes := #[]
  staticTypes := #[.boolean]
  resolved := Array.replicate 395 none
  statics := none }

def pool10 : Array CpInfo := pool [(1, .class_ 2), (0, u "com/example/tiny_reasoner/tinyreasoner/concept/Concept"), (0, .string 4), (0, u "http://www.w3.org/2002/07/owl#Thing"), (0, .methodref 6 7), (0, .class_ 8), (0, .nameAndType 9 10), (0, u "java/lang/String"), (0, u "equals"), (0, u "(Ljava/lang/Object;)Z"), (0, .class_ 12), (0, u "com/example/tiny_reasoner/tinyreasoner/concept/Concept$Top"), (0, .methodref 11 14), (0, .nameAndType 15 16), (0, u "<init>"), (0, u "()V"), (0, .string 18), (0, u "http://www.w3.org/2002/07/owl#Nothing"), (0, .class_ 20), (0, u "com/example/tiny_reasoner/tinyreasoner/concept/Concept$Bottom"), (0, .methodref 19 14), (0, .class_ 23), (0, u "com/example/tiny_reasoner/tinyreasoner/concept/Concept$Name"), (0, .methodref 22 25), (0, .nameAndType 15 26), (0, u "(Ljava/lang/String;)V"), (12, .class_ 40), (0, u "com/example/tiny_reasoner/tinyreasoner/concept/Concept$Not"), (4, .class_ 46), (0, u "com/example/tiny_reasoner/tinyreasoner/concept/Concept$And"), (20, .class_ 68), (0, u "com/example/tiny_reasoner/tinyreasoner/concept/Concept$Or"), (1, .class_ 71), (0, u "com/example/tiny_reasoner/tinyreasoner/concept/Concept$Some"), (3, .class_ 76), (0, u "com/example/tiny_reasoner/tinyreasoner/concept/Concept$All"), (1, .class_ 79), (0, u "java/lang/Object"), (0, u "OWL_THING"), (0, u "Ljava/lang/String;"), (1, u "OWL_NOTHING"), (0, u "ofClass"), (0, u "(Ljava/lang/String;)Lcom/example/tiny_reasoner/tinyreasoner/concept/Concept;")] 23

def k10c0 : Code := { maxStack := 3, maxLocals := 2, code := prog_1_method_1_code, exceptionTable := #[], attributes := #[] }
def k10m0 : Method := { name := "ofClass", desc := "(Ljava/lang/String;)Lcom/example/tiny_reasoner/tinyreasoner/concept/Concept;", sig := { parameters := [(.object "java/lang/String")], returnType := some (.object "com/example/tiny_reasoner/tinyreasoner/concept/Concept") }, accessFlags := 9, code := some k10c0 }
/-- com/example/tiny_reasoner/tinyreasoner/concept/Concept -/
def k10 : Class := { plain "com/example/tiny_reasoner/tinyreasoner/concept/Concept" (some 0) with
  accessFlags := 1537
  interfaces := #[]
  cf := some (fileOf pool10 1 #[.nestMembers #[75, 70, 67, 45, 39, 22, 19, 11]] #[{ accessFlags := 9, nameIndex := 84, descriptorIndex := 85, attributes := #[] }] 1537 78 #[] #[{ accessFlags := 25, nameIndex := 80, descriptorIndex := 81, attributes := #[] }, { accessFlags := 25, nameIndex := 83, descriptorIndex := 81, attributes := #[] }])
  fields := #[{ name := "OWL_THING", type := (.object "java/lang/String"), accessFlags := 25, slot := 0, constantValue := 0 }, { name := "OWL_NOTHING", type := (.object "java/lang/String"), accessFlags := 25, slot := 1, constantValue := 0 }]
  methods := #[k10m0]
  instanceTypes := #[]
  staticTypes := #[(.object "java/lang/String"), (.object "java/lang/String")]
  resolved := Array.replicate 109 none
  statics := none }

def pool11 : Array CpInfo := pool [(1, .methodref 2 3), (0, .class_ 4), (0, .nameAndType 5 6), (0, u "java/lang/Object"), (0, u "<init>"), (0, u "()V"), (0, .class_ 8), (0, u "java/lang/Record")] 13

def k11c0 : Code := { maxStack := 1, maxLocals := 1, code := jdk_30_method_1_code, exceptionTable := #[], attributes := #[] }
def k11m0 : Method := { name := "<init>", desc := "()V", sig := { parameters := [], returnType := none }, accessFlags := 4, code := some k11c0 }
/-- java/lang/Record -/
def k11 : Class := { plain "java/lang/Record" (some 0) with
  accessFlags := 1057
  interfaces := #[]
  cf := some (fileOf pool11 7 #[] #[{ accessFlags := 4, nameIndex := 5, descriptorIndex := 6, attributes := #[] }] 1057 2 #[] #[])
  fields := #[]
  methods := #[k11m0]
  instanceTypes := #[]
  staticTypes := #[]
  resolved := Array.replicate 22 none
  statics := none }

def pool12 : Array CpInfo := pool [(1, .methodref 2 3), (0, .class_ 4), (0, .nameAndType 5 6), (0, u "java/lang/Record"), (0, u "<init>"), (0, u "()V"), (15, .class_ 23), (0, u "com/example/tiny_reasoner/tinyreasoner/concept/Concept$Top"), (0, .class_ 25), (0, u "com/example/tiny_reasoner/tinyreasoner/concept/Concept")] 30

def k12c0 : Code := { maxStack := 1, maxLocals := 1, code := prog_9_method_1_code, exceptionTable := #[], attributes := #[] }
def k12m0 : Method := { name := "<init>", desc := "()V", sig := { parameters := [], returnType := none }, accessFlags := 1, code := some k12c0 }
/-- com/example/tiny_reasoner/tinyreasoner/concept/Concept$Top -/
def k12 : Class := { plain "com/example/tiny_reasoner/tinyreasoner/concept/Concept$Top" (some 11) with
  accessFlags := 49
  interfaces := #[10]
  cf := some (fileOf pool12 22 #[.nestHost 24] #[{ accessFlags := 1, nameIndex := 5, descriptorIndex := 6, attributes := #[] }] 49 2 #[24] #[])
  fields := #[]
  methods := #[k12m0]
  instanceTypes := #[]
  staticTypes := #[]
  resolved := Array.replicate 56 none
  statics := none }

def pool13 : Array CpInfo := pool [(1, .methodref 2 3), (0, .class_ 4), (0, .nameAndType 5 6), (0, u "java/lang/Record"), (0, u "<init>"), (0, u "()V"), (0, .string 8), (0, u "iri"), (0, .methodref 10 11), (0, .class_ 12), (0, .nameAndType 13 14), (0, u "java/util/Objects"), (0, u "requireNonNull"), (0, u "(Ljava/lang/Object;Ljava/lang/String;)Ljava/lang/Object;"), (0, .fieldref 16 17), (0, .class_ 18), (0, .nameAndType 8 19), (0, u "com/example/tiny_reasoner/tinyreasoner/concept/Concept$Name"), (0, u "Ljava/lang/String;"), (17, .class_ 38), (0, u "com/example/tiny_reasoner/tinyreasoner/concept/Concept"), (0, u "(Ljava/lang/String;)V"), (6, u "()Ljava/lang/String;")] 23

def k13c0 : Code := { maxStack := 2, maxLocals := 2, code := prog_5_method_1_code, exceptionTable := #[], attributes := #[] }
def k13m0 : Method := { name := "<init>", desc := "(Ljava/lang/String;)V", sig := { parameters := [(.object "java/lang/String")], returnType := none }, accessFlags := 1, code := some k13c0 }
def k13c1 : Code := { maxStack := 1, maxLocals := 1, code := prog_5_method_7_code, exceptionTable := #[], attributes := #[] }
def k13m1 : Method := { name := "iri", desc := "()Ljava/lang/String;", sig := { parameters := [], returnType := some (.object "java/lang/String") }, accessFlags := 1, code := some k13c1 }
/-- com/example/tiny_reasoner/tinyreasoner/concept/Concept$Name -/
def k13 : Class := { plain "com/example/tiny_reasoner/tinyreasoner/concept/Concept$Name" (some 11) with
  accessFlags := 49
  interfaces := #[10]
  cf := some (fileOf pool13 16 #[.nestHost 37] #[{ accessFlags := 1, nameIndex := 5, descriptorIndex := 39, attributes := #[] }, { accessFlags := 1, nameIndex := 8, descriptorIndex := 46, attributes := #[] }] 49 2 #[37] #[{ accessFlags := 18, nameIndex := 8, descriptorIndex := 19, attributes := #[] }])
  fields := #[{ name := "iri", type := (.object "java/lang/String"), accessFlags := 18, slot := 0, constantValue := 0 }]
  methods := #[k13m0, k13m1]
  instanceTypes := #[(.object "java/lang/String")]
  staticTypes := #[]
  resolved := Array.replicate 70 none
  statics := none }

def pool14 : Array CpInfo := pool [(2, .class_ 4), (1, u "java/lang/Object"), (0, u "<init>"), (0, u "()V"), (35, .class_ 44), (1, u "java/util/Objects"), (0, u "requireNonNull"), (48, u "(Ljava/lang/Object;Ljava/lang/String;)Ljava/lang/Object;")] 89

def k14m0 : Method := { name := "<init>", desc := "()V", sig := { parameters := [], returnType := none }, accessFlags := 2, code := none }
def k14c1 : Code := { maxStack := 3, maxLocals := 2, code := jdk_31_method_11_code, exceptionTable := #[], attributes := #[] }
def k14m1 : Method := { name := "requireNonNull", desc := "(Ljava/lang/Object;Ljava/lang/String;)Ljava/lang/Object;", sig := { parameters := [(.object "java/lang/Object"), (.object "java/lang/String")], returnType := some (.object "java/lang/Object") }, accessFlags := 9, code := some k14c1 }
/-- java/util/Objects -/
def k14 : Class := { plain "java/util/Objects" (some 0) with
  accessFlags := 49
  interfaces := #[]
  cf := some (fileOf pool14 42 #[] #[{ accessFlags := 2, nameIndex := 5, descriptorIndex := 6, attributes := #[] }, { accessFlags := 9, nameIndex := 45, descriptorIndex := 94, attributes := #[] }] 49 2 #[] #[])
  fields := #[]
  methods := #[k14m0, k14m1]
  instanceTypes := #[]
  staticTypes := #[]
  resolved := Array.replicate 184 none
  statics := none }

def pool15 : Array CpInfo := pool [(1, .methodref 2 3), (0, .class_ 4), (0, .nameAndType 5 6), (0, u "java/lang/Record"), (0, u "<init>"), (0, u "()V"), (15, .class_ 23), (0, u "com/example/tiny_reasoner/tinyreasoner/concept/Concept$Bottom"), (0, .class_ 25), (0, u "com/example/tiny_reasoner/tinyreasoner/concept/Concept")] 30

def k15c0 : Code := { maxStack := 1, maxLocals := 1, code := prog_4_method_1_code, exceptionTable := #[], attributes := #[] }
def k15m0 : Method := { name := "<init>", desc := "()V", sig := { parameters := [], returnType := none }, accessFlags := 1, code := some k15c0 }
/-- com/example/tiny_reasoner/tinyreasoner/concept/Concept$Bottom -/
def k15 : Class := { plain "com/example/tiny_reasoner/tinyreasoner/concept/Concept$Bottom" (some 11) with
  accessFlags := 49
  interfaces := #[10]
  cf := some (fileOf pool15 22 #[.nestHost 24] #[{ accessFlags := 1, nameIndex := 5, descriptorIndex := 6, attributes := #[] }] 49 2 #[24] #[])
  fields := #[]
  methods := #[k15m0]
  instanceTypes := #[]
  staticTypes := #[]
  resolved := Array.replicate 56 none
  statics := none }

def pool16 : Array CpInfo := pool [(2, .class_ 4), (1, u "java/lang/Object"), (0, u "<init>"), (0, u "()V"), (17, .class_ 26), (1, u "jdk/internal/util/Preconditions"), (28, .class_ 56), (0, u "jdk/internal/util/Preconditions$4"), (57, .class_ 115), (0, u "jdk/internal/util/Preconditions$1"), (7, u "SIOOBE_FORMATTER"), (0, u "Ljava/util/function/BiFunction;"), (0, .class_ 126), (0, u "jdk/internal/util/Preconditions$2"), (3, u "AIOOBE_FORMATTER"), (0, .class_ 132), (0, u "jdk/internal/util/Preconditions$3"), (3, u "IOOBE_FORMATTER")] 57

def k16m0 : Method := { name := "<init>", desc := "()V", sig := { parameters := [], returnType := none }, accessFlags := 1, code := none }
/-- jdk/internal/util/Preconditions -/
def k16 : Class := { plain "jdk/internal/util/Preconditions" (some 0) with
  accessFlags := 33
  interfaces := #[]
  cf := some (fileOf pool16 24 #[.nestMembers #[55, 131, 125, 114]] #[{ accessFlags := 1, nameIndex := 5, descriptorIndex := 6, attributes := #[] }] 33 2 #[] #[{ accessFlags := 25, nameIndex := 123, descriptorIndex := 124, attributes := #[] }, { accessFlags := 25, nameIndex := 130, descriptorIndex := 124, attributes := #[] }, { accessFlags := 25, nameIndex := 136, descriptorIndex := 124, attributes := #[] }])
  fields := #[{ name := "SIOOBE_FORMATTER", type := (.object "java/util/function/BiFunction"), accessFlags := 25, slot := 0, constantValue := 0 }, { name := "AIOOBE_FORMATTER", type := (.object "java/util/function/BiFunction"), accessFlags := 25, slot := 1, constantValue := 0 }, { name := "IOOBE_FORMATTER", type := (.object "java/util/function/BiFunction"), accessFlags := 25, slot := 2, constantValue := 0 }]
  methods := #[k16m0]
  instanceTypes := #[]
  staticTypes := #[(.object "java/util/function/BiFunction"), (.object "java/util/function/BiFunction"), (.object "java/util/function/BiFunction")]
  resolved := Array.replicate 194 none
  statics := some 1 }

def pool17 : Array CpInfo := pool [(9, u "<init>"), (6, .class_ 18), (1, u "java/lang/Object"), (0, u "()V"), (1, .class_ 23), (1, u "jdk/internal/util/ArraysSupport"), (0, u "LOG2_ARRAY_LONG_INDEX_SCALE"), (0, u "I"), (2, u "U"), (0, u "Ljdk/internal/misc/Unsafe;"), (8, u "BIG_ENDIAN"), (0, u "Z"), (8, u "LOG2_BYTE_BIT_SIZE"), (4, u "LOG2_ARRAY_INT_INDEX_SCALE"), (54, u "JLA"), (0, u "Ljdk/internal/access/JavaLangAccess;"), (11, u "LOG2_ARRAY_BOOLEAN_INDEX_SCALE"), (9, u "LOG2_ARRAY_BYTE_INDEX_SCALE"), (5, u "LOG2_ARRAY_CHAR_INDEX_SCALE"), (5, u "LOG2_ARRAY_SHORT_INDEX_SCALE"), (18, u "LOG2_ARRAY_FLOAT_INDEX_SCALE"), (24, u "LOG2_ARRAY_DOUBLE_INDEX_SCALE"), (89, u "T_BOOLEAN"), (2, u "T_CHAR"), (1, u "T_FLOAT"), (1, u "T_DOUBLE"), (1, u "T_BYTE"), (1, u "T_SHORT"), (1, u "T_INT"), (1, u "T_LONG"), (1, u "SOFT_MAX_ARRAY_LENGTH")] 83

def k17m0 : Method := { name := "<init>", desc := "()V", sig := { parameters := [], returnType := none }, accessFlags := 2, code := none }
/-- jdk/internal/util/ArraysSupport -/
def k17 : Class := { plain "jdk/internal/util/ArraysSupport" (some 0) with
  accessFlags := 33
  interfaces := #[]
  cf := some (fileOf pool17 21 #[] #[{ accessFlags := 2, nameIndex := 9, descriptorIndex := 19, attributes := #[] }] 33 16 #[] #[{ accessFlags := 24, nameIndex := 28, descriptorIndex := 29, attributes := #[] }, { accessFlags := 26, nameIndex := 38, descriptorIndex := 39, attributes := #[] }, { accessFlags := 25, nameIndex := 121, descriptorIndex := 25, attributes := #[] }, { accessFlags := 25, nameIndex := 131, descriptorIndex := 25, attributes := #[] }, { accessFlags := 25, nameIndex := 137, descriptorIndex := 25, attributes := #[] }, { accessFlags := 25, nameIndex := 143, descriptorIndex := 25, attributes := #[] }, { accessFlags := 25, nameIndex := 53, descriptorIndex := 25, attributes := #[] }, { accessFlags := 25, nameIndex := 24, descriptorIndex := 25, attributes := #[] }, { accessFlags := 25, nameIndex := 162, descriptorIndex := 25, attributes := #[] }, { accessFlags := 25, nameIndex := 187, descriptorIndex := 25, attributes := #[] }, { accessFlags := 26, nameIndex := 48, descriptorIndex := 25, attributes := #[] }, { accessFlags := 25, nameIndex := 277, descriptorIndex := 25, attributes := #[] }, { accessFlags := 25, nameIndex := 280, descriptorIndex := 25, attributes := #[] }, { accessFlags := 25, nameIndex := 282, descriptorIndex := 25, attributes := #[] }, { accessFlags := 25, nameIndex := 284, descriptorIndex := 25, attributes := #[] }, { accessFlags := 25, nameIndex := 286, descriptorIndex := 25, attributes := #[] }, { accessFlags := 25, nameIndex := 288, descriptorIndex := 25, attributes := #[] }, { accessFlags := 25, nameIndex := 290, descriptorIndex := 25, attributes := #[] }, { accessFlags := 25, nameIndex := 292, descriptorIndex := 25, attributes := #[] }, { accessFlags := 26, nameIndex := 108, descriptorIndex := 109, attributes := #[] }, { accessFlags := 25, nameIndex := 294, descriptorIndex := 25, attributes := #[] }])
  fields := #[{ name := "U", type := (.object "jdk/internal/misc/Unsafe"), accessFlags := 24, slot := 0, constantValue := 0 }, { name := "BIG_ENDIAN", type := .boolean, accessFlags := 26, slot := 1, constantValue := 0 }, { name := "LOG2_ARRAY_BOOLEAN_INDEX_SCALE", type := .int, accessFlags := 25, slot := 2, constantValue := 0 }, { name := "LOG2_ARRAY_BYTE_INDEX_SCALE", type := .int, accessFlags := 25, slot := 3, constantValue := 0 }, { name := "LOG2_ARRAY_CHAR_INDEX_SCALE", type := .int, accessFlags := 25, slot := 4, constantValue := 0 }, { name := "LOG2_ARRAY_SHORT_INDEX_SCALE", type := .int, accessFlags := 25, slot := 5, constantValue := 0 }, { name := "LOG2_ARRAY_INT_INDEX_SCALE", type := .int, accessFlags := 25, slot := 6, constantValue := 0 }, { name := "LOG2_ARRAY_LONG_INDEX_SCALE", type := .int, accessFlags := 25, slot := 7, constantValue := 0 }, { name := "LOG2_ARRAY_FLOAT_INDEX_SCALE", type := .int, accessFlags := 25, slot := 8, constantValue := 0 }, { name := "LOG2_ARRAY_DOUBLE_INDEX_SCALE", type := .int, accessFlags := 25, slot := 9, constantValue := 0 }, { name := "LOG2_BYTE_BIT_SIZE", type := .int, accessFlags := 26, slot := 10, constantValue := 0 }, { name := "T_BOOLEAN", type := .int, accessFlags := 25, slot := 11, constantValue := 0 }, { name := "T_CHAR", type := .int, accessFlags := 25, slot := 12, constantValue := 0 }, { name := "T_FLOAT", type := .int, accessFlags := 25, slot := 13, constantValue := 0 }, { name := "T_DOUBLE", type := .int, accessFlags := 25, slot := 14, constantValue := 0 }, { name := "T_BYTE", type := .int, accessFlags := 25, slot := 15, constantValue := 0 }, { name := "T_SHORT", type := .int, accessFlags := 25, slot := 16, constantValue := 0 }, { name := "T_INT", type := .int, accessFlags := 25, slot := 17, constantValue := 0 }, { name := "T_LONG", type := .int, accessFlags := 25, slot := 18, constantValue := 0 }, { name := "JLA", type := (.object "jdk/internal/access/JavaLangAccess"), accessFlags := 26, slot := 19, constantValue := 0 }, { name := "SOFT_MAX_ARRAY_LENGTH", type := .int, accessFlags := 25, slot := 20, constantValue := 0 }]
  methods := #[k17m0]
  instanceTypes := #[]
  staticTypes := #[(.object "jdk/internal/misc/Unsafe"), .boolean, .int, .int, .int, .int, .int, .int, .int, .int, .int, .int, .int, .int, .int, .int, .int, .int, .int, (.object "jdk/internal/access/JavaLangAccess"), .int]
  resolved := Array.replicate 378 none
  statics := none }

def pool18 : Array CpInfo := pool [(1, u "java/lang/Cloneable"), (0, .class_ 1), (0, u "java/lang/Object"), (0, .class_ 3)] 3

/-- java/lang/Cloneable -/
def k18 : Class := { plain "java/lang/Cloneable" (some 0) with
  accessFlags := 1537
  interfaces := #[]
  cf := some (fileOf pool18 2 #[] #[] 1537 4 #[] #[])
  fields := #[]
  methods := #[]
  instanceTypes := #[]
  staticTypes := #[]
  resolved := Array.replicate 8 none
  statics := none }

/-- the primitive byte -/
def k19 : Class := { plain "byte" none with kind := .primitive 'B', accessFlags := 0x411 }
/-- [B -/
def k20 : Class := { plain "[B" (some 0) with kind := .array 19 .byte, interfaces := #[18, 2], accessFlags := 1041 }

/-- the primitive char -/
def k21 : Class := { plain "char" none with kind := .primitive 'C', accessFlags := 0x411 }
/-- [C -/
def k22 : Class := { plain "[C" (some 0) with kind := .array 21 .char, interfaces := #[18, 2], accessFlags := 1041 }

/-- the primitive int -/
def k23 : Class := { plain "int" none with kind := .primitive 'I', accessFlags := 0x411 }
/-- [I -/
def k24 : Class := { plain "[I" (some 0) with kind := .array 23 .int, interfaces := #[18, 2], accessFlags := 1041 }

def heap : Heap := #[{ cls := 7, slots := #[.long 0, .int 1, .null, .int 0, .null, .int 0, .int 0], vm := .statics 7 },
  { cls := 16, slots := #[.null, .null, .null], vm := .statics 16 }]
def classes : Array Class := #[k0, k1, k2, k3, k4, k5, k6, k7, k8, k9, k10, k11, k12, k13, k14, k15, k16, k17, k18, k19, k20, k21, k22, k23, k24]
def interned : List (Array UInt16 × Addr) := []
def slotsUsed : Nat := 10
def theMethod : MethodId := ⟨1, 4⟩
def args0 : Array Value := #[.int 5, .int 7, .int 3, .int 9, .int 3]
def aboutOver (below : List Frame) : State where
  vm := { classes := classes, interned := interned.toArray }
  heap := heap
  slotsUsed := slotsUsed
  threads := #[{ frames := .invoking theMethod args0 :: below }]
def below0 : List Frame := [.native { method := ⟨0, 0⟩, args := #[] }]
def about1 : State := aboutOver below0
def p0 : Program := .bare "" "" ""
def e0 : Env := launch0.env 0 0 0
theorem w_frames : about1.frames = Frame.invoking theMethod args0 :: below0 := rfl
set_option maxRecDepth 65536 in
theorem w_args : argsFit about1.vm theMethod args0 = true := by decide +kernel
set_option maxRecDepth 65536 in
theorem w_heap : heapFits about1 = true := by decide +kernel
set_option maxRecDepth 65536 in
theorem w_runnable : about1.curStatus? = some .runnable := by decide +kernel
set_option maxRecDepth 65536 in
theorem w_alone : about1.alone = true := by decide +kernel
set_option maxRecDepth 65536 in
theorem w_named : about1.methodNamed? x = some theMethod := by decide +kernel
set_option maxRecDepth 65536 in
theorem w_hears : about1.hears theMethod below0 = true := by decide +kernel
set_option maxRecDepth 65536 in
theorem w_ripe : about1.ripe theMethod args0 below0 = true := by decide +kernel
theorem w_running : about1.status = .running := rfl
set_option maxRecDepth 65536 in
theorem w_room : about1.hasRoom e0.platform room_1 = true :=
  launch0.hasRoom_least _ room_1 (by decide +kernel) (by decide +kernel) (by decide +kernel) (by decide +kernel) (by decide +kernel) (by decide +kernel)
theorem allAtoms_all (ts : List Jvm.Cond) (a : Array Jvm.Value) (st : Jvm.State) : (allAtoms ts).before a st = ts.all (fun c => c.before a st) := by
  induction ts with
  | nil => rfl
  | cons c t ih =>
    show (Jvm.Cond.and c (allAtoms t)).before a st = _
    rw [Jvm.Cond.before_and, ih, List.all_cons]
def words1 : List Jvm.Cond := Jvm.Cond.code x code maxLocals ret :: tables_1
/-- a 'code' word, met by the world's own term for the bytes: nothing is compared byte by byte -/
theorem code_word {y : MethodName} {bytes : ByteArray} {mx : Nat} {rt : Option FieldType} {a : Array Value} {s : State} {m : MethodId} {meth : Method} {c : Code} (h1 : s.methodNamed? y = some m) (h2 : s.vm.method? m = some meth) (h3 : meth.code = some c) (h4 : c.code = bytes)
    (h5 : (c.maxLocals == mx && c.exceptionTable.isEmpty && decide (c.maxStack ≤ mostOperands) && decide (meth.sig.returnType = rt) && !meth.locks && decide (parseMethodDescriptor y.desc = some meth.sig)) = true) : (Jvm.Cond.code y bytes mx rt).before a s = true := by
  simp only [Bool.and_eq_true, beq_iff_eq, Bool.not_eq_true', decide_eq_true_eq] at h5
  obtain ⟨⟨⟨⟨⟨g1, g2⟩, g3⟩, g4⟩, g5⟩, g6⟩ := h5
  simp [Cond.before, Cond.holds, Cond.value, h1, h2, h3, h4, g1, g2, g3, g4, g5, g6]
def isCode : Jvm.Cond → Bool
  | .code _ _ _ _ => true
  | _ => false
theorem all_split {L : List Jvm.Cond} {P : Jvm.Cond → Bool} (h1 : L.all (fun c => isCode c || P c) = true) (h2 : ∀ c ∈ L.filter isCode, P c = true) : L.all P = true := by
  refine List.all_eq_true.mpr fun c hc => ?_
  have h := List.all_eq_true.mp h1 c hc
  rcases Bool.eq_false_or_eq_true (isCode c) with hi | hi
  · exact h2 c (List.mem_filter.mpr ⟨hc, hi⟩)
  · simpa [hi] using h
set_option maxRecDepth 65536 in
theorem w_c0 : (Jvm.Cond.code x code maxLocals ret).before args0 about1 = true := code_word (m := ⟨1, 4⟩) (meth := k1m4) (c := k1c4) (by decide +kernel) rfl rfl rfl (by decide +kernel)
set_option maxRecDepth 65536 in
theorem w_c1 : (Jvm.Cond.code ({ cls := "com/example/tiny_reasoner/tinyreasoner/concept/ConceptOfClassPinLaw", name := "thingWith", desc := "(C)Ljava/lang/String;" } : Jvm.MethodName) method_2_code (1 : Nat) (Option.some (Jvm.ClassFile.FieldType.object "java/lang/String"))).before args0 about1 = true := code_word (m := ⟨1, 1⟩) (meth := k1m1) (c := k1c1) (by decide +kernel) rfl rfl rfl (by decide +kernel)
set_option maxRecDepth 65536 in
theorem w_c2 : (Jvm.Cond.code ({ cls := "java/lang/String", name := "<init>", desc := "([C)V" } : Jvm.MethodName) jdk_42_method_3_code (2 : Nat) (Option.none : Option Jvm.ClassFile.FieldType)).before args0 about1 = true := code_word (m := ⟨7, 1⟩) (meth := k7m1) (c := k7c1) (by decide +kernel) rfl rfl rfl (by decide +kernel)
set_option maxRecDepth 65536 in
theorem w_c3 : (Jvm.Cond.code ({ cls := "java/lang/String", name := "<init>", desc := "([CIILjava/lang/Void;)V" } : Jvm.MethodName) jdk_42_method_149_code (6 : Nat) (Option.none : Option Jvm.ClassFile.FieldType)).before args0 about1 = true := code_word (m := ⟨7, 3⟩) (meth := k7m3) (c := k7c3) (by decide +kernel) rfl rfl rfl (by decide +kernel)
set_option maxRecDepth 65536 in
theorem w_c4 : (Jvm.Cond.code ({ cls := "java/lang/Object", name := "<init>", desc := "()V" } : Jvm.MethodName) object_method_1_code (1 : Nat) (Option.none : Option Jvm.ClassFile.FieldType)).before args0 about1 = true := code_word (m := ⟨0, 0⟩) (meth := k0m0) (c := k0c0) (by decide +kernel) rfl rfl rfl (by decide +kernel)
set_option maxRecDepth 65536 in
theorem w_c5 : (Jvm.Cond.code ({ cls := "java/lang/StringUTF16", name := "compress", desc := "([CII)[B" } : Jvm.MethodName) jdk_52_method_16_code (6 : Nat) (Option.some (Jvm.ClassFile.FieldType.array Jvm.ClassFile.FieldType.byte))).before args0 about1 = true := code_word (m := ⟨8, 2⟩) (meth := k8m2) (c := k8c2) (by decide +kernel) rfl rfl rfl (by decide +kernel)
set_option maxRecDepth 65536 in
theorem w_c6 : (Jvm.Cond.code ({ cls := "java/lang/StringUTF16", name := "compress", desc := "([CI[BII)I" } : Jvm.MethodName) jdk_52_method_21_code (7 : Nat) (Option.some Jvm.ClassFile.FieldType.int)).before args0 about1 = true := code_word (m := ⟨8, 3⟩) (meth := k8m3) (c := k8c3) (by decide +kernel) rfl rfl rfl (by decide +kernel)
set_option maxRecDepth 65536 in
theorem w_c7 : (Jvm.Cond.code ({ cls := "java/lang/StringUTF16", name := "coderFromArrayLen", desc := "([BI)B" } : Jvm.MethodName) jdk_52_method_15_code (2 : Nat) (Option.some Jvm.ClassFile.FieldType.byte)).before args0 about1 = true := code_word (m := ⟨8, 1⟩) (meth := k8m1) (c := k8c1) (by decide +kernel) rfl rfl rfl (by decide +kernel)
set_option maxRecDepth 65536 in
theorem w_c8 : (Jvm.Cond.code ({ cls := "java/lang/String", name := "equals", desc := "(Ljava/lang/Object;)Z" } : Jvm.MethodName) jdk_42_method_66_code (3 : Nat) (Option.some Jvm.ClassFile.FieldType.boolean)).before args0 about1 = true := code_word (m := ⟨7, 2⟩) (meth := k7m2) (c := k7c2) (by decide +kernel) rfl rfl rfl (by decide +kernel)
set_option maxRecDepth 65536 in
theorem w_c9 : (Jvm.Cond.code ({ cls := "java/lang/StringLatin1", name := "equals", desc := "([B[B)Z" } : Jvm.MethodName) jdk_43_method_13_code (3 : Nat) (Option.some Jvm.ClassFile.FieldType.boolean)).before args0 about1 = true := code_word (m := ⟨9, 1⟩) (meth := k9m1) (c := k9c1) (by decide +kernel) rfl rfl rfl (by decide +kernel)
set_option maxRecDepth 65536 in
theorem w_c10 : (Jvm.Cond.code ({ cls := "com/example/tiny_reasoner/tinyreasoner/concept/Concept", name := "ofClass", desc := "(Ljava/lang/String;)Lcom/example/tiny_reasoner/tinyreasoner/concept/Concept;" } : Jvm.MethodName) prog_1_method_1_code (2 : Nat) (Option.some (Jvm.ClassFile.FieldType.object "com/example/tiny_reasoner/tinyreasoner/concept/Concept"))).before args0 about1 = true := code_word (m := ⟨10, 0⟩) (meth := k10m0) (c := k10c0) (by decide +kernel) rfl rfl rfl (by decide +kernel)
set_option maxRecDepth 65536 in
theorem w_c11 : (Jvm.Cond.code ({ cls := "com/example/tiny_reasoner/tinyreasoner/concept/Concept$Top", name := "<init>", desc := "()V" } : Jvm.MethodName) prog_9_method_1_code (1 : Nat) (Option.none : Option Jvm.ClassFile.FieldType)).before args0 about1 = true := code_word (m := ⟨12, 0⟩) (meth := k12m0) (c := k12c0) (by decide +kernel) rfl rfl rfl (by decide +kernel)
set_option maxRecDepth 65536 in
theorem w_c12 : (Jvm.Cond.code ({ cls := "java/lang/Record", name := "<init>", desc := "()V" } : Jvm.MethodName) jdk_30_method_1_code (1 : Nat) (Option.none : Option Jvm.ClassFile.FieldType)).before args0 about1 = true := code_word (m := ⟨11, 0⟩) (meth := k11m0) (c := k11c0) (by decide +kernel) rfl rfl rfl (by decide +kernel)
set_option maxRecDepth 65536 in
theorem w_c13 : (Jvm.Cond.code ({ cls := "com/example/tiny_reasoner/tinyreasoner/concept/ConceptOfClassPinLaw", name := "nothingWith", desc := "(C)Ljava/lang/String;" } : Jvm.MethodName) method_3_code (1 : Nat) (Option.some (Jvm.ClassFile.FieldType.object "java/lang/String"))).before args0 about1 = true := code_word (m := ⟨1, 2⟩) (meth := k1m2) (c := k1c2) (by decide +kernel) rfl rfl rfl (by decide +kernel)
set_option maxRecDepth 65536 in
theorem w_c14 : (Jvm.Cond.code ({ cls := "com/example/tiny_reasoner/tinyreasoner/concept/Concept$Name", name := "<init>", desc := "(Ljava/lang/String;)V" } : Jvm.MethodName) prog_5_method_1_code (2 : Nat) (Option.none : Option Jvm.ClassFile.FieldType)).before args0 about1 = true := code_word (m := ⟨13, 0⟩) (meth := k13m0) (c := k13c0) (by decide +kernel) rfl rfl rfl (by decide +kernel)
set_option maxRecDepth 65536 in
theorem w_c15 : (Jvm.Cond.code ({ cls := "java/util/Objects", name := "requireNonNull", desc := "(Ljava/lang/Object;Ljava/lang/String;)Ljava/lang/Object;" } : Jvm.MethodName) jdk_31_method_11_code (2 : Nat) (Option.some (Jvm.ClassFile.FieldType.object "java/lang/Object"))).before args0 about1 = true := code_word (m := ⟨14, 1⟩) (meth := k14m1) (c := k14c1) (by decide +kernel) rfl rfl rfl (by decide +kernel)
set_option maxRecDepth 65536 in
theorem w_c16 : (Jvm.Cond.code ({ cls := "com/example/tiny_reasoner/tinyreasoner/concept/Concept$Name", name := "iri", desc := "()Ljava/lang/String;" } : Jvm.MethodName) prog_5_method_7_code (1 : Nat) (Option.some (Jvm.ClassFile.FieldType.object "java/lang/String"))).before args0 about1 = true := code_word (m := ⟨13, 1⟩) (meth := k13m1) (c := k13c1) (by decide +kernel) rfl rfl rfl (by decide +kernel)
set_option maxRecDepth 65536 in
theorem w_c17 : (Jvm.Cond.code ({ cls := "com/example/tiny_reasoner/tinyreasoner/concept/ConceptOfClassPinLaw", name := "drawn", desc := "(IIII)Ljava/lang/String;" } : Jvm.MethodName) method_4_code (7 : Nat) (Option.some (Jvm.ClassFile.FieldType.object "java/lang/String"))).before args0 about1 = true := code_word (m := ⟨1, 3⟩) (meth := k1m3) (c := k1c3) (by decide +kernel) rfl rfl rfl (by decide +kernel)
set_option maxRecDepth 65536 in
theorem w_c18 : (Jvm.Cond.code ({ cls := "com/example/tiny_reasoner/tinyreasoner/concept/Concept$Bottom", name := "<init>", desc := "()V" } : Jvm.MethodName) prog_4_method_1_code (1 : Nat) (Option.none : Option Jvm.ClassFile.FieldType)).before args0 about1 = true := code_word (m := ⟨15, 0⟩) (meth := k15m0) (c := k15c0) (by decide +kernel) rfl rfl rfl (by decide +kernel)
def codes1 : List Jvm.Cond := [Jvm.Cond.code x code maxLocals ret, Jvm.Cond.code ({ cls := "com/example/tiny_reasoner/tinyreasoner/concept/ConceptOfClassPinLaw", name := "thingWith", desc := "(C)Ljava/lang/String;" } : Jvm.MethodName) method_2_code (1 : Nat) (Option.some (Jvm.ClassFile.FieldType.object "java/lang/String")), Jvm.Cond.code ({ cls := "java/lang/String", name := "<init>", desc := "([C)V" } : Jvm.MethodName) jdk_42_method_3_code (2 : Nat) (Option.none : Option Jvm.ClassFile.FieldType), Jvm.Cond.code ({ cls := "java/lang/String", name := "<init>", desc := "([CIILjava/lang/Void;)V" } : Jvm.MethodName) jdk_42_method_149_code (6 : Nat) (Option.none : Option Jvm.ClassFile.FieldType), Jvm.Cond.code ({ cls := "java/lang/Object", name := "<init>", desc := "()V" } : Jvm.MethodName) object_method_1_code (1 : Nat) (Option.none : Option Jvm.ClassFile.FieldType), Jvm.Cond.code ({ cls := "java/lang/StringUTF16", name := "compress", desc := "([CII)[B" } : Jvm.MethodName) jdk_52_method_16_code (6 : Nat) (Option.some (Jvm.ClassFile.FieldType.array Jvm.ClassFile.FieldType.byte)), Jvm.Cond.code ({ cls := "java/lang/StringUTF16", name := "compress", desc := "([CI[BII)I" } : Jvm.MethodName) jdk_52_method_21_code (7 : Nat) (Option.some Jvm.ClassFile.FieldType.int), Jvm.Cond.code ({ cls := "java/lang/StringUTF16", name := "coderFromArrayLen", desc := "([BI)B" } : Jvm.MethodName) jdk_52_method_15_code (2 : Nat) (Option.some Jvm.ClassFile.FieldType.byte), Jvm.Cond.code ({ cls := "java/lang/String", name := "equals", desc := "(Ljava/lang/Object;)Z" } : Jvm.MethodName) jdk_42_method_66_code (3 : Nat) (Option.some Jvm.ClassFile.FieldType.boolean), Jvm.Cond.code ({ cls := "java/lang/StringLatin1", name := "equals", desc := "([B[B)Z" } : Jvm.MethodName) jdk_43_method_13_code (3 : Nat) (Option.some Jvm.ClassFile.FieldType.boolean), Jvm.Cond.code ({ cls := "com/example/tiny_reasoner/tinyreasoner/concept/Concept", name := "ofClass", desc := "(Ljava/lang/String;)Lcom/example/tiny_reasoner/tinyreasoner/concept/Concept;" } : Jvm.MethodName) prog_1_method_1_code (2 : Nat) (Option.some (Jvm.ClassFile.FieldType.object "com/example/tiny_reasoner/tinyreasoner/concept/Concept")), Jvm.Cond.code ({ cls := "com/example/tiny_reasoner/tinyreasoner/concept/Concept$Top", name := "<init>", desc := "()V" } : Jvm.MethodName) prog_9_method_1_code (1 : Nat) (Option.none : Option Jvm.ClassFile.FieldType), Jvm.Cond.code ({ cls := "java/lang/Record", name := "<init>", desc := "()V" } : Jvm.MethodName) jdk_30_method_1_code (1 : Nat) (Option.none : Option Jvm.ClassFile.FieldType), Jvm.Cond.code ({ cls := "com/example/tiny_reasoner/tinyreasoner/concept/ConceptOfClassPinLaw", name := "nothingWith", desc := "(C)Ljava/lang/String;" } : Jvm.MethodName) method_3_code (1 : Nat) (Option.some (Jvm.ClassFile.FieldType.object "java/lang/String")), Jvm.Cond.code ({ cls := "com/example/tiny_reasoner/tinyreasoner/concept/Concept$Name", name := "<init>", desc := "(Ljava/lang/String;)V" } : Jvm.MethodName) prog_5_method_1_code (2 : Nat) (Option.none : Option Jvm.ClassFile.FieldType), Jvm.Cond.code ({ cls := "java/util/Objects", name := "requireNonNull", desc := "(Ljava/lang/Object;Ljava/lang/String;)Ljava/lang/Object;" } : Jvm.MethodName) jdk_31_method_11_code (2 : Nat) (Option.some (Jvm.ClassFile.FieldType.object "java/lang/Object")), Jvm.Cond.code ({ cls := "com/example/tiny_reasoner/tinyreasoner/concept/Concept$Name", name := "iri", desc := "()Ljava/lang/String;" } : Jvm.MethodName) prog_5_method_7_code (1 : Nat) (Option.some (Jvm.ClassFile.FieldType.object "java/lang/String")), Jvm.Cond.code ({ cls := "com/example/tiny_reasoner/tinyreasoner/concept/ConceptOfClassPinLaw", name := "drawn", desc := "(IIII)Ljava/lang/String;" } : Jvm.MethodName) method_4_code (7 : Nat) (Option.some (Jvm.ClassFile.FieldType.object "java/lang/String")), Jvm.Cond.code ({ cls := "com/example/tiny_reasoner/tinyreasoner/concept/Concept$Bottom", name := "<init>", desc := "()V" } : Jvm.MethodName) prog_4_method_1_code (1 : Nat) (Option.none : Option Jvm.ClassFile.FieldType)]
set_option maxRecDepth 65536 in
theorem codes_eq : words1.filter isCode = codes1 := rfl
theorem w_codes : ∀ c ∈ words1.filter isCode, c.before args0 about1 = true := by
  rw [codes_eq]
  intro c hc
  simp only [codes1, List.mem_cons, List.not_mem_nil, or_false] at hc
  rcases hc with rfl | rfl | rfl | rfl | rfl | rfl | rfl | rfl | rfl | rfl | rfl | rfl | rfl | rfl | rfl | rfl | rfl | rfl | rfl
  · exact w_c0
  · exact w_c1
  · exact w_c2
  · exact w_c3
  · exact w_c4
  · exact w_c5
  · exact w_c6
  · exact w_c7
  · exact w_c8
  · exact w_c9
  · exact w_c10
  · exact w_c11
  · exact w_c12
  · exact w_c13
  · exact w_c14
  · exact w_c15
  · exact w_c16
  · exact w_c17
  · exact w_c18
set_option maxRecDepth 65536 in
theorem w_t1 : (words1.take 24).all (fun c => isCode c || c.before args0 about1) = true := by decide +kernel
set_option maxRecDepth 65536 in
theorem w_t2 : ((words1.drop 24).take 24).all (fun c => isCode c || c.before args0 about1) = true := by decide +kernel
set_option maxRecDepth 65536 in
theorem w_t3 : (((words1.drop 24).drop 24).take 24).all (fun c => isCode c || c.before args0 about1) = true := by decide +kernel
set_option maxRecDepth 65536 in
theorem w_t4 : ((((words1.drop 24).drop 24).drop 24).take 24).all (fun c => isCode c || c.before args0 about1) = true := by decide +kernel
set_option maxRecDepth 65536 in
theorem w_t5 : ((((words1.drop 24).drop 24).drop 24).drop 24).all (fun c => isCode c || c.before args0 about1) = true := by decide +kernel
theorem w_tables : (allAtoms (Jvm.Cond.code x code maxLocals ret :: tables_1)).before args0 about1 = true := by
  rw [allAtoms_all]
  show words1.all (fun c => c.before args0 about1) = true
  refine all_split ?_ w_codes
  rw [← List.take_append_drop 24 words1, List.all_append, w_t1, ← List.take_append_drop 24 (words1.drop 24), List.all_append, w_t2, ← List.take_append_drop 24 ((words1.drop 24).drop 24), List.all_append, w_t3, ← List.take_append_drop 24 (((words1.drop 24).drop 24).drop 24), List.all_append, w_t4, w_t5]
  rfl
set_option maxRecDepth 65536 in
theorem w_rest : rest_1_c.before args0 about1 = true := by decide +kernel
set_option maxRecDepth 65536 in
theorem w_case : (Jvm.Cond.and given_1 narrow_1).before args0 about1 = true := by decide +kernel
set_option maxRecDepth 65536 in
theorem w_consts : constsHeld consts_1 about1 := Jvm.Lit.constsHeldB_iff.mp (by decide +kernel)
theorem w_applies : (headSpec (Jvm.Cond.code x code maxLocals ret :: tables_1) room_1).applies x e0.platform about1 = true :=
  (Spec.applies_iff w_frames).mpr ⟨w_running, w_runnable, w_alone, w_named, w_hears, w_ripe, w_room, w_tables⟩
theorem atStart : AtStart classFile x code maxLocals ret World_1 tables_1 room_1 Calls_1 rest_1 Pre_1 launch0 p0 e0 about1 theMethod args0 below0 :=
  ⟨lists_1, trivial, launch0.admits_env _ _ _, launch0.least_env, fairChoices_fair.cas, fairChoices_fair.clock, w_frames, w_args, w_heap, w_applies, ⟨w_consts, trivial⟩, w_rest, w_case⟩
end start1
theorem witness_1 : WitnessClaimed_1 := ⟨start1.p0, start1.e0, start1.about1, start1.theMethod, start1.args0, start1.below0, start1.atStart⟩
end Jvm.Pilot.@@N@@
