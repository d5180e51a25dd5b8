import JvmDerived
import JvmDerived.Pilot.@@N@@Statement
import JvmDerived.Pilot.@@N@@Code
set_option linter.unusedVariables false
set_option linter.unusedSimpArgs false

namespace Jvm.GoKit
open Jvm Jvm.ClassFile Sem Op Lib Jvm.Free Jvm.Stand Jvm.LawKit Jvm.RoadKit Bundle
/-- what goes with a Stand over the re-based start -/
def Hid (s Z : State) (wd : Bool) (EL : List (String × Nat)) (n0 : Nat) (ow0 ow : List Addr) (T : State) (locs : List Loc) (vm0 : Vm) (k0 : Nat) (h : Heap) : Prop :=
  s.Since vm0 k0 ∧ k0 ≤ h.size ∧ Z.Warmed39 vm0 ∧ T.heap = h ∧ Fr n0 locs ∧ CHr Z EL s.vm s.heap vm0 h ∧ Keep s.heap h ow0 ∧ Old Z n0 h ∧ (∀ x ∈ ow, Safe Z EL vm0 h x ∧ x < h.size ∧ n0 ≤ x ∧ (x ∈ ow0 ∨ s.heap.size ≤ x)) ∧ (wd = true ∨ s.WarmedH vm0)
/-- what a body leaves -/
def FinS (s Z : State) (wd : Bool) (EL : List (String × Nat)) (n0 : Nat) (ow0 : List Addr) (R : Room) (Q : Option Value → Heap → Prop) (o : Outcome) (t : State) : Prop :=
  ∃ v L, o = .returned v ∧ Q v t.heap ∧ Fr n0 L ∧ CHr Z EL s.vm s.heap t.vm t.heap ∧ Keep s.heap t.heap ow0 ∧ ReturnedEndW s o t L R.cells R.slots ∧ (wd = true ∨ s.WarmedH t.vm)
/-- from wherever the walk stands with heap h at the frame g, the run ends in Q -/
def Run (p : Program) (l : Launch) (e : Env) (R : Room) (s : State) (m : MethodId) (args : Array Value) (below : List Frame) (meth : Method) (c : Code) (Z : State) (wd : Bool) (EL : List (String × Nat)) (n0 : Nat) (ow0 : List Addr) (Q : Option Value → Heap → Prop)
    (h : Heap) (ow : List Addr) (cells slots : Nat) (g : JFrame) : Prop :=
  ∀ (T : State) (locs : List Loc) (vm0 : Vm) (k0 : Nat), Stand p l e R (s.setVm vm0) m args below meth c T locs cells slots → Hid s Z wd EL n0 ow0 ow T locs vm0 k0 h →
    ∃ s₂ o, Steps p.tables e below (T.setTop g) s₂ ∧ s₂.status = .running ∧ Ended s₂ below o ∧ FinS s Z wd EL n0 ow0 R Q o s₂
/-- a method's contract -/
def Con (l : Launch) (Z : State) (wd : Bool) (EL : List (String × Nat)) (n0 : Nat) (y : MethodName) (bytes : ByteArray) (maxL : Nat) (ret : Option FieldType) (rm : Room) (ws : List Jvm.Cond) (as' : Array Value) (h0 : Heap) (ow : List Addr) (Q : Option Value → Heap → Prop) : Prop :=
  MetFree l y (head1 (Jvm.Cond.code y bytes maxL ret :: ws) rm) (fun a U => a = as' ∧ Z.Warmed39 U.vm ∧ U.heap = h0 ∧ Old Z n0 h0 ∧ CHv Z EL U.vm h0 ∧ ∀ x ∈ ow, Safe Z EL U.vm h0 x ∧ x < h0.size ∧ n0 ≤ x) (fun _ _ _ _ _ => True) (fun _ U o U' => FinS U Z wd EL n0 ow rm Q o U')
/-- what stays of a body -/
def Gd (p : Program) (s : State) (m : MethodId) (meth : Method) (c : Code) (y : MethodName) (bytes : ByteArray) (maxL : Nat) (ret : Option FieldType) (Z : State) (a0 : Array Value) (EL : List (String × Nat)) : Prop :=
  p.tables.exec = Jvm.exec ∧ c.code = bytes ∧ c.maxLocals = maxL ∧ s.vm.findClass y.cls = some m.cls ∧ meth.sig.returnType = ret ∧ meth.name = y.name ∧ meth.locks = false ∧ EW Z a0 EL
section
variable {p : Program} {l : Launch} {e : Env} {R : Room} {s : State} {m : MethodId} {args : Array Value} {below : List Frame} {meth : Method} {c : Code} {Z : State} {wd : Bool} {EL : List (String × Nat)} {n0 : Nat} {ow0 : List Addr} {Q : Option Value → Heap → Prop}
variable {h : Heap} {ow : List Addr} {cells slots cells' slots' : Nat} {pc pc' : Nat} {Ls Ls' : Array Slot} {st rest : List Value} {y : MethodName} {bytes : ByteArray} {maxL : Nat} {ret : Option FieldType} {a0 : Array Value}
theorem Con.intro {ws : List Jvm.Cond} {as' : Array Value} (hx : plainFor y = true) (hEL : EW Z a0 EL)
    (body : ∀ (p : Program) (e : Env) (s : State) (m : MethodId) (below : List Frame) (meth : Method) (c : Code), s.heap = h → Gd p s m meth c y bytes maxL ret Z a0 EL → Run p l e R s m as' below meth c Z wd EL n0 ow Q h ow 0 0 (entryFrame m as' maxL)) :
    Con l Z wd EL n0 y bytes maxL ret R ws as' h ow Q := by
  refine MetFree.of_bodySF hx hisR ?_
  intro p e s m args below meth c s₁ Bd hml0 hP hK
  obtain ⟨rfl, hZ, hh, hO, hC, hS⟩ := hP
  have e0 : s₁.heap = h := by rw [← hh, Bd.state]; rfl
  have X0 : Stand p l e R s m args below meth c s₁ [] 0 0 := Stand.of_body Bd
  refine body p e s m below meth c hh ⟨Bd.exec, Bd.bytes, hml0, findClass_of_methodNamed Bd.named, Bd.returns, (name_of_methodNamed Bd.named Bd.method).1, Bd.notSynchronized, hEL⟩ s₁ [] s.vm h.size X0 ?_
  have hc : CHr Z EL s.vm s.heap s.vm h := by rw [hh]; exact CHr.refl hC
  refine ⟨(State.WarmedH.refl s).since _, Nat.le_refl _, hZ, e0, Fr.nil _, hc, by rw [hh]; exact Keep.refl _ _, hO, fun x hx => ⟨(hS x hx).1, (hS x hx).2.1, (hS x hx).2.2, Or.inl hx⟩, Or.inr (State.WarmedH.refl s)⟩
theorem Run.stp {g g' : JFrame} (stp : ∀ (T : State) (locs : List Loc) (vm0 : Vm) (k0 : Nat), Stand p l e R (s.setVm vm0) m args below meth c T locs cells slots → Hid s Z wd EL n0 ow0 ow T locs vm0 k0 h → ∀ t, Steps p.tables e below (T.setTop g') t → Steps p.tables e below (T.setTop g) t)
    (K : Run p l e R s m args below meth c Z wd EL n0 ow0 Q h ow cells slots g') : Run p l e R s m args below meth c Z wd EL n0 ow0 Q h ow cells slots g := fun T locs vm0 k0 X H => by
  obtain ⟨s₂, o, a, b⟩ := K T locs vm0 k0 X H
  exact ⟨s₂, o, stp T locs vm0 k0 X H _ a, b⟩
theorem Run.mov {g g' : JFrame} (stp : ∀ (T : State) (locs : List Loc) (vm0 : Vm) (k0 : Nat), Stand p l e R (s.setVm vm0) m args below meth c T locs cells slots → Hid s Z wd EL n0 ow0 ow T locs vm0 k0 h →
      ∃ T', Stand p l e R (s.setVm vm0) m args below meth c T' locs cells slots ∧ T'.heap = h ∧ ∀ t, Steps p.tables e below (T'.setTop g') t → Steps p.tables e below (T.setTop g) t)
    (K : Run p l e R s m args below meth c Z wd EL n0 ow0 Q h ow cells slots g') : Run p l e R s m args below meth c Z wd EL n0 ow0 Q h ow cells slots g := fun T locs vm0 k0 X H => by
  obtain ⟨T', X', eT, st⟩ := stp T locs vm0 k0 X H
  obtain ⟨i1, i2, i3, -, i5⟩ := H
  obtain ⟨s₂, o, a, b⟩ := K T' locs vm0 k0 X' ⟨i1, i2, i3, eT, i5⟩
  exact ⟨s₂, o, st _ a, b⟩
theorem Run.mono {g : JFrame} {cells' slots' : Nat} (hc : cells ≤ cells') (hs : slots ≤ slots') (K : Run p l e R s m args below meth c Z wd EL n0 ow0 Q h ow cells' slots' g) : Run p l e R s m args below meth c Z wd EL n0 ow0 Q h ow cells slots g := fun T locs vm0 k0 X H => K T locs vm0 k0 (X.mono hc hs) H
theorem Run.owless {g : JFrame} {ow' : List Addr} (hs : ∀ x ∈ ow', x ∈ ow) (K : Run p l e R s m args below meth c Z wd EL n0 ow0 Q h ow' cells slots g) : Run p l e R s m args below meth c Z wd EL n0 ow0 Q h ow cells slots g := fun T locs vm0 k0 X H => by
  obtain ⟨i1, i2, i3, i4, i5, i6, i7, i8, i9, i10⟩ := H
  exact K T locs vm0 k0 X ⟨i1, i2, i3, i4, i5, i6, i7, i8, fun x q => i9 x (hs x q), i10⟩
/-- what is known at every point -/
theorem Run.know {g : JFrame} (K : Ext Z.heap h → Keep s.heap h ow0 → (∀ x ∈ ow, x < h.size ∧ n0 ≤ x ∧ (x ∈ ow0 ∨ s.heap.size ≤ x)) → Run p l e R s m args below meth c Z wd EL n0 ow0 Q h ow cells slots g) : Run p l e R s m args below meth c Z wd EL n0 ow0 Q h ow cells slots g := fun T locs vm0 k0 X H =>
  K H.2.2.2.2.2.2.2.1.2 H.2.2.2.2.2.2.1 (fun x q => (H.2.2.2.2.2.2.2.2.1 x q).2) T locs vm0 k0 X H
theorem Gd.own (G : Gd p s m meth c y bytes maxL ret Z a0 EL) {vm0 : Vm} {k0 : Nat} (hS : s.Since vm0 k0) : vm0.findClass y.cls = some m.cls := (hS.1.alike.findClass _ _).trans G.2.2.2.1
theorem Gd.hb (G : Gd p s m meth c y bytes maxL ret Z a0 EL) {pc : Nat} {r : Except ClassFile.DecodeError (ClassFile.Instr × Nat)} (h2 : ClassFile.decode bytes pc = r) : ClassFile.decode c.code pc = r := Jvm.hb G.2.1 h2
theorem Hid.cell {T : State} {locs : List Loc} {vm0 : Vm} {k0 : Nat} {a : Addr} {cl : Cell} {ty : FieldType} (H : Hid s Z wd EL n0 ow0 ow T locs vm0 k0 h) (A : Arr Z h a cl ty) : T.heap[a]? = some cl := by
  rw [H.2.2.2.1]; exact A.1
theorem Hid.arr {T : State} {locs : List Loc} {vm0 : Vm} {k0 : Nat} {a : Addr} {cl : Cell} {ty : FieldType} (H : Hid s Z wd EL n0 ow0 ow T locs vm0 k0 h) (A : Arr Z h a cl ty) : (s.setVm vm0).isArrayOf cl ty := State.isArrayOf_alike (T := s.setVm vm0) H.2.2.1.alike A.2.1
/-- a write at a place that is ours -/
theorem Hid.wr {T T' : State} {locs : List Loc} {vm0 : Vm} {k0 sl : Nat} {h' : Heap} {a : Addr} {v : Value} (H : Hid s Z wd EL n0 ow0 ow T locs vm0 k0 h) (W : Wr h h' a sl v) (ha : a ∈ ow) (eT : T'.heap = h') : Hid s Z wd EL n0 ow0 ow T' (locs ++ [⟨a, sl⟩]) vm0 k0 h' := by
  obtain ⟨i1, i2, i3, i4, i5, i6, i7, i8, i9, i10⟩ := H
  obtain ⟨S, q1, q2, q3⟩ := i9 a ha
  have hsz : h'.size = h.size := W.size
  refine ⟨i1, by rw [hsz]; exact i2, i3, eT, i5.app (fun y hy => by cases List.mem_singleton.mp hy; exact q2), i6.trans (CHr.wr W S i6.1), i7.wr W q3, i8.wr W q2, fun x hx => ?_, i10⟩
  obtain ⟨S', r1, r2, r3⟩ := i9 x hx
  exact ⟨Safe.wr W S i6.1 S', by rw [hsz]; exact r1, r2, r3⟩
theorem instNAt {T : State} {locs : List Loc} {vm0 : Vm} (X : Stand p l e R (s.setVm vm0) m args below meth c T locs cells slots) (hx : p.tables.exec = Jvm.exec) (hZ : Z.Warmed39 vm0) {own K D : String} {index : Nat} (hown : vm0.findClass own = some m.cls) (w : (Jvm.Cond.classLink own index K).before a0 Z = true) (eT : T.heap = h) {a : Addr} (F : Ins Z h a K false) (E : Exa Z h a D)
    {g : JFrame} (hg : g.method = m) {rest : List Value} (hs : g.stack = .ref a :: rest) (hd : decode c.code g.pc = .ok (.instanceof index, 3)) : ∃ T', Stand p l e R (s.setVm vm0) m args below meth c T' locs cells slots ∧ T'.heap = h ∧ ∀ target, Steps p.tables e below (T'.setTop { g with pc := g.pc + 3, stack := .int 0 :: rest }) target → Steps p.tables e below (T.setTop g) target := by
  obtain ⟨cell, cT, h1, h2, h3⟩ := F
  obtain ⟨cell', k, e1, -, e3, e4, -⟩ := E
  cases h1.symm.trans e1
  obtain ⟨k', q, -⟩ := hZ.alike.2.2 _ _ e3
  obtain ⟨vm', X', st⟩ := Sym.instanceofNoAt X hx hown (mv (s := s.setVm vm0) hZ w) (by rw [eT]; exact h1) e4 q (by show vm0.findClass K = _; rw [hZ.alike.findClass]; exact h2) (by show vm0.assignable _ _ = _; rw [hZ.alike.assignable]; simpa [e4] using h3) hg hs hd
  exact ⟨_, X', eT, st⟩
/-- a new cell -/
theorem Hid.ext {T T' : State} {locs : List Loc} {vm0 : Vm} {k0 : Nat} {h' : Heap} (H : Hid s Z wd EL n0 ow0 ow T locs vm0 k0 h) (E : Ext h h') (hlt : h.size < h'.size) (eT : T'.heap = h') : Hid s Z wd EL n0 ow0 (h.size :: ow) T' locs vm0 k0 h' := by
  obtain ⟨i1, i2, i3, i4, i5, i6, i7, i8, i9, i10⟩ := H
  refine ⟨i1, Nat.le_trans i2 E.1, i3, eT, i5, i6.trans (CHr.ext E i6.1), i7.ext E, i8.ext E, fun x hx => ?_, i10⟩
  rcases List.mem_cons.mp hx with rfl | hx
  · exact ⟨(Safe.new (Nat.le_refl _)).ext E i6.1, hlt, i8.1 ▸ i8.2.1, Or.inr i7.1⟩
  · obtain ⟨S', r1, r2, r3⟩ := i9 x hx
    exact ⟨S'.ext E i6.1, Nat.lt_of_lt_of_le r1 E.1, r2, r3⟩
theorem aloadN (G : Gd p s m meth c y bytes maxL ret Z a0 EL) {k : Fin 4} {v : Value} (hd : decode bytes pc = .ok (.aload_n k, 1)) (hl : Ls[k.val]? = some (.val v)) (hv : v.isRef = true) (hp : pc + 1 = pc') (K : Run p l e R s m args below meth c Z wd EL n0 ow0 Q h ow cells slots (mkF m pc' Ls (v :: st))) : Run p l e R s m args below meth c Z wd EL n0 ow0 Q h ow cells slots (mkF m pc Ls st) := by
  subst hp
  exact Run.stp (fun T locs vm0 k0 X H t k => XS.aloadN X.here G.1 rfl (G.hb hd) hl hv k) K
theorem aload (G : Gd p s m meth c y bytes maxL ret Z a0 EL) {k : Nat} {v : Value} (hd : decode bytes pc = .ok (.aload k, 2)) (hl : Ls[k]? = some (.val v)) (hv : v.isRef = true) (hp : pc + 2 = pc') (K : Run p l e R s m args below meth c Z wd EL n0 ow0 Q h ow cells slots (mkF m pc' Ls (v :: st))) : Run p l e R s m args below meth c Z wd EL n0 ow0 Q h ow cells slots (mkF m pc Ls st) := by
  subst hp
  exact Run.stp (fun T locs vm0 k0 X H t k => XS.aload X.here G.1 rfl (G.hb hd) hl hv k) K
theorem iloadN (G : Gd p s m meth c y bytes maxL ret Z a0 EL) {k : Fin 4} {v : Int32} (hd : decode bytes pc = .ok (.iload_n k, 1)) (hl : Ls[k.val]? = some (.val (.int v))) (hp : pc + 1 = pc') (K : Run p l e R s m args below meth c Z wd EL n0 ow0 Q h ow cells slots (mkF m pc' Ls (.int v :: st))) : Run p l e R s m args below meth c Z wd EL n0 ow0 Q h ow cells slots (mkF m pc Ls st) := by
  subst hp
  exact Run.stp (fun T locs vm0 k0 X H t k => XS.iloadN X.here G.1 rfl (G.hb hd) hl k) K
theorem iload (G : Gd p s m meth c y bytes maxL ret Z a0 EL) {k : Nat} {v : Int32} (hd : decode bytes pc = .ok (.iload k, 2)) (hl : Ls[k]? = some (.val (.int v))) (hp : pc + 2 = pc') (K : Run p l e R s m args below meth c Z wd EL n0 ow0 Q h ow cells slots (mkF m pc' Ls (.int v :: st))) : Run p l e R s m args below meth c Z wd EL n0 ow0 Q h ow cells slots (mkF m pc Ls st) := by
  subst hp
  exact Run.stp (fun T locs vm0 k0 X H t k => XS.iload X.here G.1 rfl (G.hb hd) hl k) K
theorem iconst (G : Gd p s m meth c y bytes maxL ret Z a0 EL) {i : Int} (v : Int32) (hd : decode bytes pc = .ok (.iconst i, 1)) (hv : Int32.ofInt i = v) (hp : pc + 1 = pc') (K : Run p l e R s m args below meth c Z wd EL n0 ow0 Q h ow cells slots (mkF m pc' Ls (.int v :: st))) : Run p l e R s m args below meth c Z wd EL n0 ow0 Q h ow cells slots (mkF m pc Ls st) := by
  subst hp
  exact Run.stp (fun T locs vm0 k0 X H t k => XT.iconstV X.here G.1 rfl v (G.hb hd) hv k) K
theorem bipush (G : Gd p s m meth c y bytes maxL ret Z a0 EL) {i : Int} (v : Int32) (hd : decode bytes pc = .ok (.bipush i, 2)) (hv : (Int8.ofInt i).toInt32 = v) (hp : pc + 2 = pc') (K : Run p l e R s m args below meth c Z wd EL n0 ow0 Q h ow cells slots (mkF m pc' Ls (.int v :: st))) : Run p l e R s m args below meth c Z wd EL n0 ow0 Q h ow cells slots (mkF m pc Ls st) := by
  subst hp
  exact Run.stp (fun T locs vm0 k0 X H t k => XT.bipushV X.here G.1 rfl v (G.hb hd) hv k) K
theorem sipush (G : Gd p s m meth c y bytes maxL ret Z a0 EL) {i : Int} (v : Int32) (hd : decode bytes pc = .ok (.sipush i, 3)) (hv : (Int16.ofInt i).toInt32 = v) (hp : pc + 3 = pc') (K : Run p l e R s m args below meth c Z wd EL n0 ow0 Q h ow cells slots (mkF m pc' Ls (.int v :: st))) : Run p l e R s m args below meth c Z wd EL n0 ow0 Q h ow cells slots (mkF m pc Ls st) := by
  subst hp
  exact Run.stp (fun T locs vm0 k0 X H t k => XT.sipushV X.here G.1 rfl v (G.hb hd) hv k) K
theorem aconstNull (G : Gd p s m meth c y bytes maxL ret Z a0 EL)  (hd : decode bytes pc = .ok (.aconst_null, 1))  (hp : pc + 1 = pc') (K : Run p l e R s m args below meth c Z wd EL n0 ow0 Q h ow cells slots (mkF m pc' Ls (.null :: st))) : Run p l e R s m args below meth c Z wd EL n0 ow0 Q h ow cells slots (mkF m pc Ls st) := by
  subst hp
  exact Run.stp (fun T locs vm0 k0 X H t k => XS.aconstNull X.here G.1 rfl (G.hb hd) k) K
theorem dup (G : Gd p s m meth c y bytes maxL ret Z a0 EL) {v : Value} (hd : decode bytes pc = .ok (.dup, 1)) (hv : v.category = 1) (hp : pc + 1 = pc') (K : Run p l e R s m args below meth c Z wd EL n0 ow0 Q h ow cells slots (mkF m pc' Ls (v :: v :: rest))) : Run p l e R s m args below meth c Z wd EL n0 ow0 Q h ow cells slots (mkF m pc Ls (v :: rest)) := by
  subst hp
  exact Run.stp (fun T locs vm0 k0 X H t k => XS.dup X.here G.1 rfl (G.hb hd) rfl hv k) K
theorem pop (G : Gd p s m meth c y bytes maxL ret Z a0 EL) {v : Value} (hd : decode bytes pc = .ok (.pop, 1)) (hv : v.category = 1) (hp : pc + 1 = pc') (K : Run p l e R s m args below meth c Z wd EL n0 ow0 Q h ow cells slots (mkF m pc' Ls rest)) : Run p l e R s m args below meth c Z wd EL n0 ow0 Q h ow cells slots (mkF m pc Ls (v :: rest)) := by
  subst hp
  exact Run.stp (fun T locs vm0 k0 X H t k => XT.pop X.here G.1 rfl (G.hb hd) rfl hv k) K
theorem dupX1 (G : Gd p s m meth c y bytes maxL ret Z a0 EL) {v w : Value} (hd : decode bytes pc = .ok (.dup_x1, 1)) (hv : v.category = 1) (hw : w.category = 1) (hp : pc + 1 = pc') (K : Run p l e R s m args below meth c Z wd EL n0 ow0 Q h ow cells slots (mkF m pc' Ls (v :: w :: v :: rest))) : Run p l e R s m args below meth c Z wd EL n0 ow0 Q h ow cells slots (mkF m pc Ls (v :: w :: rest)) := by
  subst hp
  exact Run.stp (fun T locs vm0 k0 X H t k => XT.dupX1 X.here G.1 rfl (G.hb hd) rfl hv hw k) K
theorem istoreN (G : Gd p s m meth c y bytes maxL ret Z a0 EL) {k : Fin 4} {x : Int32} (hd : decode bytes pc = .ok (.istore_n k, 1)) (hl : storeLocals Ls k.val (.int x) = some Ls') (hp : pc + 1 = pc') (K : Run p l e R s m args below meth c Z wd EL n0 ow0 Q h ow cells slots (mkF m pc' Ls' rest)) : Run p l e R s m args below meth c Z wd EL n0 ow0 Q h ow cells slots (mkF m pc Ls (.int x :: rest)) := by
  subst hp
  exact Run.stp (fun T locs vm0 k0 X H t k => XS.istoreN X.here G.1 rfl (G.hb hd) rfl hl k) K
theorem istore (G : Gd p s m meth c y bytes maxL ret Z a0 EL) {k : Nat} {x : Int32} (hd : decode bytes pc = .ok (.istore k, 2)) (hl : storeLocals Ls k (.int x) = some Ls') (hp : pc + 2 = pc') (K : Run p l e R s m args below meth c Z wd EL n0 ow0 Q h ow cells slots (mkF m pc' Ls' rest)) : Run p l e R s m args below meth c Z wd EL n0 ow0 Q h ow cells slots (mkF m pc Ls (.int x :: rest)) := by
  subst hp
  exact Run.stp (fun T locs vm0 k0 X H t k => XS.istore X.here G.1 rfl (G.hb hd) rfl hl k) K
theorem astoreN (G : Gd p s m meth c y bytes maxL ret Z a0 EL) {k : Fin 4} {x : Value} (hd : decode bytes pc = .ok (.astore_n k, 1)) (hv : x.isRef = true) (hl : storeLocals Ls k.val x = some Ls') (hp : pc + 1 = pc') (K : Run p l e R s m args below meth c Z wd EL n0 ow0 Q h ow cells slots (mkF m pc' Ls' rest)) : Run p l e R s m args below meth c Z wd EL n0 ow0 Q h ow cells slots (mkF m pc Ls (x :: rest)) := by
  subst hp
  exact Run.stp (fun T locs vm0 k0 X H t k => XS.astoreN X.here G.1 rfl (G.hb hd) rfl hv hl k) K
theorem astore (G : Gd p s m meth c y bytes maxL ret Z a0 EL) {k : Nat} {x : Value} (hd : decode bytes pc = .ok (.astore k, 2)) (hv : x.isRef = true) (hl : storeLocals Ls k x = some Ls') (hp : pc + 2 = pc') (K : Run p l e R s m args below meth c Z wd EL n0 ow0 Q h ow cells slots (mkF m pc' Ls' rest)) : Run p l e R s m args below meth c Z wd EL n0 ow0 Q h ow cells slots (mkF m pc Ls (x :: rest)) := by
  subst hp
  exact Run.stp (fun T locs vm0 k0 X H t k => XS.astore X.here G.1 rfl (G.hb hd) rfl hv hl k) K
theorem iinc (G : Gd p s m meth c y bytes maxL ret Z a0 EL) {k : Nat} {i : Int} {x : Int32} (v : Int32) (hd : decode bytes pc = .ok (.iinc k i, 3)) (hv : Int32.ofInt i = v) (hl : Ls[k]? = some (.val (.int x))) (hl' : storeLocals Ls k (.int (x + v)) = some Ls') (hp : pc + 3 = pc') (K : Run p l e R s m args below meth c Z wd EL n0 ow0 Q h ow cells slots (mkF m pc' Ls' st)) : Run p l e R s m args below meth c Z wd EL n0 ow0 Q h ow cells slots (mkF m pc Ls st) := by
  subst hp
  exact Run.stp (fun T locs vm0 k0 X H t k => XT.iincV X.here G.1 rfl v (G.hb hd) hv hl hl' k) K
theorem iadd (G : Gd p s m meth c y bytes maxL ret Z a0 EL) {x z : Int32} (hd : decode bytes pc = .ok (.iadd, 1))  (hp : pc + 1 = pc') (K : ∀ v : Int32, v = x + z → Run p l e R s m args below meth c Z wd EL n0 ow0 Q h ow cells slots (mkF m pc' Ls (.int v :: rest))) : Run p l e R s m args below meth c Z wd EL n0 ow0 Q h ow cells slots (mkF m pc Ls (.int z :: .int x :: rest)) := by
  subst hp
  exact Run.stp (fun T locs vm0 k0 X H t k => XS.iadd X.here G.1 rfl (G.hb hd) rfl k) (K _ rfl)
theorem isub (G : Gd p s m meth c y bytes maxL ret Z a0 EL) {x z : Int32} (hd : decode bytes pc = .ok (.isub, 1))  (hp : pc + 1 = pc') (K : ∀ v : Int32, v = x - z → Run p l e R s m args below meth c Z wd EL n0 ow0 Q h ow cells slots (mkF m pc' Ls (.int v :: rest))) : Run p l e R s m args below meth c Z wd EL n0 ow0 Q h ow cells slots (mkF m pc Ls (.int z :: .int x :: rest)) := by
  subst hp
  exact Run.stp (fun T locs vm0 k0 X H t k => XS.isub X.here G.1 rfl (G.hb hd) rfl k) (K _ rfl)
theorem iand (G : Gd p s m meth c y bytes maxL ret Z a0 EL) {x z : Int32} (hd : decode bytes pc = .ok (.iand, 1))  (hp : pc + 1 = pc') (K : ∀ v : Int32, v = x &&& z → Run p l e R s m args below meth c Z wd EL n0 ow0 Q h ow cells slots (mkF m pc' Ls (.int v :: rest))) : Run p l e R s m args below meth c Z wd EL n0 ow0 Q h ow cells slots (mkF m pc Ls (.int z :: .int x :: rest)) := by
  subst hp
  exact Run.stp (fun T locs vm0 k0 X H t k => XS.iand X.here G.1 rfl (G.hb hd) rfl k) (K _ rfl)
theorem imul (G : Gd p s m meth c y bytes maxL ret Z a0 EL) {x z : Int32} (hd : decode bytes pc = .ok (.imul, 1))  (hp : pc + 1 = pc') (K : ∀ v : Int32, v = x * z → Run p l e R s m args below meth c Z wd EL n0 ow0 Q h ow cells slots (mkF m pc' Ls (.int v :: rest))) : Run p l e R s m args below meth c Z wd EL n0 ow0 Q h ow cells slots (mkF m pc Ls (.int z :: .int x :: rest)) := by
  subst hp
  exact Run.stp (fun T locs vm0 k0 X H t k => XS.imul X.here G.1 rfl (G.hb hd) rfl k) (K _ rfl)
theorem ior (G : Gd p s m meth c y bytes maxL ret Z a0 EL) {x z : Int32} (hd : decode bytes pc = .ok (.ior, 1))  (hp : pc + 1 = pc') (K : ∀ v : Int32, v = x ||| z → Run p l e R s m args below meth c Z wd EL n0 ow0 Q h ow cells slots (mkF m pc' Ls (.int v :: rest))) : Run p l e R s m args below meth c Z wd EL n0 ow0 Q h ow cells slots (mkF m pc Ls (.int z :: .int x :: rest)) := by
  subst hp
  exact Run.stp (fun T locs vm0 k0 X H t k => XT.ior X.here G.1 rfl (G.hb hd) rfl k) (K _ rfl)
theorem ixor (G : Gd p s m meth c y bytes maxL ret Z a0 EL) {x z : Int32} (hd : decode bytes pc = .ok (.ixor, 1))  (hp : pc + 1 = pc') (K : ∀ v : Int32, v = x ^^^ z → Run p l e R s m args below meth c Z wd EL n0 ow0 Q h ow cells slots (mkF m pc' Ls (.int v :: rest))) : Run p l e R s m args below meth c Z wd EL n0 ow0 Q h ow cells slots (mkF m pc Ls (.int z :: .int x :: rest)) := by
  subst hp
  exact Run.stp (fun T locs vm0 k0 X H t k => XT.ixor X.here G.1 rfl (G.hb hd) rfl k) (K _ rfl)
theorem irem (G : Gd p s m meth c y bytes maxL ret Z a0 EL) {x z : Int32} (hd : decode bytes pc = .ok (.irem, 1)) (hz : z ≠ 0) (hp : pc + 1 = pc') (K : ∀ v : Int32, v = x % z → Run p l e R s m args below meth c Z wd EL n0 ow0 Q h ow cells slots (mkF m pc' Ls (.int v :: rest))) : Run p l e R s m args below meth c Z wd EL n0 ow0 Q h ow cells slots (mkF m pc Ls (.int z :: .int x :: rest)) := by
  subst hp
  exact Run.stp (fun T locs vm0 k0 X H t k => iremM X G.1 rfl (G.hb hd) rfl hz k) (K _ rfl)
theorem ineg (G : Gd p s m meth c y bytes maxL ret Z a0 EL) {x : Int32} (hd : decode bytes pc = .ok (.ineg, 1)) (hp : pc + 1 = pc') (K : ∀ v : Int32, v = -x → Run p l e R s m args below meth c Z wd EL n0 ow0 Q h ow cells slots (mkF m pc' Ls (.int v :: rest))) : Run p l e R s m args below meth c Z wd EL n0 ow0 Q h ow cells slots (mkF m pc Ls (.int x :: rest)) := by
  subst hp
  exact Run.stp (fun T locs vm0 k0 X H t k => XS.ineg X.here G.1 rfl (G.hb hd) rfl k) (K _ rfl)
theorem i2c (G : Gd p s m meth c y bytes maxL ret Z a0 EL) {x : Int32} (hd : decode bytes pc = .ok (.i2c, 1)) (hp : pc + 1 = pc') (K : ∀ v : Int32, v = x.toUInt32.toUInt16.toUInt32.toInt32 → Run p l e R s m args below meth c Z wd EL n0 ow0 Q h ow cells slots (mkF m pc' Ls (.int v :: rest))) : Run p l e R s m args below meth c Z wd EL n0 ow0 Q h ow cells slots (mkF m pc Ls (.int x :: rest)) := by
  subst hp
  exact Run.stp (fun T locs vm0 k0 X H t k => XT.i2c X.here G.1 rfl (G.hb hd) rfl k) (K _ rfl)
theorem i2b (G : Gd p s m meth c y bytes maxL ret Z a0 EL) {x : Int32} (hd : decode bytes pc = .ok (.i2b, 1)) (hp : pc + 1 = pc') (K : ∀ v : Int32, v = x.toInt8.toInt32 → Run p l e R s m args below meth c Z wd EL n0 ow0 Q h ow cells slots (mkF m pc' Ls (.int v :: rest))) : Run p l e R s m args below meth c Z wd EL n0 ow0 Q h ow cells slots (mkF m pc Ls (.int x :: rest)) := by
  subst hp
  exact Run.stp (fun T locs vm0 k0 X H t k => XT.i2b X.here G.1 rfl (G.hb hd) rfl k) (K _ rfl)
theorem ishl (G : Gd p s m meth c y bytes maxL ret Z a0 EL) {x z : Int32} (hd : decode bytes pc = .ok (.ishl, 1))  (hp : pc + 1 = pc') (K : ∀ v : Int32, v = x <<< (z &&& 31) → Run p l e R s m args below meth c Z wd EL n0 ow0 Q h ow cells slots (mkF m pc' Ls (.int v :: rest))) : Run p l e R s m args below meth c Z wd EL n0 ow0 Q h ow cells slots (mkF m pc Ls (.int z :: .int x :: rest)) := by
  subst hp
  exact Run.stp (fun T locs vm0 k0 X H t k => XT.ishl X.here G.1 rfl (G.hb hd) rfl k) (K _ rfl)
theorem ishr (G : Gd p s m meth c y bytes maxL ret Z a0 EL) {x z : Int32} (hd : decode bytes pc = .ok (.ishr, 1))  (hp : pc + 1 = pc') (K : ∀ v : Int32, v = x >>> (z &&& 31) → Run p l e R s m args below meth c Z wd EL n0 ow0 Q h ow cells slots (mkF m pc' Ls (.int v :: rest))) : Run p l e R s m args below meth c Z wd EL n0 ow0 Q h ow cells slots (mkF m pc Ls (.int z :: .int x :: rest)) := by
  subst hp
  exact Run.stp (fun T locs vm0 k0 X H t k => XT.ishr X.here G.1 rfl (G.hb hd) rfl k) (K _ rfl)
theorem iushr (G : Gd p s m meth c y bytes maxL ret Z a0 EL) {x z : Int32} (hd : decode bytes pc = .ok (.iushr, 1))  (hp : pc + 1 = pc') (K : ∀ v : Int32, v = (x.toUInt32 >>> (z &&& 31).toUInt32).toInt32 → Run p l e R s m args below meth c Z wd EL n0 ow0 Q h ow cells slots (mkF m pc' Ls (.int v :: rest))) : Run p l e R s m args below meth c Z wd EL n0 ow0 Q h ow cells slots (mkF m pc Ls (.int z :: .int x :: rest)) := by
  subst hp
  exact Run.stp (fun T locs vm0 k0 X H t k => XT.iushr X.here G.1 rfl (G.hb hd) rfl k) (K _ rfl)
theorem goto (G : Gd p s m meth c y bytes maxL ret Z a0 EL) {o : Int} (hd : decode bytes pc = .ok (.goto o, 3)) (ho : 0 ≤ (pc : Int) + o) (hp : ((pc : Int) + o).toNat = pc') (K : Run p l e R s m args below meth c Z wd EL n0 ow0 Q h ow cells slots (mkF m pc' Ls st)) : Run p l e R s m args below meth c Z wd EL n0 ow0 Q h ow cells slots (mkF m pc Ls st) :=
  Run.stp (fun T locs vm0 k0 X H t k => XS.goto X.here G.1 rfl rfl (G.hb hd) ho hp k) K
theorem icmp_eq_t (G : Gd p s m meth c y bytes maxL ret Z a0 EL) {o : Int} {x z : Int32} (hd : decode bytes pc = .ok (.if_icmp .eq o, 3)) (hc : x = z) (ho : 0 ≤ (pc : Int) + o) (hp : ((pc : Int) + o).toNat = pc') (K : Run p l e R s m args below meth c Z wd EL n0 ow0 Q h ow cells slots (mkF m pc' Ls rest)) : Run p l e R s m args below meth c Z wd EL n0 ow0 Q h ow cells slots (mkF m pc Ls (.int z :: .int x :: rest)) :=
  Run.stp (fun T locs vm0 k0 X H t k => XS.icmpYes X.here G.1 rfl rfl (G.hb hd) rfl (XT.ii_eq_t hc) ho hp k) K
theorem icmp_eq_f (G : Gd p s m meth c y bytes maxL ret Z a0 EL) {o : Int} {x z : Int32} (hd : decode bytes pc = .ok (.if_icmp .eq o, 3)) (hc : ¬ x = z) (hp : pc + 3 = pc') (K : Run p l e R s m args below meth c Z wd EL n0 ow0 Q h ow cells slots (mkF m pc' Ls rest)) : Run p l e R s m args below meth c Z wd EL n0 ow0 Q h ow cells slots (mkF m pc Ls (.int z :: .int x :: rest)) := by
  subst hp
  exact Run.stp (fun T locs vm0 k0 X H t k => XS.icmpNo X.here G.1 rfl (G.hb hd) rfl (XT.ii_eq_f hc) k) K
theorem icmp_eq (G : Gd p s m meth c y bytes maxL ret Z a0 EL) {o : Int} {x z : Int32} {pt pf : Nat} (hd : decode bytes pc = .ok (.if_icmp .eq o, 3)) (ho : 0 ≤ (pc : Int) + o) (hp : ((pc : Int) + o).toNat = pt) (hq : pc + 3 = pf) (K1 : (x = z) → Run p l e R s m args below meth c Z wd EL n0 ow0 Q h ow cells slots (mkF m pt Ls rest)) (K2 : (¬ x = z) → Run p l e R s m args below meth c Z wd EL n0 ow0 Q h ow cells slots (mkF m pf Ls rest)) : Run p l e R s m args below meth c Z wd EL n0 ow0 Q h ow cells slots (mkF m pc Ls (.int z :: .int x :: rest)) := by
  by_cases q : x = z
  · exact icmp_eq_t G hd q ho hp (K1 q)
  · exact icmp_eq_f G hd q hq (K2 q)
theorem icmp_ne_t (G : Gd p s m meth c y bytes maxL ret Z a0 EL) {o : Int} {x z : Int32} (hd : decode bytes pc = .ok (.if_icmp .ne o, 3)) (hc : ¬ x = z) (ho : 0 ≤ (pc : Int) + o) (hp : ((pc : Int) + o).toNat = pc') (K : Run p l e R s m args below meth c Z wd EL n0 ow0 Q h ow cells slots (mkF m pc' Ls rest)) : Run p l e R s m args below meth c Z wd EL n0 ow0 Q h ow cells slots (mkF m pc Ls (.int z :: .int x :: rest)) :=
  Run.stp (fun T locs vm0 k0 X H t k => XS.icmpYes X.here G.1 rfl rfl (G.hb hd) rfl (XT.ii_ne_t hc) ho hp k) K
theorem icmp_ne_f (G : Gd p s m meth c y bytes maxL ret Z a0 EL) {o : Int} {x z : Int32} (hd : decode bytes pc = .ok (.if_icmp .ne o, 3)) (hc : x = z) (hp : pc + 3 = pc') (K : Run p l e R s m args below meth c Z wd EL n0 ow0 Q h ow cells slots (mkF m pc' Ls rest)) : Run p l e R s m args below meth c Z wd EL n0 ow0 Q h ow cells slots (mkF m pc Ls (.int z :: .int x :: rest)) := by
  subst hp
  exact Run.stp (fun T locs vm0 k0 X H t k => XS.icmpNo X.here G.1 rfl (G.hb hd) rfl (XT.ii_ne_f hc) k) K
theorem icmp_ne (G : Gd p s m meth c y bytes maxL ret Z a0 EL) {o : Int} {x z : Int32} {pt pf : Nat} (hd : decode bytes pc = .ok (.if_icmp .ne o, 3)) (ho : 0 ≤ (pc : Int) + o) (hp : ((pc : Int) + o).toNat = pt) (hq : pc + 3 = pf) (K1 : (¬ x = z) → Run p l e R s m args below meth c Z wd EL n0 ow0 Q h ow cells slots (mkF m pt Ls rest)) (K2 : (x = z) → Run p l e R s m args below meth c Z wd EL n0 ow0 Q h ow cells slots (mkF m pf Ls rest)) : Run p l e R s m args below meth c Z wd EL n0 ow0 Q h ow cells slots (mkF m pc Ls (.int z :: .int x :: rest)) := by
  by_cases q : x = z
  · exact icmp_ne_f G hd q hq (K2 q)
  · exact icmp_ne_t G hd q ho hp (K1 q)
theorem icmp_lt_t (G : Gd p s m meth c y bytes maxL ret Z a0 EL) {o : Int} {x z : Int32} (hd : decode bytes pc = .ok (.if_icmp .lt o, 3)) (hc : x < z) (ho : 0 ≤ (pc : Int) + o) (hp : ((pc : Int) + o).toNat = pc') (K : Run p l e R s m args below meth c Z wd EL n0 ow0 Q h ow cells slots (mkF m pc' Ls rest)) : Run p l e R s m args below meth c Z wd EL n0 ow0 Q h ow cells slots (mkF m pc Ls (.int z :: .int x :: rest)) :=
  Run.stp (fun T locs vm0 k0 X H t k => XS.icmpYes X.here G.1 rfl rfl (G.hb hd) rfl (XT.ii_lt_t hc) ho hp k) K
theorem icmp_lt_f (G : Gd p s m meth c y bytes maxL ret Z a0 EL) {o : Int} {x z : Int32} (hd : decode bytes pc = .ok (.if_icmp .lt o, 3)) (hc : ¬ x < z) (hp : pc + 3 = pc') (K : Run p l e R s m args below meth c Z wd EL n0 ow0 Q h ow cells slots (mkF m pc' Ls rest)) : Run p l e R s m args below meth c Z wd EL n0 ow0 Q h ow cells slots (mkF m pc Ls (.int z :: .int x :: rest)) := by
  subst hp
  exact Run.stp (fun T locs vm0 k0 X H t k => XS.icmpNo X.here G.1 rfl (G.hb hd) rfl (XT.ii_lt_f hc) k) K
theorem icmp_lt (G : Gd p s m meth c y bytes maxL ret Z a0 EL) {o : Int} {x z : Int32} {pt pf : Nat} (hd : decode bytes pc = .ok (.if_icmp .lt o, 3)) (ho : 0 ≤ (pc : Int) + o) (hp : ((pc : Int) + o).toNat = pt) (hq : pc + 3 = pf) (K1 : (x < z) → Run p l e R s m args below meth c Z wd EL n0 ow0 Q h ow cells slots (mkF m pt Ls rest)) (K2 : (¬ x < z) → Run p l e R s m args below meth c Z wd EL n0 ow0 Q h ow cells slots (mkF m pf Ls rest)) : Run p l e R s m args below meth c Z wd EL n0 ow0 Q h ow cells slots (mkF m pc Ls (.int z :: .int x :: rest)) := by
  by_cases q : x < z
  · exact icmp_lt_t G hd q ho hp (K1 q)
  · exact icmp_lt_f G hd q hq (K2 q)
theorem icmp_ge_t (G : Gd p s m meth c y bytes maxL ret Z a0 EL) {o : Int} {x z : Int32} (hd : decode bytes pc = .ok (.if_icmp .ge o, 3)) (hc : ¬ x < z) (ho : 0 ≤ (pc : Int) + o) (hp : ((pc : Int) + o).toNat = pc') (K : Run p l e R s m args below meth c Z wd EL n0 ow0 Q h ow cells slots (mkF m pc' Ls rest)) : Run p l e R s m args below meth c Z wd EL n0 ow0 Q h ow cells slots (mkF m pc Ls (.int z :: .int x :: rest)) :=
  Run.stp (fun T locs vm0 k0 X H t k => XS.icmpYes X.here G.1 rfl rfl (G.hb hd) rfl (XT.ii_ge_t hc) ho hp k) K
theorem icmp_ge_f (G : Gd p s m meth c y bytes maxL ret Z a0 EL) {o : Int} {x z : Int32} (hd : decode bytes pc = .ok (.if_icmp .ge o, 3)) (hc : x < z) (hp : pc + 3 = pc') (K : Run p l e R s m args below meth c Z wd EL n0 ow0 Q h ow cells slots (mkF m pc' Ls rest)) : Run p l e R s m args below meth c Z wd EL n0 ow0 Q h ow cells slots (mkF m pc Ls (.int z :: .int x :: rest)) := by
  subst hp
  exact Run.stp (fun T locs vm0 k0 X H t k => XS.icmpNo X.here G.1 rfl (G.hb hd) rfl (XT.ii_ge_f hc) k) K
theorem icmp_ge (G : Gd p s m meth c y bytes maxL ret Z a0 EL) {o : Int} {x z : Int32} {pt pf : Nat} (hd : decode bytes pc = .ok (.if_icmp .ge o, 3)) (ho : 0 ≤ (pc : Int) + o) (hp : ((pc : Int) + o).toNat = pt) (hq : pc + 3 = pf) (K1 : (¬ x < z) → Run p l e R s m args below meth c Z wd EL n0 ow0 Q h ow cells slots (mkF m pt Ls rest)) (K2 : (x < z) → Run p l e R s m args below meth c Z wd EL n0 ow0 Q h ow cells slots (mkF m pf Ls rest)) : Run p l e R s m args below meth c Z wd EL n0 ow0 Q h ow cells slots (mkF m pc Ls (.int z :: .int x :: rest)) := by
  by_cases q : x < z
  · exact icmp_ge_f G hd q hq (K2 q)
  · exact icmp_ge_t G hd q ho hp (K1 q)
theorem icmp_gt_t (G : Gd p s m meth c y bytes maxL ret Z a0 EL) {o : Int} {x z : Int32} (hd : decode bytes pc = .ok (.if_icmp .gt o, 3)) (hc : z < x) (ho : 0 ≤ (pc : Int) + o) (hp : ((pc : Int) + o).toNat = pc') (K : Run p l e R s m args below meth c Z wd EL n0 ow0 Q h ow cells slots (mkF m pc' Ls rest)) : Run p l e R s m args below meth c Z wd EL n0 ow0 Q h ow cells slots (mkF m pc Ls (.int z :: .int x :: rest)) :=
  Run.stp (fun T locs vm0 k0 X H t k => XS.icmpYes X.here G.1 rfl rfl (G.hb hd) rfl (XT.ii_gt_t hc) ho hp k) K
theorem icmp_gt_f (G : Gd p s m meth c y bytes maxL ret Z a0 EL) {o : Int} {x z : Int32} (hd : decode bytes pc = .ok (.if_icmp .gt o, 3)) (hc : ¬ z < x) (hp : pc + 3 = pc') (K : Run p l e R s m args below meth c Z wd EL n0 ow0 Q h ow cells slots (mkF m pc' Ls rest)) : Run p l e R s m args below meth c Z wd EL n0 ow0 Q h ow cells slots (mkF m pc Ls (.int z :: .int x :: rest)) := by
  subst hp
  exact Run.stp (fun T locs vm0 k0 X H t k => XS.icmpNo X.here G.1 rfl (G.hb hd) rfl (XT.ii_gt_f hc) k) K
theorem icmp_gt (G : Gd p s m meth c y bytes maxL ret Z a0 EL) {o : Int} {x z : Int32} {pt pf : Nat} (hd : decode bytes pc = .ok (.if_icmp .gt o, 3)) (ho : 0 ≤ (pc : Int) + o) (hp : ((pc : Int) + o).toNat = pt) (hq : pc + 3 = pf) (K1 : (z < x) → Run p l e R s m args below meth c Z wd EL n0 ow0 Q h ow cells slots (mkF m pt Ls rest)) (K2 : (¬ z < x) → Run p l e R s m args below meth c Z wd EL n0 ow0 Q h ow cells slots (mkF m pf Ls rest)) : Run p l e R s m args below meth c Z wd EL n0 ow0 Q h ow cells slots (mkF m pc Ls (.int z :: .int x :: rest)) := by
  by_cases q : z < x
  · exact icmp_gt_t G hd q ho hp (K1 q)
  · exact icmp_gt_f G hd q hq (K2 q)
theorem icmp_le_t (G : Gd p s m meth c y bytes maxL ret Z a0 EL) {o : Int} {x z : Int32} (hd : decode bytes pc = .ok (.if_icmp .le o, 3)) (hc : ¬ z < x) (ho : 0 ≤ (pc : Int) + o) (hp : ((pc : Int) + o).toNat = pc') (K : Run p l e R s m args below meth c Z wd EL n0 ow0 Q h ow cells slots (mkF m pc' Ls rest)) : Run p l e R s m args below meth c Z wd EL n0 ow0 Q h ow cells slots (mkF m pc Ls (.int z :: .int x :: rest)) :=
  Run.stp (fun T locs vm0 k0 X H t k => XS.icmpYes X.here G.1 rfl rfl (G.hb hd) rfl (XT.ii_le_t hc) ho hp k) K
theorem icmp_le_f (G : Gd p s m meth c y bytes maxL ret Z a0 EL) {o : Int} {x z : Int32} (hd : decode bytes pc = .ok (.if_icmp .le o, 3)) (hc : z < x) (hp : pc + 3 = pc') (K : Run p l e R s m args below meth c Z wd EL n0 ow0 Q h ow cells slots (mkF m pc' Ls rest)) : Run p l e R s m args below meth c Z wd EL n0 ow0 Q h ow cells slots (mkF m pc Ls (.int z :: .int x :: rest)) := by
  subst hp
  exact Run.stp (fun T locs vm0 k0 X H t k => XS.icmpNo X.here G.1 rfl (G.hb hd) rfl (XT.ii_le_f hc) k) K
theorem icmp_le (G : Gd p s m meth c y bytes maxL ret Z a0 EL) {o : Int} {x z : Int32} {pt pf : Nat} (hd : decode bytes pc = .ok (.if_icmp .le o, 3)) (ho : 0 ≤ (pc : Int) + o) (hp : ((pc : Int) + o).toNat = pt) (hq : pc + 3 = pf) (K1 : (¬ z < x) → Run p l e R s m args below meth c Z wd EL n0 ow0 Q h ow cells slots (mkF m pt Ls rest)) (K2 : (z < x) → Run p l e R s m args below meth c Z wd EL n0 ow0 Q h ow cells slots (mkF m pf Ls rest)) : Run p l e R s m args below meth c Z wd EL n0 ow0 Q h ow cells slots (mkF m pc Ls (.int z :: .int x :: rest)) := by
  by_cases q : z < x
  · exact icmp_le_f G hd q hq (K2 q)
  · exact icmp_le_t G hd q ho hp (K1 q)
theorem if_eq_t (G : Gd p s m meth c y bytes maxL ret Z a0 EL) {o : Int} {x : Int32} (hd : decode bytes pc = .ok (.ifCond .eq o, 3)) (hc : x = 0) (ho : 0 ≤ (pc : Int) + o) (hp : ((pc : Int) + o).toNat = pc') (K : Run p l e R s m args below meth c Z wd EL n0 ow0 Q h ow cells slots (mkF m pc' Ls rest)) : Run p l e R s m args below meth c Z wd EL n0 ow0 Q h ow cells slots (mkF m pc Ls (.int x :: rest)) :=
  Run.stp (fun T locs vm0 k0 X H t k => XS.ifYes X.here G.1 rfl rfl (G.hb hd) rfl (XT.i0_eq_t hc) ho hp k) K
theorem if_eq_f (G : Gd p s m meth c y bytes maxL ret Z a0 EL) {o : Int} {x : Int32} (hd : decode bytes pc = .ok (.ifCond .eq o, 3)) (hc : ¬ x = 0) (hp : pc + 3 = pc') (K : Run p l e R s m args below meth c Z wd EL n0 ow0 Q h ow cells slots (mkF m pc' Ls rest)) : Run p l e R s m args below meth c Z wd EL n0 ow0 Q h ow cells slots (mkF m pc Ls (.int x :: rest)) := by
  subst hp
  exact Run.stp (fun T locs vm0 k0 X H t k => XS.ifNo X.here G.1 rfl (G.hb hd) rfl (XT.i0_eq_f hc) k) K
theorem if_eq (G : Gd p s m meth c y bytes maxL ret Z a0 EL) {o : Int} {x : Int32} {pt pf : Nat} (hd : decode bytes pc = .ok (.ifCond .eq o, 3)) (ho : 0 ≤ (pc : Int) + o) (hp : ((pc : Int) + o).toNat = pt) (hq : pc + 3 = pf) (K1 : (x = 0) → Run p l e R s m args below meth c Z wd EL n0 ow0 Q h ow cells slots (mkF m pt Ls rest)) (K2 : (¬ x = 0) → Run p l e R s m args below meth c Z wd EL n0 ow0 Q h ow cells slots (mkF m pf Ls rest)) : Run p l e R s m args below meth c Z wd EL n0 ow0 Q h ow cells slots (mkF m pc Ls (.int x :: rest)) := by
  by_cases q : x = 0
  · exact if_eq_t G hd q ho hp (K1 q)
  · exact if_eq_f G hd q hq (K2 q)
theorem if_ne_t (G : Gd p s m meth c y bytes maxL ret Z a0 EL) {o : Int} {x : Int32} (hd : decode bytes pc = .ok (.ifCond .ne o, 3)) (hc : ¬ x = 0) (ho : 0 ≤ (pc : Int) + o) (hp : ((pc : Int) + o).toNat = pc') (K : Run p l e R s m args below meth c Z wd EL n0 ow0 Q h ow cells slots (mkF m pc' Ls rest)) : Run p l e R s m args below meth c Z wd EL n0 ow0 Q h ow cells slots (mkF m pc Ls (.int x :: rest)) :=
  Run.stp (fun T locs vm0 k0 X H t k => XS.ifYes X.here G.1 rfl rfl (G.hb hd) rfl (XT.i0_ne_t hc) ho hp k) K
theorem if_ne_f (G : Gd p s m meth c y bytes maxL ret Z a0 EL) {o : Int} {x : Int32} (hd : decode bytes pc = .ok (.ifCond .ne o, 3)) (hc : x = 0) (hp : pc + 3 = pc') (K : Run p l e R s m args below meth c Z wd EL n0 ow0 Q h ow cells slots (mkF m pc' Ls rest)) : Run p l e R s m args below meth c Z wd EL n0 ow0 Q h ow cells slots (mkF m pc Ls (.int x :: rest)) := by
  subst hp
  exact Run.stp (fun T locs vm0 k0 X H t k => XS.ifNo X.here G.1 rfl (G.hb hd) rfl (XT.i0_ne_f hc) k) K
theorem if_ne (G : Gd p s m meth c y bytes maxL ret Z a0 EL) {o : Int} {x : Int32} {pt pf : Nat} (hd : decode bytes pc = .ok (.ifCond .ne o, 3)) (ho : 0 ≤ (pc : Int) + o) (hp : ((pc : Int) + o).toNat = pt) (hq : pc + 3 = pf) (K1 : (¬ x = 0) → Run p l e R s m args below meth c Z wd EL n0 ow0 Q h ow cells slots (mkF m pt Ls rest)) (K2 : (x = 0) → Run p l e R s m args below meth c Z wd EL n0 ow0 Q h ow cells slots (mkF m pf Ls rest)) : Run p l e R s m args below meth c Z wd EL n0 ow0 Q h ow cells slots (mkF m pc Ls (.int x :: rest)) := by
  by_cases q : x = 0
  · exact if_ne_f G hd q hq (K2 q)
  · exact if_ne_t G hd q ho hp (K1 q)
theorem if_lt_t (G : Gd p s m meth c y bytes maxL ret Z a0 EL) {o : Int} {x : Int32} (hd : decode bytes pc = .ok (.ifCond .lt o, 3)) (hc : x < 0) (ho : 0 ≤ (pc : Int) + o) (hp : ((pc : Int) + o).toNat = pc') (K : Run p l e R s m args below meth c Z wd EL n0 ow0 Q h ow cells slots (mkF m pc' Ls rest)) : Run p l e R s m args below meth c Z wd EL n0 ow0 Q h ow cells slots (mkF m pc Ls (.int x :: rest)) :=
  Run.stp (fun T locs vm0 k0 X H t k => XS.ifYes X.here G.1 rfl rfl (G.hb hd) rfl (XT.i0_lt_t hc) ho hp k) K
theorem if_lt_f (G : Gd p s m meth c y bytes maxL ret Z a0 EL) {o : Int} {x : Int32} (hd : decode bytes pc = .ok (.ifCond .lt o, 3)) (hc : ¬ x < 0) (hp : pc + 3 = pc') (K : Run p l e R s m args below meth c Z wd EL n0 ow0 Q h ow cells slots (mkF m pc' Ls rest)) : Run p l e R s m args below meth c Z wd EL n0 ow0 Q h ow cells slots (mkF m pc Ls (.int x :: rest)) := by
  subst hp
  exact Run.stp (fun T locs vm0 k0 X H t k => XS.ifNo X.here G.1 rfl (G.hb hd) rfl (XT.i0_lt_f hc) k) K
theorem if_lt (G : Gd p s m meth c y bytes maxL ret Z a0 EL) {o : Int} {x : Int32} {pt pf : Nat} (hd : decode bytes pc = .ok (.ifCond .lt o, 3)) (ho : 0 ≤ (pc : Int) + o) (hp : ((pc : Int) + o).toNat = pt) (hq : pc + 3 = pf) (K1 : (x < 0) → Run p l e R s m args below meth c Z wd EL n0 ow0 Q h ow cells slots (mkF m pt Ls rest)) (K2 : (¬ x < 0) → Run p l e R s m args below meth c Z wd EL n0 ow0 Q h ow cells slots (mkF m pf Ls rest)) : Run p l e R s m args below meth c Z wd EL n0 ow0 Q h ow cells slots (mkF m pc Ls (.int x :: rest)) := by
  by_cases q : x < 0
  · exact if_lt_t G hd q ho hp (K1 q)
  · exact if_lt_f G hd q hq (K2 q)
theorem if_ge_t (G : Gd p s m meth c y bytes maxL ret Z a0 EL) {o : Int} {x : Int32} (hd : decode bytes pc = .ok (.ifCond .ge o, 3)) (hc : ¬ x < 0) (ho : 0 ≤ (pc : Int) + o) (hp : ((pc : Int) + o).toNat = pc') (K : Run p l e R s m args below meth c Z wd EL n0 ow0 Q h ow cells slots (mkF m pc' Ls rest)) : Run p l e R s m args below meth c Z wd EL n0 ow0 Q h ow cells slots (mkF m pc Ls (.int x :: rest)) :=
  Run.stp (fun T locs vm0 k0 X H t k => XS.ifYes X.here G.1 rfl rfl (G.hb hd) rfl (XT.i0_ge_t hc) ho hp k) K
theorem if_ge_f (G : Gd p s m meth c y bytes maxL ret Z a0 EL) {o : Int} {x : Int32} (hd : decode bytes pc = .ok (.ifCond .ge o, 3)) (hc : x < 0) (hp : pc + 3 = pc') (K : Run p l e R s m args below meth c Z wd EL n0 ow0 Q h ow cells slots (mkF m pc' Ls rest)) : Run p l e R s m args below meth c Z wd EL n0 ow0 Q h ow cells slots (mkF m pc Ls (.int x :: rest)) := by
  subst hp
  exact Run.stp (fun T locs vm0 k0 X H t k => XS.ifNo X.here G.1 rfl (G.hb hd) rfl (XT.i0_ge_f hc) k) K
theorem if_ge (G : Gd p s m meth c y bytes maxL ret Z a0 EL) {o : Int} {x : Int32} {pt pf : Nat} (hd : decode bytes pc = .ok (.ifCond .ge o, 3)) (ho : 0 ≤ (pc : Int) + o) (hp : ((pc : Int) + o).toNat = pt) (hq : pc + 3 = pf) (K1 : (¬ x < 0) → Run p l e R s m args below meth c Z wd EL n0 ow0 Q h ow cells slots (mkF m pt Ls rest)) (K2 : (x < 0) → Run p l e R s m args below meth c Z wd EL n0 ow0 Q h ow cells slots (mkF m pf Ls rest)) : Run p l e R s m args below meth c Z wd EL n0 ow0 Q h ow cells slots (mkF m pc Ls (.int x :: rest)) := by
  by_cases q : x < 0
  · exact if_ge_f G hd q hq (K2 q)
  · exact if_ge_t G hd q ho hp (K1 q)
theorem if_gt_t (G : Gd p s m meth c y bytes maxL ret Z a0 EL) {o : Int} {x : Int32} (hd : decode bytes pc = .ok (.ifCond .gt o, 3)) (hc : 0 < x) (ho : 0 ≤ (pc : Int) + o) (hp : ((pc : Int) + o).toNat = pc') (K : Run p l e R s m args below meth c Z wd EL n0 ow0 Q h ow cells slots (mkF m pc' Ls rest)) : Run p l e R s m args below meth c Z wd EL n0 ow0 Q h ow cells slots (mkF m pc Ls (.int x :: rest)) :=
  Run.stp (fun T locs vm0 k0 X H t k => XS.ifYes X.here G.1 rfl rfl (G.hb hd) rfl (XT.i0_gt_t hc) ho hp k) K
theorem if_gt_f (G : Gd p s m meth c y bytes maxL ret Z a0 EL) {o : Int} {x : Int32} (hd : decode bytes pc = .ok (.ifCond .gt o, 3)) (hc : ¬ 0 < x) (hp : pc + 3 = pc') (K : Run p l e R s m args below meth c Z wd EL n0 ow0 Q h ow cells slots (mkF m pc' Ls rest)) : Run p l e R s m args below meth c Z wd EL n0 ow0 Q h ow cells slots (mkF m pc Ls (.int x :: rest)) := by
  subst hp
  exact Run.stp (fun T locs vm0 k0 X H t k => XS.ifNo X.here G.1 rfl (G.hb hd) rfl (XT.i0_gt_f hc) k) K
theorem if_gt (G : Gd p s m meth c y bytes maxL ret Z a0 EL) {o : Int} {x : Int32} {pt pf : Nat} (hd : decode bytes pc = .ok (.ifCond .gt o, 3)) (ho : 0 ≤ (pc : Int) + o) (hp : ((pc : Int) + o).toNat = pt) (hq : pc + 3 = pf) (K1 : (0 < x) → Run p l e R s m args below meth c Z wd EL n0 ow0 Q h ow cells slots (mkF m pt Ls rest)) (K2 : (¬ 0 < x) → Run p l e R s m args below meth c Z wd EL n0 ow0 Q h ow cells slots (mkF m pf Ls rest)) : Run p l e R s m args below meth c Z wd EL n0 ow0 Q h ow cells slots (mkF m pc Ls (.int x :: rest)) := by
  by_cases q : 0 < x
  · exact if_gt_t G hd q ho hp (K1 q)
  · exact if_gt_f G hd q hq (K2 q)
theorem if_le_t (G : Gd p s m meth c y bytes maxL ret Z a0 EL) {o : Int} {x : Int32} (hd : decode bytes pc = .ok (.ifCond .le o, 3)) (hc : ¬ 0 < x) (ho : 0 ≤ (pc : Int) + o) (hp : ((pc : Int) + o).toNat = pc') (K : Run p l e R s m args below meth c Z wd EL n0 ow0 Q h ow cells slots (mkF m pc' Ls rest)) : Run p l e R s m args below meth c Z wd EL n0 ow0 Q h ow cells slots (mkF m pc Ls (.int x :: rest)) :=
  Run.stp (fun T locs vm0 k0 X H t k => XS.ifYes X.here G.1 rfl rfl (G.hb hd) rfl (XT.i0_le_t hc) ho hp k) K
theorem if_le_f (G : Gd p s m meth c y bytes maxL ret Z a0 EL) {o : Int} {x : Int32} (hd : decode bytes pc = .ok (.ifCond .le o, 3)) (hc : 0 < x) (hp : pc + 3 = pc') (K : Run p l e R s m args below meth c Z wd EL n0 ow0 Q h ow cells slots (mkF m pc' Ls rest)) : Run p l e R s m args below meth c Z wd EL n0 ow0 Q h ow cells slots (mkF m pc Ls (.int x :: rest)) := by
  subst hp
  exact Run.stp (fun T locs vm0 k0 X H t k => XS.ifNo X.here G.1 rfl (G.hb hd) rfl (XT.i0_le_f hc) k) K
theorem if_le (G : Gd p s m meth c y bytes maxL ret Z a0 EL) {o : Int} {x : Int32} {pt pf : Nat} (hd : decode bytes pc = .ok (.ifCond .le o, 3)) (ho : 0 ≤ (pc : Int) + o) (hp : ((pc : Int) + o).toNat = pt) (hq : pc + 3 = pf) (K1 : (¬ 0 < x) → Run p l e R s m args below meth c Z wd EL n0 ow0 Q h ow cells slots (mkF m pt Ls rest)) (K2 : (0 < x) → Run p l e R s m args below meth c Z wd EL n0 ow0 Q h ow cells slots (mkF m pf Ls rest)) : Run p l e R s m args below meth c Z wd EL n0 ow0 Q h ow cells slots (mkF m pc Ls (.int x :: rest)) := by
  by_cases q : 0 < x
  · exact if_le_f G hd q hq (K2 q)
  · exact if_le_t G hd q ho hp (K1 q)
theorem ifnull_t (G : Gd p s m meth c y bytes maxL ret Z a0 EL) {o : Int} (hd : decode bytes pc = .ok (.ifnull o, 3)) (ho : 0 ≤ (pc : Int) + o) (hp : ((pc : Int) + o).toNat = pc') (K : Run p l e R s m args below meth c Z wd EL n0 ow0 Q h ow cells slots (mkF m pc' Ls rest)) : Run p l e R s m args below meth c Z wd EL n0 ow0 Q h ow cells slots (mkF m pc Ls (.null :: rest)) :=
  Run.stp (fun T locs vm0 k0 X H t k => XS.ifnullYes X.here G.1 rfl rfl (G.hb hd) rfl ho hp k) K
theorem ifnull_f (G : Gd p s m meth c y bytes maxL ret Z a0 EL) {o : Int} {b : Addr} (hd : decode bytes pc = .ok (.ifnull o, 3)) (hp : pc + 3 = pc') (K : Run p l e R s m args below meth c Z wd EL n0 ow0 Q h ow cells slots (mkF m pc' Ls rest)) : Run p l e R s m args below meth c Z wd EL n0 ow0 Q h ow cells slots (mkF m pc Ls (.ref b :: rest)) := by
  subst hp
  exact Run.stp (fun T locs vm0 k0 X H t k => XS.ifnullNo X.here G.1 rfl (G.hb hd) rfl k) K
theorem ifnonnull_t (G : Gd p s m meth c y bytes maxL ret Z a0 EL) {o : Int} {b : Addr} (hd : decode bytes pc = .ok (.ifnonnull o, 3)) (ho : 0 ≤ (pc : Int) + o) (hp : ((pc : Int) + o).toNat = pc') (K : Run p l e R s m args below meth c Z wd EL n0 ow0 Q h ow cells slots (mkF m pc' Ls rest)) : Run p l e R s m args below meth c Z wd EL n0 ow0 Q h ow cells slots (mkF m pc Ls (.ref b :: rest)) :=
  Run.stp (fun T locs vm0 k0 X H t k => XT.ifnonnullYes X.here G.1 rfl rfl (G.hb hd) rfl ho hp k) K
theorem ifnonnull_f (G : Gd p s m meth c y bytes maxL ret Z a0 EL) {o : Int} (hd : decode bytes pc = .ok (.ifnonnull o, 3)) (hp : pc + 3 = pc') (K : Run p l e R s m args below meth c Z wd EL n0 ow0 Q h ow cells slots (mkF m pc' Ls rest)) : Run p l e R s m args below meth c Z wd EL n0 ow0 Q h ow cells slots (mkF m pc Ls (.null :: rest)) := by
  subst hp
  exact Run.stp (fun T locs vm0 k0 X H t k => XT.ifnonnullNo X.here G.1 rfl (G.hb hd) rfl k) K
theorem acmp_eq_t (G : Gd p s m meth c y bytes maxL ret Z a0 EL) {o : Int} {v w : Value} (hd : decode bytes pc = .ok (.if_acmp .eq o, 3)) (hv : v.isRef = true) (hw : w.isRef = true) (hc : v = w) (ho : 0 ≤ (pc : Int) + o) (hp : ((pc : Int) + o).toNat = pc') (K : Run p l e R s m args below meth c Z wd EL n0 ow0 Q h ow cells slots (mkF m pc' Ls rest)) : Run p l e R s m args below meth c Z wd EL n0 ow0 Q h ow cells slots (mkF m pc Ls (w :: v :: rest)) :=
  Run.stp (fun T locs vm0 k0 X H t k => XT.acmpYes X.here G.1 rfl rfl (G.hb hd) rfl hv hw (XT.aa_eq_t hc) ho hp k) K
theorem acmp_eq_f (G : Gd p s m meth c y bytes maxL ret Z a0 EL) {o : Int} {v w : Value} (hd : decode bytes pc = .ok (.if_acmp .eq o, 3)) (hv : v.isRef = true) (hw : w.isRef = true) (hc : ¬ v = w) (hp : pc + 3 = pc') (K : Run p l e R s m args below meth c Z wd EL n0 ow0 Q h ow cells slots (mkF m pc' Ls rest)) : Run p l e R s m args below meth c Z wd EL n0 ow0 Q h ow cells slots (mkF m pc Ls (w :: v :: rest)) := by
  subst hp
  exact Run.stp (fun T locs vm0 k0 X H t k => XT.acmpNo X.here G.1 rfl (G.hb hd) rfl hv hw (XT.aa_eq_f hc) k) K
theorem acmp_ne_t (G : Gd p s m meth c y bytes maxL ret Z a0 EL) {o : Int} {v w : Value} (hd : decode bytes pc = .ok (.if_acmp .ne o, 3)) (hv : v.isRef = true) (hw : w.isRef = true) (hc : ¬ v = w) (ho : 0 ≤ (pc : Int) + o) (hp : ((pc : Int) + o).toNat = pc') (K : Run p l e R s m args below meth c Z wd EL n0 ow0 Q h ow cells slots (mkF m pc' Ls rest)) : Run p l e R s m args below meth c Z wd EL n0 ow0 Q h ow cells slots (mkF m pc Ls (w :: v :: rest)) :=
  Run.stp (fun T locs vm0 k0 X H t k => XT.acmpYes X.here G.1 rfl rfl (G.hb hd) rfl hv hw (XT.aa_ne_t hc) ho hp k) K
theorem acmp_ne_f (G : Gd p s m meth c y bytes maxL ret Z a0 EL) {o : Int} {v w : Value} (hd : decode bytes pc = .ok (.if_acmp .ne o, 3)) (hv : v.isRef = true) (hw : w.isRef = true) (hc : v = w) (hp : pc + 3 = pc') (K : Run p l e R s m args below meth c Z wd EL n0 ow0 Q h ow cells slots (mkF m pc' Ls rest)) : Run p l e R s m args below meth c Z wd EL n0 ow0 Q h ow cells slots (mkF m pc Ls (w :: v :: rest)) := by
  subst hp
  exact Run.stp (fun T locs vm0 k0 X H t k => XT.acmpNo X.here G.1 rfl (G.hb hd) rfl hv hw (XT.aa_ne_f hc) k) K
theorem ldcInt (G : Gd p s m meth c y bytes maxL ret Z a0 EL) {idx : Nat} {v : Int32} (hd : decode bytes pc = .ok (.ldc idx, 2)) (w : (Jvm.Cond.constant y.cls idx v).before a0 Z = true) (hp : pc + 2 = pc') (K : Run p l e R s m args below meth c Z wd EL n0 ow0 Q h ow cells slots (mkF m pc' Ls (.int v :: st))) : Run p l e R s m args below meth c Z wd EL n0 ow0 Q h ow cells slots (mkF m pc Ls st) := by
  subst hp
  exact Run.stp (fun T locs vm0 k0 X H t k => X.ldcI G.1 (G.own H.1) (mv (s := s.setVm vm0) H.2.2.1 w) rfl (G.hb hd) k) K
theorem getf (G : Gd p s m meth c y bytes maxL ret Z a0 EL) {idx : Nat} {R0 O n d : String} {a : Addr} {v : Value} (hd : decode bytes pc = .ok (.getfield idx, 3)) (w : (Jvm.Cond.fieldLink y.cls idx R0 n d).before a0 Z = true) (via : Via Z R0 O n d) (F : Fld Z h a O n d v) (hp : pc + 3 = pc') (K : Run p l e R s m args below meth c Z wd EL n0 ow0 Q h ow cells slots (mkF m pc' Ls (v :: rest))) : Run p l e R s m args below meth c Z wd EL n0 ow0 Q h ow cells slots (mkF m pc Ls (.ref a :: rest)) := by
  subst hp
  exact Run.mov (fun T locs vm0 k0 X H => getF X G.1 H.2.2.1 (host := "") (G.own H.1) (Or.inl w) via H.2.2.2.1 F rfl rfl (G.hb hd)) K
theorem gets (G : Gd p s m meth c y bytes maxL ret Z a0 EL) {idx : Nat} {R0 O n d : String} {v : Value} (hd : decode bytes pc = .ok (.getstatic idx, 3)) (w : (Jvm.Cond.fieldLink y.cls idx R0 n d).before a0 Z = true) (via : Via Z R0 O n d) (F : Sta Z Z.heap O n d v) (hp : pc + 3 = pc') (K : Run p l e R s m args below meth c Z wd EL n0 ow0 Q h ow cells slots (mkF m pc' Ls (v :: st))) : Run p l e R s m args below meth c Z wd EL n0 ow0 Q h ow cells slots (mkF m pc Ls st) := by
  subst hp
  exact Run.mov (fun T locs vm0 k0 X H => getS X G.1 H.2.2.1 (host := "") (G.own H.1) w via H.2.2.2.1 (F.ext H.2.2.2.2.2.2.2.1.2) rfl (G.hb hd)) K
theorem putf (G : Gd p s m meth c y bytes maxL ret Z a0 EL) {idx kk : Nat} {R0 O n d C : String} {a : Addr} {v old : Value} {ty : FieldType} (hd : decode bytes pc = .ok (.putfield idx, 3)) (w : (Jvm.Cond.fieldLink y.cls idx R0 n d).before a0 Z = true) (via : Via Z R0 O n d) (F : Fld Z h a O n d old) (E : Exa Z h a C) (L : (Jvm.Cond.lays C O n d).before a0 Z = true ∨ ((Jvm.Cond.laysFinal C O n d).before a0 Z = true ∧ y.cls = O ∧ y.name = "<init>")) (wi : (Jvm.Cond.instantiable C kk).before a0 Z = true) (hty : parseFieldDescriptor d = some ty) (hn : narrow ty v = v) (hf : fits ty v = true) (ha : a ∈ ow) (hp : pc + 3 = pc')
    (K : ∀ h', Wr h h' a (RoadKit.slotOf Z O n d) v → Run p l e R s m args below meth c Z wd EL n0 ow0 Q h' ow cells slots (mkF m pc' Ls rest)) : Run p l e R s m args below meth c Z wd EL n0 ow0 Q h ow cells slots (mkF m pc Ls (v :: .ref a :: rest)) := by
  subst hp
  intro T locs vm0 k0 X H
  obtain ⟨T', h', X', eT, W, st⟩ := putF X G.1 H.2.2.1 (host := "") (G.own H.1) (Or.inl w) via H.2.2.2.1 F E (L.imp id fun q => ⟨q.1, q.2.1, G.2.2.2.2.2.1.trans q.2.2⟩) wi hty hn hf (g := mkF m pc Ls (v :: .ref a :: rest)) rfl rfl (G.hb hd)
  obtain ⟨s₂, o, q, r⟩ := K h' W T' _ vm0 k0 X' (H.wr W ha eT)
  exact ⟨s₂, o, st _ q, r⟩
theorem castOk (G : Gd p s m meth c y bytes maxL ret Z a0 EL) {idx : Nat} {C : String} {a : Addr} (hd : decode bytes pc = .ok (.checkcast idx, 3)) (w : (Jvm.Cond.classLink y.cls idx C).before a0 Z = true) (F : Ins Z h a C true) (hp : pc + 3 = pc') (K : Run p l e R s m args below meth c Z wd EL n0 ow0 Q h ow cells slots (mkF m pc' Ls (.ref a :: rest))) : Run p l e R s m args below meth c Z wd EL n0 ow0 Q h ow cells slots (mkF m pc Ls (.ref a :: rest)) := by
  subst hp
  exact Run.mov (fun T locs vm0 k0 X H => castY X G.1 H.2.2.1 (G.own H.1) w H.2.2.2.1 F rfl rfl (G.hb hd)) K
theorem instYes (G : Gd p s m meth c y bytes maxL ret Z a0 EL) {idx : Nat} {C : String} {a : Addr} (hd : decode bytes pc = .ok (.instanceof idx, 3)) (w : (Jvm.Cond.classLink y.cls idx C).before a0 Z = true) (F : Ins Z h a C true) (hp : pc + 3 = pc') (K : Run p l e R s m args below meth c Z wd EL n0 ow0 Q h ow cells slots (mkF m pc' Ls (.int 1 :: rest))) : Run p l e R s m args below meth c Z wd EL n0 ow0 Q h ow cells slots (mkF m pc Ls (.ref a :: rest)) := by
  subst hp
  exact Run.mov (fun T locs vm0 k0 X H => instY X G.1 H.2.2.1 (G.own H.1) w H.2.2.2.1 F rfl rfl (G.hb hd)) K
theorem instNo (G : Gd p s m meth c y bytes maxL ret Z a0 EL) {idx : Nat} {C D : String} {a : Addr} (hd : decode bytes pc = .ok (.instanceof idx, 3)) (w : (Jvm.Cond.classLink y.cls idx C).before a0 Z = true) (F : Ins Z h a C false) (E : Exa Z h a D) (hp : pc + 3 = pc') (K : Run p l e R s m args below meth c Z wd EL n0 ow0 Q h ow cells slots (mkF m pc' Ls (.int 0 :: rest))) : Run p l e R s m args below meth c Z wd EL n0 ow0 Q h ow cells slots (mkF m pc Ls (.ref a :: rest)) := by
  subst hp
  exact Run.mov (fun T locs vm0 k0 X H => instNAt X G.1 H.2.2.1 (G.own H.1) w H.2.2.2.1 F E rfl rfl (G.hb hd)) K
theorem arrlen (G : Gd p s m meth c y bytes maxL ret Z a0 EL) {a : Addr} {cl : Cell} {ty : FieldType} (hd : decode bytes pc = .ok (.arraylength, 1)) (A : Arr Z h a cl ty) (hp : pc + 1 = pc') (K : Run p l e R s m args below meth c Z wd EL n0 ow0 Q h ow cells slots (mkF m pc' Ls (.int cl.slots.size.toInt32 :: rest))) : Run p l e R s m args below meth c Z wd EL n0 ow0 Q h ow cells slots (mkF m pc Ls (.ref a :: rest)) := by
  subst hp
  exact Run.stp (fun T locs vm0 k0 X H t k => X.arraylength G.1 (H.cell A) (H.arr A) (g := mkF m pc Ls (.ref a :: rest)) rfl rfl (G.hb hd) t k) K
theorem caload (G : Gd p s m meth c y bytes maxL ret Z a0 EL) {a : Addr} {cl : Cell} {j : Int32} {v : Value} (hd : decode bytes pc = .ok (.caload, 1)) (A : Arr Z h a cl .char) (hj : ¬ (j < 0 ∨ cl.slots.size ≤ j.toNatClampNeg)) (hv : cl.slots[j.toNatClampNeg]? = some v) (hp : pc + 1 = pc') (K : Run p l e R s m args below meth c Z wd EL n0 ow0 Q h ow cells slots (mkF m pc' Ls (v :: rest))) : Run p l e R s m args below meth c Z wd EL n0 ow0 Q h ow cells slots (mkF m pc Ls (.int j :: .ref a :: rest)) := by
  subst hp
  exact Run.stp (fun T locs vm0 k0 X H t k => X.caload G.1 (H.cell A) (H.arr A) A.2.2 hj hv (g := mkF m pc Ls (.int j :: .ref a :: rest)) rfl rfl (G.hb hd) t k) K
theorem baload (G : Gd p s m meth c y bytes maxL ret Z a0 EL) {a : Addr} {cl : Cell} {j : Int32} {v : Value} (hd : decode bytes pc = .ok (.baload, 1)) (A : Arr Z h a cl .byte) (hj : ¬ (j < 0 ∨ cl.slots.size ≤ j.toNatClampNeg)) (hv : cl.slots[j.toNatClampNeg]? = some v) (hp : pc + 1 = pc') (K : Run p l e R s m args below meth c Z wd EL n0 ow0 Q h ow cells slots (mkF m pc' Ls (v :: rest))) : Run p l e R s m args below meth c Z wd EL n0 ow0 Q h ow cells slots (mkF m pc Ls (.int j :: .ref a :: rest)) := by
  subst hp
  exact Run.stp (fun T locs vm0 k0 X H t k => X.baloadBytes G.1 (H.cell A) (H.arr A) A.2.2 hj hv (g := mkF m pc Ls (.int j :: .ref a :: rest)) rfl rfl (G.hb hd) t k) K
theorem iaload (G : Gd p s m meth c y bytes maxL ret Z a0 EL) {a : Addr} {cl : Cell} {j : Int32} {v : Value} (hd : decode bytes pc = .ok (.iaload, 1)) (A : Arr Z h a cl .int) (hj : ¬ (j < 0 ∨ cl.slots.size ≤ j.toNatClampNeg)) (hv : cl.slots[j.toNatClampNeg]? = some v) (hp : pc + 1 = pc') (K : Run p l e R s m args below meth c Z wd EL n0 ow0 Q h ow cells slots (mkF m pc' Ls (v :: rest))) : Run p l e R s m args below meth c Z wd EL n0 ow0 Q h ow cells slots (mkF m pc Ls (.int j :: .ref a :: rest)) := by
  subst hp
  exact Run.stp (fun T locs vm0 k0 X H t k => X.iaload G.1 (H.cell A) (H.arr A) A.2.2 hj hv (g := mkF m pc Ls (.int j :: .ref a :: rest)) rfl rfl (G.hb hd) t k) K
theorem aaload (G : Gd p s m meth c y bytes maxL ret Z a0 EL) {a : Addr} {cl : Cell} {j : Int32} {v : Value} {ty : FieldType} (hd : decode bytes pc = .ok (.aaload, 1)) (A : Arr Z h a cl ty) (hty : ty.isReference = true) (hj : ¬ (j < 0 ∨ cl.slots.size ≤ j.toNatClampNeg)) (hv : cl.slots[j.toNatClampNeg]? = some v) (hp : pc + 1 = pc') (K : Run p l e R s m args below meth c Z wd EL n0 ow0 Q h ow cells slots (mkF m pc' Ls (v :: rest))) : Run p l e R s m args below meth c Z wd EL n0 ow0 Q h ow cells slots (mkF m pc Ls (.int j :: .ref a :: rest)) := by
  subst hp
  exact Run.stp (fun T locs vm0 k0 X H t k => X.aaload G.1 (H.cell A) (H.arr A) hty A.2.2 hj hv (g := mkF m pc Ls (.int j :: .ref a :: rest)) rfl rfl (G.hb hd) t k) K
theorem castore (G : Gd p s m meth c y bytes maxL ret Z a0 EL) {a : Addr} {cl : Cell} {j x : Int32} (hd : decode bytes pc = .ok (.castore, 1)) (A : Arr Z h a cl .char) (hj : ¬ (j < 0 ∨ cl.slots.size ≤ j.toNatClampNeg)) (ha : a ∈ ow) (hp : pc + 1 = pc') (K : ∀ h', Wr h h' a j.toNatClampNeg (.int (nar .char x)) → Run p l e R s m args below meth c Z wd EL n0 ow0 Q h' ow cells slots (mkF m pc' Ls rest)) : Run p l e R s m args below meth c Z wd EL n0 ow0 Q h ow cells slots (mkF m pc Ls (.int x :: .int j :: .ref a :: rest)) := by
  subst hp
  intro T locs vm0 k0 X H
  obtain ⟨T', h', X', eT, W, st⟩ := stC X G.1 H.2.2.1 H.2.2.2.1 A hj (g := mkF m pc Ls (.int x :: .int j :: .ref a :: rest)) rfl rfl (G.hb hd)
  obtain ⟨s₂, o, q, r⟩ := K h' W T' _ vm0 k0 X' (H.wr W ha eT)
  exact ⟨s₂, o, st _ q, r⟩
theorem bastore (G : Gd p s m meth c y bytes maxL ret Z a0 EL) {a : Addr} {cl : Cell} {j x : Int32} (hd : decode bytes pc = .ok (.bastore, 1)) (A : Arr Z h a cl .byte) (hj : ¬ (j < 0 ∨ cl.slots.size ≤ j.toNatClampNeg)) (ha : a ∈ ow) (hp : pc + 1 = pc') (K : ∀ h', Wr h h' a j.toNatClampNeg (.int (nar .byte x)) → Run p l e R s m args below meth c Z wd EL n0 ow0 Q h' ow cells slots (mkF m pc' Ls rest)) : Run p l e R s m args below meth c Z wd EL n0 ow0 Q h ow cells slots (mkF m pc Ls (.int x :: .int j :: .ref a :: rest)) := by
  subst hp
  intro T locs vm0 k0 X H
  obtain ⟨T', h', X', eT, W, st⟩ := stB X G.1 H.2.2.1 H.2.2.2.1 A hj (g := mkF m pc Ls (.int x :: .int j :: .ref a :: rest)) rfl rfl (G.hb hd)
  obtain ⟨s₂, o, q, r⟩ := K h' W T' _ vm0 k0 X' (H.wr W ha eT)
  exact ⟨s₂, o, st _ q, r⟩
theorem newarr (G : Gd p s m meth c y bytes maxL ret Z a0 EL) {aty : ArrayType} {n : Int32} {cap : Nat} (hd : decode bytes pc = .ok (.newarray aty, 2)) (w : (Jvm.Cond.arrayClass (newarray.typeOf aty)).before a0 Z = true) (hn : ¬ n < 0) (hcap : n.toNatClampNeg ≤ cap) (hb : cap * 8 ≤ 536870912) (hc : cells + 1 ≤ R.cells) (hl : slots + cap ≤ R.slots) (hc' : cells + 1 = cells') (hs' : slots + cap = slots') (hp : pc + 2 = pc')
    (K : ∀ (h' : Heap) (cA : ClassId) (a : Addr), a = h.size → Ext h h' → Arr Z h' a (newA cA (newarray.typeOf aty) n) (newarray.typeOf aty) → Run p l e R s m args below meth c Z wd EL n0 ow0 Q h' (a :: ow) cells' slots' (mkF m pc' Ls (.ref a :: rest))) : Run p l e R s m args below meth c Z wd EL n0 ow0 Q h ow cells slots (mkF m pc Ls (.int n :: rest)) := by
  subst hp hc' hs'
  intro T locs vm0 k0 X H
  obtain ⟨T', h', cA, X', eT, E, A, st⟩ := newP X G.1 H.2.2.1 w H.2.2.2.1 (g := mkF m pc Ls (.int n :: rest)) rfl (G.hb hd) rfl hn hcap hb hc hl
  obtain ⟨s₂, o, q, r⟩ := K h' cA h.size rfl E A T' _ vm0 k0 X' (H.ext E A.lt eT)
  exact ⟨s₂, o, st _ q, r⟩
theorem newobj (G : Gd p s m meth c y bytes maxL ret Z a0 EL) {idx n : Nat} {C : String} (hd : decode bytes pc = .ok (.new idx, 3)) (w : (Jvm.Cond.classLink y.cls idx C).before a0 Z = true) (wi : (Jvm.Cond.instantiable C n).before a0 Z = true) (wz : (Jvm.Cond.initialized C).before a0 Z = true) (hc : cells + 1 ≤ R.cells) (hl : slots + n ≤ R.slots) (hc' : cells + 1 = cells') (hs' : slots + n = slots') (hp : pc + 3 = pc')
    (K : ∀ (h' : Heap) (a : Addr), a = h.size → Ext h h' → Exa Z h' a C → (∀ {O nm d : String} {ty : FieldType}, Laid Z a0 C O nm d → parseFieldDescriptor d = some ty → Fld Z h' a O nm d (defaultValue ty)) → Run p l e R s m args below meth c Z wd EL n0 ow0 Q h' (a :: ow) cells' slots' (mkF m pc' Ls (.ref a :: st))) : Run p l e R s m args below meth c Z wd EL n0 ow0 Q h ow cells slots (mkF m pc Ls st) := by
  subst hp hc' hs'
  intro T locs vm0 k0 X H
  obtain ⟨T', h', X', eT, E, A, D, -, st⟩ := newO X G.1 H.2.2.1 (G.own H.1) w wi wz H.2.2.2.1 (g := mkF m pc Ls st) rfl (G.hb hd) hc hl
  obtain ⟨s₂, o, q, r⟩ := K h' h.size rfl E A D T' _ vm0 k0 X' (H.ext E A.lt eT)
  exact ⟨s₂, o, st _ q, r⟩
theorem initObj (G : Gd p s m meth c y bytes maxL ret Z a0 EL) {idx : Nat} {a : Addr} {W : Nat} (hd : decode bytes pc = .ok (.invokespecial idx, 3)) (w1 : (Jvm.Cond.methodLink y.cls idx Lib.objectInit).before a0 Z = true) (w2 : (Jvm.Cond.instanceMethod Lib.objectInit).before a0 Z = true) (w3 : (Jvm.Cond.code Lib.objectInit ⟨#[0xb1]⟩ 1 none).before a0 Z = true) (hsz : Ls.size = maxL) (hf : 1 ≤ R.frames) (hW : (rest.map fun v => v.category).sum ≤ W) (hl : W + 12 ≤ R.locals) (hp : pc + 3 = pc') (K : Run p l e R s m args below meth c Z wd EL n0 ow0 Q h ow cells slots (mkF m pc' Ls rest)) : Run p l e R s m args below meth c Z wd EL n0 ow0 Q h ow cells slots (mkF m pc Ls (.ref a :: rest)) := by
  subst hp
  exact Run.mov (fun T locs vm0 k0 X H => initO X G.1 H.2.2.1 (G.own H.1) w1 w2 w3 H.2.2.2.1 rfl (hsz.trans G.2.2.1.symm) rfl (G.hb hd) hf (by show 2 * 0 + _ ≤ W; omega) hl) K
theorem instNull (G : Gd p s m meth c y bytes maxL ret Z a0 EL) {idx : Nat} (hd : decode bytes pc = .ok (.instanceof idx, 3)) (hp : pc + 3 = pc') (K : Run p l e R s m args below meth c Z wd EL n0 ow0 Q h ow cells slots (mkF m pc' Ls (.int 0 :: rest))) : Run p l e R s m args below meth c Z wd EL n0 ow0 Q h ow cells slots (mkF m pc Ls (.null :: rest)) := by
  subst hp
  exact Run.stp (fun T locs vm0 k0 X H t k => X.instanceofNull G.1 (g := mkF m pc Ls (.null :: rest)) rfl rfl (G.hb hd) t k) K
theorem cloneArr (G : Gd p s m meth c y bytes maxL ret Z a0 EL) {idx cap W : Nat} {ad : String} {a : Addr} {cl : Cell} {ty : FieldType} (hd : decode bytes pc = .ok (.invokevirtual idx, 3)) (w1 : (Jvm.Cond.methodLink y.cls idx ⟨ad, "clone", "()Ljava/lang/Object;"⟩).before a0 Z = true) (w2 : (Jvm.Cond.sameMethod ad "java/lang/Object" "clone" "()Ljava/lang/Object;").before a0 Z = true) (w3 : (Jvm.Cond.native ⟨"java/lang/Object", "clone", "()Ljava/lang/Object;"⟩).before a0 Z = true) (w4 : (Jvm.Cond.instanceMethod ⟨"java/lang/Object", "clone", "()Ljava/lang/Object;"⟩).before a0 Z = true) (w5 : (Jvm.Cond.selects ad ⟨ad, "clone", "()Ljava/lang/Object;"⟩ ⟨"java/lang/Object", "clone", "()Ljava/lang/Object;"⟩).before a0 Z = true) (w6 : (Jvm.Cond.castable ad "java/lang/Cloneable").before a0 Z = true)
    (A : Arr Z h a cl ty) (E : Exa Z h a ad) (F : FitC Z cl) (hsz : Ls.size = maxL) (hf : 1 ≤ R.frames) (hW : (rest.map fun v => v.category).sum ≤ W) (hl : W + 14 ≤ R.locals) (hcap : cl.slots.size ≤ cap) (hc : cells + 1 ≤ R.cells) (hsl : slots + cap ≤ R.slots) (hc' : cells + 1 = cells') (hs' : slots + cap = slots') (hp : pc + 3 = pc')
    (K : ∀ (h' : Heap) (a' : Addr), a' = h.size → Ext h h' → Arr Z h' a' (cloneOf cl) ty → Exa Z h' a' ad → Run p l e R s m args below meth c Z wd EL n0 ow0 Q h' (a' :: ow) cells' slots' (mkF m pc' Ls (.ref a' :: rest))) : Run p l e R s m args below meth c Z wd EL n0 ow0 Q h ow cells slots (mkF m pc Ls (.ref a :: rest)) := by
  subst hp hc' hs'
  intro T locs vm0 k0 X H
  obtain ⟨T', h', X', eT, Ex, A', E', st⟩ := cloneA X G.1 H.2.2.1 (G.own H.1) w1 w2 w3 w4 w5 w6 H.2.2.2.1 A E F (g := mkF m pc Ls (.ref a :: rest)) rfl (hsz.trans G.2.2.1.symm) rfl (G.hb hd) hf (W := W) (by show 2 * 0 + _ ≤ W; omega) hl hcap hc hsl
  obtain ⟨s₂, o, q, r⟩ := K h' h.size rfl Ex A' E' T' _ vm0 k0 X' (H.ext Ex A'.lt eT)
  exact ⟨s₂, o, st _ q, r⟩
theorem ldcStr (G : Gd p s m meth c y bytes maxL ret Z a0 EL) {idx n : Nat} {text : String} {vs : List Value} {z : Int32} (hd : decode bytes pc = .ok (.ldc idx, 2)) (hwd : wd = true) (w : (Jvm.Cond.stringLink y.cls idx text).before a0 Z = true) (wS : ∀ a ∈ Bundle.stringAtoms, a.before a0 Z = true) (hmem : (y.cls, idx) ∈ EL)
    (ht : (∀ c ∈ text.toList, c.toNat < 256) ∧ text.toList.map (fun c => Value.int (Jvm.Lit.byteI c.toNat.toUInt16)) = vs) (hz : ¬ z < 0) (hl : z.toNatClampNeg = vs.length) (hn : 4 * text.toList.length ≤ n) (hbig : n ≤ 536870912) (hc : cells + 2 ≤ R.cells) (hl' : slots + (n + 4) ≤ R.slots) (hc' : cells + 2 = cells') (hs' : slots + (n + 4) = slots') (hp : pc + 2 = pc')
    (K : ∀ (a b : Addr) (k : ClassId) (h' : Heap), Ext h h' → Exa Z h' a "java/lang/String" → Fld Z h' a "java/lang/String" "coder" "B" (.int 0) → Fld Z h' a "java/lang/String" "value" "[B" (.ref b) → Arv Z h' b k .byte z vs (.int 0) → (∀ x ∈ ow, x ≠ a ∧ x ≠ b) → Run p l e R s m args below meth c Z wd EL n0 ow0 Q h' ow cells' slots' (mkF m pc' Ls (.ref a :: st))) : Run p l e R s m args below meth c Z wd EL n0 ow0 Q h ow cells slots (mkF m pc Ls st) := by
  subst hp hc' hs'
  intro T locs vm0 k0 X H
  obtain ⟨i1, i2, i3, i4, i5, i6, i7, i8, i9, i10⟩ := H
  obtain ⟨a, T', h', k1, b, k, X', eT, E, hS, hk, hW, -, q1, q2, q3, q4, -, -, hC, -, hne, st⟩ := ldcCH X G.1 i3 (G.own i1) w wS i4 i1 i2 G.2.2.2.2.2.2.2 hmem i6.1 ht hz hl (g := mkF m pc Ls st) rfl (G.hb hd) hn hbig hc hl'
  have hsafe : ∀ x ∈ ow, Safe Z EL T'.vm h' x := fun x hx => hC.safe (i9 x hx).2.1 (i9 x hx).1
  obtain ⟨s₂, o, q, r⟩ := K a b k h' E q1 q2 q3 q4 (fun x hx => hne x (hsafe x hx)) T' locs T'.vm k1 X' ⟨hS, hk, hW, eT, i5, i6.trans hC, i7.ext E, i8.ext E, fun x hx => ⟨hsafe x hx, Nat.lt_of_lt_of_le (i9 x hx).2.1 E.1, (i9 x hx).2.2⟩, Or.inl hwd⟩
  exact ⟨s₂, o, st _ q, r⟩
theorem ldcOpaque (G : Gd p s m meth c y bytes maxL ret Z a0 EL) {idx n : Nat} {text : String} (hd : decode bytes pc = .ok (.ldc idx, 2)) (hwd : wd = true) (w : (Jvm.Cond.stringLink y.cls idx text).before a0 Z = true) (wS : ∀ a ∈ Bundle.stringAtoms, a.before a0 Z = true)
    (hn : 4 * text.toList.length ≤ n) (hbig : n ≤ 536870912) (hc : cells + 2 ≤ R.cells) (hl' : slots + (n + 4) ≤ R.slots) (hc' : cells + 2 = cells') (hs' : slots + (n + 4) = slots') (hp : pc + 2 = pc')
    (K : ∀ (a : Addr) (h' : Heap), Ext h h' → Run p l e R s m args below meth c Z wd EL n0 ow0 Q h' ow cells' slots' (mkF m pc' Ls (.ref a :: st))) : Run p l e R s m args below meth c Z wd EL n0 ow0 Q h ow cells slots (mkF m pc Ls st) := by
  subst hp hc' hs'
  intro T locs vm0 k0 X H
  obtain ⟨i1, i2, i3, i4, i5, i6, i7, i8, i9, i10⟩ := H
  obtain ⟨a, T', h', k1, X', eT, E, hS, hk, hW, -, hC, -, st⟩ := ldcOH X G.1 i3 (G.own i1) w wS i4 i1 i2 G.2.2.2.2.2.2.2 i6.1 (g := mkF m pc Ls st) rfl (G.hb hd) hn hbig hc hl'
  have hsafe : ∀ x ∈ ow, Safe Z EL T'.vm h' x := fun x hx => hC.safe (i9 x hx).2.1 (i9 x hx).1
  obtain ⟨s₂, o, q, r⟩ := K a h' E T' locs T'.vm k1 X' ⟨hS, hk, hW, eT, i5, i6.trans hC, i7.ext E, i8.ext E, fun x hx => ⟨hsafe x hx, Nat.lt_of_lt_of_le (i9 x hx).2.1 E.1, (i9 x hx).2.2⟩, Or.inl hwd⟩
  exact ⟨s₂, o, st _ q, r⟩
theorem fin (G : Gd p s m meth c y bytes maxL ret Z a0 EL) {v : Option Value} {g : JFrame} (hv : ret = none → v = none) (hc : cells ≤ R.cells) (hs : slots ≤ R.slots) (q : Q v h)
    (stp : ∀ (T : State) (locs : List Loc) (vm0 : Vm) (k0 : Nat) (fs : List Frame), Stand p l e R (s.setVm vm0) m args below meth c T locs cells slots → (∀ (f : JFrame) (acts : List Action), f.method = m → f.locked = none → f.entered = [] → (doReturn e (T.setTop f) acts v).1 = T.setFrames fs) → Steps p.tables e below (T.setTop g) (T.setFrames fs)) : Run p l e R s m args below meth c Z wd EL n0 ow0 Q h ow cells slots g := by
  intro T locs vm0 k0 X H
  obtain ⟨i1, i2, i3, i4, i5, i6, i7, i8, i9, i10⟩ := H
  obtain ⟨fs, hr, hrun, hended, hW⟩ := X.leaveW i1 (by rw [i4]; exact i2) (v := v) (fun h => hv (G.2.2.2.2.1.symm.trans h)) G.2.2.2.2.2.2.1
  have hT : (T.setFrames fs).heap = h := i4
  have hA := CHv.at X i3 G.2.2.2.2.2.2.2 i6.1
  refine ⟨_, _, stp T locs vm0 k0 fs X hr, hrun, hended, v, locs, rfl, by rw [hT]; exact q, i5, by rw [hT]; exact i6.trans hA, by rw [hT]; exact i7, ⟨hW.1, hW.2.1, hW.2.2.1, hW.2.2.2.mono hc hs⟩, i10.imp id fun w => State.WarmedH.trans (t := s.setVm vm0) w X.warmed⟩
theorem retInt (G : Gd p s m meth c y bytes maxL ret Z a0 EL) {z : Int32} (hd : decode bytes pc = .ok (.ireturn, 1)) (hret : ret = some .int) (hc : cells ≤ R.cells) (hs : slots ≤ R.slots) (q : Q (some (.int z)) h) : Run p l e R s m args below meth c Z wd EL n0 ow0 Q h ow cells slots (mkF m pc Ls (.int z :: rest)) :=
  fin G (fun h => by rw [hret] at h; cases h) hc hs q fun T locs vm0 k0 fs X hr => retOut X G.1 (G.2.2.2.2.1.trans hret) rfl (Or.inl ⟨rfl, Or.inl rfl, z, rfl⟩) (G.hb hd) hr
theorem retNar (G : Gd p s m meth c y bytes maxL ret Z a0 EL) {z : Int32} {t : FieldType} (hd : decode bytes pc = .ok (.ireturn, 1)) (hret : ret = some t) (ht : t = .boolean ∨ t = .byte ∨ t = .char ∨ t = .short) (hc : cells ≤ R.cells) (hs : slots ≤ R.slots) (q : Q (some (.int (nar t z))) h) : Run p l e R s m args below meth c Z wd EL n0 ow0 Q h ow cells slots (mkF m pc Ls (.int z :: rest)) :=
  fin G (fun h => by rw [hret] at h; cases h) hc hs q fun T locs vm0 k0 fs X hr => retN X G.1 (G.2.2.2.2.1.trans hret) ht (G.hb hd) hr
theorem retRef (G : Gd p s m meth c y bytes maxL ret Z a0 EL) {v : Value} {t : FieldType} (hd : decode bytes pc = .ok (.areturn, 1)) (hret : ret = some t) (ht : t.isReference = true) (hv : v.isRef = true) (hc : cells ≤ R.cells) (hs : slots ≤ R.slots) (q : Q (some v) h) : Run p l e R s m args below meth c Z wd EL n0 ow0 Q h ow cells slots (mkF m pc Ls (v :: rest)) :=
  fin G (fun h => by rw [hret] at h; cases h) hc hs q fun T locs vm0 k0 fs X hr => retOut X G.1 (G.2.2.2.2.1.trans hret) (by cases t <;> cases v <;> first | rfl | (simp [Value.isRef, FieldType.isReference] at hv ht)) (Or.inr (Or.inr (Or.inr (Or.inr ⟨rfl, ht, hv⟩)))) (G.hb hd) hr
theorem retVoid (G : Gd p s m meth c y bytes maxL ret Z a0 EL) (hd : decode bytes pc = .ok (.return_, 1)) (hret : ret = none) (hc : cells ≤ R.cells) (hs : slots ≤ R.slots) (q : Q none h) : Run p l e R s m args below meth c Z wd EL n0 ow0 Q h ow cells slots (mkF m pc Ls []) :=
  fin G (fun _ => rfl) hc hs q fun T locs vm0 k0 fs X hr => X.returnOut G.1 (G.2.2.2.2.1.trans hret) (G.hb hd) hr
/-- a callee's contract pays the call -/
theorem backG {y' : MethodName} {bytes' : ByteArray} {maxL' : Nat} {ret' : Option FieldType} {rm : Room} {len W : Nat} {as' : Array Value} {owc : List Addr} {Q' : Option Value → Heap → Prop} {vm0 : Vm}
    (C : Con l Z wd EL n0 y' bytes' maxL' ret' rm [] as' h owc Q') (hZ : Z.Warmed39 vm0) (wc : (Jvm.Cond.code y' bytes' maxL' ret').before a0 Z = true) (wz : (Jvm.Cond.initialized y'.cls).before a0 Z = true) (hf : rm.frames + 1 ≤ R.frames) (hl : W + (maxL' + 11) + rm.locals ≤ R.locals) (hEL : EW Z a0 EL) (H : CHv Z EL vm0 h) (hO : Old Z n0 h) (hS : ∀ x ∈ owc, Safe Z EL vm0 h x ∧ x < h.size ∧ n0 ≤ x) :
    BackS l R p e below (s.setVm vm0) args y' len W (fun A a => a = as' ∧ A.U.heap = h ∧ A.cells + rm.cells ≤ R.cells ∧ A.slots + rm.slots ≤ R.slots)
      (fun A _ v B => ∃ L, Q' v B.U.heap ∧ Fr n0 L ∧ Keep h B.U.heap owc ∧ B.locs = A.locs ++ L ∧ B.cells = A.cells + rm.cells ∧ B.slots = A.slots + rm.slots ∧ CHr Z EL vm0 h B.U.vm B.U.heap ∧ (wd = true ∨ (s.setVm vm0).WarmedH B.U.vm)) :=
  BackS.of_freeW (bytes := bytes') (maxL := maxL') (ret := ret') (E := fun _ first o t L k n => k = rm.cells ∧ n = rm.slots ∧ (∃ v, o = .returned v ∧ Q' v t.heap) ∧ Fr n0 L ∧ Keep first.heap t.heap owc ∧ CHr Z EL first.vm first.heap t.vm t.heap ∧ (wd = true ∨ first.WarmedH t.vm)) C hf hl
    (fun m meth c A a Y hp => have hU : Z.Warmed39 A.U.vm := wtrans (s := s.setVm vm0) hZ Y.warmed
      ⟨by show (Cond.and _ .tt).before a A.U = true; rw [Cond.before_and, mv hU wc]; rfl, mv hU wc, mv hU wz, hp.2.2.1, hp.2.2.2⟩)
    (fun m meth c A a g mk Y hp => ⟨hp.1, wtrans (s := s.setVm vm0) hZ Y.warmed, hp.2.1, hO, (CHv.at Y hZ hEL H).1, fun x hx => ⟨(CHv.at Y hZ hEL H).safe (hS x hx).2.1 (hS x hx).1, (hS x hx).2⟩⟩) (fun _ _ _ _ _ _ _ _ _ => trivial)
    (fun _ _ _ _ ⟨v, L, h1, h2, h3, h4, h5, h6, h7⟩ => ⟨L, _, _, h6, rfl, rfl, ⟨v, h1, h2⟩, h3, h5, h4, h7⟩)
    (fun m meth c A a g mk v t L k n Y hp _ _ ⟨e1, e2, ⟨v', e3, e4⟩, e5, e6, e7, e8⟩ => by
      cases e3; subst e1 e2
      have hh : (A.U.calling g mk a).heap = h := hp.2.1
      rw [hh] at e6 e7
      exact ⟨L, e4, e5, e6, rfl, rfl, rfl, (CHv.at Y hZ hEL H).trans e7, e8.imp id fun w => State.WarmedH.trans (t := A.U) Y.warmed w⟩)
theorem Hid.call {T T' : State} {locs L : List Loc} {vm0 : Vm} {k0 : Nat} {owc : List Addr} (H : Hid s Z wd EL n0 ow0 ow T locs vm0 k0 h) (how : ∀ x ∈ owc, x ∈ ow) (hS : (s.setVm vm0).Since T'.vm T'.heap.size) (N : Fr n0 L) (K : Keep h T'.heap owc) (hC : CHr Z EL vm0 h T'.vm T'.heap) (hw : wd = true ∨ (s.setVm vm0).WarmedH T'.vm) :
    Hid s Z wd EL n0 ow0 ow T' (locs ++ L) T'.vm T'.heap.size T'.heap := by
  obtain ⟨i1, i2, i3, i4, i5, i6, i7, i8, i9, i10⟩ := H
  refine ⟨i1.trans hS (Nat.le_trans i2 K.1), Nat.le_refl _, State.Warmed39.trans (t := s.setVm vm0) i3 hS.1, rfl, i5.app N, i6.trans hC, i7.trans K (fun x hx => (i9 x (how x hx)).2.2.2), i8.keep K (fun x hx => (i9 x (how x hx)).2.2.1), fun x hx => ⟨hC.safe (i9 x hx).2.1 (i9 x hx).1, Nat.lt_of_lt_of_le (i9 x hx).2.1 K.1, (i9 x hx).2.2⟩, ?_⟩
  rcases hw with hw | hw
  · exact Or.inl hw
  · exact i10.imp id fun w => State.WarmedH.trans (t := s.setVm vm0) w hw
theorem callStatic (G : Gd p s m meth c y bytes maxL ret Z a0 EL) {idx : Nat} {y' : MethodName} {bytes' : ByteArray} {maxL' : Nat} {ret' : Option FieldType} {rm : Room} {W : Nat} {argsL : List Value} {owc : List Addr} {Q' : Option Value → Heap → Prop} (hd : decode bytes pc = .ok (.invokestatic idx, 3))
    (w1 : (Jvm.Cond.methodLink y.cls idx y').before a0 Z = true) (w2 : (Jvm.Cond.static y').before a0 Z = true) (w3 : (Jvm.Cond.initialized y'.cls).before a0 Z = true) (w4 : (Jvm.Cond.code y' bytes' maxL' ret').before a0 Z = true) (hy : y'.cls ≠ "java/lang/invoke/MethodHandle" ∧ y'.cls ≠ "java/lang/invoke/VarHandle")
    (C : Con l Z wd EL n0 y' bytes' maxL' ret' rm [] argsL.toArray h owc Q') (hst : st = argsL.reverse ++ rest) (hlen : ∀ sig, parseMethodDescriptor y'.desc = some sig → argsL.length = sig.parameters.length) (hsz : Ls.size = maxL) (hfr : rm.frames + 1 ≤ R.frames) (hW : (rest.map fun v => v.category).sum ≤ W) (hlo : W + (maxL' + 11) + rm.locals ≤ R.locals) (hc : cells + rm.cells ≤ R.cells) (hs : slots + rm.slots ≤ R.slots) (how : ∀ x ∈ owc, x ∈ ow) (hc' : cells + rm.cells = cells') (hs' : slots + rm.slots = slots') (hp : pc + 3 = pc')
    (K : ∀ (v : Option Value) (h' : Heap), Q' v h' → Keep h h' owc → Run p l e R s m args below meth c Z wd EL n0 ow0 Q h' ow cells' slots' (mkF m pc' Ls (v.toList ++ rest))) : Run p l e R s m args below meth c Z wd EL n0 ow0 Q h ow cells slots (mkF m pc Ls st) := by
  subst hp hst hc' hs'
  intro T locs vm0 k0 X H
  have hZ := H.2.2.1
  obtain ⟨v, vm₁, B, -, X', hS, -, ⟨L, q1, q2, q3, q4, q5, q6, q7, q8⟩, stp⟩ := callSS X G.1 (bytes := bytes') (maxL := maxL') (ret := ret') (G.own H.1) (mv (s := s.setVm vm0) hZ w1) (mv (s := s.setVm vm0) hZ w2) (mv (s := s.setVm vm0) hZ w3) (mv (s := s.setVm vm0) hZ w4) hy
    (backG C hZ w4 w3 hfr hlo G.2.2.2.2.2.2.2 H.2.2.2.2.2.1.1 H.2.2.2.2.2.2.2.1 (fun x hx => ⟨(H.2.2.2.2.2.2.2.2.1 x (how x hx)).1, (H.2.2.2.2.2.2.2.2.1 x (how x hx)).2.1, (H.2.2.2.2.2.2.2.2.1 x (how x hx)).2.2.1⟩)) (g := mkF m pc Ls (argsL.reverse ++ rest)) rfl (hsz.trans G.2.2.1.symm) hlen rfl (by show 2 * 0 + _ ≤ W; omega) (G.hb hd) (fun _ _ => ⟨rfl, H.2.2.2.1, hc, hs⟩)
  obtain ⟨T', Lc, kc, nc⟩ := B
  dsimp only [Pt.U, Pt.locs, Pt.cells, Pt.slots] at X' q1 q3 q4 q5 q6 q7 q8 hS stp
  subst q4 q5 q6
  obtain ⟨s₂, o, q, r⟩ := K v T'.heap q1 q3 T' (locs ++ L) T'.vm T'.heap.size X' (H.call how hS q2 q3 q7 q8)
  exact ⟨s₂, o, stp.trans q, r⟩
theorem callSpecial (G : Gd p s m meth c y bytes maxL ret Z a0 EL) {idx : Nat} {y' : MethodName} {bytes' : ByteArray} {maxL' : Nat} {rm : Room} {W : Nat} {a : Addr} {argsL : List Value} {owc : List Addr} {Q' : Option Value → Heap → Prop} (hd : decode bytes pc = .ok (.invokespecial idx, 3)) (hn : y'.name = "<init>")
    (w1 : (Jvm.Cond.methodLink y.cls idx y').before a0 Z = true) (w2 : (Jvm.Cond.instanceMethod y').before a0 Z = true) (w3 : (Jvm.Cond.initialized y'.cls).before a0 Z = true) (w4 : (Jvm.Cond.code y' bytes' maxL' none).before a0 Z = true) (hy : y'.cls ≠ "java/lang/invoke/MethodHandle" ∧ y'.cls ≠ "java/lang/invoke/VarHandle")
    (C : Con l Z wd EL n0 y' bytes' maxL' none rm [] (.ref a :: argsL).toArray h owc Q') (hst : st = argsL.reverse ++ .ref a :: rest) (hlen : ∀ sig, parseMethodDescriptor y'.desc = some sig → argsL.length = sig.parameters.length) (hsz : Ls.size = maxL) (hfr : rm.frames + 1 ≤ R.frames) (hW : (rest.map fun v => v.category).sum ≤ W) (hlo : W + (maxL' + 11) + rm.locals ≤ R.locals) (hc : cells + rm.cells ≤ R.cells) (hs : slots + rm.slots ≤ R.slots) (how : ∀ x ∈ owc, x ∈ ow) (hc' : cells + rm.cells = cells') (hs' : slots + rm.slots = slots') (hp : pc + 3 = pc')
    (K : ∀ (v : Option Value) (h' : Heap), Q' v h' → Keep h h' owc → Run p l e R s m args below meth c Z wd EL n0 ow0 Q h' ow cells' slots' (mkF m pc' Ls (v.toList ++ rest))) : Run p l e R s m args below meth c Z wd EL n0 ow0 Q h ow cells slots (mkF m pc Ls st) := by
  subst hp hst hc' hs'
  intro T locs vm0 k0 X H
  have hZ := H.2.2.1
  obtain ⟨v, vm₁, B, -, X', hS, -, ⟨L, q1, q2, q3, q4, q5, q6, q7, q8⟩, stp⟩ := X.specialBackS G.1 (bytes := bytes') (maxL := maxL') hn (G.own H.1) (mv (s := s.setVm vm0) hZ w1) (mv (s := s.setVm vm0) hZ w2) (mv (s := s.setVm vm0) hZ w4) hy
    (backG C hZ w4 w3 hfr hlo G.2.2.2.2.2.2.2 H.2.2.2.2.2.1.1 H.2.2.2.2.2.2.2.1 (fun x hx => ⟨(H.2.2.2.2.2.2.2.2.1 x (how x hx)).1, (H.2.2.2.2.2.2.2.2.1 x (how x hx)).2.1, (H.2.2.2.2.2.2.2.2.1 x (how x hx)).2.2.1⟩)) (g := mkF m pc Ls (argsL.reverse ++ .ref a :: rest)) rfl (hsz.trans G.2.2.1.symm) (Steps.refl _) hlen rfl (by show 2 * 0 + _ ≤ W; omega) (G.hb hd) (fun _ _ => ⟨rfl, H.2.2.2.1, hc, hs⟩)
  obtain ⟨T', Lc, kc, nc⟩ := B
  dsimp only [Pt.U, Pt.locs, Pt.cells, Pt.slots] at X' q1 q3 q4 q5 q6 q7 q8 hS stp
  subst q4 q5 q6
  obtain ⟨s₂, o, q, r⟩ := K v T'.heap q1 q3 T' (locs ++ L) T'.vm T'.heap.size X' (H.call how hS q2 q3 q7 q8)
  exact ⟨s₂, o, stp.trans q, r⟩
theorem callVirtual (G : Gd p s m meth c y bytes maxL ret Z a0 EL) {idx : Nat} {y' z' : MethodName} {D : String} {bytes' : ByteArray} {maxL' : Nat} {ret' : Option FieldType} {rm : Room} {W : Nat} {a : Addr} {argsL : List Value} {owc : List Addr} {Q' : Option Value → Heap → Prop} (hd : decode bytes pc = .ok (.invokevirtual idx, 3))
    (w1 : (Jvm.Cond.methodLink y.cls idx y').before a0 Z = true) (w2 : (Jvm.Cond.declares y').before a0 Z = true) (w3 : (Jvm.Cond.selects D y' z').before a0 Z = true) (hnf : ∀ (s : State), Z.Warmed39 s.vm → NotFace s y') (w4 : (Jvm.Cond.instanceMethod z').before a0 Z = true) (w5 : (Jvm.Cond.initialized z'.cls).before a0 Z = true) (w6 : (Jvm.Cond.code z' bytes' maxL' ret').before a0 Z = true) (hy : y'.cls ≠ "java/lang/invoke/MethodHandle" ∧ y'.cls ≠ "java/lang/invoke/VarHandle")
    (E : Exa Z h a D) (C : Con l Z wd EL n0 z' bytes' maxL' ret' rm [] (.ref a :: argsL).toArray h owc Q') (hst : st = argsL.reverse ++ .ref a :: rest) (hlen : ∀ sig, parseMethodDescriptor y'.desc = some sig → argsL.length = sig.parameters.length) (hsz : Ls.size = maxL) (hfr : rm.frames + 1 ≤ R.frames) (hW : (rest.map fun v => v.category).sum ≤ W) (hlo : W + (maxL' + 11) + rm.locals ≤ R.locals) (hc : cells + rm.cells ≤ R.cells) (hs : slots + rm.slots ≤ R.slots) (how : ∀ x ∈ owc, x ∈ ow) (hc' : cells + rm.cells = cells') (hs' : slots + rm.slots = slots') (hp : pc + 3 = pc')
    (K : ∀ (v : Option Value) (h' : Heap), Q' v h' → Keep h h' owc → Run p l e R s m args below meth c Z wd EL n0 ow0 Q h' ow cells' slots' (mkF m pc' Ls (v.toList ++ rest))) : Run p l e R s m args below meth c Z wd EL n0 ow0 Q h ow cells slots (mkF m pc Ls st) := by
  subst hp hst hc' hs'
  intro T locs vm0 k0 X H
  have hZ := H.2.2.1
  obtain ⟨cq, kq, r1, -, r3⟩ := isOf (s := s.setVm vm0) (T := T) hZ H.2.2.2.1 E
  obtain ⟨v, vm₁, B, -, X', hS, -, ⟨L, q1, q2, q3, q4, q5, q6, q7, q8⟩, stp⟩ := X.virtualBackS G.1 (G.own H.1) (mv (s := s.setVm vm0) hZ w1) (mv (s := s.setVm vm0) hZ w2) (hnf (s.setVm vm0) hZ) (mv (s := s.setVm vm0) hZ w3) (mv (s := s.setVm vm0) hZ w4) hy
    (backG C hZ w6 w5 hfr hlo G.2.2.2.2.2.2.2 H.2.2.2.2.2.1.1 H.2.2.2.2.2.2.2.1 (fun x hx => ⟨(H.2.2.2.2.2.2.2.2.1 x (how x hx)).1, (H.2.2.2.2.2.2.2.2.1 x (how x hx)).2.1, (H.2.2.2.2.2.2.2.2.1 x (how x hx)).2.2.1⟩)) r1 r3 (g := mkF m pc Ls (argsL.reverse ++ .ref a :: rest)) rfl (hsz.trans G.2.2.1.symm) (Steps.refl _) hlen rfl (by show 2 * 0 + _ ≤ W; omega) (G.hb hd) (fun _ _ => ⟨rfl, H.2.2.2.1, hc, hs⟩)
  obtain ⟨T', Lc, kc, nc⟩ := B
  dsimp only [Pt.U, Pt.locs, Pt.cells, Pt.slots] at X' q1 q3 q4 q5 q6 q7 q8 hS stp
  subst q4 q5 q6
  obtain ⟨s₂, o, q, r⟩ := K v T'.heap q1 q3 T' (locs ++ L) T'.vm T'.heap.size X' (H.call how hS q2 q3 q7 q8)
  exact ⟨s₂, o, stp.trans q, r⟩
theorem callFace (G : Gd p s m meth c y bytes maxL ret Z a0 EL) {idx count : Nat} {y' z' : MethodName} {D : String} {bytes' : ByteArray} {maxL' : Nat} {ret' : Option FieldType} {rm : Room} {W : Nat} {a : Addr} {argsL : List Value} {owc : List Addr} {Q' : Option Value → Heap → Prop} (hd : decode bytes pc = .ok (.invokeinterface idx count, 5))
    (w1 : (Jvm.Cond.methodLink y.cls idx y').before a0 Z = true) (w2 : (Jvm.Cond.declares y').before a0 Z = true) (w3 : (Jvm.Cond.selects D y' z').before a0 Z = true) (wf : ∀ (a1 : Array Value) (s : State), Z.Warmed39 s.vm → (Jvm.Cond.interfaceMethod y'.cls y'.cls y'.name y'.desc).before a1 s = true) (wp : (Jvm.Cond.publicMethod z').before a0 Z = true) (wu : (Jvm.Cond.unhidden D y'.name y'.desc).before a0 Z = true) (wk : (Jvm.Cond.castable D y'.cls).before a0 Z = true) (w4 : (Jvm.Cond.instanceMethod z').before a0 Z = true) (w5 : (Jvm.Cond.initialized z'.cls).before a0 Z = true) (w6 : (Jvm.Cond.code z' bytes' maxL' ret').before a0 Z = true) (hy : y'.cls ≠ "java/lang/invoke/MethodHandle" ∧ y'.cls ≠ "java/lang/invoke/VarHandle")
    (E : Exa Z h a D) (C : Con l Z wd EL n0 z' bytes' maxL' ret' rm [] (.ref a :: argsL).toArray h owc Q') (hst : st = argsL.reverse ++ .ref a :: rest) (hlen : ∀ sig, parseMethodDescriptor y'.desc = some sig → argsL.length = sig.parameters.length) (hsz : Ls.size = maxL) (hfr : rm.frames + 1 ≤ R.frames) (hW : (rest.map fun v => v.category).sum ≤ W) (hlo : W + (maxL' + 11) + rm.locals ≤ R.locals) (hc : cells + rm.cells ≤ R.cells) (hs : slots + rm.slots ≤ R.slots) (how : ∀ x ∈ owc, x ∈ ow) (hc' : cells + rm.cells = cells') (hs' : slots + rm.slots = slots') (hp : pc + 5 = pc')
    (K : ∀ (v : Option Value) (h' : Heap), Q' v h' → Keep h h' owc → Run p l e R s m args below meth c Z wd EL n0 ow0 Q h' ow cells' slots' (mkF m pc' Ls (v.toList ++ rest))) : Run p l e R s m args below meth c Z wd EL n0 ow0 Q h ow cells slots (mkF m pc Ls st) := by
  subst hp hst hc' hs'
  intro T locs vm0 k0 X H
  have hZ := H.2.2.1
  obtain ⟨cq, kq, r1, r2, r3⟩ := isOf (s := s.setVm vm0) (T := T) hZ H.2.2.2.1 E
  obtain ⟨v, vm₁, B, -, X', hS, -, ⟨L, q1, q2, q3, q4, q5, q6, q7, q8⟩, stp⟩ := X.interfaceBackS G.1 (G.own H.1) (mv (s := s.setVm vm0) hZ w1) (mv (s := s.setVm vm0) hZ w2) (wf _ (s.setVm vm0) hZ) (mv (s := s.setVm vm0) hZ w3) (mv (s := s.setVm vm0) hZ w4) (mv (s := s.setVm vm0) hZ wp) (mv (s := s.setVm vm0) hZ wu) (mv (s := s.setVm vm0) hZ wk) hy
    (backG C hZ w6 w5 hfr hlo G.2.2.2.2.2.2.2 H.2.2.2.2.2.1.1 H.2.2.2.2.2.2.2.1 (fun x hx => ⟨(H.2.2.2.2.2.2.2.2.1 x (how x hx)).1, (H.2.2.2.2.2.2.2.2.1 x (how x hx)).2.1, (H.2.2.2.2.2.2.2.2.1 x (how x hx)).2.2.1⟩)) r1 r2 r3 (g := mkF m pc Ls (argsL.reverse ++ .ref a :: rest)) rfl (hsz.trans G.2.2.1.symm) (Steps.refl _) hlen rfl (by show 2 * 0 + _ ≤ W; omega) (G.hb hd) (fun _ _ => ⟨rfl, H.2.2.2.1, hc, hs⟩)
  obtain ⟨T', Lc, kc, nc⟩ := B
  dsimp only [Pt.U, Pt.locs, Pt.cells, Pt.slots] at X' q1 q3 q4 q5 q6 q7 q8 hS stp
  subst q4 q5 q6
  obtain ⟨s₂, o, q, r⟩ := K v T'.heap q1 q3 T' (locs ++ L) T'.vm T'.heap.size X' (H.call how hS q2 q3 q7 q8)
  exact ⟨s₂, o, stp.trans q, r⟩
theorem nface {y' : MethodName} {D : String} (w3 : (Jvm.Cond.selects D y' y').before a0 Z = true) : ∀ (s : State), Z.Warmed39 s.vm → NotFace s y' := fun s hZ => notFace_of_selects (args := #[]) (mv (s := s) hZ w3)
end
end Jvm.GoKit


namespace Jvm.GoKit
open Jvm Jvm.ClassFile Sem Op Lib Jvm.Free Jvm.Stand Jvm.LawKit Jvm.RoadKit Bundle
theorem wi {L : List Jvm.Cond} {a0 : Array Value} {Z : State} (hw : ∀ d ∈ L, d.before a0 Z = true) (i : Nat) {d : Jvm.Cond} (h : L[i]? = some d) : d.before a0 Z = true := hw _ (List.mem_of_getElem? h)
/-- an array of chars or bytes, with its values -/
def IA (Z : State) (h : Heap) (b : Addr) (ty : FieldType) (xs : List Int32) : Prop := ∃ cl : Cell, Arr Z h b cl ty ∧ cl.slots = (xs.map Value.int).toArray ∧ xs.length < 2 ^ 31
section
variable {p : Program} {l : Launch} {e : Env} {R : Room} {s : State} {m : MethodId} {args : Array Value} {below : List Frame} {meth : Method} {c : Code} {Z : State} {wd : Bool} {EL : List (String × Nat)} {n0 : Nat} {ow0 : List Addr} {Q : Option Value → Heap → Prop}
variable {h h' : Heap} {ow : List Addr} {cells slots cells' slots' : Nat} {pc pc' : Nat} {Ls Ls' : Array Slot} {st rest : List Value} {y : MethodName} {bytes : ByteArray} {maxL : Nat} {ret : Option FieldType} {a0 : Array Value}
variable {a b : Addr} {ty : FieldType} {xs : List Int32} {i : Nat} {x x' z j : Int32} {ws : List Addr} {sl : Nat} {v : Value}
theorem IA.lt (A : IA Z h b ty xs) : b < h.size := by obtain ⟨cl, A, -⟩ := A; exact A.lt
theorem IA.ext (A : IA Z h b ty xs) (E : Ext h h') : IA Z h' b ty xs := by obtain ⟨cl, A, r⟩ := A; exact ⟨cl, A.ext E, r⟩
theorem IA.other (A : IA Z h b ty xs) (W : Wr h h' a sl v) (q : b ≠ a) : IA Z h' b ty xs := by obtain ⟨cl, A, r⟩ := A; exact ⟨cl, A.other W q, r⟩
theorem IA.keep (A : IA Z h b ty xs) (K : Keep h h' ws) (q : b ∉ ws) : IA Z h' b ty xs := by obtain ⟨cl, A, r⟩ := A; exact ⟨cl, ⟨K.2.1 b cl A.1 q, A.2⟩, r⟩
theorem IA.new {cA : ClassId} {n : Int32} {k : Nat} (A : Arr Z h a (newA cA ty n) ty) (hk : n.toNatClampNeg = k) (hd : defaultValue ty = .int 0) : IA Z h a ty (List.replicate k 0) := by
  refine ⟨_, A, ?_, ?_⟩
  · subst hk; simp [newA, hd]
  · rw [List.length_replicate, ← hk]
    have := n.toInt_lt
    simp only [Int32.toNatClampNeg]; omega
theorem idx_ok {cl : Cell} {j : Int32} {i n : Nat} (hs : cl.slots.size = n) (hj : j.toNatClampNeg = i) (hj0 : ¬ j < 0) (hi : i < n) : ¬ (j < 0 ∨ cl.slots.size ≤ j.toNatClampNeg) := by
  rintro (q | q)
  · exact hj0 q
  · omega
theorem IA.set (A : IA Z h a ty xs) (W : Wr h h' a i (.int x)) (hi : i < xs.length) : IA Z h' a ty (xs.set i x) := by
  obtain ⟨cl, A, e, hl⟩ := A
  refine ⟨_, A.same W, ?_, by simpa using hl⟩
  simp only [Cell.setSlot]
  rw [e, ← Array.toList_inj]
  simp [List.map_set]
theorem castI (G : Gd p s m meth c y bytes maxL ret Z a0 EL) (hd : decode bytes pc = .ok (.castore, 1)) (A : IA Z h a .char xs) (hj : j.toNatClampNeg = i) (hj0 : ¬ j < 0) (hi : i < xs.length) (hx : nar .char x = x') (ha : a ∈ ow) (hp : pc + 1 = pc')
    (K : ∀ h', Wr h h' a i (.int x') → IA Z h' a .char (xs.set i x') → Run p l e R s m args below meth c Z wd EL n0 ow0 Q h' ow cells slots (mkF m pc' Ls rest)) : Run p l e R s m args below meth c Z wd EL n0 ow0 Q h ow cells slots (mkF m pc Ls (.int x :: .int j :: .ref a :: rest)) := by
  obtain ⟨cl, A1, e1, hl⟩ := id A
  refine castore G hd A1 (idx_ok (by rw [e1]; simp) hj hj0 hi) ha hp fun h' W => ?_
  rw [hj, hx] at W
  exact K h' W (A.set W hi)
theorem bastI (G : Gd p s m meth c y bytes maxL ret Z a0 EL) (hd : decode bytes pc = .ok (.bastore, 1)) (A : IA Z h a .byte xs) (hj : j.toNatClampNeg = i) (hj0 : ¬ j < 0) (hi : i < xs.length) (hx : nar .byte x = x') (ha : a ∈ ow) (hp : pc + 1 = pc')
    (K : ∀ h', Wr h h' a i (.int x') → IA Z h' a .byte (xs.set i x') → Run p l e R s m args below meth c Z wd EL n0 ow0 Q h' ow cells slots (mkF m pc' Ls rest)) : Run p l e R s m args below meth c Z wd EL n0 ow0 Q h ow cells slots (mkF m pc Ls (.int x :: .int j :: .ref a :: rest)) := by
  obtain ⟨cl, A1, e1, hl⟩ := id A
  refine bastore G hd A1 (idx_ok (by rw [e1]; simp) hj hj0 hi) ha hp fun h' W => ?_
  rw [hj, hx] at W
  exact K h' W (A.set W hi)
theorem caloadI (G : Gd p s m meth c y bytes maxL ret Z a0 EL) (hd : decode bytes pc = .ok (.caload, 1)) (A : IA Z h a .char xs) (hj : j.toNatClampNeg = i) (hj0 : ¬ j < 0) (hv : xs[i]? = some x) (hp : pc + 1 = pc') (K : Run p l e R s m args below meth c Z wd EL n0 ow0 Q h ow cells slots (mkF m pc' Ls (.int x :: rest))) : Run p l e R s m args below meth c Z wd EL n0 ow0 Q h ow cells slots (mkF m pc Ls (.int j :: .ref a :: rest)) := by
  obtain ⟨cl, A1, e1, hl⟩ := A
  have hi := (List.getElem?_eq_some_iff.mp hv).1
  exact caload G hd A1 (idx_ok (by rw [e1]; simp) hj hj0 hi) (by rw [e1, hj]; simp [hv]) hp K
theorem baloadI (G : Gd p s m meth c y bytes maxL ret Z a0 EL) (hd : decode bytes pc = .ok (.baload, 1)) (A : IA Z h a .byte xs) (hj : j.toNatClampNeg = i) (hj0 : ¬ j < 0) (hv : xs[i]? = some x) (hp : pc + 1 = pc') (K : Run p l e R s m args below meth c Z wd EL n0 ow0 Q h ow cells slots (mkF m pc' Ls (.int x :: rest))) : Run p l e R s m args below meth c Z wd EL n0 ow0 Q h ow cells slots (mkF m pc Ls (.int j :: .ref a :: rest)) := by
  obtain ⟨cl, A1, e1, hl⟩ := A
  have hi := (List.getElem?_eq_some_iff.mp hv).1
  exact baload G hd A1 (idx_ok (by rw [e1]; simp) hj hj0 hi) (by rw [e1, hj]; simp [hv]) hp K
theorem arrlenI (G : Gd p s m meth c y bytes maxL ret Z a0 EL) (hd : decode bytes pc = .ok (.arraylength, 1)) (A : IA Z h a ty xs) (hz : xs.length.toInt32 = z) (hp : pc + 1 = pc') (K : Run p l e R s m args below meth c Z wd EL n0 ow0 Q h ow cells slots (mkF m pc' Ls (.int z :: rest))) : Run p l e R s m args below meth c Z wd EL n0 ow0 Q h ow cells slots (mkF m pc Ls (.ref a :: rest)) := by
  obtain ⟨cl, A1, e1, hl⟩ := A
  refine arrlen G hd A1 hp ?_
  rw [e1, List.size_toArray, List.length_map, hz]
  exact K
theorem newcI (G : Gd p s m meth c y bytes maxL ret Z a0 EL) {n : Int32} {k cap : Nat} (hd : decode bytes pc = .ok (.newarray .char, 2)) (w : (Jvm.Cond.arrayClass .char).before a0 Z = true) (hn : ¬ n < 0) (hk : n.toNatClampNeg = k) (hcap : k ≤ cap) (hb : cap * 8 ≤ 536870912) (hc : cells + 1 ≤ R.cells) (hl : slots + cap ≤ R.slots) (hc' : cells + 1 = cells') (hs' : slots + cap = slots') (hp : pc + 2 = pc')
    (K : ∀ (h' : Heap) (a : Addr), a = h.size → Ext h h' → IA Z h' a .char (List.replicate k 0) → Run p l e R s m args below meth c Z wd EL n0 ow0 Q h' (a :: ow) cells' slots' (mkF m pc' Ls (.ref a :: rest))) : Run p l e R s m args below meth c Z wd EL n0 ow0 Q h ow cells slots (mkF m pc Ls (.int n :: rest)) :=
  newarr G hd w hn (hk ▸ hcap) hb hc hl hc' hs' hp fun h' cA a g E A => K h' a g E (IA.new A hk rfl)
theorem newbI (G : Gd p s m meth c y bytes maxL ret Z a0 EL) {n : Int32} {k cap : Nat} (hd : decode bytes pc = .ok (.newarray .byte, 2)) (w : (Jvm.Cond.arrayClass .byte).before a0 Z = true) (hn : ¬ n < 0) (hk : n.toNatClampNeg = k) (hcap : k ≤ cap) (hb : cap * 8 ≤ 536870912) (hc : cells + 1 ≤ R.cells) (hl : slots + cap ≤ R.slots) (hc' : cells + 1 = cells') (hs' : slots + cap = slots') (hp : pc + 2 = pc')
    (K : ∀ (h' : Heap) (a : Addr), a = h.size → Ext h h' → IA Z h' a .byte (List.replicate k 0) → Run p l e R s m args below meth c Z wd EL n0 ow0 Q h' (a :: ow) cells' slots' (mkF m pc' Ls (.ref a :: rest))) : Run p l e R s m args below meth c Z wd EL n0 ow0 Q h ow cells slots (mkF m pc Ls (.int n :: rest)) :=
  newarr G hd w hn (hk ▸ hcap) hb hc hl hc' hs' hp fun h' cA a g E A => K h' a g E (IA.new A hk rfl)
/-- calls of a callee that leaves the heap as it was -/
theorem callStaticP (G : Gd p s m meth c y bytes maxL ret Z a0 EL) {idx : Nat} {y' : MethodName} {bytes' : ByteArray} {maxL' : Nat} {ret' : Option FieldType} {rm : Room} {W : Nat} {argsL : List Value} {r : Option Value} (hd : decode bytes pc = .ok (.invokestatic idx, 3))
    (w1 : (Jvm.Cond.methodLink y.cls idx y').before a0 Z = true) (w2 : (Jvm.Cond.static y').before a0 Z = true) (w3 : (Jvm.Cond.initialized y'.cls).before a0 Z = true) (w4 : (Jvm.Cond.code y' bytes' maxL' ret').before a0 Z = true) (hy : y'.cls ≠ "java/lang/invoke/MethodHandle" ∧ y'.cls ≠ "java/lang/invoke/VarHandle")
    (C : Con l Z wd EL n0 y' bytes' maxL' ret' rm [] argsL.toArray h [] (fun v h' => v = r ∧ h' = h)) (hst : st = argsL.reverse ++ rest) (hlen : ∀ sig, parseMethodDescriptor y'.desc = some sig → argsL.length = sig.parameters.length) (hsz : Ls.size = maxL) (hfr : rm.frames + 1 ≤ R.frames) (hW : (rest.map fun v => v.category).sum ≤ W) (hlo : W + (maxL' + 11) + rm.locals ≤ R.locals) (hc : cells + rm.cells ≤ R.cells) (hs : slots + rm.slots ≤ R.slots) (hc' : cells + rm.cells = cells') (hs' : slots + rm.slots = slots') (hp : pc + 3 = pc')
    (K : Run p l e R s m args below meth c Z wd EL n0 ow0 Q h ow cells' slots' (mkF m pc' Ls (r.toList ++ rest))) : Run p l e R s m args below meth c Z wd EL n0 ow0 Q h ow cells slots (mkF m pc Ls st) :=
  callStatic G hd w1 w2 w3 w4 hy C hst hlen hsz hfr hW hlo hc hs (fun _ q => nomatch q) hc' hs' hp fun v h' q _ => by rw [q.1, q.2]; exact K
theorem callVirtualP (G : Gd p s m meth c y bytes maxL ret Z a0 EL) {idx : Nat} {y' : MethodName} {D : String} {bytes' : ByteArray} {maxL' : Nat} {ret' : Option FieldType} {rm : Room} {W : Nat} {a : Addr} {argsL : List Value} {r : Option Value} (hd : decode bytes pc = .ok (.invokevirtual idx, 3))
    (w1 : (Jvm.Cond.methodLink y.cls idx y').before a0 Z = true) (w2 : (Jvm.Cond.declares y').before a0 Z = true) (w3 : (Jvm.Cond.selects D y' y').before a0 Z = true) (w4 : (Jvm.Cond.instanceMethod y').before a0 Z = true) (w5 : (Jvm.Cond.initialized y'.cls).before a0 Z = true) (w6 : (Jvm.Cond.code y' bytes' maxL' ret').before a0 Z = true) (hy : y'.cls ≠ "java/lang/invoke/MethodHandle" ∧ y'.cls ≠ "java/lang/invoke/VarHandle")
    (E : Exa Z h a D) (C : Con l Z wd EL n0 y' bytes' maxL' ret' rm [] (.ref a :: argsL).toArray h [] (fun v h' => v = r ∧ h' = h)) (hst : st = argsL.reverse ++ .ref a :: rest) (hlen : ∀ sig, parseMethodDescriptor y'.desc = some sig → argsL.length = sig.parameters.length) (hsz : Ls.size = maxL) (hfr : rm.frames + 1 ≤ R.frames) (hW : (rest.map fun v => v.category).sum ≤ W) (hlo : W + (maxL' + 11) + rm.locals ≤ R.locals) (hc : cells + rm.cells ≤ R.cells) (hs : slots + rm.slots ≤ R.slots) (hc' : cells + rm.cells = cells') (hs' : slots + rm.slots = slots') (hp : pc + 3 = pc')
    (K : Run p l e R s m args below meth c Z wd EL n0 ow0 Q h ow cells' slots' (mkF m pc' Ls (r.toList ++ rest))) : Run p l e R s m args below meth c Z wd EL n0 ow0 Q h ow cells slots (mkF m pc Ls st) :=
  callVirtual G hd w1 w2 w3 (nface w3) w4 w5 w6 hy E C hst hlen hsz hfr hW hlo hc hs (fun _ q => nomatch q) hc' hs' hp fun v h' q _ => by rw [q.1, q.2]; exact K
theorem callFaceP (G : Gd p s m meth c y bytes maxL ret Z a0 EL) {idx count : Nat} {y' z' : MethodName} {D : String} {bytes' : ByteArray} {maxL' : Nat} {ret' : Option FieldType} {rm : Room} {W : Nat} {a : Addr} {argsL : List Value} {r : Option Value} (hd : decode bytes pc = .ok (.invokeinterface idx count, 5))
    (w1 : (Jvm.Cond.methodLink y.cls idx y').before a0 Z = true) (w2 : (Jvm.Cond.declares y').before a0 Z = true) (w3 : (Jvm.Cond.selects D y' z').before a0 Z = true) (wf : ∀ (a1 : Array Value) (s : State), Z.Warmed39 s.vm → (Jvm.Cond.interfaceMethod y'.cls y'.cls y'.name y'.desc).before a1 s = true) (wp : (Jvm.Cond.publicMethod z').before a0 Z = true) (wu : (Jvm.Cond.unhidden D y'.name y'.desc).before a0 Z = true) (wk : (Jvm.Cond.castable D y'.cls).before a0 Z = true) (w4 : (Jvm.Cond.instanceMethod z').before a0 Z = true) (w5 : (Jvm.Cond.initialized z'.cls).before a0 Z = true) (w6 : (Jvm.Cond.code z' bytes' maxL' ret').before a0 Z = true) (hy : y'.cls ≠ "java/lang/invoke/MethodHandle" ∧ y'.cls ≠ "java/lang/invoke/VarHandle")
    (E : Exa Z h a D) (C : Con l Z wd EL n0 z' bytes' maxL' ret' rm [] (.ref a :: argsL).toArray h [] (fun v h' => v = r ∧ h' = h)) (hst : st = argsL.reverse ++ .ref a :: rest) (hlen : ∀ sig, parseMethodDescriptor y'.desc = some sig → argsL.length = sig.parameters.length) (hsz : Ls.size = maxL) (hfr : rm.frames + 1 ≤ R.frames) (hW : (rest.map fun v => v.category).sum ≤ W) (hlo : W + (maxL' + 11) + rm.locals ≤ R.locals) (hc : cells + rm.cells ≤ R.cells) (hs : slots + rm.slots ≤ R.slots) (hc' : cells + rm.cells = cells') (hs' : slots + rm.slots = slots') (hp : pc + 5 = pc')
    (K : Run p l e R s m args below meth c Z wd EL n0 ow0 Q h ow cells' slots' (mkF m pc' Ls (r.toList ++ rest))) : Run p l e R s m args below meth c Z wd EL n0 ow0 Q h ow cells slots (mkF m pc Ls st) :=
  callFace G hd w1 w2 w3 wf wp wu wk w4 w5 w6 hy E C hst hlen hsz hfr hW hlo hc hs (fun _ q => nomatch q) hc' hs' hp fun v h' q _ => by rw [q.1, q.2]; exact K
/-- a Latin-1 String of known chars -/
def Lat (Z : State) (h : Heap) (a : Addr) (cs : List Int32) : Prop := Exa Z h a "java/lang/String" ∧ (∃ b, Fld Z h a "java/lang/String" "value" "[B" (.ref b) ∧ Fld Z h a "java/lang/String" "coder" "B" (.int 0) ∧ IA Z h b .byte (cs.map fun c => c.toInt8.toInt32)) ∧ ∀ c ∈ cs, 0 ≤ c.toInt ∧ c.toInt < 256
theorem Lat.ext {cs : List Int32} (S : Lat Z h a cs) (E : Ext h h') : Lat Z h' a cs := by
  obtain ⟨S1, ⟨b, S2, S3, S4⟩, S5⟩ := S
  exact ⟨S1.ext E, ⟨b, S2.ext E, S3.ext E, S4.ext E⟩, S5⟩
theorem Lat.keep {cs : List Int32} (S : Lat Z h a cs) (K : Keep h h' []) : Lat Z h' a cs := by
  obtain ⟨S1, ⟨b, S2, S3, S4⟩, S5⟩ := S
  exact ⟨S1.keep K, ⟨b, S2.keep K nin0, S3.keep K nin0, S4.keep K nin0⟩, S5⟩
theorem Lat.lt {cs : List Int32} (S : Lat Z h a cs) : a < h.size := S.1.lt
theorem IA.ne {n : Nat} {C : String} (A : IA Z h b ty xs) (E : Exa Z h a C) (wi : (Jvm.Cond.instantiable C n).before a0 Z = true) : b ≠ a := by obtain ⟨cl, A, -⟩ := A; exact (ne_arr E wi A).symm
theorem IA.neTy {ty' : FieldType} {ys : List Int32} (A : IA Z h b ty xs) (B : IA Z h a ty' ys) (hn : ty ≠ ty') : b ≠ a := fun q => by
  subst q
  obtain ⟨c1, A, -⟩ := A
  obtain ⟨c2, B, -⟩ := B
  cases A.1.symm.trans B.1
  obtain ⟨-, k1, e1, p1, r1⟩ := A.2.1
  obtain ⟨-, k2, e2, p2, r2⟩ := B.2.1
  cases e1.symm.trans e2
  have := r1.symm.trans r2
  injection this with _ q
  exact hn q
theorem IA.len (A : IA Z h b ty xs) : xs.length < 2 ^ 31 := by obtain ⟨-, -, -, h⟩ := A; exact h
theorem Lat.wrI {cs : List Int32} {n : Nat} (S : Lat Z h a cs) (W : Wr h h' b sl v) (A : IA Z h b ty xs) (ht : ty ≠ .byte) (wi : (Jvm.Cond.instantiable "java/lang/String" n).before a0 Z = true) : Lat Z h' a cs := by
  obtain ⟨E, ⟨d, V, C, B⟩, l⟩ := S
  have n1 : a ≠ b := fun q => IA.ne A E wi q.symm
  exact ⟨E.wr W, ⟨d, V.other W (Or.inl n1), C.other W (Or.inl n1), B.other W (IA.neTy B A (fun q => ht q.symm))⟩, l⟩
theorem castRun {g g' : JFrame} (q : g = g') (K : Run p l e R s m args below meth c Z wd EL n0 ow0 Q h ow cells slots g') : Run p l e R s m args below meth c Z wd EL n0 ow0 Q h ow cells slots g := q ▸ K
theorem toI_toInt {i : Nat} (h : i < 2 ^ 31) : i.toInt32.toInt = i := len_toInt h
theorem toI_clamp {i : Nat} (h : i < 2 ^ 31) : i.toInt32.toNatClampNeg = i := by simp only [Int32.toNatClampNeg, toI_toInt h]; rfl
theorem toI_nn {i : Nat} (h : i < 2 ^ 31) : ¬ i.toInt32 < 0 := by
  rw [Int32.lt_iff_toInt_lt, toI_toInt h]; show ¬ (i : Int) < 0; omega
theorem toI_lt {i k : Nat} (h : i < 2 ^ 31) (h' : k < 2 ^ 31) : i.toInt32 < k.toInt32 ↔ i < k := by
  rw [Int32.lt_iff_toInt_lt, toI_toInt h, toI_toInt h']; omega
theorem toI_succ (i : Nat) : i.toInt32 + 1 = (i + 1).toInt32 := by
  apply Int32.toBitVec_inj.mp
  simp [Nat.toInt32, BitVec.ofNat_add]
theorem toI_eq {i k : Nat} (h : i < 2 ^ 31) (h' : k < 2 ^ 31) : i.toInt32 = k.toInt32 ↔ i = k := by
  refine ⟨fun q => ?_, fun q => by rw [q]⟩
  have := congrArg Int32.toInt q
  rw [toI_toInt h, toI_toInt h'] at this; omega
theorem lo8_nar (c : Int32) : nar .byte (c.toInt8.toInt32) = c.toInt8.toInt32 := by simp [nar]
theorem nar_i2c (x : Int32) : nar .char (x.toUInt32.toUInt16.toUInt32.toInt32) = x.toUInt32.toUInt16.toUInt32.toInt32 := by simp only [nar, UInt32.toUInt32_toInt32, UInt16.toUInt16_toUInt32]
theorem set_fill (f : Int32 → Int32) (cs : List Int32) (i k : Nat) (c : Int32) (hc : cs[i]? = some c) : (((cs.take i).map f) ++ List.replicate (k + 1) 0).set i (f c) = ((cs.take (i + 1)).map f) ++ List.replicate k 0 := by
  have hi := (List.getElem?_eq_some_iff.mp hc).1
  have hl : ((cs.take i).map f).length = i := by simp; omega
  rw [List.set_append_right _ _ (by omega), hl, Nat.sub_self, List.replicate_succ, List.set_cons_zero, List.take_add_one, hc]
  simp
theorem and_rng (x m : Int32) (M : Nat) (hm : m.toBitVec.toNat = M) (hM : M < 2 ^ 31) : 0 ≤ (x &&& m).toInt ∧ (x &&& m).toInt ≤ M := by
  have h : (x &&& m).toBitVec.toNat ≤ M := by
    show (x.toBitVec &&& m.toBitVec).toNat ≤ M
    rw [BitVec.toNat_and, ← hm]; exact Nat.and_le_right
  have e : (x &&& m).toInt = ((x &&& m).toBitVec.toNat : Int) := by
    show (x &&& m).toBitVec.toInt = _
    rw [BitVec.toInt_eq_toNat_cond]; rw [if_pos (by omega)]
  omega
theorem and255_rng (x : Int32) : 0 ≤ (x &&& 255).toInt ∧ (x &&& 255).toInt < 256 := by
  have := and_rng x 255 255 rfl (by decide); omega
theorem ch8 (x v w : Int32) (h1 : v = x &&& 255) (h2 : w = v.toUInt32.toUInt16.toUInt32.toInt32) : 0 ≤ w.toInt ∧ w.toInt < 256 := by
  subst h1 h2; rw [i2c_mask]; exact and255_rng x
theorem bool_ok {z : Int32} (h : z = 0 ∨ z = 1) : narrow .boolean (.int z) = .int z ∧ fits .boolean (.int z) = true ∧ nar .boolean z = z := by
  rcases h with rfl | rfl <;> exact ⟨rfl, rfl, rfl⟩
theorem ref_ok {v : Value} (C : String) (h : v.isRef = true) : narrow (.object C) v = v ∧ fits (.object C) v = true := by
  rcases ref_cases h with rfl | ⟨r, rfl⟩ <;> exact ⟨rfl, rfl⟩
theorem rem_rng (x m : Int32) (hx : 0 ≤ x.toInt) (hm : 0 < m.toInt) : 0 ≤ (x % m).toInt ∧ (x % m).toInt < m.toInt := by
  rw [Int32.toInt_mod, Int.tmod_eq_emod_of_nonneg hx]
  exact ⟨Int.emod_nonneg _ (by omega), Int.emod_lt_of_pos _ hm⟩
theorem and31_rem {x v w m : Int32} (h1 : v = x &&& 2147483647) (h2 : w = v % m) (hm : 0 < m.toInt) : 0 ≤ w.toInt ∧ w.toInt < m.toInt := by
  subst h1 h2; exact rem_rng _ _ (and_rng x 2147483647 2147483647 rfl (by decide)).1 hm
/-- compact strings are on -/
def Cst (Z : State) : Prop := ∃ cz : Int32, Sta Z Z.heap "java/lang/String" "COMPACT_STRINGS" "Z" (.int cz) ∧ cz ≠ 0
theorem keepExt (K : Keep h h' []) : Ext h h' := ⟨K.1, fun x c q => K.2.1 x c q nin0⟩
theorem extKeep (E : Ext h h') : Keep h h' [] := (Keep.refl h []).ext E
end
end Jvm.GoKit

namespace Jvm.Pilot.@@N@@
open Jvm Jvm.ClassFile Sem Op Lib Jvm.Free Jvm.Stand Jvm.LawKit Jvm.RoadKit Jvm.GoKit Bundle Jvm.Pilot.@@N@@.Jvm.D
abbrev ELs : List (String × Nat) := consts_1
theorem hELs {Z : State} {a0 : Array Value} (hw : ∀ d ∈ tables_1, d.before a0 Z = true) : EW Z a0 ELs := EW.cons (wi hw 5 rfl) (by decide +kernel) (EW.cons (wi hw 110 rfl) (by decide +kernel) (EW.cons (wi hw 112 rfl) (by decide +kernel) (EW.cons (wi hw 117 rfl) (by decide +kernel) (EW.cons (wi hw 118 rfl) (by decide +kernel) (EW.cons (wi hw 119 rfl) (by decide +kernel) (EW.cons (wi hw 120 rfl) (by decide +kernel) (EW.nil)))))))
theorem wS {Z : State} {a0 : Array Value} (hw : ∀ d ∈ tables_1, d.before a0 Z = true) : ∀ a ∈ Bundle.stringAtoms, a.before a0 Z = true := by
  intro d hd
  simp only [Bundle.stringAtoms, List.mem_cons, List.not_mem_nil, or_false] at hd
  rcases hd with rfl | rfl | rfl | rfl | rfl | rfl | rfl
  · exact (wi hw 6 rfl)
  · exact (wi hw 7 rfl)
  · exact (wi hw 8 rfl)
  · exact (wi hw 9 rfl)
  · exact (wi hw 10 rfl)
  · exact (wi hw 11 rfl)
  · exact (wi hw 12 rfl)
theorem iaLit {Z : State} {h : Heap} {b : Addr} {k : ClassId} {z : Int32} {vs : List Value} {cs : List Int32} (A : Arv Z h b k .byte z vs (.int 0)) (hz : z.toNatClampNeg = cs.length) (hv : vs = cs.map fun c => Value.int c.toInt8.toInt32) : IA Z h b .byte (cs.map fun c => c.toInt8.toInt32) := by
  obtain ⟨c, A1, -, e, hn, H, -⟩ := A
  refine ⟨c, A1, ?_, ?_⟩
  · apply Array.ext_getElem?
    intro i
    by_cases hi : i < c.slots.size
    · rw [H i hi, hv]
      have : i < cs.length := by omega
      simp [this]
    · rw [Array.getElem?_eq_none (by omega), Array.getElem?_eq_none (by simp; omega)]
  · rw [List.length_map, ← hz]
    have := z.toInt_lt
    simp only [Int32.toNatClampNeg]; omega
theorem latLit {Z : State} {h : Heap} {a b : Addr} {k : ClassId} {z : Int32} {vs : List Value} {cs : List Int32} (X : Exa Z h a "java/lang/String") (FC : Fld Z h a "java/lang/String" "coder" "B" (.int 0)) (FV : Fld Z h a "java/lang/String" "value" "[B" (.ref b)) (A : Arv Z h b k .byte z vs (.int 0)) (hz : z.toNatClampNeg = cs.length) (hv : vs = cs.map fun c => Value.int c.toInt8.toInt32) (hl : ∀ c ∈ cs, 0 ≤ c.toInt ∧ c.toInt < 256) : Lat Z h a cs :=
  ⟨X, ⟨b, FV, FC, iaLit A hz hv⟩, hl⟩
def max32 (x z : Int32) : Int32 := if x < z then z else x
theorem d20_0 : decode jdk_29_method_65_code 0 = .ok (.iload_n 0, 1) := by decide +kernel
theorem d20_1 : decode jdk_29_method_65_code 1 = .ok (.iload_n 1, 1) := by decide +kernel
theorem d20_2 : decode jdk_29_method_65_code 2 = .ok (.if_icmp .lt 7, 3) := by decide +kernel
theorem d20_9 : decode jdk_29_method_65_code 9 = .ok (.iload_n 1, 1) := by decide +kernel
theorem d20_10 : decode jdk_29_method_65_code 10 = .ok (.ireturn, 1) := by decide +kernel
theorem d20_5 : decode jdk_29_method_65_code 5 = .ok (.iload_n 0, 1) := by decide +kernel
theorem d20_6 : decode jdk_29_method_65_code 6 = .ok (.goto 4, 3) := by decide +kernel
abbrev rm_con_max : Room := { frames := 0, cells := 0, slots := 0, locals := 0 }
set_option maxRecDepth 65536 in
set_option maxHeartbeats 40000000 in
theorem con_max (l : Launch) {Z : State} {a0 : Array Value} (hw : ∀ d ∈ tables_1, d.before a0 Z = true) {n0 : Nat} {h0 : Heap} (x z : Int32) :
    Con l Z true ELs n0 (⟨"java/lang/Math", "max", "(II)I"⟩ : MethodName) jdk_29_method_65_code 2 (some .int) rm_con_max [] #[(.int x), (.int z)] h0 [] (fun v h => v = some (.int (max32 x z)) ∧ h = h0) := by
  refine Con.intro (Jvm.Free.JP.mathPlain rfl (by decide +kernel)) (hELs hw) ?_
  intro p e s m below meth c hh G
  refine castRun (g' := mkF m 0 #[.val (.int x), .val (.int z)] []) (by first | rfl | (simp [entryFrame, mkF, argsToLocals, Value.category, maxLocals]; done)) ?_
  refine GoKit.iloadN G d20_0 rfl (pc' := 1) rfl ?_
  refine GoKit.iloadN G d20_1 rfl (pc' := 2) rfl ?_
  refine GoKit.icmp_lt G d20_2 (by decide) (pt := 9) (pf := 5) rfl rfl (fun hb1 => ?_) (fun hb1 => ?_)
  · refine GoKit.iloadN G d20_9 rfl (pc' := 10) rfl ?_
    refine GoKit.retInt G d20_10 rfl (by decide) (by decide) ?_
    exact ⟨by simp [max32, hb1], rfl⟩
  · refine GoKit.iloadN G d20_5 rfl (pc' := 6) rfl ?_
    refine GoKit.goto G d20_6 (by decide) (pc' := 10) rfl ?_
    refine GoKit.retInt G d20_10 rfl (by decide) (by decide) ?_
    exact ⟨by simp [max32, hb1], rfl⟩
theorem d14_0 : decode jdk_52_method_15_code 0 = .ok (.iload_n 1, 1) := by decide +kernel
theorem d14_1 : decode jdk_52_method_15_code 1 = .ok (.aload_n 0, 1) := by decide +kernel
theorem d14_2 : decode jdk_52_method_15_code 2 = .ok (.arraylength, 1) := by decide +kernel
theorem d14_3 : decode jdk_52_method_15_code 3 = .ok (.isub, 1) := by decide +kernel
theorem d14_4 : decode jdk_52_method_15_code 4 = .ok (.bipush 31, 2) := by decide +kernel
theorem d14_6 : decode jdk_52_method_15_code 6 = .ok (.iushr, 1) := by decide +kernel
theorem d14_7 : decode jdk_52_method_15_code 7 = .ok (.i2b, 1) := by decide +kernel
theorem d14_8 : decode jdk_52_method_15_code 8 = .ok (.ireturn, 1) := by decide +kernel
theorem pn_java_lang_StringUTF16 : plainName "java/lang/StringUTF16" = true := by first | (simp [plainName, overriddenIn]; done) | decide +kernel
abbrev rm_con_coderLen : Room := { frames := 0, cells := 0, slots := 0, locals := 0 }
set_option maxRecDepth 65536 in
set_option maxHeartbeats 40000000 in
theorem con_coderLen (l : Launch) {Z : State} {a0 : Array Value} (hw : ∀ d ∈ tables_1, d.before a0 Z = true) {n0 : Nat} {h0 : Heap} {d : Addr} {xs : List Int32} (A : IA Z h0 d .byte xs) :
    Con l Z true ELs n0 (⟨"java/lang/StringUTF16", "coderFromArrayLen", "([BI)B"⟩ : MethodName) jdk_52_method_15_code 2 (some .byte) rm_con_coderLen [] #[(.ref d), (.int xs.length.toInt32)] h0 [] (fun v h => v = some (.int 0) ∧ h = h0) := by
  refine Con.intro (plainFor_of_name pn_java_lang_StringUTF16) (hELs hw) ?_
  intro p e s m below meth c hh G
  refine castRun (g' := mkF m 0 #[.val (.ref d), .val (.int xs.length.toInt32)] []) (by first | rfl | (simp [entryFrame, mkF, argsToLocals, Value.category, maxLocals]; done)) ?_
  refine GoKit.iloadN G d14_0 rfl (pc' := 1) rfl ?_
  refine GoKit.aloadN G d14_1 rfl rfl (pc' := 2) rfl ?_
  refine GoKit.arrlenI G d14_2 A (z := xs.length.toInt32) rfl (pc' := 3) rfl ?_
  refine GoKit.isub G d14_3 (pc' := 4) rfl (fun v1 hqv1 => ?_)
  refine GoKit.bipush G (31 : Int32) d14_4 rfl (pc' := 6) rfl ?_
  refine GoKit.iushr G d14_6 (pc' := 7) rfl (fun v2 hqv2 => ?_)
  refine GoKit.i2b G d14_7 (pc' := 8) rfl (fun v3 hqv3 => ?_)
  refine GoKit.retNar G d14_8 (t := .byte) rfl (by simp) (by decide) (by decide) ?_
  exact ⟨by subst_vars; rw [show (xs.length.toInt32 - xs.length.toInt32 : Int32) = 0 from Int32.sub_self _]; rfl, rfl⟩
theorem lat_le {c : Int32} (h : 0 ≤ c.toInt ∧ c.toInt < 256) : ¬ (255 : Int32) < c := by rw [Int32.lt_iff_toInt_lt]; show ¬ (255 : Int) < c.toInt; omega
theorem d13_3 : decode jdk_52_method_21_code 3 = .ok (.iload 5, 2) := by decide +kernel
theorem d13_5 : decode jdk_52_method_21_code 5 = .ok (.iload 4, 2) := by decide +kernel
theorem d13_7 : decode jdk_52_method_21_code 7 = .ok (.if_icmp .ge 37, 3) := by decide +kernel
theorem d13_44 : decode jdk_52_method_21_code 44 = .ok (.iload 4, 2) := by decide +kernel
theorem d13_46 : decode jdk_52_method_21_code 46 = .ok (.ireturn, 1) := by decide +kernel
theorem d13_10 : decode jdk_52_method_21_code 10 = .ok (.aload_n 0, 1) := by decide +kernel
theorem d13_11 : decode jdk_52_method_21_code 11 = .ok (.iload_n 1, 1) := by decide +kernel
theorem d13_12 : decode jdk_52_method_21_code 12 = .ok (.caload, 1) := by decide +kernel
theorem d13_13 : decode jdk_52_method_21_code 13 = .ok (.istore 6, 2) := by decide +kernel
theorem d13_15 : decode jdk_52_method_21_code 15 = .ok (.iload 6, 2) := by decide +kernel
theorem d13_17 : decode jdk_52_method_21_code 17 = .ok (.sipush 255, 3) := by decide +kernel
theorem d13_20 : decode jdk_52_method_21_code 20 = .ok (.if_icmp .le 6, 3) := by decide +kernel
theorem d13_26 : decode jdk_52_method_21_code 26 = .ok (.aload_n 2, 1) := by decide +kernel
theorem d13_27 : decode jdk_52_method_21_code 27 = .ok (.iload_n 3, 1) := by decide +kernel
theorem d13_28 : decode jdk_52_method_21_code 28 = .ok (.iload 6, 2) := by decide +kernel
theorem d13_30 : decode jdk_52_method_21_code 30 = .ok (.i2b, 1) := by decide +kernel
theorem d13_31 : decode jdk_52_method_21_code 31 = .ok (.bastore, 1) := by decide +kernel
theorem d13_32 : decode jdk_52_method_21_code 32 = .ok (.iinc 1 1, 3) := by decide +kernel
theorem d13_35 : decode jdk_52_method_21_code 35 = .ok (.iinc 3 1, 3) := by decide +kernel
theorem d13_38 : decode jdk_52_method_21_code 38 = .ok (.iinc 5 1, 3) := by decide +kernel
theorem d13_41 : decode jdk_52_method_21_code 41 = .ok (.goto (-38), 3) := by decide +kernel
theorem d13_0 : decode jdk_52_method_21_code 0 = .ok (.iconst 0, 1) := by decide +kernel
theorem d13_1 : decode jdk_52_method_21_code 1 = .ok (.istore 5, 2) := by decide +kernel
abbrev rm_con_compress5 : Room := { frames := 0, cells := 0, slots := 0, locals := 0 }
set_option maxRecDepth 65536 in
set_option maxHeartbeats 40000000 in
theorem con_compress5 (l : Launch) {Z : State} {a0 : Array Value} (hw : ∀ d ∈ tables_1, d.before a0 Z = true) {n0 : Nat} {h0 : Heap} {b d : Addr} {cs : List Int32} (A : IA Z h0 b .char cs) (D : IA Z h0 d .byte (List.replicate cs.length 0)) (hlat : ∀ c ∈ cs, 0 ≤ c.toInt ∧ c.toInt < 256) :
    Con l Z true ELs n0 (⟨"java/lang/StringUTF16", "compress", "([CI[BII)I"⟩ : MethodName) jdk_52_method_21_code 7 (some .int) rm_con_compress5 [] #[(.ref b), (.int 0), (.ref d), (.int 0), (.int cs.length.toInt32)] h0 [d] (fun v h => v = some (.int cs.length.toInt32) ∧ IA Z h d .byte (cs.map fun c => c.toInt8.toInt32)) := by
  refine Con.intro (plainFor_of_name pn_java_lang_StringUTF16) (hELs hw) ?_
  intro p e s m below meth c hh G
  refine castRun (g' := mkF m 0 #[.val (.ref b), .val (.int 0), .val (.ref d), .val (.int 0), .val (.int cs.length.toInt32), .unset, .unset] []) (by first | rfl | (simp [entryFrame, mkF, argsToLocals, Value.category, maxLocals]; done)) ?_
  have hl := A.len
  have loop : ∀ (k i : Nat) (h : Heap) (sl : Slot), i + k = cs.length → IA Z h b .char cs → IA Z h d .byte ((cs.take i).map (fun c => c.toInt8.toInt32) ++ List.replicate k 0) → (sl = .unset ∨ ∃ w, sl = .val w ∧ w.category = 1) →
      Run p l e rm_con_compress5 s m #[.ref b, .int 0, .ref d, .int 0, .int cs.length.toInt32] below meth c Z true ELs n0 [d] (fun v h => v = some (.int cs.length.toInt32) ∧ IA Z h d .byte (cs.map fun c => c.toInt8.toInt32)) h [d] 0 0 (mkF m 3 #[.val (.ref b), .val (.int i.toInt32), .val (.ref d), .val (.int i.toInt32), .val (.int cs.length.toInt32), .val (.int i.toInt32), sl] []) := by
    intro k; induction k with
    | zero =>
      intro i h sl hik A D hsl
      have hi : i = cs.length := by omega
      subst hi
      refine GoKit.iload G d13_3 rfl (pc' := 5) rfl ?_
      refine GoKit.iload G d13_5 rfl (pc' := 7) rfl ?_
      refine GoKit.icmp_ge_t G d13_7 Int32.lt_irrefl (by decide) (pc' := 44) rfl ?_
      refine GoKit.iload G d13_44 rfl (pc' := 46) rfl ?_
      refine GoKit.retInt G d13_46 rfl (by decide) (by decide) ?_
      exact ⟨rfl, by simpa using D⟩
    | succ k ih =>
      intro i h sl hik A D hsl
      have hi : i < cs.length := by omega
      obtain ⟨ch, hch⟩ : ∃ ch, cs[i]? = some ch := ⟨cs[i], List.getElem?_eq_getElem hi⟩
      have hcl := hlat ch (List.mem_of_getElem? hch)
      refine GoKit.iload G d13_3 rfl (pc' := 5) rfl ?_
      refine GoKit.iload G d13_5 rfl (pc' := 7) rfl ?_
      refine GoKit.icmp_ge_f G d13_7 ((toI_lt (by omega) (by omega)).mpr hi) (pc' := 10) rfl ?_
      refine GoKit.aloadN G d13_10 rfl rfl (pc' := 11) rfl ?_
      refine GoKit.iloadN G d13_11 rfl (pc' := 12) rfl ?_
      refine GoKit.caloadI G d13_12 A (i := i) (toI_clamp (by omega)) (toI_nn (by omega)) hch (pc' := 13) rfl ?_
      refine GoKit.istore G d13_13 (Ls' := #[.val (.ref b), .val (.int i.toInt32), .val (.ref d), .val (.int i.toInt32), .val (.int cs.length.toInt32), .val (.int i.toInt32), .val (.int ch)]) (XS.store1 rfl hsl rfl) (pc' := 15) rfl ?_
      refine GoKit.iload G d13_15 rfl (pc' := 17) rfl ?_
      refine GoKit.sipush G (255 : Int32) d13_17 rfl (pc' := 20) rfl ?_
      refine GoKit.icmp_le_t G d13_20 (lat_le hcl) (by decide) (pc' := 26) rfl ?_
      refine GoKit.aloadN G d13_26 rfl rfl (pc' := 27) rfl ?_
      refine GoKit.iloadN G d13_27 rfl (pc' := 28) rfl ?_
      refine GoKit.iload G d13_28 rfl (pc' := 30) rfl ?_
      refine GoKit.i2b G d13_30 (pc' := 31) rfl (fun v1 hqv1 => ?_)
      refine GoKit.bastI G d13_31 D (i := i) (toI_clamp (by omega)) (toI_nn (by omega)) (by simp; omega) (x' := ch.toInt8.toInt32) (by rw [hqv1]; exact lo8_nar _) (List.Mem.head _) (pc' := 32) rfl (fun h' W' D' => ?_)
      rw [set_fill _ cs i k ch hch] at D'
      refine GoKit.iinc G (1 : Int32) d13_32 rfl rfl (Ls' := #[.val (.ref b), .val (.int (i.toInt32 + (1 : Int32))), .val (.ref d), .val (.int i.toInt32), .val (.int cs.length.toInt32), .val (.int i.toInt32), .val (.int ch)]) rfl (pc' := 35) rfl ?_
      generalize hqv2 : (i.toInt32 + (1 : Int32)) = v2
      refine GoKit.iinc G (1 : Int32) d13_35 rfl rfl (Ls' := #[.val (.ref b), .val (.int v2), .val (.ref d), .val (.int (i.toInt32 + (1 : Int32))), .val (.int cs.length.toInt32), .val (.int i.toInt32), .val (.int ch)]) rfl (pc' := 38) rfl ?_
      generalize hqv3 : (i.toInt32 + (1 : Int32)) = v3
      refine GoKit.iinc G (1 : Int32) d13_38 rfl rfl (Ls' := #[.val (.ref b), .val (.int v2), .val (.ref d), .val (.int v3), .val (.int cs.length.toInt32), .val (.int (i.toInt32 + (1 : Int32))), .val (.int ch)]) rfl (pc' := 41) rfl ?_
      generalize hqv4 : (i.toInt32 + (1 : Int32)) = v4
      refine GoKit.goto G d13_41 (by decide) (pc' := 3) rfl ?_
      rw [toI_succ] at hqv2; subst hqv2
      rw [toI_succ] at hqv3; subst hqv3
      rw [toI_succ] at hqv4; subst hqv4
      exact ih (i + 1) h' (.val (.int ch)) (by omega) (A.other W' (IA.neTy A D (by decide))) D' (Or.inr ⟨_, rfl, rfl⟩)
  refine GoKit.iconst G (0 : Int32) d13_0 rfl (pc' := 1) rfl ?_
  refine GoKit.istore G d13_1 (Ls' := #[.val (.ref b), .val (.int (0 : Int32)), .val (.ref d), .val (.int (0 : Int32)), .val (.int cs.length.toInt32), .val (.int (0 : Int32)), .unset]) rfl (pc' := 3) rfl ?_
  exact loop cs.length 0 h0 .unset (by omega) A (by simpa using D) (Or.inl rfl)
theorem d12_0 : decode jdk_52_method_16_code 0 = .ok (.iload_n 2, 1) := by decide +kernel
theorem d12_1 : decode jdk_52_method_16_code 1 = .ok (.newarray .byte, 2) := by decide +kernel
theorem d12_3 : decode jdk_52_method_16_code 3 = .ok (.astore_n 3, 1) := by decide +kernel
theorem d12_4 : decode jdk_52_method_16_code 4 = .ok (.aload_n 0, 1) := by decide +kernel
theorem d12_5 : decode jdk_52_method_16_code 5 = .ok (.iload_n 1, 1) := by decide +kernel
theorem d12_6 : decode jdk_52_method_16_code 6 = .ok (.aload_n 3, 1) := by decide +kernel
theorem d12_7 : decode jdk_52_method_16_code 7 = .ok (.iconst 0, 1) := by decide +kernel
theorem d12_8 : decode jdk_52_method_16_code 8 = .ok (.iload_n 2, 1) := by decide +kernel
theorem d12_9 : decode jdk_52_method_16_code 9 = .ok (.invokestatic 115, 3) := by decide +kernel
theorem pd_0 : parseMethodDescriptor "([CI[BII)I" = some ⟨[(.array .char), .int, (.array .byte), .int, .int], some .int⟩ := by decide +kernel
theorem d12_12 : decode jdk_52_method_16_code 12 = .ok (.istore 4, 2) := by decide +kernel
theorem d12_14 : decode jdk_52_method_16_code 14 = .ok (.iload 4, 2) := by decide +kernel
theorem d12_16 : decode jdk_52_method_16_code 16 = .ok (.iload_n 2, 1) := by decide +kernel
theorem d12_17 : decode jdk_52_method_16_code 17 = .ok (.if_icmp .eq 40, 3) := by decide +kernel
theorem d12_57 : decode jdk_52_method_16_code 57 = .ok (.aload_n 3, 1) := by decide +kernel
theorem d12_58 : decode jdk_52_method_16_code 58 = .ok (.areturn, 1) := by decide +kernel
abbrev rm_con_compress3 : Room := { frames := 1, cells := 1, slots := 8, locals := 18 }
set_option maxRecDepth 65536 in
set_option maxHeartbeats 40000000 in
theorem con_compress3 (l : Launch) {Z : State} {a0 : Array Value} (hw : ∀ d ∈ tables_1, d.before a0 Z = true) {n0 : Nat} {h0 : Heap} {b : Addr} {cs : List Int32} (A : IA Z h0 b .char cs) (hcap : cs.length ≤ 8) (hlat : ∀ c ∈ cs, 0 ≤ c.toInt ∧ c.toInt < 256) :
    Con l Z true ELs n0 (⟨"java/lang/StringUTF16", "compress", "([CII)[B"⟩ : MethodName) jdk_52_method_16_code 6 (some (.array .byte)) rm_con_compress3 [] #[(.ref b), (.int 0), (.int cs.length.toInt32)] h0 [] (fun v h => ∃ d, v = some (.ref d) ∧ IA Z h d .byte (cs.map fun c => c.toInt8.toInt32)) := by
  refine Con.intro (plainFor_of_name pn_java_lang_StringUTF16) (hELs hw) ?_
  intro p e s m below meth c hh G
  refine castRun (g' := mkF m 0 #[.val (.ref b), .val (.int 0), .val (.int cs.length.toInt32), .unset, .unset, .unset] []) (by first | rfl | (simp [entryFrame, mkF, argsToLocals, Value.category, maxLocals]; done)) ?_
  have hl := A.len
  refine GoKit.iloadN G d12_0 rfl (pc' := 1) rfl ?_
  refine GoKit.newbI G d12_1 (wi hw 8 rfl) (toI_nn hl) (k := cs.length) (cap := 8) (toI_clamp hl) hcap (by decide) (by decide) (by decide) (cells' := 1) (slots' := 8) rfl rfl (pc' := 3) rfl (fun h4 a1 ga1 E2 A3 => ?_)
  refine GoKit.astoreN G d12_3 rfl (Ls' := #[.val (.ref b), .val (.int 0), .val (.int cs.length.toInt32), .val (.ref a1), .unset, .unset]) rfl (pc' := 4) rfl ?_
  refine GoKit.aloadN G d12_4 rfl rfl (pc' := 5) rfl ?_
  refine GoKit.iloadN G d12_5 rfl (pc' := 6) rfl ?_
  refine GoKit.aloadN G d12_6 rfl rfl (pc' := 7) rfl ?_
  refine GoKit.iconst G (0 : Int32) d12_7 rfl (pc' := 8) rfl ?_
  refine GoKit.iloadN G d12_8 rfl (pc' := 9) rfl ?_
  refine GoKit.callStatic G d12_9 (wi hw 63 rfl) (wi hw 64 rfl) (wi hw 61 rfl) (wi hw 65 rfl) (by decide) (owc := [a1]) (W := 0) (argsL := [(.ref b), (.int 0), (.ref a1), (.int (0 : Int32)), (.int cs.length.toInt32)]) (rest := []) (con_compress5 l hw (A.ext E2) A3 hlat) rfl (lenOf pd_0 rfl) rfl (by decide) (Nat.le_of_eq rfl) (by decide) (by decide) (by decide) (by intro x hx; simp only [List.mem_cons, List.not_mem_nil, or_false] at hx ⊢; simp [hx]) (cells' := 1) (slots' := 8) rfl rfl (pc' := 12) rfl (fun r5 h8 q6 K7 => ?_)
  obtain ⟨rfl, A9⟩ := q6
  show Run _ _ _ _ _ _ _ _ _ _ _ _ _ _ _ _ _ _ _ _ (mkF m 12 #[.val (.ref b), .val (.int 0), .val (.int cs.length.toInt32), .val (.ref a1), .unset, .unset] [(.int cs.length.toInt32)])
  refine GoKit.istore G d12_12 (Ls' := #[.val (.ref b), .val (.int 0), .val (.int cs.length.toInt32), .val (.ref a1), .val (.int cs.length.toInt32), .unset]) rfl (pc' := 14) rfl ?_
  refine GoKit.iload G d12_14 rfl (pc' := 16) rfl ?_
  refine GoKit.iloadN G d12_16 rfl (pc' := 17) rfl ?_
  refine GoKit.icmp_eq_t G d12_17 rfl (by decide) (pc' := 57) rfl ?_
  refine GoKit.aloadN G d12_57 rfl rfl (pc' := 58) rfl ?_
  refine GoKit.retRef G d12_58 rfl rfl rfl (by decide) (by decide) ?_
  exact ⟨_, rfl, A9⟩
theorem d10_0 : decode jdk_42_method_149_code 0 = .ok (.aload_n 0, 1) := by decide +kernel
theorem d10_1 : decode jdk_42_method_149_code 1 = .ok (.invokespecial 1, 3) := by decide +kernel
theorem d10_4 : decode jdk_42_method_149_code 4 = .ok (.iload_n 3, 1) := by decide +kernel
theorem d10_5 : decode jdk_42_method_149_code 5 = .ok (.ifCond .ne 22, 3) := by decide +kernel
theorem d10_27 : decode jdk_42_method_149_code 27 = .ok (.getstatic 38, 3) := by decide +kernel
theorem d10_30 : decode jdk_42_method_149_code 30 = .ok (.ifCond .eq 28, 3) := by decide +kernel
theorem d10_33 : decode jdk_42_method_149_code 33 = .ok (.aload_n 1, 1) := by decide +kernel
theorem d10_34 : decode jdk_42_method_149_code 34 = .ok (.iload_n 2, 1) := by decide +kernel
theorem d10_35 : decode jdk_42_method_149_code 35 = .ok (.iload_n 3, 1) := by decide +kernel
theorem d10_36 : decode jdk_42_method_149_code 36 = .ok (.invokestatic 177, 3) := by decide +kernel
theorem pd_1 : parseMethodDescriptor "([CII)[B" = some ⟨[(.array .char), .int, .int], some (.array .byte)⟩ := by decide +kernel
theorem d10_39 : decode jdk_42_method_149_code 39 = .ok (.astore 5, 2) := by decide +kernel
theorem d10_41 : decode jdk_42_method_149_code 41 = .ok (.aload_n 0, 1) := by decide +kernel
theorem d10_42 : decode jdk_42_method_149_code 42 = .ok (.aload 5, 2) := by decide +kernel
theorem d10_44 : decode jdk_42_method_149_code 44 = .ok (.iload_n 3, 1) := by decide +kernel
theorem d10_45 : decode jdk_42_method_149_code 45 = .ok (.invokestatic 47, 3) := by decide +kernel
theorem pd_2 : parseMethodDescriptor "([BI)B" = some ⟨[(.array .byte), .int], some .byte⟩ := by decide +kernel
theorem d10_48 : decode jdk_42_method_149_code 48 = .ok (.putfield 15, 3) := by decide +kernel
theorem d10_51 : decode jdk_42_method_149_code 51 = .ok (.aload_n 0, 1) := by decide +kernel
theorem d10_52 : decode jdk_42_method_149_code 52 = .ok (.aload 5, 2) := by decide +kernel
theorem d10_54 : decode jdk_42_method_149_code 54 = .ok (.putfield 9, 3) := by decide +kernel
theorem d10_57 : decode jdk_42_method_149_code 57 = .ok (.return_, 1) := by decide +kernel
theorem pn_java_lang_String : plainName "java/lang/String" = true := by first | (simp [plainName, overriddenIn]; done) | decide +kernel
abbrev rm_con_strInit4 : Room := { frames := 2, cells := 1, slots := 8, locals := 35 }
set_option maxRecDepth 65536 in
set_option maxHeartbeats 40000000 in
theorem con_strInit4 (l : Launch) {Z : State} {a0 : Array Value} (hw : ∀ d ∈ tables_1, d.before a0 Z = true) {n0 : Nat} {h0 : Heap} {a b : Addr} {cs : List Int32} (E : Exa Z h0 a "java/lang/String") (FV : Fld Z h0 a "java/lang/String" "value" "[B" .null) (FC : Fld Z h0 a "java/lang/String" "coder" "B" (.int 0)) (A : IA Z h0 b .char cs) (hcap : cs.length ≤ 8) (hlat : ∀ c ∈ cs, 0 ≤ c.toInt ∧ c.toInt < 256) (hne : cs ≠ []) (HC : Cst Z) :
    Con l Z true ELs n0 (⟨"java/lang/String", "<init>", "([CIILjava/lang/Void;)V"⟩ : MethodName) jdk_42_method_149_code 6 none rm_con_strInit4 [] #[(.ref a), (.ref b), (.int 0), (.int cs.length.toInt32), .null] h0 [a] (fun v h => v = none ∧ Lat Z h a cs) := by
  refine Con.intro (plainFor_of_name pn_java_lang_String) (hELs hw) ?_
  intro p e s m below meth c hh G
  refine castRun (g' := mkF m 0 #[.val (.ref a), .val (.ref b), .val (.int 0), .val (.int cs.length.toInt32), .val .null, .unset] []) (by first | rfl | (simp [entryFrame, mkF, argsToLocals, Value.category, maxLocals]; done)) ?_
  obtain ⟨cz, SC, hcz⟩ := HC
  have hl := A.len
  have hz : ¬ cs.length.toInt32 = 0 := fun q => hne (List.length_eq_zero_iff.mp ((toI_eq (k := 0) hl (by decide)).mp q))
  refine GoKit.aloadN G d10_0 rfl rfl (pc' := 1) rfl ?_
  refine GoKit.initObj G d10_1 (wi hw 56 rfl) (wi hw 57 rfl) (wi hw 58 rfl) rfl (by decide) (W := 0) (Nat.le_of_eq rfl) (by decide) (pc' := 4) rfl ?_
  refine GoKit.iloadN G d10_4 rfl (pc' := 5) rfl ?_
  refine GoKit.if_ne_t G d10_5 hz (by decide) (pc' := 27) rfl ?_
  refine GoKit.gets G d10_27 (wi hw 24 rfl) Via.refl SC (pc' := 30) rfl ?_
  refine GoKit.if_eq_f G d10_30 hcz (pc' := 33) rfl ?_
  refine GoKit.aloadN G d10_33 rfl rfl (pc' := 34) rfl ?_
  refine GoKit.iloadN G d10_34 rfl (pc' := 35) rfl ?_
  refine GoKit.iloadN G d10_35 rfl (pc' := 36) rfl ?_
  refine GoKit.callStatic G d10_36 (wi hw 59 rfl) (wi hw 60 rfl) (wi hw 61 rfl) (wi hw 62 rfl) (by decide) (owc := []) (W := 0) (argsL := [(.ref b), (.int 0), (.int cs.length.toInt32)]) (rest := []) (con_compress3 l hw A hcap hlat) rfl (lenOf pd_1 rfl) rfl (by decide) (Nat.le_of_eq rfl) (by decide) (by decide) (by decide) (fun _ q => nomatch q) (cells' := 1) (slots' := 8) rfl rfl (pc' := 39) rfl (fun r1 h4 q2 K3 => ?_)
  obtain ⟨d5, rfl, A6⟩ := q2
  have ne7 := IA.ne A6 (E.keep K3) (wi hw 7 rfl)
  show Run _ _ _ _ _ _ _ _ _ _ _ _ _ _ _ _ _ _ _ _ (mkF m 39 #[.val (.ref a), .val (.ref b), .val (.int 0), .val (.int cs.length.toInt32), .val .null, .unset] [(.ref d5)])
  refine GoKit.astore G d10_39 rfl (Ls' := #[.val (.ref a), .val (.ref b), .val (.int 0), .val (.int cs.length.toInt32), .val .null, .val (.ref d5)]) rfl (pc' := 41) rfl ?_
  refine GoKit.aloadN G d10_41 rfl rfl (pc' := 42) rfl ?_
  refine GoKit.aload G d10_42 rfl rfl (pc' := 44) rfl ?_
  refine GoKit.iloadN G d10_44 rfl (pc' := 45) rfl ?_
  refine GoKit.callStaticP G d10_45 (wi hw 66 rfl) (wi hw 67 rfl) (wi hw 61 rfl) (wi hw 68 rfl) (by decide) (W := 1) (argsL := [(.ref d5), (.int cs.length.toInt32)]) (rest := [(.ref a)]) ((by simpa using con_coderLen l hw A6)) rfl (lenOf pd_2 rfl) rfl (by decide) (Nat.le_of_eq rfl) (by decide) (by decide) (by decide) (cells' := 1) (slots' := 8) rfl rfl (pc' := 48) rfl ?_
  show Run _ _ _ _ _ _ _ _ _ _ _ _ _ _ _ _ _ _ _ _ (mkF m 48 #[.val (.ref a), .val (.ref b), .val (.int 0), .val (.int cs.length.toInt32), .val .null, .val (.ref d5)] [(.int 0), (.ref a)])
  refine GoKit.putf G d10_48 (wi hw 25 rfl) Via.refl (FC.keep K3 nin0) (E.keep K3) (Or.inr ⟨(wi hw 10 rfl), rfl, rfl⟩) (wi hw 7 rfl) (ty := .byte) (by decide) rfl rfl (List.Mem.head _) (pc' := 51) rfl (fun h9 W8 => ?_)
  have F10 := ((FC.keep K3 nin0)).same W8
  refine GoKit.aloadN G d10_51 rfl rfl (pc' := 52) rfl ?_
  refine GoKit.aload G d10_52 rfl rfl (pc' := 54) rfl ?_
  refine GoKit.putf G d10_54 (wi hw 18 rfl) Via.refl ((FV.keep K3 nin0).other W8 (Or.inr (slot_ne (Or.inr (wi hw 9 rfl)) (Or.inr (wi hw 10 rfl)) (by decide) (by decide : _ = some (.array .byte)) (by decide : _ = some .byte)))) ((E.keep K3).wr W8) (Or.inr ⟨(wi hw 9 rfl), rfl, rfl⟩) (wi hw 7 rfl) (ty := (.array .byte)) (by decide) rfl rfl (List.Mem.head _) (pc' := 57) rfl (fun h12 W11 => ?_)
  have F13 := (((FV.keep K3 nin0).other W8 (Or.inr (slot_ne (Or.inr (wi hw 9 rfl)) (Or.inr (wi hw 10 rfl)) (by decide) (by decide : _ = some (.array .byte)) (by decide : _ = some .byte))))).same W11
  refine GoKit.retVoid G d10_57 rfl (by decide) (by decide) ?_
  exact ⟨rfl, (((E.keep K3).wr W8).wr W11), ⟨d5, F13, (F10.other W11 (Or.inr (slot_ne (Or.inr (wi hw 10 rfl)) (Or.inr (wi hw 9 rfl)) (by decide) (by decide : _ = some .byte) (by decide : _ = some (.array .byte))))), ((A6.other W8 ne7).other W11 ne7)⟩, hlat⟩
theorem d9_0 : decode jdk_42_method_3_code 0 = .ok (.aload_n 0, 1) := by decide +kernel
theorem d9_1 : decode jdk_42_method_3_code 1 = .ok (.aload_n 1, 1) := by decide +kernel
theorem d9_2 : decode jdk_42_method_3_code 2 = .ok (.iconst 0, 1) := by decide +kernel
theorem d9_3 : decode jdk_42_method_3_code 3 = .ok (.aload_n 1, 1) := by decide +kernel
theorem d9_4 : decode jdk_42_method_3_code 4 = .ok (.arraylength, 1) := by decide +kernel
theorem d9_5 : decode jdk_42_method_3_code 5 = .ok (.aconst_null, 1) := by decide +kernel
theorem d9_6 : decode jdk_42_method_3_code 6 = .ok (.invokespecial 27, 3) := by decide +kernel
theorem pd_3 : parseMethodDescriptor "([CIILjava/lang/Void;)V" = some ⟨[(.array .char), .int, .int, (.object "java/lang/Void")], none⟩ := by decide +kernel
theorem d9_9 : decode jdk_42_method_3_code 9 = .ok (.return_, 1) := by decide +kernel
abbrev rm_con_strInit : Room := { frames := 3, cells := 1, slots := 8, locals := 52 }
set_option maxRecDepth 65536 in
set_option maxHeartbeats 40000000 in
theorem con_strInit (l : Launch) {Z : State} {a0 : Array Value} (hw : ∀ d ∈ tables_1, d.before a0 Z = true) {n0 : Nat} {h0 : Heap} {a b : Addr} {cs : List Int32} (E : Exa Z h0 a "java/lang/String") (FV : Fld Z h0 a "java/lang/String" "value" "[B" .null) (FC : Fld Z h0 a "java/lang/String" "coder" "B" (.int 0)) (A : IA Z h0 b .char cs) (hcap : cs.length ≤ 8) (hlat : ∀ c ∈ cs, 0 ≤ c.toInt ∧ c.toInt < 256) (hne : cs ≠ []) (HC : Cst Z) :
    Con l Z true ELs n0 (⟨"java/lang/String", "<init>", "([C)V"⟩ : MethodName) jdk_42_method_3_code 2 none rm_con_strInit [] #[(.ref a), (.ref b)] h0 [a] (fun v h => v = none ∧ Lat Z h a cs) := by
  refine Con.intro (plainFor_of_name pn_java_lang_String) (hELs hw) ?_
  intro p e s m below meth c hh G
  refine castRun (g' := mkF m 0 #[.val (.ref a), .val (.ref b)] []) (by first | rfl | (simp [entryFrame, mkF, argsToLocals, Value.category, maxLocals]; done)) ?_
  refine GoKit.aloadN G d9_0 rfl rfl (pc' := 1) rfl ?_
  refine GoKit.aloadN G d9_1 rfl rfl (pc' := 2) rfl ?_
  refine GoKit.iconst G (0 : Int32) d9_2 rfl (pc' := 3) rfl ?_
  refine GoKit.aloadN G d9_3 rfl rfl (pc' := 4) rfl ?_
  refine GoKit.arrlenI G d9_4 A (z := cs.length.toInt32) rfl (pc' := 5) rfl ?_
  refine GoKit.aconstNull G d9_5 (pc' := 6) rfl ?_
  refine GoKit.callSpecial G d9_6 rfl (wi hw 52 rfl) (wi hw 53 rfl) (wi hw 6 rfl) (wi hw 55 rfl) (by decide) (owc := [a]) (W := 0) (argsL := [(.ref b), (.int (0 : Int32)), (.int cs.length.toInt32), .null]) (rest := []) (con_strInit4 l hw E FV FC A hcap hlat hne HC) rfl (lenOf pd_3 rfl) rfl (by decide) (Nat.le_of_eq rfl) (by decide) (by decide) (by decide) (by intro x hx; simp only [List.mem_cons, List.not_mem_nil, or_false] at hx ⊢; simp [hx]) (cells' := 1) (slots' := 8) rfl rfl (pc' := 9) rfl (fun r1 h4 q2 K3 => ?_)
  obtain ⟨rfl, S5⟩ := q2
  show Run _ _ _ _ _ _ _ _ _ _ _ _ _ _ _ _ _ _ _ _ (mkF m 9 #[.val (.ref a), .val (.ref b)] [])
  refine GoKit.retVoid G d9_9 rfl (by decide) (by decide) ?_
  exact ⟨rfl, S5⟩
theorem d10_8 : decode jdk_42_method_149_code 8 = .ok (.aload_n 0, 1) := by decide +kernel
theorem d10_9 : decode jdk_42_method_149_code 9 = .ok (.ldc 7, 2) := by decide +kernel
theorem d10_11 : decode jdk_42_method_149_code 11 = .ok (.getfield 9, 3) := by decide +kernel
theorem d10_14 : decode jdk_42_method_149_code 14 = .ok (.putfield 9, 3) := by decide +kernel
theorem d10_17 : decode jdk_42_method_149_code 17 = .ok (.aload_n 0, 1) := by decide +kernel
theorem d10_18 : decode jdk_42_method_149_code 18 = .ok (.ldc 7, 2) := by decide +kernel
theorem d10_20 : decode jdk_42_method_149_code 20 = .ok (.getfield 15, 3) := by decide +kernel
theorem d10_23 : decode jdk_42_method_149_code 23 = .ok (.putfield 15, 3) := by decide +kernel
theorem d10_26 : decode jdk_42_method_149_code 26 = .ok (.return_, 1) := by decide +kernel
abbrev rm_con_strInitE4 : Room := { frames := 1, cells := 4, slots := 8, locals := 12 }
set_option maxRecDepth 65536 in
set_option maxHeartbeats 40000000 in
theorem con_strInitE4 (l : Launch) {Z : State} {a0 : Array Value} (hw : ∀ d ∈ tables_1, d.before a0 Z = true) {n0 : Nat} {h0 : Heap} {a b : Addr} (E : Exa Z h0 a "java/lang/String") (FV : Fld Z h0 a "java/lang/String" "value" "[B" .null) (FC : Fld Z h0 a "java/lang/String" "coder" "B" (.int 0)) (A : IA Z h0 b .char []) :
    Con l Z true ELs n0 (⟨"java/lang/String", "<init>", "([CIILjava/lang/Void;)V"⟩ : MethodName) jdk_42_method_149_code 6 none rm_con_strInitE4 [] #[(.ref a), (.ref b), (.int 0), (.int 0), .null] h0 [a] (fun v h => v = none ∧ Lat Z h a []) := by
  refine Con.intro (plainFor_of_name pn_java_lang_String) (hELs hw) ?_
  intro p e s m below meth c hh G
  refine castRun (g' := mkF m 0 #[.val (.ref a), .val (.ref b), .val (.int 0), .val (.int 0), .val .null, .unset] []) (by first | rfl | (simp [entryFrame, mkF, argsToLocals, Value.category, maxLocals]; done)) ?_
  refine GoKit.aloadN G d10_0 rfl rfl (pc' := 1) rfl ?_
  refine GoKit.initObj G d10_1 (wi hw 56 rfl) (wi hw 57 rfl) (wi hw 58 rfl) rfl (by decide) (W := 0) (Nat.le_of_eq rfl) (by decide) (pc' := 4) rfl ?_
  refine GoKit.iloadN G d10_4 rfl (pc' := 5) rfl ?_
  refine GoKit.if_ne_f G d10_5 rfl (pc' := 8) rfl ?_
  refine GoKit.aloadN G d10_8 rfl rfl (pc' := 9) rfl ?_
  refine GoKit.ldcStr G d10_9 rfl (wi hw 120 rfl) (wS hw) (by decide) (vs := []) (z := (0 : Int32)) ⟨by decide +kernel, by decide +kernel⟩ (by decide) rfl (n := 0) (by decide +kernel) (by decide) (by decide) (by decide) (cells' := 2) (slots' := 4) rfl rfl (pc' := 11) rfl (fun a1 b2 k3 h10 E4 X5 FC6 FV7 A8 N9 => ?_)
  have S11 : Lat Z h10 a1 [] := latLit X5 FC6 FV7 A8 rfl (by decide +kernel) (by decide +kernel)
  have A12 : IA Z h10 b2 .byte (([] : List Int32).map fun c => c.toInt8.toInt32) := iaLit A8 rfl (by decide +kernel)
  refine GoKit.getf G d10_11 (wi hw 18 rfl) Via.refl FV7 (pc' := 14) rfl ?_
  refine GoKit.putf G d10_14 (wi hw 18 rfl) Via.refl (FV.ext E4) (E.ext E4) (Or.inr ⟨(wi hw 9 rfl), rfl, rfl⟩) (wi hw 7 rfl) (ty := (.array .byte)) (by decide) rfl rfl (List.Mem.head _) (pc' := 17) rfl (fun h14 W13 => ?_)
  have F15 := ((FV.ext E4)).same W13
  refine GoKit.aloadN G d10_17 rfl rfl (pc' := 18) rfl ?_
  refine GoKit.ldcStr G d10_18 rfl (wi hw 120 rfl) (wS hw) (by decide) (vs := []) (z := (0 : Int32)) ⟨by decide +kernel, by decide +kernel⟩ (by decide) rfl (n := 0) (by decide +kernel) (by decide) (by decide) (by decide) (cells' := 4) (slots' := 8) rfl rfl (pc' := 20) rfl (fun a16 b17 k18 h25 E19 X20 FC21 FV22 A23 N24 => ?_)
  have S26 : Lat Z h25 a16 [] := latLit X20 FC21 FV22 A23 rfl (by decide +kernel) (by decide +kernel)
  have A27 : IA Z h25 b17 .byte (([] : List Int32).map fun c => c.toInt8.toInt32) := iaLit A23 rfl (by decide +kernel)
  refine GoKit.getf G d10_20 (wi hw 25 rfl) Via.refl FC21 (pc' := 23) rfl ?_
  refine GoKit.putf G d10_23 (wi hw 25 rfl) Via.refl (((FC.ext E4).other W13 (Or.inr (slot_ne (Or.inr (wi hw 10 rfl)) (Or.inr (wi hw 9 rfl)) (by decide) (by decide : _ = some .byte) (by decide : _ = some (.array .byte))))).ext E19) (((E.ext E4).wr W13).ext E19) (Or.inr ⟨(wi hw 10 rfl), rfl, rfl⟩) (wi hw 7 rfl) (ty := .byte) (by decide) rfl rfl (List.Mem.head _) (pc' := 26) rfl (fun h29 W28 => ?_)
  have F30 := ((((FC.ext E4).other W13 (Or.inr (slot_ne (Or.inr (wi hw 10 rfl)) (Or.inr (wi hw 9 rfl)) (by decide) (by decide : _ = some .byte) (by decide : _ = some (.array .byte))))).ext E19)).same W28
  refine GoKit.retVoid G d10_26 rfl (by decide) (by decide) ?_
  exact ⟨rfl, ((((E.ext E4).wr W13).ext E19).wr W28), ⟨b2, ((F15.ext E19).other W28 (Or.inr (slot_ne (Or.inr (wi hw 9 rfl)) (Or.inr (wi hw 10 rfl)) (by decide) (by decide : _ = some (.array .byte)) (by decide : _ = some .byte)))), F30, (((A12.other W13 (Ne.symm (N9 _ (List.Mem.head _)).2)).ext E19).other W28 (Ne.symm (N9 _ (List.Mem.head _)).2))⟩, fun _ q => nomatch q⟩
abbrev rm_con_strInitE : Room := { frames := 2, cells := 4, slots := 8, locals := 29 }
set_option maxRecDepth 65536 in
set_option maxHeartbeats 40000000 in
theorem con_strInitE (l : Launch) {Z : State} {a0 : Array Value} (hw : ∀ d ∈ tables_1, d.before a0 Z = true) {n0 : Nat} {h0 : Heap} {a b : Addr} (E : Exa Z h0 a "java/lang/String") (FV : Fld Z h0 a "java/lang/String" "value" "[B" .null) (FC : Fld Z h0 a "java/lang/String" "coder" "B" (.int 0)) (A : IA Z h0 b .char []) :
    Con l Z true ELs n0 (⟨"java/lang/String", "<init>", "([C)V"⟩ : MethodName) jdk_42_method_3_code 2 none rm_con_strInitE [] #[(.ref a), (.ref b)] h0 [a] (fun v h => v = none ∧ Lat Z h a []) := by
  refine Con.intro (plainFor_of_name pn_java_lang_String) (hELs hw) ?_
  intro p e s m below meth c hh G
  refine castRun (g' := mkF m 0 #[.val (.ref a), .val (.ref b)] []) (by first | rfl | (simp [entryFrame, mkF, argsToLocals, Value.category, maxLocals]; done)) ?_
  refine GoKit.aloadN G d9_0 rfl rfl (pc' := 1) rfl ?_
  refine GoKit.aloadN G d9_1 rfl rfl (pc' := 2) rfl ?_
  refine GoKit.iconst G (0 : Int32) d9_2 rfl (pc' := 3) rfl ?_
  refine GoKit.aloadN G d9_3 rfl rfl (pc' := 4) rfl ?_
  refine GoKit.arrlenI G d9_4 A (z := (0 : Int32)) rfl (pc' := 5) rfl ?_
  refine GoKit.aconstNull G d9_5 (pc' := 6) rfl ?_
  refine GoKit.callSpecial G d9_6 rfl (wi hw 52 rfl) (wi hw 53 rfl) (wi hw 6 rfl) (wi hw 55 rfl) (by decide) (owc := [a]) (W := 0) (argsL := [(.ref b), (.int (0 : Int32)), (.int (0 : Int32)), .null]) (rest := []) (con_strInitE4 l hw E FV FC A) rfl (lenOf pd_3 rfl) rfl (by decide) (Nat.le_of_eq rfl) (by decide) (by decide) (by decide) (by intro x hx; simp only [List.mem_cons, List.not_mem_nil, or_false] at hx ⊢; simp [hx]) (cells' := 4) (slots' := 8) rfl rfl (pc' := 9) rfl (fun r1 h4 q2 K3 => ?_)
  obtain ⟨rfl, S5⟩ := q2
  show Run _ _ _ _ _ _ _ _ _ _ _ _ _ _ _ _ _ _ _ _ (mkF m 9 #[.val (.ref a), .val (.ref b)] [])
  refine GoKit.retVoid G d9_9 rfl (by decide) (by decide) ?_
  exact ⟨rfl, S5⟩
theorem fld_uniq {Z : State} {h : Heap} {a : Addr} {C n d : String} {v w : Value} (F : Fld Z h a C n d v) (G : Fld Z h a C n d w) : v = w := by
  obtain ⟨c1, _, _, _, _, h1, h2, -, -, -, -, h7⟩ := F
  obtain ⟨c2, _, _, _, _, g1, g2, -, -, -, -, g7⟩ := G
  cases h1.symm.trans g1; cases h2.symm.trans g2; exact Option.some.inj (h7.symm.trans g7)
theorem map_int_inj : ∀ {xs ys : List Int32}, xs.map Value.int = ys.map Value.int → xs = ys
  | [], [], _ => rfl
  | [], _ :: _, q => by cases q
  | _ :: _, [], q => by cases q
  | x :: xs, z :: ys, q => by
    simp only [List.map_cons, List.cons.injEq, Value.int.injEq] at q
    rw [q.1, map_int_inj q.2]
theorem ia_uniq {Z : State} {h : Heap} {b : Addr} {t u : FieldType} {xs ys : List Int32} (A : IA Z h b t xs) (B : IA Z h b u ys) : xs = ys := by
  obtain ⟨c1, A, e1, -⟩ := A
  obtain ⟨c2, B, e2, -⟩ := B
  cases A.1.symm.trans B.1
  have := e1.symm.trans e2
  exact map_int_inj (by simpa using this)
theorem lo8_mask0 (c : Int32) (h : 0 ≤ c.toInt ∧ c.toInt < 256) : c.toInt8.toInt32 &&& 255 = c := by
  obtain ⟨n, hn, rfl⟩ : ∃ n : Nat, n < 256 ∧ c = Int32.ofNat n := by
    refine ⟨c.toInt.toNat, by omega, ?_⟩
    apply Int32.toInt_inj.mp
    rw [show Int32.ofNat c.toInt.toNat = c.toInt.toNat.toInt32 from rfl, toI_toInt (by omega)]; omega
  revert n; decide +kernel
theorem lo8_inj : ∀ {cs ds : List Int32}, (∀ c ∈ cs, 0 ≤ c.toInt ∧ c.toInt < 256) → (∀ c ∈ ds, 0 ≤ c.toInt ∧ c.toInt < 256) → (cs.map fun c => c.toInt8.toInt32) = (ds.map fun c => c.toInt8.toInt32) → cs = ds
  | [], [], _, _, _ => rfl
  | [], _ :: _, _, _, q => by cases q
  | _ :: _, [], _, _, q => by cases q
  | c :: cs, d :: ds, h1, h2, q => by
    simp only [List.map_cons, List.cons.injEq] at q
    have e : c = d := by
      rw [← lo8_mask0 c (h1 c (List.Mem.head _)), ← lo8_mask0 d (h2 d (List.Mem.head _)), q.1]
    rw [e, lo8_inj (fun x hx => h1 x (List.Mem.tail _ hx)) (fun x hx => h2 x (List.Mem.tail _ hx)) q.2]
theorem lat_uniq {Z : State} {h : Heap} {a : Addr} {cs ds : List Int32} (S : Lat Z h a cs) (T : Lat Z h a ds) : cs = ds := by
  obtain ⟨-, ⟨b, V, -, A⟩, l1⟩ := S
  obtain ⟨-, ⟨d, U, -, B⟩, l2⟩ := T
  cases fld_uniq V U
  exact lo8_inj l1 l2 (ia_uniq A B)
theorem take_step {xs ys : List Int32} {i : Nat} {v : Int32} (h : xs.take i = ys.take i) (h1 : xs[i]? = some v) (h2 : ys[i]? = some v) : xs.take (i + 1) = ys.take (i + 1) := by
  rw [List.take_add_one, List.take_add_one, h, h1, h2]
theorem d18_9 : decode jdk_43_method_13_code 9 = .ok (.iload_n 2, 1) := by decide +kernel
theorem d18_10 : decode jdk_43_method_13_code 10 = .ok (.aload_n 0, 1) := by decide +kernel
theorem d18_11 : decode jdk_43_method_13_code 11 = .ok (.arraylength, 1) := by decide +kernel
theorem d18_12 : decode jdk_43_method_13_code 12 = .ok (.if_icmp .ge 20, 3) := by decide +kernel
theorem d18_32 : decode jdk_43_method_13_code 32 = .ok (.iconst 1, 1) := by decide +kernel
theorem d18_33 : decode jdk_43_method_13_code 33 = .ok (.ireturn, 1) := by decide +kernel
theorem d18_15 : decode jdk_43_method_13_code 15 = .ok (.aload_n 0, 1) := by decide +kernel
theorem d18_16 : decode jdk_43_method_13_code 16 = .ok (.iload_n 2, 1) := by decide +kernel
theorem d18_17 : decode jdk_43_method_13_code 17 = .ok (.baload, 1) := by decide +kernel
theorem d18_18 : decode jdk_43_method_13_code 18 = .ok (.aload_n 1, 1) := by decide +kernel
theorem d18_19 : decode jdk_43_method_13_code 19 = .ok (.iload_n 2, 1) := by decide +kernel
theorem d18_20 : decode jdk_43_method_13_code 20 = .ok (.baload, 1) := by decide +kernel
theorem d18_21 : decode jdk_43_method_13_code 21 = .ok (.if_icmp .eq 5, 3) := by decide +kernel
theorem d18_26 : decode jdk_43_method_13_code 26 = .ok (.iinc 2 1, 3) := by decide +kernel
theorem d18_29 : decode jdk_43_method_13_code 29 = .ok (.goto (-20), 3) := by decide +kernel
theorem d18_24 : decode jdk_43_method_13_code 24 = .ok (.iconst 0, 1) := by decide +kernel
theorem d18_25 : decode jdk_43_method_13_code 25 = .ok (.ireturn, 1) := by decide +kernel
theorem d18_0 : decode jdk_43_method_13_code 0 = .ok (.aload_n 0, 1) := by decide +kernel
theorem d18_1 : decode jdk_43_method_13_code 1 = .ok (.arraylength, 1) := by decide +kernel
theorem d18_2 : decode jdk_43_method_13_code 2 = .ok (.aload_n 1, 1) := by decide +kernel
theorem d18_3 : decode jdk_43_method_13_code 3 = .ok (.arraylength, 1) := by decide +kernel
theorem d18_4 : decode jdk_43_method_13_code 4 = .ok (.if_icmp .ne 30, 3) := by decide +kernel
theorem d18_34 : decode jdk_43_method_13_code 34 = .ok (.iconst 0, 1) := by decide +kernel
theorem d18_35 : decode jdk_43_method_13_code 35 = .ok (.ireturn, 1) := by decide +kernel
theorem d18_7 : decode jdk_43_method_13_code 7 = .ok (.iconst 0, 1) := by decide +kernel
theorem d18_8 : decode jdk_43_method_13_code 8 = .ok (.istore_n 2, 1) := by decide +kernel
theorem pn_java_lang_StringLatin1 : plainName "java/lang/StringLatin1" = true := by first | (simp [plainName, overriddenIn]; done) | decide +kernel
abbrev rm_con_latEq : Room := { frames := 0, cells := 0, slots := 0, locals := 0 }
set_option maxRecDepth 65536 in
set_option maxHeartbeats 40000000 in
theorem con_latEq (l : Launch) {Z : State} {a0 : Array Value} (hw : ∀ d ∈ tables_1, d.before a0 Z = true) {n0 : Nat} {h0 : Heap} {b d : Addr} {xs ys : List Int32} (A : IA Z h0 b .byte xs) (B : IA Z h0 d .byte ys) :
    Con l Z true ELs n0 (⟨"java/lang/StringLatin1", "equals", "([B[B)Z"⟩ : MethodName) jdk_43_method_13_code 3 (some .boolean) rm_con_latEq [] #[(.ref b), (.ref d)] h0 [] (fun v h => v = some (.int (if xs = ys then 1 else 0)) ∧ h = h0) := by
  refine Con.intro (plainFor_of_name pn_java_lang_StringLatin1) (hELs hw) ?_
  intro p e s m below meth c hh G
  refine castRun (g' := mkF m 0 #[.val (.ref b), .val (.ref d), .unset] []) (by first | rfl | (simp [entryFrame, mkF, argsToLocals, Value.category, maxLocals]; done)) ?_
  have hl := A.len
  have hl2 := B.len
  have loop : xs.length = ys.length → ∀ (k i : Nat), i + k = xs.length → xs.take i = ys.take i →
      Run p l e rm_con_latEq s m #[.ref b, .ref d] below meth c Z true ELs n0 [] (fun v h => v = some (.int (if xs = ys then 1 else 0)) ∧ h = h0) h0 [] 0 0 (mkF m 9 #[.val (.ref b), .val (.ref d), .val (.int i.toInt32)] []) := by
    intro hxy k; induction k with
    | zero =>
      intro i hik htk
      have hi : i = xs.length := by omega
      subst hi
      refine GoKit.iloadN G d18_9 rfl (pc' := 10) rfl ?_
      refine GoKit.aloadN G d18_10 rfl rfl (pc' := 11) rfl ?_
      refine GoKit.arrlenI G d18_11 A (z := xs.length.toInt32) rfl (pc' := 12) rfl ?_
      refine GoKit.icmp_ge_t G d18_12 Int32.lt_irrefl (by decide) (pc' := 32) rfl ?_
      refine GoKit.iconst G (1 : Int32) d18_32 rfl (pc' := 33) rfl ?_
      refine GoKit.retNar G d18_33 (t := .boolean) rfl (by simp) (by decide) (by decide) ?_
      exact ⟨by rw [if_pos (by rw [List.take_length] at htk; rw [htk, hxy, List.take_length])]; rfl, rfl⟩
    | succ k ih =>
      intro i hik htk
      have hi : i < xs.length := by omega
      obtain ⟨u, hu⟩ : ∃ u, xs[i]? = some u := ⟨xs[i], List.getElem?_eq_getElem hi⟩
      obtain ⟨t, ht⟩ : ∃ t, ys[i]? = some t := ⟨ys[i], List.getElem?_eq_getElem (by omega)⟩
      refine GoKit.iloadN G d18_9 rfl (pc' := 10) rfl ?_
      refine GoKit.aloadN G d18_10 rfl rfl (pc' := 11) rfl ?_
      refine GoKit.arrlenI G d18_11 A (z := xs.length.toInt32) rfl (pc' := 12) rfl ?_
      refine GoKit.icmp_ge_f G d18_12 ((toI_lt (by omega) (by omega)).mpr hi) (pc' := 15) rfl ?_
      refine GoKit.aloadN G d18_15 rfl rfl (pc' := 16) rfl ?_
      refine GoKit.iloadN G d18_16 rfl (pc' := 17) rfl ?_
      refine GoKit.baloadI G d18_17 A (i := i) (toI_clamp (by omega)) (toI_nn (by omega)) (x := u) hu (pc' := 18) rfl ?_
      refine GoKit.aloadN G d18_18 rfl rfl (pc' := 19) rfl ?_
      refine GoKit.iloadN G d18_19 rfl (pc' := 20) rfl ?_
      refine GoKit.baloadI G d18_20 B (i := i) (toI_clamp (by omega)) (toI_nn (by omega)) (x := t) ht (pc' := 21) rfl ?_
      refine GoKit.icmp_eq G d18_21 (by decide) (pt := 26) (pf := 24) rfl rfl (fun hb1 => ?_) (fun hb1 => ?_)
      · refine GoKit.iinc G (1 : Int32) d18_26 rfl rfl (Ls' := #[.val (.ref b), .val (.ref d), .val (.int (i.toInt32 + (1 : Int32)))]) rfl (pc' := 29) rfl ?_
        generalize hqv2 : (i.toInt32 + (1 : Int32)) = v2
        refine GoKit.goto G d18_29 (by decide) (pc' := 9) rfl ?_
        rw [toI_succ] at hqv2; subst hqv2
        exact ih (i + 1) (by omega) (take_step htk hu (by rw [ht, hb1]))
      · refine GoKit.iconst G (0 : Int32) d18_24 rfl (pc' := 25) rfl ?_
        refine GoKit.retNar G d18_25 (t := .boolean) rfl (by simp) (by decide) (by decide) ?_
        exact ⟨by rw [if_neg (fun q => hb1 (by subst q; exact Option.some.inj (hu.symm.trans ht)))]; rfl, rfl⟩
  refine GoKit.aloadN G d18_0 rfl rfl (pc' := 1) rfl ?_
  refine GoKit.arrlenI G d18_1 A (z := xs.length.toInt32) rfl (pc' := 2) rfl ?_
  refine GoKit.aloadN G d18_2 rfl rfl (pc' := 3) rfl ?_
  refine GoKit.arrlenI G d18_3 B (z := ys.length.toInt32) rfl (pc' := 4) rfl ?_
  refine GoKit.icmp_ne G d18_4 (by decide) (pt := 34) (pf := 7) rfl rfl (fun hb3 => ?_) (fun hb3 => ?_)
  · refine GoKit.iconst G (0 : Int32) d18_34 rfl (pc' := 35) rfl ?_
    refine GoKit.retNar G d18_35 (t := .boolean) rfl (by simp) (by decide) (by decide) ?_
    exact ⟨by rw [if_neg (fun q => hb3 (by rw [q]))]; rfl, rfl⟩
  · refine GoKit.iconst G (0 : Int32) d18_7 rfl (pc' := 8) rfl ?_
    refine GoKit.istoreN G d18_8 (Ls' := #[.val (.ref b), .val (.ref d), .val (.int (0 : Int32))]) rfl (pc' := 9) rfl ?_
    exact loop ((toI_eq hl hl2).mp hb3) xs.length 0 (by omega) rfl
theorem d17_0 : decode jdk_42_method_66_code 0 = .ok (.aload_n 0, 1) := by decide +kernel
theorem d17_1 : decode jdk_42_method_66_code 1 = .ok (.aload_n 1, 1) := by decide +kernel
theorem d17_2 : decode jdk_42_method_66_code 2 = .ok (.if_acmp .ne 5, 3) := by decide +kernel
theorem d17_7 : decode jdk_42_method_66_code 7 = .ok (.aload_n 1, 1) := by decide +kernel
theorem d17_8 : decode jdk_42_method_66_code 8 = .ok (.instanceof 10, 3) := by decide +kernel
theorem d17_11 : decode jdk_42_method_66_code 11 = .ok (.ifCond .eq 43, 3) := by decide +kernel
theorem d17_14 : decode jdk_42_method_66_code 14 = .ok (.aload_n 1, 1) := by decide +kernel
theorem d17_15 : decode jdk_42_method_66_code 15 = .ok (.checkcast 10, 3) := by decide +kernel
theorem d17_18 : decode jdk_42_method_66_code 18 = .ok (.astore_n 2, 1) := by decide +kernel
theorem d17_19 : decode jdk_42_method_66_code 19 = .ok (.getstatic 38, 3) := by decide +kernel
theorem d17_22 : decode jdk_42_method_66_code 22 = .ok (.ifCond .eq 14, 3) := by decide +kernel
theorem d17_25 : decode jdk_42_method_66_code 25 = .ok (.aload_n 0, 1) := by decide +kernel
theorem d17_26 : decode jdk_42_method_66_code 26 = .ok (.getfield 15, 3) := by decide +kernel
theorem d17_29 : decode jdk_42_method_66_code 29 = .ok (.aload_n 2, 1) := by decide +kernel
theorem d17_30 : decode jdk_42_method_66_code 30 = .ok (.getfield 15, 3) := by decide +kernel
theorem d17_33 : decode jdk_42_method_66_code 33 = .ok (.if_icmp .ne 21, 3) := by decide +kernel
theorem d17_36 : decode jdk_42_method_66_code 36 = .ok (.aload_n 0, 1) := by decide +kernel
theorem d17_37 : decode jdk_42_method_66_code 37 = .ok (.getfield 9, 3) := by decide +kernel
theorem d17_40 : decode jdk_42_method_66_code 40 = .ok (.aload_n 2, 1) := by decide +kernel
theorem d17_41 : decode jdk_42_method_66_code 41 = .ok (.getfield 9, 3) := by decide +kernel
theorem d17_44 : decode jdk_42_method_66_code 44 = .ok (.invokestatic 541, 3) := by decide +kernel
theorem pd_4 : parseMethodDescriptor "([B[B)Z" = some ⟨[(.array .byte), (.array .byte)], some .boolean⟩ := by decide +kernel
theorem d17_47 : decode jdk_42_method_66_code 47 = .ok (.ifCond .eq 7, 3) := by decide +kernel
theorem d17_54 : decode jdk_42_method_66_code 54 = .ok (.iconst 0, 1) := by decide +kernel
theorem d17_55 : decode jdk_42_method_66_code 55 = .ok (.ireturn, 1) := by decide +kernel
theorem d17_50 : decode jdk_42_method_66_code 50 = .ok (.iconst 1, 1) := by decide +kernel
theorem d17_51 : decode jdk_42_method_66_code 51 = .ok (.goto 4, 3) := by decide +kernel
abbrev rm_con_equalsNe : Room := { frames := 1, cells := 0, slots := 0, locals := 14 }
set_option maxRecDepth 65536 in
set_option maxHeartbeats 40000000 in
theorem con_equalsNe (l : Launch) {Z : State} {a0 : Array Value} (hw : ∀ d ∈ tables_1, d.before a0 Z = true) {n0 : Nat} {h0 : Heap} {a a1 : Addr} {cs ds : List Int32} (S : Lat Z h0 a cs) (S1 : Lat Z h0 a1 ds) (HC : Cst Z) (hab : a ≠ a1) :
    Con l Z true ELs n0 (⟨"java/lang/String", "equals", "(Ljava/lang/Object;)Z"⟩ : MethodName) jdk_42_method_66_code 3 (some .boolean) rm_con_equalsNe [] #[(.ref a), (.ref a1)] h0 [] (fun v h => v = some (.int (if cs = ds then 1 else 0)) ∧ h = h0) := by
  refine Con.intro (plainFor_of_name pn_java_lang_String) (hELs hw) ?_
  intro p e s m below meth c hh G
  refine castRun (g' := mkF m 0 #[.val (.ref a), .val (.ref a1), .unset] []) (by first | rfl | (simp [entryFrame, mkF, argsToLocals, Value.category, maxLocals]; done)) ?_
  obtain ⟨E, ⟨b, FV, FC, A⟩, hlat⟩ := id S
  obtain ⟨E1, ⟨b1, FV1, FC1, A1⟩, hlat1⟩ := id S1
  obtain ⟨cz, SC, hcz⟩ := id HC
  refine GoKit.aloadN G d17_0 rfl rfl (pc' := 1) rfl ?_
  refine GoKit.aloadN G d17_1 rfl rfl (pc' := 2) rfl ?_
  refine GoKit.acmp_ne_t G d17_2 rfl rfl (fun q => hab (Value.ref.inj q)) (by decide) (pc' := 7) rfl ?_
  refine GoKit.aloadN G d17_7 rfl rfl (pc' := 8) rfl ?_
  refine GoKit.instYes G d17_8 (wi hw 101 rfl) (Ins.self E1) (pc' := 11) rfl ?_
  refine GoKit.if_eq_f G d17_11 (by decide) (pc' := 14) rfl ?_
  refine GoKit.aloadN G d17_14 rfl rfl (pc' := 15) rfl ?_
  refine GoKit.castOk G d17_15 (wi hw 101 rfl) (Ins.self E1) (pc' := 18) rfl ?_
  refine GoKit.astoreN G d17_18 rfl (Ls' := #[.val (.ref a), .val (.ref a1), .val (.ref a1)]) rfl (pc' := 19) rfl ?_
  refine GoKit.gets G d17_19 (wi hw 24 rfl) Via.refl SC (pc' := 22) rfl ?_
  refine GoKit.if_eq_f G d17_22 hcz (pc' := 25) rfl ?_
  refine GoKit.aloadN G d17_25 rfl rfl (pc' := 26) rfl ?_
  refine GoKit.getf G d17_26 (wi hw 25 rfl) Via.refl FC (pc' := 29) rfl ?_
  refine GoKit.aloadN G d17_29 rfl rfl (pc' := 30) rfl ?_
  refine GoKit.getf G d17_30 (wi hw 25 rfl) Via.refl FC1 (pc' := 33) rfl ?_
  refine GoKit.icmp_ne_f G d17_33 rfl (pc' := 36) rfl ?_
  refine GoKit.aloadN G d17_36 rfl rfl (pc' := 37) rfl ?_
  refine GoKit.getf G d17_37 (wi hw 18 rfl) Via.refl FV (pc' := 40) rfl ?_
  refine GoKit.aloadN G d17_40 rfl rfl (pc' := 41) rfl ?_
  refine GoKit.getf G d17_41 (wi hw 18 rfl) Via.refl FV1 (pc' := 44) rfl ?_
  refine GoKit.callStaticP G d17_44 (wi hw 102 rfl) (wi hw 103 rfl) (wi hw 38 rfl) (wi hw 104 rfl) (by decide) (W := 0) (argsL := [(.ref b), (.ref b1)]) (rest := []) (con_latEq l hw A A1) rfl (lenOf pd_4 rfl) rfl (by decide) (Nat.le_of_eq rfl) (by decide) (by decide) (by decide) (cells' := 0) (slots' := 0) rfl rfl (pc' := 47) rfl ?_
  show Run _ _ _ _ _ _ _ _ _ _ _ _ _ _ _ _ _ _ _ _ (mkF m 47 #[.val (.ref a), .val (.ref a1), .val (.ref a1)] [(.int (if (cs.map fun c => c.toInt8.toInt32) = (ds.map fun c => c.toInt8.toInt32) then 1 else 0))])
  refine GoKit.if_eq G d17_47 (by decide) (pt := 54) (pf := 50) rfl rfl (fun hb1 => ?_) (fun hb1 => ?_)
  · refine GoKit.iconst G (0 : Int32) d17_54 rfl (pc' := 55) rfl ?_
    refine GoKit.retNar G d17_55 (t := .boolean) rfl (by simp) (by decide) (by decide) ?_
    exact ⟨by rw [if_neg (fun q => by rw [q, if_pos rfl] at hb1; exact absurd hb1 (by decide))]; rfl, rfl⟩
  · refine GoKit.iconst G (1 : Int32) d17_50 rfl (pc' := 51) rfl ?_
    refine GoKit.goto G d17_51 (by decide) (pc' := 55) rfl ?_
    refine GoKit.retNar G d17_55 (t := .boolean) rfl (by simp) (by decide) (by decide) ?_
    exact ⟨by rw [if_pos (Classical.byContradiction fun q => hb1 (if_neg fun z => q (lo8_inj hlat hlat1 z)))]; rfl, rfl⟩
theorem d17_5 : decode jdk_42_method_66_code 5 = .ok (.iconst 1, 1) := by decide +kernel
theorem d17_6 : decode jdk_42_method_66_code 6 = .ok (.ireturn, 1) := by decide +kernel
set_option maxRecDepth 65536 in
set_option maxHeartbeats 40000000 in
theorem con_equalsSelf (l : Launch) {Z : State} {a0 : Array Value} (hw : ∀ d ∈ tables_1, d.before a0 Z = true) {n0 : Nat} {h0 : Heap} {a : Addr} :
    Con l Z true ELs n0 (⟨"java/lang/String", "equals", "(Ljava/lang/Object;)Z"⟩ : MethodName) jdk_42_method_66_code 3 (some .boolean) rm_con_equalsNe [] #[(.ref a), (.ref a)] h0 [] (fun v h => v = some (.int 1) ∧ h = h0) := by
  refine Con.intro (plainFor_of_name pn_java_lang_String) (hELs hw) ?_
  intro p e s m below meth c hh G
  refine castRun (g' := mkF m 0 #[.val (.ref a), .val (.ref a), .unset] []) (by first | rfl | (simp [entryFrame, mkF, argsToLocals, Value.category, maxLocals]; done)) ?_
  refine GoKit.aloadN G d17_0 rfl rfl (pc' := 1) rfl ?_
  refine GoKit.aloadN G d17_1 rfl rfl (pc' := 2) rfl ?_
  refine GoKit.acmp_ne_f G d17_2 rfl rfl rfl (pc' := 5) rfl ?_
  refine GoKit.iconst G (1 : Int32) d17_5 rfl (pc' := 6) rfl ?_
  refine GoKit.retNar G d17_6 (t := .boolean) rfl (by simp) (by decide) (by decide) ?_
  exact ⟨rfl, rfl⟩
theorem con_equals (l : Launch) {Z : State} {a0 : Array Value} (hw : ∀ d ∈ tables_1, d.before a0 Z = true) {n0 : Nat} {h0 : Heap} {a a1 : Addr} {cs ds : List Int32} (S : Lat Z h0 a cs) (S1 : Lat Z h0 a1 ds) (HC : Cst Z) :
    Con l Z true ELs n0 (⟨"java/lang/String", "equals", "(Ljava/lang/Object;)Z"⟩ : MethodName) jdk_42_method_66_code 3 (some .boolean) rm_con_equalsNe [] #[.ref a, .ref a1] h0 [] (fun v h => v = some (.int (if cs = ds then 1 else 0)) ∧ h = h0) := by
  by_cases hab : a = a1
  · subst hab
    have e := lat_uniq S S1
    rw [if_pos e]
    exact con_equalsSelf l hw
  · exact con_equalsNe l hw S S1 HC hab
theorem sh0 (x : Int32) : x >>> ((0 : Int32) &&& 31) = x := by rw [show ((0 : Int32) &&& 31) = 0 from rfl]; exact Int32.shiftRight_zero
theorem d3_0 : decode jdk_42_method_152_code 0 = .ok (.getstatic 38, 3) := by decide +kernel
theorem d3_3 : decode jdk_42_method_152_code 3 = .ok (.ifCond .eq 10, 3) := by decide +kernel
theorem d3_6 : decode jdk_42_method_152_code 6 = .ok (.aload_n 0, 1) := by decide +kernel
theorem d3_7 : decode jdk_42_method_152_code 7 = .ok (.getfield 15, 3) := by decide +kernel
theorem d3_10 : decode jdk_42_method_152_code 10 = .ok (.goto 4, 3) := by decide +kernel
theorem d3_14 : decode jdk_42_method_152_code 14 = .ok (.ireturn, 1) := by decide +kernel
abbrev rm_con_coder : Room := { frames := 0, cells := 0, slots := 0, locals := 0 }
set_option maxRecDepth 65536 in
set_option maxHeartbeats 40000000 in
theorem con_coder (l : Launch) {Z : State} {a0 : Array Value} (hw : ∀ d ∈ tables_1, d.before a0 Z = true) {n0 : Nat} {h0 : Heap} {a : Addr} {cs : List Int32} (S : Lat Z h0 a cs) (HC : Cst Z) :
    Con l Z true ELs n0 (⟨"java/lang/String", "coder", "()B"⟩ : MethodName) jdk_42_method_152_code 1 (some .byte) rm_con_coder [] #[(.ref a)] h0 [] (fun v h => v = some (.int 0) ∧ h = h0) := by
  refine Con.intro (plainFor_of_name pn_java_lang_String) (hELs hw) ?_
  intro p e s m below meth c hh G
  refine castRun (g' := mkF m 0 #[.val (.ref a)] []) (by first | rfl | (simp [entryFrame, mkF, argsToLocals, Value.category, maxLocals]; done)) ?_
  obtain ⟨E, ⟨b, FV, FC, A⟩, hlat⟩ := id S
  obtain ⟨cz, SC, hcz⟩ := id HC
  refine GoKit.gets G d3_0 (wi hw 24 rfl) Via.refl SC (pc' := 3) rfl ?_
  refine GoKit.if_eq_f G d3_3 hcz (pc' := 6) rfl ?_
  refine GoKit.aloadN G d3_6 rfl rfl (pc' := 7) rfl ?_
  refine GoKit.getf G d3_7 (wi hw 25 rfl) Via.refl FC (pc' := 10) rfl ?_
  refine GoKit.goto G d3_10 (by decide) (pc' := 14) rfl ?_
  refine GoKit.retNar G d3_14 (t := .byte) rfl (by simp) (by decide) (by decide) ?_
  exact ⟨rfl, rfl⟩
theorem d2_0 : decode jdk_42_method_54_code 0 = .ok (.aload_n 0, 1) := by decide +kernel
theorem d2_1 : decode jdk_42_method_54_code 1 = .ok (.getfield 9, 3) := by decide +kernel
theorem d2_4 : decode jdk_42_method_54_code 4 = .ok (.arraylength, 1) := by decide +kernel
theorem d2_5 : decode jdk_42_method_54_code 5 = .ok (.aload_n 0, 1) := by decide +kernel
theorem d2_6 : decode jdk_42_method_54_code 6 = .ok (.invokevirtual 335, 3) := by decide +kernel
theorem pd_5 : parseMethodDescriptor "()B" = some ⟨[], some .byte⟩ := by decide +kernel
theorem d2_9 : decode jdk_42_method_54_code 9 = .ok (.ishr, 1) := by decide +kernel
theorem d2_10 : decode jdk_42_method_54_code 10 = .ok (.ireturn, 1) := by decide +kernel
abbrev rm_con_strlen : Room := { frames := 1, cells := 0, slots := 0, locals := 13 }
set_option maxRecDepth 65536 in
set_option maxHeartbeats 40000000 in
theorem con_strlen (l : Launch) {Z : State} {a0 : Array Value} (hw : ∀ d ∈ tables_1, d.before a0 Z = true) {n0 : Nat} {h0 : Heap} {a : Addr} {cs : List Int32} (S : Lat Z h0 a cs) (HC : Cst Z) :
    Con l Z true ELs n0 (⟨"java/lang/String", "length", "()I"⟩ : MethodName) jdk_42_method_54_code 1 (some .int) rm_con_strlen [] #[(.ref a)] h0 [] (fun v h => v = some (.int cs.length.toInt32) ∧ h = h0) := by
  refine Con.intro (plainFor_of_name pn_java_lang_String) (hELs hw) ?_
  intro p e s m below meth c hh G
  refine castRun (g' := mkF m 0 #[.val (.ref a)] []) (by first | rfl | (simp [entryFrame, mkF, argsToLocals, Value.category, maxLocals]; done)) ?_
  obtain ⟨E, ⟨b, FV, FC, A⟩, hlat⟩ := id S
  refine GoKit.aloadN G d2_0 rfl rfl (pc' := 1) rfl ?_
  refine GoKit.getf G d2_1 (wi hw 18 rfl) Via.refl FV (pc' := 4) rfl ?_
  refine GoKit.arrlenI G d2_4 A (z := cs.length.toInt32) (by simp) (pc' := 5) rfl ?_
  refine GoKit.aloadN G d2_5 rfl rfl (pc' := 6) rfl ?_
  refine GoKit.callVirtualP G d2_6 (wi hw 19 rfl) (wi hw 20 rfl) (wi hw 22 rfl) (wi hw 21 rfl) (wi hw 6 rfl) (wi hw 23 rfl) (by decide) E (W := 1) (argsL := []) (rest := [(.int cs.length.toInt32)]) (con_coder l hw S HC) rfl (lenOf pd_5 rfl) rfl (by decide) (Nat.le_of_eq rfl) (by decide) (by decide) (by decide) (cells' := 0) (slots' := 0) rfl rfl (pc' := 9) rfl ?_
  show Run _ _ _ _ _ _ _ _ _ _ _ _ _ _ _ _ _ _ _ _ (mkF m 9 #[.val (.ref a)] [(.int 0), (.int cs.length.toInt32)])
  refine GoKit.ishr G d2_9 (pc' := 10) rfl (fun v1 hqv1 => ?_)
  refine GoKit.retInt G d2_10 rfl (by decide) (by decide) ?_
  exact ⟨by subst_vars; rw [sh0], rfl⟩
/-- the formatter's static is a reference -/
def Frm (Z : State) : Prop := ∃ fv : Value, Sta Z Z.heap "jdk/internal/util/Preconditions" "SIOOBE_FORMATTER" "Ljava/util/function/BiFunction;" fv ∧ fv.isRef = true
theorem lo8_mask (c : Int32) (h : 0 ≤ c.toInt ∧ c.toInt < 256) : nar .char ((c.toInt8.toInt32 &&& 255).toUInt32.toUInt16.toUInt32.toInt32) = c := by
  obtain ⟨n, hn, rfl⟩ : ∃ n : Nat, n < 256 ∧ c = Int32.ofNat n := by
    refine ⟨c.toInt.toNat, by omega, ?_⟩
    apply Int32.toInt_inj.mp
    rw [show Int32.ofNat c.toInt.toNat = c.toInt.toNat.toInt32 from rfl, toI_toInt (by omega)]; omega
  revert n; decide +kernel
theorem d8_0 : decode jdk_41_method_11_code 0 = .ok (.iload_n 0, 1) := by decide +kernel
theorem d8_1 : decode jdk_41_method_11_code 1 = .ok (.ifCond .lt 8, 3) := by decide +kernel
theorem d8_4 : decode jdk_41_method_11_code 4 = .ok (.iload_n 0, 1) := by decide +kernel
theorem d8_5 : decode jdk_41_method_11_code 5 = .ok (.iload_n 1, 1) := by decide +kernel
theorem d8_6 : decode jdk_41_method_11_code 6 = .ok (.if_icmp .lt 10, 3) := by decide +kernel
theorem d8_16 : decode jdk_41_method_11_code 16 = .ok (.iload_n 0, 1) := by decide +kernel
theorem d8_17 : decode jdk_41_method_11_code 17 = .ok (.ireturn, 1) := by decide +kernel
theorem pn_jdk_internal_util_Preconditions : plainName "jdk/internal/util/Preconditions" = true := by first | (simp [plainName, overriddenIn]; done) | decide +kernel
abbrev rm_con_preCheck : Room := { frames := 0, cells := 0, slots := 0, locals := 0 }
set_option maxRecDepth 65536 in
set_option maxHeartbeats 40000000 in
theorem con_preCheck (l : Launch) {Z : State} {a0 : Array Value} (hw : ∀ d ∈ tables_1, d.before a0 Z = true) {n0 : Nat} {h0 : Heap} {j z : Int32} {fv : Value} (hfv : fv.isRef = true) (hj0 : ¬ j < 0) (hjn : j < z) :
    Con l Z true ELs n0 (⟨"jdk/internal/util/Preconditions", "checkIndex", "(IILjava/util/function/BiFunction;)I"⟩ : MethodName) jdk_41_method_11_code 3 (some .int) rm_con_preCheck [] #[(.int j), (.int z), fv] h0 [] (fun v h => v = some (.int j) ∧ h = h0) := by
  refine Con.intro (plainFor_of_name pn_jdk_internal_util_Preconditions) (hELs hw) ?_
  intro p e s m below meth c hh G
  refine castRun (g' := mkF m 0 #[.val (.int j), .val (.int z), .val fv] []) (by rcases ref_cases hfv with rfl | ⟨r, rfl⟩ <;> rfl) ?_
  refine GoKit.iloadN G d8_0 rfl (pc' := 1) rfl ?_
  refine GoKit.if_lt_f G d8_1 hj0 (pc' := 4) rfl ?_
  refine GoKit.iloadN G d8_4 rfl (pc' := 5) rfl ?_
  refine GoKit.iloadN G d8_5 rfl (pc' := 6) rfl ?_
  refine GoKit.icmp_lt_t G d8_6 hjn (by decide) (pc' := 16) rfl ?_
  refine GoKit.iloadN G d8_16 rfl (pc' := 17) rfl ?_
  refine GoKit.retInt G d8_17 rfl (by decide) (by decide) ?_
  exact ⟨rfl, rfl⟩
theorem d7_0 : decode jdk_42_method_155_code 0 = .ok (.iload_n 0, 1) := by decide +kernel
theorem d7_1 : decode jdk_42_method_155_code 1 = .ok (.iload_n 1, 1) := by decide +kernel
theorem d7_2 : decode jdk_42_method_155_code 2 = .ok (.getstatic 1053, 3) := by decide +kernel
theorem d7_5 : decode jdk_42_method_155_code 5 = .ok (.invokestatic 1059, 3) := by decide +kernel
theorem pd_6 : parseMethodDescriptor "(IILjava/util/function/BiFunction;)I" = some ⟨[.int, .int, (.object "java/util/function/BiFunction")], some .int⟩ := by decide +kernel
theorem d7_8 : decode jdk_42_method_155_code 8 = .ok (.pop, 1) := by decide +kernel
theorem d7_9 : decode jdk_42_method_155_code 9 = .ok (.return_, 1) := by decide +kernel
abbrev rm_con_checkIndex : Room := { frames := 1, cells := 0, slots := 0, locals := 14 }
set_option maxRecDepth 65536 in
set_option maxHeartbeats 40000000 in
theorem con_checkIndex (l : Launch) {Z : State} {a0 : Array Value} (hw : ∀ d ∈ tables_1, d.before a0 Z = true) {n0 : Nat} {h0 : Heap} {j z : Int32} (HF : Frm Z) (hj0 : ¬ j < 0) (hjn : j < z) :
    Con l Z true ELs n0 (⟨"java/lang/String", "checkIndex", "(II)V"⟩ : MethodName) jdk_42_method_155_code 2 none rm_con_checkIndex [] #[(.int j), (.int z)] h0 [] (fun v h => v = none ∧ h = h0) := by
  refine Con.intro (plainFor_of_name pn_java_lang_String) (hELs hw) ?_
  intro p e s m below meth c hh G
  refine castRun (g' := mkF m 0 #[.val (.int j), .val (.int z)] []) (by first | rfl | (simp [entryFrame, mkF, argsToLocals, Value.category, maxLocals]; done)) ?_
  obtain ⟨fv, SF, hfv⟩ := id HF
  refine GoKit.iloadN G d7_0 rfl (pc' := 1) rfl ?_
  refine GoKit.iloadN G d7_1 rfl (pc' := 2) rfl ?_
  refine GoKit.gets G d7_2 (wi hw 43 rfl) Via.refl SF (pc' := 5) rfl ?_
  refine GoKit.callStaticP G d7_5 (wi hw 45 rfl) (wi hw 46 rfl) (wi hw 44 rfl) (wi hw 47 rfl) (by decide) (W := 0) (argsL := [(.int j), (.int z), fv]) (rest := []) (con_preCheck l hw hfv hj0 hjn) rfl (lenOf pd_6 rfl) rfl (by decide) (Nat.le_of_eq rfl) (by decide) (by decide) (by decide) (cells' := 0) (slots' := 0) rfl rfl (pc' := 8) rfl ?_
  show Run _ _ _ _ _ _ _ _ _ _ _ _ _ _ _ _ _ _ _ _ (mkF m 8 #[.val (.int j), .val (.int z)] [(.int j)])
  refine GoKit.pop G d7_8 rfl (pc' := 9) rfl ?_
  refine GoKit.retVoid G d7_9 rfl (by decide) (by decide) ?_
  exact ⟨rfl, rfl⟩
theorem d6_0 : decode jdk_43_method_2_code 0 = .ok (.iload_n 1, 1) := by decide +kernel
theorem d6_1 : decode jdk_43_method_2_code 1 = .ok (.aload_n 0, 1) := by decide +kernel
theorem d6_2 : decode jdk_43_method_2_code 2 = .ok (.arraylength, 1) := by decide +kernel
theorem d6_3 : decode jdk_43_method_2_code 3 = .ok (.invokestatic 9, 3) := by decide +kernel
theorem pd_7 : parseMethodDescriptor "(II)V" = some ⟨[.int, .int], none⟩ := by decide +kernel
theorem d6_6 : decode jdk_43_method_2_code 6 = .ok (.aload_n 0, 1) := by decide +kernel
theorem d6_7 : decode jdk_43_method_2_code 7 = .ok (.iload_n 1, 1) := by decide +kernel
theorem d6_8 : decode jdk_43_method_2_code 8 = .ok (.baload, 1) := by decide +kernel
theorem d6_9 : decode jdk_43_method_2_code 9 = .ok (.sipush 255, 3) := by decide +kernel
theorem d6_12 : decode jdk_43_method_2_code 12 = .ok (.iand, 1) := by decide +kernel
theorem d6_13 : decode jdk_43_method_2_code 13 = .ok (.i2c, 1) := by decide +kernel
theorem d6_14 : decode jdk_43_method_2_code 14 = .ok (.ireturn, 1) := by decide +kernel
abbrev rm_con_latCharAt : Room := { frames := 2, cells := 0, slots := 0, locals := 27 }
set_option maxRecDepth 65536 in
set_option maxHeartbeats 40000000 in
theorem con_latCharAt (l : Launch) {Z : State} {a0 : Array Value} (hw : ∀ d ∈ tables_1, d.before a0 Z = true) {n0 : Nat} {h0 : Heap} {b : Addr} {cs : List Int32} {i : Nat} {ch : Int32} (A : IA Z h0 b .byte (cs.map fun c => c.toInt8.toInt32)) (hlat : ∀ c ∈ cs, 0 ≤ c.toInt ∧ c.toInt < 256) (hi : cs[i]? = some ch) (HF : Frm Z) :
    Con l Z true ELs n0 (⟨"java/lang/StringLatin1", "charAt", "([BI)C"⟩ : MethodName) jdk_43_method_2_code 2 (some .char) rm_con_latCharAt [] #[(.ref b), (.int i.toInt32)] h0 [] (fun v h => v = some (.int ch) ∧ h = h0) := by
  refine Con.intro (plainFor_of_name pn_java_lang_StringLatin1) (hELs hw) ?_
  intro p e s m below meth c hh G
  refine castRun (g' := mkF m 0 #[.val (.ref b), .val (.int i.toInt32)] []) (by first | rfl | (simp [entryFrame, mkF, argsToLocals, Value.category, maxLocals]; done)) ?_
  have hil := (List.getElem?_eq_some_iff.mp hi).1
  have hl := A.len
  rw [List.length_map] at hl
  refine GoKit.iloadN G d6_0 rfl (pc' := 1) rfl ?_
  refine GoKit.aloadN G d6_1 rfl rfl (pc' := 2) rfl ?_
  refine GoKit.arrlenI G d6_2 A (z := cs.length.toInt32) (by simp) (pc' := 3) rfl ?_
  refine GoKit.callStaticP G d6_3 (wi hw 40 rfl) (wi hw 41 rfl) (wi hw 6 rfl) (wi hw 42 rfl) (by decide) (W := 0) (argsL := [(.int i.toInt32), (.int cs.length.toInt32)]) (rest := []) (con_checkIndex l hw HF (toI_nn (by omega)) ((toI_lt (by omega) (by omega)).mpr hil)) rfl (lenOf pd_7 rfl) rfl (by decide) (Nat.le_of_eq rfl) (by decide) (by decide) (by decide) (cells' := 0) (slots' := 0) rfl rfl (pc' := 6) rfl ?_
  show Run _ _ _ _ _ _ _ _ _ _ _ _ _ _ _ _ _ _ _ _ (mkF m 6 #[.val (.ref b), .val (.int i.toInt32)] [])
  refine GoKit.aloadN G d6_6 rfl rfl (pc' := 7) rfl ?_
  refine GoKit.iloadN G d6_7 rfl (pc' := 8) rfl ?_
  refine GoKit.baloadI G d6_8 A (i := i) (toI_clamp (by omega)) (toI_nn (by omega)) (x := ch.toInt8.toInt32) (by simp [hi]) (pc' := 9) rfl ?_
  refine GoKit.sipush G (255 : Int32) d6_9 rfl (pc' := 12) rfl ?_
  refine GoKit.iand G d6_12 (pc' := 13) rfl (fun v1 hqv1 => ?_)
  refine GoKit.i2c G d6_13 (pc' := 14) rfl (fun v2 hqv2 => ?_)
  have l3 := ch8 _ _ _ hqv1 hqv2
  have c4 : nar .char v2 = v2 := by rw [hqv2]; exact nar_i2c _
  refine GoKit.retNar G d6_14 (t := .char) rfl (by simp) (by decide) (by decide) ?_
  exact ⟨by subst_vars; rw [lo8_mask ch (hlat ch (List.mem_of_getElem? hi))], rfl⟩
theorem d5_0 : decode jdk_42_method_154_code 0 = .ok (.getstatic 38, 3) := by decide +kernel
theorem d5_3 : decode jdk_42_method_154_code 3 = .ok (.ifCond .eq 14, 3) := by decide +kernel
theorem d5_6 : decode jdk_42_method_154_code 6 = .ok (.aload_n 0, 1) := by decide +kernel
theorem d5_7 : decode jdk_42_method_154_code 7 = .ok (.getfield 15, 3) := by decide +kernel
theorem d5_10 : decode jdk_42_method_154_code 10 = .ok (.ifCond .ne 7, 3) := by decide +kernel
theorem d5_13 : decode jdk_42_method_154_code 13 = .ok (.iconst 1, 1) := by decide +kernel
theorem d5_14 : decode jdk_42_method_154_code 14 = .ok (.goto 4, 3) := by decide +kernel
theorem d5_18 : decode jdk_42_method_154_code 18 = .ok (.ireturn, 1) := by decide +kernel
abbrev rm_con_isLatin1 : Room := { frames := 0, cells := 0, slots := 0, locals := 0 }
set_option maxRecDepth 65536 in
set_option maxHeartbeats 40000000 in
theorem con_isLatin1 (l : Launch) {Z : State} {a0 : Array Value} (hw : ∀ d ∈ tables_1, d.before a0 Z = true) {n0 : Nat} {h0 : Heap} {a : Addr} {cs : List Int32} (S : Lat Z h0 a cs) (HC : Cst Z) :
    Con l Z true ELs n0 (⟨"java/lang/String", "isLatin1", "()Z"⟩ : MethodName) jdk_42_method_154_code 1 (some .boolean) rm_con_isLatin1 [] #[(.ref a)] h0 [] (fun v h => v = some (.int 1) ∧ h = h0) := by
  refine Con.intro (plainFor_of_name pn_java_lang_String) (hELs hw) ?_
  intro p e s m below meth c hh G
  refine castRun (g' := mkF m 0 #[.val (.ref a)] []) (by first | rfl | (simp [entryFrame, mkF, argsToLocals, Value.category, maxLocals]; done)) ?_
  obtain ⟨E, ⟨b, FV, FC, A⟩, hlat⟩ := id S
  obtain ⟨cz, SC, hcz⟩ := id HC
  refine GoKit.gets G d5_0 (wi hw 24 rfl) Via.refl SC (pc' := 3) rfl ?_
  refine GoKit.if_eq_f G d5_3 hcz (pc' := 6) rfl ?_
  refine GoKit.aloadN G d5_6 rfl rfl (pc' := 7) rfl ?_
  refine GoKit.getf G d5_7 (wi hw 25 rfl) Via.refl FC (pc' := 10) rfl ?_
  refine GoKit.if_ne_f G d5_10 rfl (pc' := 13) rfl ?_
  refine GoKit.iconst G (1 : Int32) d5_13 rfl (pc' := 14) rfl ?_
  refine GoKit.goto G d5_14 (by decide) (pc' := 18) rfl ?_
  refine GoKit.retNar G d5_18 (t := .boolean) rfl (by simp) (by decide) (by decide) ?_
  exact ⟨rfl, rfl⟩
theorem lat_nar {c : Int32} (h : 0 ≤ c.toInt ∧ c.toInt < 256) : nar .char c = c := by
  obtain ⟨n, hn, rfl⟩ : ∃ n : Nat, n < 256 ∧ c = Int32.ofNat n := by
    refine ⟨c.toInt.toNat, by omega, ?_⟩
    apply Int32.toInt_inj.mp
    rw [show Int32.ofNat c.toInt.toNat = c.toInt.toNat.toInt32 from rfl, toI_toInt (by omega)]; omega
  revert n; decide +kernel
theorem d4_0 : decode jdk_42_method_56_code 0 = .ok (.aload_n 0, 1) := by decide +kernel
theorem d4_1 : decode jdk_42_method_56_code 1 = .ok (.invokevirtual 492, 3) := by decide +kernel
theorem pd_8 : parseMethodDescriptor "()Z" = some ⟨[], some .boolean⟩ := by decide +kernel
theorem d4_4 : decode jdk_42_method_56_code 4 = .ok (.ifCond .eq 12, 3) := by decide +kernel
theorem d4_7 : decode jdk_42_method_56_code 7 = .ok (.aload_n 0, 1) := by decide +kernel
theorem d4_8 : decode jdk_42_method_56_code 8 = .ok (.getfield 9, 3) := by decide +kernel
theorem d4_11 : decode jdk_42_method_56_code 11 = .ok (.iload_n 1, 1) := by decide +kernel
theorem d4_12 : decode jdk_42_method_56_code 12 = .ok (.invokestatic 495, 3) := by decide +kernel
theorem pd_9 : parseMethodDescriptor "([BI)C" = some ⟨[(.array .byte), .int], some .char⟩ := by decide +kernel
theorem d4_15 : decode jdk_42_method_56_code 15 = .ok (.ireturn, 1) := by decide +kernel
abbrev rm_con_charAt : Room := { frames := 3, cells := 0, slots := 0, locals := 40 }
set_option maxRecDepth 65536 in
set_option maxHeartbeats 40000000 in
theorem con_charAt (l : Launch) {Z : State} {a0 : Array Value} (hw : ∀ d ∈ tables_1, d.before a0 Z = true) {n0 : Nat} {h0 : Heap} {a : Addr} {cs : List Int32} (S : Lat Z h0 a cs) (HC : Cst Z) {i : Nat} {ch : Int32} (hi : cs[i]? = some ch) (HF : Frm Z) :
    Con l Z true ELs n0 (⟨"java/lang/String", "charAt", "(I)C"⟩ : MethodName) jdk_42_method_56_code 2 (some .char) rm_con_charAt [] #[(.ref a), (.int i.toInt32)] h0 [] (fun v h => v = some (.int ch) ∧ h = h0) := by
  refine Con.intro (plainFor_of_name pn_java_lang_String) (hELs hw) ?_
  intro p e s m below meth c hh G
  refine castRun (g' := mkF m 0 #[.val (.ref a), .val (.int i.toInt32)] []) (by first | rfl | (simp [entryFrame, mkF, argsToLocals, Value.category, maxLocals]; done)) ?_
  obtain ⟨E, ⟨b, FV, FC, A⟩, hlat⟩ := id S
  refine GoKit.aloadN G d4_0 rfl rfl (pc' := 1) rfl ?_
  refine GoKit.callVirtualP G d4_1 (wi hw 31 rfl) (wi hw 32 rfl) (wi hw 34 rfl) (wi hw 33 rfl) (wi hw 6 rfl) (wi hw 35 rfl) (by decide) E (W := 0) (argsL := []) (rest := []) (con_isLatin1 l hw S HC) rfl (lenOf pd_8 rfl) rfl (by decide) (Nat.le_of_eq rfl) (by decide) (by decide) (by decide) (cells' := 0) (slots' := 0) rfl rfl (pc' := 4) rfl ?_
  show Run _ _ _ _ _ _ _ _ _ _ _ _ _ _ _ _ _ _ _ _ (mkF m 4 #[.val (.ref a), .val (.int i.toInt32)] [(.int 1)])
  refine GoKit.if_eq_f G d4_4 (by decide) (pc' := 7) rfl ?_
  refine GoKit.aloadN G d4_7 rfl rfl (pc' := 8) rfl ?_
  refine GoKit.getf G d4_8 (wi hw 18 rfl) Via.refl FV (pc' := 11) rfl ?_
  refine GoKit.iloadN G d4_11 rfl (pc' := 12) rfl ?_
  refine GoKit.callStaticP G d4_12 (wi hw 36 rfl) (wi hw 37 rfl) (wi hw 38 rfl) (wi hw 39 rfl) (by decide) (W := 0) (argsL := [(.ref b), (.int i.toInt32)]) (rest := []) (con_latCharAt l hw A hlat hi HF) rfl (lenOf pd_9 rfl) rfl (by decide) (Nat.le_of_eq rfl) (by decide) (by decide) (by decide) (cells' := 0) (slots' := 0) rfl rfl (pc' := 15) rfl ?_
  show Run _ _ _ _ _ _ _ _ _ _ _ _ _ _ _ _ _ _ _ _ (mkF m 15 #[.val (.ref a), .val (.int i.toInt32)] [(.int ch)])
  refine GoKit.retNar G d4_15 (t := .char) rfl (by simp) (by decide) (by decide) ?_
  exact ⟨by rw [lat_nar (hlat ch (List.mem_of_getElem? hi))], rfl⟩
theorem cases7 {v : Int32} (h : 0 ≤ v.toInt ∧ v.toInt < 7) : v = 0 ∨ v = 1 ∨ v = 2 ∨ v = 3 ∨ v = 4 ∨ v = 5 ∨ v = 6 := by
  have h2 : v.toInt = 0 ∨ v.toInt = 1 ∨ v.toInt = 2 ∨ v.toInt = 3 ∨ v.toInt = 4 ∨ v.toInt = 5 ∨ v.toInt = 6 := by omega
  rcases h2 with h2 | h2 | h2 | h2 | h2 | h2 | h2
  · exact Or.inl (Int32.toInt_inj.mp h2)
  · exact Or.inr (Or.inl (Int32.toInt_inj.mp h2))
  · exact Or.inr (Or.inr (Or.inl (Int32.toInt_inj.mp h2)))
  · exact Or.inr (Or.inr (Or.inr (Or.inl (Int32.toInt_inj.mp h2))))
  · exact Or.inr (Or.inr (Or.inr (Or.inr (Or.inl (Int32.toInt_inj.mp h2)))))
  · exact Or.inr (Or.inr (Or.inr (Or.inr (Or.inr (Or.inl (Int32.toInt_inj.mp h2))))))
  · exact Or.inr (Or.inr (Or.inr (Or.inr (Or.inr (Or.inr (Int32.toInt_inj.mp h2))))))
theorem cases8 {v : Int32} (h : 0 ≤ v.toInt ∧ v.toInt < 8) : v = 0 ∨ v = 1 ∨ v = 2 ∨ v = 3 ∨ v = 4 ∨ v = 5 ∨ v = 6 ∨ v = 7 := by
  have h2 : v.toInt = 0 ∨ v.toInt = 1 ∨ v.toInt = 2 ∨ v.toInt = 3 ∨ v.toInt = 4 ∨ v.toInt = 5 ∨ v.toInt = 6 ∨ v.toInt = 7 := by omega
  rcases h2 with h2 | h2 | h2 | h2 | h2 | h2 | h2 | h2
  · exact Or.inl (Int32.toInt_inj.mp h2)
  · exact Or.inr (Or.inl (Int32.toInt_inj.mp h2))
  · exact Or.inr (Or.inr (Or.inl (Int32.toInt_inj.mp h2)))
  · exact Or.inr (Or.inr (Or.inr (Or.inl (Int32.toInt_inj.mp h2))))
  · exact Or.inr (Or.inr (Or.inr (Or.inr (Or.inl (Int32.toInt_inj.mp h2)))))
  · exact Or.inr (Or.inr (Or.inr (Or.inr (Or.inr (Or.inl (Int32.toInt_inj.mp h2))))))
  · exact Or.inr (Or.inr (Or.inr (Or.inr (Or.inr (Or.inr (Or.inl (Int32.toInt_inj.mp h2)))))))
  · exact Or.inr (Or.inr (Or.inr (Or.inr (Or.inr (Or.inr (Or.inr (Int32.toInt_inj.mp h2)))))))
theorem cases9 {v : Int32} (h : 0 ≤ v.toInt ∧ v.toInt < 9) : v = 0 ∨ v = 1 ∨ v = 2 ∨ v = 3 ∨ v = 4 ∨ v = 5 ∨ v = 6 ∨ v = 7 ∨ v = 8 := by
  have h2 : v.toInt = 0 ∨ v.toInt = 1 ∨ v.toInt = 2 ∨ v.toInt = 3 ∨ v.toInt = 4 ∨ v.toInt = 5 ∨ v.toInt = 6 ∨ v.toInt = 7 ∨ v.toInt = 8 := by omega
  rcases h2 with h2 | h2 | h2 | h2 | h2 | h2 | h2 | h2 | h2
  · exact Or.inl (Int32.toInt_inj.mp h2)
  · exact Or.inr (Or.inl (Int32.toInt_inj.mp h2))
  · exact Or.inr (Or.inr (Or.inl (Int32.toInt_inj.mp h2)))
  · exact Or.inr (Or.inr (Or.inr (Or.inl (Int32.toInt_inj.mp h2))))
  · exact Or.inr (Or.inr (Or.inr (Or.inr (Or.inl (Int32.toInt_inj.mp h2)))))
  · exact Or.inr (Or.inr (Or.inr (Or.inr (Or.inr (Or.inl (Int32.toInt_inj.mp h2))))))
  · exact Or.inr (Or.inr (Or.inr (Or.inr (Or.inr (Or.inr (Or.inl (Int32.toInt_inj.mp h2)))))))
  · exact Or.inr (Or.inr (Or.inr (Or.inr (Or.inr (Or.inr (Or.inr (Or.inl (Int32.toInt_inj.mp h2))))))))
  · exact Or.inr (Or.inr (Or.inr (Or.inr (Or.inr (Or.inr (Or.inr (Or.inr (Int32.toInt_inj.mp h2))))))))
def txt0 : List Int32 := [(77 : Int32), (65 : Int32), (80 : Int32)]
def txt1 : List Int32 := [(77 : Int32), (82 : Int32), (82 : Int32)]
def txt2 : List Int32 := [(80 : Int32), (64 : Int32), (49 : Int32), (48 : Int32)]
def txt3 : List Int32 := [(110 : Int32), (68 : Int32), (67 : Int32), (71 : Int32), (64 : Int32), (49 : Int32), (48 : Int32)]
def txt4 : List Int32 := [(82 : Int32), (64 : Int32), (49 : Int32), (48 : Int32)]
def txt5 : List Int32 := [(82 : Int32), (64 : Int32), (49 : Int32), (48 : Int32), (48 : Int32)]
theorem ite_f {P : Prop} [Decidable P] (h : (if P then (1 : Int32) else 0) = 0) : ¬ P := fun q => by rw [if_pos q] at h; exact absurd h (by decide)
theorem ite_t {P : Prop} [Decidable P] (h : ¬ (if P then (1 : Int32) else 0) = 0) : P := Classical.byContradiction fun q => h (if_neg q)
def Mk (Z : State) (nm : String) (t : List Int32) (m : Addr) : Prop := Sta Z Z.heap "com/example/re_thread/rethread/eval/Measure" nm "Lcom/example/re_thread/rethread/eval/Measure;" (.ref m) ∧ Exa Z Z.heap m "com/example/re_thread/rethread/eval/Measure" ∧ ∃ lb, Fld Z Z.heap m "com/example/re_thread/rethread/eval/Measure" "label" "Ljava/lang/String;" (.ref lb) ∧ Lat Z Z.heap lb t
def MS (Z : State) (m0 m1 m2 m3 m4 m5 : Addr) : Prop := (Mk Z "MAP" txt0 m0 ∧ Mk Z "MRR" txt1 m1 ∧ Mk Z "P_AT_10" txt2 m2 ∧ Mk Z "NDCG_AT_10" txt3 m3 ∧ Mk Z "R_AT_10" txt4 m4 ∧ Mk Z "R_AT_100" txt5 m5) ∧ ∃ (va : Addr) (cl : Cell), Sta Z Z.heap "com/example/re_thread/rethread/eval/Measure" "$VALUES" "[Lcom/example/re_thread/rethread/eval/Measure;" (.ref va) ∧ Exa Z Z.heap va "[Lcom/example/re_thread/rethread/eval/Measure;" ∧ Arr Z Z.heap va cl (.object "com/example/re_thread/rethread/eval/Measure") ∧ cl.slots = #[.ref m0, .ref m1, .ref m2, .ref m3, .ref m4, .ref m5] ∧ FitC Z cl
def pickM (m0 m1 m2 m3 m4 m5 : Addr) (cs : List Int32) : Value := if cs = txt0 then Value.ref m0 else if cs = txt1 then Value.ref m1 else if cs = txt2 then Value.ref m2 else if cs = txt3 then Value.ref m3 else if cs = txt4 then Value.ref m4 else if cs = txt5 then Value.ref m5 else Value.null
theorem pickM_ref (m0 m1 m2 m3 m4 m5 : Addr) (cs : List Int32) : (pickM m0 m1 m2 m3 m4 m5 cs).isRef = true := by
  unfold pickM; repeat' split
  all_goals rfl
theorem d16_0 : decode prog_6_method_1_code 0 = .ok (.getstatic 22, 3) := by decide +kernel
theorem d16_3 : decode prog_6_method_1_code 3 = .ok (.invokevirtual 26, 3) := by decide +kernel
theorem d16_6 : decode prog_6_method_1_code 6 = .ok (.checkcast 27, 3) := by decide +kernel
theorem d16_9 : decode prog_6_method_1_code 9 = .ok (.areturn, 1) := by decide +kernel
theorem pn_com_example_re_thread_rethread_eval_Measure : plainName "com/example/re_thread/rethread/eval/Measure" = true := by first | (simp [plainName, overriddenIn]; done) | decide +kernel
abbrev rm_con_values : Room := { frames := 1, cells := 1, slots := 6, locals := 14 }
set_option maxRecDepth 65536 in
set_option maxHeartbeats 40000000 in
theorem con_values (l : Launch) {Z : State} {a0 : Array Value} (hw : ∀ d ∈ tables_1, d.before a0 Z = true) {n0 : Nat} {h0 : Heap} {m0 m1 m2 m3 m4 m5 : Addr} (M : MS Z m0 m1 m2 m3 m4 m5) :
    Con l Z true ELs n0 (⟨"com/example/re_thread/rethread/eval/Measure", "values", "()[Lcom/example/re_thread/rethread/eval/Measure;"⟩ : MethodName) prog_6_method_1_code 0 (some (.array (.object "com/example/re_thread/rethread/eval/Measure"))) rm_con_values [] #[] h0 [] (fun v h => ∃ b cl, v = some (.ref b) ∧ Arr Z h b cl (.object "com/example/re_thread/rethread/eval/Measure") ∧ cl.slots = #[.ref m0, .ref m1, .ref m2, .ref m3, .ref m4, .ref m5]) := by
  refine Con.intro (plainFor_of_name pn_com_example_re_thread_rethread_eval_Measure) (hELs hw) ?_
  intro p e s m below meth c hh G
  refine castRun (g' := mkF m 0 #[] []) (by first | rfl | (simp [entryFrame, mkF, argsToLocals, Value.category, maxLocals]; done)) ?_
  obtain ⟨va, cl, SV, XV, AV, hcl, FV⟩ := M.2
  refine GoKit.gets G d16_0 (wi hw 76 rfl) Via.refl SV (pc' := 3) rfl ?_
  refine Run.know (fun EZ _ _ => ?_)
  refine GoKit.cloneArr G d16_3 (wi hw 78 rfl) (wi hw 79 rfl) (wi hw 83 rfl) (wi hw 81 rfl) (wi hw 82 rfl) (wi hw 84 rfl) (AV.ext EZ) (XV.ext EZ) FV rfl (by decide) (W := 0) (Nat.le_of_eq rfl) (by decide) (cap := 6) (by rw [hcl]; exact Nat.le_of_eq rfl) (by decide) (by decide) (cells' := 1) (slots' := 6) rfl rfl (pc' := 6) rfl (fun h1 a1 ga1 E1 A1 X1 => ?_)
  refine GoKit.castOk G d16_6 (wi hw 92 rfl) (Ins.self X1) (pc' := 9) rfl ?_
  refine GoKit.retRef G d16_9 rfl rfl rfl (by decide) (by decide) ?_
  exact ⟨_, _, rfl, A1, hcl⟩
abbrev rm_con_equalsNull : Room := { frames := 0, cells := 0, slots := 0, locals := 0 }
set_option maxRecDepth 65536 in
set_option maxHeartbeats 40000000 in
theorem con_equalsNull (l : Launch) {Z : State} {a0 : Array Value} (hw : ∀ d ∈ tables_1, d.before a0 Z = true) {n0 : Nat} {h0 : Heap} {a : Addr} :
    Con l Z true ELs n0 (⟨"java/lang/String", "equals", "(Ljava/lang/Object;)Z"⟩ : MethodName) jdk_42_method_66_code 3 (some .boolean) rm_con_equalsNull [] #[(.ref a), .null] h0 [] (fun v h => v = some (.int 0) ∧ h = h0) := by
  refine Con.intro (plainFor_of_name pn_java_lang_String) (hELs hw) ?_
  intro p e s m below meth c hh G
  refine castRun (g' := mkF m 0 #[.val (.ref a), .val .null, .unset] []) (by first | rfl | (simp [entryFrame, mkF, argsToLocals, Value.category, maxLocals]; done)) ?_
  refine GoKit.aloadN G d17_0 rfl rfl (pc' := 1) rfl ?_
  refine GoKit.aloadN G d17_1 rfl rfl (pc' := 2) rfl ?_
  refine GoKit.acmp_ne_t G d17_2 rfl rfl (by intro q; cases q) (by decide) (pc' := 7) rfl ?_
  refine GoKit.aloadN G d17_7 rfl rfl (pc' := 8) rfl ?_
  refine GoKit.instNull G d17_8 (pc' := 11) rfl ?_
  refine GoKit.if_eq_t G d17_11 (by decide) (by decide) (pc' := 54) rfl ?_
  refine GoKit.iconst G (0 : Int32) d17_54 rfl (pc' := 55) rfl ?_
  refine GoKit.retNar G d17_55 (t := .boolean) rfl (by simp) (by decide) (by decide) ?_
  exact ⟨rfl, rfl⟩
theorem d15_0 : decode prog_6_method_6_code 0 = .ok (.invokestatic 53, 3) := by decide +kernel
theorem pd_10 : parseMethodDescriptor "()[Lcom/example/re_thread/rethread/eval/Measure;" = some ⟨[], some (.array (.object "com/example/re_thread/rethread/eval/Measure"))⟩ := by decide +kernel
theorem d15_3 : decode prog_6_method_6_code 3 = .ok (.astore_n 1, 1) := by decide +kernel
theorem d15_4 : decode prog_6_method_6_code 4 = .ok (.aload_n 1, 1) := by decide +kernel
theorem d15_5 : decode prog_6_method_6_code 5 = .ok (.arraylength, 1) := by decide +kernel
theorem d15_6 : decode prog_6_method_6_code 6 = .ok (.istore_n 2, 1) := by decide +kernel
theorem d15_7 : decode prog_6_method_6_code 7 = .ok (.iconst 0, 1) := by decide +kernel
theorem d15_8 : decode prog_6_method_6_code 8 = .ok (.istore_n 3, 1) := by decide +kernel
theorem d15_9 : decode prog_6_method_6_code 9 = .ok (.iload_n 3, 1) := by decide +kernel
theorem d15_10 : decode prog_6_method_6_code 10 = .ok (.iload_n 2, 1) := by decide +kernel
theorem d15_11 : decode prog_6_method_6_code 11 = .ok (.if_icmp .ge 29, 3) := by decide +kernel
theorem d15_14 : decode prog_6_method_6_code 14 = .ok (.aload_n 1, 1) := by decide +kernel
theorem d15_15 : decode prog_6_method_6_code 15 = .ok (.iload_n 3, 1) := by decide +kernel
theorem d15_16 : decode prog_6_method_6_code 16 = .ok (.aaload, 1) := by decide +kernel
theorem d15_17 : decode prog_6_method_6_code 17 = .ok (.astore 4, 2) := by decide +kernel
theorem d15_19 : decode prog_6_method_6_code 19 = .ok (.aload 4, 2) := by decide +kernel
theorem d15_21 : decode prog_6_method_6_code 21 = .ok (.getfield 41, 3) := by decide +kernel
theorem d15_24 : decode prog_6_method_6_code 24 = .ok (.aload_n 0, 1) := by decide +kernel
theorem d15_25 : decode prog_6_method_6_code 25 = .ok (.invokevirtual 57, 3) := by decide +kernel
theorem pd_11 : parseMethodDescriptor "(Ljava/lang/Object;)Z" = some ⟨[(.object "java/lang/Object")], some .boolean⟩ := by decide +kernel
theorem d15_28 : decode prog_6_method_6_code 28 = .ok (.ifCond .eq 6, 3) := by decide +kernel
theorem d15_34 : decode prog_6_method_6_code 34 = .ok (.iinc 3 1, 3) := by decide +kernel
theorem d15_37 : decode prog_6_method_6_code 37 = .ok (.goto (-28), 3) := by decide +kernel
theorem d15_40 : decode prog_6_method_6_code 40 = .ok (.aconst_null, 1) := by decide +kernel
theorem d15_41 : decode prog_6_method_6_code 41 = .ok (.areturn, 1) := by decide +kernel
abbrev rm_con_labNull : Room := { frames := 2, cells := 1, slots := 6, locals := 25 }
set_option maxRecDepth 65536 in
set_option maxHeartbeats 40000000 in
theorem con_labNull (l : Launch) {Z : State} {a0 : Array Value} (hw : ∀ d ∈ tables_1, d.before a0 Z = true) {n0 : Nat} {h0 : Heap} {m0 m1 m2 m3 m4 m5 : Addr} (M : MS Z m0 m1 m2 m3 m4 m5) :
    Con l Z true ELs n0 (⟨"com/example/re_thread/rethread/eval/Measure", "labelled", "(Ljava/lang/String;)Lcom/example/re_thread/rethread/eval/Measure;"⟩ : MethodName) prog_6_method_6_code 5 (some (.object "com/example/re_thread/rethread/eval/Measure")) rm_con_labNull [] #[.null] h0 [] (fun v h => v = some .null) := by
  refine Con.intro (plainFor_of_name pn_com_example_re_thread_rethread_eval_Measure) (hELs hw) ?_
  intro p e s m below meth c hh G
  refine castRun (g' := mkF m 0 #[.val .null, .unset, .unset, .unset, .unset] []) (by first | rfl | (simp [entryFrame, mkF, argsToLocals, Value.category, maxLocals]; done)) ?_
  obtain ⟨lb0, FL0, SL0⟩ := (M.1.1).2.2
  obtain ⟨lb1, FL1, SL1⟩ := (M.1.2.1).2.2
  obtain ⟨lb2, FL2, SL2⟩ := (M.1.2.2.1).2.2
  obtain ⟨lb3, FL3, SL3⟩ := (M.1.2.2.2.1).2.2
  obtain ⟨lb4, FL4, SL4⟩ := (M.1.2.2.2.2.1).2.2
  obtain ⟨lb5, FL5, SL5⟩ := (M.1.2.2.2.2.2).2.2
  refine Run.know (fun EZ _ _ => ?_)
  refine GoKit.callStatic G d15_0 (wi hw 73 rfl) (wi hw 74 rfl) (wi hw 71 rfl) (wi hw 75 rfl) (by decide) (owc := []) (W := 0) (argsL := []) (rest := []) (con_values l hw M) rfl (lenOf pd_10 rfl) rfl (by decide) (Nat.le_of_eq rfl) (by decide) (by decide) (by decide) (fun _ q => nomatch q) (cells' := 1) (slots' := 6) rfl rfl (pc' := 3) rfl (fun r1 h4 q2 K3 => ?_)
  obtain ⟨b5, cl6, rfl, A7, hcl8⟩ := q2
  show Run _ _ _ _ _ _ _ _ _ _ _ _ _ _ _ _ _ _ _ _ (mkF m 3 #[.val .null, .unset, .unset, .unset, .unset] [(.ref b5)])
  refine GoKit.astoreN G d15_3 rfl (Ls' := #[.val .null, .val (.ref b5), .unset, .unset, .unset]) rfl (pc' := 4) rfl ?_
  refine GoKit.aloadN G d15_4 rfl rfl (pc' := 5) rfl ?_
  refine GoKit.arrlen G d15_5 A7 (pc' := 6) rfl ?_
  rw [show cl6.slots.size.toInt32 = (6 : Int32) from by rw [hcl8]; rfl]
  refine GoKit.istoreN G d15_6 (Ls' := #[.val .null, .val (.ref b5), .val (.int (6 : Int32)), .unset, .unset]) rfl (pc' := 7) rfl ?_
  refine GoKit.iconst G (0 : Int32) d15_7 rfl (pc' := 8) rfl ?_
  refine GoKit.istoreN G d15_8 (Ls' := #[.val .null, .val (.ref b5), .val (.int (6 : Int32)), .val (.int (0 : Int32)), .unset]) rfl (pc' := 9) rfl ?_
  refine GoKit.iloadN G d15_9 rfl (pc' := 10) rfl ?_
  refine GoKit.iloadN G d15_10 rfl (pc' := 11) rfl ?_
  refine GoKit.icmp_ge_f G d15_11 (by decide) (pc' := 14) rfl ?_
  refine GoKit.aloadN G d15_14 rfl rfl (pc' := 15) rfl ?_
  refine GoKit.iloadN G d15_15 rfl (pc' := 16) rfl ?_
  refine GoKit.aaload G d15_16 A7 rfl (by rw [hcl8]; show ¬ ((0 : Int32) < 0 ∨ 6 ≤ _); decide) (v := .ref m0) (by rw [hcl8]; rfl) (pc' := 17) rfl ?_
  refine GoKit.astore G d15_17 rfl (Ls' := #[.val .null, .val (.ref b5), .val (.int (6 : Int32)), .val (.int (0 : Int32)), .val (.ref m0)]) rfl (pc' := 19) rfl ?_
  refine GoKit.aload G d15_19 rfl rfl (pc' := 21) rfl ?_
  refine GoKit.getf G d15_21 (wi hw 94 rfl) Via.refl ((FL0.ext EZ).keep K3 nin0) (pc' := 24) rfl ?_
  refine GoKit.aloadN G d15_24 rfl rfl (pc' := 25) rfl ?_
  have KP9 : Keep h0 h4 [] := ((Keep.refl h0 []).trans K3 all0)
  refine GoKit.callVirtualP G d15_25 (wi hw 96 rfl) (wi hw 97 rfl) (wi hw 99 rfl) (wi hw 98 rfl) (wi hw 6 rfl) (wi hw 100 rfl) (by decide) ((SL0.ext EZ).keep KP9).1 (W := 0) (argsL := [.null]) (rest := []) (con_equalsNull l hw) rfl (lenOf pd_11 rfl) rfl (by decide) (Nat.le_of_eq rfl) (by decide) (by decide) (by decide) (cells' := 1) (slots' := 6) rfl rfl (pc' := 28) rfl ?_
  show Run _ _ _ _ _ _ _ _ _ _ _ _ _ _ _ _ _ _ _ _ (mkF m 28 #[.val .null, .val (.ref b5), .val (.int (6 : Int32)), .val (.int (0 : Int32)), .val (.ref m0)] [(.int 0)])
  refine GoKit.if_eq_t G d15_28 (by decide) (by decide) (pc' := 34) rfl ?_
  refine GoKit.iinc G (1 : Int32) d15_34 rfl rfl (Ls' := #[.val .null, .val (.ref b5), .val (.int (6 : Int32)), .val (.int ((0 : Int32) + (1 : Int32))), .val (.ref m0)]) rfl (pc' := 37) rfl ?_
  show Run _ _ _ _ _ _ _ _ _ _ _ _ _ _ _ _ _ _ _ _ (mkF m 37 #[.val .null, .val (.ref b5), .val (.int (6 : Int32)), .val (.int (1 : Int32)), .val (.ref m0)] [])
  refine GoKit.goto G d15_37 (by decide) (pc' := 9) rfl ?_
  refine GoKit.iloadN G d15_9 rfl (pc' := 10) rfl ?_
  refine GoKit.iloadN G d15_10 rfl (pc' := 11) rfl ?_
  refine GoKit.icmp_ge_f G d15_11 (by decide) (pc' := 14) rfl ?_
  refine GoKit.aloadN G d15_14 rfl rfl (pc' := 15) rfl ?_
  refine GoKit.iloadN G d15_15 rfl (pc' := 16) rfl ?_
  refine GoKit.aaload G d15_16 A7 rfl (by rw [hcl8]; show ¬ ((1 : Int32) < 0 ∨ 6 ≤ _); decide) (v := .ref m1) (by rw [hcl8]; rfl) (pc' := 17) rfl ?_
  refine GoKit.astore G d15_17 rfl (Ls' := #[.val .null, .val (.ref b5), .val (.int (6 : Int32)), .val (.int (1 : Int32)), .val (.ref m1)]) rfl (pc' := 19) rfl ?_
  refine GoKit.aload G d15_19 rfl rfl (pc' := 21) rfl ?_
  refine GoKit.getf G d15_21 (wi hw 94 rfl) Via.refl ((FL1.ext EZ).keep K3 nin0) (pc' := 24) rfl ?_
  refine GoKit.aloadN G d15_24 rfl rfl (pc' := 25) rfl ?_
  refine GoKit.callVirtualP G d15_25 (wi hw 96 rfl) (wi hw 97 rfl) (wi hw 99 rfl) (wi hw 98 rfl) (wi hw 6 rfl) (wi hw 100 rfl) (by decide) ((SL1.ext EZ).keep KP9).1 (W := 0) (argsL := [.null]) (rest := []) (con_equalsNull l hw) rfl (lenOf pd_11 rfl) rfl (by decide) (Nat.le_of_eq rfl) (by decide) (by decide) (by decide) (cells' := 1) (slots' := 6) rfl rfl (pc' := 28) rfl ?_
  show Run _ _ _ _ _ _ _ _ _ _ _ _ _ _ _ _ _ _ _ _ (mkF m 28 #[.val .null, .val (.ref b5), .val (.int (6 : Int32)), .val (.int (1 : Int32)), .val (.ref m1)] [(.int 0)])
  refine GoKit.if_eq_t G d15_28 (by decide) (by decide) (pc' := 34) rfl ?_
  refine GoKit.iinc G (1 : Int32) d15_34 rfl rfl (Ls' := #[.val .null, .val (.ref b5), .val (.int (6 : Int32)), .val (.int ((1 : Int32) + (1 : Int32))), .val (.ref m1)]) rfl (pc' := 37) rfl ?_
  show Run _ _ _ _ _ _ _ _ _ _ _ _ _ _ _ _ _ _ _ _ (mkF m 37 #[.val .null, .val (.ref b5), .val (.int (6 : Int32)), .val (.int (2 : Int32)), .val (.ref m1)] [])
  refine GoKit.goto G d15_37 (by decide) (pc' := 9) rfl ?_
  refine GoKit.iloadN G d15_9 rfl (pc' := 10) rfl ?_
  refine GoKit.iloadN G d15_10 rfl (pc' := 11) rfl ?_
  refine GoKit.icmp_ge_f G d15_11 (by decide) (pc' := 14) rfl ?_
  refine GoKit.aloadN G d15_14 rfl rfl (pc' := 15) rfl ?_
  refine GoKit.iloadN G d15_15 rfl (pc' := 16) rfl ?_
  refine GoKit.aaload G d15_16 A7 rfl (by rw [hcl8]; show ¬ ((2 : Int32) < 0 ∨ 6 ≤ _); decide) (v := .ref m2) (by rw [hcl8]; rfl) (pc' := 17) rfl ?_
  refine GoKit.astore G d15_17 rfl (Ls' := #[.val .null, .val (.ref b5), .val (.int (6 : Int32)), .val (.int (2 : Int32)), .val (.ref m2)]) rfl (pc' := 19) rfl ?_
  refine GoKit.aload G d15_19 rfl rfl (pc' := 21) rfl ?_
  refine GoKit.getf G d15_21 (wi hw 94 rfl) Via.refl ((FL2.ext EZ).keep K3 nin0) (pc' := 24) rfl ?_
  refine GoKit.aloadN G d15_24 rfl rfl (pc' := 25) rfl ?_
  refine GoKit.callVirtualP G d15_25 (wi hw 96 rfl) (wi hw 97 rfl) (wi hw 99 rfl) (wi hw 98 rfl) (wi hw 6 rfl) (wi hw 100 rfl) (by decide) ((SL2.ext EZ).keep KP9).1 (W := 0) (argsL := [.null]) (rest := []) (con_equalsNull l hw) rfl (lenOf pd_11 rfl) rfl (by decide) (Nat.le_of_eq rfl) (by decide) (by decide) (by decide) (cells' := 1) (slots' := 6) rfl rfl (pc' := 28) rfl ?_
  show Run _ _ _ _ _ _ _ _ _ _ _ _ _ _ _ _ _ _ _ _ (mkF m 28 #[.val .null, .val (.ref b5), .val (.int (6 : Int32)), .val (.int (2 : Int32)), .val (.ref m2)] [(.int 0)])
  refine GoKit.if_eq_t G d15_28 (by decide) (by decide) (pc' := 34) rfl ?_
  refine GoKit.iinc G (1 : Int32) d15_34 rfl rfl (Ls' := #[.val .null, .val (.ref b5), .val (.int (6 : Int32)), .val (.int ((2 : Int32) + (1 : Int32))), .val (.ref m2)]) rfl (pc' := 37) rfl ?_
  show Run _ _ _ _ _ _ _ _ _ _ _ _ _ _ _ _ _ _ _ _ (mkF m 37 #[.val .null, .val (.ref b5), .val (.int (6 : Int32)), .val (.int (3 : Int32)), .val (.ref m2)] [])
  refine GoKit.goto G d15_37 (by decide) (pc' := 9) rfl ?_
  refine GoKit.iloadN G d15_9 rfl (pc' := 10) rfl ?_
  refine GoKit.iloadN G d15_10 rfl (pc' := 11) rfl ?_
  refine GoKit.icmp_ge_f G d15_11 (by decide) (pc' := 14) rfl ?_
  refine GoKit.aloadN G d15_14 rfl rfl (pc' := 15) rfl ?_
  refine GoKit.iloadN G d15_15 rfl (pc' := 16) rfl ?_
  refine GoKit.aaload G d15_16 A7 rfl (by rw [hcl8]; show ¬ ((3 : Int32) < 0 ∨ 6 ≤ _); decide) (v := .ref m3) (by rw [hcl8]; rfl) (pc' := 17) rfl ?_
  refine GoKit.astore G d15_17 rfl (Ls' := #[.val .null, .val (.ref b5), .val (.int (6 : Int32)), .val (.int (3 : Int32)), .val (.ref m3)]) rfl (pc' := 19) rfl ?_
  refine GoKit.aload G d15_19 rfl rfl (pc' := 21) rfl ?_
  refine GoKit.getf G d15_21 (wi hw 94 rfl) Via.refl ((FL3.ext EZ).keep K3 nin0) (pc' := 24) rfl ?_
  refine GoKit.aloadN G d15_24 rfl rfl (pc' := 25) rfl ?_
  refine GoKit.callVirtualP G d15_25 (wi hw 96 rfl) (wi hw 97 rfl) (wi hw 99 rfl) (wi hw 98 rfl) (wi hw 6 rfl) (wi hw 100 rfl) (by decide) ((SL3.ext EZ).keep KP9).1 (W := 0) (argsL := [.null]) (rest := []) (con_equalsNull l hw) rfl (lenOf pd_11 rfl) rfl (by decide) (Nat.le_of_eq rfl) (by decide) (by decide) (by decide) (cells' := 1) (slots' := 6) rfl rfl (pc' := 28) rfl ?_
  show Run _ _ _ _ _ _ _ _ _ _ _ _ _ _ _ _ _ _ _ _ (mkF m 28 #[.val .null, .val (.ref b5), .val (.int (6 : Int32)), .val (.int (3 : Int32)), .val (.ref m3)] [(.int 0)])
  refine GoKit.if_eq_t G d15_28 (by decide) (by decide) (pc' := 34) rfl ?_
  refine GoKit.iinc G (1 : Int32) d15_34 rfl rfl (Ls' := #[.val .null, .val (.ref b5), .val (.int (6 : Int32)), .val (.int ((3 : Int32) + (1 : Int32))), .val (.ref m3)]) rfl (pc' := 37) rfl ?_
  show Run _ _ _ _ _ _ _ _ _ _ _ _ _ _ _ _ _ _ _ _ (mkF m 37 #[.val .null, .val (.ref b5), .val (.int (6 : Int32)), .val (.int (4 : Int32)), .val (.ref m3)] [])
  refine GoKit.goto G d15_37 (by decide) (pc' := 9) rfl ?_
  refine GoKit.iloadN G d15_9 rfl (pc' := 10) rfl ?_
  refine GoKit.iloadN G d15_10 rfl (pc' := 11) rfl ?_
  refine GoKit.icmp_ge_f G d15_11 (by decide) (pc' := 14) rfl ?_
  refine GoKit.aloadN G d15_14 rfl rfl (pc' := 15) rfl ?_
  refine GoKit.iloadN G d15_15 rfl (pc' := 16) rfl ?_
  refine GoKit.aaload G d15_16 A7 rfl (by rw [hcl8]; show ¬ ((4 : Int32) < 0 ∨ 6 ≤ _); decide) (v := .ref m4) (by rw [hcl8]; rfl) (pc' := 17) rfl ?_
  refine GoKit.astore G d15_17 rfl (Ls' := #[.val .null, .val (.ref b5), .val (.int (6 : Int32)), .val (.int (4 : Int32)), .val (.ref m4)]) rfl (pc' := 19) rfl ?_
  refine GoKit.aload G d15_19 rfl rfl (pc' := 21) rfl ?_
  refine GoKit.getf G d15_21 (wi hw 94 rfl) Via.refl ((FL4.ext EZ).keep K3 nin0) (pc' := 24) rfl ?_
  refine GoKit.aloadN G d15_24 rfl rfl (pc' := 25) rfl ?_
  refine GoKit.callVirtualP G d15_25 (wi hw 96 rfl) (wi hw 97 rfl) (wi hw 99 rfl) (wi hw 98 rfl) (wi hw 6 rfl) (wi hw 100 rfl) (by decide) ((SL4.ext EZ).keep KP9).1 (W := 0) (argsL := [.null]) (rest := []) (con_equalsNull l hw) rfl (lenOf pd_11 rfl) rfl (by decide) (Nat.le_of_eq rfl) (by decide) (by decide) (by decide) (cells' := 1) (slots' := 6) rfl rfl (pc' := 28) rfl ?_
  show Run _ _ _ _ _ _ _ _ _ _ _ _ _ _ _ _ _ _ _ _ (mkF m 28 #[.val .null, .val (.ref b5), .val (.int (6 : Int32)), .val (.int (4 : Int32)), .val (.ref m4)] [(.int 0)])
  refine GoKit.if_eq_t G d15_28 (by decide) (by decide) (pc' := 34) rfl ?_
  refine GoKit.iinc G (1 : Int32) d15_34 rfl rfl (Ls' := #[.val .null, .val (.ref b5), .val (.int (6 : Int32)), .val (.int ((4 : Int32) + (1 : Int32))), .val (.ref m4)]) rfl (pc' := 37) rfl ?_
  show Run _ _ _ _ _ _ _ _ _ _ _ _ _ _ _ _ _ _ _ _ (mkF m 37 #[.val .null, .val (.ref b5), .val (.int (6 : Int32)), .val (.int (5 : Int32)), .val (.ref m4)] [])
  refine GoKit.goto G d15_37 (by decide) (pc' := 9) rfl ?_
  refine GoKit.iloadN G d15_9 rfl (pc' := 10) rfl ?_
  refine GoKit.iloadN G d15_10 rfl (pc' := 11) rfl ?_
  refine GoKit.icmp_ge_f G d15_11 (by decide) (pc' := 14) rfl ?_
  refine GoKit.aloadN G d15_14 rfl rfl (pc' := 15) rfl ?_
  refine GoKit.iloadN G d15_15 rfl (pc' := 16) rfl ?_
  refine GoKit.aaload G d15_16 A7 rfl (by rw [hcl8]; show ¬ ((5 : Int32) < 0 ∨ 6 ≤ _); decide) (v := .ref m5) (by rw [hcl8]; rfl) (pc' := 17) rfl ?_
  refine GoKit.astore G d15_17 rfl (Ls' := #[.val .null, .val (.ref b5), .val (.int (6 : Int32)), .val (.int (5 : Int32)), .val (.ref m5)]) rfl (pc' := 19) rfl ?_
  refine GoKit.aload G d15_19 rfl rfl (pc' := 21) rfl ?_
  refine GoKit.getf G d15_21 (wi hw 94 rfl) Via.refl ((FL5.ext EZ).keep K3 nin0) (pc' := 24) rfl ?_
  refine GoKit.aloadN G d15_24 rfl rfl (pc' := 25) rfl ?_
  refine GoKit.callVirtualP G d15_25 (wi hw 96 rfl) (wi hw 97 rfl) (wi hw 99 rfl) (wi hw 98 rfl) (wi hw 6 rfl) (wi hw 100 rfl) (by decide) ((SL5.ext EZ).keep KP9).1 (W := 0) (argsL := [.null]) (rest := []) (con_equalsNull l hw) rfl (lenOf pd_11 rfl) rfl (by decide) (Nat.le_of_eq rfl) (by decide) (by decide) (by decide) (cells' := 1) (slots' := 6) rfl rfl (pc' := 28) rfl ?_
  show Run _ _ _ _ _ _ _ _ _ _ _ _ _ _ _ _ _ _ _ _ (mkF m 28 #[.val .null, .val (.ref b5), .val (.int (6 : Int32)), .val (.int (5 : Int32)), .val (.ref m5)] [(.int 0)])
  refine GoKit.if_eq_t G d15_28 (by decide) (by decide) (pc' := 34) rfl ?_
  refine GoKit.iinc G (1 : Int32) d15_34 rfl rfl (Ls' := #[.val .null, .val (.ref b5), .val (.int (6 : Int32)), .val (.int ((5 : Int32) + (1 : Int32))), .val (.ref m5)]) rfl (pc' := 37) rfl ?_
  show Run _ _ _ _ _ _ _ _ _ _ _ _ _ _ _ _ _ _ _ _ (mkF m 37 #[.val .null, .val (.ref b5), .val (.int (6 : Int32)), .val (.int (6 : Int32)), .val (.ref m5)] [])
  refine GoKit.goto G d15_37 (by decide) (pc' := 9) rfl ?_
  refine GoKit.iloadN G d15_9 rfl (pc' := 10) rfl ?_
  refine GoKit.iloadN G d15_10 rfl (pc' := 11) rfl ?_
  refine GoKit.icmp_ge_t G d15_11 (by decide) (by decide) (pc' := 40) rfl ?_
  refine GoKit.aconstNull G d15_40 (pc' := 41) rfl ?_
  refine GoKit.retRef G d15_41 rfl rfl rfl (by decide) (by decide) ?_
  exact rfl
theorem d15_31 : decode prog_6_method_6_code 31 = .ok (.aload 4, 2) := by decide +kernel
theorem d15_33 : decode prog_6_method_6_code 33 = .ok (.areturn, 1) := by decide +kernel
abbrev rm_con_lab : Room := { frames := 2, cells := 1, slots := 6, locals := 28 }
set_option maxRecDepth 65536 in
set_option maxHeartbeats 40000000 in
theorem con_lab (l : Launch) {Z : State} {a0 : Array Value} (hw : ∀ d ∈ tables_1, d.before a0 Z = true) {n0 : Nat} {h0 : Heap} {m0 m1 m2 m3 m4 m5 : Addr} (M : MS Z m0 m1 m2 m3 m4 m5) {a : Addr} {cs : List Int32} (S : Lat Z h0 a cs) (HC : Cst Z) :
    Con l Z true ELs n0 (⟨"com/example/re_thread/rethread/eval/Measure", "labelled", "(Ljava/lang/String;)Lcom/example/re_thread/rethread/eval/Measure;"⟩ : MethodName) prog_6_method_6_code 5 (some (.object "com/example/re_thread/rethread/eval/Measure")) rm_con_lab [] #[(.ref a)] h0 [] (fun v h => v = some (pickM m0 m1 m2 m3 m4 m5 cs)) := by
  refine Con.intro (plainFor_of_name pn_com_example_re_thread_rethread_eval_Measure) (hELs hw) ?_
  intro p e s m below meth c hh G
  refine castRun (g' := mkF m 0 #[.val (.ref a), .unset, .unset, .unset, .unset] []) (by first | rfl | (simp [entryFrame, mkF, argsToLocals, Value.category, maxLocals]; done)) ?_
  obtain ⟨lb0, FL0, SL0⟩ := (M.1.1).2.2
  obtain ⟨lb1, FL1, SL1⟩ := (M.1.2.1).2.2
  obtain ⟨lb2, FL2, SL2⟩ := (M.1.2.2.1).2.2
  obtain ⟨lb3, FL3, SL3⟩ := (M.1.2.2.2.1).2.2
  obtain ⟨lb4, FL4, SL4⟩ := (M.1.2.2.2.2.1).2.2
  obtain ⟨lb5, FL5, SL5⟩ := (M.1.2.2.2.2.2).2.2
  refine Run.know (fun EZ _ _ => ?_)
  refine GoKit.callStatic G d15_0 (wi hw 73 rfl) (wi hw 74 rfl) (wi hw 71 rfl) (wi hw 75 rfl) (by decide) (owc := []) (W := 0) (argsL := []) (rest := []) (con_values l hw M) rfl (lenOf pd_10 rfl) rfl (by decide) (Nat.le_of_eq rfl) (by decide) (by decide) (by decide) (fun _ q => nomatch q) (cells' := 1) (slots' := 6) rfl rfl (pc' := 3) rfl (fun r1 h4 q2 K3 => ?_)
  obtain ⟨b5, cl6, rfl, A7, hcl8⟩ := q2
  show Run _ _ _ _ _ _ _ _ _ _ _ _ _ _ _ _ _ _ _ _ (mkF m 3 #[.val (.ref a), .unset, .unset, .unset, .unset] [(.ref b5)])
  refine GoKit.astoreN G d15_3 rfl (Ls' := #[.val (.ref a), .val (.ref b5), .unset, .unset, .unset]) rfl (pc' := 4) rfl ?_
  refine GoKit.aloadN G d15_4 rfl rfl (pc' := 5) rfl ?_
  refine GoKit.arrlen G d15_5 A7 (pc' := 6) rfl ?_
  rw [show cl6.slots.size.toInt32 = (6 : Int32) from by rw [hcl8]; rfl]
  refine GoKit.istoreN G d15_6 (Ls' := #[.val (.ref a), .val (.ref b5), .val (.int (6 : Int32)), .unset, .unset]) rfl (pc' := 7) rfl ?_
  refine GoKit.iconst G (0 : Int32) d15_7 rfl (pc' := 8) rfl ?_
  refine GoKit.istoreN G d15_8 (Ls' := #[.val (.ref a), .val (.ref b5), .val (.int (6 : Int32)), .val (.int (0 : Int32)), .unset]) rfl (pc' := 9) rfl ?_
  refine GoKit.iloadN G d15_9 rfl (pc' := 10) rfl ?_
  refine GoKit.iloadN G d15_10 rfl (pc' := 11) rfl ?_
  refine GoKit.icmp_ge_f G d15_11 (by decide) (pc' := 14) rfl ?_
  refine GoKit.aloadN G d15_14 rfl rfl (pc' := 15) rfl ?_
  refine GoKit.iloadN G d15_15 rfl (pc' := 16) rfl ?_
  refine GoKit.aaload G d15_16 A7 rfl (by rw [hcl8]; show ¬ ((0 : Int32) < 0 ∨ 6 ≤ _); decide) (v := .ref m0) (by rw [hcl8]; rfl) (pc' := 17) rfl ?_
  refine GoKit.astore G d15_17 rfl (Ls' := #[.val (.ref a), .val (.ref b5), .val (.int (6 : Int32)), .val (.int (0 : Int32)), .val (.ref m0)]) rfl (pc' := 19) rfl ?_
  refine GoKit.aload G d15_19 rfl rfl (pc' := 21) rfl ?_
  refine GoKit.getf G d15_21 (wi hw 94 rfl) Via.refl ((FL0.ext EZ).keep K3 nin0) (pc' := 24) rfl ?_
  refine GoKit.aloadN G d15_24 rfl rfl (pc' := 25) rfl ?_
  have KP9 : Keep h0 h4 [] := ((Keep.refl h0 []).trans K3 all0)
  refine GoKit.callVirtualP G d15_25 (wi hw 96 rfl) (wi hw 97 rfl) (wi hw 99 rfl) (wi hw 98 rfl) (wi hw 6 rfl) (wi hw 100 rfl) (by decide) ((SL0.ext EZ).keep KP9).1 (W := 0) (argsL := [(.ref a)]) (rest := []) (con_equals l hw (cs := txt0) (ds := cs) ((SL0.ext EZ).keep KP9) (S.keep KP9) HC) rfl (lenOf pd_11 rfl) rfl (by decide) (Nat.le_of_eq rfl) (by decide) (by decide) (by decide) (cells' := 1) (slots' := 6) rfl rfl (pc' := 28) rfl ?_
  show Run _ _ _ _ _ _ _ _ _ _ _ _ _ _ _ _ _ _ _ _ (mkF m 28 #[.val (.ref a), .val (.ref b5), .val (.int (6 : Int32)), .val (.int (0 : Int32)), .val (.ref m0)] [(.int (if txt0 = cs then 1 else 0))])
  refine GoKit.if_eq G d15_28 (by decide) (pt := 34) (pf := 31) rfl rfl (fun hb10 => ?_) (fun hb10 => ?_)
  · refine GoKit.iinc G (1 : Int32) d15_34 rfl rfl (Ls' := #[.val (.ref a), .val (.ref b5), .val (.int (6 : Int32)), .val (.int ((0 : Int32) + (1 : Int32))), .val (.ref m0)]) rfl (pc' := 37) rfl ?_
    show Run _ _ _ _ _ _ _ _ _ _ _ _ _ _ _ _ _ _ _ _ (mkF m 37 #[.val (.ref a), .val (.ref b5), .val (.int (6 : Int32)), .val (.int (1 : Int32)), .val (.ref m0)] [])
    refine GoKit.goto G d15_37 (by decide) (pc' := 9) rfl ?_
    refine GoKit.iloadN G d15_9 rfl (pc' := 10) rfl ?_
    refine GoKit.iloadN G d15_10 rfl (pc' := 11) rfl ?_
    refine GoKit.icmp_ge_f G d15_11 (by decide) (pc' := 14) rfl ?_
    refine GoKit.aloadN G d15_14 rfl rfl (pc' := 15) rfl ?_
    refine GoKit.iloadN G d15_15 rfl (pc' := 16) rfl ?_
    refine GoKit.aaload G d15_16 A7 rfl (by rw [hcl8]; show ¬ ((1 : Int32) < 0 ∨ 6 ≤ _); decide) (v := .ref m1) (by rw [hcl8]; rfl) (pc' := 17) rfl ?_
    refine GoKit.astore G d15_17 rfl (Ls' := #[.val (.ref a), .val (.ref b5), .val (.int (6 : Int32)), .val (.int (1 : Int32)), .val (.ref m1)]) rfl (pc' := 19) rfl ?_
    refine GoKit.aload G d15_19 rfl rfl (pc' := 21) rfl ?_
    refine GoKit.getf G d15_21 (wi hw 94 rfl) Via.refl ((FL1.ext EZ).keep K3 nin0) (pc' := 24) rfl ?_
    refine GoKit.aloadN G d15_24 rfl rfl (pc' := 25) rfl ?_
    refine GoKit.callVirtualP G d15_25 (wi hw 96 rfl) (wi hw 97 rfl) (wi hw 99 rfl) (wi hw 98 rfl) (wi hw 6 rfl) (wi hw 100 rfl) (by decide) ((SL1.ext EZ).keep KP9).1 (W := 0) (argsL := [(.ref a)]) (rest := []) (con_equals l hw (cs := txt1) (ds := cs) ((SL1.ext EZ).keep KP9) (S.keep KP9) HC) rfl (lenOf pd_11 rfl) rfl (by decide) (Nat.le_of_eq rfl) (by decide) (by decide) (by decide) (cells' := 1) (slots' := 6) rfl rfl (pc' := 28) rfl ?_
    show Run _ _ _ _ _ _ _ _ _ _ _ _ _ _ _ _ _ _ _ _ (mkF m 28 #[.val (.ref a), .val (.ref b5), .val (.int (6 : Int32)), .val (.int (1 : Int32)), .val (.ref m1)] [(.int (if txt1 = cs then 1 else 0))])
    refine GoKit.if_eq G d15_28 (by decide) (pt := 34) (pf := 31) rfl rfl (fun hb11 => ?_) (fun hb11 => ?_)
    · refine GoKit.iinc G (1 : Int32) d15_34 rfl rfl (Ls' := #[.val (.ref a), .val (.ref b5), .val (.int (6 : Int32)), .val (.int ((1 : Int32) + (1 : Int32))), .val (.ref m1)]) rfl (pc' := 37) rfl ?_
      show Run _ _ _ _ _ _ _ _ _ _ _ _ _ _ _ _ _ _ _ _ (mkF m 37 #[.val (.ref a), .val (.ref b5), .val (.int (6 : Int32)), .val (.int (2 : Int32)), .val (.ref m1)] [])
      refine GoKit.goto G d15_37 (by decide) (pc' := 9) rfl ?_
      refine GoKit.iloadN G d15_9 rfl (pc' := 10) rfl ?_
      refine GoKit.iloadN G d15_10 rfl (pc' := 11) rfl ?_
      refine GoKit.icmp_ge_f G d15_11 (by decide) (pc' := 14) rfl ?_
      refine GoKit.aloadN G d15_14 rfl rfl (pc' := 15) rfl ?_
      refine GoKit.iloadN G d15_15 rfl (pc' := 16) rfl ?_
      refine GoKit.aaload G d15_16 A7 rfl (by rw [hcl8]; show ¬ ((2 : Int32) < 0 ∨ 6 ≤ _); decide) (v := .ref m2) (by rw [hcl8]; rfl) (pc' := 17) rfl ?_
      refine GoKit.astore G d15_17 rfl (Ls' := #[.val (.ref a), .val (.ref b5), .val (.int (6 : Int32)), .val (.int (2 : Int32)), .val (.ref m2)]) rfl (pc' := 19) rfl ?_
      refine GoKit.aload G d15_19 rfl rfl (pc' := 21) rfl ?_
      refine GoKit.getf G d15_21 (wi hw 94 rfl) Via.refl ((FL2.ext EZ).keep K3 nin0) (pc' := 24) rfl ?_
      refine GoKit.aloadN G d15_24 rfl rfl (pc' := 25) rfl ?_
      refine GoKit.callVirtualP G d15_25 (wi hw 96 rfl) (wi hw 97 rfl) (wi hw 99 rfl) (wi hw 98 rfl) (wi hw 6 rfl) (wi hw 100 rfl) (by decide) ((SL2.ext EZ).keep KP9).1 (W := 0) (argsL := [(.ref a)]) (rest := []) (con_equals l hw (cs := txt2) (ds := cs) ((SL2.ext EZ).keep KP9) (S.keep KP9) HC) rfl (lenOf pd_11 rfl) rfl (by decide) (Nat.le_of_eq rfl) (by decide) (by decide) (by decide) (cells' := 1) (slots' := 6) rfl rfl (pc' := 28) rfl ?_
      show Run _ _ _ _ _ _ _ _ _ _ _ _ _ _ _ _ _ _ _ _ (mkF m 28 #[.val (.ref a), .val (.ref b5), .val (.int (6 : Int32)), .val (.int (2 : Int32)), .val (.ref m2)] [(.int (if txt2 = cs then 1 else 0))])
      refine GoKit.if_eq G d15_28 (by decide) (pt := 34) (pf := 31) rfl rfl (fun hb12 => ?_) (fun hb12 => ?_)
      · refine GoKit.iinc G (1 : Int32) d15_34 rfl rfl (Ls' := #[.val (.ref a), .val (.ref b5), .val (.int (6 : Int32)), .val (.int ((2 : Int32) + (1 : Int32))), .val (.ref m2)]) rfl (pc' := 37) rfl ?_
        show Run _ _ _ _ _ _ _ _ _ _ _ _ _ _ _ _ _ _ _ _ (mkF m 37 #[.val (.ref a), .val (.ref b5), .val (.int (6 : Int32)), .val (.int (3 : Int32)), .val (.ref m2)] [])
        refine GoKit.goto G d15_37 (by decide) (pc' := 9) rfl ?_
        refine GoKit.iloadN G d15_9 rfl (pc' := 10) rfl ?_
        refine GoKit.iloadN G d15_10 rfl (pc' := 11) rfl ?_
        refine GoKit.icmp_ge_f G d15_11 (by decide) (pc' := 14) rfl ?_
        refine GoKit.aloadN G d15_14 rfl rfl (pc' := 15) rfl ?_
        refine GoKit.iloadN G d15_15 rfl (pc' := 16) rfl ?_
        refine GoKit.aaload G d15_16 A7 rfl (by rw [hcl8]; show ¬ ((3 : Int32) < 0 ∨ 6 ≤ _); decide) (v := .ref m3) (by rw [hcl8]; rfl) (pc' := 17) rfl ?_
        refine GoKit.astore G d15_17 rfl (Ls' := #[.val (.ref a), .val (.ref b5), .val (.int (6 : Int32)), .val (.int (3 : Int32)), .val (.ref m3)]) rfl (pc' := 19) rfl ?_
        refine GoKit.aload G d15_19 rfl rfl (pc' := 21) rfl ?_
        refine GoKit.getf G d15_21 (wi hw 94 rfl) Via.refl ((FL3.ext EZ).keep K3 nin0) (pc' := 24) rfl ?_
        refine GoKit.aloadN G d15_24 rfl rfl (pc' := 25) rfl ?_
        refine GoKit.callVirtualP G d15_25 (wi hw 96 rfl) (wi hw 97 rfl) (wi hw 99 rfl) (wi hw 98 rfl) (wi hw 6 rfl) (wi hw 100 rfl) (by decide) ((SL3.ext EZ).keep KP9).1 (W := 0) (argsL := [(.ref a)]) (rest := []) (con_equals l hw (cs := txt3) (ds := cs) ((SL3.ext EZ).keep KP9) (S.keep KP9) HC) rfl (lenOf pd_11 rfl) rfl (by decide) (Nat.le_of_eq rfl) (by decide) (by decide) (by decide) (cells' := 1) (slots' := 6) rfl rfl (pc' := 28) rfl ?_
        show Run _ _ _ _ _ _ _ _ _ _ _ _ _ _ _ _ _ _ _ _ (mkF m 28 #[.val (.ref a), .val (.ref b5), .val (.int (6 : Int32)), .val (.int (3 : Int32)), .val (.ref m3)] [(.int (if txt3 = cs then 1 else 0))])
        refine GoKit.if_eq G d15_28 (by decide) (pt := 34) (pf := 31) rfl rfl (fun hb13 => ?_) (fun hb13 => ?_)
        · refine GoKit.iinc G (1 : Int32) d15_34 rfl rfl (Ls' := #[.val (.ref a), .val (.ref b5), .val (.int (6 : Int32)), .val (.int ((3 : Int32) + (1 : Int32))), .val (.ref m3)]) rfl (pc' := 37) rfl ?_
          show Run _ _ _ _ _ _ _ _ _ _ _ _ _ _ _ _ _ _ _ _ (mkF m 37 #[.val (.ref a), .val (.ref b5), .val (.int (6 : Int32)), .val (.int (4 : Int32)), .val (.ref m3)] [])
          refine GoKit.goto G d15_37 (by decide) (pc' := 9) rfl ?_
          refine GoKit.iloadN G d15_9 rfl (pc' := 10) rfl ?_
          refine GoKit.iloadN G d15_10 rfl (pc' := 11) rfl ?_
          refine GoKit.icmp_ge_f G d15_11 (by decide) (pc' := 14) rfl ?_
          refine GoKit.aloadN G d15_14 rfl rfl (pc' := 15) rfl ?_
          refine GoKit.iloadN G d15_15 rfl (pc' := 16) rfl ?_
          refine GoKit.aaload G d15_16 A7 rfl (by rw [hcl8]; show ¬ ((4 : Int32) < 0 ∨ 6 ≤ _); decide) (v := .ref m4) (by rw [hcl8]; rfl) (pc' := 17) rfl ?_
          refine GoKit.astore G d15_17 rfl (Ls' := #[.val (.ref a), .val (.ref b5), .val (.int (6 : Int32)), .val (.int (4 : Int32)), .val (.ref m4)]) rfl (pc' := 19) rfl ?_
          refine GoKit.aload G d15_19 rfl rfl (pc' := 21) rfl ?_
          refine GoKit.getf G d15_21 (wi hw 94 rfl) Via.refl ((FL4.ext EZ).keep K3 nin0) (pc' := 24) rfl ?_
          refine GoKit.aloadN G d15_24 rfl rfl (pc' := 25) rfl ?_
          refine GoKit.callVirtualP G d15_25 (wi hw 96 rfl) (wi hw 97 rfl) (wi hw 99 rfl) (wi hw 98 rfl) (wi hw 6 rfl) (wi hw 100 rfl) (by decide) ((SL4.ext EZ).keep KP9).1 (W := 0) (argsL := [(.ref a)]) (rest := []) (con_equals l hw (cs := txt4) (ds := cs) ((SL4.ext EZ).keep KP9) (S.keep KP9) HC) rfl (lenOf pd_11 rfl) rfl (by decide) (Nat.le_of_eq rfl) (by decide) (by decide) (by decide) (cells' := 1) (slots' := 6) rfl rfl (pc' := 28) rfl ?_
          show Run _ _ _ _ _ _ _ _ _ _ _ _ _ _ _ _ _ _ _ _ (mkF m 28 #[.val (.ref a), .val (.ref b5), .val (.int (6 : Int32)), .val (.int (4 : Int32)), .val (.ref m4)] [(.int (if txt4 = cs then 1 else 0))])
          refine GoKit.if_eq G d15_28 (by decide) (pt := 34) (pf := 31) rfl rfl (fun hb14 => ?_) (fun hb14 => ?_)
          · refine GoKit.iinc G (1 : Int32) d15_34 rfl rfl (Ls' := #[.val (.ref a), .val (.ref b5), .val (.int (6 : Int32)), .val (.int ((4 : Int32) + (1 : Int32))), .val (.ref m4)]) rfl (pc' := 37) rfl ?_
            show Run _ _ _ _ _ _ _ _ _ _ _ _ _ _ _ _ _ _ _ _ (mkF m 37 #[.val (.ref a), .val (.ref b5), .val (.int (6 : Int32)), .val (.int (5 : Int32)), .val (.ref m4)] [])
            refine GoKit.goto G d15_37 (by decide) (pc' := 9) rfl ?_
            refine GoKit.iloadN G d15_9 rfl (pc' := 10) rfl ?_
            refine GoKit.iloadN G d15_10 rfl (pc' := 11) rfl ?_
            refine GoKit.icmp_ge_f G d15_11 (by decide) (pc' := 14) rfl ?_
            refine GoKit.aloadN G d15_14 rfl rfl (pc' := 15) rfl ?_
            refine GoKit.iloadN G d15_15 rfl (pc' := 16) rfl ?_
            refine GoKit.aaload G d15_16 A7 rfl (by rw [hcl8]; show ¬ ((5 : Int32) < 0 ∨ 6 ≤ _); decide) (v := .ref m5) (by rw [hcl8]; rfl) (pc' := 17) rfl ?_
            refine GoKit.astore G d15_17 rfl (Ls' := #[.val (.ref a), .val (.ref b5), .val (.int (6 : Int32)), .val (.int (5 : Int32)), .val (.ref m5)]) rfl (pc' := 19) rfl ?_
            refine GoKit.aload G d15_19 rfl rfl (pc' := 21) rfl ?_
            refine GoKit.getf G d15_21 (wi hw 94 rfl) Via.refl ((FL5.ext EZ).keep K3 nin0) (pc' := 24) rfl ?_
            refine GoKit.aloadN G d15_24 rfl rfl (pc' := 25) rfl ?_
            refine GoKit.callVirtualP G d15_25 (wi hw 96 rfl) (wi hw 97 rfl) (wi hw 99 rfl) (wi hw 98 rfl) (wi hw 6 rfl) (wi hw 100 rfl) (by decide) ((SL5.ext EZ).keep KP9).1 (W := 0) (argsL := [(.ref a)]) (rest := []) (con_equals l hw (cs := txt5) (ds := cs) ((SL5.ext EZ).keep KP9) (S.keep KP9) HC) rfl (lenOf pd_11 rfl) rfl (by decide) (Nat.le_of_eq rfl) (by decide) (by decide) (by decide) (cells' := 1) (slots' := 6) rfl rfl (pc' := 28) rfl ?_
            show Run _ _ _ _ _ _ _ _ _ _ _ _ _ _ _ _ _ _ _ _ (mkF m 28 #[.val (.ref a), .val (.ref b5), .val (.int (6 : Int32)), .val (.int (5 : Int32)), .val (.ref m5)] [(.int (if txt5 = cs then 1 else 0))])
            refine GoKit.if_eq G d15_28 (by decide) (pt := 34) (pf := 31) rfl rfl (fun hb15 => ?_) (fun hb15 => ?_)
            · refine GoKit.iinc G (1 : Int32) d15_34 rfl rfl (Ls' := #[.val (.ref a), .val (.ref b5), .val (.int (6 : Int32)), .val (.int ((5 : Int32) + (1 : Int32))), .val (.ref m5)]) rfl (pc' := 37) rfl ?_
              show Run _ _ _ _ _ _ _ _ _ _ _ _ _ _ _ _ _ _ _ _ (mkF m 37 #[.val (.ref a), .val (.ref b5), .val (.int (6 : Int32)), .val (.int (6 : Int32)), .val (.ref m5)] [])
              refine GoKit.goto G d15_37 (by decide) (pc' := 9) rfl ?_
              refine GoKit.iloadN G d15_9 rfl (pc' := 10) rfl ?_
              refine GoKit.iloadN G d15_10 rfl (pc' := 11) rfl ?_
              refine GoKit.icmp_ge_t G d15_11 (by decide) (by decide) (pc' := 40) rfl ?_
              refine GoKit.aconstNull G d15_40 (pc' := 41) rfl ?_
              refine GoKit.retRef G d15_41 rfl rfl rfl (by decide) (by decide) ?_
              exact by unfold pickM; rw [if_neg (fun q => ite_f hb10 q.symm), if_neg (fun q => ite_f hb11 q.symm), if_neg (fun q => ite_f hb12 q.symm), if_neg (fun q => ite_f hb13 q.symm), if_neg (fun q => ite_f hb14 q.symm), if_neg (fun q => ite_f hb15 q.symm)]
            · refine GoKit.aload G d15_31 rfl rfl (pc' := 33) rfl ?_
              refine GoKit.retRef G d15_33 rfl rfl rfl (by decide) (by decide) ?_
              exact by unfold pickM; rw [if_neg (fun q => ite_f hb10 q.symm), if_neg (fun q => ite_f hb11 q.symm), if_neg (fun q => ite_f hb12 q.symm), if_neg (fun q => ite_f hb13 q.symm), if_neg (fun q => ite_f hb14 q.symm), if_pos (ite_t hb15).symm]
          · refine GoKit.aload G d15_31 rfl rfl (pc' := 33) rfl ?_
            refine GoKit.retRef G d15_33 rfl rfl rfl (by decide) (by decide) ?_
            exact by unfold pickM; rw [if_neg (fun q => ite_f hb10 q.symm), if_neg (fun q => ite_f hb11 q.symm), if_neg (fun q => ite_f hb12 q.symm), if_neg (fun q => ite_f hb13 q.symm), if_pos (ite_t hb14).symm]
        · refine GoKit.aload G d15_31 rfl rfl (pc' := 33) rfl ?_
          refine GoKit.retRef G d15_33 rfl rfl rfl (by decide) (by decide) ?_
          exact by unfold pickM; rw [if_neg (fun q => ite_f hb10 q.symm), if_neg (fun q => ite_f hb11 q.symm), if_neg (fun q => ite_f hb12 q.symm), if_pos (ite_t hb13).symm]
      · refine GoKit.aload G d15_31 rfl rfl (pc' := 33) rfl ?_
        refine GoKit.retRef G d15_33 rfl rfl rfl (by decide) (by decide) ?_
        exact by unfold pickM; rw [if_neg (fun q => ite_f hb10 q.symm), if_neg (fun q => ite_f hb11 q.symm), if_pos (ite_t hb12).symm]
    · refine GoKit.aload G d15_31 rfl rfl (pc' := 33) rfl ?_
      refine GoKit.retRef G d15_33 rfl rfl rfl (by decide) (by decide) ?_
      exact by unfold pickM; rw [if_neg (fun q => ite_f hb10 q.symm), if_pos (ite_t hb11).symm]
  · refine GoKit.aload G d15_31 rfl rfl (pc' := 33) rfl ?_
    refine GoKit.retRef G d15_33 rfl rfl rfl (by decide) (by decide) ?_
    exact by unfold pickM; rw [if_pos (ite_t hb10).symm]
theorem d19_0 : decode method_4_code 0 = .ok (.aload_n 0, 1) := by decide +kernel
theorem d19_1 : decode method_4_code 1 = .ok (.ifnonnull 5, 3) := by decide +kernel
theorem d19_4 : decode method_4_code 4 = .ok (.aconst_null, 1) := by decide +kernel
theorem d19_5 : decode method_4_code 5 = .ok (.areturn, 1) := by decide +kernel
theorem pn_com_example_re_thread_rethread_eval_MeasureLabelledPinLaw : plainName "com/example/re_thread/rethread/eval/MeasureLabelledPinLaw" = true := by first | (simp [plainName, overriddenIn]; done) | decide +kernel
abbrev rm_con_expNull : Room := { frames := 0, cells := 0, slots := 0, locals := 0 }
set_option maxRecDepth 65536 in
set_option maxHeartbeats 40000000 in
theorem con_expNull (l : Launch) {Z : State} {a0 : Array Value} (hw : ∀ d ∈ tables_1, d.before a0 Z = true) {n0 : Nat} {h0 : Heap} {m0 m1 m2 m3 m4 m5 : Addr} (M : MS Z m0 m1 m2 m3 m4 m5) :
    Con l Z true ELs n0 (⟨"com/example/re_thread/rethread/eval/MeasureLabelledPinLaw", "expected", "(Ljava/lang/String;)Lcom/example/re_thread/rethread/eval/Measure;"⟩ : MethodName) method_4_code 1 (some (.object "com/example/re_thread/rethread/eval/Measure")) rm_con_expNull [] #[.null] h0 [] (fun v h => v = some .null) := by
  refine Con.intro (plainFor_of_name pn_com_example_re_thread_rethread_eval_MeasureLabelledPinLaw) (hELs hw) ?_
  intro p e s m below meth c hh G
  refine castRun (g' := mkF m 0 #[.val .null] []) (by first | rfl | (simp [entryFrame, mkF, argsToLocals, Value.category, maxLocals]; done)) ?_
  refine GoKit.aloadN G d19_0 rfl rfl (pc' := 1) rfl ?_
  refine GoKit.ifnonnull_f G d19_1 (pc' := 4) rfl ?_
  refine GoKit.aconstNull G d19_4 (pc' := 5) rfl ?_
  refine GoKit.retRef G d19_5 rfl rfl rfl (by decide) (by decide) ?_
  exact rfl
theorem d19_6 : decode method_4_code 6 = .ok (.aload_n 0, 1) := by decide +kernel
theorem d19_7 : decode method_4_code 7 = .ok (.ldc 41, 2) := by decide +kernel
theorem d19_9 : decode method_4_code 9 = .ok (.invokevirtual 53, 3) := by decide +kernel
theorem d19_12 : decode method_4_code 12 = .ok (.ifCond .eq 7, 3) := by decide +kernel
theorem d19_19 : decode method_4_code 19 = .ok (.aload_n 0, 1) := by decide +kernel
theorem d19_20 : decode method_4_code 20 = .ok (.ldc 43, 2) := by decide +kernel
theorem d19_22 : decode method_4_code 22 = .ok (.invokevirtual 53, 3) := by decide +kernel
theorem d19_25 : decode method_4_code 25 = .ok (.ifCond .eq 7, 3) := by decide +kernel
theorem d19_32 : decode method_4_code 32 = .ok (.aload_n 0, 1) := by decide +kernel
theorem d19_33 : decode method_4_code 33 = .ok (.ldc 45, 2) := by decide +kernel
theorem d19_35 : decode method_4_code 35 = .ok (.invokevirtual 53, 3) := by decide +kernel
theorem d19_38 : decode method_4_code 38 = .ok (.ifCond .eq 7, 3) := by decide +kernel
theorem d19_45 : decode method_4_code 45 = .ok (.aload_n 0, 1) := by decide +kernel
theorem d19_46 : decode method_4_code 46 = .ok (.ldc 47, 2) := by decide +kernel
theorem d19_48 : decode method_4_code 48 = .ok (.invokevirtual 53, 3) := by decide +kernel
theorem d19_51 : decode method_4_code 51 = .ok (.ifCond .eq 7, 3) := by decide +kernel
theorem d19_58 : decode method_4_code 58 = .ok (.aload_n 0, 1) := by decide +kernel
theorem d19_59 : decode method_4_code 59 = .ok (.ldc 49, 2) := by decide +kernel
theorem d19_61 : decode method_4_code 61 = .ok (.invokevirtual 53, 3) := by decide +kernel
theorem d19_64 : decode method_4_code 64 = .ok (.ifCond .eq 7, 3) := by decide +kernel
theorem d19_71 : decode method_4_code 71 = .ok (.aload_n 0, 1) := by decide +kernel
theorem d19_72 : decode method_4_code 72 = .ok (.ldc 51, 2) := by decide +kernel
theorem d19_74 : decode method_4_code 74 = .ok (.invokevirtual 53, 3) := by decide +kernel
theorem d19_77 : decode method_4_code 77 = .ok (.ifCond .eq 7, 3) := by decide +kernel
theorem d19_84 : decode method_4_code 84 = .ok (.aconst_null, 1) := by decide +kernel
theorem d19_85 : decode method_4_code 85 = .ok (.areturn, 1) := by decide +kernel
theorem d19_80 : decode method_4_code 80 = .ok (.getstatic 71, 3) := by decide +kernel
theorem d19_83 : decode method_4_code 83 = .ok (.areturn, 1) := by decide +kernel
theorem d19_67 : decode method_4_code 67 = .ok (.getstatic 68, 3) := by decide +kernel
theorem d19_70 : decode method_4_code 70 = .ok (.areturn, 1) := by decide +kernel
theorem d19_54 : decode method_4_code 54 = .ok (.getstatic 65, 3) := by decide +kernel
theorem d19_57 : decode method_4_code 57 = .ok (.areturn, 1) := by decide +kernel
theorem d19_41 : decode method_4_code 41 = .ok (.getstatic 62, 3) := by decide +kernel
theorem d19_44 : decode method_4_code 44 = .ok (.areturn, 1) := by decide +kernel
theorem d19_28 : decode method_4_code 28 = .ok (.getstatic 60, 3) := by decide +kernel
theorem d19_31 : decode method_4_code 31 = .ok (.areturn, 1) := by decide +kernel
theorem d19_15 : decode method_4_code 15 = .ok (.getstatic 57, 3) := by decide +kernel
theorem d19_18 : decode method_4_code 18 = .ok (.areturn, 1) := by decide +kernel
abbrev rm_con_exp : Room := { frames := 2, cells := 12, slots := 128, locals := 28 }
set_option maxRecDepth 65536 in
set_option maxHeartbeats 40000000 in
theorem con_exp (l : Launch) {Z : State} {a0 : Array Value} (hw : ∀ d ∈ tables_1, d.before a0 Z = true) {n0 : Nat} {h0 : Heap} {m0 m1 m2 m3 m4 m5 : Addr} (M : MS Z m0 m1 m2 m3 m4 m5) {a : Addr} {cs : List Int32} (S : Lat Z h0 a cs) (HC : Cst Z) :
    Con l Z true ELs n0 (⟨"com/example/re_thread/rethread/eval/MeasureLabelledPinLaw", "expected", "(Ljava/lang/String;)Lcom/example/re_thread/rethread/eval/Measure;"⟩ : MethodName) method_4_code 1 (some (.object "com/example/re_thread/rethread/eval/Measure")) rm_con_exp [] #[(.ref a)] h0 [] (fun v h => v = some (pickM m0 m1 m2 m3 m4 m5 cs)) := by
  refine Con.intro (plainFor_of_name pn_com_example_re_thread_rethread_eval_MeasureLabelledPinLaw) (hELs hw) ?_
  intro p e s m below meth c hh G
  refine castRun (g' := mkF m 0 #[.val (.ref a)] []) (by first | rfl | (simp [entryFrame, mkF, argsToLocals, Value.category, maxLocals]; done)) ?_
  refine GoKit.aloadN G d19_0 rfl rfl (pc' := 1) rfl ?_
  refine GoKit.ifnonnull_t G d19_1 (by decide) (pc' := 6) rfl ?_
  refine GoKit.aloadN G d19_6 rfl rfl (pc' := 7) rfl ?_
  refine GoKit.ldcStr G d19_7 rfl (wi hw 5 rfl) (wS hw) (by decide) (vs := [.int (77 : Int32), .int (65 : Int32), .int (80 : Int32)]) (z := (3 : Int32)) ⟨by decide +kernel, by decide +kernel⟩ (by decide) rfl (n := 12) (by decide +kernel) (by decide) (by decide) (by decide) (cells' := 2) (slots' := 16) rfl rfl (pc' := 9) rfl (fun a1 b2 k3 h10 E4 X5 FC6 FV7 A8 N9 => ?_)
  have S11 : Lat Z h10 a1 [(77 : Int32), (65 : Int32), (80 : Int32)] := latLit X5 FC6 FV7 A8 rfl (by decide +kernel) (by decide +kernel)
  have A12 : IA Z h10 b2 .byte (([(77 : Int32), (65 : Int32), (80 : Int32)] : List Int32).map fun c => c.toInt8.toInt32) := iaLit A8 rfl (by decide +kernel)
  have KP13 : Keep h0 h10 [] := ((Keep.refl h0 []).ext E4)
  refine GoKit.callVirtualP G d19_9 (wi hw 108 rfl) (wi hw 97 rfl) (wi hw 99 rfl) (wi hw 98 rfl) (wi hw 6 rfl) (wi hw 100 rfl) (by decide) (S.keep KP13).1 (W := 0) (argsL := [(.ref a1)]) (rest := []) (con_equals l hw (cs := cs) (ds := txt0) (S.keep KP13) S11 HC) rfl (lenOf pd_11 rfl) rfl (by decide) (Nat.le_of_eq rfl) (by decide) (by decide) (by decide) (cells' := 2) (slots' := 16) rfl rfl (pc' := 12) rfl ?_
  show Run _ _ _ _ _ _ _ _ _ _ _ _ _ _ _ _ _ _ _ _ (mkF m 12 #[.val (.ref a)] [(.int (if cs = txt0 then 1 else 0))])
  refine GoKit.if_eq G d19_12 (by decide) (pt := 19) (pf := 15) rfl rfl (fun hb14 => ?_) (fun hb14 => ?_)
  · refine GoKit.aloadN G d19_19 rfl rfl (pc' := 20) rfl ?_
    refine GoKit.ldcStr G d19_20 rfl (wi hw 110 rfl) (wS hw) (by decide) (vs := [.int (77 : Int32), .int (82 : Int32), .int (82 : Int32)]) (z := (3 : Int32)) ⟨by decide +kernel, by decide +kernel⟩ (by decide) rfl (n := 12) (by decide +kernel) (by decide) (by decide) (by decide) (cells' := 4) (slots' := 32) rfl rfl (pc' := 22) rfl (fun a15 b16 k17 h24 E18 X19 FC20 FV21 A22 N23 => ?_)
    have S25 : Lat Z h24 a15 [(77 : Int32), (82 : Int32), (82 : Int32)] := latLit X19 FC20 FV21 A22 rfl (by decide +kernel) (by decide +kernel)
    have A26 : IA Z h24 b16 .byte (([(77 : Int32), (82 : Int32), (82 : Int32)] : List Int32).map fun c => c.toInt8.toInt32) := iaLit A22 rfl (by decide +kernel)
    have KP27 : Keep h0 h24 [] := (KP13.ext E18)
    refine GoKit.callVirtualP G d19_22 (wi hw 108 rfl) (wi hw 97 rfl) (wi hw 99 rfl) (wi hw 98 rfl) (wi hw 6 rfl) (wi hw 100 rfl) (by decide) (S.keep KP27).1 (W := 0) (argsL := [(.ref a15)]) (rest := []) (con_equals l hw (cs := cs) (ds := txt1) (S.keep KP27) S25 HC) rfl (lenOf pd_11 rfl) rfl (by decide) (Nat.le_of_eq rfl) (by decide) (by decide) (by decide) (cells' := 4) (slots' := 32) rfl rfl (pc' := 25) rfl ?_
    show Run _ _ _ _ _ _ _ _ _ _ _ _ _ _ _ _ _ _ _ _ (mkF m 25 #[.val (.ref a)] [(.int (if cs = txt1 then 1 else 0))])
    refine GoKit.if_eq G d19_25 (by decide) (pt := 32) (pf := 28) rfl rfl (fun hb28 => ?_) (fun hb28 => ?_)
    · refine GoKit.aloadN G d19_32 rfl rfl (pc' := 33) rfl ?_
      refine GoKit.ldcStr G d19_33 rfl (wi hw 112 rfl) (wS hw) (by decide) (vs := [.int (80 : Int32), .int (64 : Int32), .int (49 : Int32), .int (48 : Int32)]) (z := (4 : Int32)) ⟨by decide +kernel, by decide +kernel⟩ (by decide) rfl (n := 16) (by decide +kernel) (by decide) (by decide) (by decide) (cells' := 6) (slots' := 52) rfl rfl (pc' := 35) rfl (fun a29 b30 k31 h38 E32 X33 FC34 FV35 A36 N37 => ?_)
      have S39 : Lat Z h38 a29 [(80 : Int32), (64 : Int32), (49 : Int32), (48 : Int32)] := latLit X33 FC34 FV35 A36 rfl (by decide +kernel) (by decide +kernel)
      have A40 : IA Z h38 b30 .byte (([(80 : Int32), (64 : Int32), (49 : Int32), (48 : Int32)] : List Int32).map fun c => c.toInt8.toInt32) := iaLit A36 rfl (by decide +kernel)
      have KP41 : Keep h0 h38 [] := (KP27.ext E32)
      refine GoKit.callVirtualP G d19_35 (wi hw 108 rfl) (wi hw 97 rfl) (wi hw 99 rfl) (wi hw 98 rfl) (wi hw 6 rfl) (wi hw 100 rfl) (by decide) (S.keep KP41).1 (W := 0) (argsL := [(.ref a29)]) (rest := []) (con_equals l hw (cs := cs) (ds := txt2) (S.keep KP41) S39 HC) rfl (lenOf pd_11 rfl) rfl (by decide) (Nat.le_of_eq rfl) (by decide) (by decide) (by decide) (cells' := 6) (slots' := 52) rfl rfl (pc' := 38) rfl ?_
      show Run _ _ _ _ _ _ _ _ _ _ _ _ _ _ _ _ _ _ _ _ (mkF m 38 #[.val (.ref a)] [(.int (if cs = txt2 then 1 else 0))])
      refine GoKit.if_eq G d19_38 (by decide) (pt := 45) (pf := 41) rfl rfl (fun hb42 => ?_) (fun hb42 => ?_)
      · refine GoKit.aloadN G d19_45 rfl rfl (pc' := 46) rfl ?_
        refine GoKit.ldcStr G d19_46 rfl (wi hw 117 rfl) (wS hw) (by decide) (vs := [.int (110 : Int32), .int (68 : Int32), .int (67 : Int32), .int (71 : Int32), .int (64 : Int32), .int (49 : Int32), .int (48 : Int32)]) (z := (7 : Int32)) ⟨by decide +kernel, by decide +kernel⟩ (by decide) rfl (n := 28) (by decide +kernel) (by decide) (by decide) (by decide) (cells' := 8) (slots' := 84) rfl rfl (pc' := 48) rfl (fun a43 b44 k45 h52 E46 X47 FC48 FV49 A50 N51 => ?_)
        have S53 : Lat Z h52 a43 [(110 : Int32), (68 : Int32), (67 : Int32), (71 : Int32), (64 : Int32), (49 : Int32), (48 : Int32)] := latLit X47 FC48 FV49 A50 rfl (by decide +kernel) (by decide +kernel)
        have A54 : IA Z h52 b44 .byte (([(110 : Int32), (68 : Int32), (67 : Int32), (71 : Int32), (64 : Int32), (49 : Int32), (48 : Int32)] : List Int32).map fun c => c.toInt8.toInt32) := iaLit A50 rfl (by decide +kernel)
        have KP55 : Keep h0 h52 [] := (KP41.ext E46)
        refine GoKit.callVirtualP G d19_48 (wi hw 108 rfl) (wi hw 97 rfl) (wi hw 99 rfl) (wi hw 98 rfl) (wi hw 6 rfl) (wi hw 100 rfl) (by decide) (S.keep KP55).1 (W := 0) (argsL := [(.ref a43)]) (rest := []) (con_equals l hw (cs := cs) (ds := txt3) (S.keep KP55) S53 HC) rfl (lenOf pd_11 rfl) rfl (by decide) (Nat.le_of_eq rfl) (by decide) (by decide) (by decide) (cells' := 8) (slots' := 84) rfl rfl (pc' := 51) rfl ?_
        show Run _ _ _ _ _ _ _ _ _ _ _ _ _ _ _ _ _ _ _ _ (mkF m 51 #[.val (.ref a)] [(.int (if cs = txt3 then 1 else 0))])
        refine GoKit.if_eq G d19_51 (by decide) (pt := 58) (pf := 54) rfl rfl (fun hb56 => ?_) (fun hb56 => ?_)
        · refine GoKit.aloadN G d19_58 rfl rfl (pc' := 59) rfl ?_
          refine GoKit.ldcStr G d19_59 rfl (wi hw 118 rfl) (wS hw) (by decide) (vs := [.int (82 : Int32), .int (64 : Int32), .int (49 : Int32), .int (48 : Int32)]) (z := (4 : Int32)) ⟨by decide +kernel, by decide +kernel⟩ (by decide) rfl (n := 16) (by decide +kernel) (by decide) (by decide) (by decide) (cells' := 10) (slots' := 104) rfl rfl (pc' := 61) rfl (fun a57 b58 k59 h66 E60 X61 FC62 FV63 A64 N65 => ?_)
          have S67 : Lat Z h66 a57 [(82 : Int32), (64 : Int32), (49 : Int32), (48 : Int32)] := latLit X61 FC62 FV63 A64 rfl (by decide +kernel) (by decide +kernel)
          have A68 : IA Z h66 b58 .byte (([(82 : Int32), (64 : Int32), (49 : Int32), (48 : Int32)] : List Int32).map fun c => c.toInt8.toInt32) := iaLit A64 rfl (by decide +kernel)
          have KP69 : Keep h0 h66 [] := (KP55.ext E60)
          refine GoKit.callVirtualP G d19_61 (wi hw 108 rfl) (wi hw 97 rfl) (wi hw 99 rfl) (wi hw 98 rfl) (wi hw 6 rfl) (wi hw 100 rfl) (by decide) (S.keep KP69).1 (W := 0) (argsL := [(.ref a57)]) (rest := []) (con_equals l hw (cs := cs) (ds := txt4) (S.keep KP69) S67 HC) rfl (lenOf pd_11 rfl) rfl (by decide) (Nat.le_of_eq rfl) (by decide) (by decide) (by decide) (cells' := 10) (slots' := 104) rfl rfl (pc' := 64) rfl ?_
          show Run _ _ _ _ _ _ _ _ _ _ _ _ _ _ _ _ _ _ _ _ (mkF m 64 #[.val (.ref a)] [(.int (if cs = txt4 then 1 else 0))])
          refine GoKit.if_eq G d19_64 (by decide) (pt := 71) (pf := 67) rfl rfl (fun hb70 => ?_) (fun hb70 => ?_)
          · refine GoKit.aloadN G d19_71 rfl rfl (pc' := 72) rfl ?_
            refine GoKit.ldcStr G d19_72 rfl (wi hw 119 rfl) (wS hw) (by decide) (vs := [.int (82 : Int32), .int (64 : Int32), .int (49 : Int32), .int (48 : Int32), .int (48 : Int32)]) (z := (5 : Int32)) ⟨by decide +kernel, by decide +kernel⟩ (by decide) rfl (n := 20) (by decide +kernel) (by decide) (by decide) (by decide) (cells' := 12) (slots' := 128) rfl rfl (pc' := 74) rfl (fun a71 b72 k73 h80 E74 X75 FC76 FV77 A78 N79 => ?_)
            have S81 : Lat Z h80 a71 [(82 : Int32), (64 : Int32), (49 : Int32), (48 : Int32), (48 : Int32)] := latLit X75 FC76 FV77 A78 rfl (by decide +kernel) (by decide +kernel)
            have A82 : IA Z h80 b72 .byte (([(82 : Int32), (64 : Int32), (49 : Int32), (48 : Int32), (48 : Int32)] : List Int32).map fun c => c.toInt8.toInt32) := iaLit A78 rfl (by decide +kernel)
            have KP83 : Keep h0 h80 [] := (KP69.ext E74)
            refine GoKit.callVirtualP G d19_74 (wi hw 108 rfl) (wi hw 97 rfl) (wi hw 99 rfl) (wi hw 98 rfl) (wi hw 6 rfl) (wi hw 100 rfl) (by decide) (S.keep KP83).1 (W := 0) (argsL := [(.ref a71)]) (rest := []) (con_equals l hw (cs := cs) (ds := txt5) (S.keep KP83) S81 HC) rfl (lenOf pd_11 rfl) rfl (by decide) (Nat.le_of_eq rfl) (by decide) (by decide) (by decide) (cells' := 12) (slots' := 128) rfl rfl (pc' := 77) rfl ?_
            show Run _ _ _ _ _ _ _ _ _ _ _ _ _ _ _ _ _ _ _ _ (mkF m 77 #[.val (.ref a)] [(.int (if cs = txt5 then 1 else 0))])
            refine GoKit.if_eq G d19_77 (by decide) (pt := 84) (pf := 80) rfl rfl (fun hb84 => ?_) (fun hb84 => ?_)
            · refine GoKit.aconstNull G d19_84 (pc' := 85) rfl ?_
              refine GoKit.retRef G d19_85 rfl rfl rfl (by decide) (by decide) ?_
              exact by unfold pickM; rw [if_neg (ite_f hb14), if_neg (ite_f hb28), if_neg (ite_f hb42), if_neg (ite_f hb56), if_neg (ite_f hb70), if_neg (ite_f hb84)]
            · refine GoKit.gets G d19_80 (wi hw 124 rfl) Via.refl (M.1.2.2.2.2.2).1 (pc' := 83) rfl ?_
              refine GoKit.retRef G d19_83 rfl rfl rfl (by decide) (by decide) ?_
              exact by unfold pickM; rw [if_neg (ite_f hb14), if_neg (ite_f hb28), if_neg (ite_f hb42), if_neg (ite_f hb56), if_neg (ite_f hb70), if_pos (ite_t hb84)]
          · refine GoKit.gets G d19_67 (wi hw 123 rfl) Via.refl (M.1.2.2.2.2.1).1 (pc' := 70) rfl ?_
            refine GoKit.retRef G d19_70 rfl rfl rfl (by decide) (by decide) ?_
            exact by unfold pickM; rw [if_neg (ite_f hb14), if_neg (ite_f hb28), if_neg (ite_f hb42), if_neg (ite_f hb56), if_pos (ite_t hb70)]
        · refine GoKit.gets G d19_54 (wi hw 122 rfl) Via.refl (M.1.2.2.2.1).1 (pc' := 57) rfl ?_
          refine GoKit.retRef G d19_57 rfl rfl rfl (by decide) (by decide) ?_
          exact by unfold pickM; rw [if_neg (ite_f hb14), if_neg (ite_f hb28), if_neg (ite_f hb42), if_pos (ite_t hb56)]
      · refine GoKit.gets G d19_41 (wi hw 121 rfl) Via.refl (M.1.2.2.1).1 (pc' := 44) rfl ?_
        refine GoKit.retRef G d19_44 rfl rfl rfl (by decide) (by decide) ?_
        exact by unfold pickM; rw [if_neg (ite_f hb14), if_neg (ite_f hb28), if_pos (ite_t hb42)]
    · refine GoKit.gets G d19_28 (wi hw 111 rfl) Via.refl (M.1.2.1).1 (pc' := 31) rfl ?_
      refine GoKit.retRef G d19_31 rfl rfl rfl (by decide) (by decide) ?_
      exact by unfold pickM; rw [if_neg (ite_f hb14), if_pos (ite_t hb28)]
  · refine GoKit.gets G d19_15 (wi hw 109 rfl) Via.refl (M.1.1).1 (pc' := 18) rfl ?_
    refine GoKit.retRef G d19_18 rfl rfl rfl (by decide) (by decide) ?_
    exact by unfold pickM; rw [if_pos (ite_t hb14)]
theorem d1_0 : decode method_3_code 0 = .ok (.iload_n 0, 1) := by decide +kernel
theorem d1_1 : decode method_3_code 1 = .ok (.ifCond .ne 6, 3) := by decide +kernel
theorem d1_4 : decode method_3_code 4 = .ok (.ldc 41, 2) := by decide +kernel
theorem d1_6 : decode method_3_code 6 = .ok (.areturn, 1) := by decide +kernel
abbrev rm_con_text0 : Room := { frames := 0, cells := 2, slots := 16, locals := 0 }
set_option maxRecDepth 65536 in
set_option maxHeartbeats 40000000 in
theorem con_text0 (l : Launch) {Z : State} {a0 : Array Value} (hw : ∀ d ∈ tables_1, d.before a0 Z = true) {n0 : Nat} {h0 : Heap}  :
    Con l Z true ELs n0 (⟨"com/example/re_thread/rethread/eval/MeasureLabelledPinLaw", "labelText", "(I)Ljava/lang/String;"⟩ : MethodName) method_3_code 1 (some (.object "java/lang/String")) rm_con_text0 [] #[(.int (0 : Int32))] h0 [] (fun v h => ∃ a, v = some (.ref a) ∧ Lat Z h a [(77 : Int32), (65 : Int32), (80 : Int32)]) := by
  refine Con.intro (plainFor_of_name pn_com_example_re_thread_rethread_eval_MeasureLabelledPinLaw) (hELs hw) ?_
  intro p e s m below meth c hh G
  refine castRun (g' := mkF m 0 #[.val (.int (0 : Int32))] []) (by first | rfl | (simp [entryFrame, mkF, argsToLocals, Value.category, maxLocals]; done)) ?_
  refine GoKit.iloadN G d1_0 rfl (pc' := 1) rfl ?_
  refine GoKit.if_ne_f G d1_1 (by decide) (pc' := 4) rfl ?_
  refine GoKit.ldcStr G d1_4 rfl (wi hw 5 rfl) (wS hw) (by decide) (vs := [.int (77 : Int32), .int (65 : Int32), .int (80 : Int32)]) (z := (3 : Int32)) ⟨by decide +kernel, by decide +kernel⟩ (by decide) rfl (n := 12) (by decide +kernel) (by decide) (by decide) (by decide) (cells' := 2) (slots' := 16) rfl rfl (pc' := 6) rfl (fun a1 b2 k3 h10 E4 X5 FC6 FV7 A8 N9 => ?_)
  have S11 : Lat Z h10 a1 [(77 : Int32), (65 : Int32), (80 : Int32)] := latLit X5 FC6 FV7 A8 rfl (by decide +kernel) (by decide +kernel)
  have A12 : IA Z h10 b2 .byte (([(77 : Int32), (65 : Int32), (80 : Int32)] : List Int32).map fun c => c.toInt8.toInt32) := iaLit A8 rfl (by decide +kernel)
  refine GoKit.retRef G d1_6 rfl rfl rfl (by decide) (by decide) ?_
  exact ⟨_, rfl, S11⟩
theorem d1_7 : decode method_3_code 7 = .ok (.iload_n 0, 1) := by decide +kernel
theorem d1_8 : decode method_3_code 8 = .ok (.iconst 1, 1) := by decide +kernel
theorem d1_9 : decode method_3_code 9 = .ok (.if_icmp .ne 6, 3) := by decide +kernel
theorem d1_12 : decode method_3_code 12 = .ok (.ldc 43, 2) := by decide +kernel
theorem d1_14 : decode method_3_code 14 = .ok (.areturn, 1) := by decide +kernel
abbrev rm_con_text1 : Room := { frames := 0, cells := 2, slots := 16, locals := 0 }
set_option maxRecDepth 65536 in
set_option maxHeartbeats 40000000 in
theorem con_text1 (l : Launch) {Z : State} {a0 : Array Value} (hw : ∀ d ∈ tables_1, d.before a0 Z = true) {n0 : Nat} {h0 : Heap}  :
    Con l Z true ELs n0 (⟨"com/example/re_thread/rethread/eval/MeasureLabelledPinLaw", "labelText", "(I)Ljava/lang/String;"⟩ : MethodName) method_3_code 1 (some (.object "java/lang/String")) rm_con_text1 [] #[(.int (1 : Int32))] h0 [] (fun v h => ∃ a, v = some (.ref a) ∧ Lat Z h a [(77 : Int32), (82 : Int32), (82 : Int32)]) := by
  refine Con.intro (plainFor_of_name pn_com_example_re_thread_rethread_eval_MeasureLabelledPinLaw) (hELs hw) ?_
  intro p e s m below meth c hh G
  refine castRun (g' := mkF m 0 #[.val (.int (1 : Int32))] []) (by first | rfl | (simp [entryFrame, mkF, argsToLocals, Value.category, maxLocals]; done)) ?_
  refine GoKit.iloadN G d1_0 rfl (pc' := 1) rfl ?_
  refine GoKit.if_ne_t G d1_1 (by decide) (by decide) (pc' := 7) rfl ?_
  refine GoKit.iloadN G d1_7 rfl (pc' := 8) rfl ?_
  refine GoKit.iconst G (1 : Int32) d1_8 rfl (pc' := 9) rfl ?_
  refine GoKit.icmp_ne_f G d1_9 (by decide) (pc' := 12) rfl ?_
  refine GoKit.ldcStr G d1_12 rfl (wi hw 110 rfl) (wS hw) (by decide) (vs := [.int (77 : Int32), .int (82 : Int32), .int (82 : Int32)]) (z := (3 : Int32)) ⟨by decide +kernel, by decide +kernel⟩ (by decide) rfl (n := 12) (by decide +kernel) (by decide) (by decide) (by decide) (cells' := 2) (slots' := 16) rfl rfl (pc' := 14) rfl (fun a1 b2 k3 h10 E4 X5 FC6 FV7 A8 N9 => ?_)
  have S11 : Lat Z h10 a1 [(77 : Int32), (82 : Int32), (82 : Int32)] := latLit X5 FC6 FV7 A8 rfl (by decide +kernel) (by decide +kernel)
  have A12 : IA Z h10 b2 .byte (([(77 : Int32), (82 : Int32), (82 : Int32)] : List Int32).map fun c => c.toInt8.toInt32) := iaLit A8 rfl (by decide +kernel)
  refine GoKit.retRef G d1_14 rfl rfl rfl (by decide) (by decide) ?_
  exact ⟨_, rfl, S11⟩
theorem d1_15 : decode method_3_code 15 = .ok (.iload_n 0, 1) := by decide +kernel
theorem d1_16 : decode method_3_code 16 = .ok (.iconst 2, 1) := by decide +kernel
theorem d1_17 : decode method_3_code 17 = .ok (.if_icmp .ne 6, 3) := by decide +kernel
theorem d1_20 : decode method_3_code 20 = .ok (.ldc 45, 2) := by decide +kernel
theorem d1_22 : decode method_3_code 22 = .ok (.areturn, 1) := by decide +kernel
abbrev rm_con_text2 : Room := { frames := 0, cells := 2, slots := 20, locals := 0 }
set_option maxRecDepth 65536 in
set_option maxHeartbeats 40000000 in
theorem con_text2 (l : Launch) {Z : State} {a0 : Array Value} (hw : ∀ d ∈ tables_1, d.before a0 Z = true) {n0 : Nat} {h0 : Heap}  :
    Con l Z true ELs n0 (⟨"com/example/re_thread/rethread/eval/MeasureLabelledPinLaw", "labelText", "(I)Ljava/lang/String;"⟩ : MethodName) method_3_code 1 (some (.object "java/lang/String")) rm_con_text2 [] #[(.int (2 : Int32))] h0 [] (fun v h => ∃ a, v = some (.ref a) ∧ Lat Z h a [(80 : Int32), (64 : Int32), (49 : Int32), (48 : Int32)]) := by
  refine Con.intro (plainFor_of_name pn_com_example_re_thread_rethread_eval_MeasureLabelledPinLaw) (hELs hw) ?_
  intro p e s m below meth c hh G
  refine castRun (g' := mkF m 0 #[.val (.int (2 : Int32))] []) (by first | rfl | (simp [entryFrame, mkF, argsToLocals, Value.category, maxLocals]; done)) ?_
  refine GoKit.iloadN G d1_0 rfl (pc' := 1) rfl ?_
  refine GoKit.if_ne_t G d1_1 (by decide) (by decide) (pc' := 7) rfl ?_
  refine GoKit.iloadN G d1_7 rfl (pc' := 8) rfl ?_
  refine GoKit.iconst G (1 : Int32) d1_8 rfl (pc' := 9) rfl ?_
  refine GoKit.icmp_ne_t G d1_9 (by decide) (by decide) (pc' := 15) rfl ?_
  refine GoKit.iloadN G d1_15 rfl (pc' := 16) rfl ?_
  refine GoKit.iconst G (2 : Int32) d1_16 rfl (pc' := 17) rfl ?_
  refine GoKit.icmp_ne_f G d1_17 (by decide) (pc' := 20) rfl ?_
  refine GoKit.ldcStr G d1_20 rfl (wi hw 112 rfl) (wS hw) (by decide) (vs := [.int (80 : Int32), .int (64 : Int32), .int (49 : Int32), .int (48 : Int32)]) (z := (4 : Int32)) ⟨by decide +kernel, by decide +kernel⟩ (by decide) rfl (n := 16) (by decide +kernel) (by decide) (by decide) (by decide) (cells' := 2) (slots' := 20) rfl rfl (pc' := 22) rfl (fun a1 b2 k3 h10 E4 X5 FC6 FV7 A8 N9 => ?_)
  have S11 : Lat Z h10 a1 [(80 : Int32), (64 : Int32), (49 : Int32), (48 : Int32)] := latLit X5 FC6 FV7 A8 rfl (by decide +kernel) (by decide +kernel)
  have A12 : IA Z h10 b2 .byte (([(80 : Int32), (64 : Int32), (49 : Int32), (48 : Int32)] : List Int32).map fun c => c.toInt8.toInt32) := iaLit A8 rfl (by decide +kernel)
  refine GoKit.retRef G d1_22 rfl rfl rfl (by decide) (by decide) ?_
  exact ⟨_, rfl, S11⟩
theorem d1_23 : decode method_3_code 23 = .ok (.iload_n 0, 1) := by decide +kernel
theorem d1_24 : decode method_3_code 24 = .ok (.iconst 3, 1) := by decide +kernel
theorem d1_25 : decode method_3_code 25 = .ok (.if_icmp .ne 6, 3) := by decide +kernel
theorem d1_28 : decode method_3_code 28 = .ok (.ldc 47, 2) := by decide +kernel
theorem d1_30 : decode method_3_code 30 = .ok (.areturn, 1) := by decide +kernel
abbrev rm_con_text3 : Room := { frames := 0, cells := 2, slots := 32, locals := 0 }
set_option maxRecDepth 65536 in
set_option maxHeartbeats 40000000 in
theorem con_text3 (l : Launch) {Z : State} {a0 : Array Value} (hw : ∀ d ∈ tables_1, d.before a0 Z = true) {n0 : Nat} {h0 : Heap}  :
    Con l Z true ELs n0 (⟨"com/example/re_thread/rethread/eval/MeasureLabelledPinLaw", "labelText", "(I)Ljava/lang/String;"⟩ : MethodName) method_3_code 1 (some (.object "java/lang/String")) rm_con_text3 [] #[(.int (3 : Int32))] h0 [] (fun v h => ∃ a, v = some (.ref a) ∧ Lat Z h a [(110 : Int32), (68 : Int32), (67 : Int32), (71 : Int32), (64 : Int32), (49 : Int32), (48 : Int32)]) := by
  refine Con.intro (plainFor_of_name pn_com_example_re_thread_rethread_eval_MeasureLabelledPinLaw) (hELs hw) ?_
  intro p e s m below meth c hh G
  refine castRun (g' := mkF m 0 #[.val (.int (3 : Int32))] []) (by first | rfl | (simp [entryFrame, mkF, argsToLocals, Value.category, maxLocals]; done)) ?_
  refine GoKit.iloadN G d1_0 rfl (pc' := 1) rfl ?_
  refine GoKit.if_ne_t G d1_1 (by decide) (by decide) (pc' := 7) rfl ?_
  refine GoKit.iloadN G d1_7 rfl (pc' := 8) rfl ?_
  refine GoKit.iconst G (1 : Int32) d1_8 rfl (pc' := 9) rfl ?_
  refine GoKit.icmp_ne_t G d1_9 (by decide) (by decide) (pc' := 15) rfl ?_
  refine GoKit.iloadN G d1_15 rfl (pc' := 16) rfl ?_
  refine GoKit.iconst G (2 : Int32) d1_16 rfl (pc' := 17) rfl ?_
  refine GoKit.icmp_ne_t G d1_17 (by decide) (by decide) (pc' := 23) rfl ?_
  refine GoKit.iloadN G d1_23 rfl (pc' := 24) rfl ?_
  refine GoKit.iconst G (3 : Int32) d1_24 rfl (pc' := 25) rfl ?_
  refine GoKit.icmp_ne_f G d1_25 (by decide) (pc' := 28) rfl ?_
  refine GoKit.ldcStr G d1_28 rfl (wi hw 117 rfl) (wS hw) (by decide) (vs := [.int (110 : Int32), .int (68 : Int32), .int (67 : Int32), .int (71 : Int32), .int (64 : Int32), .int (49 : Int32), .int (48 : Int32)]) (z := (7 : Int32)) ⟨by decide +kernel, by decide +kernel⟩ (by decide) rfl (n := 28) (by decide +kernel) (by decide) (by decide) (by decide) (cells' := 2) (slots' := 32) rfl rfl (pc' := 30) rfl (fun a1 b2 k3 h10 E4 X5 FC6 FV7 A8 N9 => ?_)
  have S11 : Lat Z h10 a1 [(110 : Int32), (68 : Int32), (67 : Int32), (71 : Int32), (64 : Int32), (49 : Int32), (48 : Int32)] := latLit X5 FC6 FV7 A8 rfl (by decide +kernel) (by decide +kernel)
  have A12 : IA Z h10 b2 .byte (([(110 : Int32), (68 : Int32), (67 : Int32), (71 : Int32), (64 : Int32), (49 : Int32), (48 : Int32)] : List Int32).map fun c => c.toInt8.toInt32) := iaLit A8 rfl (by decide +kernel)
  refine GoKit.retRef G d1_30 rfl rfl rfl (by decide) (by decide) ?_
  exact ⟨_, rfl, S11⟩
theorem d1_31 : decode method_3_code 31 = .ok (.iload_n 0, 1) := by decide +kernel
theorem d1_32 : decode method_3_code 32 = .ok (.iconst 4, 1) := by decide +kernel
theorem d1_33 : decode method_3_code 33 = .ok (.if_icmp .ne 6, 3) := by decide +kernel
theorem d1_36 : decode method_3_code 36 = .ok (.ldc 49, 2) := by decide +kernel
theorem d1_38 : decode method_3_code 38 = .ok (.areturn, 1) := by decide +kernel
abbrev rm_con_text4 : Room := { frames := 0, cells := 2, slots := 20, locals := 0 }
set_option maxRecDepth 65536 in
set_option maxHeartbeats 40000000 in
theorem con_text4 (l : Launch) {Z : State} {a0 : Array Value} (hw : ∀ d ∈ tables_1, d.before a0 Z = true) {n0 : Nat} {h0 : Heap}  :
    Con l Z true ELs n0 (⟨"com/example/re_thread/rethread/eval/MeasureLabelledPinLaw", "labelText", "(I)Ljava/lang/String;"⟩ : MethodName) method_3_code 1 (some (.object "java/lang/String")) rm_con_text4 [] #[(.int (4 : Int32))] h0 [] (fun v h => ∃ a, v = some (.ref a) ∧ Lat Z h a [(82 : Int32), (64 : Int32), (49 : Int32), (48 : Int32)]) := by
  refine Con.intro (plainFor_of_name pn_com_example_re_thread_rethread_eval_MeasureLabelledPinLaw) (hELs hw) ?_
  intro p e s m below meth c hh G
  refine castRun (g' := mkF m 0 #[.val (.int (4 : Int32))] []) (by first | rfl | (simp [entryFrame, mkF, argsToLocals, Value.category, maxLocals]; done)) ?_
  refine GoKit.iloadN G d1_0 rfl (pc' := 1) rfl ?_
  refine GoKit.if_ne_t G d1_1 (by decide) (by decide) (pc' := 7) rfl ?_
  refine GoKit.iloadN G d1_7 rfl (pc' := 8) rfl ?_
  refine GoKit.iconst G (1 : Int32) d1_8 rfl (pc' := 9) rfl ?_
  refine GoKit.icmp_ne_t G d1_9 (by decide) (by decide) (pc' := 15) rfl ?_
  refine GoKit.iloadN G d1_15 rfl (pc' := 16) rfl ?_
  refine GoKit.iconst G (2 : Int32) d1_16 rfl (pc' := 17) rfl ?_
  refine GoKit.icmp_ne_t G d1_17 (by decide) (by decide) (pc' := 23) rfl ?_
  refine GoKit.iloadN G d1_23 rfl (pc' := 24) rfl ?_
  refine GoKit.iconst G (3 : Int32) d1_24 rfl (pc' := 25) rfl ?_
  refine GoKit.icmp_ne_t G d1_25 (by decide) (by decide) (pc' := 31) rfl ?_
  refine GoKit.iloadN G d1_31 rfl (pc' := 32) rfl ?_
  refine GoKit.iconst G (4 : Int32) d1_32 rfl (pc' := 33) rfl ?_
  refine GoKit.icmp_ne_f G d1_33 (by decide) (pc' := 36) rfl ?_
  refine GoKit.ldcStr G d1_36 rfl (wi hw 118 rfl) (wS hw) (by decide) (vs := [.int (82 : Int32), .int (64 : Int32), .int (49 : Int32), .int (48 : Int32)]) (z := (4 : Int32)) ⟨by decide +kernel, by decide +kernel⟩ (by decide) rfl (n := 16) (by decide +kernel) (by decide) (by decide) (by decide) (cells' := 2) (slots' := 20) rfl rfl (pc' := 38) rfl (fun a1 b2 k3 h10 E4 X5 FC6 FV7 A8 N9 => ?_)
  have S11 : Lat Z h10 a1 [(82 : Int32), (64 : Int32), (49 : Int32), (48 : Int32)] := latLit X5 FC6 FV7 A8 rfl (by decide +kernel) (by decide +kernel)
  have A12 : IA Z h10 b2 .byte (([(82 : Int32), (64 : Int32), (49 : Int32), (48 : Int32)] : List Int32).map fun c => c.toInt8.toInt32) := iaLit A8 rfl (by decide +kernel)
  refine GoKit.retRef G d1_38 rfl rfl rfl (by decide) (by decide) ?_
  exact ⟨_, rfl, S11⟩
theorem d1_39 : decode method_3_code 39 = .ok (.ldc 51, 2) := by decide +kernel
theorem d1_41 : decode method_3_code 41 = .ok (.areturn, 1) := by decide +kernel
abbrev rm_con_text5 : Room := { frames := 0, cells := 2, slots := 24, locals := 0 }
set_option maxRecDepth 65536 in
set_option maxHeartbeats 40000000 in
theorem con_text5 (l : Launch) {Z : State} {a0 : Array Value} (hw : ∀ d ∈ tables_1, d.before a0 Z = true) {n0 : Nat} {h0 : Heap}  :
    Con l Z true ELs n0 (⟨"com/example/re_thread/rethread/eval/MeasureLabelledPinLaw", "labelText", "(I)Ljava/lang/String;"⟩ : MethodName) method_3_code 1 (some (.object "java/lang/String")) rm_con_text5 [] #[(.int (5 : Int32))] h0 [] (fun v h => ∃ a, v = some (.ref a) ∧ Lat Z h a [(82 : Int32), (64 : Int32), (49 : Int32), (48 : Int32), (48 : Int32)]) := by
  refine Con.intro (plainFor_of_name pn_com_example_re_thread_rethread_eval_MeasureLabelledPinLaw) (hELs hw) ?_
  intro p e s m below meth c hh G
  refine castRun (g' := mkF m 0 #[.val (.int (5 : Int32))] []) (by first | rfl | (simp [entryFrame, mkF, argsToLocals, Value.category, maxLocals]; done)) ?_
  refine GoKit.iloadN G d1_0 rfl (pc' := 1) rfl ?_
  refine GoKit.if_ne_t G d1_1 (by decide) (by decide) (pc' := 7) rfl ?_
  refine GoKit.iloadN G d1_7 rfl (pc' := 8) rfl ?_
  refine GoKit.iconst G (1 : Int32) d1_8 rfl (pc' := 9) rfl ?_
  refine GoKit.icmp_ne_t G d1_9 (by decide) (by decide) (pc' := 15) rfl ?_
  refine GoKit.iloadN G d1_15 rfl (pc' := 16) rfl ?_
  refine GoKit.iconst G (2 : Int32) d1_16 rfl (pc' := 17) rfl ?_
  refine GoKit.icmp_ne_t G d1_17 (by decide) (by decide) (pc' := 23) rfl ?_
  refine GoKit.iloadN G d1_23 rfl (pc' := 24) rfl ?_
  refine GoKit.iconst G (3 : Int32) d1_24 rfl (pc' := 25) rfl ?_
  refine GoKit.icmp_ne_t G d1_25 (by decide) (by decide) (pc' := 31) rfl ?_
  refine GoKit.iloadN G d1_31 rfl (pc' := 32) rfl ?_
  refine GoKit.iconst G (4 : Int32) d1_32 rfl (pc' := 33) rfl ?_
  refine GoKit.icmp_ne_t G d1_33 (by decide) (by decide) (pc' := 39) rfl ?_
  refine GoKit.ldcStr G d1_39 rfl (wi hw 119 rfl) (wS hw) (by decide) (vs := [.int (82 : Int32), .int (64 : Int32), .int (49 : Int32), .int (48 : Int32), .int (48 : Int32)]) (z := (5 : Int32)) ⟨by decide +kernel, by decide +kernel⟩ (by decide) rfl (n := 20) (by decide +kernel) (by decide) (by decide) (by decide) (cells' := 2) (slots' := 24) rfl rfl (pc' := 41) rfl (fun a1 b2 k3 h10 E4 X5 FC6 FV7 A8 N9 => ?_)
  have S11 : Lat Z h10 a1 [(82 : Int32), (64 : Int32), (49 : Int32), (48 : Int32), (48 : Int32)] := latLit X5 FC6 FV7 A8 rfl (by decide +kernel) (by decide +kernel)
  have A12 : IA Z h10 b2 .byte (([(82 : Int32), (64 : Int32), (49 : Int32), (48 : Int32), (48 : Int32)] : List Int32).map fun c => c.toInt8.toInt32) := iaLit A8 rfl (by decide +kernel)
  refine GoKit.retRef G d1_41 rfl rfl rfl (by decide) (by decide) ?_
  exact ⟨_, rfl, S11⟩
theorem max_rng {x z : Int32} (h1 : 0 ≤ x.toInt ∧ x.toInt ≤ 8) (h2 : 0 ≤ z.toInt ∧ z.toInt ≤ 8) : 0 ≤ (max32 x z).toInt ∧ (max32 x z).toInt ≤ 8 := by
  unfold max32; split <;> assumption
theorem add1_rng {p v : Int32} (h : 0 ≤ p.toInt ∧ p.toInt ≤ 7) (e : v = p + 1) : 0 ≤ v.toInt ∧ v.toInt ≤ 8 := by
  have : v.toInt = p.toInt + 1 := by rw [e]; exact XT.add32 ⟨by show -2 ^ 31 ≤ p.toInt + 1; omega, by show p.toInt + 1 < 2 ^ 31; omega⟩
  omega
theorem sub1_rng {p v : Int32} (h : 0 ≤ p.toInt ∧ p.toInt ≤ 8) (hp : 0 < p) (e : v = p - 1) : 0 ≤ v.toInt ∧ v.toInt ≤ 8 := by
  have hp' : 0 < p.toInt := by have := Int32.lt_iff_toInt_lt.mp hp; exact this
  have : v.toInt = p.toInt - 1 := by rw [e]; exact XT.sub32 ⟨by show -2 ^ 31 ≤ p.toInt - 1; omega, by show p.toInt - 1 < 2 ^ 31; omega⟩
  omega
theorem list8 {bs : List Int32} (h : bs.length = 8) : ∃ b0 b1 b2 b3 b4 b5 b6 b7, bs = [b0, b1, b2, b3, b4, b5, b6, b7] := by
  match bs, h with
  | [b0, b1, b2, b3, b4, b5, b6, b7], _ => exact ⟨b0, b1, b2, b3, b4, b5, b6, b7, rfl⟩
theorem set_lat {bs : List Int32} {i : Nat} {x : Int32} (h : ∀ c ∈ bs, 0 ≤ c.toInt ∧ c.toInt < 256) (hx : 0 ≤ x.toInt ∧ x.toInt < 256) : ∀ c ∈ bs.set i x, 0 ≤ c.toInt ∧ c.toInt < 256 := fun c hc => by
  rcases List.mem_or_eq_of_mem_set hc with q | q
  · exact h c q
  · rw [q]; exact hx
theorem clamp_rng {p : Int32} (h : 0 ≤ p.toInt ∧ p.toInt ≤ 7) : ¬ p < 0 ∧ p.toNatClampNeg < 8 := by
  refine ⟨fun q => ?_, ?_⟩
  · have := Int32.lt_iff_toInt_lt.mp q; have e : (0 : Int32).toInt = 0 := rfl; omega
  · simp only [Int32.toNatClampNeg]; omega
theorem ushr_nn {x v : Int32} (h : v = (x.toUInt32 >>> ((3 : Int32) &&& 31).toUInt32).toInt32) : 0 ≤ v.toInt := by
  have e : v.toBitVec = x.toBitVec >>> (3 : Nat) := by rw [h]; rfl
  have h2 : v.toBitVec.toNat < 2 ^ 29 := by
    rw [e, BitVec.toNat_ushiftRight, Nat.shiftRight_eq_div_pow]
    have := x.toBitVec.isLt
    omega
  show 0 ≤ v.toBitVec.toInt
  rw [BitVec.toInt_eq_toNat_cond, if_pos (by omega)]; omega
theorem pd_12 : parseMethodDescriptor "(Ljava/lang/String;)Lcom/example/re_thread/rethread/eval/Measure;" = some ⟨[(.object "java/lang/String")], some (.object "com/example/re_thread/rethread/eval/Measure")⟩ := by decide +kernel
theorem pd_13 : parseMethodDescriptor "([C)V" = some ⟨[(.array .char)], none⟩ := by decide +kernel
theorem pd_14 : parseMethodDescriptor "(II)I" = some ⟨[.int, .int], some .int⟩ := by decide +kernel
theorem pd_15 : parseMethodDescriptor "(I)Ljava/lang/String;" = some ⟨[.int], some (.object "java/lang/String")⟩ := by decide +kernel
theorem pd_16 : parseMethodDescriptor "()I" = some ⟨[], some .int⟩ := by decide +kernel
theorem pd_17 : parseMethodDescriptor "(I)C" = some ⟨[.int], some .char⟩ := by decide +kernel
set_option maxRecDepth 65536 in
set_option maxHeartbeats 40000000 in
theorem con_law (l : Launch) {Z : State} {a0 : Array Value} (hw : ∀ d ∈ tables_1, d.before a0 Z = true) {n0 : Nat} {h0 : Heap} (p0 : Int32) (p1 : Int32) (p2 : Int32) (p3 : Int32) {m0 m1 m2 m3 m4 m5 : Addr} (M : MS Z m0 m1 m2 m3 m4 m5) (HC : Cst Z) (HF : Frm Z) :
    Con l Z true ELs n0 x code maxLocals ret room_1 tables_1 #[(.int p0), (.int p1), (.int p2), (.int p3)] h0 [] (fun v h => v = some (.int 1)) := by
  refine Con.intro (plainFor_of_name pn_com_example_re_thread_rethread_eval_MeasureLabelledPinLaw) (hELs hw) ?_
  intro p e s m below meth c hh G
  refine castRun (g' := mkF m 0 #[.val (.int p0), .val (.int p1), .val (.int p2), .val (.int p3), .unset, .unset, .unset, .unset, .unset] []) (by first | rfl | (simp [entryFrame, mkF, argsToLocals, Value.category, maxLocals]; done)) ?_
  have J4 : ∀ (a8 b : Addr) (cs : List Int32) (len v6 : Int32) (s7 : Slot) (h : Heap), Lat Z h a8 cs → Run p l e room_1 s m #[.int p0, .int p1, .int p2, .int p3] below meth c Z true ELs n0 [] (fun v h => v = some (.int 1)) h [] 12 80 (mkF m 469 #[.val (.int p0), .val (.int p1), .val (.int p2), .val (.int p3), .val (.ref b), .val (.int len), .val (.int v6), s7, .val (.ref a8)] []) := by
    intro a8 b cs len v6 s7 h S
    refine GoKit.iloadN G at_469 rfl (pc' := 470) rfl ?_
    refine GoKit.bipush G (8 : Int32) at_470 rfl (pc' := 472) rfl ?_
    refine GoKit.iushr G at_472 (pc' := 473) rfl (fun v1 hqv1 => ?_)
    refine GoKit.bipush G (15 : Int32) at_473 rfl (pc' := 475) rfl ?_
    refine GoKit.iand G at_475 (pc' := 476) rfl (fun v2 hqv2 => ?_)
    refine GoKit.bipush G (15 : Int32) at_476 rfl (pc' := 478) rfl ?_
    refine GoKit.icmp_ne G at_478 (by decide) (pt := 484) (pf := 481) rfl rfl (fun hb3 => ?_) (fun hb3 => ?_)
    · refine GoKit.aload G at_484 rfl rfl (pc' := 486) rfl ?_
      refine GoKit.callStatic G at_486 (wi hw 69 rfl) (wi hw 70 rfl) (wi hw 71 rfl) (wi hw 72 rfl) (by decide) (owc := []) (W := 0) (argsL := [(.ref a8)]) (rest := []) (con_lab l hw M S HC) rfl (lenOf pd_12 rfl) rfl (by decide) (Nat.le_of_eq rfl) (by decide) (by decide) (by decide) (fun _ q => nomatch q) (cells' := 13) (slots' := 86) rfl rfl (pc' := 489) rfl (fun r4 h7 q5 K6 => ?_)
      obtain rfl := q5
      show Run _ _ _ _ _ _ _ _ _ _ _ _ _ _ _ _ _ _ _ _ (mkF m 489 #[.val (.int p0), .val (.int p1), .val (.int p2), .val (.int p3), .val (.ref b), .val (.int len), .val (.int v6), s7, .val (.ref a8)] [(pickM m0 m1 m2 m3 m4 m5 cs)])
      refine GoKit.aload G at_489 rfl rfl (pc' := 491) rfl ?_
      have KP8 : Keep h h7 [] := ((Keep.refl h []).trans K6 all0)
      refine GoKit.callStatic G at_491 (wi hw 105 rfl) (wi hw 106 rfl) (wi hw 3 rfl) (wi hw 107 rfl) (by decide) (owc := []) (W := 1) (argsL := [(.ref a8)]) (rest := [(pickM m0 m1 m2 m3 m4 m5 cs)]) (con_exp l hw M (S.keep KP8) HC) rfl (lenOf pd_12 rfl) rfl (by decide) (Nat.le_of_eq (by simp only [List.map_cons, List.map_nil, List.sum_cons, List.sum_nil, Nat.add_zero, XT.cat1 (pickM_ref m0 m1 m2 m3 m4 m5 cs)])) (by decide) (by decide) (by decide) (fun _ q => nomatch q) (cells' := 25) (slots' := 214) rfl rfl (pc' := 494) rfl (fun r9 h12 q10 K11 => ?_)
      obtain rfl := q10
      show Run _ _ _ _ _ _ _ _ _ _ _ _ _ _ _ _ _ _ _ _ (mkF m 494 #[.val (.int p0), .val (.int p1), .val (.int p2), .val (.int p3), .val (.ref b), .val (.int len), .val (.int v6), s7, .val (.ref a8)] [(pickM m0 m1 m2 m3 m4 m5 cs), (pickM m0 m1 m2 m3 m4 m5 cs)])
      refine GoKit.acmp_ne_f G at_494 (pickM_ref m0 m1 m2 m3 m4 m5 cs) (pickM_ref m0 m1 m2 m3 m4 m5 cs) rfl (pc' := 497) rfl ?_
      refine GoKit.iconst G (1 : Int32) at_497 rfl (pc' := 498) rfl ?_
      refine GoKit.goto G at_498 (by decide) (pc' := 502) rfl ?_
      refine GoKit.retNar G at_502 (t := .boolean) rfl (by simp) (by decide) (by decide) ?_
      exact rfl
    · refine GoKit.aconstNull G at_481 (pc' := 482) rfl ?_
      refine GoKit.astore G at_482 rfl (Ls' := #[.val (.int p0), .val (.int p1), .val (.int p2), .val (.int p3), .val (.ref b), .val (.int len), .val (.int v6), s7, .val .null]) rfl (pc' := 484) rfl ?_
      refine GoKit.aload G at_484 rfl rfl (pc' := 486) rfl ?_
      refine GoKit.callStatic G at_486 (wi hw 69 rfl) (wi hw 70 rfl) (wi hw 71 rfl) (wi hw 72 rfl) (by decide) (owc := []) (W := 0) (argsL := [.null]) (rest := []) (con_labNull l hw M) rfl (lenOf pd_12 rfl) rfl (by decide) (Nat.le_of_eq rfl) (by decide) (by decide) (by decide) (fun _ q => nomatch q) (cells' := 13) (slots' := 86) rfl rfl (pc' := 489) rfl (fun r13 h16 q14 K15 => ?_)
      obtain rfl := q14
      show Run _ _ _ _ _ _ _ _ _ _ _ _ _ _ _ _ _ _ _ _ (mkF m 489 #[.val (.int p0), .val (.int p1), .val (.int p2), .val (.int p3), .val (.ref b), .val (.int len), .val (.int v6), s7, .val .null] [.null])
      refine GoKit.aload G at_489 rfl rfl (pc' := 491) rfl ?_
      refine GoKit.callStatic G at_491 (wi hw 105 rfl) (wi hw 106 rfl) (wi hw 3 rfl) (wi hw 107 rfl) (by decide) (owc := []) (W := 1) (argsL := [.null]) (rest := [.null]) (con_expNull l hw M) rfl (lenOf pd_12 rfl) rfl (by decide) (Nat.le_of_eq rfl) (by decide) (by decide) (by decide) (fun _ q => nomatch q) (cells' := 13) (slots' := 86) rfl rfl (pc' := 494) rfl (fun r17 h20 q18 K19 => ?_)
      obtain rfl := q18
      show Run _ _ _ _ _ _ _ _ _ _ _ _ _ _ _ _ _ _ _ _ (mkF m 494 #[.val (.int p0), .val (.int p1), .val (.int p2), .val (.int p3), .val (.ref b), .val (.int len), .val (.int v6), s7, .val .null] [.null, .null])
      refine GoKit.acmp_ne_f G at_494 rfl rfl rfl (pc' := 497) rfl ?_
      refine GoKit.iconst G (1 : Int32) at_497 rfl (pc' := 498) rfl ?_
      refine GoKit.goto G at_498 (by decide) (pc' := 502) rfl ?_
      refine GoKit.retNar G at_502 (t := .boolean) rfl (by simp) (by decide) (by decide) ?_
      exact rfl
  have J3 : ∀ (b : Addr) (bs : List Int32) (len v6 : Int32) (s7 : Slot) (h : Heap), IA Z h b .char bs → bs.length = 8 → (∀ c ∈ bs, 0 ≤ c.toInt ∧ c.toInt < 256) → 0 ≤ len.toInt ∧ len.toInt ≤ 8 → (s7 = .unset ∨ ∃ w, s7 = .val w ∧ w.category = 1) → Run p l e room_1 s m #[.int p0, .int p1, .int p2, .int p3] below meth c Z true ELs n0 [] (fun v h => v = some (.int 1)) h [b] 3 44 (mkF m 335 #[.val (.int p0), .val (.int p1), .val (.int p2), .val (.int p3), .val (.ref b), .val (.int len), .val (.int v6), s7, .unset] []) := by
    intro b bs len v6 s7 h A hbs hlat hlen h7
    obtain ⟨b0, b1, b2, b3, b4, b5, b6, b7, rfl⟩ := list8 hbs
    rcases cases9 (v := len) (by omega) with rfl | rfl | rfl | rfl | rfl | rfl | rfl | rfl | rfl
    · refine GoKit.iload G at_335 rfl (pc' := 337) rfl ?_
      refine GoKit.newcI G at_337 (wi hw 0 rfl) (by decide) (k := 0) (cap := 0) rfl (Nat.le_refl _) (by decide) (by decide) (by decide) (cells' := 4) (slots' := 44) rfl rfl (pc' := 339) rfl (fun h24 a21 ga21 E22 A23 => ?_)
      refine GoKit.astore G at_339 rfl (Ls' := #[.val (.int p0), .val (.int p1), .val (.int p2), .val (.int p3), .val (.ref b), .val (.int (0 : Int32)), .val (.int v6), .val (.ref a21), .unset]) (XS.store1 rfl h7 rfl) (pc' := 341) rfl ?_
      refine GoKit.iload G at_341 rfl (pc' := 343) rfl ?_
      refine GoKit.if_le_t G at_343 (by decide) (by decide) (pc' := 354) rfl ?_
      refine GoKit.iload G at_354 rfl (pc' := 356) rfl ?_
      refine GoKit.iconst G (1 : Int32) at_356 rfl (pc' := 357) rfl ?_
      refine GoKit.icmp_le_t G at_357 (by decide) (by decide) (pc' := 368) rfl ?_
      refine GoKit.iload G at_368 rfl (pc' := 370) rfl ?_
      refine GoKit.iconst G (2 : Int32) at_370 rfl (pc' := 371) rfl ?_
      refine GoKit.icmp_le_t G at_371 (by decide) (by decide) (pc' := 382) rfl ?_
      refine GoKit.iload G at_382 rfl (pc' := 384) rfl ?_
      refine GoKit.iconst G (3 : Int32) at_384 rfl (pc' := 385) rfl ?_
      refine GoKit.icmp_le_t G at_385 (by decide) (by decide) (pc' := 396) rfl ?_
      refine GoKit.iload G at_396 rfl (pc' := 398) rfl ?_
      refine GoKit.iconst G (4 : Int32) at_398 rfl (pc' := 399) rfl ?_
      refine GoKit.icmp_le_t G at_399 (by decide) (by decide) (pc' := 410) rfl ?_
      refine GoKit.iload G at_410 rfl (pc' := 412) rfl ?_
      refine GoKit.iconst G (5 : Int32) at_412 rfl (pc' := 413) rfl ?_
      refine GoKit.icmp_le_t G at_413 (by decide) (by decide) (pc' := 424) rfl ?_
      refine GoKit.iload G at_424 rfl (pc' := 426) rfl ?_
      refine GoKit.bipush G (6 : Int32) at_426 rfl (pc' := 428) rfl ?_
      refine GoKit.icmp_le_t G at_428 (by decide) (by decide) (pc' := 441) rfl ?_
      refine GoKit.iload G at_441 rfl (pc' := 443) rfl ?_
      refine GoKit.bipush G (7 : Int32) at_443 rfl (pc' := 445) rfl ?_
      refine GoKit.icmp_le_t G at_445 (by decide) (by decide) (pc' := 458) rfl ?_
      refine GoKit.newobj G at_458 (wi hw 48 rfl) (wi hw 7 rfl) (wi hw 6 rfl) (by decide) (by decide) (cells' := 5) (slots' := 48) rfl rfl (pc' := 461) rfl (fun h29 a25 ga25 E26 X27 D28 => ?_)
      have F30 : Fld Z h29 a25 "java/lang/String" "value" "[B" .null := D28 (Or.inr (wi hw 9 rfl)) (ty := (.array .byte)) (by decide)
      have F31 : Fld Z h29 a25 "java/lang/String" "coder" "B" (.int 0) := D28 (Or.inr (wi hw 10 rfl)) (ty := .byte) (by decide)
      refine GoKit.dup G at_461 rfl (pc' := 462) rfl ?_
      refine GoKit.aload G at_462 rfl rfl (pc' := 464) rfl ?_
      refine GoKit.callSpecial G at_464 rfl (wi hw 49 rfl) (wi hw 50 rfl) (wi hw 6 rfl) (wi hw 51 rfl) (by decide) (owc := [a25]) (W := 1) (argsL := [(.ref a21)]) (rest := [(.ref a25)]) (con_strInitE l hw X27 F30 F31 (A23.ext E26)) rfl (lenOf pd_13 rfl) rfl (by decide) (Nat.le_of_eq rfl) (by decide) (by decide) (by decide) (by intro x hx; simp only [List.mem_cons, List.not_mem_nil, or_false] at hx ⊢; simp [hx]) (cells' := 9) (slots' := 56) rfl rfl (pc' := 467) rfl (fun r32 h35 q33 K34 => ?_)
      obtain ⟨rfl, S36⟩ := q33
      show Run _ _ _ _ _ _ _ _ _ _ _ _ _ _ _ _ _ _ _ _ (mkF m 467 #[.val (.int p0), .val (.int p1), .val (.int p2), .val (.int p3), .val (.ref b), .val (.int (0 : Int32)), .val (.int v6), .val (.ref a21), .unset] [(.ref a25)])
      refine GoKit.astore G at_467 rfl (Ls' := #[.val (.int p0), .val (.int p1), .val (.int p2), .val (.int p3), .val (.ref b), .val (.int (0 : Int32)), .val (.int v6), .val (.ref a21), .val (.ref a25)]) rfl (pc' := 469) rfl ?_
      refine Run.mono (cells' := 12) (slots' := 80) (by decide) (by decide) ?_
      refine Run.owless (ow' := []) (fun _ q => nomatch q) ?_
      exact J4 _ _ _ _ _ _ _ S36
    · refine GoKit.iload G at_335 rfl (pc' := 337) rfl ?_
      refine GoKit.newcI G at_337 (wi hw 0 rfl) (by decide) (k := 1) (cap := 1) rfl (Nat.le_refl _) (by decide) (by decide) (by decide) (cells' := 4) (slots' := 45) rfl rfl (pc' := 339) rfl (fun h40 a37 ga37 E38 A39 => ?_)
      refine GoKit.astore G at_339 rfl (Ls' := #[.val (.int p0), .val (.int p1), .val (.int p2), .val (.int p3), .val (.ref b), .val (.int (1 : Int32)), .val (.int v6), .val (.ref a37), .unset]) (XS.store1 rfl h7 rfl) (pc' := 341) rfl ?_
      refine GoKit.iload G at_341 rfl (pc' := 343) rfl ?_
      refine GoKit.if_le_f G at_343 (by decide) (pc' := 346) rfl ?_
      refine GoKit.aload G at_346 rfl rfl (pc' := 348) rfl ?_
      refine GoKit.iconst G (0 : Int32) at_348 rfl (pc' := 349) rfl ?_
      refine GoKit.aload G at_349 rfl rfl (pc' := 351) rfl ?_
      refine GoKit.iconst G (0 : Int32) at_351 rfl (pc' := 352) rfl ?_
      refine GoKit.caloadI G at_352 (A.ext E38) (i := 0) rfl (by decide) (x := b0) rfl (pc' := 353) rfl ?_
      refine GoKit.castI G at_353 A39 (i := 0) rfl (by decide) (Nat.le_of_ble_eq_true rfl) (lat_nar (hlat b0 (by simp))) (List.Mem.head _) (pc' := 354) rfl (fun h43 W41 A42 => ?_)
      change IA Z h43 a37 .char [b0] at A42
      refine GoKit.iload G at_354 rfl (pc' := 356) rfl ?_
      refine GoKit.iconst G (1 : Int32) at_356 rfl (pc' := 357) rfl ?_
      refine GoKit.icmp_le_t G at_357 (by decide) (by decide) (pc' := 368) rfl ?_
      refine GoKit.iload G at_368 rfl (pc' := 370) rfl ?_
      refine GoKit.iconst G (2 : Int32) at_370 rfl (pc' := 371) rfl ?_
      refine GoKit.icmp_le_t G at_371 (by decide) (by decide) (pc' := 382) rfl ?_
      refine GoKit.iload G at_382 rfl (pc' := 384) rfl ?_
      refine GoKit.iconst G (3 : Int32) at_384 rfl (pc' := 385) rfl ?_
      refine GoKit.icmp_le_t G at_385 (by decide) (by decide) (pc' := 396) rfl ?_
      refine GoKit.iload G at_396 rfl (pc' := 398) rfl ?_
      refine GoKit.iconst G (4 : Int32) at_398 rfl (pc' := 399) rfl ?_
      refine GoKit.icmp_le_t G at_399 (by decide) (by decide) (pc' := 410) rfl ?_
      refine GoKit.iload G at_410 rfl (pc' := 412) rfl ?_
      refine GoKit.iconst G (5 : Int32) at_412 rfl (pc' := 413) rfl ?_
      refine GoKit.icmp_le_t G at_413 (by decide) (by decide) (pc' := 424) rfl ?_
      refine GoKit.iload G at_424 rfl (pc' := 426) rfl ?_
      refine GoKit.bipush G (6 : Int32) at_426 rfl (pc' := 428) rfl ?_
      refine GoKit.icmp_le_t G at_428 (by decide) (by decide) (pc' := 441) rfl ?_
      refine GoKit.iload G at_441 rfl (pc' := 443) rfl ?_
      refine GoKit.bipush G (7 : Int32) at_443 rfl (pc' := 445) rfl ?_
      refine GoKit.icmp_le_t G at_445 (by decide) (by decide) (pc' := 458) rfl ?_
      refine GoKit.newobj G at_458 (wi hw 48 rfl) (wi hw 7 rfl) (wi hw 6 rfl) (by decide) (by decide) (cells' := 5) (slots' := 49) rfl rfl (pc' := 461) rfl (fun h48 a44 ga44 E45 X46 D47 => ?_)
      have F49 : Fld Z h48 a44 "java/lang/String" "value" "[B" .null := D47 (Or.inr (wi hw 9 rfl)) (ty := (.array .byte)) (by decide)
      have F50 : Fld Z h48 a44 "java/lang/String" "coder" "B" (.int 0) := D47 (Or.inr (wi hw 10 rfl)) (ty := .byte) (by decide)
      refine GoKit.dup G at_461 rfl (pc' := 462) rfl ?_
      refine GoKit.aload G at_462 rfl rfl (pc' := 464) rfl ?_
      have hl51 : ∀ c ∈ ([b0] : List Int32), 0 ≤ c.toInt ∧ c.toInt < 256 := by
        intro c hc
        simp only [List.mem_cons, List.not_mem_nil, or_false] at hc
        rcases hc with hc
        · rw [hc]; exact (hlat b0 (by simp))
      refine GoKit.callSpecial G at_464 rfl (wi hw 49 rfl) (wi hw 50 rfl) (wi hw 6 rfl) (wi hw 51 rfl) (by decide) (owc := [a44]) (W := 1) (argsL := [(.ref a37)]) (rest := [(.ref a44)]) (con_strInit l hw X46 F49 F50 (A42.ext E45) (Nat.le_of_ble_eq_true rfl) hl51 (by simp) HC) rfl (lenOf pd_13 rfl) rfl (by decide) (Nat.le_of_eq rfl) (by decide) (by decide) (by decide) (by intro x hx; simp only [List.mem_cons, List.not_mem_nil, or_false] at hx ⊢; simp [hx]) (cells' := 6) (slots' := 57) rfl rfl (pc' := 467) rfl (fun r52 h55 q53 K54 => ?_)
      obtain ⟨rfl, S56⟩ := q53
      show Run _ _ _ _ _ _ _ _ _ _ _ _ _ _ _ _ _ _ _ _ (mkF m 467 #[.val (.int p0), .val (.int p1), .val (.int p2), .val (.int p3), .val (.ref b), .val (.int (1 : Int32)), .val (.int v6), .val (.ref a37), .unset] [(.ref a44)])
      refine GoKit.astore G at_467 rfl (Ls' := #[.val (.int p0), .val (.int p1), .val (.int p2), .val (.int p3), .val (.ref b), .val (.int (1 : Int32)), .val (.int v6), .val (.ref a37), .val (.ref a44)]) rfl (pc' := 469) rfl ?_
      refine Run.mono (cells' := 12) (slots' := 80) (by decide) (by decide) ?_
      refine Run.owless (ow' := []) (fun _ q => nomatch q) ?_
      exact J4 _ _ _ _ _ _ _ S56
    · refine GoKit.iload G at_335 rfl (pc' := 337) rfl ?_
      refine GoKit.newcI G at_337 (wi hw 0 rfl) (by decide) (k := 2) (cap := 2) rfl (Nat.le_refl _) (by decide) (by decide) (by decide) (cells' := 4) (slots' := 46) rfl rfl (pc' := 339) rfl (fun h60 a57 ga57 E58 A59 => ?_)
      refine GoKit.astore G at_339 rfl (Ls' := #[.val (.int p0), .val (.int p1), .val (.int p2), .val (.int p3), .val (.ref b), .val (.int (2 : Int32)), .val (.int v6), .val (.ref a57), .unset]) (XS.store1 rfl h7 rfl) (pc' := 341) rfl ?_
      refine GoKit.iload G at_341 rfl (pc' := 343) rfl ?_
      refine GoKit.if_le_f G at_343 (by decide) (pc' := 346) rfl ?_
      refine GoKit.aload G at_346 rfl rfl (pc' := 348) rfl ?_
      refine GoKit.iconst G (0 : Int32) at_348 rfl (pc' := 349) rfl ?_
      refine GoKit.aload G at_349 rfl rfl (pc' := 351) rfl ?_
      refine GoKit.iconst G (0 : Int32) at_351 rfl (pc' := 352) rfl ?_
      refine GoKit.caloadI G at_352 (A.ext E58) (i := 0) rfl (by decide) (x := b0) rfl (pc' := 353) rfl ?_
      refine GoKit.castI G at_353 A59 (i := 0) rfl (by decide) (Nat.le_of_ble_eq_true rfl) (lat_nar (hlat b0 (by simp))) (List.Mem.head _) (pc' := 354) rfl (fun h63 W61 A62 => ?_)
      change IA Z h63 a57 .char [b0, 0] at A62
      refine GoKit.iload G at_354 rfl (pc' := 356) rfl ?_
      refine GoKit.iconst G (1 : Int32) at_356 rfl (pc' := 357) rfl ?_
      refine GoKit.icmp_le_f G at_357 (by decide) (pc' := 360) rfl ?_
      refine GoKit.aload G at_360 rfl rfl (pc' := 362) rfl ?_
      refine GoKit.iconst G (1 : Int32) at_362 rfl (pc' := 363) rfl ?_
      refine GoKit.aload G at_363 rfl rfl (pc' := 365) rfl ?_
      refine GoKit.iconst G (1 : Int32) at_365 rfl (pc' := 366) rfl ?_
      refine GoKit.caloadI G at_366 ((A.ext E58).other W61 (Nat.ne_of_lt (Nat.lt_of_lt_of_eq (A).lt ga57.symm))) (i := 1) rfl (by decide) (x := b1) rfl (pc' := 367) rfl ?_
      refine GoKit.castI G at_367 A62 (i := 1) rfl (by decide) (Nat.le_of_ble_eq_true rfl) (lat_nar (hlat b1 (by simp))) (List.Mem.head _) (pc' := 368) rfl (fun h66 W64 A65 => ?_)
      change IA Z h66 a57 .char [b0, b1] at A65
      refine GoKit.iload G at_368 rfl (pc' := 370) rfl ?_
      refine GoKit.iconst G (2 : Int32) at_370 rfl (pc' := 371) rfl ?_
      refine GoKit.icmp_le_t G at_371 (by decide) (by decide) (pc' := 382) rfl ?_
      refine GoKit.iload G at_382 rfl (pc' := 384) rfl ?_
      refine GoKit.iconst G (3 : Int32) at_384 rfl (pc' := 385) rfl ?_
      refine GoKit.icmp_le_t G at_385 (by decide) (by decide) (pc' := 396) rfl ?_
      refine GoKit.iload G at_396 rfl (pc' := 398) rfl ?_
      refine GoKit.iconst G (4 : Int32) at_398 rfl (pc' := 399) rfl ?_
      refine GoKit.icmp_le_t G at_399 (by decide) (by decide) (pc' := 410) rfl ?_
      refine GoKit.iload G at_410 rfl (pc' := 412) rfl ?_
      refine GoKit.iconst G (5 : Int32) at_412 rfl (pc' := 413) rfl ?_
      refine GoKit.icmp_le_t G at_413 (by decide) (by decide) (pc' := 424) rfl ?_
      refine GoKit.iload G at_424 rfl (pc' := 426) rfl ?_
      refine GoKit.bipush G (6 : Int32) at_426 rfl (pc' := 428) rfl ?_
      refine GoKit.icmp_le_t G at_428 (by decide) (by decide) (pc' := 441) rfl ?_
      refine GoKit.iload G at_441 rfl (pc' := 443) rfl ?_
      refine GoKit.bipush G (7 : Int32) at_443 rfl (pc' := 445) rfl ?_
      refine GoKit.icmp_le_t G at_445 (by decide) (by decide) (pc' := 458) rfl ?_
      refine GoKit.newobj G at_458 (wi hw 48 rfl) (wi hw 7 rfl) (wi hw 6 rfl) (by decide) (by decide) (cells' := 5) (slots' := 50) rfl rfl (pc' := 461) rfl (fun h71 a67 ga67 E68 X69 D70 => ?_)
      have F72 : Fld Z h71 a67 "java/lang/String" "value" "[B" .null := D70 (Or.inr (wi hw 9 rfl)) (ty := (.array .byte)) (by decide)
      have F73 : Fld Z h71 a67 "java/lang/String" "coder" "B" (.int 0) := D70 (Or.inr (wi hw 10 rfl)) (ty := .byte) (by decide)
      refine GoKit.dup G at_461 rfl (pc' := 462) rfl ?_
      refine GoKit.aload G at_462 rfl rfl (pc' := 464) rfl ?_
      have hl74 : ∀ c ∈ ([b0, b1] : List Int32), 0 ≤ c.toInt ∧ c.toInt < 256 := by
        intro c hc
        simp only [List.mem_cons, List.not_mem_nil, or_false] at hc
        rcases hc with hc | hc
        · rw [hc]; exact (hlat b0 (by simp))
        · rw [hc]; exact (hlat b1 (by simp))
      refine GoKit.callSpecial G at_464 rfl (wi hw 49 rfl) (wi hw 50 rfl) (wi hw 6 rfl) (wi hw 51 rfl) (by decide) (owc := [a67]) (W := 1) (argsL := [(.ref a57)]) (rest := [(.ref a67)]) (con_strInit l hw X69 F72 F73 (A65.ext E68) (Nat.le_of_ble_eq_true rfl) hl74 (by simp) HC) rfl (lenOf pd_13 rfl) rfl (by decide) (Nat.le_of_eq rfl) (by decide) (by decide) (by decide) (by intro x hx; simp only [List.mem_cons, List.not_mem_nil, or_false] at hx ⊢; simp [hx]) (cells' := 6) (slots' := 58) rfl rfl (pc' := 467) rfl (fun r75 h78 q76 K77 => ?_)
      obtain ⟨rfl, S79⟩ := q76
      show Run _ _ _ _ _ _ _ _ _ _ _ _ _ _ _ _ _ _ _ _ (mkF m 467 #[.val (.int p0), .val (.int p1), .val (.int p2), .val (.int p3), .val (.ref b), .val (.int (2 : Int32)), .val (.int v6), .val (.ref a57), .unset] [(.ref a67)])
      refine GoKit.astore G at_467 rfl (Ls' := #[.val (.int p0), .val (.int p1), .val (.int p2), .val (.int p3), .val (.ref b), .val (.int (2 : Int32)), .val (.int v6), .val (.ref a57), .val (.ref a67)]) rfl (pc' := 469) rfl ?_
      refine Run.mono (cells' := 12) (slots' := 80) (by decide) (by decide) ?_
      refine Run.owless (ow' := []) (fun _ q => nomatch q) ?_
      exact J4 _ _ _ _ _ _ _ S79
    · refine GoKit.iload G at_335 rfl (pc' := 337) rfl ?_
      refine GoKit.newcI G at_337 (wi hw 0 rfl) (by decide) (k := 3) (cap := 3) rfl (Nat.le_refl _) (by decide) (by decide) (by decide) (cells' := 4) (slots' := 47) rfl rfl (pc' := 339) rfl (fun h83 a80 ga80 E81 A82 => ?_)
      refine GoKit.astore G at_339 rfl (Ls' := #[.val (.int p0), .val (.int p1), .val (.int p2), .val (.int p3), .val (.ref b), .val (.int (3 : Int32)), .val (.int v6), .val (.ref a80), .unset]) (XS.store1 rfl h7 rfl) (pc' := 341) rfl ?_
      refine GoKit.iload G at_341 rfl (pc' := 343) rfl ?_
      refine GoKit.if_le_f G at_343 (by decide) (pc' := 346) rfl ?_
      refine GoKit.aload G at_346 rfl rfl (pc' := 348) rfl ?_
      refine GoKit.iconst G (0 : Int32) at_348 rfl (pc' := 349) rfl ?_
      refine GoKit.aload G at_349 rfl rfl (pc' := 351) rfl ?_
      refine GoKit.iconst G (0 : Int32) at_351 rfl (pc' := 352) rfl ?_
      refine GoKit.caloadI G at_352 (A.ext E81) (i := 0) rfl (by decide) (x := b0) rfl (pc' := 353) rfl ?_
      refine GoKit.castI G at_353 A82 (i := 0) rfl (by decide) (Nat.le_of_ble_eq_true rfl) (lat_nar (hlat b0 (by simp))) (List.Mem.head _) (pc' := 354) rfl (fun h86 W84 A85 => ?_)
      change IA Z h86 a80 .char [b0, 0, 0] at A85
      refine GoKit.iload G at_354 rfl (pc' := 356) rfl ?_
      refine GoKit.iconst G (1 : Int32) at_356 rfl (pc' := 357) rfl ?_
      refine GoKit.icmp_le_f G at_357 (by decide) (pc' := 360) rfl ?_
      refine GoKit.aload G at_360 rfl rfl (pc' := 362) rfl ?_
      refine GoKit.iconst G (1 : Int32) at_362 rfl (pc' := 363) rfl ?_
      refine GoKit.aload G at_363 rfl rfl (pc' := 365) rfl ?_
      refine GoKit.iconst G (1 : Int32) at_365 rfl (pc' := 366) rfl ?_
      refine GoKit.caloadI G at_366 ((A.ext E81).other W84 (Nat.ne_of_lt (Nat.lt_of_lt_of_eq (A).lt ga80.symm))) (i := 1) rfl (by decide) (x := b1) rfl (pc' := 367) rfl ?_
      refine GoKit.castI G at_367 A85 (i := 1) rfl (by decide) (Nat.le_of_ble_eq_true rfl) (lat_nar (hlat b1 (by simp))) (List.Mem.head _) (pc' := 368) rfl (fun h89 W87 A88 => ?_)
      change IA Z h89 a80 .char [b0, b1, 0] at A88
      refine GoKit.iload G at_368 rfl (pc' := 370) rfl ?_
      refine GoKit.iconst G (2 : Int32) at_370 rfl (pc' := 371) rfl ?_
      refine GoKit.icmp_le_f G at_371 (by decide) (pc' := 374) rfl ?_
      refine GoKit.aload G at_374 rfl rfl (pc' := 376) rfl ?_
      refine GoKit.iconst G (2 : Int32) at_376 rfl (pc' := 377) rfl ?_
      refine GoKit.aload G at_377 rfl rfl (pc' := 379) rfl ?_
      refine GoKit.iconst G (2 : Int32) at_379 rfl (pc' := 380) rfl ?_
      refine GoKit.caloadI G at_380 (((A.ext E81).other W84 (Nat.ne_of_lt (Nat.lt_of_lt_of_eq (A).lt ga80.symm))).other W87 (Nat.ne_of_lt (Nat.lt_of_lt_of_eq (A).lt ga80.symm))) (i := 2) rfl (by decide) (x := b2) rfl (pc' := 381) rfl ?_
      refine GoKit.castI G at_381 A88 (i := 2) rfl (by decide) (Nat.le_of_ble_eq_true rfl) (lat_nar (hlat b2 (by simp))) (List.Mem.head _) (pc' := 382) rfl (fun h92 W90 A91 => ?_)
      change IA Z h92 a80 .char [b0, b1, b2] at A91
      refine GoKit.iload G at_382 rfl (pc' := 384) rfl ?_
      refine GoKit.iconst G (3 : Int32) at_384 rfl (pc' := 385) rfl ?_
      refine GoKit.icmp_le_t G at_385 (by decide) (by decide) (pc' := 396) rfl ?_
      refine GoKit.iload G at_396 rfl (pc' := 398) rfl ?_
      refine GoKit.iconst G (4 : Int32) at_398 rfl (pc' := 399) rfl ?_
      refine GoKit.icmp_le_t G at_399 (by decide) (by decide) (pc' := 410) rfl ?_
      refine GoKit.iload G at_410 rfl (pc' := 412) rfl ?_
      refine GoKit.iconst G (5 : Int32) at_412 rfl (pc' := 413) rfl ?_
      refine GoKit.icmp_le_t G at_413 (by decide) (by decide) (pc' := 424) rfl ?_
      refine GoKit.iload G at_424 rfl (pc' := 426) rfl ?_
      refine GoKit.bipush G (6 : Int32) at_426 rfl (pc' := 428) rfl ?_
      refine GoKit.icmp_le_t G at_428 (by decide) (by decide) (pc' := 441) rfl ?_
      refine GoKit.iload G at_441 rfl (pc' := 443) rfl ?_
      refine GoKit.bipush G (7 : Int32) at_443 rfl (pc' := 445) rfl ?_
      refine GoKit.icmp_le_t G at_445 (by decide) (by decide) (pc' := 458) rfl ?_
      refine GoKit.newobj G at_458 (wi hw 48 rfl) (wi hw 7 rfl) (wi hw 6 rfl) (by decide) (by decide) (cells' := 5) (slots' := 51) rfl rfl (pc' := 461) rfl (fun h97 a93 ga93 E94 X95 D96 => ?_)
      have F98 : Fld Z h97 a93 "java/lang/String" "value" "[B" .null := D96 (Or.inr (wi hw 9 rfl)) (ty := (.array .byte)) (by decide)
      have F99 : Fld Z h97 a93 "java/lang/String" "coder" "B" (.int 0) := D96 (Or.inr (wi hw 10 rfl)) (ty := .byte) (by decide)
      refine GoKit.dup G at_461 rfl (pc' := 462) rfl ?_
      refine GoKit.aload G at_462 rfl rfl (pc' := 464) rfl ?_
      have hl100 : ∀ c ∈ ([b0, b1, b2] : List Int32), 0 ≤ c.toInt ∧ c.toInt < 256 := by
        intro c hc
        simp only [List.mem_cons, List.not_mem_nil, or_false] at hc
        rcases hc with hc | hc | hc
        · rw [hc]; exact (hlat b0 (by simp))
        · rw [hc]; exact (hlat b1 (by simp))
        · rw [hc]; exact (hlat b2 (by simp))
      refine GoKit.callSpecial G at_464 rfl (wi hw 49 rfl) (wi hw 50 rfl) (wi hw 6 rfl) (wi hw 51 rfl) (by decide) (owc := [a93]) (W := 1) (argsL := [(.ref a80)]) (rest := [(.ref a93)]) (con_strInit l hw X95 F98 F99 (A91.ext E94) (Nat.le_of_ble_eq_true rfl) hl100 (by simp) HC) rfl (lenOf pd_13 rfl) rfl (by decide) (Nat.le_of_eq rfl) (by decide) (by decide) (by decide) (by intro x hx; simp only [List.mem_cons, List.not_mem_nil, or_false] at hx ⊢; simp [hx]) (cells' := 6) (slots' := 59) rfl rfl (pc' := 467) rfl (fun r101 h104 q102 K103 => ?_)
      obtain ⟨rfl, S105⟩ := q102
      show Run _ _ _ _ _ _ _ _ _ _ _ _ _ _ _ _ _ _ _ _ (mkF m 467 #[.val (.int p0), .val (.int p1), .val (.int p2), .val (.int p3), .val (.ref b), .val (.int (3 : Int32)), .val (.int v6), .val (.ref a80), .unset] [(.ref a93)])
      refine GoKit.astore G at_467 rfl (Ls' := #[.val (.int p0), .val (.int p1), .val (.int p2), .val (.int p3), .val (.ref b), .val (.int (3 : Int32)), .val (.int v6), .val (.ref a80), .val (.ref a93)]) rfl (pc' := 469) rfl ?_
      refine Run.mono (cells' := 12) (slots' := 80) (by decide) (by decide) ?_
      refine Run.owless (ow' := []) (fun _ q => nomatch q) ?_
      exact J4 _ _ _ _ _ _ _ S105
    · refine GoKit.iload G at_335 rfl (pc' := 337) rfl ?_
      refine GoKit.newcI G at_337 (wi hw 0 rfl) (by decide) (k := 4) (cap := 4) rfl (Nat.le_refl _) (by decide) (by decide) (by decide) (cells' := 4) (slots' := 48) rfl rfl (pc' := 339) rfl (fun h109 a106 ga106 E107 A108 => ?_)
      refine GoKit.astore G at_339 rfl (Ls' := #[.val (.int p0), .val (.int p1), .val (.int p2), .val (.int p3), .val (.ref b), .val (.int (4 : Int32)), .val (.int v6), .val (.ref a106), .unset]) (XS.store1 rfl h7 rfl) (pc' := 341) rfl ?_
      refine GoKit.iload G at_341 rfl (pc' := 343) rfl ?_
      refine GoKit.if_le_f G at_343 (by decide) (pc' := 346) rfl ?_
      refine GoKit.aload G at_346 rfl rfl (pc' := 348) rfl ?_
      refine GoKit.iconst G (0 : Int32) at_348 rfl (pc' := 349) rfl ?_
      refine GoKit.aload G at_349 rfl rfl (pc' := 351) rfl ?_
      refine GoKit.iconst G (0 : Int32) at_351 rfl (pc' := 352) rfl ?_
      refine GoKit.caloadI G at_352 (A.ext E107) (i := 0) rfl (by decide) (x := b0) rfl (pc' := 353) rfl ?_
      refine GoKit.castI G at_353 A108 (i := 0) rfl (by decide) (Nat.le_of_ble_eq_true rfl) (lat_nar (hlat b0 (by simp))) (List.Mem.head _) (pc' := 354) rfl (fun h112 W110 A111 => ?_)
      change IA Z h112 a106 .char [b0, 0, 0, 0] at A111
      refine GoKit.iload G at_354 rfl (pc' := 356) rfl ?_
      refine GoKit.iconst G (1 : Int32) at_356 rfl (pc' := 357) rfl ?_
      refine GoKit.icmp_le_f G at_357 (by decide) (pc' := 360) rfl ?_
      refine GoKit.aload G at_360 rfl rfl (pc' := 362) rfl ?_
      refine GoKit.iconst G (1 : Int32) at_362 rfl (pc' := 363) rfl ?_
      refine GoKit.aload G at_363 rfl rfl (pc' := 365) rfl ?_
      refine GoKit.iconst G (1 : Int32) at_365 rfl (pc' := 366) rfl ?_
      refine GoKit.caloadI G at_366 ((A.ext E107).other W110 (Nat.ne_of_lt (Nat.lt_of_lt_of_eq (A).lt ga106.symm))) (i := 1) rfl (by decide) (x := b1) rfl (pc' := 367) rfl ?_
      refine GoKit.castI G at_367 A111 (i := 1) rfl (by decide) (Nat.le_of_ble_eq_true rfl) (lat_nar (hlat b1 (by simp))) (List.Mem.head _) (pc' := 368) rfl (fun h115 W113 A114 => ?_)
      change IA Z h115 a106 .char [b0, b1, 0, 0] at A114
      refine GoKit.iload G at_368 rfl (pc' := 370) rfl ?_
      refine GoKit.iconst G (2 : Int32) at_370 rfl (pc' := 371) rfl ?_
      refine GoKit.icmp_le_f G at_371 (by decide) (pc' := 374) rfl ?_
      refine GoKit.aload G at_374 rfl rfl (pc' := 376) rfl ?_
      refine GoKit.iconst G (2 : Int32) at_376 rfl (pc' := 377) rfl ?_
      refine GoKit.aload G at_377 rfl rfl (pc' := 379) rfl ?_
      refine GoKit.iconst G (2 : Int32) at_379 rfl (pc' := 380) rfl ?_
      refine GoKit.caloadI G at_380 (((A.ext E107).other W110 (Nat.ne_of_lt (Nat.lt_of_lt_of_eq (A).lt ga106.symm))).other W113 (Nat.ne_of_lt (Nat.lt_of_lt_of_eq (A).lt ga106.symm))) (i := 2) rfl (by decide) (x := b2) rfl (pc' := 381) rfl ?_
      refine GoKit.castI G at_381 A114 (i := 2) rfl (by decide) (Nat.le_of_ble_eq_true rfl) (lat_nar (hlat b2 (by simp))) (List.Mem.head _) (pc' := 382) rfl (fun h118 W116 A117 => ?_)
      change IA Z h118 a106 .char [b0, b1, b2, 0] at A117
      refine GoKit.iload G at_382 rfl (pc' := 384) rfl ?_
      refine GoKit.iconst G (3 : Int32) at_384 rfl (pc' := 385) rfl ?_
      refine GoKit.icmp_le_f G at_385 (by decide) (pc' := 388) rfl ?_
      refine GoKit.aload G at_388 rfl rfl (pc' := 390) rfl ?_
      refine GoKit.iconst G (3 : Int32) at_390 rfl (pc' := 391) rfl ?_
      refine GoKit.aload G at_391 rfl rfl (pc' := 393) rfl ?_
      refine GoKit.iconst G (3 : Int32) at_393 rfl (pc' := 394) rfl ?_
      refine GoKit.caloadI G at_394 ((((A.ext E107).other W110 (Nat.ne_of_lt (Nat.lt_of_lt_of_eq (A).lt ga106.symm))).other W113 (Nat.ne_of_lt (Nat.lt_of_lt_of_eq (A).lt ga106.symm))).other W116 (Nat.ne_of_lt (Nat.lt_of_lt_of_eq (A).lt ga106.symm))) (i := 3) rfl (by decide) (x := b3) rfl (pc' := 395) rfl ?_
      refine GoKit.castI G at_395 A117 (i := 3) rfl (by decide) (Nat.le_of_ble_eq_true rfl) (lat_nar (hlat b3 (by simp))) (List.Mem.head _) (pc' := 396) rfl (fun h121 W119 A120 => ?_)
      change IA Z h121 a106 .char [b0, b1, b2, b3] at A120
      refine GoKit.iload G at_396 rfl (pc' := 398) rfl ?_
      refine GoKit.iconst G (4 : Int32) at_398 rfl (pc' := 399) rfl ?_
      refine GoKit.icmp_le_t G at_399 (by decide) (by decide) (pc' := 410) rfl ?_
      refine GoKit.iload G at_410 rfl (pc' := 412) rfl ?_
      refine GoKit.iconst G (5 : Int32) at_412 rfl (pc' := 413) rfl ?_
      refine GoKit.icmp_le_t G at_413 (by decide) (by decide) (pc' := 424) rfl ?_
      refine GoKit.iload G at_424 rfl (pc' := 426) rfl ?_
      refine GoKit.bipush G (6 : Int32) at_426 rfl (pc' := 428) rfl ?_
      refine GoKit.icmp_le_t G at_428 (by decide) (by decide) (pc' := 441) rfl ?_
      refine GoKit.iload G at_441 rfl (pc' := 443) rfl ?_
      refine GoKit.bipush G (7 : Int32) at_443 rfl (pc' := 445) rfl ?_
      refine GoKit.icmp_le_t G at_445 (by decide) (by decide) (pc' := 458) rfl ?_
      refine GoKit.newobj G at_458 (wi hw 48 rfl) (wi hw 7 rfl) (wi hw 6 rfl) (by decide) (by decide) (cells' := 5) (slots' := 52) rfl rfl (pc' := 461) rfl (fun h126 a122 ga122 E123 X124 D125 => ?_)
      have F127 : Fld Z h126 a122 "java/lang/String" "value" "[B" .null := D125 (Or.inr (wi hw 9 rfl)) (ty := (.array .byte)) (by decide)
      have F128 : Fld Z h126 a122 "java/lang/String" "coder" "B" (.int 0) := D125 (Or.inr (wi hw 10 rfl)) (ty := .byte) (by decide)
      refine GoKit.dup G at_461 rfl (pc' := 462) rfl ?_
      refine GoKit.aload G at_462 rfl rfl (pc' := 464) rfl ?_
      have hl129 : ∀ c ∈ ([b0, b1, b2, b3] : List Int32), 0 ≤ c.toInt ∧ c.toInt < 256 := by
        intro c hc
        simp only [List.mem_cons, List.not_mem_nil, or_false] at hc
        rcases hc with hc | hc | hc | hc
        · rw [hc]; exact (hlat b0 (by simp))
        · rw [hc]; exact (hlat b1 (by simp))
        · rw [hc]; exact (hlat b2 (by simp))
        · rw [hc]; exact (hlat b3 (by simp))
      refine GoKit.callSpecial G at_464 rfl (wi hw 49 rfl) (wi hw 50 rfl) (wi hw 6 rfl) (wi hw 51 rfl) (by decide) (owc := [a122]) (W := 1) (argsL := [(.ref a106)]) (rest := [(.ref a122)]) (con_strInit l hw X124 F127 F128 (A120.ext E123) (Nat.le_of_ble_eq_true rfl) hl129 (by simp) HC) rfl (lenOf pd_13 rfl) rfl (by decide) (Nat.le_of_eq rfl) (by decide) (by decide) (by decide) (by intro x hx; simp only [List.mem_cons, List.not_mem_nil, or_false] at hx ⊢; simp [hx]) (cells' := 6) (slots' := 60) rfl rfl (pc' := 467) rfl (fun r130 h133 q131 K132 => ?_)
      obtain ⟨rfl, S134⟩ := q131
      show Run _ _ _ _ _ _ _ _ _ _ _ _ _ _ _ _ _ _ _ _ (mkF m 467 #[.val (.int p0), .val (.int p1), .val (.int p2), .val (.int p3), .val (.ref b), .val (.int (4 : Int32)), .val (.int v6), .val (.ref a106), .unset] [(.ref a122)])
      refine GoKit.astore G at_467 rfl (Ls' := #[.val (.int p0), .val (.int p1), .val (.int p2), .val (.int p3), .val (.ref b), .val (.int (4 : Int32)), .val (.int v6), .val (.ref a106), .val (.ref a122)]) rfl (pc' := 469) rfl ?_
      refine Run.mono (cells' := 12) (slots' := 80) (by decide) (by decide) ?_
      refine Run.owless (ow' := []) (fun _ q => nomatch q) ?_
      exact J4 _ _ _ _ _ _ _ S134
    · refine GoKit.iload G at_335 rfl (pc' := 337) rfl ?_
      refine GoKit.newcI G at_337 (wi hw 0 rfl) (by decide) (k := 5) (cap := 5) rfl (Nat.le_refl _) (by decide) (by decide) (by decide) (cells' := 4) (slots' := 49) rfl rfl (pc' := 339) rfl (fun h138 a135 ga135 E136 A137 => ?_)
      refine GoKit.astore G at_339 rfl (Ls' := #[.val (.int p0), .val (.int p1), .val (.int p2), .val (.int p3), .val (.ref b), .val (.int (5 : Int32)), .val (.int v6), .val (.ref a135), .unset]) (XS.store1 rfl h7 rfl) (pc' := 341) rfl ?_
      refine GoKit.iload G at_341 rfl (pc' := 343) rfl ?_
      refine GoKit.if_le_f G at_343 (by decide) (pc' := 346) rfl ?_
      refine GoKit.aload G at_346 rfl rfl (pc' := 348) rfl ?_
      refine GoKit.iconst G (0 : Int32) at_348 rfl (pc' := 349) rfl ?_
      refine GoKit.aload G at_349 rfl rfl (pc' := 351) rfl ?_
      refine GoKit.iconst G (0 : Int32) at_351 rfl (pc' := 352) rfl ?_
      refine GoKit.caloadI G at_352 (A.ext E136) (i := 0) rfl (by decide) (x := b0) rfl (pc' := 353) rfl ?_
      refine GoKit.castI G at_353 A137 (i := 0) rfl (by decide) (Nat.le_of_ble_eq_true rfl) (lat_nar (hlat b0 (by simp))) (List.Mem.head _) (pc' := 354) rfl (fun h141 W139 A140 => ?_)
      change IA Z h141 a135 .char [b0, 0, 0, 0, 0] at A140
      refine GoKit.iload G at_354 rfl (pc' := 356) rfl ?_
      refine GoKit.iconst G (1 : Int32) at_356 rfl (pc' := 357) rfl ?_
      refine GoKit.icmp_le_f G at_357 (by decide) (pc' := 360) rfl ?_
      refine GoKit.aload G at_360 rfl rfl (pc' := 362) rfl ?_
      refine GoKit.iconst G (1 : Int32) at_362 rfl (pc' := 363) rfl ?_
      refine GoKit.aload G at_363 rfl rfl (pc' := 365) rfl ?_
      refine GoKit.iconst G (1 : Int32) at_365 rfl (pc' := 366) rfl ?_
      refine GoKit.caloadI G at_366 ((A.ext E136).other W139 (Nat.ne_of_lt (Nat.lt_of_lt_of_eq (A).lt ga135.symm))) (i := 1) rfl (by decide) (x := b1) rfl (pc' := 367) rfl ?_
      refine GoKit.castI G at_367 A140 (i := 1) rfl (by decide) (Nat.le_of_ble_eq_true rfl) (lat_nar (hlat b1 (by simp))) (List.Mem.head _) (pc' := 368) rfl (fun h144 W142 A143 => ?_)
      change IA Z h144 a135 .char [b0, b1, 0, 0, 0] at A143
      refine GoKit.iload G at_368 rfl (pc' := 370) rfl ?_
      refine GoKit.iconst G (2 : Int32) at_370 rfl (pc' := 371) rfl ?_
      refine GoKit.icmp_le_f G at_371 (by decide) (pc' := 374) rfl ?_
      refine GoKit.aload G at_374 rfl rfl (pc' := 376) rfl ?_
      refine GoKit.iconst G (2 : Int32) at_376 rfl (pc' := 377) rfl ?_
      refine GoKit.aload G at_377 rfl rfl (pc' := 379) rfl ?_
      refine GoKit.iconst G (2 : Int32) at_379 rfl (pc' := 380) rfl ?_
      refine GoKit.caloadI G at_380 (((A.ext E136).other W139 (Nat.ne_of_lt (Nat.lt_of_lt_of_eq (A).lt ga135.symm))).other W142 (Nat.ne_of_lt (Nat.lt_of_lt_of_eq (A).lt ga135.symm))) (i := 2) rfl (by decide) (x := b2) rfl (pc' := 381) rfl ?_
      refine GoKit.castI G at_381 A143 (i := 2) rfl (by decide) (Nat.le_of_ble_eq_true rfl) (lat_nar (hlat b2 (by simp))) (List.Mem.head _) (pc' := 382) rfl (fun h147 W145 A146 => ?_)
      change IA Z h147 a135 .char [b0, b1, b2, 0, 0] at A146
      refine GoKit.iload G at_382 rfl (pc' := 384) rfl ?_
      refine GoKit.iconst G (3 : Int32) at_384 rfl (pc' := 385) rfl ?_
      refine GoKit.icmp_le_f G at_385 (by decide) (pc' := 388) rfl ?_
      refine GoKit.aload G at_388 rfl rfl (pc' := 390) rfl ?_
      refine GoKit.iconst G (3 : Int32) at_390 rfl (pc' := 391) rfl ?_
      refine GoKit.aload G at_391 rfl rfl (pc' := 393) rfl ?_
      refine GoKit.iconst G (3 : Int32) at_393 rfl (pc' := 394) rfl ?_
      refine GoKit.caloadI G at_394 ((((A.ext E136).other W139 (Nat.ne_of_lt (Nat.lt_of_lt_of_eq (A).lt ga135.symm))).other W142 (Nat.ne_of_lt (Nat.lt_of_lt_of_eq (A).lt ga135.symm))).other W145 (Nat.ne_of_lt (Nat.lt_of_lt_of_eq (A).lt ga135.symm))) (i := 3) rfl (by decide) (x := b3) rfl (pc' := 395) rfl ?_
      refine GoKit.castI G at_395 A146 (i := 3) rfl (by decide) (Nat.le_of_ble_eq_true rfl) (lat_nar (hlat b3 (by simp))) (List.Mem.head _) (pc' := 396) rfl (fun h150 W148 A149 => ?_)
      change IA Z h150 a135 .char [b0, b1, b2, b3, 0] at A149
      refine GoKit.iload G at_396 rfl (pc' := 398) rfl ?_
      refine GoKit.iconst G (4 : Int32) at_398 rfl (pc' := 399) rfl ?_
      refine GoKit.icmp_le_f G at_399 (by decide) (pc' := 402) rfl ?_
      refine GoKit.aload G at_402 rfl rfl (pc' := 404) rfl ?_
      refine GoKit.iconst G (4 : Int32) at_404 rfl (pc' := 405) rfl ?_
      refine GoKit.aload G at_405 rfl rfl (pc' := 407) rfl ?_
      refine GoKit.iconst G (4 : Int32) at_407 rfl (pc' := 408) rfl ?_
      refine GoKit.caloadI G at_408 (((((A.ext E136).other W139 (Nat.ne_of_lt (Nat.lt_of_lt_of_eq (A).lt ga135.symm))).other W142 (Nat.ne_of_lt (Nat.lt_of_lt_of_eq (A).lt ga135.symm))).other W145 (Nat.ne_of_lt (Nat.lt_of_lt_of_eq (A).lt ga135.symm))).other W148 (Nat.ne_of_lt (Nat.lt_of_lt_of_eq (A).lt ga135.symm))) (i := 4) rfl (by decide) (x := b4) rfl (pc' := 409) rfl ?_
      refine GoKit.castI G at_409 A149 (i := 4) rfl (by decide) (Nat.le_of_ble_eq_true rfl) (lat_nar (hlat b4 (by simp))) (List.Mem.head _) (pc' := 410) rfl (fun h153 W151 A152 => ?_)
      change IA Z h153 a135 .char [b0, b1, b2, b3, b4] at A152
      refine GoKit.iload G at_410 rfl (pc' := 412) rfl ?_
      refine GoKit.iconst G (5 : Int32) at_412 rfl (pc' := 413) rfl ?_
      refine GoKit.icmp_le_t G at_413 (by decide) (by decide) (pc' := 424) rfl ?_
      refine GoKit.iload G at_424 rfl (pc' := 426) rfl ?_
      refine GoKit.bipush G (6 : Int32) at_426 rfl (pc' := 428) rfl ?_
      refine GoKit.icmp_le_t G at_428 (by decide) (by decide) (pc' := 441) rfl ?_
      refine GoKit.iload G at_441 rfl (pc' := 443) rfl ?_
      refine GoKit.bipush G (7 : Int32) at_443 rfl (pc' := 445) rfl ?_
      refine GoKit.icmp_le_t G at_445 (by decide) (by decide) (pc' := 458) rfl ?_
      refine GoKit.newobj G at_458 (wi hw 48 rfl) (wi hw 7 rfl) (wi hw 6 rfl) (by decide) (by decide) (cells' := 5) (slots' := 53) rfl rfl (pc' := 461) rfl (fun h158 a154 ga154 E155 X156 D157 => ?_)
      have F159 : Fld Z h158 a154 "java/lang/String" "value" "[B" .null := D157 (Or.inr (wi hw 9 rfl)) (ty := (.array .byte)) (by decide)
      have F160 : Fld Z h158 a154 "java/lang/String" "coder" "B" (.int 0) := D157 (Or.inr (wi hw 10 rfl)) (ty := .byte) (by decide)
      refine GoKit.dup G at_461 rfl (pc' := 462) rfl ?_
      refine GoKit.aload G at_462 rfl rfl (pc' := 464) rfl ?_
      have hl161 : ∀ c ∈ ([b0, b1, b2, b3, b4] : List Int32), 0 ≤ c.toInt ∧ c.toInt < 256 := by
        intro c hc
        simp only [List.mem_cons, List.not_mem_nil, or_false] at hc
        rcases hc with hc | hc | hc | hc | hc
        · rw [hc]; exact (hlat b0 (by simp))
        · rw [hc]; exact (hlat b1 (by simp))
        · rw [hc]; exact (hlat b2 (by simp))
        · rw [hc]; exact (hlat b3 (by simp))
        · rw [hc]; exact (hlat b4 (by simp))
      refine GoKit.callSpecial G at_464 rfl (wi hw 49 rfl) (wi hw 50 rfl) (wi hw 6 rfl) (wi hw 51 rfl) (by decide) (owc := [a154]) (W := 1) (argsL := [(.ref a135)]) (rest := [(.ref a154)]) (con_strInit l hw X156 F159 F160 (A152.ext E155) (Nat.le_of_ble_eq_true rfl) hl161 (by simp) HC) rfl (lenOf pd_13 rfl) rfl (by decide) (Nat.le_of_eq rfl) (by decide) (by decide) (by decide) (by intro x hx; simp only [List.mem_cons, List.not_mem_nil, or_false] at hx ⊢; simp [hx]) (cells' := 6) (slots' := 61) rfl rfl (pc' := 467) rfl (fun r162 h165 q163 K164 => ?_)
      obtain ⟨rfl, S166⟩ := q163
      show Run _ _ _ _ _ _ _ _ _ _ _ _ _ _ _ _ _ _ _ _ (mkF m 467 #[.val (.int p0), .val (.int p1), .val (.int p2), .val (.int p3), .val (.ref b), .val (.int (5 : Int32)), .val (.int v6), .val (.ref a135), .unset] [(.ref a154)])
      refine GoKit.astore G at_467 rfl (Ls' := #[.val (.int p0), .val (.int p1), .val (.int p2), .val (.int p3), .val (.ref b), .val (.int (5 : Int32)), .val (.int v6), .val (.ref a135), .val (.ref a154)]) rfl (pc' := 469) rfl ?_
      refine Run.mono (cells' := 12) (slots' := 80) (by decide) (by decide) ?_
      refine Run.owless (ow' := []) (fun _ q => nomatch q) ?_
      exact J4 _ _ _ _ _ _ _ S166
    · refine GoKit.iload G at_335 rfl (pc' := 337) rfl ?_
      refine GoKit.newcI G at_337 (wi hw 0 rfl) (by decide) (k := 6) (cap := 6) rfl (Nat.le_refl _) (by decide) (by decide) (by decide) (cells' := 4) (slots' := 50) rfl rfl (pc' := 339) rfl (fun h170 a167 ga167 E168 A169 => ?_)
      refine GoKit.astore G at_339 rfl (Ls' := #[.val (.int p0), .val (.int p1), .val (.int p2), .val (.int p3), .val (.ref b), .val (.int (6 : Int32)), .val (.int v6), .val (.ref a167), .unset]) (XS.store1 rfl h7 rfl) (pc' := 341) rfl ?_
      refine GoKit.iload G at_341 rfl (pc' := 343) rfl ?_
      refine GoKit.if_le_f G at_343 (by decide) (pc' := 346) rfl ?_
      refine GoKit.aload G at_346 rfl rfl (pc' := 348) rfl ?_
      refine GoKit.iconst G (0 : Int32) at_348 rfl (pc' := 349) rfl ?_
      refine GoKit.aload G at_349 rfl rfl (pc' := 351) rfl ?_
      refine GoKit.iconst G (0 : Int32) at_351 rfl (pc' := 352) rfl ?_
      refine GoKit.caloadI G at_352 (A.ext E168) (i := 0) rfl (by decide) (x := b0) rfl (pc' := 353) rfl ?_
      refine GoKit.castI G at_353 A169 (i := 0) rfl (by decide) (Nat.le_of_ble_eq_true rfl) (lat_nar (hlat b0 (by simp))) (List.Mem.head _) (pc' := 354) rfl (fun h173 W171 A172 => ?_)
      change IA Z h173 a167 .char [b0, 0, 0, 0, 0, 0] at A172
      refine GoKit.iload G at_354 rfl (pc' := 356) rfl ?_
      refine GoKit.iconst G (1 : Int32) at_356 rfl (pc' := 357) rfl ?_
      refine GoKit.icmp_le_f G at_357 (by decide) (pc' := 360) rfl ?_
      refine GoKit.aload G at_360 rfl rfl (pc' := 362) rfl ?_
      refine GoKit.iconst G (1 : Int32) at_362 rfl (pc' := 363) rfl ?_
      refine GoKit.aload G at_363 rfl rfl (pc' := 365) rfl ?_
      refine GoKit.iconst G (1 : Int32) at_365 rfl (pc' := 366) rfl ?_
      refine GoKit.caloadI G at_366 ((A.ext E168).other W171 (Nat.ne_of_lt (Nat.lt_of_lt_of_eq (A).lt ga167.symm))) (i := 1) rfl (by decide) (x := b1) rfl (pc' := 367) rfl ?_
      refine GoKit.castI G at_367 A172 (i := 1) rfl (by decide) (Nat.le_of_ble_eq_true rfl) (lat_nar (hlat b1 (by simp))) (List.Mem.head _) (pc' := 368) rfl (fun h176 W174 A175 => ?_)
      change IA Z h176 a167 .char [b0, b1, 0, 0, 0, 0] at A175
      refine GoKit.iload G at_368 rfl (pc' := 370) rfl ?_
      refine GoKit.iconst G (2 : Int32) at_370 rfl (pc' := 371) rfl ?_
      refine GoKit.icmp_le_f G at_371 (by decide) (pc' := 374) rfl ?_
      refine GoKit.aload G at_374 rfl rfl (pc' := 376) rfl ?_
      refine GoKit.iconst G (2 : Int32) at_376 rfl (pc' := 377) rfl ?_
      refine GoKit.aload G at_377 rfl rfl (pc' := 379) rfl ?_
      refine GoKit.iconst G (2 : Int32) at_379 rfl (pc' := 380) rfl ?_
      refine GoKit.caloadI G at_380 (((A.ext E168).other W171 (Nat.ne_of_lt (Nat.lt_of_lt_of_eq (A).lt ga167.symm))).other W174 (Nat.ne_of_lt (Nat.lt_of_lt_of_eq (A).lt ga167.symm))) (i := 2) rfl (by decide) (x := b2) rfl (pc' := 381) rfl ?_
      refine GoKit.castI G at_381 A175 (i := 2) rfl (by decide) (Nat.le_of_ble_eq_true rfl) (lat_nar (hlat b2 (by simp))) (List.Mem.head _) (pc' := 382) rfl (fun h179 W177 A178 => ?_)
      change IA Z h179 a167 .char [b0, b1, b2, 0, 0, 0] at A178
      refine GoKit.iload G at_382 rfl (pc' := 384) rfl ?_
      refine GoKit.iconst G (3 : Int32) at_384 rfl (pc' := 385) rfl ?_
      refine GoKit.icmp_le_f G at_385 (by decide) (pc' := 388) rfl ?_
      refine GoKit.aload G at_388 rfl rfl (pc' := 390) rfl ?_
      refine GoKit.iconst G (3 : Int32) at_390 rfl (pc' := 391) rfl ?_
      refine GoKit.aload G at_391 rfl rfl (pc' := 393) rfl ?_
      refine GoKit.iconst G (3 : Int32) at_393 rfl (pc' := 394) rfl ?_
      refine GoKit.caloadI G at_394 ((((A.ext E168).other W171 (Nat.ne_of_lt (Nat.lt_of_lt_of_eq (A).lt ga167.symm))).other W174 (Nat.ne_of_lt (Nat.lt_of_lt_of_eq (A).lt ga167.symm))).other W177 (Nat.ne_of_lt (Nat.lt_of_lt_of_eq (A).lt ga167.symm))) (i := 3) rfl (by decide) (x := b3) rfl (pc' := 395) rfl ?_
      refine GoKit.castI G at_395 A178 (i := 3) rfl (by decide) (Nat.le_of_ble_eq_true rfl) (lat_nar (hlat b3 (by simp))) (List.Mem.head _) (pc' := 396) rfl (fun h182 W180 A181 => ?_)
      change IA Z h182 a167 .char [b0, b1, b2, b3, 0, 0] at A181
      refine GoKit.iload G at_396 rfl (pc' := 398) rfl ?_
      refine GoKit.iconst G (4 : Int32) at_398 rfl (pc' := 399) rfl ?_
      refine GoKit.icmp_le_f G at_399 (by decide) (pc' := 402) rfl ?_
      refine GoKit.aload G at_402 rfl rfl (pc' := 404) rfl ?_
      refine GoKit.iconst G (4 : Int32) at_404 rfl (pc' := 405) rfl ?_
      refine GoKit.aload G at_405 rfl rfl (pc' := 407) rfl ?_
      refine GoKit.iconst G (4 : Int32) at_407 rfl (pc' := 408) rfl ?_
      refine GoKit.caloadI G at_408 (((((A.ext E168).other W171 (Nat.ne_of_lt (Nat.lt_of_lt_of_eq (A).lt ga167.symm))).other W174 (Nat.ne_of_lt (Nat.lt_of_lt_of_eq (A).lt ga167.symm))).other W177 (Nat.ne_of_lt (Nat.lt_of_lt_of_eq (A).lt ga167.symm))).other W180 (Nat.ne_of_lt (Nat.lt_of_lt_of_eq (A).lt ga167.symm))) (i := 4) rfl (by decide) (x := b4) rfl (pc' := 409) rfl ?_
      refine GoKit.castI G at_409 A181 (i := 4) rfl (by decide) (Nat.le_of_ble_eq_true rfl) (lat_nar (hlat b4 (by simp))) (List.Mem.head _) (pc' := 410) rfl (fun h185 W183 A184 => ?_)
      change IA Z h185 a167 .char [b0, b1, b2, b3, b4, 0] at A184
      refine GoKit.iload G at_410 rfl (pc' := 412) rfl ?_
      refine GoKit.iconst G (5 : Int32) at_412 rfl (pc' := 413) rfl ?_
      refine GoKit.icmp_le_f G at_413 (by decide) (pc' := 416) rfl ?_
      refine GoKit.aload G at_416 rfl rfl (pc' := 418) rfl ?_
      refine GoKit.iconst G (5 : Int32) at_418 rfl (pc' := 419) rfl ?_
      refine GoKit.aload G at_419 rfl rfl (pc' := 421) rfl ?_
      refine GoKit.iconst G (5 : Int32) at_421 rfl (pc' := 422) rfl ?_
      refine GoKit.caloadI G at_422 ((((((A.ext E168).other W171 (Nat.ne_of_lt (Nat.lt_of_lt_of_eq (A).lt ga167.symm))).other W174 (Nat.ne_of_lt (Nat.lt_of_lt_of_eq (A).lt ga167.symm))).other W177 (Nat.ne_of_lt (Nat.lt_of_lt_of_eq (A).lt ga167.symm))).other W180 (Nat.ne_of_lt (Nat.lt_of_lt_of_eq (A).lt ga167.symm))).other W183 (Nat.ne_of_lt (Nat.lt_of_lt_of_eq (A).lt ga167.symm))) (i := 5) rfl (by decide) (x := b5) rfl (pc' := 423) rfl ?_
      refine GoKit.castI G at_423 A184 (i := 5) rfl (by decide) (Nat.le_of_ble_eq_true rfl) (lat_nar (hlat b5 (by simp))) (List.Mem.head _) (pc' := 424) rfl (fun h188 W186 A187 => ?_)
      change IA Z h188 a167 .char [b0, b1, b2, b3, b4, b5] at A187
      refine GoKit.iload G at_424 rfl (pc' := 426) rfl ?_
      refine GoKit.bipush G (6 : Int32) at_426 rfl (pc' := 428) rfl ?_
      refine GoKit.icmp_le_t G at_428 (by decide) (by decide) (pc' := 441) rfl ?_
      refine GoKit.iload G at_441 rfl (pc' := 443) rfl ?_
      refine GoKit.bipush G (7 : Int32) at_443 rfl (pc' := 445) rfl ?_
      refine GoKit.icmp_le_t G at_445 (by decide) (by decide) (pc' := 458) rfl ?_
      refine GoKit.newobj G at_458 (wi hw 48 rfl) (wi hw 7 rfl) (wi hw 6 rfl) (by decide) (by decide) (cells' := 5) (slots' := 54) rfl rfl (pc' := 461) rfl (fun h193 a189 ga189 E190 X191 D192 => ?_)
      have F194 : Fld Z h193 a189 "java/lang/String" "value" "[B" .null := D192 (Or.inr (wi hw 9 rfl)) (ty := (.array .byte)) (by decide)
      have F195 : Fld Z h193 a189 "java/lang/String" "coder" "B" (.int 0) := D192 (Or.inr (wi hw 10 rfl)) (ty := .byte) (by decide)
      refine GoKit.dup G at_461 rfl (pc' := 462) rfl ?_
      refine GoKit.aload G at_462 rfl rfl (pc' := 464) rfl ?_
      have hl196 : ∀ c ∈ ([b0, b1, b2, b3, b4, b5] : List Int32), 0 ≤ c.toInt ∧ c.toInt < 256 := by
        intro c hc
        simp only [List.mem_cons, List.not_mem_nil, or_false] at hc
        rcases hc with hc | hc | hc | hc | hc | hc
        · rw [hc]; exact (hlat b0 (by simp))
        · rw [hc]; exact (hlat b1 (by simp))
        · rw [hc]; exact (hlat b2 (by simp))
        · rw [hc]; exact (hlat b3 (by simp))
        · rw [hc]; exact (hlat b4 (by simp))
        · rw [hc]; exact (hlat b5 (by simp))
      refine GoKit.callSpecial G at_464 rfl (wi hw 49 rfl) (wi hw 50 rfl) (wi hw 6 rfl) (wi hw 51 rfl) (by decide) (owc := [a189]) (W := 1) (argsL := [(.ref a167)]) (rest := [(.ref a189)]) (con_strInit l hw X191 F194 F195 (A187.ext E190) (Nat.le_of_ble_eq_true rfl) hl196 (by simp) HC) rfl (lenOf pd_13 rfl) rfl (by decide) (Nat.le_of_eq rfl) (by decide) (by decide) (by decide) (by intro x hx; simp only [List.mem_cons, List.not_mem_nil, or_false] at hx ⊢; simp [hx]) (cells' := 6) (slots' := 62) rfl rfl (pc' := 467) rfl (fun r197 h200 q198 K199 => ?_)
      obtain ⟨rfl, S201⟩ := q198
      show Run _ _ _ _ _ _ _ _ _ _ _ _ _ _ _ _ _ _ _ _ (mkF m 467 #[.val (.int p0), .val (.int p1), .val (.int p2), .val (.int p3), .val (.ref b), .val (.int (6 : Int32)), .val (.int v6), .val (.ref a167), .unset] [(.ref a189)])
      refine GoKit.astore G at_467 rfl (Ls' := #[.val (.int p0), .val (.int p1), .val (.int p2), .val (.int p3), .val (.ref b), .val (.int (6 : Int32)), .val (.int v6), .val (.ref a167), .val (.ref a189)]) rfl (pc' := 469) rfl ?_
      refine Run.mono (cells' := 12) (slots' := 80) (by decide) (by decide) ?_
      refine Run.owless (ow' := []) (fun _ q => nomatch q) ?_
      exact J4 _ _ _ _ _ _ _ S201
    · refine GoKit.iload G at_335 rfl (pc' := 337) rfl ?_
      refine GoKit.newcI G at_337 (wi hw 0 rfl) (by decide) (k := 7) (cap := 7) rfl (Nat.le_refl _) (by decide) (by decide) (by decide) (cells' := 4) (slots' := 51) rfl rfl (pc' := 339) rfl (fun h205 a202 ga202 E203 A204 => ?_)
      refine GoKit.astore G at_339 rfl (Ls' := #[.val (.int p0), .val (.int p1), .val (.int p2), .val (.int p3), .val (.ref b), .val (.int (7 : Int32)), .val (.int v6), .val (.ref a202), .unset]) (XS.store1 rfl h7 rfl) (pc' := 341) rfl ?_
      refine GoKit.iload G at_341 rfl (pc' := 343) rfl ?_
      refine GoKit.if_le_f G at_343 (by decide) (pc' := 346) rfl ?_
      refine GoKit.aload G at_346 rfl rfl (pc' := 348) rfl ?_
      refine GoKit.iconst G (0 : Int32) at_348 rfl (pc' := 349) rfl ?_
      refine GoKit.aload G at_349 rfl rfl (pc' := 351) rfl ?_
      refine GoKit.iconst G (0 : Int32) at_351 rfl (pc' := 352) rfl ?_
      refine GoKit.caloadI G at_352 (A.ext E203) (i := 0) rfl (by decide) (x := b0) rfl (pc' := 353) rfl ?_
      refine GoKit.castI G at_353 A204 (i := 0) rfl (by decide) (Nat.le_of_ble_eq_true rfl) (lat_nar (hlat b0 (by simp))) (List.Mem.head _) (pc' := 354) rfl (fun h208 W206 A207 => ?_)
      change IA Z h208 a202 .char [b0, 0, 0, 0, 0, 0, 0] at A207
      refine GoKit.iload G at_354 rfl (pc' := 356) rfl ?_
      refine GoKit.iconst G (1 : Int32) at_356 rfl (pc' := 357) rfl ?_
      refine GoKit.icmp_le_f G at_357 (by decide) (pc' := 360) rfl ?_
      refine GoKit.aload G at_360 rfl rfl (pc' := 362) rfl ?_
      refine GoKit.iconst G (1 : Int32) at_362 rfl (pc' := 363) rfl ?_
      refine GoKit.aload G at_363 rfl rfl (pc' := 365) rfl ?_
      refine GoKit.iconst G (1 : Int32) at_365 rfl (pc' := 366) rfl ?_
      refine GoKit.caloadI G at_366 ((A.ext E203).other W206 (Nat.ne_of_lt (Nat.lt_of_lt_of_eq (A).lt ga202.symm))) (i := 1) rfl (by decide) (x := b1) rfl (pc' := 367) rfl ?_
      refine GoKit.castI G at_367 A207 (i := 1) rfl (by decide) (Nat.le_of_ble_eq_true rfl) (lat_nar (hlat b1 (by simp))) (List.Mem.head _) (pc' := 368) rfl (fun h211 W209 A210 => ?_)
      change IA Z h211 a202 .char [b0, b1, 0, 0, 0, 0, 0] at A210
      refine GoKit.iload G at_368 rfl (pc' := 370) rfl ?_
      refine GoKit.iconst G (2 : Int32) at_370 rfl (pc' := 371) rfl ?_
      refine GoKit.icmp_le_f G at_371 (by decide) (pc' := 374) rfl ?_
      refine GoKit.aload G at_374 rfl rfl (pc' := 376) rfl ?_
      refine GoKit.iconst G (2 : Int32) at_376 rfl (pc' := 377) rfl ?_
      refine GoKit.aload G at_377 rfl rfl (pc' := 379) rfl ?_
      refine GoKit.iconst G (2 : Int32) at_379 rfl (pc' := 380) rfl ?_
      refine GoKit.caloadI G at_380 (((A.ext E203).other W206 (Nat.ne_of_lt (Nat.lt_of_lt_of_eq (A).lt ga202.symm))).other W209 (Nat.ne_of_lt (Nat.lt_of_lt_of_eq (A).lt ga202.symm))) (i := 2) rfl (by decide) (x := b2) rfl (pc' := 381) rfl ?_
      refine GoKit.castI G at_381 A210 (i := 2) rfl (by decide) (Nat.le_of_ble_eq_true rfl) (lat_nar (hlat b2 (by simp))) (List.Mem.head _) (pc' := 382) rfl (fun h214 W212 A213 => ?_)
      change IA Z h214 a202 .char [b0, b1, b2, 0, 0, 0, 0] at A213
      refine GoKit.iload G at_382 rfl (pc' := 384) rfl ?_
      refine GoKit.iconst G (3 : Int32) at_384 rfl (pc' := 385) rfl ?_
      refine GoKit.icmp_le_f G at_385 (by decide) (pc' := 388) rfl ?_
      refine GoKit.aload G at_388 rfl rfl (pc' := 390) rfl ?_
      refine GoKit.iconst G (3 : Int32) at_390 rfl (pc' := 391) rfl ?_
      refine GoKit.aload G at_391 rfl rfl (pc' := 393) rfl ?_
      refine GoKit.iconst G (3 : Int32) at_393 rfl (pc' := 394) rfl ?_
      refine GoKit.caloadI G at_394 ((((A.ext E203).other W206 (Nat.ne_of_lt (Nat.lt_of_lt_of_eq (A).lt ga202.symm))).other W209 (Nat.ne_of_lt (Nat.lt_of_lt_of_eq (A).lt ga202.symm))).other W212 (Nat.ne_of_lt (Nat.lt_of_lt_of_eq (A).lt ga202.symm))) (i := 3) rfl (by decide) (x := b3) rfl (pc' := 395) rfl ?_
      refine GoKit.castI G at_395 A213 (i := 3) rfl (by decide) (Nat.le_of_ble_eq_true rfl) (lat_nar (hlat b3 (by simp))) (List.Mem.head _) (pc' := 396) rfl (fun h217 W215 A216 => ?_)
      change IA Z h217 a202 .char [b0, b1, b2, b3, 0, 0, 0] at A216
      refine GoKit.iload G at_396 rfl (pc' := 398) rfl ?_
      refine GoKit.iconst G (4 : Int32) at_398 rfl (pc' := 399) rfl ?_
      refine GoKit.icmp_le_f G at_399 (by decide) (pc' := 402) rfl ?_
      refine GoKit.aload G at_402 rfl rfl (pc' := 404) rfl ?_
      refine GoKit.iconst G (4 : Int32) at_404 rfl (pc' := 405) rfl ?_
      refine GoKit.aload G at_405 rfl rfl (pc' := 407) rfl ?_
      refine GoKit.iconst G (4 : Int32) at_407 rfl (pc' := 408) rfl ?_
      refine GoKit.caloadI G at_408 (((((A.ext E203).other W206 (Nat.ne_of_lt (Nat.lt_of_lt_of_eq (A).lt ga202.symm))).other W209 (Nat.ne_of_lt (Nat.lt_of_lt_of_eq (A).lt ga202.symm))).other W212 (Nat.ne_of_lt (Nat.lt_of_lt_of_eq (A).lt ga202.symm))).other W215 (Nat.ne_of_lt (Nat.lt_of_lt_of_eq (A).lt ga202.symm))) (i := 4) rfl (by decide) (x := b4) rfl (pc' := 409) rfl ?_
      refine GoKit.castI G at_409 A216 (i := 4) rfl (by decide) (Nat.le_of_ble_eq_true rfl) (lat_nar (hlat b4 (by simp))) (List.Mem.head _) (pc' := 410) rfl (fun h220 W218 A219 => ?_)
      change IA Z h220 a202 .char [b0, b1, b2, b3, b4, 0, 0] at A219
      refine GoKit.iload G at_410 rfl (pc' := 412) rfl ?_
      refine GoKit.iconst G (5 : Int32) at_412 rfl (pc' := 413) rfl ?_
      refine GoKit.icmp_le_f G at_413 (by decide) (pc' := 416) rfl ?_
      refine GoKit.aload G at_416 rfl rfl (pc' := 418) rfl ?_
      refine GoKit.iconst G (5 : Int32) at_418 rfl (pc' := 419) rfl ?_
      refine GoKit.aload G at_419 rfl rfl (pc' := 421) rfl ?_
      refine GoKit.iconst G (5 : Int32) at_421 rfl (pc' := 422) rfl ?_
      refine GoKit.caloadI G at_422 ((((((A.ext E203).other W206 (Nat.ne_of_lt (Nat.lt_of_lt_of_eq (A).lt ga202.symm))).other W209 (Nat.ne_of_lt (Nat.lt_of_lt_of_eq (A).lt ga202.symm))).other W212 (Nat.ne_of_lt (Nat.lt_of_lt_of_eq (A).lt ga202.symm))).other W215 (Nat.ne_of_lt (Nat.lt_of_lt_of_eq (A).lt ga202.symm))).other W218 (Nat.ne_of_lt (Nat.lt_of_lt_of_eq (A).lt ga202.symm))) (i := 5) rfl (by decide) (x := b5) rfl (pc' := 423) rfl ?_
      refine GoKit.castI G at_423 A219 (i := 5) rfl (by decide) (Nat.le_of_ble_eq_true rfl) (lat_nar (hlat b5 (by simp))) (List.Mem.head _) (pc' := 424) rfl (fun h223 W221 A222 => ?_)
      change IA Z h223 a202 .char [b0, b1, b2, b3, b4, b5, 0] at A222
      refine GoKit.iload G at_424 rfl (pc' := 426) rfl ?_
      refine GoKit.bipush G (6 : Int32) at_426 rfl (pc' := 428) rfl ?_
      refine GoKit.icmp_le_f G at_428 (by decide) (pc' := 431) rfl ?_
      refine GoKit.aload G at_431 rfl rfl (pc' := 433) rfl ?_
      refine GoKit.bipush G (6 : Int32) at_433 rfl (pc' := 435) rfl ?_
      refine GoKit.aload G at_435 rfl rfl (pc' := 437) rfl ?_
      refine GoKit.bipush G (6 : Int32) at_437 rfl (pc' := 439) rfl ?_
      refine GoKit.caloadI G at_439 (((((((A.ext E203).other W206 (Nat.ne_of_lt (Nat.lt_of_lt_of_eq (A).lt ga202.symm))).other W209 (Nat.ne_of_lt (Nat.lt_of_lt_of_eq (A).lt ga202.symm))).other W212 (Nat.ne_of_lt (Nat.lt_of_lt_of_eq (A).lt ga202.symm))).other W215 (Nat.ne_of_lt (Nat.lt_of_lt_of_eq (A).lt ga202.symm))).other W218 (Nat.ne_of_lt (Nat.lt_of_lt_of_eq (A).lt ga202.symm))).other W221 (Nat.ne_of_lt (Nat.lt_of_lt_of_eq (A).lt ga202.symm))) (i := 6) rfl (by decide) (x := b6) rfl (pc' := 440) rfl ?_
      refine GoKit.castI G at_440 A222 (i := 6) rfl (by decide) (Nat.le_of_ble_eq_true rfl) (lat_nar (hlat b6 (by simp))) (List.Mem.head _) (pc' := 441) rfl (fun h226 W224 A225 => ?_)
      change IA Z h226 a202 .char [b0, b1, b2, b3, b4, b5, b6] at A225
      refine GoKit.iload G at_441 rfl (pc' := 443) rfl ?_
      refine GoKit.bipush G (7 : Int32) at_443 rfl (pc' := 445) rfl ?_
      refine GoKit.icmp_le_t G at_445 (by decide) (by decide) (pc' := 458) rfl ?_
      refine GoKit.newobj G at_458 (wi hw 48 rfl) (wi hw 7 rfl) (wi hw 6 rfl) (by decide) (by decide) (cells' := 5) (slots' := 55) rfl rfl (pc' := 461) rfl (fun h231 a227 ga227 E228 X229 D230 => ?_)
      have F232 : Fld Z h231 a227 "java/lang/String" "value" "[B" .null := D230 (Or.inr (wi hw 9 rfl)) (ty := (.array .byte)) (by decide)
      have F233 : Fld Z h231 a227 "java/lang/String" "coder" "B" (.int 0) := D230 (Or.inr (wi hw 10 rfl)) (ty := .byte) (by decide)
      refine GoKit.dup G at_461 rfl (pc' := 462) rfl ?_
      refine GoKit.aload G at_462 rfl rfl (pc' := 464) rfl ?_
      have hl234 : ∀ c ∈ ([b0, b1, b2, b3, b4, b5, b6] : List Int32), 0 ≤ c.toInt ∧ c.toInt < 256 := by
        intro c hc
        simp only [List.mem_cons, List.not_mem_nil, or_false] at hc
        rcases hc with hc | hc | hc | hc | hc | hc | hc
        · rw [hc]; exact (hlat b0 (by simp))
        · rw [hc]; exact (hlat b1 (by simp))
        · rw [hc]; exact (hlat b2 (by simp))
        · rw [hc]; exact (hlat b3 (by simp))
        · rw [hc]; exact (hlat b4 (by simp))
        · rw [hc]; exact (hlat b5 (by simp))
        · rw [hc]; exact (hlat b6 (by simp))
      refine GoKit.callSpecial G at_464 rfl (wi hw 49 rfl) (wi hw 50 rfl) (wi hw 6 rfl) (wi hw 51 rfl) (by decide) (owc := [a227]) (W := 1) (argsL := [(.ref a202)]) (rest := [(.ref a227)]) (con_strInit l hw X229 F232 F233 (A225.ext E228) (Nat.le_of_ble_eq_true rfl) hl234 (by simp) HC) rfl (lenOf pd_13 rfl) rfl (by decide) (Nat.le_of_eq rfl) (by decide) (by decide) (by decide) (by intro x hx; simp only [List.mem_cons, List.not_mem_nil, or_false] at hx ⊢; simp [hx]) (cells' := 6) (slots' := 63) rfl rfl (pc' := 467) rfl (fun r235 h238 q236 K237 => ?_)
      obtain ⟨rfl, S239⟩ := q236
      show Run _ _ _ _ _ _ _ _ _ _ _ _ _ _ _ _ _ _ _ _ (mkF m 467 #[.val (.int p0), .val (.int p1), .val (.int p2), .val (.int p3), .val (.ref b), .val (.int (7 : Int32)), .val (.int v6), .val (.ref a202), .unset] [(.ref a227)])
      refine GoKit.astore G at_467 rfl (Ls' := #[.val (.int p0), .val (.int p1), .val (.int p2), .val (.int p3), .val (.ref b), .val (.int (7 : Int32)), .val (.int v6), .val (.ref a202), .val (.ref a227)]) rfl (pc' := 469) rfl ?_
      refine Run.mono (cells' := 12) (slots' := 80) (by decide) (by decide) ?_
      refine Run.owless (ow' := []) (fun _ q => nomatch q) ?_
      exact J4 _ _ _ _ _ _ _ S239
    · refine GoKit.iload G at_335 rfl (pc' := 337) rfl ?_
      refine GoKit.newcI G at_337 (wi hw 0 rfl) (by decide) (k := 8) (cap := 8) rfl (Nat.le_refl _) (by decide) (by decide) (by decide) (cells' := 4) (slots' := 52) rfl rfl (pc' := 339) rfl (fun h243 a240 ga240 E241 A242 => ?_)
      refine GoKit.astore G at_339 rfl (Ls' := #[.val (.int p0), .val (.int p1), .val (.int p2), .val (.int p3), .val (.ref b), .val (.int (8 : Int32)), .val (.int v6), .val (.ref a240), .unset]) (XS.store1 rfl h7 rfl) (pc' := 341) rfl ?_
      refine GoKit.iload G at_341 rfl (pc' := 343) rfl ?_
      refine GoKit.if_le_f G at_343 (by decide) (pc' := 346) rfl ?_
      refine GoKit.aload G at_346 rfl rfl (pc' := 348) rfl ?_
      refine GoKit.iconst G (0 : Int32) at_348 rfl (pc' := 349) rfl ?_
      refine GoKit.aload G at_349 rfl rfl (pc' := 351) rfl ?_
      refine GoKit.iconst G (0 : Int32) at_351 rfl (pc' := 352) rfl ?_
      refine GoKit.caloadI G at_352 (A.ext E241) (i := 0) rfl (by decide) (x := b0) rfl (pc' := 353) rfl ?_
      refine GoKit.castI G at_353 A242 (i := 0) rfl (by decide) (Nat.le_of_ble_eq_true rfl) (lat_nar (hlat b0 (by simp))) (List.Mem.head _) (pc' := 354) rfl (fun h246 W244 A245 => ?_)
      change IA Z h246 a240 .char [b0, 0, 0, 0, 0, 0, 0, 0] at A245
      refine GoKit.iload G at_354 rfl (pc' := 356) rfl ?_
      refine GoKit.iconst G (1 : Int32) at_356 rfl (pc' := 357) rfl ?_
      refine GoKit.icmp_le_f G at_357 (by decide) (pc' := 360) rfl ?_
      refine GoKit.aload G at_360 rfl rfl (pc' := 362) rfl ?_
      refine GoKit.iconst G (1 : Int32) at_362 rfl (pc' := 363) rfl ?_
      refine GoKit.aload G at_363 rfl rfl (pc' := 365) rfl ?_
      refine GoKit.iconst G (1 : Int32) at_365 rfl (pc' := 366) rfl ?_
      refine GoKit.caloadI G at_366 ((A.ext E241).other W244 (Nat.ne_of_lt (Nat.lt_of_lt_of_eq (A).lt ga240.symm))) (i := 1) rfl (by decide) (x := b1) rfl (pc' := 367) rfl ?_
      refine GoKit.castI G at_367 A245 (i := 1) rfl (by decide) (Nat.le_of_ble_eq_true rfl) (lat_nar (hlat b1 (by simp))) (List.Mem.head _) (pc' := 368) rfl (fun h249 W247 A248 => ?_)
      change IA Z h249 a240 .char [b0, b1, 0, 0, 0, 0, 0, 0] at A248
      refine GoKit.iload G at_368 rfl (pc' := 370) rfl ?_
      refine GoKit.iconst G (2 : Int32) at_370 rfl (pc' := 371) rfl ?_
      refine GoKit.icmp_le_f G at_371 (by decide) (pc' := 374) rfl ?_
      refine GoKit.aload G at_374 rfl rfl (pc' := 376) rfl ?_
      refine GoKit.iconst G (2 : Int32) at_376 rfl (pc' := 377) rfl ?_
      refine GoKit.aload G at_377 rfl rfl (pc' := 379) rfl ?_
      refine GoKit.iconst G (2 : Int32) at_379 rfl (pc' := 380) rfl ?_
      refine GoKit.caloadI G at_380 (((A.ext E241).other W244 (Nat.ne_of_lt (Nat.lt_of_lt_of_eq (A).lt ga240.symm))).other W247 (Nat.ne_of_lt (Nat.lt_of_lt_of_eq (A).lt ga240.symm))) (i := 2) rfl (by decide) (x := b2) rfl (pc' := 381) rfl ?_
      refine GoKit.castI G at_381 A248 (i := 2) rfl (by decide) (Nat.le_of_ble_eq_true rfl) (lat_nar (hlat b2 (by simp))) (List.Mem.head _) (pc' := 382) rfl (fun h252 W250 A251 => ?_)
      change IA Z h252 a240 .char [b0, b1, b2, 0, 0, 0, 0, 0] at A251
      refine GoKit.iload G at_382 rfl (pc' := 384) rfl ?_
      refine GoKit.iconst G (3 : Int32) at_384 rfl (pc' := 385) rfl ?_
      refine GoKit.icmp_le_f G at_385 (by decide) (pc' := 388) rfl ?_
      refine GoKit.aload G at_388 rfl rfl (pc' := 390) rfl ?_
      refine GoKit.iconst G (3 : Int32) at_390 rfl (pc' := 391) rfl ?_
      refine GoKit.aload G at_391 rfl rfl (pc' := 393) rfl ?_
      refine GoKit.iconst G (3 : Int32) at_393 rfl (pc' := 394) rfl ?_
      refine GoKit.caloadI G at_394 ((((A.ext E241).other W244 (Nat.ne_of_lt (Nat.lt_of_lt_of_eq (A).lt ga240.symm))).other W247 (Nat.ne_of_lt (Nat.lt_of_lt_of_eq (A).lt ga240.symm))).other W250 (Nat.ne_of_lt (Nat.lt_of_lt_of_eq (A).lt ga240.symm))) (i := 3) rfl (by decide) (x := b3) rfl (pc' := 395) rfl ?_
      refine GoKit.castI G at_395 A251 (i := 3) rfl (by decide) (Nat.le_of_ble_eq_true rfl) (lat_nar (hlat b3 (by simp))) (List.Mem.head _) (pc' := 396) rfl (fun h255 W253 A254 => ?_)
      change IA Z h255 a240 .char [b0, b1, b2, b3, 0, 0, 0, 0] at A254
      refine GoKit.iload G at_396 rfl (pc' := 398) rfl ?_
      refine GoKit.iconst G (4 : Int32) at_398 rfl (pc' := 399) rfl ?_
      refine GoKit.icmp_le_f G at_399 (by decide) (pc' := 402) rfl ?_
      refine GoKit.aload G at_402 rfl rfl (pc' := 404) rfl ?_
      refine GoKit.iconst G (4 : Int32) at_404 rfl (pc' := 405) rfl ?_
      refine GoKit.aload G at_405 rfl rfl (pc' := 407) rfl ?_
      refine GoKit.iconst G (4 : Int32) at_407 rfl (pc' := 408) rfl ?_
      refine GoKit.caloadI G at_408 (((((A.ext E241).other W244 (Nat.ne_of_lt (Nat.lt_of_lt_of_eq (A).lt ga240.symm))).other W247 (Nat.ne_of_lt (Nat.lt_of_lt_of_eq (A).lt ga240.symm))).other W250 (Nat.ne_of_lt (Nat.lt_of_lt_of_eq (A).lt ga240.symm))).other W253 (Nat.ne_of_lt (Nat.lt_of_lt_of_eq (A).lt ga240.symm))) (i := 4) rfl (by decide) (x := b4) rfl (pc' := 409) rfl ?_
      refine GoKit.castI G at_409 A254 (i := 4) rfl (by decide) (Nat.le_of_ble_eq_true rfl) (lat_nar (hlat b4 (by simp))) (List.Mem.head _) (pc' := 410) rfl (fun h258 W256 A257 => ?_)
      change IA Z h258 a240 .char [b0, b1, b2, b3, b4, 0, 0, 0] at A257
      refine GoKit.iload G at_410 rfl (pc' := 412) rfl ?_
      refine GoKit.iconst G (5 : Int32) at_412 rfl (pc' := 413) rfl ?_
      refine GoKit.icmp_le_f G at_413 (by decide) (pc' := 416) rfl ?_
      refine GoKit.aload G at_416 rfl rfl (pc' := 418) rfl ?_
      refine GoKit.iconst G (5 : Int32) at_418 rfl (pc' := 419) rfl ?_
      refine GoKit.aload G at_419 rfl rfl (pc' := 421) rfl ?_
      refine GoKit.iconst G (5 : Int32) at_421 rfl (pc' := 422) rfl ?_
      refine GoKit.caloadI G at_422 ((((((A.ext E241).other W244 (Nat.ne_of_lt (Nat.lt_of_lt_of_eq (A).lt ga240.symm))).other W247 (Nat.ne_of_lt (Nat.lt_of_lt_of_eq (A).lt ga240.symm))).other W250 (Nat.ne_of_lt (Nat.lt_of_lt_of_eq (A).lt ga240.symm))).other W253 (Nat.ne_of_lt (Nat.lt_of_lt_of_eq (A).lt ga240.symm))).other W256 (Nat.ne_of_lt (Nat.lt_of_lt_of_eq (A).lt ga240.symm))) (i := 5) rfl (by decide) (x := b5) rfl (pc' := 423) rfl ?_
      refine GoKit.castI G at_423 A257 (i := 5) rfl (by decide) (Nat.le_of_ble_eq_true rfl) (lat_nar (hlat b5 (by simp))) (List.Mem.head _) (pc' := 424) rfl (fun h261 W259 A260 => ?_)
      change IA Z h261 a240 .char [b0, b1, b2, b3, b4, b5, 0, 0] at A260
      refine GoKit.iload G at_424 rfl (pc' := 426) rfl ?_
      refine GoKit.bipush G (6 : Int32) at_426 rfl (pc' := 428) rfl ?_
      refine GoKit.icmp_le_f G at_428 (by decide) (pc' := 431) rfl ?_
      refine GoKit.aload G at_431 rfl rfl (pc' := 433) rfl ?_
      refine GoKit.bipush G (6 : Int32) at_433 rfl (pc' := 435) rfl ?_
      refine GoKit.aload G at_435 rfl rfl (pc' := 437) rfl ?_
      refine GoKit.bipush G (6 : Int32) at_437 rfl (pc' := 439) rfl ?_
      refine GoKit.caloadI G at_439 (((((((A.ext E241).other W244 (Nat.ne_of_lt (Nat.lt_of_lt_of_eq (A).lt ga240.symm))).other W247 (Nat.ne_of_lt (Nat.lt_of_lt_of_eq (A).lt ga240.symm))).other W250 (Nat.ne_of_lt (Nat.lt_of_lt_of_eq (A).lt ga240.symm))).other W253 (Nat.ne_of_lt (Nat.lt_of_lt_of_eq (A).lt ga240.symm))).other W256 (Nat.ne_of_lt (Nat.lt_of_lt_of_eq (A).lt ga240.symm))).other W259 (Nat.ne_of_lt (Nat.lt_of_lt_of_eq (A).lt ga240.symm))) (i := 6) rfl (by decide) (x := b6) rfl (pc' := 440) rfl ?_
      refine GoKit.castI G at_440 A260 (i := 6) rfl (by decide) (Nat.le_of_ble_eq_true rfl) (lat_nar (hlat b6 (by simp))) (List.Mem.head _) (pc' := 441) rfl (fun h264 W262 A263 => ?_)
      change IA Z h264 a240 .char [b0, b1, b2, b3, b4, b5, b6, 0] at A263
      refine GoKit.iload G at_441 rfl (pc' := 443) rfl ?_
      refine GoKit.bipush G (7 : Int32) at_443 rfl (pc' := 445) rfl ?_
      refine GoKit.icmp_le_f G at_445 (by decide) (pc' := 448) rfl ?_
      refine GoKit.aload G at_448 rfl rfl (pc' := 450) rfl ?_
      refine GoKit.bipush G (7 : Int32) at_450 rfl (pc' := 452) rfl ?_
      refine GoKit.aload G at_452 rfl rfl (pc' := 454) rfl ?_
      refine GoKit.bipush G (7 : Int32) at_454 rfl (pc' := 456) rfl ?_
      refine GoKit.caloadI G at_456 ((((((((A.ext E241).other W244 (Nat.ne_of_lt (Nat.lt_of_lt_of_eq (A).lt ga240.symm))).other W247 (Nat.ne_of_lt (Nat.lt_of_lt_of_eq (A).lt ga240.symm))).other W250 (Nat.ne_of_lt (Nat.lt_of_lt_of_eq (A).lt ga240.symm))).other W253 (Nat.ne_of_lt (Nat.lt_of_lt_of_eq (A).lt ga240.symm))).other W256 (Nat.ne_of_lt (Nat.lt_of_lt_of_eq (A).lt ga240.symm))).other W259 (Nat.ne_of_lt (Nat.lt_of_lt_of_eq (A).lt ga240.symm))).other W262 (Nat.ne_of_lt (Nat.lt_of_lt_of_eq (A).lt ga240.symm))) (i := 7) rfl (by decide) (x := b7) rfl (pc' := 457) rfl ?_
      refine GoKit.castI G at_457 A263 (i := 7) rfl (by decide) (Nat.le_of_ble_eq_true rfl) (lat_nar (hlat b7 (by simp))) (List.Mem.head _) (pc' := 458) rfl (fun h267 W265 A266 => ?_)
      change IA Z h267 a240 .char [b0, b1, b2, b3, b4, b5, b6, b7] at A266
      refine GoKit.newobj G at_458 (wi hw 48 rfl) (wi hw 7 rfl) (wi hw 6 rfl) (by decide) (by decide) (cells' := 5) (slots' := 56) rfl rfl (pc' := 461) rfl (fun h272 a268 ga268 E269 X270 D271 => ?_)
      have F273 : Fld Z h272 a268 "java/lang/String" "value" "[B" .null := D271 (Or.inr (wi hw 9 rfl)) (ty := (.array .byte)) (by decide)
      have F274 : Fld Z h272 a268 "java/lang/String" "coder" "B" (.int 0) := D271 (Or.inr (wi hw 10 rfl)) (ty := .byte) (by decide)
      refine GoKit.dup G at_461 rfl (pc' := 462) rfl ?_
      refine GoKit.aload G at_462 rfl rfl (pc' := 464) rfl ?_
      have hl275 : ∀ c ∈ ([b0, b1, b2, b3, b4, b5, b6, b7] : List Int32), 0 ≤ c.toInt ∧ c.toInt < 256 := by
        intro c hc
        simp only [List.mem_cons, List.not_mem_nil, or_false] at hc
        rcases hc with hc | hc | hc | hc | hc | hc | hc | hc
        · rw [hc]; exact (hlat b0 (by simp))
        · rw [hc]; exact (hlat b1 (by simp))
        · rw [hc]; exact (hlat b2 (by simp))
        · rw [hc]; exact (hlat b3 (by simp))
        · rw [hc]; exact (hlat b4 (by simp))
        · rw [hc]; exact (hlat b5 (by simp))
        · rw [hc]; exact (hlat b6 (by simp))
        · rw [hc]; exact (hlat b7 (by simp))
      refine GoKit.callSpecial G at_464 rfl (wi hw 49 rfl) (wi hw 50 rfl) (wi hw 6 rfl) (wi hw 51 rfl) (by decide) (owc := [a268]) (W := 1) (argsL := [(.ref a240)]) (rest := [(.ref a268)]) (con_strInit l hw X270 F273 F274 (A266.ext E269) (Nat.le_of_ble_eq_true rfl) hl275 (by simp) HC) rfl (lenOf pd_13 rfl) rfl (by decide) (Nat.le_of_eq rfl) (by decide) (by decide) (by decide) (by intro x hx; simp only [List.mem_cons, List.not_mem_nil, or_false] at hx ⊢; simp [hx]) (cells' := 6) (slots' := 64) rfl rfl (pc' := 467) rfl (fun r276 h279 q277 K278 => ?_)
      obtain ⟨rfl, S280⟩ := q277
      show Run _ _ _ _ _ _ _ _ _ _ _ _ _ _ _ _ _ _ _ _ (mkF m 467 #[.val (.int p0), .val (.int p1), .val (.int p2), .val (.int p3), .val (.ref b), .val (.int (8 : Int32)), .val (.int v6), .val (.ref a240), .unset] [(.ref a268)])
      refine GoKit.astore G at_467 rfl (Ls' := #[.val (.int p0), .val (.int p1), .val (.int p2), .val (.int p3), .val (.ref b), .val (.int (8 : Int32)), .val (.int v6), .val (.ref a240), .val (.ref a268)]) rfl (pc' := 469) rfl ?_
      refine Run.mono (cells' := 12) (slots' := 80) (by decide) (by decide) ?_
      refine Run.owless (ow' := []) (fun _ q => nomatch q) ?_
      exact J4 _ _ _ _ _ _ _ S280
  have J2 : ∀ (b : Addr) (bs : List Int32) (len v6 : Int32) (s7 : Slot) (h : Heap), IA Z h b .char bs → bs.length = 8 → (∀ c ∈ bs, 0 ≤ c.toInt ∧ c.toInt < 256) → 0 ≤ len.toInt ∧ len.toInt ≤ 8 → (s7 = .unset ∨ ∃ w, s7 = .val w ∧ w.category = 1) → Run p l e room_1 s m #[.int p0, .int p1, .int p2, .int p3] below meth c Z true ELs n0 [] (fun v h => v = some (.int 1)) h [b] 3 44 (mkF m 315 #[.val (.int p0), .val (.int p1), .val (.int p2), .val (.int p3), .val (.ref b), .val (.int len), .val (.int v6), s7, .unset] []) := by
    intro b bs len v6 s7 h A hbs hlat hlen h7
    refine GoKit.iloadN G at_315 rfl (pc' := 316) rfl ?_
    refine GoKit.bipush G (7 : Int32) at_316 rfl (pc' := 318) rfl ?_
    refine GoKit.iushr G at_318 (pc' := 319) rfl (fun v281 hqv281 => ?_)
    refine GoKit.iconst G (1 : Int32) at_319 rfl (pc' := 320) rfl ?_
    refine GoKit.iand G at_320 (pc' := 321) rfl (fun v282 hqv282 => ?_)
    refine GoKit.if_eq G at_321 (by decide) (pt := 335) (pf := 324) rfl rfl (fun hb283 => ?_) (fun hb283 => ?_)
    · exact J3 _ _ _ _ _ _ A hbs hlat hlen h7
    · refine GoKit.iload G at_324 rfl (pc' := 326) rfl ?_
      refine GoKit.if_le G at_326 (by decide) (pt := 335) (pf := 329) rfl rfl (fun hb284 => ?_) (fun hb284 => ?_)
      · exact J3 _ _ _ _ _ _ A hbs hlat hlen h7
      · refine GoKit.iload G at_329 rfl (pc' := 331) rfl ?_
        refine GoKit.iconst G (1 : Int32) at_331 rfl (pc' := 332) rfl ?_
        refine GoKit.isub G at_332 (pc' := 333) rfl (fun v285 hqv285 => ?_)
        refine GoKit.istore G at_333 (Ls' := #[.val (.int p0), .val (.int p1), .val (.int p2), .val (.int p3), .val (.ref b), .val (.int v285), .val (.int v6), s7, .unset]) rfl (pc' := 335) rfl ?_
        exact J3 _ _ _ _ _ _ A hbs hlat (sub1_rng hlen hb284 hqv285) h7
  have J1 : ∀ (b : Addr) (bs : List Int32) (len v6 : Int32) (s7 : Slot) (h : Heap), IA Z h b .char bs → bs.length = 8 → (∀ c ∈ bs, 0 ≤ c.toInt ∧ c.toInt < 256) → 0 ≤ len.toInt ∧ len.toInt ≤ 8 → (s7 = .unset ∨ ∃ w, s7 = .val w ∧ w.category = 1) → Run p l e room_1 s m #[.int p0, .int p1, .int p2, .int p3] below meth c Z true ELs n0 [] (fun v h => v = some (.int 1)) h [b] 3 44 (mkF m 276 #[.val (.int p0), .val (.int p1), .val (.int p2), .val (.int p3), .val (.ref b), .val (.int len), .val (.int v6), s7, .unset] []) := by
    intro b bs len v6 s7 h A hbs hlat hlen h7
    refine GoKit.iloadN G at_276 rfl (pc' := 277) rfl ?_
    refine GoKit.bipush G (6 : Int32) at_277 rfl (pc' := 279) rfl ?_
    refine GoKit.iushr G at_279 (pc' := 280) rfl (fun v286 hqv286 => ?_)
    refine GoKit.iconst G (1 : Int32) at_280 rfl (pc' := 281) rfl ?_
    refine GoKit.iand G at_281 (pc' := 282) rfl (fun v287 hqv287 => ?_)
    refine GoKit.if_eq G at_282 (by decide) (pt := 315) (pf := 285) rfl rfl (fun hb288 => ?_) (fun hb288 => ?_)
    · exact J2 _ _ _ _ _ _ A hbs hlat hlen h7
    · refine GoKit.iloadN G at_285 rfl (pc' := 286) rfl ?_
      refine GoKit.bipush G (7 : Int32) at_286 rfl (pc' := 288) rfl ?_
      refine GoKit.iand G at_288 (pc' := 289) rfl (fun v289 hqv289 => ?_)
      have hp7 : 0 ≤ v289.toInt ∧ v289.toInt ≤ 7 := by rw [hqv289]; have := and_rng p1 7 7 rfl (by decide); omega
      refine GoKit.istore G at_289 (Ls' := #[.val (.int p0), .val (.int p1), .val (.int p2), .val (.int p3), .val (.ref b), .val (.int len), .val (.int v6), .val (.int v289), .unset]) (XS.store1 rfl h7 rfl) (pc' := 291) rfl ?_
      refine GoKit.aload G at_291 rfl rfl (pc' := 293) rfl ?_
      refine GoKit.iload G at_293 rfl (pc' := 295) rfl ?_
      refine GoKit.iloadN G at_295 rfl (pc' := 296) rfl ?_
      refine GoKit.iconst G (3 : Int32) at_296 rfl (pc' := 297) rfl ?_
      refine GoKit.iushr G at_297 (pc' := 298) rfl (fun v290 hqv290 => ?_)
      refine GoKit.sipush G (255 : Int32) at_298 rfl (pc' := 301) rfl ?_
      refine GoKit.iand G at_301 (pc' := 302) rfl (fun v291 hqv291 => ?_)
      refine GoKit.i2c G at_302 (pc' := 303) rfl (fun v292 hqv292 => ?_)
      have l293 := ch8 _ _ _ hqv291 hqv292
      have c294 : nar .char v292 = v292 := by rw [hqv292]; exact nar_i2c _
      refine GoKit.castI G at_303 A (i := v289.toNatClampNeg) rfl (clamp_rng hp7).1 (by rw [hbs]; exact (clamp_rng hp7).2) (x' := v292) c294 (List.Mem.head _) (pc' := 304) rfl (fun h' W' A' => ?_)
      refine GoKit.iload G at_304 rfl (pc' := 306) rfl ?_
      refine GoKit.iload G at_306 rfl (pc' := 308) rfl ?_
      refine GoKit.iconst G (1 : Int32) at_308 rfl (pc' := 309) rfl ?_
      refine GoKit.iadd G at_309 (pc' := 310) rfl (fun v295 hqv295 => ?_)
      refine GoKit.callStaticP G at_310 (wi hw 113 rfl) (wi hw 114 rfl) (wi hw 115 rfl) (wi hw 116 rfl) (by decide) (W := 0) (argsL := [(.int len), (.int v295)]) (rest := []) (con_max l hw len v295) rfl (lenOf pd_14 rfl) rfl (by decide) (Nat.le_of_eq rfl) (by decide) (by decide) (by decide) (cells' := 3) (slots' := 44) rfl rfl (pc' := 313) rfl ?_
      show Run _ _ _ _ _ _ _ _ _ _ _ _ _ _ _ _ _ _ _ _ (mkF m 313 #[.val (.int p0), .val (.int p1), .val (.int p2), .val (.int p3), .val (.ref b), .val (.int len), .val (.int v6), .val (.int v289), .unset] [(.int (max32 len v295))])
      refine GoKit.istore G at_313 (Ls' := #[.val (.int p0), .val (.int p1), .val (.int p2), .val (.int p3), .val (.ref b), .val (.int (max32 len v295)), .val (.int v6), .val (.int v289), .unset]) rfl (pc' := 315) rfl ?_
      exact J2 _ _ _ _ _ _ A' (by simpa using hbs) (set_lat hlat l293) (max_rng hlen (add1_rng hp7 hqv295)) (Or.inr ⟨_, rfl, rfl⟩)
  refine GoKit.bipush G (8 : Int32) at_0 rfl (pc' := 2) rfl ?_
  refine GoKit.newcI G at_2 (wi hw 0 rfl) (by decide) (k := 8) (cap := 8) rfl (Nat.le_refl _) (by decide) (by decide) (by decide) (cells' := 1) (slots' := 8) rfl rfl (pc' := 4) rfl (fun h299 a296 ga296 E297 A298 => ?_)
  refine GoKit.astore G at_4 rfl (Ls' := #[.val (.int p0), .val (.int p1), .val (.int p2), .val (.int p3), .val (.ref a296), .unset, .unset, .unset, .unset]) rfl (pc' := 6) rfl ?_
  refine GoKit.aload G at_6 rfl rfl (pc' := 8) rfl ?_
  refine GoKit.iconst G (0 : Int32) at_8 rfl (pc' := 9) rfl ?_
  refine GoKit.iloadN G at_9 rfl (pc' := 10) rfl ?_
  refine GoKit.sipush G (255 : Int32) at_10 rfl (pc' := 13) rfl ?_
  refine GoKit.iand G at_13 (pc' := 14) rfl (fun v300 hqv300 => ?_)
  refine GoKit.i2c G at_14 (pc' := 15) rfl (fun v301 hqv301 => ?_)
  have l302 := ch8 _ _ _ hqv300 hqv301
  have c303 : nar .char v301 = v301 := by rw [hqv301]; exact nar_i2c _
  refine GoKit.castI G at_15 A298 (i := 0) rfl (by decide) (Nat.le_of_ble_eq_true rfl) c303 (List.Mem.head _) (pc' := 16) rfl (fun h306 W304 A305 => ?_)
  change IA Z h306 a296 .char [v301, 0, 0, 0, 0, 0, 0, 0] at A305
  refine GoKit.aload G at_16 rfl rfl (pc' := 18) rfl ?_
  refine GoKit.iconst G (1 : Int32) at_18 rfl (pc' := 19) rfl ?_
  refine GoKit.iloadN G at_19 rfl (pc' := 20) rfl ?_
  refine GoKit.bipush G (8 : Int32) at_20 rfl (pc' := 22) rfl ?_
  refine GoKit.iushr G at_22 (pc' := 23) rfl (fun v307 hqv307 => ?_)
  refine GoKit.sipush G (255 : Int32) at_23 rfl (pc' := 26) rfl ?_
  refine GoKit.iand G at_26 (pc' := 27) rfl (fun v308 hqv308 => ?_)
  refine GoKit.i2c G at_27 (pc' := 28) rfl (fun v309 hqv309 => ?_)
  have l310 := ch8 _ _ _ hqv308 hqv309
  have c311 : nar .char v309 = v309 := by rw [hqv309]; exact nar_i2c _
  refine GoKit.castI G at_28 A305 (i := 1) rfl (by decide) (Nat.le_of_ble_eq_true rfl) c311 (List.Mem.head _) (pc' := 29) rfl (fun h314 W312 A313 => ?_)
  change IA Z h314 a296 .char [v301, v309, 0, 0, 0, 0, 0, 0] at A313
  refine GoKit.aload G at_29 rfl rfl (pc' := 31) rfl ?_
  refine GoKit.iconst G (2 : Int32) at_31 rfl (pc' := 32) rfl ?_
  refine GoKit.iloadN G at_32 rfl (pc' := 33) rfl ?_
  refine GoKit.bipush G (16 : Int32) at_33 rfl (pc' := 35) rfl ?_
  refine GoKit.iushr G at_35 (pc' := 36) rfl (fun v315 hqv315 => ?_)
  refine GoKit.sipush G (255 : Int32) at_36 rfl (pc' := 39) rfl ?_
  refine GoKit.iand G at_39 (pc' := 40) rfl (fun v316 hqv316 => ?_)
  refine GoKit.i2c G at_40 (pc' := 41) rfl (fun v317 hqv317 => ?_)
  have l318 := ch8 _ _ _ hqv316 hqv317
  have c319 : nar .char v317 = v317 := by rw [hqv317]; exact nar_i2c _
  refine GoKit.castI G at_41 A313 (i := 2) rfl (by decide) (Nat.le_of_ble_eq_true rfl) c319 (List.Mem.head _) (pc' := 42) rfl (fun h322 W320 A321 => ?_)
  change IA Z h322 a296 .char [v301, v309, v317, 0, 0, 0, 0, 0] at A321
  refine GoKit.aload G at_42 rfl rfl (pc' := 44) rfl ?_
  refine GoKit.iconst G (3 : Int32) at_44 rfl (pc' := 45) rfl ?_
  refine GoKit.iloadN G at_45 rfl (pc' := 46) rfl ?_
  refine GoKit.bipush G (24 : Int32) at_46 rfl (pc' := 48) rfl ?_
  refine GoKit.iushr G at_48 (pc' := 49) rfl (fun v323 hqv323 => ?_)
  refine GoKit.sipush G (255 : Int32) at_49 rfl (pc' := 52) rfl ?_
  refine GoKit.iand G at_52 (pc' := 53) rfl (fun v324 hqv324 => ?_)
  refine GoKit.i2c G at_53 (pc' := 54) rfl (fun v325 hqv325 => ?_)
  have l326 := ch8 _ _ _ hqv324 hqv325
  have c327 : nar .char v325 = v325 := by rw [hqv325]; exact nar_i2c _
  refine GoKit.castI G at_54 A321 (i := 3) rfl (by decide) (Nat.le_of_ble_eq_true rfl) c327 (List.Mem.head _) (pc' := 55) rfl (fun h330 W328 A329 => ?_)
  change IA Z h330 a296 .char [v301, v309, v317, v325, 0, 0, 0, 0] at A329
  refine GoKit.aload G at_55 rfl rfl (pc' := 57) rfl ?_
  refine GoKit.iconst G (4 : Int32) at_57 rfl (pc' := 58) rfl ?_
  refine GoKit.iloadN G at_58 rfl (pc' := 59) rfl ?_
  refine GoKit.sipush G (255 : Int32) at_59 rfl (pc' := 62) rfl ?_
  refine GoKit.iand G at_62 (pc' := 63) rfl (fun v331 hqv331 => ?_)
  refine GoKit.i2c G at_63 (pc' := 64) rfl (fun v332 hqv332 => ?_)
  have l333 := ch8 _ _ _ hqv331 hqv332
  have c334 : nar .char v332 = v332 := by rw [hqv332]; exact nar_i2c _
  refine GoKit.castI G at_64 A329 (i := 4) rfl (by decide) (Nat.le_of_ble_eq_true rfl) c334 (List.Mem.head _) (pc' := 65) rfl (fun h337 W335 A336 => ?_)
  change IA Z h337 a296 .char [v301, v309, v317, v325, v332, 0, 0, 0] at A336
  refine GoKit.aload G at_65 rfl rfl (pc' := 67) rfl ?_
  refine GoKit.iconst G (5 : Int32) at_67 rfl (pc' := 68) rfl ?_
  refine GoKit.iloadN G at_68 rfl (pc' := 69) rfl ?_
  refine GoKit.bipush G (8 : Int32) at_69 rfl (pc' := 71) rfl ?_
  refine GoKit.iushr G at_71 (pc' := 72) rfl (fun v338 hqv338 => ?_)
  refine GoKit.sipush G (255 : Int32) at_72 rfl (pc' := 75) rfl ?_
  refine GoKit.iand G at_75 (pc' := 76) rfl (fun v339 hqv339 => ?_)
  refine GoKit.i2c G at_76 (pc' := 77) rfl (fun v340 hqv340 => ?_)
  have l341 := ch8 _ _ _ hqv339 hqv340
  have c342 : nar .char v340 = v340 := by rw [hqv340]; exact nar_i2c _
  refine GoKit.castI G at_77 A336 (i := 5) rfl (by decide) (Nat.le_of_ble_eq_true rfl) c342 (List.Mem.head _) (pc' := 78) rfl (fun h345 W343 A344 => ?_)
  change IA Z h345 a296 .char [v301, v309, v317, v325, v332, v340, 0, 0] at A344
  refine GoKit.aload G at_78 rfl rfl (pc' := 80) rfl ?_
  refine GoKit.bipush G (6 : Int32) at_80 rfl (pc' := 82) rfl ?_
  refine GoKit.iloadN G at_82 rfl (pc' := 83) rfl ?_
  refine GoKit.bipush G (16 : Int32) at_83 rfl (pc' := 85) rfl ?_
  refine GoKit.iushr G at_85 (pc' := 86) rfl (fun v346 hqv346 => ?_)
  refine GoKit.sipush G (255 : Int32) at_86 rfl (pc' := 89) rfl ?_
  refine GoKit.iand G at_89 (pc' := 90) rfl (fun v347 hqv347 => ?_)
  refine GoKit.i2c G at_90 (pc' := 91) rfl (fun v348 hqv348 => ?_)
  have l349 := ch8 _ _ _ hqv347 hqv348
  have c350 : nar .char v348 = v348 := by rw [hqv348]; exact nar_i2c _
  refine GoKit.castI G at_91 A344 (i := 6) rfl (by decide) (Nat.le_of_ble_eq_true rfl) c350 (List.Mem.head _) (pc' := 92) rfl (fun h353 W351 A352 => ?_)
  change IA Z h353 a296 .char [v301, v309, v317, v325, v332, v340, v348, 0] at A352
  refine GoKit.aload G at_92 rfl rfl (pc' := 94) rfl ?_
  refine GoKit.bipush G (7 : Int32) at_94 rfl (pc' := 96) rfl ?_
  refine GoKit.iloadN G at_96 rfl (pc' := 97) rfl ?_
  refine GoKit.bipush G (24 : Int32) at_97 rfl (pc' := 99) rfl ?_
  refine GoKit.iushr G at_99 (pc' := 100) rfl (fun v354 hqv354 => ?_)
  refine GoKit.sipush G (255 : Int32) at_100 rfl (pc' := 103) rfl ?_
  refine GoKit.iand G at_103 (pc' := 104) rfl (fun v355 hqv355 => ?_)
  refine GoKit.i2c G at_104 (pc' := 105) rfl (fun v356 hqv356 => ?_)
  have l357 := ch8 _ _ _ hqv355 hqv356
  have c358 : nar .char v356 = v356 := by rw [hqv356]; exact nar_i2c _
  refine GoKit.castI G at_105 A352 (i := 7) rfl (by decide) (Nat.le_of_ble_eq_true rfl) c358 (List.Mem.head _) (pc' := 106) rfl (fun h361 W359 A360 => ?_)
  change IA Z h361 a296 .char [v301, v309, v317, v325, v332, v340, v348, v356] at A360
  refine GoKit.iloadN G at_106 rfl (pc' := 107) rfl ?_
  refine GoKit.bipush G (7 : Int32) at_107 rfl (pc' := 109) rfl ?_
  refine GoKit.iand G at_109 (pc' := 110) rfl (fun v362 hqv362 => ?_)
  refine GoKit.istore G at_110 (Ls' := #[.val (.int p0), .val (.int p1), .val (.int p2), .val (.int p3), .val (.ref a296), .val (.int v362), .unset, .unset, .unset]) rfl (pc' := 112) rfl ?_
  refine GoKit.iloadN G at_112 rfl (pc' := 113) rfl ?_
  refine GoKit.iconst G (3 : Int32) at_113 rfl (pc' := 114) rfl ?_
  refine GoKit.iushr G at_114 (pc' := 115) rfl (fun v363 hqv363 => ?_)
  refine GoKit.bipush G (7 : Int32) at_115 rfl (pc' := 117) rfl ?_
  refine GoKit.irem G at_117 (by decide) (pc' := 118) rfl (fun v364 hqv364 => ?_)
  rcases cases7 (v := v364) (by rw [hqv364]; exact rem_rng _ _ (ushr_nn hqv363) (by decide)) with rfl | rfl | rfl | rfl | rfl | rfl | rfl
  · refine GoKit.istore G at_118 (Ls' := #[.val (.int p0), .val (.int p1), .val (.int p2), .val (.int p3), .val (.ref a296), .val (.int v362), .val (.int (0 : Int32)), .unset, .unset]) rfl (pc' := 120) rfl ?_
    refine GoKit.iload G at_120 rfl (pc' := 122) rfl ?_
    refine GoKit.bipush G (6 : Int32) at_122 rfl (pc' := 124) rfl ?_
    refine GoKit.icmp_ge_f G at_124 (by decide) (pc' := 127) rfl ?_
    refine GoKit.iload G at_127 rfl (pc' := 129) rfl ?_
    refine GoKit.callStatic G at_129 (wi hw 1 rfl) (wi hw 2 rfl) (wi hw 3 rfl) (wi hw 4 rfl) (by decide) (owc := []) (W := 0) (argsL := [(.int (0 : Int32))]) (rest := []) (con_text0 l hw) rfl (lenOf pd_15 rfl) rfl (by decide) (Nat.le_of_eq rfl) (by decide) (by decide) (by decide) (fun _ q => nomatch q) (cells' := 3) (slots' := 24) rfl rfl (pc' := 132) rfl (fun r365 h368 q366 K367 => ?_)
    obtain ⟨a369, rfl, S370⟩ := q366
    show Run _ _ _ _ _ _ _ _ _ _ _ _ _ _ _ _ _ _ _ _ (mkF m 132 #[.val (.int p0), .val (.int p1), .val (.int p2), .val (.int p3), .val (.ref a296), .val (.int v362), .val (.int (0 : Int32)), .unset, .unset] [(.ref a369)])
    refine GoKit.astore G at_132 rfl (Ls' := #[.val (.int p0), .val (.int p1), .val (.int p2), .val (.int p3), .val (.ref a296), .val (.int v362), .val (.int (0 : Int32)), .val (.ref a369), .unset]) rfl (pc' := 134) rfl ?_
    refine GoKit.aload G at_134 rfl rfl (pc' := 136) rfl ?_
    refine GoKit.callVirtualP G at_136 (wi hw 13 rfl) (wi hw 14 rfl) (wi hw 16 rfl) (wi hw 15 rfl) (wi hw 6 rfl) (wi hw 17 rfl) (by decide) S370.1 (W := 0) (argsL := []) (rest := []) (con_strlen l hw S370 HC) rfl (lenOf pd_16 rfl) rfl (by decide) (Nat.le_of_eq rfl) (by decide) (by decide) (by decide) (cells' := 3) (slots' := 24) rfl rfl (pc' := 139) rfl ?_
    show Run _ _ _ _ _ _ _ _ _ _ _ _ _ _ _ _ _ _ _ _ (mkF m 139 #[.val (.int p0), .val (.int p1), .val (.int p2), .val (.int p3), .val (.ref a296), .val (.int v362), .val (.int (0 : Int32)), .val (.ref a369), .unset] [(.int (3 : Int32))])
    refine GoKit.istore G at_139 (Ls' := #[.val (.int p0), .val (.int p1), .val (.int p2), .val (.int p3), .val (.ref a296), .val (.int (3 : Int32)), .val (.int (0 : Int32)), .val (.ref a369), .unset]) rfl (pc' := 141) rfl ?_
    refine GoKit.aload G at_141 rfl rfl (pc' := 143) rfl ?_
    refine GoKit.callVirtualP G at_143 (wi hw 13 rfl) (wi hw 14 rfl) (wi hw 16 rfl) (wi hw 15 rfl) (wi hw 6 rfl) (wi hw 17 rfl) (by decide) S370.1 (W := 0) (argsL := []) (rest := []) (con_strlen l hw S370 HC) rfl (lenOf pd_16 rfl) rfl (by decide) (Nat.le_of_eq rfl) (by decide) (by decide) (by decide) (cells' := 3) (slots' := 24) rfl rfl (pc' := 146) rfl ?_
    show Run _ _ _ _ _ _ _ _ _ _ _ _ _ _ _ _ _ _ _ _ (mkF m 146 #[.val (.int p0), .val (.int p1), .val (.int p2), .val (.int p3), .val (.ref a296), .val (.int (3 : Int32)), .val (.int (0 : Int32)), .val (.ref a369), .unset] [(.int (3 : Int32))])
    refine GoKit.if_le_f G at_146 (by decide) (pc' := 149) rfl ?_
    refine GoKit.aload G at_149 rfl rfl (pc' := 151) rfl ?_
    refine GoKit.iconst G (0 : Int32) at_151 rfl (pc' := 152) rfl ?_
    refine GoKit.aload G at_152 rfl rfl (pc' := 154) rfl ?_
    refine GoKit.iconst G (0 : Int32) at_154 rfl (pc' := 155) rfl ?_
    refine GoKit.callVirtualP G at_155 (wi hw 26 rfl) (wi hw 27 rfl) (wi hw 29 rfl) (wi hw 28 rfl) (wi hw 6 rfl) (wi hw 30 rfl) (by decide) S370.1 (W := 2) (argsL := [(.int (0 : Int32))]) (rest := [(.int (0 : Int32)), (.ref a296)]) (con_charAt l hw S370 HC (i := 0) (ch := (77 : Int32)) rfl HF) rfl (lenOf pd_17 rfl) rfl (by decide) (Nat.le_of_eq rfl) (by decide) (by decide) (by decide) (cells' := 3) (slots' := 24) rfl rfl (pc' := 158) rfl ?_
    show Run _ _ _ _ _ _ _ _ _ _ _ _ _ _ _ _ _ _ _ _ (mkF m 158 #[.val (.int p0), .val (.int p1), .val (.int p2), .val (.int p3), .val (.ref a296), .val (.int (3 : Int32)), .val (.int (0 : Int32)), .val (.ref a369), .unset] [(.int (77 : Int32)), (.int (0 : Int32)), (.ref a296)])
    refine GoKit.castI G at_158 (A360.keep K367 nin0) (i := 0) rfl (by decide) (Nat.le_of_ble_eq_true rfl) rfl (List.Mem.head _) (pc' := 159) rfl (fun h373 W371 A372 => ?_)
    change IA Z h373 a296 .char [(77 : Int32), v309, v317, v325, v332, v340, v348, v356] at A372
    refine GoKit.aload G at_159 rfl rfl (pc' := 161) rfl ?_
    have S374 := (Lat.wrI S370 W371 (A360.keep K367 nin0) (by decide) (wi hw 7 rfl))
    refine GoKit.callVirtualP G at_161 (wi hw 13 rfl) (wi hw 14 rfl) (wi hw 16 rfl) (wi hw 15 rfl) (wi hw 6 rfl) (wi hw 17 rfl) (by decide) S374.1 (W := 0) (argsL := []) (rest := []) (con_strlen l hw S374 HC) rfl (lenOf pd_16 rfl) rfl (by decide) (Nat.le_of_eq rfl) (by decide) (by decide) (by decide) (cells' := 3) (slots' := 24) rfl rfl (pc' := 164) rfl ?_
    show Run _ _ _ _ _ _ _ _ _ _ _ _ _ _ _ _ _ _ _ _ (mkF m 164 #[.val (.int p0), .val (.int p1), .val (.int p2), .val (.int p3), .val (.ref a296), .val (.int (3 : Int32)), .val (.int (0 : Int32)), .val (.ref a369), .unset] [(.int (3 : Int32))])
    refine GoKit.iconst G (1 : Int32) at_164 rfl (pc' := 165) rfl ?_
    refine GoKit.icmp_le_f G at_165 (by decide) (pc' := 168) rfl ?_
    refine GoKit.aload G at_168 rfl rfl (pc' := 170) rfl ?_
    refine GoKit.iconst G (1 : Int32) at_170 rfl (pc' := 171) rfl ?_
    refine GoKit.aload G at_171 rfl rfl (pc' := 173) rfl ?_
    refine GoKit.iconst G (1 : Int32) at_173 rfl (pc' := 174) rfl ?_
    refine GoKit.callVirtualP G at_174 (wi hw 26 rfl) (wi hw 27 rfl) (wi hw 29 rfl) (wi hw 28 rfl) (wi hw 6 rfl) (wi hw 30 rfl) (by decide) S374.1 (W := 2) (argsL := [(.int (1 : Int32))]) (rest := [(.int (1 : Int32)), (.ref a296)]) (con_charAt l hw S374 HC (i := 1) (ch := (65 : Int32)) rfl HF) rfl (lenOf pd_17 rfl) rfl (by decide) (Nat.le_of_eq rfl) (by decide) (by decide) (by decide) (cells' := 3) (slots' := 24) rfl rfl (pc' := 177) rfl ?_
    show Run _ _ _ _ _ _ _ _ _ _ _ _ _ _ _ _ _ _ _ _ (mkF m 177 #[.val (.int p0), .val (.int p1), .val (.int p2), .val (.int p3), .val (.ref a296), .val (.int (3 : Int32)), .val (.int (0 : Int32)), .val (.ref a369), .unset] [(.int (65 : Int32)), (.int (1 : Int32)), (.ref a296)])
    refine GoKit.castI G at_177 A372 (i := 1) rfl (by decide) (Nat.le_of_ble_eq_true rfl) rfl (List.Mem.head _) (pc' := 178) rfl (fun h377 W375 A376 => ?_)
    change IA Z h377 a296 .char [(77 : Int32), (65 : Int32), v317, v325, v332, v340, v348, v356] at A376
    refine GoKit.aload G at_178 rfl rfl (pc' := 180) rfl ?_
    have S378 := (Lat.wrI S374 W375 A372 (by decide) (wi hw 7 rfl))
    refine GoKit.callVirtualP G at_180 (wi hw 13 rfl) (wi hw 14 rfl) (wi hw 16 rfl) (wi hw 15 rfl) (wi hw 6 rfl) (wi hw 17 rfl) (by decide) S378.1 (W := 0) (argsL := []) (rest := []) (con_strlen l hw S378 HC) rfl (lenOf pd_16 rfl) rfl (by decide) (Nat.le_of_eq rfl) (by decide) (by decide) (by decide) (cells' := 3) (slots' := 24) rfl rfl (pc' := 183) rfl ?_
    show Run _ _ _ _ _ _ _ _ _ _ _ _ _ _ _ _ _ _ _ _ (mkF m 183 #[.val (.int p0), .val (.int p1), .val (.int p2), .val (.int p3), .val (.ref a296), .val (.int (3 : Int32)), .val (.int (0 : Int32)), .val (.ref a369), .unset] [(.int (3 : Int32))])
    refine GoKit.iconst G (2 : Int32) at_183 rfl (pc' := 184) rfl ?_
    refine GoKit.icmp_le_f G at_184 (by decide) (pc' := 187) rfl ?_
    refine GoKit.aload G at_187 rfl rfl (pc' := 189) rfl ?_
    refine GoKit.iconst G (2 : Int32) at_189 rfl (pc' := 190) rfl ?_
    refine GoKit.aload G at_190 rfl rfl (pc' := 192) rfl ?_
    refine GoKit.iconst G (2 : Int32) at_192 rfl (pc' := 193) rfl ?_
    refine GoKit.callVirtualP G at_193 (wi hw 26 rfl) (wi hw 27 rfl) (wi hw 29 rfl) (wi hw 28 rfl) (wi hw 6 rfl) (wi hw 30 rfl) (by decide) S378.1 (W := 2) (argsL := [(.int (2 : Int32))]) (rest := [(.int (2 : Int32)), (.ref a296)]) (con_charAt l hw S378 HC (i := 2) (ch := (80 : Int32)) rfl HF) rfl (lenOf pd_17 rfl) rfl (by decide) (Nat.le_of_eq rfl) (by decide) (by decide) (by decide) (cells' := 3) (slots' := 24) rfl rfl (pc' := 196) rfl ?_
    show Run _ _ _ _ _ _ _ _ _ _ _ _ _ _ _ _ _ _ _ _ (mkF m 196 #[.val (.int p0), .val (.int p1), .val (.int p2), .val (.int p3), .val (.ref a296), .val (.int (3 : Int32)), .val (.int (0 : Int32)), .val (.ref a369), .unset] [(.int (80 : Int32)), (.int (2 : Int32)), (.ref a296)])
    refine GoKit.castI G at_196 A376 (i := 2) rfl (by decide) (Nat.le_of_ble_eq_true rfl) rfl (List.Mem.head _) (pc' := 197) rfl (fun h381 W379 A380 => ?_)
    change IA Z h381 a296 .char [(77 : Int32), (65 : Int32), (80 : Int32), v325, v332, v340, v348, v356] at A380
    refine GoKit.aload G at_197 rfl rfl (pc' := 199) rfl ?_
    have S382 := (Lat.wrI S378 W379 A376 (by decide) (wi hw 7 rfl))
    refine GoKit.callVirtualP G at_199 (wi hw 13 rfl) (wi hw 14 rfl) (wi hw 16 rfl) (wi hw 15 rfl) (wi hw 6 rfl) (wi hw 17 rfl) (by decide) S382.1 (W := 0) (argsL := []) (rest := []) (con_strlen l hw S382 HC) rfl (lenOf pd_16 rfl) rfl (by decide) (Nat.le_of_eq rfl) (by decide) (by decide) (by decide) (cells' := 3) (slots' := 24) rfl rfl (pc' := 202) rfl ?_
    show Run _ _ _ _ _ _ _ _ _ _ _ _ _ _ _ _ _ _ _ _ (mkF m 202 #[.val (.int p0), .val (.int p1), .val (.int p2), .val (.int p3), .val (.ref a296), .val (.int (3 : Int32)), .val (.int (0 : Int32)), .val (.ref a369), .unset] [(.int (3 : Int32))])
    refine GoKit.iconst G (3 : Int32) at_202 rfl (pc' := 203) rfl ?_
    refine GoKit.icmp_le_t G at_203 (by decide) (by decide) (pc' := 216) rfl ?_
    refine GoKit.aload G at_216 rfl rfl (pc' := 218) rfl ?_
    refine GoKit.callVirtualP G at_218 (wi hw 13 rfl) (wi hw 14 rfl) (wi hw 16 rfl) (wi hw 15 rfl) (wi hw 6 rfl) (wi hw 17 rfl) (by decide) S382.1 (W := 0) (argsL := []) (rest := []) (con_strlen l hw S382 HC) rfl (lenOf pd_16 rfl) rfl (by decide) (Nat.le_of_eq rfl) (by decide) (by decide) (by decide) (cells' := 3) (slots' := 24) rfl rfl (pc' := 221) rfl ?_
    show Run _ _ _ _ _ _ _ _ _ _ _ _ _ _ _ _ _ _ _ _ (mkF m 221 #[.val (.int p0), .val (.int p1), .val (.int p2), .val (.int p3), .val (.ref a296), .val (.int (3 : Int32)), .val (.int (0 : Int32)), .val (.ref a369), .unset] [(.int (3 : Int32))])
    refine GoKit.iconst G (4 : Int32) at_221 rfl (pc' := 222) rfl ?_
    refine GoKit.icmp_le_t G at_222 (by decide) (by decide) (pc' := 235) rfl ?_
    refine GoKit.aload G at_235 rfl rfl (pc' := 237) rfl ?_
    refine GoKit.callVirtualP G at_237 (wi hw 13 rfl) (wi hw 14 rfl) (wi hw 16 rfl) (wi hw 15 rfl) (wi hw 6 rfl) (wi hw 17 rfl) (by decide) S382.1 (W := 0) (argsL := []) (rest := []) (con_strlen l hw S382 HC) rfl (lenOf pd_16 rfl) rfl (by decide) (Nat.le_of_eq rfl) (by decide) (by decide) (by decide) (cells' := 3) (slots' := 24) rfl rfl (pc' := 240) rfl ?_
    show Run _ _ _ _ _ _ _ _ _ _ _ _ _ _ _ _ _ _ _ _ (mkF m 240 #[.val (.int p0), .val (.int p1), .val (.int p2), .val (.int p3), .val (.ref a296), .val (.int (3 : Int32)), .val (.int (0 : Int32)), .val (.ref a369), .unset] [(.int (3 : Int32))])
    refine GoKit.iconst G (5 : Int32) at_240 rfl (pc' := 241) rfl ?_
    refine GoKit.icmp_le_t G at_241 (by decide) (by decide) (pc' := 254) rfl ?_
    refine GoKit.aload G at_254 rfl rfl (pc' := 256) rfl ?_
    refine GoKit.callVirtualP G at_256 (wi hw 13 rfl) (wi hw 14 rfl) (wi hw 16 rfl) (wi hw 15 rfl) (wi hw 6 rfl) (wi hw 17 rfl) (by decide) S382.1 (W := 0) (argsL := []) (rest := []) (con_strlen l hw S382 HC) rfl (lenOf pd_16 rfl) rfl (by decide) (Nat.le_of_eq rfl) (by decide) (by decide) (by decide) (cells' := 3) (slots' := 24) rfl rfl (pc' := 259) rfl ?_
    show Run _ _ _ _ _ _ _ _ _ _ _ _ _ _ _ _ _ _ _ _ (mkF m 259 #[.val (.int p0), .val (.int p1), .val (.int p2), .val (.int p3), .val (.ref a296), .val (.int (3 : Int32)), .val (.int (0 : Int32)), .val (.ref a369), .unset] [(.int (3 : Int32))])
    refine GoKit.bipush G (6 : Int32) at_259 rfl (pc' := 261) rfl ?_
    refine GoKit.icmp_le_t G at_261 (by decide) (by decide) (pc' := 276) rfl ?_
    have hl383 : ∀ c ∈ ([(77 : Int32), (65 : Int32), (80 : Int32), v325, v332, v340, v348, v356] : List Int32), 0 ≤ c.toInt ∧ c.toInt < 256 := by
      intro c hc
      simp only [List.mem_cons, List.not_mem_nil, or_false] at hc
      rcases hc with hc | hc | hc | hc | hc | hc | hc | hc
      · rw [hc]; exact (by decide)
      · rw [hc]; exact (by decide)
      · rw [hc]; exact (by decide)
      · rw [hc]; exact l326
      · rw [hc]; exact l333
      · rw [hc]; exact l341
      · rw [hc]; exact l349
      · rw [hc]; exact l357
    refine Run.mono (cells' := 3) (slots' := 44) (by decide) (by decide) ?_
    refine Run.owless (ow' := [a296]) (by intro x hx; simp only [List.mem_cons, List.not_mem_nil, or_false] at hx ⊢; simp [hx]) ?_
    exact J1 _ _ _ _ _ _ A380 rfl hl383 (by decide) (Or.inr ⟨_, rfl, rfl⟩)
  · refine GoKit.istore G at_118 (Ls' := #[.val (.int p0), .val (.int p1), .val (.int p2), .val (.int p3), .val (.ref a296), .val (.int v362), .val (.int (1 : Int32)), .unset, .unset]) rfl (pc' := 120) rfl ?_
    refine GoKit.iload G at_120 rfl (pc' := 122) rfl ?_
    refine GoKit.bipush G (6 : Int32) at_122 rfl (pc' := 124) rfl ?_
    refine GoKit.icmp_ge_f G at_124 (by decide) (pc' := 127) rfl ?_
    refine GoKit.iload G at_127 rfl (pc' := 129) rfl ?_
    refine GoKit.callStatic G at_129 (wi hw 1 rfl) (wi hw 2 rfl) (wi hw 3 rfl) (wi hw 4 rfl) (by decide) (owc := []) (W := 0) (argsL := [(.int (1 : Int32))]) (rest := []) (con_text1 l hw) rfl (lenOf pd_15 rfl) rfl (by decide) (Nat.le_of_eq rfl) (by decide) (by decide) (by decide) (fun _ q => nomatch q) (cells' := 3) (slots' := 24) rfl rfl (pc' := 132) rfl (fun r384 h387 q385 K386 => ?_)
    obtain ⟨a388, rfl, S389⟩ := q385
    show Run _ _ _ _ _ _ _ _ _ _ _ _ _ _ _ _ _ _ _ _ (mkF m 132 #[.val (.int p0), .val (.int p1), .val (.int p2), .val (.int p3), .val (.ref a296), .val (.int v362), .val (.int (1 : Int32)), .unset, .unset] [(.ref a388)])
    refine GoKit.astore G at_132 rfl (Ls' := #[.val (.int p0), .val (.int p1), .val (.int p2), .val (.int p3), .val (.ref a296), .val (.int v362), .val (.int (1 : Int32)), .val (.ref a388), .unset]) rfl (pc' := 134) rfl ?_
    refine GoKit.aload G at_134 rfl rfl (pc' := 136) rfl ?_
    refine GoKit.callVirtualP G at_136 (wi hw 13 rfl) (wi hw 14 rfl) (wi hw 16 rfl) (wi hw 15 rfl) (wi hw 6 rfl) (wi hw 17 rfl) (by decide) S389.1 (W := 0) (argsL := []) (rest := []) (con_strlen l hw S389 HC) rfl (lenOf pd_16 rfl) rfl (by decide) (Nat.le_of_eq rfl) (by decide) (by decide) (by decide) (cells' := 3) (slots' := 24) rfl rfl (pc' := 139) rfl ?_
    show Run _ _ _ _ _ _ _ _ _ _ _ _ _ _ _ _ _ _ _ _ (mkF m 139 #[.val (.int p0), .val (.int p1), .val (.int p2), .val (.int p3), .val (.ref a296), .val (.int v362), .val (.int (1 : Int32)), .val (.ref a388), .unset] [(.int (3 : Int32))])
    refine GoKit.istore G at_139 (Ls' := #[.val (.int p0), .val (.int p1), .val (.int p2), .val (.int p3), .val (.ref a296), .val (.int (3 : Int32)), .val (.int (1 : Int32)), .val (.ref a388), .unset]) rfl (pc' := 141) rfl ?_
    refine GoKit.aload G at_141 rfl rfl (pc' := 143) rfl ?_
    refine GoKit.callVirtualP G at_143 (wi hw 13 rfl) (wi hw 14 rfl) (wi hw 16 rfl) (wi hw 15 rfl) (wi hw 6 rfl) (wi hw 17 rfl) (by decide) S389.1 (W := 0) (argsL := []) (rest := []) (con_strlen l hw S389 HC) rfl (lenOf pd_16 rfl) rfl (by decide) (Nat.le_of_eq rfl) (by decide) (by decide) (by decide) (cells' := 3) (slots' := 24) rfl rfl (pc' := 146) rfl ?_
    show Run _ _ _ _ _ _ _ _ _ _ _ _ _ _ _ _ _ _ _ _ (mkF m 146 #[.val (.int p0), .val (.int p1), .val (.int p2), .val (.int p3), .val (.ref a296), .val (.int (3 : Int32)), .val (.int (1 : Int32)), .val (.ref a388), .unset] [(.int (3 : Int32))])
    refine GoKit.if_le_f G at_146 (by decide) (pc' := 149) rfl ?_
    refine GoKit.aload G at_149 rfl rfl (pc' := 151) rfl ?_
    refine GoKit.iconst G (0 : Int32) at_151 rfl (pc' := 152) rfl ?_
    refine GoKit.aload G at_152 rfl rfl (pc' := 154) rfl ?_
    refine GoKit.iconst G (0 : Int32) at_154 rfl (pc' := 155) rfl ?_
    refine GoKit.callVirtualP G at_155 (wi hw 26 rfl) (wi hw 27 rfl) (wi hw 29 rfl) (wi hw 28 rfl) (wi hw 6 rfl) (wi hw 30 rfl) (by decide) S389.1 (W := 2) (argsL := [(.int (0 : Int32))]) (rest := [(.int (0 : Int32)), (.ref a296)]) (con_charAt l hw S389 HC (i := 0) (ch := (77 : Int32)) rfl HF) rfl (lenOf pd_17 rfl) rfl (by decide) (Nat.le_of_eq rfl) (by decide) (by decide) (by decide) (cells' := 3) (slots' := 24) rfl rfl (pc' := 158) rfl ?_
    show Run _ _ _ _ _ _ _ _ _ _ _ _ _ _ _ _ _ _ _ _ (mkF m 158 #[.val (.int p0), .val (.int p1), .val (.int p2), .val (.int p3), .val (.ref a296), .val (.int (3 : Int32)), .val (.int (1 : Int32)), .val (.ref a388), .unset] [(.int (77 : Int32)), (.int (0 : Int32)), (.ref a296)])
    refine GoKit.castI G at_158 (A360.keep K386 nin0) (i := 0) rfl (by decide) (Nat.le_of_ble_eq_true rfl) rfl (List.Mem.head _) (pc' := 159) rfl (fun h392 W390 A391 => ?_)
    change IA Z h392 a296 .char [(77 : Int32), v309, v317, v325, v332, v340, v348, v356] at A391
    refine GoKit.aload G at_159 rfl rfl (pc' := 161) rfl ?_
    have S393 := (Lat.wrI S389 W390 (A360.keep K386 nin0) (by decide) (wi hw 7 rfl))
    refine GoKit.callVirtualP G at_161 (wi hw 13 rfl) (wi hw 14 rfl) (wi hw 16 rfl) (wi hw 15 rfl) (wi hw 6 rfl) (wi hw 17 rfl) (by decide) S393.1 (W := 0) (argsL := []) (rest := []) (con_strlen l hw S393 HC) rfl (lenOf pd_16 rfl) rfl (by decide) (Nat.le_of_eq rfl) (by decide) (by decide) (by decide) (cells' := 3) (slots' := 24) rfl rfl (pc' := 164) rfl ?_
    show Run _ _ _ _ _ _ _ _ _ _ _ _ _ _ _ _ _ _ _ _ (mkF m 164 #[.val (.int p0), .val (.int p1), .val (.int p2), .val (.int p3), .val (.ref a296), .val (.int (3 : Int32)), .val (.int (1 : Int32)), .val (.ref a388), .unset] [(.int (3 : Int32))])
    refine GoKit.iconst G (1 : Int32) at_164 rfl (pc' := 165) rfl ?_
    refine GoKit.icmp_le_f G at_165 (by decide) (pc' := 168) rfl ?_
    refine GoKit.aload G at_168 rfl rfl (pc' := 170) rfl ?_
    refine GoKit.iconst G (1 : Int32) at_170 rfl (pc' := 171) rfl ?_
    refine GoKit.aload G at_171 rfl rfl (pc' := 173) rfl ?_
    refine GoKit.iconst G (1 : Int32) at_173 rfl (pc' := 174) rfl ?_
    refine GoKit.callVirtualP G at_174 (wi hw 26 rfl) (wi hw 27 rfl) (wi hw 29 rfl) (wi hw 28 rfl) (wi hw 6 rfl) (wi hw 30 rfl) (by decide) S393.1 (W := 2) (argsL := [(.int (1 : Int32))]) (rest := [(.int (1 : Int32)), (.ref a296)]) (con_charAt l hw S393 HC (i := 1) (ch := (82 : Int32)) rfl HF) rfl (lenOf pd_17 rfl) rfl (by decide) (Nat.le_of_eq rfl) (by decide) (by decide) (by decide) (cells' := 3) (slots' := 24) rfl rfl (pc' := 177) rfl ?_
    show Run _ _ _ _ _ _ _ _ _ _ _ _ _ _ _ _ _ _ _ _ (mkF m 177 #[.val (.int p0), .val (.int p1), .val (.int p2), .val (.int p3), .val (.ref a296), .val (.int (3 : Int32)), .val (.int (1 : Int32)), .val (.ref a388), .unset] [(.int (82 : Int32)), (.int (1 : Int32)), (.ref a296)])
    refine GoKit.castI G at_177 A391 (i := 1) rfl (by decide) (Nat.le_of_ble_eq_true rfl) rfl (List.Mem.head _) (pc' := 178) rfl (fun h396 W394 A395 => ?_)
    change IA Z h396 a296 .char [(77 : Int32), (82 : Int32), v317, v325, v332, v340, v348, v356] at A395
    refine GoKit.aload G at_178 rfl rfl (pc' := 180) rfl ?_
    have S397 := (Lat.wrI S393 W394 A391 (by decide) (wi hw 7 rfl))
    refine GoKit.callVirtualP G at_180 (wi hw 13 rfl) (wi hw 14 rfl) (wi hw 16 rfl) (wi hw 15 rfl) (wi hw 6 rfl) (wi hw 17 rfl) (by decide) S397.1 (W := 0) (argsL := []) (rest := []) (con_strlen l hw S397 HC) rfl (lenOf pd_16 rfl) rfl (by decide) (Nat.le_of_eq rfl) (by decide) (by decide) (by decide) (cells' := 3) (slots' := 24) rfl rfl (pc' := 183) rfl ?_
    show Run _ _ _ _ _ _ _ _ _ _ _ _ _ _ _ _ _ _ _ _ (mkF m 183 #[.val (.int p0), .val (.int p1), .val (.int p2), .val (.int p3), .val (.ref a296), .val (.int (3 : Int32)), .val (.int (1 : Int32)), .val (.ref a388), .unset] [(.int (3 : Int32))])
    refine GoKit.iconst G (2 : Int32) at_183 rfl (pc' := 184) rfl ?_
    refine GoKit.icmp_le_f G at_184 (by decide) (pc' := 187) rfl ?_
    refine GoKit.aload G at_187 rfl rfl (pc' := 189) rfl ?_
    refine GoKit.iconst G (2 : Int32) at_189 rfl (pc' := 190) rfl ?_
    refine GoKit.aload G at_190 rfl rfl (pc' := 192) rfl ?_
    refine GoKit.iconst G (2 : Int32) at_192 rfl (pc' := 193) rfl ?_
    refine GoKit.callVirtualP G at_193 (wi hw 26 rfl) (wi hw 27 rfl) (wi hw 29 rfl) (wi hw 28 rfl) (wi hw 6 rfl) (wi hw 30 rfl) (by decide) S397.1 (W := 2) (argsL := [(.int (2 : Int32))]) (rest := [(.int (2 : Int32)), (.ref a296)]) (con_charAt l hw S397 HC (i := 2) (ch := (82 : Int32)) rfl HF) rfl (lenOf pd_17 rfl) rfl (by decide) (Nat.le_of_eq rfl) (by decide) (by decide) (by decide) (cells' := 3) (slots' := 24) rfl rfl (pc' := 196) rfl ?_
    show Run _ _ _ _ _ _ _ _ _ _ _ _ _ _ _ _ _ _ _ _ (mkF m 196 #[.val (.int p0), .val (.int p1), .val (.int p2), .val (.int p3), .val (.ref a296), .val (.int (3 : Int32)), .val (.int (1 : Int32)), .val (.ref a388), .unset] [(.int (82 : Int32)), (.int (2 : Int32)), (.ref a296)])
    refine GoKit.castI G at_196 A395 (i := 2) rfl (by decide) (Nat.le_of_ble_eq_true rfl) rfl (List.Mem.head _) (pc' := 197) rfl (fun h400 W398 A399 => ?_)
    change IA Z h400 a296 .char [(77 : Int32), (82 : Int32), (82 : Int32), v325, v332, v340, v348, v356] at A399
    refine GoKit.aload G at_197 rfl rfl (pc' := 199) rfl ?_
    have S401 := (Lat.wrI S397 W398 A395 (by decide) (wi hw 7 rfl))
    refine GoKit.callVirtualP G at_199 (wi hw 13 rfl) (wi hw 14 rfl) (wi hw 16 rfl) (wi hw 15 rfl) (wi hw 6 rfl) (wi hw 17 rfl) (by decide) S401.1 (W := 0) (argsL := []) (rest := []) (con_strlen l hw S401 HC) rfl (lenOf pd_16 rfl) rfl (by decide) (Nat.le_of_eq rfl) (by decide) (by decide) (by decide) (cells' := 3) (slots' := 24) rfl rfl (pc' := 202) rfl ?_
    show Run _ _ _ _ _ _ _ _ _ _ _ _ _ _ _ _ _ _ _ _ (mkF m 202 #[.val (.int p0), .val (.int p1), .val (.int p2), .val (.int p3), .val (.ref a296), .val (.int (3 : Int32)), .val (.int (1 : Int32)), .val (.ref a388), .unset] [(.int (3 : Int32))])
    refine GoKit.iconst G (3 : Int32) at_202 rfl (pc' := 203) rfl ?_
    refine GoKit.icmp_le_t G at_203 (by decide) (by decide) (pc' := 216) rfl ?_
    refine GoKit.aload G at_216 rfl rfl (pc' := 218) rfl ?_
    refine GoKit.callVirtualP G at_218 (wi hw 13 rfl) (wi hw 14 rfl) (wi hw 16 rfl) (wi hw 15 rfl) (wi hw 6 rfl) (wi hw 17 rfl) (by decide) S401.1 (W := 0) (argsL := []) (rest := []) (con_strlen l hw S401 HC) rfl (lenOf pd_16 rfl) rfl (by decide) (Nat.le_of_eq rfl) (by decide) (by decide) (by decide) (cells' := 3) (slots' := 24) rfl rfl (pc' := 221) rfl ?_
    show Run _ _ _ _ _ _ _ _ _ _ _ _ _ _ _ _ _ _ _ _ (mkF m 221 #[.val (.int p0), .val (.int p1), .val (.int p2), .val (.int p3), .val (.ref a296), .val (.int (3 : Int32)), .val (.int (1 : Int32)), .val (.ref a388), .unset] [(.int (3 : Int32))])
    refine GoKit.iconst G (4 : Int32) at_221 rfl (pc' := 222) rfl ?_
    refine GoKit.icmp_le_t G at_222 (by decide) (by decide) (pc' := 235) rfl ?_
    refine GoKit.aload G at_235 rfl rfl (pc' := 237) rfl ?_
    refine GoKit.callVirtualP G at_237 (wi hw 13 rfl) (wi hw 14 rfl) (wi hw 16 rfl) (wi hw 15 rfl) (wi hw 6 rfl) (wi hw 17 rfl) (by decide) S401.1 (W := 0) (argsL := []) (rest := []) (con_strlen l hw S401 HC) rfl (lenOf pd_16 rfl) rfl (by decide) (Nat.le_of_eq rfl) (by decide) (by decide) (by decide) (cells' := 3) (slots' := 24) rfl rfl (pc' := 240) rfl ?_
    show Run _ _ _ _ _ _ _ _ _ _ _ _ _ _ _ _ _ _ _ _ (mkF m 240 #[.val (.int p0), .val (.int p1), .val (.int p2), .val (.int p3), .val (.ref a296), .val (.int (3 : Int32)), .val (.int (1 : Int32)), .val (.ref a388), .unset] [(.int (3 : Int32))])
    refine GoKit.iconst G (5 : Int32) at_240 rfl (pc' := 241) rfl ?_
    refine GoKit.icmp_le_t G at_241 (by decide) (by decide) (pc' := 254) rfl ?_
    refine GoKit.aload G at_254 rfl rfl (pc' := 256) rfl ?_
    refine GoKit.callVirtualP G at_256 (wi hw 13 rfl) (wi hw 14 rfl) (wi hw 16 rfl) (wi hw 15 rfl) (wi hw 6 rfl) (wi hw 17 rfl) (by decide) S401.1 (W := 0) (argsL := []) (rest := []) (con_strlen l hw S401 HC) rfl (lenOf pd_16 rfl) rfl (by decide) (Nat.le_of_eq rfl) (by decide) (by decide) (by decide) (cells' := 3) (slots' := 24) rfl rfl (pc' := 259) rfl ?_
    show Run _ _ _ _ _ _ _ _ _ _ _ _ _ _ _ _ _ _ _ _ (mkF m 259 #[.val (.int p0), .val (.int p1), .val (.int p2), .val (.int p3), .val (.ref a296), .val (.int (3 : Int32)), .val (.int (1 : Int32)), .val (.ref a388), .unset] [(.int (3 : Int32))])
    refine GoKit.bipush G (6 : Int32) at_259 rfl (pc' := 261) rfl ?_
    refine GoKit.icmp_le_t G at_261 (by decide) (by decide) (pc' := 276) rfl ?_
    have hl402 : ∀ c ∈ ([(77 : Int32), (82 : Int32), (82 : Int32), v325, v332, v340, v348, v356] : List Int32), 0 ≤ c.toInt ∧ c.toInt < 256 := by
      intro c hc
      simp only [List.mem_cons, List.not_mem_nil, or_false] at hc
      rcases hc with hc | hc | hc | hc | hc | hc | hc | hc
      · rw [hc]; exact (by decide)
      · rw [hc]; exact (by decide)
      · rw [hc]; exact (by decide)
      · rw [hc]; exact l326
      · rw [hc]; exact l333
      · rw [hc]; exact l341
      · rw [hc]; exact l349
      · rw [hc]; exact l357
    refine Run.mono (cells' := 3) (slots' := 44) (by decide) (by decide) ?_
    refine Run.owless (ow' := [a296]) (by intro x hx; simp only [List.mem_cons, List.not_mem_nil, or_false] at hx ⊢; simp [hx]) ?_
    exact J1 _ _ _ _ _ _ A399 rfl hl402 (by decide) (Or.inr ⟨_, rfl, rfl⟩)
  · refine GoKit.istore G at_118 (Ls' := #[.val (.int p0), .val (.int p1), .val (.int p2), .val (.int p3), .val (.ref a296), .val (.int v362), .val (.int (2 : Int32)), .unset, .unset]) rfl (pc' := 120) rfl ?_
    refine GoKit.iload G at_120 rfl (pc' := 122) rfl ?_
    refine GoKit.bipush G (6 : Int32) at_122 rfl (pc' := 124) rfl ?_
    refine GoKit.icmp_ge_f G at_124 (by decide) (pc' := 127) rfl ?_
    refine GoKit.iload G at_127 rfl (pc' := 129) rfl ?_
    refine GoKit.callStatic G at_129 (wi hw 1 rfl) (wi hw 2 rfl) (wi hw 3 rfl) (wi hw 4 rfl) (by decide) (owc := []) (W := 0) (argsL := [(.int (2 : Int32))]) (rest := []) (con_text2 l hw) rfl (lenOf pd_15 rfl) rfl (by decide) (Nat.le_of_eq rfl) (by decide) (by decide) (by decide) (fun _ q => nomatch q) (cells' := 3) (slots' := 28) rfl rfl (pc' := 132) rfl (fun r403 h406 q404 K405 => ?_)
    obtain ⟨a407, rfl, S408⟩ := q404
    show Run _ _ _ _ _ _ _ _ _ _ _ _ _ _ _ _ _ _ _ _ (mkF m 132 #[.val (.int p0), .val (.int p1), .val (.int p2), .val (.int p3), .val (.ref a296), .val (.int v362), .val (.int (2 : Int32)), .unset, .unset] [(.ref a407)])
    refine GoKit.astore G at_132 rfl (Ls' := #[.val (.int p0), .val (.int p1), .val (.int p2), .val (.int p3), .val (.ref a296), .val (.int v362), .val (.int (2 : Int32)), .val (.ref a407), .unset]) rfl (pc' := 134) rfl ?_
    refine GoKit.aload G at_134 rfl rfl (pc' := 136) rfl ?_
    refine GoKit.callVirtualP G at_136 (wi hw 13 rfl) (wi hw 14 rfl) (wi hw 16 rfl) (wi hw 15 rfl) (wi hw 6 rfl) (wi hw 17 rfl) (by decide) S408.1 (W := 0) (argsL := []) (rest := []) (con_strlen l hw S408 HC) rfl (lenOf pd_16 rfl) rfl (by decide) (Nat.le_of_eq rfl) (by decide) (by decide) (by decide) (cells' := 3) (slots' := 28) rfl rfl (pc' := 139) rfl ?_
    show Run _ _ _ _ _ _ _ _ _ _ _ _ _ _ _ _ _ _ _ _ (mkF m 139 #[.val (.int p0), .val (.int p1), .val (.int p2), .val (.int p3), .val (.ref a296), .val (.int v362), .val (.int (2 : Int32)), .val (.ref a407), .unset] [(.int (4 : Int32))])
    refine GoKit.istore G at_139 (Ls' := #[.val (.int p0), .val (.int p1), .val (.int p2), .val (.int p3), .val (.ref a296), .val (.int (4 : Int32)), .val (.int (2 : Int32)), .val (.ref a407), .unset]) rfl (pc' := 141) rfl ?_
    refine GoKit.aload G at_141 rfl rfl (pc' := 143) rfl ?_
    refine GoKit.callVirtualP G at_143 (wi hw 13 rfl) (wi hw 14 rfl) (wi hw 16 rfl) (wi hw 15 rfl) (wi hw 6 rfl) (wi hw 17 rfl) (by decide) S408.1 (W := 0) (argsL := []) (rest := []) (con_strlen l hw S408 HC) rfl (lenOf pd_16 rfl) rfl (by decide) (Nat.le_of_eq rfl) (by decide) (by decide) (by decide) (cells' := 3) (slots' := 28) rfl rfl (pc' := 146) rfl ?_
    show Run _ _ _ _ _ _ _ _ _ _ _ _ _ _ _ _ _ _ _ _ (mkF m 146 #[.val (.int p0), .val (.int p1), .val (.int p2), .val (.int p3), .val (.ref a296), .val (.int (4 : Int32)), .val (.int (2 : Int32)), .val (.ref a407), .unset] [(.int (4 : Int32))])
    refine GoKit.if_le_f G at_146 (by decide) (pc' := 149) rfl ?_
    refine GoKit.aload G at_149 rfl rfl (pc' := 151) rfl ?_
    refine GoKit.iconst G (0 : Int32) at_151 rfl (pc' := 152) rfl ?_
    refine GoKit.aload G at_152 rfl rfl (pc' := 154) rfl ?_
    refine GoKit.iconst G (0 : Int32) at_154 rfl (pc' := 155) rfl ?_
    refine GoKit.callVirtualP G at_155 (wi hw 26 rfl) (wi hw 27 rfl) (wi hw 29 rfl) (wi hw 28 rfl) (wi hw 6 rfl) (wi hw 30 rfl) (by decide) S408.1 (W := 2) (argsL := [(.int (0 : Int32))]) (rest := [(.int (0 : Int32)), (.ref a296)]) (con_charAt l hw S408 HC (i := 0) (ch := (80 : Int32)) rfl HF) rfl (lenOf pd_17 rfl) rfl (by decide) (Nat.le_of_eq rfl) (by decide) (by decide) (by decide) (cells' := 3) (slots' := 28) rfl rfl (pc' := 158) rfl ?_
    show Run _ _ _ _ _ _ _ _ _ _ _ _ _ _ _ _ _ _ _ _ (mkF m 158 #[.val (.int p0), .val (.int p1), .val (.int p2), .val (.int p3), .val (.ref a296), .val (.int (4 : Int32)), .val (.int (2 : Int32)), .val (.ref a407), .unset] [(.int (80 : Int32)), (.int (0 : Int32)), (.ref a296)])
    refine GoKit.castI G at_158 (A360.keep K405 nin0) (i := 0) rfl (by decide) (Nat.le_of_ble_eq_true rfl) rfl (List.Mem.head _) (pc' := 159) rfl (fun h411 W409 A410 => ?_)
    change IA Z h411 a296 .char [(80 : Int32), v309, v317, v325, v332, v340, v348, v356] at A410
    refine GoKit.aload G at_159 rfl rfl (pc' := 161) rfl ?_
    have S412 := (Lat.wrI S408 W409 (A360.keep K405 nin0) (by decide) (wi hw 7 rfl))
    refine GoKit.callVirtualP G at_161 (wi hw 13 rfl) (wi hw 14 rfl) (wi hw 16 rfl) (wi hw 15 rfl) (wi hw 6 rfl) (wi hw 17 rfl) (by decide) S412.1 (W := 0) (argsL := []) (rest := []) (con_strlen l hw S412 HC) rfl (lenOf pd_16 rfl) rfl (by decide) (Nat.le_of_eq rfl) (by decide) (by decide) (by decide) (cells' := 3) (slots' := 28) rfl rfl (pc' := 164) rfl ?_
    show Run _ _ _ _ _ _ _ _ _ _ _ _ _ _ _ _ _ _ _ _ (mkF m 164 #[.val (.int p0), .val (.int p1), .val (.int p2), .val (.int p3), .val (.ref a296), .val (.int (4 : Int32)), .val (.int (2 : Int32)), .val (.ref a407), .unset] [(.int (4 : Int32))])
    refine GoKit.iconst G (1 : Int32) at_164 rfl (pc' := 165) rfl ?_
    refine GoKit.icmp_le_f G at_165 (by decide) (pc' := 168) rfl ?_
    refine GoKit.aload G at_168 rfl rfl (pc' := 170) rfl ?_
    refine GoKit.iconst G (1 : Int32) at_170 rfl (pc' := 171) rfl ?_
    refine GoKit.aload G at_171 rfl rfl (pc' := 173) rfl ?_
    refine GoKit.iconst G (1 : Int32) at_173 rfl (pc' := 174) rfl ?_
    refine GoKit.callVirtualP G at_174 (wi hw 26 rfl) (wi hw 27 rfl) (wi hw 29 rfl) (wi hw 28 rfl) (wi hw 6 rfl) (wi hw 30 rfl) (by decide) S412.1 (W := 2) (argsL := [(.int (1 : Int32))]) (rest := [(.int (1 : Int32)), (.ref a296)]) (con_charAt l hw S412 HC (i := 1) (ch := (64 : Int32)) rfl HF) rfl (lenOf pd_17 rfl) rfl (by decide) (Nat.le_of_eq rfl) (by decide) (by decide) (by decide) (cells' := 3) (slots' := 28) rfl rfl (pc' := 177) rfl ?_
    show Run _ _ _ _ _ _ _ _ _ _ _ _ _ _ _ _ _ _ _ _ (mkF m 177 #[.val (.int p0), .val (.int p1), .val (.int p2), .val (.int p3), .val (.ref a296), .val (.int (4 : Int32)), .val (.int (2 : Int32)), .val (.ref a407), .unset] [(.int (64 : Int32)), (.int (1 : Int32)), (.ref a296)])
    refine GoKit.castI G at_177 A410 (i := 1) rfl (by decide) (Nat.le_of_ble_eq_true rfl) rfl (List.Mem.head _) (pc' := 178) rfl (fun h415 W413 A414 => ?_)
    change IA Z h415 a296 .char [(80 : Int32), (64 : Int32), v317, v325, v332, v340, v348, v356] at A414
    refine GoKit.aload G at_178 rfl rfl (pc' := 180) rfl ?_
    have S416 := (Lat.wrI S412 W413 A410 (by decide) (wi hw 7 rfl))
    refine GoKit.callVirtualP G at_180 (wi hw 13 rfl) (wi hw 14 rfl) (wi hw 16 rfl) (wi hw 15 rfl) (wi hw 6 rfl) (wi hw 17 rfl) (by decide) S416.1 (W := 0) (argsL := []) (rest := []) (con_strlen l hw S416 HC) rfl (lenOf pd_16 rfl) rfl (by decide) (Nat.le_of_eq rfl) (by decide) (by decide) (by decide) (cells' := 3) (slots' := 28) rfl rfl (pc' := 183) rfl ?_
    show Run _ _ _ _ _ _ _ _ _ _ _ _ _ _ _ _ _ _ _ _ (mkF m 183 #[.val (.int p0), .val (.int p1), .val (.int p2), .val (.int p3), .val (.ref a296), .val (.int (4 : Int32)), .val (.int (2 : Int32)), .val (.ref a407), .unset] [(.int (4 : Int32))])
    refine GoKit.iconst G (2 : Int32) at_183 rfl (pc' := 184) rfl ?_
    refine GoKit.icmp_le_f G at_184 (by decide) (pc' := 187) rfl ?_
    refine GoKit.aload G at_187 rfl rfl (pc' := 189) rfl ?_
    refine GoKit.iconst G (2 : Int32) at_189 rfl (pc' := 190) rfl ?_
    refine GoKit.aload G at_190 rfl rfl (pc' := 192) rfl ?_
    refine GoKit.iconst G (2 : Int32) at_192 rfl (pc' := 193) rfl ?_
    refine GoKit.callVirtualP G at_193 (wi hw 26 rfl) (wi hw 27 rfl) (wi hw 29 rfl) (wi hw 28 rfl) (wi hw 6 rfl) (wi hw 30 rfl) (by decide) S416.1 (W := 2) (argsL := [(.int (2 : Int32))]) (rest := [(.int (2 : Int32)), (.ref a296)]) (con_charAt l hw S416 HC (i := 2) (ch := (49 : Int32)) rfl HF) rfl (lenOf pd_17 rfl) rfl (by decide) (Nat.le_of_eq rfl) (by decide) (by decide) (by decide) (cells' := 3) (slots' := 28) rfl rfl (pc' := 196) rfl ?_
    show Run _ _ _ _ _ _ _ _ _ _ _ _ _ _ _ _ _ _ _ _ (mkF m 196 #[.val (.int p0), .val (.int p1), .val (.int p2), .val (.int p3), .val (.ref a296), .val (.int (4 : Int32)), .val (.int (2 : Int32)), .val (.ref a407), .unset] [(.int (49 : Int32)), (.int (2 : Int32)), (.ref a296)])
    refine GoKit.castI G at_196 A414 (i := 2) rfl (by decide) (Nat.le_of_ble_eq_true rfl) rfl (List.Mem.head _) (pc' := 197) rfl (fun h419 W417 A418 => ?_)
    change IA Z h419 a296 .char [(80 : Int32), (64 : Int32), (49 : Int32), v325, v332, v340, v348, v356] at A418
    refine GoKit.aload G at_197 rfl rfl (pc' := 199) rfl ?_
    have S420 := (Lat.wrI S416 W417 A414 (by decide) (wi hw 7 rfl))
    refine GoKit.callVirtualP G at_199 (wi hw 13 rfl) (wi hw 14 rfl) (wi hw 16 rfl) (wi hw 15 rfl) (wi hw 6 rfl) (wi hw 17 rfl) (by decide) S420.1 (W := 0) (argsL := []) (rest := []) (con_strlen l hw S420 HC) rfl (lenOf pd_16 rfl) rfl (by decide) (Nat.le_of_eq rfl) (by decide) (by decide) (by decide) (cells' := 3) (slots' := 28) rfl rfl (pc' := 202) rfl ?_
    show Run _ _ _ _ _ _ _ _ _ _ _ _ _ _ _ _ _ _ _ _ (mkF m 202 #[.val (.int p0), .val (.int p1), .val (.int p2), .val (.int p3), .val (.ref a296), .val (.int (4 : Int32)), .val (.int (2 : Int32)), .val (.ref a407), .unset] [(.int (4 : Int32))])
    refine GoKit.iconst G (3 : Int32) at_202 rfl (pc' := 203) rfl ?_
    refine GoKit.icmp_le_f G at_203 (by decide) (pc' := 206) rfl ?_
    refine GoKit.aload G at_206 rfl rfl (pc' := 208) rfl ?_
    refine GoKit.iconst G (3 : Int32) at_208 rfl (pc' := 209) rfl ?_
    refine GoKit.aload G at_209 rfl rfl (pc' := 211) rfl ?_
    refine GoKit.iconst G (3 : Int32) at_211 rfl (pc' := 212) rfl ?_
    refine GoKit.callVirtualP G at_212 (wi hw 26 rfl) (wi hw 27 rfl) (wi hw 29 rfl) (wi hw 28 rfl) (wi hw 6 rfl) (wi hw 30 rfl) (by decide) S420.1 (W := 2) (argsL := [(.int (3 : Int32))]) (rest := [(.int (3 : Int32)), (.ref a296)]) (con_charAt l hw S420 HC (i := 3) (ch := (48 : Int32)) rfl HF) rfl (lenOf pd_17 rfl) rfl (by decide) (Nat.le_of_eq rfl) (by decide) (by decide) (by decide) (cells' := 3) (slots' := 28) rfl rfl (pc' := 215) rfl ?_
    show Run _ _ _ _ _ _ _ _ _ _ _ _ _ _ _ _ _ _ _ _ (mkF m 215 #[.val (.int p0), .val (.int p1), .val (.int p2), .val (.int p3), .val (.ref a296), .val (.int (4 : Int32)), .val (.int (2 : Int32)), .val (.ref a407), .unset] [(.int (48 : Int32)), (.int (3 : Int32)), (.ref a296)])
    refine GoKit.castI G at_215 A418 (i := 3) rfl (by decide) (Nat.le_of_ble_eq_true rfl) rfl (List.Mem.head _) (pc' := 216) rfl (fun h423 W421 A422 => ?_)
    change IA Z h423 a296 .char [(80 : Int32), (64 : Int32), (49 : Int32), (48 : Int32), v332, v340, v348, v356] at A422
    refine GoKit.aload G at_216 rfl rfl (pc' := 218) rfl ?_
    have S424 := (Lat.wrI S420 W421 A418 (by decide) (wi hw 7 rfl))
    refine GoKit.callVirtualP G at_218 (wi hw 13 rfl) (wi hw 14 rfl) (wi hw 16 rfl) (wi hw 15 rfl) (wi hw 6 rfl) (wi hw 17 rfl) (by decide) S424.1 (W := 0) (argsL := []) (rest := []) (con_strlen l hw S424 HC) rfl (lenOf pd_16 rfl) rfl (by decide) (Nat.le_of_eq rfl) (by decide) (by decide) (by decide) (cells' := 3) (slots' := 28) rfl rfl (pc' := 221) rfl ?_
    show Run _ _ _ _ _ _ _ _ _ _ _ _ _ _ _ _ _ _ _ _ (mkF m 221 #[.val (.int p0), .val (.int p1), .val (.int p2), .val (.int p3), .val (.ref a296), .val (.int (4 : Int32)), .val (.int (2 : Int32)), .val (.ref a407), .unset] [(.int (4 : Int32))])
    refine GoKit.iconst G (4 : Int32) at_221 rfl (pc' := 222) rfl ?_
    refine GoKit.icmp_le_t G at_222 (by decide) (by decide) (pc' := 235) rfl ?_
    refine GoKit.aload G at_235 rfl rfl (pc' := 237) rfl ?_
    refine GoKit.callVirtualP G at_237 (wi hw 13 rfl) (wi hw 14 rfl) (wi hw 16 rfl) (wi hw 15 rfl) (wi hw 6 rfl) (wi hw 17 rfl) (by decide) S424.1 (W := 0) (argsL := []) (rest := []) (con_strlen l hw S424 HC) rfl (lenOf pd_16 rfl) rfl (by decide) (Nat.le_of_eq rfl) (by decide) (by decide) (by decide) (cells' := 3) (slots' := 28) rfl rfl (pc' := 240) rfl ?_
    show Run _ _ _ _ _ _ _ _ _ _ _ _ _ _ _ _ _ _ _ _ (mkF m 240 #[.val (.int p0), .val (.int p1), .val (.int p2), .val (.int p3), .val (.ref a296), .val (.int (4 : Int32)), .val (.int (2 : Int32)), .val (.ref a407), .unset] [(.int (4 : Int32))])
    refine GoKit.iconst G (5 : Int32) at_240 rfl (pc' := 241) rfl ?_
    refine GoKit.icmp_le_t G at_241 (by decide) (by decide) (pc' := 254) rfl ?_
    refine GoKit.aload G at_254 rfl rfl (pc' := 256) rfl ?_
    refine GoKit.callVirtualP G at_256 (wi hw 13 rfl) (wi hw 14 rfl) (wi hw 16 rfl) (wi hw 15 rfl) (wi hw 6 rfl) (wi hw 17 rfl) (by decide) S424.1 (W := 0) (argsL := []) (rest := []) (con_strlen l hw S424 HC) rfl (lenOf pd_16 rfl) rfl (by decide) (Nat.le_of_eq rfl) (by decide) (by decide) (by decide) (cells' := 3) (slots' := 28) rfl rfl (pc' := 259) rfl ?_
    show Run _ _ _ _ _ _ _ _ _ _ _ _ _ _ _ _ _ _ _ _ (mkF m 259 #[.val (.int p0), .val (.int p1), .val (.int p2), .val (.int p3), .val (.ref a296), .val (.int (4 : Int32)), .val (.int (2 : Int32)), .val (.ref a407), .unset] [(.int (4 : Int32))])
    refine GoKit.bipush G (6 : Int32) at_259 rfl (pc' := 261) rfl ?_
    refine GoKit.icmp_le_t G at_261 (by decide) (by decide) (pc' := 276) rfl ?_
    have hl425 : ∀ c ∈ ([(80 : Int32), (64 : Int32), (49 : Int32), (48 : Int32), v332, v340, v348, v356] : List Int32), 0 ≤ c.toInt ∧ c.toInt < 256 := by
      intro c hc
      simp only [List.mem_cons, List.not_mem_nil, or_false] at hc
      rcases hc with hc | hc | hc | hc | hc | hc | hc | hc
      · rw [hc]; exact (by decide)
      · rw [hc]; exact (by decide)
      · rw [hc]; exact (by decide)
      · rw [hc]; exact (by decide)
      · rw [hc]; exact l333
      · rw [hc]; exact l341
      · rw [hc]; exact l349
      · rw [hc]; exact l357
    refine Run.mono (cells' := 3) (slots' := 44) (by decide) (by decide) ?_
    refine Run.owless (ow' := [a296]) (by intro x hx; simp only [List.mem_cons, List.not_mem_nil, or_false] at hx ⊢; simp [hx]) ?_
    exact J1 _ _ _ _ _ _ A422 rfl hl425 (by decide) (Or.inr ⟨_, rfl, rfl⟩)
  · refine GoKit.istore G at_118 (Ls' := #[.val (.int p0), .val (.int p1), .val (.int p2), .val (.int p3), .val (.ref a296), .val (.int v362), .val (.int (3 : Int32)), .unset, .unset]) rfl (pc' := 120) rfl ?_
    refine GoKit.iload G at_120 rfl (pc' := 122) rfl ?_
    refine GoKit.bipush G (6 : Int32) at_122 rfl (pc' := 124) rfl ?_
    refine GoKit.icmp_ge_f G at_124 (by decide) (pc' := 127) rfl ?_
    refine GoKit.iload G at_127 rfl (pc' := 129) rfl ?_
    refine GoKit.callStatic G at_129 (wi hw 1 rfl) (wi hw 2 rfl) (wi hw 3 rfl) (wi hw 4 rfl) (by decide) (owc := []) (W := 0) (argsL := [(.int (3 : Int32))]) (rest := []) (con_text3 l hw) rfl (lenOf pd_15 rfl) rfl (by decide) (Nat.le_of_eq rfl) (by decide) (by decide) (by decide) (fun _ q => nomatch q) (cells' := 3) (slots' := 40) rfl rfl (pc' := 132) rfl (fun r426 h429 q427 K428 => ?_)
    obtain ⟨a430, rfl, S431⟩ := q427
    show Run _ _ _ _ _ _ _ _ _ _ _ _ _ _ _ _ _ _ _ _ (mkF m 132 #[.val (.int p0), .val (.int p1), .val (.int p2), .val (.int p3), .val (.ref a296), .val (.int v362), .val (.int (3 : Int32)), .unset, .unset] [(.ref a430)])
    refine GoKit.astore G at_132 rfl (Ls' := #[.val (.int p0), .val (.int p1), .val (.int p2), .val (.int p3), .val (.ref a296), .val (.int v362), .val (.int (3 : Int32)), .val (.ref a430), .unset]) rfl (pc' := 134) rfl ?_
    refine GoKit.aload G at_134 rfl rfl (pc' := 136) rfl ?_
    refine GoKit.callVirtualP G at_136 (wi hw 13 rfl) (wi hw 14 rfl) (wi hw 16 rfl) (wi hw 15 rfl) (wi hw 6 rfl) (wi hw 17 rfl) (by decide) S431.1 (W := 0) (argsL := []) (rest := []) (con_strlen l hw S431 HC) rfl (lenOf pd_16 rfl) rfl (by decide) (Nat.le_of_eq rfl) (by decide) (by decide) (by decide) (cells' := 3) (slots' := 40) rfl rfl (pc' := 139) rfl ?_
    show Run _ _ _ _ _ _ _ _ _ _ _ _ _ _ _ _ _ _ _ _ (mkF m 139 #[.val (.int p0), .val (.int p1), .val (.int p2), .val (.int p3), .val (.ref a296), .val (.int v362), .val (.int (3 : Int32)), .val (.ref a430), .unset] [(.int (7 : Int32))])
    refine GoKit.istore G at_139 (Ls' := #[.val (.int p0), .val (.int p1), .val (.int p2), .val (.int p3), .val (.ref a296), .val (.int (7 : Int32)), .val (.int (3 : Int32)), .val (.ref a430), .unset]) rfl (pc' := 141) rfl ?_
    refine GoKit.aload G at_141 rfl rfl (pc' := 143) rfl ?_
    refine GoKit.callVirtualP G at_143 (wi hw 13 rfl) (wi hw 14 rfl) (wi hw 16 rfl) (wi hw 15 rfl) (wi hw 6 rfl) (wi hw 17 rfl) (by decide) S431.1 (W := 0) (argsL := []) (rest := []) (con_strlen l hw S431 HC) rfl (lenOf pd_16 rfl) rfl (by decide) (Nat.le_of_eq rfl) (by decide) (by decide) (by decide) (cells' := 3) (slots' := 40) rfl rfl (pc' := 146) rfl ?_
    show Run _ _ _ _ _ _ _ _ _ _ _ _ _ _ _ _ _ _ _ _ (mkF m 146 #[.val (.int p0), .val (.int p1), .val (.int p2), .val (.int p3), .val (.ref a296), .val (.int (7 : Int32)), .val (.int (3 : Int32)), .val (.ref a430), .unset] [(.int (7 : Int32))])
    refine GoKit.if_le_f G at_146 (by decide) (pc' := 149) rfl ?_
    refine GoKit.aload G at_149 rfl rfl (pc' := 151) rfl ?_
    refine GoKit.iconst G (0 : Int32) at_151 rfl (pc' := 152) rfl ?_
    refine GoKit.aload G at_152 rfl rfl (pc' := 154) rfl ?_
    refine GoKit.iconst G (0 : Int32) at_154 rfl (pc' := 155) rfl ?_
    refine GoKit.callVirtualP G at_155 (wi hw 26 rfl) (wi hw 27 rfl) (wi hw 29 rfl) (wi hw 28 rfl) (wi hw 6 rfl) (wi hw 30 rfl) (by decide) S431.1 (W := 2) (argsL := [(.int (0 : Int32))]) (rest := [(.int (0 : Int32)), (.ref a296)]) (con_charAt l hw S431 HC (i := 0) (ch := (110 : Int32)) rfl HF) rfl (lenOf pd_17 rfl) rfl (by decide) (Nat.le_of_eq rfl) (by decide) (by decide) (by decide) (cells' := 3) (slots' := 40) rfl rfl (pc' := 158) rfl ?_
    show Run _ _ _ _ _ _ _ _ _ _ _ _ _ _ _ _ _ _ _ _ (mkF m 158 #[.val (.int p0), .val (.int p1), .val (.int p2), .val (.int p3), .val (.ref a296), .val (.int (7 : Int32)), .val (.int (3 : Int32)), .val (.ref a430), .unset] [(.int (110 : Int32)), (.int (0 : Int32)), (.ref a296)])
    refine GoKit.castI G at_158 (A360.keep K428 nin0) (i := 0) rfl (by decide) (Nat.le_of_ble_eq_true rfl) rfl (List.Mem.head _) (pc' := 159) rfl (fun h434 W432 A433 => ?_)
    change IA Z h434 a296 .char [(110 : Int32), v309, v317, v325, v332, v340, v348, v356] at A433
    refine GoKit.aload G at_159 rfl rfl (pc' := 161) rfl ?_
    have S435 := (Lat.wrI S431 W432 (A360.keep K428 nin0) (by decide) (wi hw 7 rfl))
    refine GoKit.callVirtualP G at_161 (wi hw 13 rfl) (wi hw 14 rfl) (wi hw 16 rfl) (wi hw 15 rfl) (wi hw 6 rfl) (wi hw 17 rfl) (by decide) S435.1 (W := 0) (argsL := []) (rest := []) (con_strlen l hw S435 HC) rfl (lenOf pd_16 rfl) rfl (by decide) (Nat.le_of_eq rfl) (by decide) (by decide) (by decide) (cells' := 3) (slots' := 40) rfl rfl (pc' := 164) rfl ?_
    show Run _ _ _ _ _ _ _ _ _ _ _ _ _ _ _ _ _ _ _ _ (mkF m 164 #[.val (.int p0), .val (.int p1), .val (.int p2), .val (.int p3), .val (.ref a296), .val (.int (7 : Int32)), .val (.int (3 : Int32)), .val (.ref a430), .unset] [(.int (7 : Int32))])
    refine GoKit.iconst G (1 : Int32) at_164 rfl (pc' := 165) rfl ?_
    refine GoKit.icmp_le_f G at_165 (by decide) (pc' := 168) rfl ?_
    refine GoKit.aload G at_168 rfl rfl (pc' := 170) rfl ?_
    refine GoKit.iconst G (1 : Int32) at_170 rfl (pc' := 171) rfl ?_
    refine GoKit.aload G at_171 rfl rfl (pc' := 173) rfl ?_
    refine GoKit.iconst G (1 : Int32) at_173 rfl (pc' := 174) rfl ?_
    refine GoKit.callVirtualP G at_174 (wi hw 26 rfl) (wi hw 27 rfl) (wi hw 29 rfl) (wi hw 28 rfl) (wi hw 6 rfl) (wi hw 30 rfl) (by decide) S435.1 (W := 2) (argsL := [(.int (1 : Int32))]) (rest := [(.int (1 : Int32)), (.ref a296)]) (con_charAt l hw S435 HC (i := 1) (ch := (68 : Int32)) rfl HF) rfl (lenOf pd_17 rfl) rfl (by decide) (Nat.le_of_eq rfl) (by decide) (by decide) (by decide) (cells' := 3) (slots' := 40) rfl rfl (pc' := 177) rfl ?_
    show Run _ _ _ _ _ _ _ _ _ _ _ _ _ _ _ _ _ _ _ _ (mkF m 177 #[.val (.int p0), .val (.int p1), .val (.int p2), .val (.int p3), .val (.ref a296), .val (.int (7 : Int32)), .val (.int (3 : Int32)), .val (.ref a430), .unset] [(.int (68 : Int32)), (.int (1 : Int32)), (.ref a296)])
    refine GoKit.castI G at_177 A433 (i := 1) rfl (by decide) (Nat.le_of_ble_eq_true rfl) rfl (List.Mem.head _) (pc' := 178) rfl (fun h438 W436 A437 => ?_)
    change IA Z h438 a296 .char [(110 : Int32), (68 : Int32), v317, v325, v332, v340, v348, v356] at A437
    refine GoKit.aload G at_178 rfl rfl (pc' := 180) rfl ?_
    have S439 := (Lat.wrI S435 W436 A433 (by decide) (wi hw 7 rfl))
    refine GoKit.callVirtualP G at_180 (wi hw 13 rfl) (wi hw 14 rfl) (wi hw 16 rfl) (wi hw 15 rfl) (wi hw 6 rfl) (wi hw 17 rfl) (by decide) S439.1 (W := 0) (argsL := []) (rest := []) (con_strlen l hw S439 HC) rfl (lenOf pd_16 rfl) rfl (by decide) (Nat.le_of_eq rfl) (by decide) (by decide) (by decide) (cells' := 3) (slots' := 40) rfl rfl (pc' := 183) rfl ?_
    show Run _ _ _ _ _ _ _ _ _ _ _ _ _ _ _ _ _ _ _ _ (mkF m 183 #[.val (.int p0), .val (.int p1), .val (.int p2), .val (.int p3), .val (.ref a296), .val (.int (7 : Int32)), .val (.int (3 : Int32)), .val (.ref a430), .unset] [(.int (7 : Int32))])
    refine GoKit.iconst G (2 : Int32) at_183 rfl (pc' := 184) rfl ?_
    refine GoKit.icmp_le_f G at_184 (by decide) (pc' := 187) rfl ?_
    refine GoKit.aload G at_187 rfl rfl (pc' := 189) rfl ?_
    refine GoKit.iconst G (2 : Int32) at_189 rfl (pc' := 190) rfl ?_
    refine GoKit.aload G at_190 rfl rfl (pc' := 192) rfl ?_
    refine GoKit.iconst G (2 : Int32) at_192 rfl (pc' := 193) rfl ?_
    refine GoKit.callVirtualP G at_193 (wi hw 26 rfl) (wi hw 27 rfl) (wi hw 29 rfl) (wi hw 28 rfl) (wi hw 6 rfl) (wi hw 30 rfl) (by decide) S439.1 (W := 2) (argsL := [(.int (2 : Int32))]) (rest := [(.int (2 : Int32)), (.ref a296)]) (con_charAt l hw S439 HC (i := 2) (ch := (67 : Int32)) rfl HF) rfl (lenOf pd_17 rfl) rfl (by decide) (Nat.le_of_eq rfl) (by decide) (by decide) (by decide) (cells' := 3) (slots' := 40) rfl rfl (pc' := 196) rfl ?_
    show Run _ _ _ _ _ _ _ _ _ _ _ _ _ _ _ _ _ _ _ _ (mkF m 196 #[.val (.int p0), .val (.int p1), .val (.int p2), .val (.int p3), .val (.ref a296), .val (.int (7 : Int32)), .val (.int (3 : Int32)), .val (.ref a430), .unset] [(.int (67 : Int32)), (.int (2 : Int32)), (.ref a296)])
    refine GoKit.castI G at_196 A437 (i := 2) rfl (by decide) (Nat.le_of_ble_eq_true rfl) rfl (List.Mem.head _) (pc' := 197) rfl (fun h442 W440 A441 => ?_)
    change IA Z h442 a296 .char [(110 : Int32), (68 : Int32), (67 : Int32), v325, v332, v340, v348, v356] at A441
    refine GoKit.aload G at_197 rfl rfl (pc' := 199) rfl ?_
    have S443 := (Lat.wrI S439 W440 A437 (by decide) (wi hw 7 rfl))
    refine GoKit.callVirtualP G at_199 (wi hw 13 rfl) (wi hw 14 rfl) (wi hw 16 rfl) (wi hw 15 rfl) (wi hw 6 rfl) (wi hw 17 rfl) (by decide) S443.1 (W := 0) (argsL := []) (rest := []) (con_strlen l hw S443 HC) rfl (lenOf pd_16 rfl) rfl (by decide) (Nat.le_of_eq rfl) (by decide) (by decide) (by decide) (cells' := 3) (slots' := 40) rfl rfl (pc' := 202) rfl ?_
    show Run _ _ _ _ _ _ _ _ _ _ _ _ _ _ _ _ _ _ _ _ (mkF m 202 #[.val (.int p0), .val (.int p1), .val (.int p2), .val (.int p3), .val (.ref a296), .val (.int (7 : Int32)), .val (.int (3 : Int32)), .val (.ref a430), .unset] [(.int (7 : Int32))])
    refine GoKit.iconst G (3 : Int32) at_202 rfl (pc' := 203) rfl ?_
    refine GoKit.icmp_le_f G at_203 (by decide) (pc' := 206) rfl ?_
    refine GoKit.aload G at_206 rfl rfl (pc' := 208) rfl ?_
    refine GoKit.iconst G (3 : Int32) at_208 rfl (pc' := 209) rfl ?_
    refine GoKit.aload G at_209 rfl rfl (pc' := 211) rfl ?_
    refine GoKit.iconst G (3 : Int32) at_211 rfl (pc' := 212) rfl ?_
    refine GoKit.callVirtualP G at_212 (wi hw 26 rfl) (wi hw 27 rfl) (wi hw 29 rfl) (wi hw 28 rfl) (wi hw 6 rfl) (wi hw 30 rfl) (by decide) S443.1 (W := 2) (argsL := [(.int (3 : Int32))]) (rest := [(.int (3 : Int32)), (.ref a296)]) (con_charAt l hw S443 HC (i := 3) (ch := (71 : Int32)) rfl HF) rfl (lenOf pd_17 rfl) rfl (by decide) (Nat.le_of_eq rfl) (by decide) (by decide) (by decide) (cells' := 3) (slots' := 40) rfl rfl (pc' := 215) rfl ?_
    show Run _ _ _ _ _ _ _ _ _ _ _ _ _ _ _ _ _ _ _ _ (mkF m 215 #[.val (.int p0), .val (.int p1), .val (.int p2), .val (.int p3), .val (.ref a296), .val (.int (7 : Int32)), .val (.int (3 : Int32)), .val (.ref a430), .unset] [(.int (71 : Int32)), (.int (3 : Int32)), (.ref a296)])
    refine GoKit.castI G at_215 A441 (i := 3) rfl (by decide) (Nat.le_of_ble_eq_true rfl) rfl (List.Mem.head _) (pc' := 216) rfl (fun h446 W444 A445 => ?_)
    change IA Z h446 a296 .char [(110 : Int32), (68 : Int32), (67 : Int32), (71 : Int32), v332, v340, v348, v356] at A445
    refine GoKit.aload G at_216 rfl rfl (pc' := 218) rfl ?_
    have S447 := (Lat.wrI S443 W444 A441 (by decide) (wi hw 7 rfl))
    refine GoKit.callVirtualP G at_218 (wi hw 13 rfl) (wi hw 14 rfl) (wi hw 16 rfl) (wi hw 15 rfl) (wi hw 6 rfl) (wi hw 17 rfl) (by decide) S447.1 (W := 0) (argsL := []) (rest := []) (con_strlen l hw S447 HC) rfl (lenOf pd_16 rfl) rfl (by decide) (Nat.le_of_eq rfl) (by decide) (by decide) (by decide) (cells' := 3) (slots' := 40) rfl rfl (pc' := 221) rfl ?_
    show Run _ _ _ _ _ _ _ _ _ _ _ _ _ _ _ _ _ _ _ _ (mkF m 221 #[.val (.int p0), .val (.int p1), .val (.int p2), .val (.int p3), .val (.ref a296), .val (.int (7 : Int32)), .val (.int (3 : Int32)), .val (.ref a430), .unset] [(.int (7 : Int32))])
    refine GoKit.iconst G (4 : Int32) at_221 rfl (pc' := 222) rfl ?_
    refine GoKit.icmp_le_f G at_222 (by decide) (pc' := 225) rfl ?_
    refine GoKit.aload G at_225 rfl rfl (pc' := 227) rfl ?_
    refine GoKit.iconst G (4 : Int32) at_227 rfl (pc' := 228) rfl ?_
    refine GoKit.aload G at_228 rfl rfl (pc' := 230) rfl ?_
    refine GoKit.iconst G (4 : Int32) at_230 rfl (pc' := 231) rfl ?_
    refine GoKit.callVirtualP G at_231 (wi hw 26 rfl) (wi hw 27 rfl) (wi hw 29 rfl) (wi hw 28 rfl) (wi hw 6 rfl) (wi hw 30 rfl) (by decide) S447.1 (W := 2) (argsL := [(.int (4 : Int32))]) (rest := [(.int (4 : Int32)), (.ref a296)]) (con_charAt l hw S447 HC (i := 4) (ch := (64 : Int32)) rfl HF) rfl (lenOf pd_17 rfl) rfl (by decide) (Nat.le_of_eq rfl) (by decide) (by decide) (by decide) (cells' := 3) (slots' := 40) rfl rfl (pc' := 234) rfl ?_
    show Run _ _ _ _ _ _ _ _ _ _ _ _ _ _ _ _ _ _ _ _ (mkF m 234 #[.val (.int p0), .val (.int p1), .val (.int p2), .val (.int p3), .val (.ref a296), .val (.int (7 : Int32)), .val (.int (3 : Int32)), .val (.ref a430), .unset] [(.int (64 : Int32)), (.int (4 : Int32)), (.ref a296)])
    refine GoKit.castI G at_234 A445 (i := 4) rfl (by decide) (Nat.le_of_ble_eq_true rfl) rfl (List.Mem.head _) (pc' := 235) rfl (fun h450 W448 A449 => ?_)
    change IA Z h450 a296 .char [(110 : Int32), (68 : Int32), (67 : Int32), (71 : Int32), (64 : Int32), v340, v348, v356] at A449
    refine GoKit.aload G at_235 rfl rfl (pc' := 237) rfl ?_
    have S451 := (Lat.wrI S447 W448 A445 (by decide) (wi hw 7 rfl))
    refine GoKit.callVirtualP G at_237 (wi hw 13 rfl) (wi hw 14 rfl) (wi hw 16 rfl) (wi hw 15 rfl) (wi hw 6 rfl) (wi hw 17 rfl) (by decide) S451.1 (W := 0) (argsL := []) (rest := []) (con_strlen l hw S451 HC) rfl (lenOf pd_16 rfl) rfl (by decide) (Nat.le_of_eq rfl) (by decide) (by decide) (by decide) (cells' := 3) (slots' := 40) rfl rfl (pc' := 240) rfl ?_
    show Run _ _ _ _ _ _ _ _ _ _ _ _ _ _ _ _ _ _ _ _ (mkF m 240 #[.val (.int p0), .val (.int p1), .val (.int p2), .val (.int p3), .val (.ref a296), .val (.int (7 : Int32)), .val (.int (3 : Int32)), .val (.ref a430), .unset] [(.int (7 : Int32))])
    refine GoKit.iconst G (5 : Int32) at_240 rfl (pc' := 241) rfl ?_
    refine GoKit.icmp_le_f G at_241 (by decide) (pc' := 244) rfl ?_
    refine GoKit.aload G at_244 rfl rfl (pc' := 246) rfl ?_
    refine GoKit.iconst G (5 : Int32) at_246 rfl (pc' := 247) rfl ?_
    refine GoKit.aload G at_247 rfl rfl (pc' := 249) rfl ?_
    refine GoKit.iconst G (5 : Int32) at_249 rfl (pc' := 250) rfl ?_
    refine GoKit.callVirtualP G at_250 (wi hw 26 rfl) (wi hw 27 rfl) (wi hw 29 rfl) (wi hw 28 rfl) (wi hw 6 rfl) (wi hw 30 rfl) (by decide) S451.1 (W := 2) (argsL := [(.int (5 : Int32))]) (rest := [(.int (5 : Int32)), (.ref a296)]) (con_charAt l hw S451 HC (i := 5) (ch := (49 : Int32)) rfl HF) rfl (lenOf pd_17 rfl) rfl (by decide) (Nat.le_of_eq rfl) (by decide) (by decide) (by decide) (cells' := 3) (slots' := 40) rfl rfl (pc' := 253) rfl ?_
    show Run _ _ _ _ _ _ _ _ _ _ _ _ _ _ _ _ _ _ _ _ (mkF m 253 #[.val (.int p0), .val (.int p1), .val (.int p2), .val (.int p3), .val (.ref a296), .val (.int (7 : Int32)), .val (.int (3 : Int32)), .val (.ref a430), .unset] [(.int (49 : Int32)), (.int (5 : Int32)), (.ref a296)])
    refine GoKit.castI G at_253 A449 (i := 5) rfl (by decide) (Nat.le_of_ble_eq_true rfl) rfl (List.Mem.head _) (pc' := 254) rfl (fun h454 W452 A453 => ?_)
    change IA Z h454 a296 .char [(110 : Int32), (68 : Int32), (67 : Int32), (71 : Int32), (64 : Int32), (49 : Int32), v348, v356] at A453
    refine GoKit.aload G at_254 rfl rfl (pc' := 256) rfl ?_
    have S455 := (Lat.wrI S451 W452 A449 (by decide) (wi hw 7 rfl))
    refine GoKit.callVirtualP G at_256 (wi hw 13 rfl) (wi hw 14 rfl) (wi hw 16 rfl) (wi hw 15 rfl) (wi hw 6 rfl) (wi hw 17 rfl) (by decide) S455.1 (W := 0) (argsL := []) (rest := []) (con_strlen l hw S455 HC) rfl (lenOf pd_16 rfl) rfl (by decide) (Nat.le_of_eq rfl) (by decide) (by decide) (by decide) (cells' := 3) (slots' := 40) rfl rfl (pc' := 259) rfl ?_
    show Run _ _ _ _ _ _ _ _ _ _ _ _ _ _ _ _ _ _ _ _ (mkF m 259 #[.val (.int p0), .val (.int p1), .val (.int p2), .val (.int p3), .val (.ref a296), .val (.int (7 : Int32)), .val (.int (3 : Int32)), .val (.ref a430), .unset] [(.int (7 : Int32))])
    refine GoKit.bipush G (6 : Int32) at_259 rfl (pc' := 261) rfl ?_
    refine GoKit.icmp_le_f G at_261 (by decide) (pc' := 264) rfl ?_
    refine GoKit.aload G at_264 rfl rfl (pc' := 266) rfl ?_
    refine GoKit.bipush G (6 : Int32) at_266 rfl (pc' := 268) rfl ?_
    refine GoKit.aload G at_268 rfl rfl (pc' := 270) rfl ?_
    refine GoKit.bipush G (6 : Int32) at_270 rfl (pc' := 272) rfl ?_
    refine GoKit.callVirtualP G at_272 (wi hw 26 rfl) (wi hw 27 rfl) (wi hw 29 rfl) (wi hw 28 rfl) (wi hw 6 rfl) (wi hw 30 rfl) (by decide) S455.1 (W := 2) (argsL := [(.int (6 : Int32))]) (rest := [(.int (6 : Int32)), (.ref a296)]) (con_charAt l hw S455 HC (i := 6) (ch := (48 : Int32)) rfl HF) rfl (lenOf pd_17 rfl) rfl (by decide) (Nat.le_of_eq rfl) (by decide) (by decide) (by decide) (cells' := 3) (slots' := 40) rfl rfl (pc' := 275) rfl ?_
    show Run _ _ _ _ _ _ _ _ _ _ _ _ _ _ _ _ _ _ _ _ (mkF m 275 #[.val (.int p0), .val (.int p1), .val (.int p2), .val (.int p3), .val (.ref a296), .val (.int (7 : Int32)), .val (.int (3 : Int32)), .val (.ref a430), .unset] [(.int (48 : Int32)), (.int (6 : Int32)), (.ref a296)])
    refine GoKit.castI G at_275 A453 (i := 6) rfl (by decide) (Nat.le_of_ble_eq_true rfl) rfl (List.Mem.head _) (pc' := 276) rfl (fun h458 W456 A457 => ?_)
    change IA Z h458 a296 .char [(110 : Int32), (68 : Int32), (67 : Int32), (71 : Int32), (64 : Int32), (49 : Int32), (48 : Int32), v356] at A457
    have hl459 : ∀ c ∈ ([(110 : Int32), (68 : Int32), (67 : Int32), (71 : Int32), (64 : Int32), (49 : Int32), (48 : Int32), v356] : List Int32), 0 ≤ c.toInt ∧ c.toInt < 256 := by
      intro c hc
      simp only [List.mem_cons, List.not_mem_nil, or_false] at hc
      rcases hc with hc | hc | hc | hc | hc | hc | hc | hc
      · rw [hc]; exact (by decide)
      · rw [hc]; exact (by decide)
      · rw [hc]; exact (by decide)
      · rw [hc]; exact (by decide)
      · rw [hc]; exact (by decide)
      · rw [hc]; exact (by decide)
      · rw [hc]; exact (by decide)
      · rw [hc]; exact l357
    refine Run.mono (cells' := 3) (slots' := 44) (by decide) (by decide) ?_
    refine Run.owless (ow' := [a296]) (by intro x hx; simp only [List.mem_cons, List.not_mem_nil, or_false] at hx ⊢; simp [hx]) ?_
    exact J1 _ _ _ _ _ _ A457 rfl hl459 (by decide) (Or.inr ⟨_, rfl, rfl⟩)
  · refine GoKit.istore G at_118 (Ls' := #[.val (.int p0), .val (.int p1), .val (.int p2), .val (.int p3), .val (.ref a296), .val (.int v362), .val (.int (4 : Int32)), .unset, .unset]) rfl (pc' := 120) rfl ?_
    refine GoKit.iload G at_120 rfl (pc' := 122) rfl ?_
    refine GoKit.bipush G (6 : Int32) at_122 rfl (pc' := 124) rfl ?_
    refine GoKit.icmp_ge_f G at_124 (by decide) (pc' := 127) rfl ?_
    refine GoKit.iload G at_127 rfl (pc' := 129) rfl ?_
    refine GoKit.callStatic G at_129 (wi hw 1 rfl) (wi hw 2 rfl) (wi hw 3 rfl) (wi hw 4 rfl) (by decide) (owc := []) (W := 0) (argsL := [(.int (4 : Int32))]) (rest := []) (con_text4 l hw) rfl (lenOf pd_15 rfl) rfl (by decide) (Nat.le_of_eq rfl) (by decide) (by decide) (by decide) (fun _ q => nomatch q) (cells' := 3) (slots' := 28) rfl rfl (pc' := 132) rfl (fun r460 h463 q461 K462 => ?_)
    obtain ⟨a464, rfl, S465⟩ := q461
    show Run _ _ _ _ _ _ _ _ _ _ _ _ _ _ _ _ _ _ _ _ (mkF m 132 #[.val (.int p0), .val (.int p1), .val (.int p2), .val (.int p3), .val (.ref a296), .val (.int v362), .val (.int (4 : Int32)), .unset, .unset] [(.ref a464)])
    refine GoKit.astore G at_132 rfl (Ls' := #[.val (.int p0), .val (.int p1), .val (.int p2), .val (.int p3), .val (.ref a296), .val (.int v362), .val (.int (4 : Int32)), .val (.ref a464), .unset]) rfl (pc' := 134) rfl ?_
    refine GoKit.aload G at_134 rfl rfl (pc' := 136) rfl ?_
    refine GoKit.callVirtualP G at_136 (wi hw 13 rfl) (wi hw 14 rfl) (wi hw 16 rfl) (wi hw 15 rfl) (wi hw 6 rfl) (wi hw 17 rfl) (by decide) S465.1 (W := 0) (argsL := []) (rest := []) (con_strlen l hw S465 HC) rfl (lenOf pd_16 rfl) rfl (by decide) (Nat.le_of_eq rfl) (by decide) (by decide) (by decide) (cells' := 3) (slots' := 28) rfl rfl (pc' := 139) rfl ?_
    show Run _ _ _ _ _ _ _ _ _ _ _ _ _ _ _ _ _ _ _ _ (mkF m 139 #[.val (.int p0), .val (.int p1), .val (.int p2), .val (.int p3), .val (.ref a296), .val (.int v362), .val (.int (4 : Int32)), .val (.ref a464), .unset] [(.int (4 : Int32))])
    refine GoKit.istore G at_139 (Ls' := #[.val (.int p0), .val (.int p1), .val (.int p2), .val (.int p3), .val (.ref a296), .val (.int (4 : Int32)), .val (.int (4 : Int32)), .val (.ref a464), .unset]) rfl (pc' := 141) rfl ?_
    refine GoKit.aload G at_141 rfl rfl (pc' := 143) rfl ?_
    refine GoKit.callVirtualP G at_143 (wi hw 13 rfl) (wi hw 14 rfl) (wi hw 16 rfl) (wi hw 15 rfl) (wi hw 6 rfl) (wi hw 17 rfl) (by decide) S465.1 (W := 0) (argsL := []) (rest := []) (con_strlen l hw S465 HC) rfl (lenOf pd_16 rfl) rfl (by decide) (Nat.le_of_eq rfl) (by decide) (by decide) (by decide) (cells' := 3) (slots' := 28) rfl rfl (pc' := 146) rfl ?_
    show Run _ _ _ _ _ _ _ _ _ _ _ _ _ _ _ _ _ _ _ _ (mkF m 146 #[.val (.int p0), .val (.int p1), .val (.int p2), .val (.int p3), .val (.ref a296), .val (.int (4 : Int32)), .val (.int (4 : Int32)), .val (.ref a464), .unset] [(.int (4 : Int32))])
    refine GoKit.if_le_f G at_146 (by decide) (pc' := 149) rfl ?_
    refine GoKit.aload G at_149 rfl rfl (pc' := 151) rfl ?_
    refine GoKit.iconst G (0 : Int32) at_151 rfl (pc' := 152) rfl ?_
    refine GoKit.aload G at_152 rfl rfl (pc' := 154) rfl ?_
    refine GoKit.iconst G (0 : Int32) at_154 rfl (pc' := 155) rfl ?_
    refine GoKit.callVirtualP G at_155 (wi hw 26 rfl) (wi hw 27 rfl) (wi hw 29 rfl) (wi hw 28 rfl) (wi hw 6 rfl) (wi hw 30 rfl) (by decide) S465.1 (W := 2) (argsL := [(.int (0 : Int32))]) (rest := [(.int (0 : Int32)), (.ref a296)]) (con_charAt l hw S465 HC (i := 0) (ch := (82 : Int32)) rfl HF) rfl (lenOf pd_17 rfl) rfl (by decide) (Nat.le_of_eq rfl) (by decide) (by decide) (by decide) (cells' := 3) (slots' := 28) rfl rfl (pc' := 158) rfl ?_
    show Run _ _ _ _ _ _ _ _ _ _ _ _ _ _ _ _ _ _ _ _ (mkF m 158 #[.val (.int p0), .val (.int p1), .val (.int p2), .val (.int p3), .val (.ref a296), .val (.int (4 : Int32)), .val (.int (4 : Int32)), .val (.ref a464), .unset] [(.int (82 : Int32)), (.int (0 : Int32)), (.ref a296)])
    refine GoKit.castI G at_158 (A360.keep K462 nin0) (i := 0) rfl (by decide) (Nat.le_of_ble_eq_true rfl) rfl (List.Mem.head _) (pc' := 159) rfl (fun h468 W466 A467 => ?_)
    change IA Z h468 a296 .char [(82 : Int32), v309, v317, v325, v332, v340, v348, v356] at A467
    refine GoKit.aload G at_159 rfl rfl (pc' := 161) rfl ?_
    have S469 := (Lat.wrI S465 W466 (A360.keep K462 nin0) (by decide) (wi hw 7 rfl))
    refine GoKit.callVirtualP G at_161 (wi hw 13 rfl) (wi hw 14 rfl) (wi hw 16 rfl) (wi hw 15 rfl) (wi hw 6 rfl) (wi hw 17 rfl) (by decide) S469.1 (W := 0) (argsL := []) (rest := []) (con_strlen l hw S469 HC) rfl (lenOf pd_16 rfl) rfl (by decide) (Nat.le_of_eq rfl) (by decide) (by decide) (by decide) (cells' := 3) (slots' := 28) rfl rfl (pc' := 164) rfl ?_
    show Run _ _ _ _ _ _ _ _ _ _ _ _ _ _ _ _ _ _ _ _ (mkF m 164 #[.val (.int p0), .val (.int p1), .val (.int p2), .val (.int p3), .val (.ref a296), .val (.int (4 : Int32)), .val (.int (4 : Int32)), .val (.ref a464), .unset] [(.int (4 : Int32))])
    refine GoKit.iconst G (1 : Int32) at_164 rfl (pc' := 165) rfl ?_
    refine GoKit.icmp_le_f G at_165 (by decide) (pc' := 168) rfl ?_
    refine GoKit.aload G at_168 rfl rfl (pc' := 170) rfl ?_
    refine GoKit.iconst G (1 : Int32) at_170 rfl (pc' := 171) rfl ?_
    refine GoKit.aload G at_171 rfl rfl (pc' := 173) rfl ?_
    refine GoKit.iconst G (1 : Int32) at_173 rfl (pc' := 174) rfl ?_
    refine GoKit.callVirtualP G at_174 (wi hw 26 rfl) (wi hw 27 rfl) (wi hw 29 rfl) (wi hw 28 rfl) (wi hw 6 rfl) (wi hw 30 rfl) (by decide) S469.1 (W := 2) (argsL := [(.int (1 : Int32))]) (rest := [(.int (1 : Int32)), (.ref a296)]) (con_charAt l hw S469 HC (i := 1) (ch := (64 : Int32)) rfl HF) rfl (lenOf pd_17 rfl) rfl (by decide) (Nat.le_of_eq rfl) (by decide) (by decide) (by decide) (cells' := 3) (slots' := 28) rfl rfl (pc' := 177) rfl ?_
    show Run _ _ _ _ _ _ _ _ _ _ _ _ _ _ _ _ _ _ _ _ (mkF m 177 #[.val (.int p0), .val (.int p1), .val (.int p2), .val (.int p3), .val (.ref a296), .val (.int (4 : Int32)), .val (.int (4 : Int32)), .val (.ref a464), .unset] [(.int (64 : Int32)), (.int (1 : Int32)), (.ref a296)])
    refine GoKit.castI G at_177 A467 (i := 1) rfl (by decide) (Nat.le_of_ble_eq_true rfl) rfl (List.Mem.head _) (pc' := 178) rfl (fun h472 W470 A471 => ?_)
    change IA Z h472 a296 .char [(82 : Int32), (64 : Int32), v317, v325, v332, v340, v348, v356] at A471
    refine GoKit.aload G at_178 rfl rfl (pc' := 180) rfl ?_
    have S473 := (Lat.wrI S469 W470 A467 (by decide) (wi hw 7 rfl))
    refine GoKit.callVirtualP G at_180 (wi hw 13 rfl) (wi hw 14 rfl) (wi hw 16 rfl) (wi hw 15 rfl) (wi hw 6 rfl) (wi hw 17 rfl) (by decide) S473.1 (W := 0) (argsL := []) (rest := []) (con_strlen l hw S473 HC) rfl (lenOf pd_16 rfl) rfl (by decide) (Nat.le_of_eq rfl) (by decide) (by decide) (by decide) (cells' := 3) (slots' := 28) rfl rfl (pc' := 183) rfl ?_
    show Run _ _ _ _ _ _ _ _ _ _ _ _ _ _ _ _ _ _ _ _ (mkF m 183 #[.val (.int p0), .val (.int p1), .val (.int p2), .val (.int p3), .val (.ref a296), .val (.int (4 : Int32)), .val (.int (4 : Int32)), .val (.ref a464), .unset] [(.int (4 : Int32))])
    refine GoKit.iconst G (2 : Int32) at_183 rfl (pc' := 184) rfl ?_
    refine GoKit.icmp_le_f G at_184 (by decide) (pc' := 187) rfl ?_
    refine GoKit.aload G at_187 rfl rfl (pc' := 189) rfl ?_
    refine GoKit.iconst G (2 : Int32) at_189 rfl (pc' := 190) rfl ?_
    refine GoKit.aload G at_190 rfl rfl (pc' := 192) rfl ?_
    refine GoKit.iconst G (2 : Int32) at_192 rfl (pc' := 193) rfl ?_
    refine GoKit.callVirtualP G at_193 (wi hw 26 rfl) (wi hw 27 rfl) (wi hw 29 rfl) (wi hw 28 rfl) (wi hw 6 rfl) (wi hw 30 rfl) (by decide) S473.1 (W := 2) (argsL := [(.int (2 : Int32))]) (rest := [(.int (2 : Int32)), (.ref a296)]) (con_charAt l hw S473 HC (i := 2) (ch := (49 : Int32)) rfl HF) rfl (lenOf pd_17 rfl) rfl (by decide) (Nat.le_of_eq rfl) (by decide) (by decide) (by decide) (cells' := 3) (slots' := 28) rfl rfl (pc' := 196) rfl ?_
    show Run _ _ _ _ _ _ _ _ _ _ _ _ _ _ _ _ _ _ _ _ (mkF m 196 #[.val (.int p0), .val (.int p1), .val (.int p2), .val (.int p3), .val (.ref a296), .val (.int (4 : Int32)), .val (.int (4 : Int32)), .val (.ref a464), .unset] [(.int (49 : Int32)), (.int (2 : Int32)), (.ref a296)])
    refine GoKit.castI G at_196 A471 (i := 2) rfl (by decide) (Nat.le_of_ble_eq_true rfl) rfl (List.Mem.head _) (pc' := 197) rfl (fun h476 W474 A475 => ?_)
    change IA Z h476 a296 .char [(82 : Int32), (64 : Int32), (49 : Int32), v325, v332, v340, v348, v356] at A475
    refine GoKit.aload G at_197 rfl rfl (pc' := 199) rfl ?_
    have S477 := (Lat.wrI S473 W474 A471 (by decide) (wi hw 7 rfl))
    refine GoKit.callVirtualP G at_199 (wi hw 13 rfl) (wi hw 14 rfl) (wi hw 16 rfl) (wi hw 15 rfl) (wi hw 6 rfl) (wi hw 17 rfl) (by decide) S477.1 (W := 0) (argsL := []) (rest := []) (con_strlen l hw S477 HC) rfl (lenOf pd_16 rfl) rfl (by decide) (Nat.le_of_eq rfl) (by decide) (by decide) (by decide) (cells' := 3) (slots' := 28) rfl rfl (pc' := 202) rfl ?_
    show Run _ _ _ _ _ _ _ _ _ _ _ _ _ _ _ _ _ _ _ _ (mkF m 202 #[.val (.int p0), .val (.int p1), .val (.int p2), .val (.int p3), .val (.ref a296), .val (.int (4 : Int32)), .val (.int (4 : Int32)), .val (.ref a464), .unset] [(.int (4 : Int32))])
    refine GoKit.iconst G (3 : Int32) at_202 rfl (pc' := 203) rfl ?_
    refine GoKit.icmp_le_f G at_203 (by decide) (pc' := 206) rfl ?_
    refine GoKit.aload G at_206 rfl rfl (pc' := 208) rfl ?_
    refine GoKit.iconst G (3 : Int32) at_208 rfl (pc' := 209) rfl ?_
    refine GoKit.aload G at_209 rfl rfl (pc' := 211) rfl ?_
    refine GoKit.iconst G (3 : Int32) at_211 rfl (pc' := 212) rfl ?_
    refine GoKit.callVirtualP G at_212 (wi hw 26 rfl) (wi hw 27 rfl) (wi hw 29 rfl) (wi hw 28 rfl) (wi hw 6 rfl) (wi hw 30 rfl) (by decide) S477.1 (W := 2) (argsL := [(.int (3 : Int32))]) (rest := [(.int (3 : Int32)), (.ref a296)]) (con_charAt l hw S477 HC (i := 3) (ch := (48 : Int32)) rfl HF) rfl (lenOf pd_17 rfl) rfl (by decide) (Nat.le_of_eq rfl) (by decide) (by decide) (by decide) (cells' := 3) (slots' := 28) rfl rfl (pc' := 215) rfl ?_
    show Run _ _ _ _ _ _ _ _ _ _ _ _ _ _ _ _ _ _ _ _ (mkF m 215 #[.val (.int p0), .val (.int p1), .val (.int p2), .val (.int p3), .val (.ref a296), .val (.int (4 : Int32)), .val (.int (4 : Int32)), .val (.ref a464), .unset] [(.int (48 : Int32)), (.int (3 : Int32)), (.ref a296)])
    refine GoKit.castI G at_215 A475 (i := 3) rfl (by decide) (Nat.le_of_ble_eq_true rfl) rfl (List.Mem.head _) (pc' := 216) rfl (fun h480 W478 A479 => ?_)
    change IA Z h480 a296 .char [(82 : Int32), (64 : Int32), (49 : Int32), (48 : Int32), v332, v340, v348, v356] at A479
    refine GoKit.aload G at_216 rfl rfl (pc' := 218) rfl ?_
    have S481 := (Lat.wrI S477 W478 A475 (by decide) (wi hw 7 rfl))
    refine GoKit.callVirtualP G at_218 (wi hw 13 rfl) (wi hw 14 rfl) (wi hw 16 rfl) (wi hw 15 rfl) (wi hw 6 rfl) (wi hw 17 rfl) (by decide) S481.1 (W := 0) (argsL := []) (rest := []) (con_strlen l hw S481 HC) rfl (lenOf pd_16 rfl) rfl (by decide) (Nat.le_of_eq rfl) (by decide) (by decide) (by decide) (cells' := 3) (slots' := 28) rfl rfl (pc' := 221) rfl ?_
    show Run _ _ _ _ _ _ _ _ _ _ _ _ _ _ _ _ _ _ _ _ (mkF m 221 #[.val (.int p0), .val (.int p1), .val (.int p2), .val (.int p3), .val (.ref a296), .val (.int (4 : Int32)), .val (.int (4 : Int32)), .val (.ref a464), .unset] [(.int (4 : Int32))])
    refine GoKit.iconst G (4 : Int32) at_221 rfl (pc' := 222) rfl ?_
    refine GoKit.icmp_le_t G at_222 (by decide) (by decide) (pc' := 235) rfl ?_
    refine GoKit.aload G at_235 rfl rfl (pc' := 237) rfl ?_
    refine GoKit.callVirtualP G at_237 (wi hw 13 rfl) (wi hw 14 rfl) (wi hw 16 rfl) (wi hw 15 rfl) (wi hw 6 rfl) (wi hw 17 rfl) (by decide) S481.1 (W := 0) (argsL := []) (rest := []) (con_strlen l hw S481 HC) rfl (lenOf pd_16 rfl) rfl (by decide) (Nat.le_of_eq rfl) (by decide) (by decide) (by decide) (cells' := 3) (slots' := 28) rfl rfl (pc' := 240) rfl ?_
    show Run _ _ _ _ _ _ _ _ _ _ _ _ _ _ _ _ _ _ _ _ (mkF m 240 #[.val (.int p0), .val (.int p1), .val (.int p2), .val (.int p3), .val (.ref a296), .val (.int (4 : Int32)), .val (.int (4 : Int32)), .val (.ref a464), .unset] [(.int (4 : Int32))])
    refine GoKit.iconst G (5 : Int32) at_240 rfl (pc' := 241) rfl ?_
    refine GoKit.icmp_le_t G at_241 (by decide) (by decide) (pc' := 254) rfl ?_
    refine GoKit.aload G at_254 rfl rfl (pc' := 256) rfl ?_
    refine GoKit.callVirtualP G at_256 (wi hw 13 rfl) (wi hw 14 rfl) (wi hw 16 rfl) (wi hw 15 rfl) (wi hw 6 rfl) (wi hw 17 rfl) (by decide) S481.1 (W := 0) (argsL := []) (rest := []) (con_strlen l hw S481 HC) rfl (lenOf pd_16 rfl) rfl (by decide) (Nat.le_of_eq rfl) (by decide) (by decide) (by decide) (cells' := 3) (slots' := 28) rfl rfl (pc' := 259) rfl ?_
    show Run _ _ _ _ _ _ _ _ _ _ _ _ _ _ _ _ _ _ _ _ (mkF m 259 #[.val (.int p0), .val (.int p1), .val (.int p2), .val (.int p3), .val (.ref a296), .val (.int (4 : Int32)), .val (.int (4 : Int32)), .val (.ref a464), .unset] [(.int (4 : Int32))])
    refine GoKit.bipush G (6 : Int32) at_259 rfl (pc' := 261) rfl ?_
    refine GoKit.icmp_le_t G at_261 (by decide) (by decide) (pc' := 276) rfl ?_
    have hl482 : ∀ c ∈ ([(82 : Int32), (64 : Int32), (49 : Int32), (48 : Int32), v332, v340, v348, v356] : List Int32), 0 ≤ c.toInt ∧ c.toInt < 256 := by
      intro c hc
      simp only [List.mem_cons, List.not_mem_nil, or_false] at hc
      rcases hc with hc | hc | hc | hc | hc | hc | hc | hc
      · rw [hc]; exact (by decide)
      · rw [hc]; exact (by decide)
      · rw [hc]; exact (by decide)
      · rw [hc]; exact (by decide)
      · rw [hc]; exact l333
      · rw [hc]; exact l341
      · rw [hc]; exact l349
      · rw [hc]; exact l357
    refine Run.mono (cells' := 3) (slots' := 44) (by decide) (by decide) ?_
    refine Run.owless (ow' := [a296]) (by intro x hx; simp only [List.mem_cons, List.not_mem_nil, or_false] at hx ⊢; simp [hx]) ?_
    exact J1 _ _ _ _ _ _ A479 rfl hl482 (by decide) (Or.inr ⟨_, rfl, rfl⟩)
  · refine GoKit.istore G at_118 (Ls' := #[.val (.int p0), .val (.int p1), .val (.int p2), .val (.int p3), .val (.ref a296), .val (.int v362), .val (.int (5 : Int32)), .unset, .unset]) rfl (pc' := 120) rfl ?_
    refine GoKit.iload G at_120 rfl (pc' := 122) rfl ?_
    refine GoKit.bipush G (6 : Int32) at_122 rfl (pc' := 124) rfl ?_
    refine GoKit.icmp_ge_f G at_124 (by decide) (pc' := 127) rfl ?_
    refine GoKit.iload G at_127 rfl (pc' := 129) rfl ?_
    refine GoKit.callStatic G at_129 (wi hw 1 rfl) (wi hw 2 rfl) (wi hw 3 rfl) (wi hw 4 rfl) (by decide) (owc := []) (W := 0) (argsL := [(.int (5 : Int32))]) (rest := []) (con_text5 l hw) rfl (lenOf pd_15 rfl) rfl (by decide) (Nat.le_of_eq rfl) (by decide) (by decide) (by decide) (fun _ q => nomatch q) (cells' := 3) (slots' := 32) rfl rfl (pc' := 132) rfl (fun r483 h486 q484 K485 => ?_)
    obtain ⟨a487, rfl, S488⟩ := q484
    show Run _ _ _ _ _ _ _ _ _ _ _ _ _ _ _ _ _ _ _ _ (mkF m 132 #[.val (.int p0), .val (.int p1), .val (.int p2), .val (.int p3), .val (.ref a296), .val (.int v362), .val (.int (5 : Int32)), .unset, .unset] [(.ref a487)])
    refine GoKit.astore G at_132 rfl (Ls' := #[.val (.int p0), .val (.int p1), .val (.int p2), .val (.int p3), .val (.ref a296), .val (.int v362), .val (.int (5 : Int32)), .val (.ref a487), .unset]) rfl (pc' := 134) rfl ?_
    refine GoKit.aload G at_134 rfl rfl (pc' := 136) rfl ?_
    refine GoKit.callVirtualP G at_136 (wi hw 13 rfl) (wi hw 14 rfl) (wi hw 16 rfl) (wi hw 15 rfl) (wi hw 6 rfl) (wi hw 17 rfl) (by decide) S488.1 (W := 0) (argsL := []) (rest := []) (con_strlen l hw S488 HC) rfl (lenOf pd_16 rfl) rfl (by decide) (Nat.le_of_eq rfl) (by decide) (by decide) (by decide) (cells' := 3) (slots' := 32) rfl rfl (pc' := 139) rfl ?_
    show Run _ _ _ _ _ _ _ _ _ _ _ _ _ _ _ _ _ _ _ _ (mkF m 139 #[.val (.int p0), .val (.int p1), .val (.int p2), .val (.int p3), .val (.ref a296), .val (.int v362), .val (.int (5 : Int32)), .val (.ref a487), .unset] [(.int (5 : Int32))])
    refine GoKit.istore G at_139 (Ls' := #[.val (.int p0), .val (.int p1), .val (.int p2), .val (.int p3), .val (.ref a296), .val (.int (5 : Int32)), .val (.int (5 : Int32)), .val (.ref a487), .unset]) rfl (pc' := 141) rfl ?_
    refine GoKit.aload G at_141 rfl rfl (pc' := 143) rfl ?_
    refine GoKit.callVirtualP G at_143 (wi hw 13 rfl) (wi hw 14 rfl) (wi hw 16 rfl) (wi hw 15 rfl) (wi hw 6 rfl) (wi hw 17 rfl) (by decide) S488.1 (W := 0) (argsL := []) (rest := []) (con_strlen l hw S488 HC) rfl (lenOf pd_16 rfl) rfl (by decide) (Nat.le_of_eq rfl) (by decide) (by decide) (by decide) (cells' := 3) (slots' := 32) rfl rfl (pc' := 146) rfl ?_
    show Run _ _ _ _ _ _ _ _ _ _ _ _ _ _ _ _ _ _ _ _ (mkF m 146 #[.val (.int p0), .val (.int p1), .val (.int p2), .val (.int p3), .val (.ref a296), .val (.int (5 : Int32)), .val (.int (5 : Int32)), .val (.ref a487), .unset] [(.int (5 : Int32))])
    refine GoKit.if_le_f G at_146 (by decide) (pc' := 149) rfl ?_
    refine GoKit.aload G at_149 rfl rfl (pc' := 151) rfl ?_
    refine GoKit.iconst G (0 : Int32) at_151 rfl (pc' := 152) rfl ?_
    refine GoKit.aload G at_152 rfl rfl (pc' := 154) rfl ?_
    refine GoKit.iconst G (0 : Int32) at_154 rfl (pc' := 155) rfl ?_
    refine GoKit.callVirtualP G at_155 (wi hw 26 rfl) (wi hw 27 rfl) (wi hw 29 rfl) (wi hw 28 rfl) (wi hw 6 rfl) (wi hw 30 rfl) (by decide) S488.1 (W := 2) (argsL := [(.int (0 : Int32))]) (rest := [(.int (0 : Int32)), (.ref a296)]) (con_charAt l hw S488 HC (i := 0) (ch := (82 : Int32)) rfl HF) rfl (lenOf pd_17 rfl) rfl (by decide) (Nat.le_of_eq rfl) (by decide) (by decide) (by decide) (cells' := 3) (slots' := 32) rfl rfl (pc' := 158) rfl ?_
    show Run _ _ _ _ _ _ _ _ _ _ _ _ _ _ _ _ _ _ _ _ (mkF m 158 #[.val (.int p0), .val (.int p1), .val (.int p2), .val (.int p3), .val (.ref a296), .val (.int (5 : Int32)), .val (.int (5 : Int32)), .val (.ref a487), .unset] [(.int (82 : Int32)), (.int (0 : Int32)), (.ref a296)])
    refine GoKit.castI G at_158 (A360.keep K485 nin0) (i := 0) rfl (by decide) (Nat.le_of_ble_eq_true rfl) rfl (List.Mem.head _) (pc' := 159) rfl (fun h491 W489 A490 => ?_)
    change IA Z h491 a296 .char [(82 : Int32), v309, v317, v325, v332, v340, v348, v356] at A490
    refine GoKit.aload G at_159 rfl rfl (pc' := 161) rfl ?_
    have S492 := (Lat.wrI S488 W489 (A360.keep K485 nin0) (by decide) (wi hw 7 rfl))
    refine GoKit.callVirtualP G at_161 (wi hw 13 rfl) (wi hw 14 rfl) (wi hw 16 rfl) (wi hw 15 rfl) (wi hw 6 rfl) (wi hw 17 rfl) (by decide) S492.1 (W := 0) (argsL := []) (rest := []) (con_strlen l hw S492 HC) rfl (lenOf pd_16 rfl) rfl (by decide) (Nat.le_of_eq rfl) (by decide) (by decide) (by decide) (cells' := 3) (slots' := 32) rfl rfl (pc' := 164) rfl ?_
    show Run _ _ _ _ _ _ _ _ _ _ _ _ _ _ _ _ _ _ _ _ (mkF m 164 #[.val (.int p0), .val (.int p1), .val (.int p2), .val (.int p3), .val (.ref a296), .val (.int (5 : Int32)), .val (.int (5 : Int32)), .val (.ref a487), .unset] [(.int (5 : Int32))])
    refine GoKit.iconst G (1 : Int32) at_164 rfl (pc' := 165) rfl ?_
    refine GoKit.icmp_le_f G at_165 (by decide) (pc' := 168) rfl ?_
    refine GoKit.aload G at_168 rfl rfl (pc' := 170) rfl ?_
    refine GoKit.iconst G (1 : Int32) at_170 rfl (pc' := 171) rfl ?_
    refine GoKit.aload G at_171 rfl rfl (pc' := 173) rfl ?_
    refine GoKit.iconst G (1 : Int32) at_173 rfl (pc' := 174) rfl ?_
    refine GoKit.callVirtualP G at_174 (wi hw 26 rfl) (wi hw 27 rfl) (wi hw 29 rfl) (wi hw 28 rfl) (wi hw 6 rfl) (wi hw 30 rfl) (by decide) S492.1 (W := 2) (argsL := [(.int (1 : Int32))]) (rest := [(.int (1 : Int32)), (.ref a296)]) (con_charAt l hw S492 HC (i := 1) (ch := (64 : Int32)) rfl HF) rfl (lenOf pd_17 rfl) rfl (by decide) (Nat.le_of_eq rfl) (by decide) (by decide) (by decide) (cells' := 3) (slots' := 32) rfl rfl (pc' := 177) rfl ?_
    show Run _ _ _ _ _ _ _ _ _ _ _ _ _ _ _ _ _ _ _ _ (mkF m 177 #[.val (.int p0), .val (.int p1), .val (.int p2), .val (.int p3), .val (.ref a296), .val (.int (5 : Int32)), .val (.int (5 : Int32)), .val (.ref a487), .unset] [(.int (64 : Int32)), (.int (1 : Int32)), (.ref a296)])
    refine GoKit.castI G at_177 A490 (i := 1) rfl (by decide) (Nat.le_of_ble_eq_true rfl) rfl (List.Mem.head _) (pc' := 178) rfl (fun h495 W493 A494 => ?_)
    change IA Z h495 a296 .char [(82 : Int32), (64 : Int32), v317, v325, v332, v340, v348, v356] at A494
    refine GoKit.aload G at_178 rfl rfl (pc' := 180) rfl ?_
    have S496 := (Lat.wrI S492 W493 A490 (by decide) (wi hw 7 rfl))
    refine GoKit.callVirtualP G at_180 (wi hw 13 rfl) (wi hw 14 rfl) (wi hw 16 rfl) (wi hw 15 rfl) (wi hw 6 rfl) (wi hw 17 rfl) (by decide) S496.1 (W := 0) (argsL := []) (rest := []) (con_strlen l hw S496 HC) rfl (lenOf pd_16 rfl) rfl (by decide) (Nat.le_of_eq rfl) (by decide) (by decide) (by decide) (cells' := 3) (slots' := 32) rfl rfl (pc' := 183) rfl ?_
    show Run _ _ _ _ _ _ _ _ _ _ _ _ _ _ _ _ _ _ _ _ (mkF m 183 #[.val (.int p0), .val (.int p1), .val (.int p2), .val (.int p3), .val (.ref a296), .val (.int (5 : Int32)), .val (.int (5 : Int32)), .val (.ref a487), .unset] [(.int (5 : Int32))])
    refine GoKit.iconst G (2 : Int32) at_183 rfl (pc' := 184) rfl ?_
    refine GoKit.icmp_le_f G at_184 (by decide) (pc' := 187) rfl ?_
    refine GoKit.aload G at_187 rfl rfl (pc' := 189) rfl ?_
    refine GoKit.iconst G (2 : Int32) at_189 rfl (pc' := 190) rfl ?_
    refine GoKit.aload G at_190 rfl rfl (pc' := 192) rfl ?_
    refine GoKit.iconst G (2 : Int32) at_192 rfl (pc' := 193) rfl ?_
    refine GoKit.callVirtualP G at_193 (wi hw 26 rfl) (wi hw 27 rfl) (wi hw 29 rfl) (wi hw 28 rfl) (wi hw 6 rfl) (wi hw 30 rfl) (by decide) S496.1 (W := 2) (argsL := [(.int (2 : Int32))]) (rest := [(.int (2 : Int32)), (.ref a296)]) (con_charAt l hw S496 HC (i := 2) (ch := (49 : Int32)) rfl HF) rfl (lenOf pd_17 rfl) rfl (by decide) (Nat.le_of_eq rfl) (by decide) (by decide) (by decide) (cells' := 3) (slots' := 32) rfl rfl (pc' := 196) rfl ?_
    show Run _ _ _ _ _ _ _ _ _ _ _ _ _ _ _ _ _ _ _ _ (mkF m 196 #[.val (.int p0), .val (.int p1), .val (.int p2), .val (.int p3), .val (.ref a296), .val (.int (5 : Int32)), .val (.int (5 : Int32)), .val (.ref a487), .unset] [(.int (49 : Int32)), (.int (2 : Int32)), (.ref a296)])
    refine GoKit.castI G at_196 A494 (i := 2) rfl (by decide) (Nat.le_of_ble_eq_true rfl) rfl (List.Mem.head _) (pc' := 197) rfl (fun h499 W497 A498 => ?_)
    change IA Z h499 a296 .char [(82 : Int32), (64 : Int32), (49 : Int32), v325, v332, v340, v348, v356] at A498
    refine GoKit.aload G at_197 rfl rfl (pc' := 199) rfl ?_
    have S500 := (Lat.wrI S496 W497 A494 (by decide) (wi hw 7 rfl))
    refine GoKit.callVirtualP G at_199 (wi hw 13 rfl) (wi hw 14 rfl) (wi hw 16 rfl) (wi hw 15 rfl) (wi hw 6 rfl) (wi hw 17 rfl) (by decide) S500.1 (W := 0) (argsL := []) (rest := []) (con_strlen l hw S500 HC) rfl (lenOf pd_16 rfl) rfl (by decide) (Nat.le_of_eq rfl) (by decide) (by decide) (by decide) (cells' := 3) (slots' := 32) rfl rfl (pc' := 202) rfl ?_
    show Run _ _ _ _ _ _ _ _ _ _ _ _ _ _ _ _ _ _ _ _ (mkF m 202 #[.val (.int p0), .val (.int p1), .val (.int p2), .val (.int p3), .val (.ref a296), .val (.int (5 : Int32)), .val (.int (5 : Int32)), .val (.ref a487), .unset] [(.int (5 : Int32))])
    refine GoKit.iconst G (3 : Int32) at_202 rfl (pc' := 203) rfl ?_
    refine GoKit.icmp_le_f G at_203 (by decide) (pc' := 206) rfl ?_
    refine GoKit.aload G at_206 rfl rfl (pc' := 208) rfl ?_
    refine GoKit.iconst G (3 : Int32) at_208 rfl (pc' := 209) rfl ?_
    refine GoKit.aload G at_209 rfl rfl (pc' := 211) rfl ?_
    refine GoKit.iconst G (3 : Int32) at_211 rfl (pc' := 212) rfl ?_
    refine GoKit.callVirtualP G at_212 (wi hw 26 rfl) (wi hw 27 rfl) (wi hw 29 rfl) (wi hw 28 rfl) (wi hw 6 rfl) (wi hw 30 rfl) (by decide) S500.1 (W := 2) (argsL := [(.int (3 : Int32))]) (rest := [(.int (3 : Int32)), (.ref a296)]) (con_charAt l hw S500 HC (i := 3) (ch := (48 : Int32)) rfl HF) rfl (lenOf pd_17 rfl) rfl (by decide) (Nat.le_of_eq rfl) (by decide) (by decide) (by decide) (cells' := 3) (slots' := 32) rfl rfl (pc' := 215) rfl ?_
    show Run _ _ _ _ _ _ _ _ _ _ _ _ _ _ _ _ _ _ _ _ (mkF m 215 #[.val (.int p0), .val (.int p1), .val (.int p2), .val (.int p3), .val (.ref a296), .val (.int (5 : Int32)), .val (.int (5 : Int32)), .val (.ref a487), .unset] [(.int (48 : Int32)), (.int (3 : Int32)), (.ref a296)])
    refine GoKit.castI G at_215 A498 (i := 3) rfl (by decide) (Nat.le_of_ble_eq_true rfl) rfl (List.Mem.head _) (pc' := 216) rfl (fun h503 W501 A502 => ?_)
    change IA Z h503 a296 .char [(82 : Int32), (64 : Int32), (49 : Int32), (48 : Int32), v332, v340, v348, v356] at A502
    refine GoKit.aload G at_216 rfl rfl (pc' := 218) rfl ?_
    have S504 := (Lat.wrI S500 W501 A498 (by decide) (wi hw 7 rfl))
    refine GoKit.callVirtualP G at_218 (wi hw 13 rfl) (wi hw 14 rfl) (wi hw 16 rfl) (wi hw 15 rfl) (wi hw 6 rfl) (wi hw 17 rfl) (by decide) S504.1 (W := 0) (argsL := []) (rest := []) (con_strlen l hw S504 HC) rfl (lenOf pd_16 rfl) rfl (by decide) (Nat.le_of_eq rfl) (by decide) (by decide) (by decide) (cells' := 3) (slots' := 32) rfl rfl (pc' := 221) rfl ?_
    show Run _ _ _ _ _ _ _ _ _ _ _ _ _ _ _ _ _ _ _ _ (mkF m 221 #[.val (.int p0), .val (.int p1), .val (.int p2), .val (.int p3), .val (.ref a296), .val (.int (5 : Int32)), .val (.int (5 : Int32)), .val (.ref a487), .unset] [(.int (5 : Int32))])
    refine GoKit.iconst G (4 : Int32) at_221 rfl (pc' := 222) rfl ?_
    refine GoKit.icmp_le_f G at_222 (by decide) (pc' := 225) rfl ?_
    refine GoKit.aload G at_225 rfl rfl (pc' := 227) rfl ?_
    refine GoKit.iconst G (4 : Int32) at_227 rfl (pc' := 228) rfl ?_
    refine GoKit.aload G at_228 rfl rfl (pc' := 230) rfl ?_
    refine GoKit.iconst G (4 : Int32) at_230 rfl (pc' := 231) rfl ?_
    refine GoKit.callVirtualP G at_231 (wi hw 26 rfl) (wi hw 27 rfl) (wi hw 29 rfl) (wi hw 28 rfl) (wi hw 6 rfl) (wi hw 30 rfl) (by decide) S504.1 (W := 2) (argsL := [(.int (4 : Int32))]) (rest := [(.int (4 : Int32)), (.ref a296)]) (con_charAt l hw S504 HC (i := 4) (ch := (48 : Int32)) rfl HF) rfl (lenOf pd_17 rfl) rfl (by decide) (Nat.le_of_eq rfl) (by decide) (by decide) (by decide) (cells' := 3) (slots' := 32) rfl rfl (pc' := 234) rfl ?_
    show Run _ _ _ _ _ _ _ _ _ _ _ _ _ _ _ _ _ _ _ _ (mkF m 234 #[.val (.int p0), .val (.int p1), .val (.int p2), .val (.int p3), .val (.ref a296), .val (.int (5 : Int32)), .val (.int (5 : Int32)), .val (.ref a487), .unset] [(.int (48 : Int32)), (.int (4 : Int32)), (.ref a296)])
    refine GoKit.castI G at_234 A502 (i := 4) rfl (by decide) (Nat.le_of_ble_eq_true rfl) rfl (List.Mem.head _) (pc' := 235) rfl (fun h507 W505 A506 => ?_)
    change IA Z h507 a296 .char [(82 : Int32), (64 : Int32), (49 : Int32), (48 : Int32), (48 : Int32), v340, v348, v356] at A506
    refine GoKit.aload G at_235 rfl rfl (pc' := 237) rfl ?_
    have S508 := (Lat.wrI S504 W505 A502 (by decide) (wi hw 7 rfl))
    refine GoKit.callVirtualP G at_237 (wi hw 13 rfl) (wi hw 14 rfl) (wi hw 16 rfl) (wi hw 15 rfl) (wi hw 6 rfl) (wi hw 17 rfl) (by decide) S508.1 (W := 0) (argsL := []) (rest := []) (con_strlen l hw S508 HC) rfl (lenOf pd_16 rfl) rfl (by decide) (Nat.le_of_eq rfl) (by decide) (by decide) (by decide) (cells' := 3) (slots' := 32) rfl rfl (pc' := 240) rfl ?_
    show Run _ _ _ _ _ _ _ _ _ _ _ _ _ _ _ _ _ _ _ _ (mkF m 240 #[.val (.int p0), .val (.int p1), .val (.int p2), .val (.int p3), .val (.ref a296), .val (.int (5 : Int32)), .val (.int (5 : Int32)), .val (.ref a487), .unset] [(.int (5 : Int32))])
    refine GoKit.iconst G (5 : Int32) at_240 rfl (pc' := 241) rfl ?_
    refine GoKit.icmp_le_t G at_241 (by decide) (by decide) (pc' := 254) rfl ?_
    refine GoKit.aload G at_254 rfl rfl (pc' := 256) rfl ?_
    refine GoKit.callVirtualP G at_256 (wi hw 13 rfl) (wi hw 14 rfl) (wi hw 16 rfl) (wi hw 15 rfl) (wi hw 6 rfl) (wi hw 17 rfl) (by decide) S508.1 (W := 0) (argsL := []) (rest := []) (con_strlen l hw S508 HC) rfl (lenOf pd_16 rfl) rfl (by decide) (Nat.le_of_eq rfl) (by decide) (by decide) (by decide) (cells' := 3) (slots' := 32) rfl rfl (pc' := 259) rfl ?_
    show Run _ _ _ _ _ _ _ _ _ _ _ _ _ _ _ _ _ _ _ _ (mkF m 259 #[.val (.int p0), .val (.int p1), .val (.int p2), .val (.int p3), .val (.ref a296), .val (.int (5 : Int32)), .val (.int (5 : Int32)), .val (.ref a487), .unset] [(.int (5 : Int32))])
    refine GoKit.bipush G (6 : Int32) at_259 rfl (pc' := 261) rfl ?_
    refine GoKit.icmp_le_t G at_261 (by decide) (by decide) (pc' := 276) rfl ?_
    have hl509 : ∀ c ∈ ([(82 : Int32), (64 : Int32), (49 : Int32), (48 : Int32), (48 : Int32), v340, v348, v356] : List Int32), 0 ≤ c.toInt ∧ c.toInt < 256 := by
      intro c hc
      simp only [List.mem_cons, List.not_mem_nil, or_false] at hc
      rcases hc with hc | hc | hc | hc | hc | hc | hc | hc
      · rw [hc]; exact (by decide)
      · rw [hc]; exact (by decide)
      · rw [hc]; exact (by decide)
      · rw [hc]; exact (by decide)
      · rw [hc]; exact (by decide)
      · rw [hc]; exact l341
      · rw [hc]; exact l349
      · rw [hc]; exact l357
    refine Run.mono (cells' := 3) (slots' := 44) (by decide) (by decide) ?_
    refine Run.owless (ow' := [a296]) (by intro x hx; simp only [List.mem_cons, List.not_mem_nil, or_false] at hx ⊢; simp [hx]) ?_
    exact J1 _ _ _ _ _ _ A506 rfl hl509 (by decide) (Or.inr ⟨_, rfl, rfl⟩)
  · refine GoKit.istore G at_118 (Ls' := #[.val (.int p0), .val (.int p1), .val (.int p2), .val (.int p3), .val (.ref a296), .val (.int v362), .val (.int (6 : Int32)), .unset, .unset]) rfl (pc' := 120) rfl ?_
    refine GoKit.iload G at_120 rfl (pc' := 122) rfl ?_
    refine GoKit.bipush G (6 : Int32) at_122 rfl (pc' := 124) rfl ?_
    refine GoKit.icmp_ge_t G at_124 (by decide) (by decide) (pc' := 276) rfl ?_
    have hl510 : ∀ c ∈ ([v301, v309, v317, v325, v332, v340, v348, v356] : List Int32), 0 ≤ c.toInt ∧ c.toInt < 256 := by
      intro c hc
      simp only [List.mem_cons, List.not_mem_nil, or_false] at hc
      rcases hc with hc | hc | hc | hc | hc | hc | hc | hc
      · rw [hc]; exact l302
      · rw [hc]; exact l310
      · rw [hc]; exact l318
      · rw [hc]; exact l326
      · rw [hc]; exact l333
      · rw [hc]; exact l341
      · rw [hc]; exact l349
      · rw [hc]; exact l357
    refine Run.mono (cells' := 3) (slots' := 44) (by decide) (by decide) ?_
    refine Run.owless (ow' := [a296]) (by intro x hx; simp only [List.mem_cons, List.not_mem_nil, or_false] at hx ⊢; simp [hx]) ?_
    exact J1 _ _ _ _ _ _ A360 rfl hl510 (by rw [hqv362]; have := and_rng p0 7 7 rfl (by decide); omega) (Or.inl rfl)
theorem eqv_r {Z : State} {args : Array Value} {X F : Term} {m : Addr} (hF : F.eval args Z none [] Z = some (.ref m)) (h : (Jvm.Cond.eq X F).value args Z none Z [] = some true) : X.eval args Z none [] Z = some (.ref m) := by
  cases ex : X.eval args Z none [] Z with
  | none => simp [Cond.value, ex, hF] at h
  | some x => cases x <;> simp_all [Cond.value]
theorem size_start {args : Array Value} {s : State} {V : Term} {b : Addr} {cl : Cell} {ty : FieldType} {n : Int32} (hV : V.eval args s none [] s = some (.ref b)) (A : Arr s s.heap b cl ty) (h : (Term.length V).eval args s none [] s = some (.int n)) : cl.slots.size = n.toNatClampNeg ∧ cl.slots.size < 2 ^ 31 := by
  have ha := A.fin (Vm.Alike.refl _)
  by_cases hl : cl.slots.size < 2 ^ 31
  · rw [len_f hV ha hl] at h
    have q : cl.slots.size.toInt32 = n := by simpa using h
    subst q
    exact ⟨(toI_clamp hl).symm, hl⟩
  · simp [Term.eval, hV, ha, hl] at h
theorem mk_start {args : Array Value} {s : State} {nm : String} {n : Int32} {bs cs : List Int32} (wz : (Jvm.Cond.initialized "com/example/re_thread/rethread/eval/Measure").before args s = true) (wl : (Jvm.Cond.laysStatic "com/example/re_thread/rethread/eval/Measure" nm "Lcom/example/re_thread/rethread/eval/Measure;").before args s = true) (hf : Fit s)
    (h1 : (Jvm.Cond.exactly (Term.static "com/example/re_thread/rethread/eval/Measure" nm "Lcom/example/re_thread/rethread/eval/Measure;") "com/example/re_thread/rethread/eval/Measure").value args s none s [] = some true)
    (h2 : (Jvm.Cond.exactly (Term.field (Term.static "com/example/re_thread/rethread/eval/Measure" nm "Lcom/example/re_thread/rethread/eval/Measure;") "com/example/re_thread/rethread/eval/Measure" "label" "Ljava/lang/String;") "java/lang/String").value args s none s [] = some true)
    (h3 : (Jvm.Cond.eq (Term.field (Term.field (Term.static "com/example/re_thread/rethread/eval/Measure" nm "Lcom/example/re_thread/rethread/eval/Measure;") "com/example/re_thread/rethread/eval/Measure" "label" "Ljava/lang/String;") "java/lang/String" "coder" "B") (Term.int 0)).value args s none s [] = some true)
    (h4 : (Jvm.Cond.arrayOf (Term.field (Term.field (Term.static "com/example/re_thread/rethread/eval/Measure" nm "Lcom/example/re_thread/rethread/eval/Measure;") "com/example/re_thread/rethread/eval/Measure" "label" "Ljava/lang/String;") "java/lang/String" "value" "[B") FieldType.byte).value args s none s [] = some true)
    (h5 : (Jvm.Cond.eq (Term.length (Term.field (Term.field (Term.static "com/example/re_thread/rethread/eval/Measure" nm "Lcom/example/re_thread/rethread/eval/Measure;") "com/example/re_thread/rethread/eval/Measure" "label" "Ljava/lang/String;") "java/lang/String" "value" "[B")) (Term.int n)).value args s none s [] = some true)
    (hn : n.toNatClampNeg = bs.length)
    (h6 : ∀ i (hi : i < bs.length), (Jvm.Cond.eq (Term.elem (Term.field (Term.field (Term.static "com/example/re_thread/rethread/eval/Measure" nm "Lcom/example/re_thread/rethread/eval/Measure;") "com/example/re_thread/rethread/eval/Measure" "label" "Ljava/lang/String;") "java/lang/String" "value" "[B") (Term.int i.toInt32)) (Term.int bs[i])).value args s none s [] = some true)
    (hcs : cs.map (fun c => c.toInt8.toInt32) = bs) (hlat : ∀ c ∈ cs, 0 ≤ c.toInt ∧ c.toInt < 256) :
    ∃ m, (Term.static "com/example/re_thread/rethread/eval/Measure" nm "Lcom/example/re_thread/rethread/eval/Measure;").eval args s none [] s = some (.ref m) ∧ Mk s nm cs m := by
  obtain ⟨m, _, _, _, e1, -⟩ := Cond.exactly_spec (Cond.before_iff.mpr h1)
  obtain ⟨lb, _, _, _, e2, -⟩ := Cond.exactly_spec (Cond.before_iff.mpr h2)
  obtain ⟨b, e4⟩ := arr_v h4
  obtain ⟨cl, A⟩ := Arr.start e4 h4
  have e3 := eqv_i (Term.int_eval 0) h3
  have e5 := eqv_i (Term.int_eval n) h5
  obtain ⟨hs, hl⟩ := size_start e4 A e5
  refine ⟨m, e1, Sta.start e1 (Or.inr ⟨wz, wl⟩), Exa.start e1 h1, lb, Fld.start ((fld_at e1).symm.trans e2), Exa.start e2 h2, ⟨b, Fld.start ((fld_at e2).symm.trans e4), Fld.start ((fld_at e2).symm.trans e3), cl, A, ?_, by rw [hcs, ← hn, ← hs]; exact hl⟩, hlat⟩
  rw [hcs]
  apply Array.ext_getElem?
  intro i
  by_cases hi : i < bs.length
  · have q := (elem_in (eqv_i (Term.int_eval _) (h6 i hi)) e4 (Term.int_eval _) A.1).2
    rw [toI_clamp (by omega)] at q
    rw [q]; simp [hi]
  · rw [Array.getElem?_eq_none (by omega), Array.getElem?_eq_none (by simp; omega)]
theorem vals_start {args : Array Value} {s : State} (wi : (Jvm.Cond.initializedFor "com/example/re_thread/rethread/eval/Measure" "$VALUES" "[Lcom/example/re_thread/rethread/eval/Measure;").before args s = true) (hf : Fit s)
    (h1 : (Jvm.Cond.arrayOf (Term.static "com/example/re_thread/rethread/eval/Measure" "$VALUES" "[Lcom/example/re_thread/rethread/eval/Measure;") (.object "com/example/re_thread/rethread/eval/Measure")).value args s none s [] = some true) (h2 : (Jvm.Cond.exactly (Term.static "com/example/re_thread/rethread/eval/Measure" "$VALUES" "[Lcom/example/re_thread/rethread/eval/Measure;") "[Lcom/example/re_thread/rethread/eval/Measure;").value args s none s [] = some true) (h3 : (Jvm.Cond.eq (Term.length (Term.static "com/example/re_thread/rethread/eval/Measure" "$VALUES" "[Lcom/example/re_thread/rethread/eval/Measure;")) (Term.int 6)).value args s none s [] = some true) :
    ∃ va cl, (Term.static "com/example/re_thread/rethread/eval/Measure" "$VALUES" "[Lcom/example/re_thread/rethread/eval/Measure;").eval args s none [] s = some (.ref va) ∧ Sta s s.heap "com/example/re_thread/rethread/eval/Measure" "$VALUES" "[Lcom/example/re_thread/rethread/eval/Measure;" (.ref va) ∧ Exa s s.heap va "[Lcom/example/re_thread/rethread/eval/Measure;" ∧ Arr s s.heap va cl (.object "com/example/re_thread/rethread/eval/Measure") ∧ cl.slots.size = 6 ∧ FitC s cl := by
  obtain ⟨va, e1⟩ := arr_v h1
  obtain ⟨cl, A⟩ := Arr.start e1 h1
  exact ⟨va, cl, e1, Sta.start e1 (Or.inl wi), Exa.start e1 h2, A, (size_start e1 A (eqv_i (Term.int_eval 6) h3)).1, FitC.start hf A⟩
theorem el_start {args : Array Value} {s : State} {V F : Term} {va m : Addr} {cl : Cell} {ty : FieldType} {j : Int32} {i : Nat} (ev : V.eval args s none [] s = some (.ref va)) (A : Arr s s.heap va cl ty) (hF : F.eval args s none [] s = some (.ref m)) (h : (Jvm.Cond.eq (Term.elem V (Term.int j)) F).value args s none s [] = some true) (hj : j.toNatClampNeg = i) (hj0 : ¬ j < 0) : cl.slots[i]? = some (.ref m) := by
  have := (elem_in (eqv_r hF h) ev (Term.int_eval j) A.1).2
  rwa [hj] at this
theorem six_of {cl : Cell} {v0 v1 v2 v3 v4 v5 : Value} (hs : cl.slots.size = 6) (h0 : cl.slots[0]? = some v0) (h1 : cl.slots[1]? = some v1) (h2 : cl.slots[2]? = some v2) (h3 : cl.slots[3]? = some v3) (h4 : cl.slots[4]? = some v4) (h5 : cl.slots[5]? = some v5) : cl.slots = #[v0, v1, v2, v3, v4, v5] := by
  apply Array.ext_getElem?
  intro i
  match i with
  | 0 => exact h0
  | 1 => exact h1
  | 2 => exact h2
  | 3 => exact h3
  | 4 => exact h4
  | 5 => exact h5
  | k + 6 => rw [Array.getElem?_eq_none (by omega), Array.getElem?_eq_none (by simp)]
set_option maxRecDepth 65536 in
set_option maxHeartbeats 40000000 in
theorem comes_1 {Post : Tables → Env → Array Value → State → Outcome → State → Prop} (hpost : ∀ tb e args s v u, (limb_1_1.after args s (.returned v) u = true ∧ limb_1_2.after args s (.returned v) u = true ∧ True) → ReturnedEndW s (.returned v) u (Jvm.fieldLocs frame_1_writes args s ++ Jvm.arrayLocs frame_1_arrays args s ++ Jvm.staticLocs frame_1_statics s) 32 7360 → Post tb e args s (.returned v) u) :
    ArmFor flags0 classFile x code maxLocals ret World_1 tables_1 room_1 Calls_1 rest_1 Pre_1 Post := by
  intro l hfl _ _ p e ha hc hk s m args below hf hA hF happ hP
  obtain ⟨hcalls, hrest, hpre⟩ := hP
  obtain ⟨-, -, -, hnamed, -, -, -, hat⟩ := (Spec.applies_iff hf).mp happ
  obtain ⟨hg, hn⟩ := and_e (Cond.before_iff.mp (show (Jvm.Cond.and given_1 narrow_1).before args s = true from hpre))
  obtain ⟨gc, g0⟩ := and_e hg
  obtain ⟨t0, g1⟩ := and_e g0
  obtain ⟨t1, g2⟩ := and_e g1
  obtain ⟨t2, g3⟩ := and_e g2
  have t3 := g3
  obtain ⟨w0, w1, w2, w3, rfl⟩ : ∃ w0 w1 w2 w3 : Value, args = #[w0, w1, w2, w3] := by
    have hs : args.size = 4 := by simpa [Cond.value, given_1] using gc
    obtain ⟨L⟩ := args
    match L, hs with
    | [w0, w1, w2, w3], _ => exact ⟨w0, w1, w2, w3, rfl⟩
  have hw := fun d (hd : d ∈ tables_1) => atoms_spec (ws := Jvm.Cond.code x code maxLocals ret :: tables_1) hat d (List.mem_cons_of_mem _ hd)
  have hfit : Fit s := fun {y c} hc i hi => by
    obtain ⟨ha, rfl⟩ := Array.getElem?_eq_some_iff.mp hc
    have q := List.all_eq_true.mp ((Array.all_eq_true_iff_forall_mem.mp hF) _ (Array.getElem_mem ha)) i (List.mem_range.mpr hi)
    simpa [Array.getElem?_eq_getElem hi] using q
  obtain ⟨hsets, hown0⟩ := atoms_of _ (rest_1_c_eq ▸ (show rest_1_c.before _ s = true from hrest))
  obtain ⟨i0, ei0⟩ := is_v t0
  obtain rfl : w0 = (.int i0) := Option.some.inj ei0
  obtain ⟨i1, ei1⟩ := is_v t1
  obtain rfl : w1 = (.int i1) := Option.some.inj ei1
  obtain ⟨i2, ei2⟩ := is_v t2
  obtain rfl : w2 = (.int i2) := Option.some.inj ei2
  obtain ⟨i3, ei3⟩ := is_v t3
  obtain rfl : w3 = (.int i3) := Option.some.inj ei3
  have HC : Cst s := by
    obtain ⟨cz, ecz⟩ := is_v (Cond.before_iff.mp (hsets _ (List.mem_of_getElem? (i := 1) rfl)))
    refine ⟨cz, Sta.start ecz (Or.inl (hsets _ (List.mem_of_getElem? (i := 0) rfl))), fun q => ?_⟩
    have := Cond.before_iff.mp (hsets _ (List.mem_of_getElem? (i := 2) rfl))
    subst q
    simp [Cond.value, ecz, Term.int_eval] at this
  have HF : Frm s := by
    have q := Cond.before_iff.mp (hsets _ (List.mem_of_getElem? (i := 8) rfl))
    cases ev : (Term.static "jdk/internal/util/Preconditions" "SIOOBE_FORMATTER" "Ljava/util/function/BiFunction;").eval #[.int i0, .int i1, .int i2, .int i3] s none [] s with
    | none => simp [Cond.value, ev] at q
    | some fv => exact ⟨fv, Sta.start ev (Or.inl (hsets _ (List.mem_of_getElem? (i := 7) rfl))), by cases fv <;> first | rfl | (simp [Cond.value, ev] at q)⟩
  obtain ⟨n0, r0⟩ := and_e hn
  obtain ⟨n1, r1⟩ := and_e r0
  obtain ⟨n2, r2⟩ := and_e r1
  obtain ⟨n3, r3⟩ := and_e r2
  obtain ⟨n4, r4⟩ := and_e r3
  obtain ⟨n5, r5⟩ := and_e r4
  obtain ⟨n6, r6⟩ := and_e r5
  obtain ⟨n7, r7⟩ := and_e r6
  obtain ⟨n8, r8⟩ := and_e r7
  obtain ⟨n9, r9⟩ := and_e r8
  obtain ⟨n10, r10⟩ := and_e r9
  obtain ⟨n11, r11⟩ := and_e r10
  obtain ⟨n12, r12⟩ := and_e r11
  obtain ⟨n13, r13⟩ := and_e r12
  obtain ⟨n14, r14⟩ := and_e r13
  obtain ⟨n15, r15⟩ := and_e r14
  obtain ⟨n16, r16⟩ := and_e r15
  obtain ⟨n17, r17⟩ := and_e r16
  obtain ⟨n18, r18⟩ := and_e r17
  obtain ⟨n19, r19⟩ := and_e r18
  obtain ⟨n20, r20⟩ := and_e r19
  obtain ⟨n21, r21⟩ := and_e r20
  obtain ⟨n22, r22⟩ := and_e r21
  obtain ⟨n23, r23⟩ := and_e r22
  obtain ⟨n24, r24⟩ := and_e r23
  obtain ⟨n25, r25⟩ := and_e r24
  obtain ⟨n26, r26⟩ := and_e r25
  obtain ⟨n27, r27⟩ := and_e r26
  obtain ⟨n28, r28⟩ := and_e r27
  obtain ⟨n29, r29⟩ := and_e r28
  obtain ⟨n30, r30⟩ := and_e r29
  obtain ⟨n31, r31⟩ := and_e r30
  obtain ⟨n32, r32⟩ := and_e r31
  obtain ⟨n33, r33⟩ := and_e r32
  obtain ⟨n34, r34⟩ := and_e r33
  obtain ⟨n35, r35⟩ := and_e r34
  obtain ⟨n36, r36⟩ := and_e r35
  obtain ⟨n37, r37⟩ := and_e r36
  obtain ⟨n38, r38⟩ := and_e r37
  obtain ⟨n39, r39⟩ := and_e r38
  obtain ⟨n40, r40⟩ := and_e r39
  obtain ⟨n41, r41⟩ := and_e r40
  obtain ⟨n42, r42⟩ := and_e r41
  obtain ⟨n43, r43⟩ := and_e r42
  obtain ⟨n44, r44⟩ := and_e r43
  obtain ⟨n45, r45⟩ := and_e r44
  obtain ⟨n46, r46⟩ := and_e r45
  obtain ⟨n47, r47⟩ := and_e r46
  obtain ⟨n48, r48⟩ := and_e r47
  obtain ⟨n49, r49⟩ := and_e r48
  obtain ⟨n50, r50⟩ := and_e r49
  obtain ⟨n51, r51⟩ := and_e r50
  obtain ⟨n52, r52⟩ := and_e r51
  obtain ⟨n53, r53⟩ := and_e r52
  obtain ⟨n54, r54⟩ := and_e r53
  obtain ⟨n55, r55⟩ := and_e r54
  obtain ⟨n56, r56⟩ := and_e r55
  obtain ⟨n57, r57⟩ := and_e r56
  obtain ⟨n58, r58⟩ := and_e r57
  obtain ⟨n59, r59⟩ := and_e r58
  obtain ⟨n60, r60⟩ := and_e r59
  obtain ⟨n61, r61⟩ := and_e r60
  obtain ⟨n62, r62⟩ := and_e r61
  obtain ⟨n63, r63⟩ := and_e r62
  have n64 := r63
  obtain ⟨m0, em0, M0⟩ := mk_start (wi hw 71 rfl) (wi hw 85 rfl) hfit n3 n15 n16 n17 n18 (bs := [(77 : Int32), (65 : Int32), (80 : Int32)]) (by decide) (fun i hi => match i, hi with | 0, _ => n19 | 1, _ => n20 | 2, _ => n21) (cs := txt0) rfl (by decide +kernel)
  obtain ⟨m1, em1, M1⟩ := mk_start (wi hw 71 rfl) (wi hw 86 rfl) hfit n5 n22 n23 n24 n25 (bs := [(77 : Int32), (82 : Int32), (82 : Int32)]) (by decide) (fun i hi => match i, hi with | 0, _ => n26 | 1, _ => n27 | 2, _ => n28) (cs := txt1) rfl (by decide +kernel)
  obtain ⟨m2, em2, M2⟩ := mk_start (wi hw 71 rfl) (wi hw 87 rfl) hfit n7 n29 n30 n31 n32 (bs := [(80 : Int32), (64 : Int32), (49 : Int32), (48 : Int32)]) (by decide) (fun i hi => match i, hi with | 0, _ => n45 | 1, _ => n46 | 2, _ => n47 | 3, _ => n48) (cs := txt2) rfl (by decide +kernel)
  obtain ⟨m3, em3, M3⟩ := mk_start (wi hw 71 rfl) (wi hw 88 rfl) hfit n9 n33 n34 n35 n36 (bs := [(110 : Int32), (68 : Int32), (67 : Int32), (71 : Int32), (64 : Int32), (49 : Int32), (48 : Int32)]) (by decide) (fun i hi => match i, hi with | 0, _ => n53 | 1, _ => n54 | 2, _ => n55 | 3, _ => n56 | 4, _ => n57 | 5, _ => n58 | 6, _ => n59) (cs := txt3) rfl (by decide +kernel)
  obtain ⟨m4, em4, M4⟩ := mk_start (wi hw 71 rfl) (wi hw 89 rfl) hfit n11 n37 n38 n39 n40 (bs := [(82 : Int32), (64 : Int32), (49 : Int32), (48 : Int32)]) (by decide) (fun i hi => match i, hi with | 0, _ => n49 | 1, _ => n50 | 2, _ => n51 | 3, _ => n52) (cs := txt4) rfl (by decide +kernel)
  obtain ⟨m5, em5, M5⟩ := mk_start (wi hw 71 rfl) (wi hw 90 rfl) hfit n13 n41 n42 n43 n44 (bs := [(82 : Int32), (64 : Int32), (49 : Int32), (48 : Int32), (48 : Int32)]) (by decide) (fun i hi => match i, hi with | 0, _ => n60 | 1, _ => n61 | 2, _ => n62 | 3, _ => n63 | 4, _ => n64) (cs := txt5) rfl (by decide +kernel)
  obtain ⟨va, cl, ev, SV, XV, AV, hsz, FV⟩ := vals_start (wi hw 91 rfl) hfit n0 n1 n2
  have hcl : cl.slots = #[.ref m0, .ref m1, .ref m2, .ref m3, .ref m4, .ref m5] := six_of hsz (el_start ev AV em0 n4 rfl (by decide)) (el_start ev AV em1 n6 rfl (by decide)) (el_start ev AV em2 n8 rfl (by decide)) (el_start ev AV em3 n10 rfl (by decide)) (el_start ev AV em4 n12 rfl (by decide)) (el_start ev AV em5 n14 rfl (by decide))
  have M : MS s m0 m1 m2 m3 m4 m5 := ⟨⟨M0, M1, M2, M3, M4, M5⟩, va, cl, SV, XV, AV, hcl, FV⟩
  have hCH : CHv s ELs s.vm s.heap := CHv.start (hELs hw) (fun q hq => hcalls.1 q hq) (hsets _ (List.mem_of_getElem? (i := 2) rfl)) (wi hw 8 rfl) (wi hw 7 rfl)
  obtain ⟨n, o, h1, h2, h3, v, L, rfl, rfl, N, -, -, hE, hWd⟩ := (con_law l hw i0 i1 i2 i3 M HC HF) p e ha hc hk s m _ below hf ((Spec.applies_iff_loose hf).mp happ).1 ⟨rfl, State.Warmed39.refl s, rfl, Old.start s, hCH, all0⟩ trivial
  exact ⟨n, _, h1, h2, h3, hpost _ _ _ _ _ _ ⟨Cond.after_iff.mpr rfl, Cond.after_iff.mpr (eq_i res_at (Term.int_eval (1)) rfl), trivial⟩ ⟨hE.1, hE.2.1, hE.2.2.1, (hE.2.2.2.sift fun y hy => Or.inr (N y hy)).mono (by decide) (by decide)⟩⟩
theorem main_1_1 : Claimed_1_1 := comes_1 fun _ _ _ _ _ _ h hF => ⟨h.1, hF⟩
theorem main_1_2 : Claimed_1_2 := comes_1 fun _ _ _ _ _ _ h hF => ⟨h.2.1, hF⟩
end Jvm.Pilot.@@N@@
namespace Jvm.Pilot.@@N@@
open Jvm Jvm.ClassFile Sem Op Lib Jvm.Free Jvm.Stand Jvm.Pilot.@@N@@.Jvm.D
/-! MADE BY PROGRAM (witnessworld.py) out of the Statement's table words and the real class files: 23 classes; the members and pool entries that the words name. The judged class is class 1, her method 1. -/
namespace start1
open Jvm.ClassFile
def u (s : String) : CpInfo := .utf8 (stringToUtf16 s)
/-- a pool by its gaps: so many unusable entries, then the entry; so many at the end -/
def gap : Nat → List CpInfo → List CpInfo
  | 0, r => r
  | n + 1, r => .unusable :: gap n r
def poolList (es : List (Nat × CpInfo)) (last : Nat) : List CpInfo := es.foldr (fun e r => gap e.1 (e.2 :: r)) (gap last [])
def pool (es : List (Nat × CpInfo)) (last : Nat) : Array CpInfo := ⟨poolList es last⟩
def fileOf (pool : Array CpInfo) (this : Nat) (attrs : Array Attribute := #[]) (ms : Array MethodInfo := #[]) (fl : Nat := 33) (sup : Nat := 0) (ifs : Array Nat := #[]) (fds : Array FieldInfo := #[]) : ClassFile where
  minorVersion := 0
  majorVersion := 65
  constantPool := pool
  accessFlags := fl
  thisClass := this
  superClass := sup
  interfaces := ifs
  fields := fds
  methods := ms
  attributes := attrs
def plain (name : String) (sup : Option ClassId) : Class where
  name := name
  kind := .ordinary
  loader := none
  accessFlags := 33
  super := sup
  interfaces := #[]
  cf := none
  fields := #[]
  methods := #[]
  instanceTypes := #[]
  staticTypes := #[]
  resolved := #[]
  callSites := []
  init := .initialized
  statics := none
  mirror := none

def pool0 : Array CpInfo := pool [(5, u "<init>"), (0, u "()V"), (1, .class_ 10), (1, u "java/lang/Object"), (85, u "clone"), (0, u "()Ljava/lang/Object;")] 26

def k0c0 : Code := { maxStack := 0, maxLocals := 1, code := object_method_1_code, exceptionTable := #[], attributes := #[] }
def k0m0 : Method := { name := "<init>", desc := "()V", sig := { parameters := [], returnType := none }, accessFlags := 1, code := some k0c0 }
def k0m1 : Method := { name := "clone", desc := "()Ljava/lang/Object;", sig := { parameters := [], returnType := some (.object "java/lang/Object") }, accessFlags := 260, code := none }
/-- java/lang/Object -/
def k0 : Class := { plain "java/lang/Object" none with
  accessFlags := 33
  interfaces := #[]
  cf := some (fileOf pool0 8 #[] #[{ accessFlags := 1, nameIndex := 5, descriptorIndex := 6, attributes := #[] }, { accessFlags := 260, nameIndex := 96, descriptorIndex := 97, attributes := #[] }] 33 0 #[] #[])
  fields := #[]
  methods := #[k0m0, k0m1]
  instanceTypes := #[]
  staticTypes := #[]
  resolved := Array.replicate 124 none
  statics := none }

def pool1 : Array CpInfo := pool [(2, .class_ 4), (1, u "java/lang/Object"), (0, u "<init>"), (0, u "()V"), (0, .methodref 8 9), (0, .class_ 10), (0, .nameAndType 11 12), (0, u "com/example/re_thread/rethread/eval/MeasureLabelledPinLaw"), (0, u "labelText"), (0, u "(I)Ljava/lang/String;"), (0, .methodref 14 15), (0, .class_ 16), (0, .nameAndType 17 18), (0, u "java/lang/String"), (0, u "length"), (0, u "()I"), (0, .methodref 14 20), (0, .nameAndType 21 22), (0, u "charAt"), (0, u "(I)C"), (0, .methodref 24 25), (0, .class_ 26), (0, .nameAndType 27 28), (0, u "java/lang/Math"), (0, u "max"), (0, u "(II)I"), (0, .methodref 14 30), (0, .nameAndType 5 31), (0, u "([C)V"), (0, .methodref 33 34), (0, .class_ 35), (0, .nameAndType 36 37), (0, u "com/example/re_thread/rethread/eval/Measure"), (0, u "labelled"), (0, u "(Ljava/lang/String;)Lcom/example/re_thread/rethread/eval/Measure;"), (0, .methodref 8 39), (0, .nameAndType 40 37), (0, u "expected"), (0, .string 42), (0, u "MAP"), (0, .string 44), (0, u "MRR"), (0, .string 46), (0, u "P@10"), (0, .string 48), (0, u "nDCG@10"), (0, .string 50), (0, u "R@10"), (0, .string 52), (0, u "R@100"), (0, .methodref 14 54), (0, .nameAndType 55 56), (0, u "equals"), (0, u "(Ljava/lang/Object;)Z"), (0, .fieldref 33 58), (0, .nameAndType 42 59), (0, u "Lcom/example/re_thread/rethread/eval/Measure;"), (0, .fieldref 33 61), (0, .nameAndType 44 59), (0, .fieldref 33 63), (0, .nameAndType 64 59), (0, u "P_AT_10"), (0, .fieldref 33 66), (0, .nameAndType 67 59), (0, u "NDCG_AT_10"), (0, .fieldref 33 69), (0, .nameAndType 70 59), (0, u "R_AT_10"), (0, .fieldref 33 72), (0, .nameAndType 73 59), (0, u "R_AT_100"), (2, u "law"), (0, u "(IIII)Z")] 5

def k1m0 : Method := { name := "<init>", desc := "()V", sig := { parameters := [], returnType := none }, accessFlags := 1, code := none }
def k1c1 : Code := { maxStack := 4, maxLocals := 9, code := code, exceptionTable := #[], attributes := #[] }
def k1m1 : Method := { name := "law", desc := "(IIII)Z", sig := { parameters := [.int, .int, .int, .int], returnType := some .boolean }, accessFlags := 9, code := some k1c1 }
def k1c2 : Code := { maxStack := 2, maxLocals := 1, code := method_3_code, exceptionTable := #[], attributes := #[] }
def k1m2 : Method := { name := "labelText", desc := "(I)Ljava/lang/String;", sig := { parameters := [.int], returnType := some (.object "java/lang/String") }, accessFlags := 10, code := some k1c2 }
def k1c3 : Code := { maxStack := 2, maxLocals := 1, code := method_4_code, exceptionTable := #[], attributes := #[] }
def k1m3 : Method := { name := "expected", desc := "(Ljava/lang/String;)Lcom/example/re_thread/rethread/eval/Measure;", sig := { parameters := [(.object "java/lang/String")], returnType := some (.object "com/example/re_thread/rethread/eval/Measure") }, accessFlags := 10, code := some k1c3 }
/-- com/example/re_thread/rethread/eval/MeasureLabelledPinLaw -/
def k1 : Class := { plain "com/example/re_thread/rethread/eval/MeasureLabelledPinLaw" (some 0) with
  accessFlags := 49
  interfaces := #[]
  cf := some (fileOf pool1 8 #[] #[{ accessFlags := 1, nameIndex := 5, descriptorIndex := 6, attributes := #[] }, { accessFlags := 9, nameIndex := 76, descriptorIndex := 77, attributes := #[] }, { accessFlags := 10, nameIndex := 11, descriptorIndex := 12, attributes := #[] }, { accessFlags := 10, nameIndex := 40, descriptorIndex := 37, attributes := #[] }] 49 2 #[] #[])
  fields := #[]
  methods := #[k1m0, k1m1, k1m2, k1m3]
  instanceTypes := #[]
  staticTypes := #[]
  resolved := Array.replicate 83 none
  statics := none }

def pool2 : Array CpInfo := pool [(1, .class_ 2), (0, u "java/io/Serializable"), (0, .class_ 4), (0, u "java/lang/Object")] 2

/-- java/io/Serializable -/
def k2 : Class := { plain "java/io/Serializable" (some 0) with
  accessFlags := 1537
  interfaces := #[]
  cf := some (fileOf pool2 1 #[] #[] 1537 3 #[] #[])
  fields := #[]
  methods := #[]
  instanceTypes := #[]
  staticTypes := #[]
  resolved := Array.replicate 7 none
  statics := none }

def pool3 : Array CpInfo := pool [(1, .class_ 2), (0, u "java/lang/Comparable"), (0, .class_ 4), (0, u "java/lang/Object")] 7

/-- java/lang/Comparable -/
def k3 : Class := { plain "java/lang/Comparable" (some 0) with
  accessFlags := 1537
  interfaces := #[]
  cf := some (fileOf pool3 1 #[] #[] 1537 3 #[] #[])
  fields := #[]
  methods := #[]
  instanceTypes := #[]
  staticTypes := #[]
  resolved := Array.replicate 12 none
  statics := none }

def pool4 : Array CpInfo := pool [(2, .class_ 4), (1, u "java/lang/CharSequence"), (42, .class_ 48), (0, u "java/lang/CharSequence$1CodePointIterator"), (10, .class_ 60), (0, u "java/lang/CharSequence$1CharIterator"), (5, .class_ 67), (0, u "java/lang/Object")] 63

/-- java/lang/CharSequence -/
def k4 : Class := { plain "java/lang/CharSequence" (some 0) with
  accessFlags := 1537
  interfaces := #[]
  cf := some (fileOf pool4 2 #[.nestMembers #[47, 59]] #[] 1537 66 #[] #[])
  fields := #[]
  methods := #[]
  instanceTypes := #[]
  staticTypes := #[]
  resolved := Array.replicate 131 none
  statics := none }

def pool5 : Array CpInfo := pool [(1, .class_ 2), (0, u "java/lang/constant/Constable"), (0, .class_ 4), (0, u "java/lang/Object")] 6

/-- java/lang/constant/Constable -/
def k5 : Class := { plain "java/lang/constant/Constable" (some 0) with
  accessFlags := 1537
  interfaces := #[]
  cf := some (fileOf pool5 1 #[] #[] 1537 3 #[] #[])
  fields := #[]
  methods := #[]
  instanceTypes := #[]
  staticTypes := #[]
  resolved := Array.replicate 11 none
  statics := none }

def pool6 : Array CpInfo := pool [(1, .class_ 2), (0, u "java/lang/constant/ConstantDesc"), (0, .class_ 4), (0, u "java/lang/Object")] 32

/-- java/lang/constant/ConstantDesc -/
def k6 : Class := { plain "java/lang/constant/ConstantDesc" (some 0) with
  accessFlags := 1537
  interfaces := #[]
  cf := some (fileOf pool6 1 #[] #[] 1537 3 #[] #[])
  fields := #[]
  methods := #[]
  instanceTypes := #[]
  staticTypes := #[]
  resolved := Array.replicate 37 none
  statics := none }

def pool7 : Array CpInfo := pool [(1, .methodref 2 3), (0, .class_ 4), (0, .nameAndType 5 6), (0, u "java/lang/Object"), (0, u "<init>"), (0, u "()V"), (0, .string 8), (0, u ""), (0, .fieldref 10 11), (0, .class_ 12), (0, .nameAndType 13 14), (0, u "java/lang/String"), (0, u "value"), (0, u "[B"), (0, .fieldref 10 16), (0, .nameAndType 17 18), (0, u "coder"), (0, u "B"), (2, u "hash"), (0, u "I"), (2, u "hashIsZero"), (0, u "Z"), (0, .methodref 10 28), (0, .nameAndType 5 29), (0, u "([CIILjava/lang/Void;)V"), (8, .fieldref 10 39), (0, .nameAndType 40 26), (0, u "COMPACT_STRINGS"), (1, .class_ 44), (1, u "java/lang/StringUTF16"), (0, u "compress"), (1, .methodref 42 48), (0, .nameAndType 49 50), (0, u "coderFromArrayLen"), (0, u "([BI)B"), (56, .class_ 109), (1, u "java/lang/StringLatin1"), (32, u "()Z"), (34, .methodref 42 178), (0, .nameAndType 45 179), (0, u "([CII)[B"), (154, u "()I"), (0, .methodref 10 336), (0, .nameAndType 17 337), (0, u "()B"), (25, u "([BI)C"), (27, u "(II)V"), (35, u "(I)C"), (64, .methodref 10 493), (0, .nameAndType 494 142), (0, u "isLatin1"), (0, .methodref 107 496), (0, .nameAndType 497 363), (0, u "charAt"), (3, u "checkIndex"), (5, u "length"), (33, .methodref 107 542), (0, .nameAndType 543 544), (0, u "equals"), (0, u "([B[B)Z"), (28, u "(Ljava/lang/Object;)Z"), (1, .class_ 576), (0, u "java/lang/CharSequence"), (22, u "CASE_INSENSITIVE_ORDER"), (0, u "Ljava/util/Comparator;"), (409, u "([C)V"), (42, .fieldref 1054 1055), (0, .class_ 1056), (0, .nameAndType 1057 1058), (0, u "jdk/internal/util/Preconditions"), (0, u "SIOOBE_FORMATTER"), (0, u "Ljava/util/function/BiFunction;"), (0, .methodref 1054 1060), (0, .nameAndType 501 1061), (0, u "(IILjava/util/function/BiFunction;)I"), (39, u "serialPersistentFields"), (0, u "[Ljava/io/ObjectStreamField;"), (0, .class_ 1104), (0, u "java/lang/String$CaseInsensitiveComparator"), (1, .class_ 1107), (0, u "java/io/Serializable"), (0, .class_ 1109), (0, u "java/lang/Comparable"), (0, .class_ 1111), (0, u "java/lang/constant/Constable"), (0, .class_ 1113), (0, u "java/lang/constant/ConstantDesc"), (2, u "serialVersionUID"), (0, u "J"), (3, u "REPL"), (0, u "C"), (2, u "LATIN1"), (1, u "UTF16")] 323

def k7m0 : Method := { name := "<init>", desc := "()V", sig := { parameters := [], returnType := none }, accessFlags := 1, code := none }
def k7c1 : Code := { maxStack := 5, maxLocals := 2, code := jdk_42_method_3_code, exceptionTable := #[], attributes := #[] }
def k7m1 : Method := { name := "<init>", desc := "([C)V", sig := { parameters := [(.array .char)], returnType := none }, accessFlags := 1, code := some k7c1 }
def k7c2 : Code := { maxStack := 2, maxLocals := 1, code := jdk_42_method_54_code, exceptionTable := #[], attributes := #[] }
def k7m2 : Method := { name := "length", desc := "()I", sig := { parameters := [], returnType := some .int }, accessFlags := 1, code := some k7c2 }
def k7c3 : Code := { maxStack := 2, maxLocals := 2, code := jdk_42_method_56_code, exceptionTable := #[], attributes := #[] }
def k7m3 : Method := { name := "charAt", desc := "(I)C", sig := { parameters := [.int], returnType := some .char }, accessFlags := 1, code := some k7c3 }
def k7c4 : Code := { maxStack := 2, maxLocals := 3, code := jdk_42_method_66_code, exceptionTable := #[], attributes := #[] }
def k7m4 : Method := { name := "equals", desc := "(Ljava/lang/Object;)Z", sig := { parameters := [(.object "java/lang/Object")], returnType := some .boolean }, accessFlags := 1, code := some k7c4 }
def k7c5 : Code := { maxStack := 4, maxLocals := 6, code := jdk_42_method_149_code, exceptionTable := #[], attributes := #[] }
def k7m5 : Method := { name := "<init>", desc := "([CIILjava/lang/Void;)V", sig := { parameters := [(.array .char), .int, .int, (.object "java/lang/Void")], returnType := none }, accessFlags := 2, code := some k7c5 }
def k7c6 : Code := { maxStack := 1, maxLocals := 1, code := jdk_42_method_152_code, exceptionTable := #[], attributes := #[] }
def k7m6 : Method := { name := "coder", desc := "()B", sig := { parameters := [], returnType := some .byte }, accessFlags := 0, code := some k7c6 }
def k7c7 : Code := { maxStack := 1, maxLocals := 1, code := jdk_42_method_154_code, exceptionTable := #[], attributes := #[] }
def k7m7 : Method := { name := "isLatin1", desc := "()Z", sig := { parameters := [], returnType := some .boolean }, accessFlags := 0, code := some k7c7 }
def k7c8 : Code := { maxStack := 3, maxLocals := 2, code := jdk_42_method_155_code, exceptionTable := #[], attributes := #[] }
def k7m8 : Method := { name := "checkIndex", desc := "(II)V", sig := { parameters := [.int, .int], returnType := none }, accessFlags := 8, code := some k7c8 }
/-- java/lang/String -/
def k7 : Class := { plain "java/lang/String" (some 0) with
  accessFlags := 49
  interfaces := #[2, 3, 4, 5, 6]
  cf := some (fileOf pool7 10 #[.nestMembers #[1103]] #[{ accessFlags := 1, nameIndex := 5, descriptorIndex := 6, attributes := #[] }, { accessFlags := 1, nameIndex := 5, descriptorIndex := 1010, attributes := #[] }, { accessFlags := 1, nameIndex := 507, descriptorIndex := 334, attributes := #[] }, { accessFlags := 1, nameIndex := 497, descriptorIndex := 427, attributes := #[] }, { accessFlags := 1, nameIndex := 543, descriptorIndex := 573, attributes := #[] }, { accessFlags := 2, nameIndex := 5, descriptorIndex := 29, attributes := #[] }, { accessFlags := 0, nameIndex := 17, descriptorIndex := 337, attributes := #[] }, { accessFlags := 0, nameIndex := 494, descriptorIndex := 142, attributes := #[] }, { accessFlags := 8, nameIndex := 501, descriptorIndex := 391, attributes := #[] }] 49 2 #[1106, 1108, 575, 1110, 1112] #[{ accessFlags := 18, nameIndex := 13, descriptorIndex := 14, attributes := #[] }, { accessFlags := 18, nameIndex := 17, descriptorIndex := 18, attributes := #[] }, { accessFlags := 2, nameIndex := 21, descriptorIndex := 22, attributes := #[] }, { accessFlags := 2, nameIndex := 25, descriptorIndex := 26, attributes := #[] }, { accessFlags := 26, nameIndex := 1116, descriptorIndex := 1117, attributes := #[] }, { accessFlags := 24, nameIndex := 40, descriptorIndex := 26, attributes := #[] }, { accessFlags := 26, nameIndex := 1101, descriptorIndex := 1102, attributes := #[] }, { accessFlags := 26, nameIndex := 1121, descriptorIndex := 1122, attributes := #[] }, { accessFlags := 25, nameIndex := 599, descriptorIndex := 600, attributes := #[] }, { accessFlags := 24, nameIndex := 1125, descriptorIndex := 18, attributes := #[] }, { accessFlags := 24, nameIndex := 1127, descriptorIndex := 18, attributes := #[] }])
  fields := #[{ name := "value", type := (.array .byte), accessFlags := 18, slot := 0, constantValue := 0 }, { name := "coder", type := .byte, accessFlags := 18, slot := 1, constantValue := 0 }, { name := "hash", type := .int, accessFlags := 2, slot := 2, constantValue := 0 }, { name := "hashIsZero", type := .boolean, accessFlags := 2, slot := 3, constantValue := 0 }, { name := "serialVersionUID", type := .long, accessFlags := 26, slot := 0, constantValue := 0 }, { name := "COMPACT_STRINGS", type := .boolean, accessFlags := 24, slot := 1, constantValue := 0 }, { name := "serialPersistentFields", type := (.array (.object "java/io/ObjectStreamField")), accessFlags := 26, slot := 2, constantValue := 0 }, { name := "REPL", type := .char, accessFlags := 26, slot := 3, constantValue := 0 }, { name := "CASE_INSENSITIVE_ORDER", type := (.object "java/util/Comparator"), accessFlags := 25, slot := 4, constantValue := 0 }, { name := "LATIN1", type := .byte, accessFlags := 24, slot := 5, constantValue := 0 }, { name := "UTF16", type := .byte, accessFlags := 24, slot := 6, constantValue := 0 }]
  methods := #[k7m0, k7m1, k7m2, k7m3, k7m4, k7m5, k7m6, k7m7, k7m8]
  instanceTypes := #[(.array .byte), .byte, .int, .boolean]
  staticTypes := #[.long, .boolean, (.array (.object "java/io/ObjectStreamField")), .char, (.object "java/util/Comparator"), .byte, .byte]
  resolved := Array.replicate 1451 none
  statics := some 0 }

def pool8 : Array CpInfo := pool [(1, .class_ 2), (0, u "java/lang/String"), (1, .class_ 6), (1, u "java/lang/Object"), (0, u "<init>"), (0, u "()V"), (0, .methodref 1 10), (0, .nameAndType 11 12), (0, u "checkIndex"), (0, u "(II)V"), (1, .class_ 16), (1, u "java/lang/StringLatin1"), (36, u "([BI)C"), (67, u "$assertionsDisabled"), (0, u "Z"), (98, .class_ 223), (1, u "java/lang/StringLatin1$LinesSpliterator"), (28, u "charAt"), (28, u "equals"), (0, u "([B[B)Z"), (107, .class_ 391), (0, u "java/lang/StringLatin1$CharsSpliterator")] 3

def k8m0 : Method := { name := "<init>", desc := "()V", sig := { parameters := [], returnType := none }, accessFlags := 0, code := none }
def k8c1 : Code := { maxStack := 2, maxLocals := 2, code := jdk_43_method_2_code, exceptionTable := #[], attributes := #[] }
def k8m1 : Method := { name := "charAt", desc := "([BI)C", sig := { parameters := [(.array .byte), .int], returnType := some .char }, accessFlags := 9, code := some k8c1 }
def k8c2 : Code := { maxStack := 3, maxLocals := 3, code := jdk_43_method_13_code, exceptionTable := #[], attributes := #[] }
def k8m2 : Method := { name := "equals", desc := "([B[B)Z", sig := { parameters := [(.array .byte), (.array .byte)], returnType := some .boolean }, accessFlags := 9, code := some k8c2 }
/-- java/lang/StringLatin1 -/
def k8 : Class := { plain "java/lang/StringLatin1" (some 0) with
  accessFlags := 48
  interfaces := #[]
  cf := some (fileOf pool8 14 #[.nestMembers #[390, 221]] #[{ accessFlags := 0, nameIndex := 7, descriptorIndex := 8, attributes := #[] }, { accessFlags := 9, nameIndex := 252, descriptorIndex := 53, attributes := #[] }, { accessFlags := 9, nameIndex := 281, descriptorIndex := 282, attributes := #[] }] 48 4 #[] #[{ accessFlags := 4120, nameIndex := 121, descriptorIndex := 122, attributes := #[] }])
  fields := #[{ name := "$assertionsDisabled", type := .boolean, accessFlags := 4120, slot := 0, constantValue := 0 }]
  methods := #[k8m0, k8m1, k8m2]
  instanceTypes := #[]
  staticTypes := #[.boolean]
  resolved := Array.replicate 395 none
  statics := none }

def pool9 : Array CpInfo := pool [(2, .class_ 4), (1, u "java/lang/Object"), (0, u "<init>"), (0, u "()V"), (17, .class_ 26), (1, u "jdk/internal/util/Preconditions"), (6, u "checkIndex"), (21, .class_ 56), (0, u "jdk/internal/util/Preconditions$4"), (57, .class_ 115), (0, u "jdk/internal/util/Preconditions$1"), (7, u "SIOOBE_FORMATTER"), (0, u "Ljava/util/function/BiFunction;"), (0, .class_ 126), (0, u "jdk/internal/util/Preconditions$2"), (3, u "AIOOBE_FORMATTER"), (0, .class_ 132), (0, u "jdk/internal/util/Preconditions$3"), (3, u "IOOBE_FORMATTER"), (41, u "(IILjava/util/function/BiFunction;)I")] 15

def k9m0 : Method := { name := "<init>", desc := "()V", sig := { parameters := [], returnType := none }, accessFlags := 1, code := none }
def k9c1 : Code := { maxStack := 3, maxLocals := 3, code := jdk_41_method_11_code, exceptionTable := #[], attributes := #[] }
def k9m1 : Method := { name := "checkIndex", desc := "(IILjava/util/function/BiFunction;)I", sig := { parameters := [.int, .int, (.object "java/util/function/BiFunction")], returnType := some .int }, accessFlags := 9, code := some k9c1 }
/-- jdk/internal/util/Preconditions -/
def k9 : Class := { plain "jdk/internal/util/Preconditions" (some 0) with
  accessFlags := 33
  interfaces := #[]
  cf := some (fileOf pool9 24 #[.nestMembers #[55, 131, 125, 114]] #[{ accessFlags := 1, nameIndex := 5, descriptorIndex := 6, attributes := #[] }, { accessFlags := 9, nameIndex := 33, descriptorIndex := 178, attributes := #[] }] 33 2 #[] #[{ accessFlags := 25, nameIndex := 123, descriptorIndex := 124, attributes := #[] }, { accessFlags := 25, nameIndex := 130, descriptorIndex := 124, attributes := #[] }, { accessFlags := 25, nameIndex := 136, descriptorIndex := 124, attributes := #[] }])
  fields := #[{ name := "SIOOBE_FORMATTER", type := (.object "java/util/function/BiFunction"), accessFlags := 25, slot := 0, constantValue := 0 }, { name := "AIOOBE_FORMATTER", type := (.object "java/util/function/BiFunction"), accessFlags := 25, slot := 1, constantValue := 0 }, { name := "IOOBE_FORMATTER", type := (.object "java/util/function/BiFunction"), accessFlags := 25, slot := 2, constantValue := 0 }]
  methods := #[k9m0, k9m1]
  instanceTypes := #[]
  staticTypes := #[(.object "java/util/function/BiFunction"), (.object "java/util/function/BiFunction"), (.object "java/util/function/BiFunction")]
  resolved := Array.replicate 194 none
  statics := some 1 }

def pool10 : Array CpInfo := pool [(6, .class_ 8), (1, u "java/lang/Object"), (0, u "<init>"), (0, u "()V"), (1, .class_ 14), (1, u "java/lang/StringUTF16"), (31, u "$assertionsDisabled"), (0, u "Z"), (13, u "HI_BYTE_SHIFT"), (0, u "I"), (2, u "LO_BYTE_SHIFT"), (49, .methodref 12 116), (0, .nameAndType 117 118), (0, u "compress"), (0, u "([CI[BII)I"), (3, u "([CII)[B"), (138, u "coderFromArrayLen"), (0, u "([BI)B"), (106, .class_ 371), (1, u "java/lang/StringUTF16$LinesSpliterator"), (58, u "MAX_LENGTH"), (196, .class_ 628), (0, u "java/lang/StringUTF16$CodePointsSpliterator"), (0, .class_ 630), (0, u "java/lang/StringUTF16$CharsSpliterator")] 4

def k10m0 : Method := { name := "<init>", desc := "()V", sig := { parameters := [], returnType := none }, accessFlags := 0, code := none }
def k10c1 : Code := { maxStack := 2, maxLocals := 2, code := jdk_52_method_15_code, exceptionTable := #[], attributes := #[] }
def k10m1 : Method := { name := "coderFromArrayLen", desc := "([BI)B", sig := { parameters := [(.array .byte), .int], returnType := some .byte }, accessFlags := 8, code := some k10c1 }
def k10c2 : Code := { maxStack := 5, maxLocals := 6, code := jdk_52_method_16_code, exceptionTable := #[], attributes := #[] }
def k10m2 : Method := { name := "compress", desc := "([CII)[B", sig := { parameters := [(.array .char), .int, .int], returnType := some (.array .byte) }, accessFlags := 9, code := some k10c2 }
def k10c3 : Code := { maxStack := 3, maxLocals := 7, code := jdk_52_method_21_code, exceptionTable := #[], attributes := #[] }
def k10m3 : Method := { name := "compress", desc := "([CI[BII)I", sig := { parameters := [(.array .char), .int, (.array .byte), .int, .int], returnType := some .int }, accessFlags := 9, code := some k10c3 }
/-- java/lang/StringUTF16 -/
def k10 : Class := { plain "java/lang/StringUTF16" (some 0) with
  accessFlags := 48
  interfaces := #[]
  cf := some (fileOf pool10 12 #[.nestMembers #[627, 629, 369]] #[{ accessFlags := 0, nameIndex := 9, descriptorIndex := 10, attributes := #[] }, { accessFlags := 8, nameIndex := 261, descriptorIndex := 262, attributes := #[] }, { accessFlags := 9, nameIndex := 117, descriptorIndex := 122, attributes := #[] }, { accessFlags := 9, nameIndex := 117, descriptorIndex := 118, attributes := #[] }] 48 6 #[] #[{ accessFlags := 26, nameIndex := 61, descriptorIndex := 62, attributes := #[] }, { accessFlags := 26, nameIndex := 65, descriptorIndex := 62, attributes := #[] }, { accessFlags := 24, nameIndex := 430, descriptorIndex := 62, attributes := #[] }, { accessFlags := 4120, nameIndex := 46, descriptorIndex := 47, attributes := #[] }])
  fields := #[{ name := "HI_BYTE_SHIFT", type := .int, accessFlags := 26, slot := 0, constantValue := 0 }, { name := "LO_BYTE_SHIFT", type := .int, accessFlags := 26, slot := 1, constantValue := 0 }, { name := "MAX_LENGTH", type := .int, accessFlags := 24, slot := 2, constantValue := 0 }, { name := "$assertionsDisabled", type := .boolean, accessFlags := 4120, slot := 3, constantValue := 0 }]
  methods := #[k10m0, k10m1, k10m2, k10m3]
  instanceTypes := #[]
  staticTypes := #[.int, .int, .int, .boolean]
  resolved := Array.replicate 635 none
  statics := none }

def pool11 : Array CpInfo := pool [(2, .class_ 4), (1, u "java/lang/Enum"), (0, u "name"), (0, u "Ljava/lang/String;"), (2, u "ordinal"), (0, u "I"), (1, .class_ 14), (1, u "java/lang/Object"), (4, u "hash"), (86, .class_ 108), (1, u "java/lang/Enum$EnumDesc"), (2, .class_ 112), (0, u "java/lang/constant/Constable"), (0, .class_ 114), (0, u "java/lang/Comparable"), (0, .class_ 116), (0, u "java/io/Serializable")] 87

/-- java/lang/Enum -/
def k11 : Class := { plain "java/lang/Enum" (some 0) with
  accessFlags := 1057
  interfaces := #[5, 3, 2]
  cf := some (fileOf pool11 2 #[.nestMembers #[106]] #[] 1057 12 #[111, 113, 115] #[{ accessFlags := 18, nameIndex := 5, descriptorIndex := 6, attributes := #[] }, { accessFlags := 18, nameIndex := 9, descriptorIndex := 10, attributes := #[] }, { accessFlags := 2, nameIndex := 19, descriptorIndex := 10, attributes := #[] }])
  fields := #[{ name := "name", type := (.object "java/lang/String"), accessFlags := 18, slot := 0, constantValue := 0 }, { name := "ordinal", type := .int, accessFlags := 18, slot := 1, constantValue := 0 }, { name := "hash", type := .int, accessFlags := 2, slot := 2, constantValue := 0 }]
  methods := #[]
  instanceTypes := #[(.object "java/lang/String"), .int, .int]
  staticTypes := #[]
  resolved := Array.replicate 204 none
  statics := none }

def pool12 : Array CpInfo := pool [(1, .class_ 2), (0, u "com/example/re_thread/rethread/eval/Measure"), (2, u "MAP"), (0, u "Lcom/example/re_thread/rethread/eval/Measure;"), (2, u "MRR"), (2, u "P_AT_10"), (2, u "NDCG_AT_10"), (2, u "R_AT_10"), (2, u "R_AT_100"), (0, .fieldref 1 23), (0, .nameAndType 24 25), (0, u "$VALUES"), (0, u "[Lcom/example/re_thread/rethread/eval/Measure;"), (0, .methodref 27 28), (0, .class_ 25), (0, .nameAndType 29 30), (0, u "clone"), (0, u "()Ljava/lang/Object;"), (1, .class_ 34), (1, u "java/lang/Enum"), (6, .fieldref 1 42), (0, .nameAndType 43 44), (0, u "label"), (0, u "Ljava/lang/String;"), (2, u "positions"), (0, u "I"), (2, u "formula"), (0, u "Lcom/example/re_thread/rethread/eval/Measure$Formula;"), (0, .methodref 1 54), (0, .nameAndType 55 56), (0, u "values"), (0, u "()[Lcom/example/re_thread/rethread/eval/Measure;"), (0, .methodref 58 59), (0, .class_ 60), (0, .nameAndType 61 62), (0, u "java/lang/String"), (0, u "equals"), (0, u "(Ljava/lang/Object;)Z"), (1, .class_ 66), (1, u "com/example/re_thread/rethread/eval/Measure$Formula"), (58, u "(Ljava/lang/String;)Lcom/example/re_thread/rethread/eval/Measure;"), (5, u "labelled")] 47

def k12c0 : Code := { maxStack := 1, maxLocals := 0, code := prog_6_method_1_code, exceptionTable := #[], attributes := #[] }
def k12m0 : Method := { name := "values", desc := "()[Lcom/example/re_thread/rethread/eval/Measure;", sig := { parameters := [], returnType := some (.array (.object "com/example/re_thread/rethread/eval/Measure")) }, accessFlags := 9, code := some k12c0 }
def k12c1 : Code := { maxStack := 2, maxLocals := 5, code := prog_6_method_6_code, exceptionTable := #[], attributes := #[] }
def k12m1 : Method := { name := "labelled", desc := "(Ljava/lang/String;)Lcom/example/re_thread/rethread/eval/Measure;", sig := { parameters := [(.object "java/lang/String")], returnType := some (.object "com/example/re_thread/rethread/eval/Measure") }, accessFlags := 9, code := some k12c1 }
/-- com/example/re_thread/rethread/eval/Measure -/
def k12 : Class := { plain "com/example/re_thread/rethread/eval/Measure" (some 11) with
  accessFlags := 16433
  interfaces := #[]
  cf := some (fileOf pool12 1 #[.nestMembers #[64]] #[{ accessFlags := 9, nameIndex := 55, descriptorIndex := 56, attributes := #[] }, { accessFlags := 9, nameIndex := 131, descriptorIndex := 125, attributes := #[] }] 16433 32 #[] #[{ accessFlags := 16409, nameIndex := 5, descriptorIndex := 6, attributes := #[] }, { accessFlags := 16409, nameIndex := 9, descriptorIndex := 6, attributes := #[] }, { accessFlags := 16409, nameIndex := 12, descriptorIndex := 6, attributes := #[] }, { accessFlags := 16409, nameIndex := 15, descriptorIndex := 6, attributes := #[] }, { accessFlags := 16409, nameIndex := 18, descriptorIndex := 6, attributes := #[] }, { accessFlags := 16409, nameIndex := 21, descriptorIndex := 6, attributes := #[] }, { accessFlags := 18, nameIndex := 43, descriptorIndex := 44, attributes := #[] }, { accessFlags := 18, nameIndex := 47, descriptorIndex := 48, attributes := #[] }, { accessFlags := 18, nameIndex := 51, descriptorIndex := 52, attributes := #[] }, { accessFlags := 4122, nameIndex := 24, descriptorIndex := 25, attributes := #[] }])
  fields := #[{ name := "MAP", type := (.object "com/example/re_thread/rethread/eval/Measure"), accessFlags := 16409, slot := 0, constantValue := 0 }, { name := "MRR", type := (.object "com/example/re_thread/rethread/eval/Measure"), accessFlags := 16409, slot := 1, constantValue := 0 }, { name := "P_AT_10", type := (.object "com/example/re_thread/rethread/eval/Measure"), accessFlags := 16409, slot := 2, constantValue := 0 }, { name := "NDCG_AT_10", type := (.object "com/example/re_thread/rethread/eval/Measure"), accessFlags := 16409, slot := 3, constantValue := 0 }, { name := "R_AT_10", type := (.object "com/example/re_thread/rethread/eval/Measure"), accessFlags := 16409, slot := 4, constantValue := 0 }, { name := "R_AT_100", type := (.object "com/example/re_thread/rethread/eval/Measure"), accessFlags := 16409, slot := 5, constantValue := 0 }, { name := "label", type := (.object "java/lang/String"), accessFlags := 18, slot := 3, constantValue := 0 }, { name := "positions", type := .int, accessFlags := 18, slot := 4, constantValue := 0 }, { name := "formula", type := (.object "com/example/re_thread/rethread/eval/Measure$Formula"), accessFlags := 18, slot := 5, constantValue := 0 }, { name := "$VALUES", type := (.array (.object "com/example/re_thread/rethread/eval/Measure")), accessFlags := 4122, slot := 6, constantValue := 0 }]
  methods := #[k12m0, k12m1]
  instanceTypes := #[(.object "java/lang/String"), .int, .int, (.object "java/lang/String"), .int, (.object "com/example/re_thread/rethread/eval/Measure$Formula")]
  staticTypes := #[(.object "com/example/re_thread/rethread/eval/Measure"), (.object "com/example/re_thread/rethread/eval/Measure"), (.object "com/example/re_thread/rethread/eval/Measure"), (.object "com/example/re_thread/rethread/eval/Measure"), (.object "com/example/re_thread/rethread/eval/Measure"), (.object "com/example/re_thread/rethread/eval/Measure"), (.array (.object "com/example/re_thread/rethread/eval/Measure"))]
  resolved := Array.replicate 179 none
  statics := some 2 }

def pool13 : Array CpInfo := pool [(1, .class_ 2), (0, u "java/lang/Cloneable"), (0, .class_ 4), (0, u "java/lang/Object")] 2

/-- java/lang/Cloneable -/
def k13 : Class := { plain "java/lang/Cloneable" (some 0) with
  accessFlags := 1537
  interfaces := #[]
  cf := some (fileOf pool13 1 #[] #[] 1537 3 #[] #[])
  fields := #[]
  methods := #[]
  instanceTypes := #[]
  staticTypes := #[]
  resolved := Array.replicate 7 none
  statics := none }

def pool14 : Array CpInfo := pool [(1, .class_ 2), (0, u "java/lang/Math"), (1, .class_ 6), (1, u "java/lang/Object"), (0, u "<init>"), (0, u "()V"), (89, .class_ 100), (1, u "java/lang/Math$RandomNumberGeneratorHolder"), (71, u "negativeZeroFloatBits"), (0, u "J"), (2, u "negativeZeroDoubleBits"), (21, u "max"), (46, u "$assertionsDisabled"), (0, u "Z"), (88, u "(II)I"), (2, u "twoToTheDoubleScaleDown"), (0, u "D"), (4, u "twoToTheDoubleScaleUp"), (9, u "E"), (3, u "PI"), (2, u "TAU"), (2, u "DEGREES_TO_RADIANS"), (0, u "RADIANS_TO_DEGREES")] 94

def k14m0 : Method := { name := "<init>", desc := "()V", sig := { parameters := [], returnType := none }, accessFlags := 2, code := none }
def k14c1 : Code := { maxStack := 2, maxLocals := 2, code := jdk_29_method_65_code, exceptionTable := #[], attributes := #[] }
def k14m1 : Method := { name := "max", desc := "(II)I", sig := { parameters := [.int, .int], returnType := some .int }, accessFlags := 9, code := some k14c1 }
/-- java/lang/Math -/
def k14 : Class := { plain "java/lang/Math" (some 0) with
  accessFlags := 49
  interfaces := #[]
  cf := some (fileOf pool14 1 #[.nestMembers #[98]] #[{ accessFlags := 2, nameIndex := 7, descriptorIndex := 8, attributes := #[] }, { accessFlags := 9, nameIndex := 198, descriptorIndex := 335, attributes := #[] }] 49 4 #[] #[{ accessFlags := 25, nameIndex := 354, descriptorIndex := 339, attributes := #[] }, { accessFlags := 25, nameIndex := 358, descriptorIndex := 339, attributes := #[] }, { accessFlags := 25, nameIndex := 361, descriptorIndex := 339, attributes := #[] }, { accessFlags := 26, nameIndex := 364, descriptorIndex := 339, attributes := #[] }, { accessFlags := 26, nameIndex := 365, descriptorIndex := 339, attributes := #[] }, { accessFlags := 26, nameIndex := 172, descriptorIndex := 173, attributes := #[] }, { accessFlags := 26, nameIndex := 176, descriptorIndex := 173, attributes := #[] }, { accessFlags := 8, nameIndex := 344, descriptorIndex := 339, attributes := #[] }, { accessFlags := 8, nameIndex := 338, descriptorIndex := 339, attributes := #[] }, { accessFlags := 4120, nameIndex := 245, descriptorIndex := 246, attributes := #[] }])
  fields := #[{ name := "E", type := .double, accessFlags := 25, slot := 0, constantValue := 0 }, { name := "PI", type := .double, accessFlags := 25, slot := 1, constantValue := 0 }, { name := "TAU", type := .double, accessFlags := 25, slot := 2, constantValue := 0 }, { name := "DEGREES_TO_RADIANS", type := .double, accessFlags := 26, slot := 3, constantValue := 0 }, { name := "RADIANS_TO_DEGREES", type := .double, accessFlags := 26, slot := 4, constantValue := 0 }, { name := "negativeZeroFloatBits", type := .long, accessFlags := 26, slot := 5, constantValue := 0 }, { name := "negativeZeroDoubleBits", type := .long, accessFlags := 26, slot := 6, constantValue := 0 }, { name := "twoToTheDoubleScaleUp", type := .double, accessFlags := 8, slot := 7, constantValue := 0 }, { name := "twoToTheDoubleScaleDown", type := .double, accessFlags := 8, slot := 8, constantValue := 0 }, { name := "$assertionsDisabled", type := .boolean, accessFlags := 4120, slot := 9, constantValue := 0 }]
  methods := #[k14m0, k14m1]
  instanceTypes := #[]
  staticTypes := #[.double, .double, .double, .double, .double, .long, .long, .double, .double, .boolean]
  resolved := Array.replicate 460 none
  statics := none }

def pool15 : Array CpInfo := pool [(9, u "<init>"), (6, .class_ 18), (1, u "java/lang/Object"), (0, u "()V"), (1, .class_ 23), (1, u "jdk/internal/util/ArraysSupport"), (0, u "LOG2_ARRAY_LONG_INDEX_SCALE"), (0, u "I"), (2, u "U"), (0, u "Ljdk/internal/misc/Unsafe;"), (8, u "BIG_ENDIAN"), (0, u "Z"), (8, u "LOG2_BYTE_BIT_SIZE"), (4, u "LOG2_ARRAY_INT_INDEX_SCALE"), (54, u "JLA"), (0, u "Ljdk/internal/access/JavaLangAccess;"), (11, u "LOG2_ARRAY_BOOLEAN_INDEX_SCALE"), (9, u "LOG2_ARRAY_BYTE_INDEX_SCALE"), (5, u "LOG2_ARRAY_CHAR_INDEX_SCALE"), (5, u "LOG2_ARRAY_SHORT_INDEX_SCALE"), (18, u "LOG2_ARRAY_FLOAT_INDEX_SCALE"), (24, u "LOG2_ARRAY_DOUBLE_INDEX_SCALE"), (89, u "T_BOOLEAN"), (2, u "T_CHAR"), (1, u "T_FLOAT"), (1, u "T_DOUBLE"), (1, u "T_BYTE"), (1, u "T_SHORT"), (1, u "T_INT"), (1, u "T_LONG"), (1, u "SOFT_MAX_ARRAY_LENGTH")] 83

def k15m0 : Method := { name := "<init>", desc := "()V", sig := { parameters := [], returnType := none }, accessFlags := 2, code := none }
/-- jdk/internal/util/ArraysSupport -/
def k15 : Class := { plain "jdk/internal/util/ArraysSupport" (some 0) with
  accessFlags := 33
  interfaces := #[]
  cf := some (fileOf pool15 21 #[] #[{ accessFlags := 2, nameIndex := 9, descriptorIndex := 19, attributes := #[] }] 33 16 #[] #[{ accessFlags := 24, nameIndex := 28, descriptorIndex := 29, attributes := #[] }, { accessFlags := 26, nameIndex := 38, descriptorIndex := 39, attributes := #[] }, { accessFlags := 25, nameIndex := 121, descriptorIndex := 25, attributes := #[] }, { accessFlags := 25, nameIndex := 131, descriptorIndex := 25, attributes := #[] }, { accessFlags := 25, nameIndex := 137, descriptorIndex := 25, attributes := #[] }, { accessFlags := 25, nameIndex := 143, descriptorIndex := 25, attributes := #[] }, { accessFlags := 25, nameIndex := 53, descriptorIndex := 25, attributes := #[] }, { accessFlags := 25, nameIndex := 24, descriptorIndex := 25, attributes := #[] }, { accessFlags := 25, nameIndex := 162, descriptorIndex := 25, attributes := #[] }, { accessFlags := 25, nameIndex := 187, descriptorIndex := 25, attributes := #[] }, { accessFlags := 26, nameIndex := 48, descriptorIndex := 25, attributes := #[] }, { accessFlags := 25, nameIndex := 277, descriptorIndex := 25, attributes := #[] }, { accessFlags := 25, nameIndex := 280, descriptorIndex := 25, attributes := #[] }, { accessFlags := 25, nameIndex := 282, descriptorIndex := 25, attributes := #[] }, { accessFlags := 25, nameIndex := 284, descriptorIndex := 25, attributes := #[] }, { accessFlags := 25, nameIndex := 286, descriptorIndex := 25, attributes := #[] }, { accessFlags := 25, nameIndex := 288, descriptorIndex := 25, attributes := #[] }, { accessFlags := 25, nameIndex := 290, descriptorIndex := 25, attributes := #[] }, { accessFlags := 25, nameIndex := 292, descriptorIndex := 25, attributes := #[] }, { accessFlags := 26, nameIndex := 108, descriptorIndex := 109, attributes := #[] }, { accessFlags := 25, nameIndex := 294, descriptorIndex := 25, attributes := #[] }])
  fields := #[{ name := "U", type := (.object "jdk/internal/misc/Unsafe"), accessFlags := 24, slot := 0, constantValue := 0 }, { name := "BIG_ENDIAN", type := .boolean, accessFlags := 26, slot := 1, constantValue := 0 }, { name := "LOG2_ARRAY_BOOLEAN_INDEX_SCALE", type := .int, accessFlags := 25, slot := 2, constantValue := 0 }, { name := "LOG2_ARRAY_BYTE_INDEX_SCALE", type := .int, accessFlags := 25, slot := 3, constantValue := 0 }, { name := "LOG2_ARRAY_CHAR_INDEX_SCALE", type := .int, accessFlags := 25, slot := 4, constantValue := 0 }, { name := "LOG2_ARRAY_SHORT_INDEX_SCALE", type := .int, accessFlags := 25, slot := 5, constantValue := 0 }, { name := "LOG2_ARRAY_INT_INDEX_SCALE", type := .int, accessFlags := 25, slot := 6, constantValue := 0 }, { name := "LOG2_ARRAY_LONG_INDEX_SCALE", type := .int, accessFlags := 25, slot := 7, constantValue := 0 }, { name := "LOG2_ARRAY_FLOAT_INDEX_SCALE", type := .int, accessFlags := 25, slot := 8, constantValue := 0 }, { name := "LOG2_ARRAY_DOUBLE_INDEX_SCALE", type := .int, accessFlags := 25, slot := 9, constantValue := 0 }, { name := "LOG2_BYTE_BIT_SIZE", type := .int, accessFlags := 26, slot := 10, constantValue := 0 }, { name := "T_BOOLEAN", type := .int, accessFlags := 25, slot := 11, constantValue := 0 }, { name := "T_CHAR", type := .int, accessFlags := 25, slot := 12, constantValue := 0 }, { name := "T_FLOAT", type := .int, accessFlags := 25, slot := 13, constantValue := 0 }, { name := "T_DOUBLE", type := .int, accessFlags := 25, slot := 14, constantValue := 0 }, { name := "T_BYTE", type := .int, accessFlags := 25, slot := 15, constantValue := 0 }, { name := "T_SHORT", type := .int, accessFlags := 25, slot := 16, constantValue := 0 }, { name := "T_INT", type := .int, accessFlags := 25, slot := 17, constantValue := 0 }, { name := "T_LONG", type := .int, accessFlags := 25, slot := 18, constantValue := 0 }, { name := "JLA", type := (.object "jdk/internal/access/JavaLangAccess"), accessFlags := 26, slot := 19, constantValue := 0 }, { name := "SOFT_MAX_ARRAY_LENGTH", type := .int, accessFlags := 25, slot := 20, constantValue := 0 }]
  methods := #[k15m0]
  instanceTypes := #[]
  staticTypes := #[(.object "jdk/internal/misc/Unsafe"), .boolean, .int, .int, .int, .int, .int, .int, .int, .int, .int, .int, .int, .int, .int, .int, .int, .int, .int, (.object "jdk/internal/access/JavaLangAccess"), .int]
  resolved := Array.replicate 378 none
  statics := none }

/-- the primitive byte -/
def k16 : Class := { plain "byte" none with kind := .primitive 'B', accessFlags := 0x411 }
/-- [B -/
def k17 : Class := { plain "[B" (some 0) with kind := .array 16 .byte, interfaces := #[13, 2], accessFlags := 1041 }

/-- the primitive char -/
def k18 : Class := { plain "char" none with kind := .primitive 'C', accessFlags := 0x411 }
/-- [C -/
def k19 : Class := { plain "[C" (some 0) with kind := .array 18 .char, interfaces := #[13, 2], accessFlags := 1041 }

/-- the primitive int -/
def k20 : Class := { plain "int" none with kind := .primitive 'I', accessFlags := 0x411 }
/-- [I -/
def k21 : Class := { plain "[I" (some 0) with kind := .array 20 .int, interfaces := #[13, 2], accessFlags := 1041 }

/-- [Lcom/example/re_thread/rethread/eval/Measure; -/
def k22 : Class := { plain "[Lcom/example/re_thread/rethread/eval/Measure;" (some 0) with kind := .array 12 (.object "com/example/re_thread/rethread/eval/Measure"), interfaces := #[13, 2], accessFlags := 1041 }

def heap : Heap := #[{ cls := 7, slots := #[.long 0, .int 1, .null, .int 0, .null, .int 0, .int 0], vm := .statics 7 },
  { cls := 9, slots := #[.null, .null, .null], vm := .statics 9 },
  { cls := 12, slots := #[.ref 16, .ref 17, .ref 18, .ref 19, .ref 20, .ref 21, .ref 3], vm := .statics 12 },
  { cls := 22, slots := #[.ref 16, .ref 17, .ref 18, .ref 19, .ref 20, .ref 21], vm := .none },
  { cls := 17, slots := #[.int 77, .int 65, .int 80], vm := .none },
  { cls := 17, slots := #[.int 77, .int 82, .int 82], vm := .none },
  { cls := 17, slots := #[.int 80, .int 64, .int 49, .int 48], vm := .none },
  { cls := 17, slots := #[.int 110, .int 68, .int 67, .int 71, .int 64, .int 49, .int 48], vm := .none },
  { cls := 17, slots := #[.int 82, .int 64, .int 49, .int 48], vm := .none },
  { cls := 17, slots := #[.int 82, .int 64, .int 49, .int 48, .int 48], vm := .none },
  { cls := 7, slots := #[.ref 4, .int 0, .int 0, .int 0], vm := .none },
  { cls := 7, slots := #[.ref 5, .int 0, .int 0, .int 0], vm := .none },
  { cls := 7, slots := #[.ref 6, .int 0, .int 0, .int 0], vm := .none },
  { cls := 7, slots := #[.ref 7, .int 0, .int 0, .int 0], vm := .none },
  { cls := 7, slots := #[.ref 8, .int 0, .int 0, .int 0], vm := .none },
  { cls := 7, slots := #[.ref 9, .int 0, .int 0, .int 0], vm := .none },
  { cls := 12, slots := #[.null, .int 0, .int 0, .ref 10, .int 0, .null], vm := .none },
  { cls := 12, slots := #[.null, .int 0, .int 0, .ref 11, .int 0, .null], vm := .none },
  { cls := 12, slots := #[.null, .int 0, .int 0, .ref 12, .int 0, .null], vm := .none },
  { cls := 12, slots := #[.null, .int 0, .int 0, .ref 13, .int 0, .null], vm := .none },
  { cls := 12, slots := #[.null, .int 0, .int 0, .ref 14, .int 0, .null], vm := .none },
  { cls := 12, slots := #[.null, .int 0, .int 0, .ref 15, .int 0, .null], vm := .none }]
def classes : Array Class := #[k0, k1, k2, k3, k4, k5, k6, k7, k8, k9, k10, k11, k12, k13, k14, k15, k16, k17, k18, k19, k20, k21, k22]
def interned : List (Array UInt16 × Addr) := []
def slotsUsed : Nat := 109
def theMethod : MethodId := ⟨1, 1⟩
def args0 : Array Value := #[.int 5, .int 7, .int 3, .int 9]
def aboutOver (below : List Frame) : State where
  vm := { classes := classes, interned := interned.toArray }
  heap := heap
  slotsUsed := slotsUsed
  threads := #[{ frames := .invoking theMethod args0 :: below }]
def below0 : List Frame := [.native { method := ⟨0, 0⟩, args := #[] }]
def about1 : State := aboutOver below0
def p0 : Program := .bare "" "" ""
def e0 : Env := launch0.env 0 0 0
theorem w_frames : about1.frames = Frame.invoking theMethod args0 :: below0 := rfl
set_option maxRecDepth 65536 in
theorem w_args : argsFit about1.vm theMethod args0 = true := by decide +kernel
set_option maxRecDepth 65536 in
theorem w_heap : heapFits about1 = true := by decide +kernel
set_option maxRecDepth 65536 in
theorem w_runnable : about1.curStatus? = some .runnable := by decide +kernel
set_option maxRecDepth 65536 in
theorem w_alone : about1.alone = true := by decide +kernel
set_option maxRecDepth 65536 in
theorem w_named : about1.methodNamed? x = some theMethod := by decide +kernel
set_option maxRecDepth 65536 in
theorem w_hears : about1.hears theMethod below0 = true := by decide +kernel
set_option maxRecDepth 65536 in
theorem w_ripe : about1.ripe theMethod args0 below0 = true := by decide +kernel
theorem w_running : about1.status = .running := rfl
set_option maxRecDepth 65536 in
theorem w_room : about1.hasRoom e0.platform room_1 = true :=
  launch0.hasRoom_least _ room_1 (by decide +kernel) (by decide +kernel) (by decide +kernel) (by decide +kernel) (by decide +kernel) (by decide +kernel)
theorem allAtoms_all (ts : List Jvm.Cond) (a : Array Jvm.Value) (st : Jvm.State) : (allAtoms ts).before a st = ts.all (fun c => c.before a st) := by
  induction ts with
  | nil => rfl
  | cons c t ih =>
    show (Jvm.Cond.and c (allAtoms t)).before a st = _
    rw [Jvm.Cond.before_and, ih, List.all_cons]
def words1 : List Jvm.Cond := Jvm.Cond.code x code maxLocals ret :: tables_1
/-- a 'code' word, met by the world's own term for the bytes: nothing is compared byte by byte -/
theorem code_word {y : MethodName} {bytes : ByteArray} {mx : Nat} {rt : Option FieldType} {a : Array Value} {s : State} {m : MethodId} {meth : Method} {c : Code} (h1 : s.methodNamed? y = some m) (h2 : s.vm.method? m = some meth) (h3 : meth.code = some c) (h4 : c.code = bytes)
    (h5 : (c.maxLocals == mx && c.exceptionTable.isEmpty && decide (c.maxStack ≤ mostOperands) && decide (meth.sig.returnType = rt) && !meth.locks && decide (parseMethodDescriptor y.desc = some meth.sig)) = true) : (Jvm.Cond.code y bytes mx rt).before a s = true := by
  simp only [Bool.and_eq_true, beq_iff_eq, Bool.not_eq_true', decide_eq_true_eq] at h5
  obtain ⟨⟨⟨⟨⟨g1, g2⟩, g3⟩, g4⟩, g5⟩, g6⟩ := h5
  simp [Cond.before, Cond.holds, Cond.value, h1, h2, h3, h4, g1, g2, g3, g4, g5, g6]
def isCode : Jvm.Cond → Bool
  | .code _ _ _ _ => true
  | _ => false
theorem all_split {L : List Jvm.Cond} {P : Jvm.Cond → Bool} (h1 : L.all (fun c => isCode c || P c) = true) (h2 : ∀ c ∈ L.filter isCode, P c = true) : L.all P = true := by
  refine List.all_eq_true.mpr fun c hc => ?_
  have h := List.all_eq_true.mp h1 c hc
  rcases Bool.eq_false_or_eq_true (isCode c) with hi | hi
  · exact h2 c (List.mem_filter.mpr ⟨hc, hi⟩)
  · simpa [hi] using h
set_option maxRecDepth 65536 in
theorem w_c0 : (Jvm.Cond.code x code maxLocals ret).before args0 about1 = true := code_word (m := ⟨1, 1⟩) (meth := k1m1) (c := k1c1) (by decide +kernel) rfl rfl rfl (by decide +kernel)
set_option maxRecDepth 65536 in
theorem w_c1 : (Jvm.Cond.code ({ cls := "com/example/re_thread/rethread/eval/MeasureLabelledPinLaw", name := "labelText", desc := "(I)Ljava/lang/String;" } : Jvm.MethodName) method_3_code (1 : Nat) (Option.some (Jvm.ClassFile.FieldType.object "java/lang/String"))).before args0 about1 = true := code_word (m := ⟨1, 2⟩) (meth := k1m2) (c := k1c2) (by decide +kernel) rfl rfl rfl (by decide +kernel)
set_option maxRecDepth 65536 in
theorem w_c2 : (Jvm.Cond.code ({ cls := "java/lang/String", name := "length", desc := "()I" } : Jvm.MethodName) jdk_42_method_54_code (1 : Nat) (Option.some Jvm.ClassFile.FieldType.int)).before args0 about1 = true := code_word (m := ⟨7, 2⟩) (meth := k7m2) (c := k7c2) (by decide +kernel) rfl rfl rfl (by decide +kernel)
set_option maxRecDepth 65536 in
theorem w_c3 : (Jvm.Cond.code ({ cls := "java/lang/String", name := "coder", desc := "()B" } : Jvm.MethodName) jdk_42_method_152_code (1 : Nat) (Option.some Jvm.ClassFile.FieldType.byte)).before args0 about1 = true := code_word (m := ⟨7, 6⟩) (meth := k7m6) (c := k7c6) (by decide +kernel) rfl rfl rfl (by decide +kernel)
set_option maxRecDepth 65536 in
theorem w_c4 : (Jvm.Cond.code ({ cls := "java/lang/String", name := "charAt", desc := "(I)C" } : Jvm.MethodName) jdk_42_method_56_code (2 : Nat) (Option.some Jvm.ClassFile.FieldType.char)).before args0 about1 = true := code_word (m := ⟨7, 3⟩) (meth := k7m3) (c := k7c3) (by decide +kernel) rfl rfl rfl (by decide +kernel)
set_option maxRecDepth 65536 in
theorem w_c5 : (Jvm.Cond.code ({ cls := "java/lang/String", name := "isLatin1", desc := "()Z" } : Jvm.MethodName) jdk_42_method_154_code (1 : Nat) (Option.some Jvm.ClassFile.FieldType.boolean)).before args0 about1 = true := code_word (m := ⟨7, 7⟩) (meth := k7m7) (c := k7c7) (by decide +kernel) rfl rfl rfl (by decide +kernel)
set_option maxRecDepth 65536 in
theorem w_c6 : (Jvm.Cond.code ({ cls := "java/lang/StringLatin1", name := "charAt", desc := "([BI)C" } : Jvm.MethodName) jdk_43_method_2_code (2 : Nat) (Option.some Jvm.ClassFile.FieldType.char)).before args0 about1 = true := code_word (m := ⟨8, 1⟩) (meth := k8m1) (c := k8c1) (by decide +kernel) rfl rfl rfl (by decide +kernel)
set_option maxRecDepth 65536 in
theorem w_c7 : (Jvm.Cond.code ({ cls := "java/lang/String", name := "checkIndex", desc := "(II)V" } : Jvm.MethodName) jdk_42_method_155_code (2 : Nat) (Option.none : Option Jvm.ClassFile.FieldType)).before args0 about1 = true := code_word (m := ⟨7, 8⟩) (meth := k7m8) (c := k7c8) (by decide +kernel) rfl rfl rfl (by decide +kernel)
set_option maxRecDepth 65536 in
theorem w_c8 : (Jvm.Cond.code ({ cls := "jdk/internal/util/Preconditions", name := "checkIndex", desc := "(IILjava/util/function/BiFunction;)I" } : Jvm.MethodName) jdk_41_method_11_code (3 : Nat) (Option.some Jvm.ClassFile.FieldType.int)).before args0 about1 = true := code_word (m := ⟨9, 1⟩) (meth := k9m1) (c := k9c1) (by decide +kernel) rfl rfl rfl (by decide +kernel)
set_option maxRecDepth 65536 in
theorem w_c9 : (Jvm.Cond.code ({ cls := "java/lang/String", name := "<init>", desc := "([C)V" } : Jvm.MethodName) jdk_42_method_3_code (2 : Nat) (Option.none : Option Jvm.ClassFile.FieldType)).before args0 about1 = true := code_word (m := ⟨7, 1⟩) (meth := k7m1) (c := k7c1) (by decide +kernel) rfl rfl rfl (by decide +kernel)
set_option maxRecDepth 65536 in
theorem w_c10 : (Jvm.Cond.code ({ cls := "java/lang/String", name := "<init>", desc := "([CIILjava/lang/Void;)V" } : Jvm.MethodName) jdk_42_method_149_code (6 : Nat) (Option.none : Option Jvm.ClassFile.FieldType)).before args0 about1 = true := code_word (m := ⟨7, 5⟩) (meth := k7m5) (c := k7c5) (by decide +kernel) rfl rfl rfl (by decide +kernel)
set_option maxRecDepth 65536 in
theorem w_c11 : (Jvm.Cond.code ({ cls := "java/lang/Object", name := "<init>", desc := "()V" } : Jvm.MethodName) object_method_1_code (1 : Nat) (Option.none : Option Jvm.ClassFile.FieldType)).before args0 about1 = true := code_word (m := ⟨0, 0⟩) (meth := k0m0) (c := k0c0) (by decide +kernel) rfl rfl rfl (by decide +kernel)
set_option maxRecDepth 65536 in
theorem w_c12 : (Jvm.Cond.code ({ cls := "java/lang/StringUTF16", name := "compress", desc := "([CII)[B" } : Jvm.MethodName) jdk_52_method_16_code (6 : Nat) (Option.some (Jvm.ClassFile.FieldType.array Jvm.ClassFile.FieldType.byte))).before args0 about1 = true := code_word (m := ⟨10, 2⟩) (meth := k10m2) (c := k10c2) (by decide +kernel) rfl rfl rfl (by decide +kernel)
set_option maxRecDepth 65536 in
theorem w_c13 : (Jvm.Cond.code ({ cls := "java/lang/StringUTF16", name := "compress", desc := "([CI[BII)I" } : Jvm.MethodName) jdk_52_method_21_code (7 : Nat) (Option.some Jvm.ClassFile.FieldType.int)).before args0 about1 = true := code_word (m := ⟨10, 3⟩) (meth := k10m3) (c := k10c3) (by decide +kernel) rfl rfl rfl (by decide +kernel)
set_option maxRecDepth 65536 in
theorem w_c14 : (Jvm.Cond.code ({ cls := "java/lang/StringUTF16", name := "coderFromArrayLen", desc := "([BI)B" } : Jvm.MethodName) jdk_52_method_15_code (2 : Nat) (Option.some Jvm.ClassFile.FieldType.byte)).before args0 about1 = true := code_word (m := ⟨10, 1⟩) (meth := k10m1) (c := k10c1) (by decide +kernel) rfl rfl rfl (by decide +kernel)
set_option maxRecDepth 65536 in
theorem w_c15 : (Jvm.Cond.code ({ cls := "com/example/re_thread/rethread/eval/Measure", name := "labelled", desc := "(Ljava/lang/String;)Lcom/example/re_thread/rethread/eval/Measure;" } : Jvm.MethodName) prog_6_method_6_code (5 : Nat) (Option.some (Jvm.ClassFile.FieldType.object "com/example/re_thread/rethread/eval/Measure"))).before args0 about1 = true := code_word (m := ⟨12, 1⟩) (meth := k12m1) (c := k12c1) (by decide +kernel) rfl rfl rfl (by decide +kernel)
set_option maxRecDepth 65536 in
theorem w_c16 : (Jvm.Cond.code ({ cls := "com/example/re_thread/rethread/eval/Measure", name := "values", desc := "()[Lcom/example/re_thread/rethread/eval/Measure;" } : Jvm.MethodName) prog_6_method_1_code (0 : Nat) (Option.some (Jvm.ClassFile.FieldType.array (Jvm.ClassFile.FieldType.object "com/example/re_thread/rethread/eval/Measure")))).before args0 about1 = true := code_word (m := ⟨12, 0⟩) (meth := k12m0) (c := k12c0) (by decide +kernel) rfl rfl rfl (by decide +kernel)
set_option maxRecDepth 65536 in
theorem w_c17 : (Jvm.Cond.code ({ cls := "java/lang/String", name := "equals", desc := "(Ljava/lang/Object;)Z" } : Jvm.MethodName) jdk_42_method_66_code (3 : Nat) (Option.some Jvm.ClassFile.FieldType.boolean)).before args0 about1 = true := code_word (m := ⟨7, 4⟩) (meth := k7m4) (c := k7c4) (by decide +kernel) rfl rfl rfl (by decide +kernel)
set_option maxRecDepth 65536 in
theorem w_c18 : (Jvm.Cond.code ({ cls := "java/lang/StringLatin1", name := "equals", desc := "([B[B)Z" } : Jvm.MethodName) jdk_43_method_13_code (3 : Nat) (Option.some Jvm.ClassFile.FieldType.boolean)).before args0 about1 = true := code_word (m := ⟨8, 2⟩) (meth := k8m2) (c := k8c2) (by decide +kernel) rfl rfl rfl (by decide +kernel)
set_option maxRecDepth 65536 in
theorem w_c19 : (Jvm.Cond.code ({ cls := "com/example/re_thread/rethread/eval/MeasureLabelledPinLaw", name := "expected", desc := "(Ljava/lang/String;)Lcom/example/re_thread/rethread/eval/Measure;" } : Jvm.MethodName) method_4_code (1 : Nat) (Option.some (Jvm.ClassFile.FieldType.object "com/example/re_thread/rethread/eval/Measure"))).before args0 about1 = true := code_word (m := ⟨1, 3⟩) (meth := k1m3) (c := k1c3) (by decide +kernel) rfl rfl rfl (by decide +kernel)
set_option maxRecDepth 65536 in
theorem w_c20 : (Jvm.Cond.code ({ cls := "java/lang/Math", name := "max", desc := "(II)I" } : Jvm.MethodName) jdk_29_method_65_code (2 : Nat) (Option.some Jvm.ClassFile.FieldType.int)).before args0 about1 = true := code_word (m := ⟨14, 1⟩) (meth := k14m1) (c := k14c1) (by decide +kernel) rfl rfl rfl (by decide +kernel)
def codes1 : List Jvm.Cond := [Jvm.Cond.code x code maxLocals ret, Jvm.Cond.code ({ cls := "com/example/re_thread/rethread/eval/MeasureLabelledPinLaw", name := "labelText", desc := "(I)Ljava/lang/String;" } : Jvm.MethodName) method_3_code (1 : Nat) (Option.some (Jvm.ClassFile.FieldType.object "java/lang/String")), Jvm.Cond.code ({ cls := "java/lang/String", name := "length", desc := "()I" } : Jvm.MethodName) jdk_42_method_54_code (1 : Nat) (Option.some Jvm.ClassFile.FieldType.int), Jvm.Cond.code ({ cls := "java/lang/String", name := "coder", desc := "()B" } : Jvm.MethodName) jdk_42_method_152_code (1 : Nat) (Option.some Jvm.ClassFile.FieldType.byte), Jvm.Cond.code ({ cls := "java/lang/String", name := "charAt", desc := "(I)C" } : Jvm.MethodName) jdk_42_method_56_code (2 : Nat) (Option.some Jvm.ClassFile.FieldType.char), Jvm.Cond.code ({ cls := "java/lang/String", name := "isLatin1", desc := "()Z" } : Jvm.MethodName) jdk_42_method_154_code (1 : Nat) (Option.some Jvm.ClassFile.FieldType.boolean), Jvm.Cond.code ({ cls := "java/lang/StringLatin1", name := "charAt", desc := "([BI)C" } : Jvm.MethodName) jdk_43_method_2_code (2 : Nat) (Option.some Jvm.ClassFile.FieldType.char), Jvm.Cond.code ({ cls := "java/lang/String", name := "checkIndex", desc := "(II)V" } : Jvm.MethodName) jdk_42_method_155_code (2 : Nat) (Option.none : Option Jvm.ClassFile.FieldType), Jvm.Cond.code ({ cls := "jdk/internal/util/Preconditions", name := "checkIndex", desc := "(IILjava/util/function/BiFunction;)I" } : Jvm.MethodName) jdk_41_method_11_code (3 : Nat) (Option.some Jvm.ClassFile.FieldType.int), Jvm.Cond.code ({ cls := "java/lang/String", name := "<init>", desc := "([C)V" } : Jvm.MethodName) jdk_42_method_3_code (2 : Nat) (Option.none : Option Jvm.ClassFile.FieldType), Jvm.Cond.code ({ cls := "java/lang/String", name := "<init>", desc := "([CIILjava/lang/Void;)V" } : Jvm.MethodName) jdk_42_method_149_code (6 : Nat) (Option.none : Option Jvm.ClassFile.FieldType), Jvm.Cond.code ({ cls := "java/lang/Object", name := "<init>", desc := "()V" } : Jvm.MethodName) object_method_1_code (1 : Nat) (Option.none : Option Jvm.ClassFile.FieldType), Jvm.Cond.code ({ cls := "java/lang/StringUTF16", name := "compress", desc := "([CII)[B" } : Jvm.MethodName) jdk_52_method_16_code (6 : Nat) (Option.some (Jvm.ClassFile.FieldType.array Jvm.ClassFile.FieldType.byte)), Jvm.Cond.code ({ cls := "java/lang/StringUTF16", name := "compress", desc := "([CI[BII)I" } : Jvm.MethodName) jdk_52_method_21_code (7 : Nat) (Option.some Jvm.ClassFile.FieldType.int), Jvm.Cond.code ({ cls := "java/lang/StringUTF16", name := "coderFromArrayLen", desc := "([BI)B" } : Jvm.MethodName) jdk_52_method_15_code (2 : Nat) (Option.some Jvm.ClassFile.FieldType.byte), Jvm.Cond.code ({ cls := "com/example/re_thread/rethread/eval/Measure", name := "labelled", desc := "(Ljava/lang/String;)Lcom/example/re_thread/rethread/eval/Measure;" } : Jvm.MethodName) prog_6_method_6_code (5 : Nat) (Option.some (Jvm.ClassFile.FieldType.object "com/example/re_thread/rethread/eval/Measure")), Jvm.Cond.code ({ cls := "com/example/re_thread/rethread/eval/Measure", name := "values", desc := "()[Lcom/example/re_thread/rethread/eval/Measure;" } : Jvm.MethodName) prog_6_method_1_code (0 : Nat) (Option.some (Jvm.ClassFile.FieldType.array (Jvm.ClassFile.FieldType.object "com/example/re_thread/rethread/eval/Measure"))), Jvm.Cond.code ({ cls := "java/lang/String", name := "equals", desc := "(Ljava/lang/Object;)Z" } : Jvm.MethodName) jdk_42_method_66_code (3 : Nat) (Option.some Jvm.ClassFile.FieldType.boolean), Jvm.Cond.code ({ cls := "java/lang/StringLatin1", name := "equals", desc := "([B[B)Z" } : Jvm.MethodName) jdk_43_method_13_code (3 : Nat) (Option.some Jvm.ClassFile.FieldType.boolean), Jvm.Cond.code ({ cls := "com/example/re_thread/rethread/eval/MeasureLabelledPinLaw", name := "expected", desc := "(Ljava/lang/String;)Lcom/example/re_thread/rethread/eval/Measure;" } : Jvm.MethodName) method_4_code (1 : Nat) (Option.some (Jvm.ClassFile.FieldType.object "com/example/re_thread/rethread/eval/Measure")), Jvm.Cond.code ({ cls := "java/lang/Math", name := "max", desc := "(II)I" } : Jvm.MethodName) jdk_29_method_65_code (2 : Nat) (Option.some Jvm.ClassFile.FieldType.int)]
set_option maxRecDepth 65536 in
theorem codes_eq : words1.filter isCode = codes1 := rfl
theorem w_codes : ∀ c ∈ words1.filter isCode, c.before args0 about1 = true := by
  rw [codes_eq]
  intro c hc
  simp only [codes1, List.mem_cons, List.not_mem_nil, or_false] at hc
  rcases hc with rfl | rfl | rfl | rfl | rfl | rfl | rfl | rfl | rfl | rfl | rfl | rfl | rfl | rfl | rfl | rfl | rfl | rfl | rfl | rfl | rfl
  · exact w_c0
  · exact w_c1
  · exact w_c2
  · exact w_c3
  · exact w_c4
  · exact w_c5
  · exact w_c6
  · exact w_c7
  · exact w_c8
  · exact w_c9
  · exact w_c10
  · exact w_c11
  · exact w_c12
  · exact w_c13
  · exact w_c14
  · exact w_c15
  · exact w_c16
  · exact w_c17
  · exact w_c18
  · exact w_c19
  · exact w_c20
set_option maxRecDepth 65536 in
theorem w_t1 : (words1.take 24).all (fun c => isCode c || c.before args0 about1) = true := by decide +kernel
set_option maxRecDepth 65536 in
theorem w_t2 : ((words1.drop 24).take 24).all (fun c => isCode c || c.before args0 about1) = true := by decide +kernel
set_option maxRecDepth 65536 in
theorem w_t3 : (((words1.drop 24).drop 24).take 24).all (fun c => isCode c || c.before args0 about1) = true := by decide +kernel
set_option maxRecDepth 65536 in
theorem w_t4 : ((((words1.drop 24).drop 24).drop 24).take 24).all (fun c => isCode c || c.before args0 about1) = true := by decide +kernel
set_option maxRecDepth 65536 in
theorem w_t5 : (((((words1.drop 24).drop 24).drop 24).drop 24).take 24).all (fun c => isCode c || c.before args0 about1) = true := by decide +kernel
set_option maxRecDepth 65536 in
theorem w_t6 : (((((words1.drop 24).drop 24).drop 24).drop 24).drop 24).all (fun c => isCode c || c.before args0 about1) = true := by decide +kernel
theorem w_tables : (allAtoms (Jvm.Cond.code x code maxLocals ret :: tables_1)).before args0 about1 = true := by
  rw [allAtoms_all]
  show words1.all (fun c => c.before args0 about1) = true
  refine all_split ?_ w_codes
  rw [← List.take_append_drop 24 words1, List.all_append, w_t1, ← List.take_append_drop 24 (words1.drop 24), List.all_append, w_t2, ← List.take_append_drop 24 ((words1.drop 24).drop 24), List.all_append, w_t3, ← List.take_append_drop 24 (((words1.drop 24).drop 24).drop 24), List.all_append, w_t4, ← List.take_append_drop 24 ((((words1.drop 24).drop 24).drop 24).drop 24), List.all_append, w_t5, w_t6]
  rfl
set_option maxRecDepth 65536 in
theorem w_rest : rest_1_c.before args0 about1 = true := by decide +kernel
set_option maxRecDepth 65536 in
theorem w_case : (Jvm.Cond.and given_1 narrow_1).before args0 about1 = true := by decide +kernel
set_option maxRecDepth 65536 in
theorem w_consts : constsHeld consts_1 about1 := Jvm.Lit.constsHeldB_iff.mp (by decide +kernel)
theorem w_applies : (headSpec (Jvm.Cond.code x code maxLocals ret :: tables_1) room_1).applies x e0.platform about1 = true :=
  (Spec.applies_iff w_frames).mpr ⟨w_running, w_runnable, w_alone, w_named, w_hears, w_ripe, w_room, w_tables⟩
theorem atStart : AtStart classFile x code maxLocals ret World_1 tables_1 room_1 Calls_1 rest_1 Pre_1 launch0 p0 e0 about1 theMethod args0 below0 :=
  ⟨lists_1, trivial, launch0.admits_env _ _ _, launch0.least_env, fairChoices_fair.cas, fairChoices_fair.clock, w_frames, w_args, w_heap, w_applies, ⟨w_consts, trivial⟩, w_rest, w_case⟩
end start1
theorem witness_1 : WitnessClaimed_1 := ⟨start1.p0, start1.e0, start1.about1, start1.theMethod, start1.args0, start1.below0, start1.atStart⟩
end Jvm.Pilot.@@N@@
