import JvmDerived
import JvmDerived.Pilot.@@N@@Statement
import JvmDerived.Pilot.@@N@@Code
set_option linter.unusedVariables false
set_option linter.unusedSimpArgs false
namespace Jvm.Pilot.@@N@@
namespace Own
open Jvm Jvm.ClassFile Sem Op Lib Jvm.Free Jvm.Stand Jvm.LawKit Jvm.RoadKit Bundle
section Base
variable {p : Program} {l : Launch} {e : Env} {R : Room} {s : State} {m : MethodId} {args : Array Value} {below : List Frame} {meth : Method} {c : Code} {Z : State} {a0 : Array Value} {EL : List (String × Nat)} {own : String} {ws : List Addr} {T : State} {h : Heap} {sf : List Addr} {lts : List (Nat × Addr)} {cells slots : Nat} {P : Option Value → State → Prop} {pc : Nat} {Ls : Array Slot} {rest : List Value}

/-- from the frame g the method's invocation comes back, and P holds of what it returns and of the state behind it -/
def Go (p : Program) (e : Env) (below : List Frame) (P : Option Value → State → Prop) (T : State) (g : JFrame) : Prop :=
  ∃ (U : State) (v : Option Value), Steps p.tables e below (T.setTop g) U ∧ U.status = .running ∧ Ended U below (.returned v) ∧ P v U

theorem Go.of {T' : State} {g g' : JFrame} (st : ∀ t, Steps p.tables e below (T'.setTop g') t → Steps p.tables e below (T.setTop g) t) (k : Go p e below P T' g') : Go p e below P T g := by
  obtain ⟨U, v, h1, h2⟩ := k
  exact ⟨U, v, st _ h1, h2⟩

theorem Go.cast {g g' : JFrame} (q : g = g') (k : Go p e below P T g') : Go p e below P T g := q ▸ k

/-- where a walk stands: T with heap h; the tables may have interned since the start (Since), the literals of EL hold what they spell (CHr), nothing is written but in fresh cells (Fr, Ext), nothing of the start's heap but ws (Keep), and the addresses sf are no literal's -/
def Wk (p : Program) (l : Launch) (e : Env) (R : Room) (s : State) (m : MethodId) (args : Array Value) (below : List Frame) (meth : Method) (c : Code) (Z : State) (a0 : Array Value) (EL : List (String × Nat)) (own : String) (ws : List Addr) (T : State) (h : Heap) (sf : List Addr) (lts : List (Nat × Addr)) (cells slots : Nat) : Prop :=
  p.tables.exec = Jvm.exec ∧ EW Z a0 EL ∧ ∃ (vm0 : Vm) (k0 : Nat) (locs : List Loc), Stand p l e R (s.setVm vm0) m args below meth c T locs cells slots ∧ T.heap = h ∧ s.Since vm0 k0 ∧ k0 ≤ h.size ∧ Z.Warmed39 vm0 ∧ vm0.findClass own = some m.cls ∧ CHr Z EL s.vm s.heap vm0 h ∧ Fr Z.heap.size locs ∧ Ext Z.heap h ∧ Keep s.heap h ws ∧ (∀ x ∈ sf, x < h.size ∧ Safe Z EL vm0 h x) ∧ ∀ q ∈ lts, Lit (s.setVm vm0) own q.1 q.2

/-- what is left when the method has come back -/
def Pst (R : Room) (s Z : State) (EL : List (String × Nat)) (ws : List Addr) (Q : Option Value → (Addr → Prop) → Heap → Prop) (v : Option Value) (U : State) : Prop :=
  ∃ L, (Q v (Safe Z EL U.vm U.heap) U.heap ∧ Fr Z.heap.size L ∧ Ext Z.heap U.heap ∧ Keep s.heap U.heap ws) ∧ CHr Z EL s.vm s.heap U.vm U.heap ∧ ReturnedEndW s (.returned v) U L R.cells R.slots

/-- a method's contract -/
def Met (l : Launch) (Z : State) (EL : List (String × Nat)) (y : MethodName) (bytes : ByteArray) (maxL : Nat) (ret : Option FieldType) (rm : Room) (as' : Array Value) (h : Heap) (ws si : List Addr) (Q : Option Value → (Addr → Prop) → Heap → Prop) : Prop :=
  ∀ wsx : List Jvm.Cond, MetFree l y (head1 (Jvm.Cond.code y bytes maxL ret :: wsx) rm)
    (fun a U => a = as' ∧ Z.Warmed39 U.vm ∧ U.heap = h ∧ CHv Z EL U.vm h ∧ Ext Z.heap h ∧ ∀ x ∈ si, x < h.size ∧ Safe Z EL U.vm h x) (fun _ _ _ _ _ => True)
    (fun _ U o U' => ∃ v L, o = .returned v ∧ (Q v (Safe Z EL U'.vm U'.heap) U'.heap ∧ Fr Z.heap.size L ∧ Ext Z.heap U'.heap ∧ Keep U.heap U'.heap ws) ∧ CHr Z EL U.vm U.heap U'.vm U'.heap ∧ ReturnedEndW U o U' L rm.cells rm.slots)

theorem Wk.hh (X : Wk p l e R s m args below meth c Z a0 EL own ws T h sf lts cells slots) : At T m c below := by
  obtain ⟨-, -, _, _, _, X, -⟩ := X
  exact X.here
theorem Wk.hx (X : Wk p l e R s m args below meth c Z a0 EL own ws T h sf lts cells slots) : p.tables.exec = Jvm.exec := X.1
theorem Wk.ext0 (X : Wk p l e R s m args below meth c Z a0 EL own ws T h sf lts cells slots) : Ext Z.heap h := by
  obtain ⟨-, -, _, _, _, -, -, -, -, -, -, -, -, q, -⟩ := X
  exact q
theorem Wk.keep0 (X : Wk p l e R s m args below meth c Z a0 EL own ws T h sf lts cells slots) : Keep s.heap h ws := by
  obtain ⟨-, -, _, _, _, -, -, -, -, -, -, -, -, -, q, -⟩ := X
  exact q
theorem Wk.mono {cells' slots' : Nat} (X : Wk p l e R s m args below meth c Z a0 EL own ws T h sf lts cells slots) (hc : cells ≤ cells') (hs : slots ≤ slots') : Wk p l e R s m args below meth c Z a0 EL own ws T h sf lts cells' slots' := by
  obtain ⟨hx, hEL, vm0, k0, locs, X, q⟩ := X
  exact ⟨hx, hEL, vm0, k0, locs, { X with same := X.same.mono hc hs }, q⟩
theorem Wk.less {sf' : List Addr} (X : Wk p l e R s m args below meth c Z a0 EL own ws T h sf lts cells slots) (q : ∀ x ∈ sf', x ∈ sf) : Wk p l e R s m args below meth c Z a0 EL own ws T h sf' lts cells slots := by
  obtain ⟨hx, hEL, vm0, k0, locs, X, a1, a2, a3, a4, a5, a6, a7, a8, a9, a10, a11⟩ := X
  exact ⟨hx, hEL, vm0, k0, locs, X, a1, a2, a3, a4, a5, a6, a7, a8, a9, fun x hx => a10 x (q x hx), a11⟩

/-- why x is no literal's cell -/
def Sfe (Z : State) (h : Heap) (sf : List Addr) (a : Addr) : Prop := a ∈ sf ∨ (∃ C, Exa Z h a C ∧ C ≠ "java/lang/String" ∧ C ≠ "[B") ∨ ∃ cl ty, Jvm.RoadKit.Arr Z h a cl ty ∧ ty ≠ .byte
theorem Sfe.mem {a : Addr} (q : a ∈ sf) : Sfe Z h sf a := Or.inl q
theorem Sfe.exa {a : Addr} {C : String} (E : Exa Z h a C) (h1 : C ≠ "java/lang/String" := by decide) (h2 : C ≠ "[B" := by decide) : Sfe Z h sf a := Or.inr (Or.inl ⟨C, E, h1, h2⟩)
theorem Sfe.arv {a : Addr} {k : ClassId} {ty : FieldType} {z : Int32} {vs : List Value} {d : Value} (A : Arv Z h a k ty z vs d) (q : ty ≠ .byte := by decide) : Sfe Z h sf a := by
  obtain ⟨cl, A, -⟩ := A
  exact Or.inr (Or.inr ⟨cl, ty, A, q⟩)
theorem Sfe.safe {vm : Vm} {a : Addr} (S : Sfe Z h sf a) (hal : Z.vm.Alike vm) (hsf : ∀ x ∈ sf, x < h.size ∧ Safe Z EL vm h x) : Safe Z EL vm h a := by
  rcases S with q | ⟨C, E, h1, h2⟩ | ⟨cl, ty, A, q⟩
  · exact (hsf _ q).2
  · exact Safe.exa hal E h1 h2
  · exact Safe.arr hal A q
theorem ext_refl (h : Heap) : Ext h h := ⟨Nat.le_refl _, fun _ _ q => q⟩
theorem ext_trans {h1 h2 h3 : Heap} (A : Ext h1 h2) (B : Ext h2 h3) : Ext h1 h3 := ⟨Nat.le_trans A.1 B.1, fun x c q => B.2 x c (A.2 x c q)⟩
theorem ext_keep {h1 h2 h3 : Heap} {ws : List Addr} (A : Ext h1 h2) (K : Keep h2 h3 ws) (q : ∀ x ∈ ws, h1.size ≤ x) : Ext h1 h3 :=
  ⟨Nat.le_trans A.1 K.1, fun x c r => K.2.1 x c (A.2 x c r) fun z => absurd (Array.getElem?_eq_some_iff.mp r).1 (Nat.not_lt.mpr (q x z))⟩
theorem safe_any {vm vm1 : Vm} (A : CHr Z EL vm h vm1 h) {x : Addr} (S : Safe Z EL vm h x) : Safe Z EL vm1 h x := by
  by_cases q : x < h.size
  · exact A.safe q S
  · exact Safe.new (Nat.le_of_not_lt q)

theorem Met.intro {y : MethodName} {bytes : ByteArray} {maxL : Nat} {ret : Option FieldType} {as' : Array Value} {si : List Addr} {Q : Option Value → (Addr → Prop) → Heap → Prop} (hEL : EW Z a0 EL) (hn : plainName y.cls = true)
    (body : ∀ (p : Program) (e : Env) (s : State) (m : MethodId) (below : List Frame) (meth : Method) (c : Code) (T : State), Wk p l e R s m as' below meth c Z a0 EL y.cls ws T h si [] 0 0 → c.maxLocals = maxL → c.code = bytes → meth.sig.returnType = ret → meth.name = y.name → meth.locks = false → s.heap = h → Go p e below (Pst R s Z EL ws Q) T (entryFrame m as' maxL)) :
    Met l Z EL y bytes maxL ret R as' h ws si Q := by
  intro wsx
  refine MetFree.of_bodySF (plainFor_of_name hn) hisR ?_
  intro p e s m args below meth c s₁ Bd hml0 hP hK
  obtain ⟨rfl, hZ, hh, hCH, hO, hsi⟩ := hP
  have X0 : Stand p l e R s m args below meth c s₁ [] 0 0 := Stand.of_body Bd
  have e0 : s₁.heap = h := by rw [← hh, Bd.state]; rfl
  subst hh
  have W0 : Wk p l e R s m args below meth c Z a0 EL y.cls ws s₁ s.heap si [] 0 0 := ⟨Bd.exec, hEL, s.vm, 0, [], X0, e0, (State.WarmedH.refl s).since 0, Nat.zero_le _, hZ, findClass_of_methodNamed Bd.named, CHr.refl hCH, Fr.nil _, hO, Keep.refl _ _, hsi, fun _ q => nomatch q⟩
  obtain ⟨U, v, h1, h2, h3, L, h4, h5, h6⟩ := body p e s m below meth c s₁ W0 hml0 Bd.bytes Bd.returns (name_of_methodNamed Bd.named Bd.method).1 Bd.notSynchronized rfl
  exact ⟨U, .returned v, h1, h2, h3, v, L, rfl, h4, h5, h6⟩

theorem Wk.ret {Q : Option Value → (Addr → Prop) → Heap → Prop} {g : JFrame} {v : Option Value} (X : Wk p l e R s m args below meth c Z a0 EL own ws T h sf lts cells slots) (hv : meth.sig.returnType = none → v = none) (hlk : meth.locks = false) (hc : cells ≤ R.cells) (hs : slots ≤ R.slots)
    (st : ∀ (vm0 : Vm) (locs : List Loc), Stand p l e R (s.setVm vm0) m args below meth c T locs cells slots → ∀ fs : List Frame, (∀ (f : JFrame) (acts : List Action), f.method = m → f.locked = none → f.entered = [] → (doReturn e (T.setTop f) acts v).1 = T.setFrames fs) → Steps p.tables e below (T.setTop g) (T.setFrames fs))
    (hQ : ∀ S : Addr → Prop, (∀ x ∈ sf, S x) → Q v S h) : Go p e below (Pst R s Z EL ws Q) T g := by
  obtain ⟨hx, hEL, vm0, k0, locs, X, eT, hS, hk, hZ, hown, hC, hN, hO, hK, hsf, hlt⟩ := X
  obtain ⟨fs, h1, h2, h3, h4, h5, h6, h7⟩ := X.leaveW hS (by rw [eT]; exact hk) hv hlk
  have hA := CHv.at X hZ hEL hC.1
  have eU : (T.setFrames fs).heap = h := eT
  have eV : (T.setFrames fs).vm = T.vm := rfl
  refine ⟨T.setFrames fs, v, st vm0 locs X fs h1, h2, h3, locs, ?_, ?_, h4, h5, h6, h7.mono hc hs⟩
  · rw [eU, eV]
    exact ⟨hQ _ fun x hx => safe_any hA (hsf x hx).2, hN, hO, hK⟩
  · rw [eU, eV]
    exact hC.trans hA

theorem Wk.iret {Q : Option Value → (Addr → Prop) → Heap → Prop} {z : Int32} (X : Wk p l e R s m args below meth c Z a0 EL own ws T h sf lts cells slots) (hr : meth.sig.returnType = some .int) (hlk : meth.locks = false) (hc : cells ≤ R.cells) (hs : slots ≤ R.slots) (hd : decode c.code pc = .ok (.ireturn, 1))
    (hQ : ∀ S : Addr → Prop, (∀ x ∈ sf, S x) → Q (some (.int z)) S h) : Go p e below (Pst R s Z EL ws Q) T (mkF m pc Ls (.int z :: rest)) :=
  X.ret (fun q => by rw [hr] at q; cases q) hlk hc hs (fun _ _ Y _ hl => retOut Y X.hx hr rfl (Or.inl ⟨rfl, Or.inl rfl, z, rfl⟩) hd hl) hQ
theorem Wk.nret {Q : Option Value → (Addr → Prop) → Heap → Prop} {z : Int32} {t : FieldType} (X : Wk p l e R s m args below meth c Z a0 EL own ws T h sf lts cells slots) (hr : meth.sig.returnType = some t) (ht : t = .boolean ∨ t = .byte ∨ t = .char ∨ t = .short) (hlk : meth.locks = false) (hc : cells ≤ R.cells) (hs : slots ≤ R.slots) (hd : decode c.code pc = .ok (.ireturn, 1))
    (hQ : ∀ S : Addr → Prop, (∀ x ∈ sf, S x) → Q (some (.int (nar t z))) S h) : Go p e below (Pst R s Z EL ws Q) T (mkF m pc Ls (.int z :: rest)) :=
  X.ret (fun q => by rw [hr] at q; cases q) hlk hc hs (fun _ _ Y _ hl => retN Y X.hx hr ht hd hl) hQ
theorem Wk.lret {Q : Option Value → (Addr → Prop) → Heap → Prop} {z : Int64} (X : Wk p l e R s m args below meth c Z a0 EL own ws T h sf lts cells slots) (hr : meth.sig.returnType = some .long) (hlk : meth.locks = false) (hc : cells ≤ R.cells) (hs : slots ≤ R.slots) (hd : decode c.code pc = .ok (.lreturn, 1))
    (hQ : ∀ S : Addr → Prop, (∀ x ∈ sf, S x) → Q (some (.long z)) S h) : Go p e below (Pst R s Z EL ws Q) T (mkF m pc Ls (.long z :: rest)) :=
  X.ret (fun q => by rw [hr] at q; cases q) hlk hc hs (fun _ _ Y _ hl => retOut Y X.hx hr rfl (Or.inr (Or.inl ⟨rfl, rfl, z, rfl⟩)) hd hl) hQ
theorem Wk.aret {Q : Option Value → (Addr → Prop) → Heap → Prop} {v : Value} {t : FieldType} (X : Wk p l e R s m args below meth c Z a0 EL own ws T h sf lts cells slots) (hr : meth.sig.returnType = some t) (ht : t.isReference = true) (hn : narrow t v = v) (hv : v.isRef = true) (hlk : meth.locks = false) (hc : cells ≤ R.cells) (hs : slots ≤ R.slots) (hd : decode c.code pc = .ok (.areturn, 1))
    (hQ : ∀ S : Addr → Prop, (∀ x ∈ sf, S x) → Q (some v) S h) : Go p e below (Pst R s Z EL ws Q) T (mkF m pc Ls (v :: rest)) :=
  X.ret (fun q => by rw [hr] at q; cases q) hlk hc hs (fun _ _ Y _ hl => retOut Y X.hx hr hn (Or.inr (Or.inr (Or.inr (Or.inr ⟨rfl, ht, hv⟩)))) hd hl) hQ
theorem Wk.vret {Q : Option Value → (Addr → Prop) → Heap → Prop} (X : Wk p l e R s m args below meth c Z a0 EL own ws T h sf lts cells slots) (hr : meth.sig.returnType = none) (hlk : meth.locks = false) (hc : cells ≤ R.cells) (hs : slots ≤ R.slots) (hd : decode c.code pc = .ok (.return_, 1))
    (hQ : ∀ S : Addr → Prop, (∀ x ∈ sf, S x) → Q none S h) : Go p e below (Pst R s Z EL ws Q) T (mkF m pc Ls []) :=
  X.ret (fun _ => rfl) hlk hc hs (fun _ _ Y _ hl => Y.returnOut X.hx hr hd hl) hQ

theorem Wk.getF {n d R0 O host : String} {index : Nat} {a : Addr} {v : Value} (X : Wk p l e R s m args below meth c Z a0 EL own ws T h sf lts cells slots) (w : (Cond.fieldLink own index R0 n d).before a0 Z = true ∨ (Cond.fieldLinkNest own index R0 n d host).before a0 Z = true) (via : Via Z R0 O n d) (F : Fld Z h a O n d v) (hd : decode c.code pc = .ok (.getfield index, 3))
    (k : ∀ T', Wk p l e R s m args below meth c Z a0 EL own ws T' h sf lts cells slots → Go p e below P T' (mkF m (pc + 3) Ls (v :: rest))) : Go p e below P T (mkF m pc Ls (.ref a :: rest)) := by
  obtain ⟨hx, hEL, vm0, k0, locs, X, eT, hS, hk, hZ, hown, q⟩ := X
  obtain ⟨T', X', e', st⟩ := Jvm.RoadKit.getF X hx (s := s.setVm vm0) hZ hown w via eT F (g := mkF m pc Ls (.ref a :: rest)) rfl rfl hd
  exact Go.of st (k T' ⟨hx, hEL, vm0, k0, locs, X', e', hS, hk, hZ, hown, q⟩)

theorem Wk.getS {n d R0 O host : String} {index : Nat} {v : Value} {st : List Value} (X : Wk p l e R s m args below meth c Z a0 EL own ws T h sf lts cells slots) (w : (Cond.fieldLink own index R0 n d).before a0 Z = true ∨ (Cond.fieldLinkNest own index R0 n d host).before a0 Z = true) (via : Via Z R0 O n d) (F : Sta Z h O n d v) (hd : decode c.code pc = .ok (.getstatic index, 3))
    (k : ∀ T', Wk p l e R s m args below meth c Z a0 EL own ws T' h sf lts cells slots → Go p e below P T' (mkF m (pc + 3) Ls (v :: st))) : Go p e below P T (mkF m pc Ls st) := by
  obtain ⟨hx, hEL, vm0, k0, locs, X, eT, hS, hk, hZ, hown, q⟩ := X
  obtain ⟨T', X', e', st'⟩ := getS2 X hx (s := s.setVm vm0) hZ hown w via eT F (g := mkF m pc Ls st) rfl hd
  exact Go.of st' (k T' ⟨hx, hEL, vm0, k0, locs, X', e', hS, hk, hZ, hown, q⟩)

theorem Wk.castY {K : String} {index : Nat} {a : Addr} (X : Wk p l e R s m args below meth c Z a0 EL own ws T h sf lts cells slots) (w : (Cond.classLink own index K).before a0 Z = true) (F : Ins Z h a K true) (hd : decode c.code pc = .ok (.checkcast index, 3))
    (k : ∀ T', Wk p l e R s m args below meth c Z a0 EL own ws T' h sf lts cells slots → Go p e below P T' (mkF m (pc + 3) Ls (.ref a :: rest))) : Go p e below P T (mkF m pc Ls (.ref a :: rest)) := by
  obtain ⟨hx, hEL, vm0, k0, locs, X, eT, hS, hk, hZ, hown, q⟩ := X
  obtain ⟨T', X', e', st'⟩ := Jvm.RoadKit.castY X hx (s := s.setVm vm0) hZ hown w eT F (g := mkF m pc Ls (.ref a :: rest)) rfl rfl hd
  exact Go.of st' (k T' ⟨hx, hEL, vm0, k0, locs, X', e', hS, hk, hZ, hown, q⟩)

theorem Wk.instY {K : String} {index : Nat} {a : Addr} (X : Wk p l e R s m args below meth c Z a0 EL own ws T h sf lts cells slots) (w : (Cond.classLink own index K).before a0 Z = true) (F : Ins Z h a K true) (hd : decode c.code pc = .ok (.instanceof index, 3))
    (k : ∀ T', Wk p l e R s m args below meth c Z a0 EL own ws T' h sf lts cells slots → Go p e below P T' (mkF m (pc + 3) Ls (.int 1 :: rest))) : Go p e below P T (mkF m pc Ls (.ref a :: rest)) := by
  obtain ⟨hx, hEL, vm0, k0, locs, X, eT, hS, hk, hZ, hown, q⟩ := X
  obtain ⟨T', X', e', st'⟩ := Jvm.RoadKit.instY X hx (s := s.setVm vm0) hZ hown w eT F (g := mkF m pc Ls (.ref a :: rest)) rfl rfl hd
  exact Go.of st' (k T' ⟨hx, hEL, vm0, k0, locs, X', e', hS, hk, hZ, hown, q⟩)

theorem Wk.initO {idx : Nat} {a : Addr} {W : Nat} (X : Wk p l e R s m args below meth c Z a0 EL own ws T h sf lts cells slots) (w1 : (Cond.methodLink own idx Lib.objectInit).before a0 Z = true) (w2 : (Cond.instanceMethod Lib.objectInit).before a0 Z = true)
    (w3 : (Cond.code Lib.objectInit object_method_1_code 1 none).before a0 Z = true) (hsize : Ls.size = c.maxLocals) (hd : decode c.code pc = .ok (.invokespecial idx, 3)) (hf : 1 ≤ R.frames) (hW : (rest.map fun v => v.category).sum = W) (hl : W + 12 ≤ R.locals)
    (k : ∀ T', Wk p l e R s m args below meth c Z a0 EL own ws T' h sf lts cells slots → Go p e below P T' (mkF m (pc + 3) Ls rest)) : Go p e below P T (mkF m pc Ls (.ref a :: rest)) := by
  obtain ⟨hx, hEL, vm0, k0, locs, X, eT, hS, hk, hZ, hown, q⟩ := X
  obtain ⟨T', X', e', st'⟩ := Jvm.RoadKit.initO X hx (s := s.setVm vm0) hZ hown w1 w2 w3 eT (g := mkF m pc Ls (.ref a :: rest)) rfl hsize rfl hd hf (W := W) (by rw [← hW]; show 2 * 0 + _ ≤ _; omega) hl
  exact Go.of st' (k T' ⟨hx, hEL, vm0, k0, locs, X', e', hS, hk, hZ, hown, q⟩)

theorem Wk.newO {C : String} {index n : Nat} {st : List Value} (X : Wk p l e R s m args below meth c Z a0 EL own ws T h sf lts cells slots) (w : (Cond.classLink own index C).before a0 Z = true) (wi : (Cond.instantiable C n).before a0 Z = true) (wz : (Cond.initialized C).before a0 Z = true) (hd : decode c.code pc = .ok (.new index, 3)) (hc : cells + 1 ≤ R.cells) (hl : slots + n ≤ R.slots)
    (k : ∀ T' h' a, a = h.size → Wk p l e R s m args below meth c Z a0 EL own ws T' h' (a :: sf) lts (cells + 1) (slots + n) → Ext h h' → Exa Z h' a C → (∀ {O nm d : String} {ty : FieldType}, Laid Z a0 C O nm d → parseFieldDescriptor d = some ty → Fld Z h' a O nm d (defaultValue ty)) → Go p e below P T' (mkF m (pc + 3) Ls (.ref a :: st))) : Go p e below P T (mkF m pc Ls st) := by
  obtain ⟨hx, hEL, vm0, k0, locs, X, eT, hS, hk, hZ, hown, hC, hN, hO, hK, hsf, hlt⟩ := X
  obtain ⟨T', h', X', e', E, A, D, -, st'⟩ := Jvm.RoadKit.newO X hx (s := s.setVm vm0) hZ hown w wi wz eT (g := mkF m pc Ls st) rfl hd hc hl
  exact Go.of st' (k T' h' h.size rfl ⟨hx, hEL, vm0, k0, locs, X', e', hS, Nat.le_trans hk E.1, hZ, hown, hC.trans (CHr.ext E hC.1), hN, ext_trans hO E, hK.ext E, fun x hx => by
    rcases List.mem_cons.mp hx with rfl | hx
    · exact ⟨A.lt, (Safe.new (Nat.le_refl _)).ext E hC.1⟩
    · exact ⟨Nat.lt_of_lt_of_le (hsf x hx).1 E.1, (hsf x hx).2.ext E hC.1⟩, hlt⟩ E A D)

theorem Wk.newP {aty : ArrayType} {n : Int32} {cap : Nat} (X : Wk p l e R s m args below meth c Z a0 EL own ws T h sf lts cells slots) (w : (Cond.arrayClass (newarray.typeOf aty)).before a0 Z = true) (hd : decode c.code pc = .ok (.newarray aty, 2)) (hn : ¬ n < 0) (hcap : n.toNatClampNeg ≤ cap) (hb : cap * 8 ≤ 536870912) (hc : cells + 1 ≤ R.cells) (hl : slots + cap ≤ R.slots)
    (k : ∀ T' h' a kc, a = h.size → Wk p l e R s m args below meth c Z a0 EL own ws T' h' (a :: sf) lts (cells + 1) (slots + cap) → Ext h h' → Arv Z h' a kc (newarray.typeOf aty) n [] (defaultValue (newarray.typeOf aty)) → Go p e below P T' (mkF m (pc + 2) Ls (.ref a :: rest))) : Go p e below P T (mkF m pc Ls (.int n :: rest)) := by
  obtain ⟨hx, hEL, vm0, k0, locs, X, eT, hS, hk, hZ, hown, hC, hN, hO, hK, hsf, hlt⟩ := X
  obtain ⟨T', h', kc, X', e', E, A, st'⟩ := Jvm.RoadKit.newP X hx (s := s.setVm vm0) hZ w eT (g := mkF m pc Ls (.int n :: rest)) rfl hd rfl hn hcap hb hc hl
  exact Go.of st' (k T' h' h.size kc rfl ⟨hx, hEL, vm0, k0, locs, X', e', hS, Nat.le_trans hk E.1, hZ, hown, hC.trans (CHr.ext E hC.1), hN, ext_trans hO E, hK.ext E, fun x hx => by
    rcases List.mem_cons.mp hx with rfl | hx
    · exact ⟨A.lt, (Safe.new (Nat.le_refl _)).ext E hC.1⟩
    · exact ⟨Nat.lt_of_lt_of_le (hsf x hx).1 E.1, (hsf x hx).2.ext E hC.1⟩, hlt⟩ E (Arv.new A hn))

theorem Wk.newR {C : String} {index : Nat} {n : Int32} {cap : Nat} (X : Wk p l e R s m args below meth c Z a0 EL own ws T h sf lts cells slots) (w1 : (Cond.classLink own index C).before a0 Z = true) (w2 : (Cond.arrayOver (.object C)).before a0 Z = true) (hd : decode c.code pc = .ok (.anewarray index, 3)) (hn : ¬ n < 0) (hcap : n.toNatClampNeg ≤ cap) (hb : cap * 8 ≤ 536870912) (hc : cells + 1 ≤ R.cells) (hl : slots + cap ≤ R.slots)
    (k : ∀ T' h' a kc, a = h.size → Wk p l e R s m args below meth c Z a0 EL own ws T' h' (a :: sf) lts (cells + 1) (slots + cap) → Ext h h' → Arv Z h' a kc (.object C) n [] .null → Ovr Z kc C → Go p e below P T' (mkF m (pc + 3) Ls (.ref a :: rest))) : Go p e below P T (mkF m pc Ls (.int n :: rest)) := by
  obtain ⟨hx, hEL, vm0, k0, locs, X, eT, hS, hk, hZ, hown, hC, hN, hO, hK, hsf, hlt⟩ := X
  obtain ⟨T', h', kc, X', e', E, A, O, st'⟩ := Jvm.RoadKit.newR X hx (s := s.setVm vm0) hZ hown w1 w2 eT (g := mkF m pc Ls (.int n :: rest)) rfl hd rfl hn hcap hb hc hl
  exact Go.of st' (k T' h' h.size kc rfl ⟨hx, hEL, vm0, k0, locs, X', e', hS, Nat.le_trans hk E.1, hZ, hown, hC.trans (CHr.ext E hC.1), hN, ext_trans hO E, hK.ext E, fun x hx => by
    rcases List.mem_cons.mp hx with rfl | hx
    · exact ⟨A.lt, (Safe.new (Nat.le_refl _)).ext E hC.1⟩
    · exact ⟨Nat.lt_of_lt_of_le (hsf x hx).1 E.1, (hsf x hx).2.ext E hC.1⟩, hlt⟩ E (Arv.new A hn) O)

/-- behind a write of one place of a -/
theorem Wk.wrote {T' : State} {h' : Heap} {a : Addr} {sl : Nat} {v : Value} {vm0 : Vm} {k0 : Nat} {locs : List Loc} (hx : p.tables.exec = Jvm.exec) (hEL : EW Z a0 EL) (X' : Stand p l e R (s.setVm vm0) m args below meth c T' (locs ++ [⟨a, sl⟩]) cells slots) (e' : T'.heap = h') (W : Wr h h' a sl v) (hS : s.Since vm0 k0) (hk : k0 ≤ h.size) (hZ : Z.Warmed39 vm0) (hown : vm0.findClass own = some m.cls) (hC : CHr Z EL s.vm s.heap vm0 h) (hN : Fr Z.heap.size locs) (hO : Ext Z.heap h) (hK : Keep s.heap h ws) (hsf : ∀ x ∈ sf, x < h.size ∧ Safe Z EL vm0 h x) (hlt : ∀ q ∈ lts, Lit (s.setVm vm0) own q.1 q.2)
    (g1 : Z.heap.size ≤ a) (g2 : a ∈ ws ∨ s.heap.size ≤ a) (g3 : Sfe Z h sf a) : Wk p l e R s m args below meth c Z a0 EL own ws T' h' sf lts cells slots :=
  have S := g3.safe hZ.alike hsf
  ⟨hx, hEL, vm0, k0, _, X', e', hS, by rw [W.size]; exact hk, hZ, hown, hC.trans (CHr.wr W S hC.1), hN.app fun y hy => by cases List.mem_singleton.mp hy; exact g1, ext_keep hO (Keep.of_wr W) (allS g1 all0), hK.wr W g2, fun x hx => ⟨by rw [W.size]; exact (hsf x hx).1, Safe.wr W S hC.1 (hsf x hx).2⟩, hlt⟩

theorem Wk.putF {n d R0 O host C : String} {index kk : Nat} {ty : FieldType} {a : Addr} {v old : Value} (X : Wk p l e R s m args below meth c Z a0 EL own ws T h sf lts cells slots) (w : (Cond.fieldLink own index R0 n d).before a0 Z = true ∨ (Cond.fieldLinkNest own index R0 n d host).before a0 Z = true) (via : Via Z R0 O n d)
    (F : Fld Z h a O n d old) (E : Exa Z h a C) (L : (Cond.lays C O n d).before a0 Z = true ∨ ((Cond.laysFinal C O n d).before a0 Z = true ∧ own = O ∧ meth.name = "<init>")) (wi : (Cond.instantiable C kk).before a0 Z = true) (hty : parseFieldDescriptor d = some ty) (hn : narrow ty v = v) (hf : fits ty v = true)
    (g1 : Z.heap.size ≤ a) (g2 : a ∈ ws ∨ s.heap.size ≤ a) (g3 : Sfe Z h sf a) (hd : decode c.code pc = .ok (.putfield index, 3))
    (k : ∀ T' h', Wk p l e R s m args below meth c Z a0 EL own ws T' h' sf lts cells slots → Keep h h' [a] → Wr h h' a (Jvm.RoadKit.slotOf Z O n d) v → Go p e below P T' (mkF m (pc + 3) Ls rest)) : Go p e below P T (mkF m pc Ls (v :: .ref a :: rest)) := by
  obtain ⟨hx, hEL, vm0, k0, locs, X, eT, hS, hk, hZ, hown, hC, hN, hO, hK, hsf, hlt⟩ := X
  obtain ⟨T', h', X', e', W, st'⟩ := Jvm.RoadKit.putF X hx (s := s.setVm vm0) hZ hown w via eT F E L wi hty hn hf (g := mkF m pc Ls (v :: .ref a :: rest)) rfl rfl hd
  exact Go.of st' (k T' h' (Wk.wrote hx hEL X' e' W hS hk hZ hown hC hN hO hK hsf hlt g1 g2 g3) (Keep.of_wr W) W)
theorem Wk.putFN {n d R0 O C : String} {index kk : Nat} {ty : FieldType} {a : Addr} {v v' old : Value} (X : Wk p l e R s m args below meth c Z a0 EL own ws T h sf lts cells slots) (w : (Cond.fieldLink own index R0 n d).before a0 Z = true) (via : Via Z R0 O n d)
    (F : Fld Z h a O n d old) (E : Exa Z h a C) (L : (Cond.lays C O n d).before a0 Z = true ∨ ((Cond.laysFinal C O n d).before a0 Z = true ∧ own = O ∧ meth.name = "<init>")) (wi : (Cond.instantiable C kk).before a0 Z = true) (hty : parseFieldDescriptor d = some ty) (hn : narrow ty v = v') (hf : fits ty v' = true)
    (g1 : Z.heap.size ≤ a) (g2 : a ∈ ws ∨ s.heap.size ≤ a) (g3 : Sfe Z h sf a) (hd : decode c.code pc = .ok (.putfield index, 3))
    (k : ∀ T' h', Wk p l e R s m args below meth c Z a0 EL own ws T' h' sf lts cells slots → Keep h h' [a] → Wr h h' a (Jvm.RoadKit.slotOf Z O n d) v' → Go p e below P T' (mkF m (pc + 3) Ls rest)) : Go p e below P T (mkF m pc Ls (v :: .ref a :: rest)) := by
  obtain ⟨hx, hEL, vm0, k0, locs, X, eT, hS, hk, hZ, hown, hC, hN, hO, hK, hsf, hlt⟩ := X
  obtain ⟨T', h', X', e', W, st'⟩ := Jvm.RoadKit.putFN X hx (s := s.setVm vm0) hZ hown w via eT F E L wi hty hn hf (g := mkF m pc Ls (v :: .ref a :: rest)) rfl rfl hd
  exact Go.of st' (k T' h' (Wk.wrote hx hEL X' e' W hS hk hZ hown hC hN hO hK hsf hlt g1 g2 g3) (Keep.of_wr W) W)

theorem Wk.stC {a : Addr} {kc : ClassId} {z j x : Int32} {vs : List Value} {dv : Value} (i : Nat) (X : Wk p l e R s m args below meth c Z a0 EL own ws T h sf lts cells slots) (A : Arv Z h a kc .char z vs dv) (hj : ¬ j < 0 ∧ j < z) (hi : j.toNatClampNeg = i) (hl : i < vs.length)
    (g1 : Z.heap.size ≤ a) (g2 : a ∈ ws ∨ s.heap.size ≤ a) (hd : decode c.code pc = .ok (.castore, 1))
    (k : ∀ T' h', Wk p l e R s m args below meth c Z a0 EL own ws T' h' sf lts cells slots → Keep h h' [a] → Arv Z h' a kc .char z (vs.set i (.int (nar .char x))) dv → Go p e below P T' (mkF m (pc + 1) Ls rest)) : Go p e below P T (mkF m pc Ls (.int x :: .int j :: .ref a :: rest)) := by
  have g3 : Sfe Z h sf a := Sfe.arv A
  obtain ⟨hx, hEL, vm0, k0, locs, X, eT, hS, hk, hZ, hown, hC, hN, hO, hK, hsf, hlt⟩ := X
  obtain ⟨cl, A1, A2, A3, A4, A5, A6⟩ := A
  obtain ⟨T', h', X', e', W, st'⟩ := Jvm.RoadKit.stC X hx (s := s.setVm vm0) hZ eT A1 (inb_of A3 hj) (g := mkF m pc Ls (.int x :: .int j :: .ref a :: rest)) rfl rfl hd
  exact Go.of st' (k T' h' (Wk.wrote hx hEL X' e' W hS hk hZ hown hC hN hO hK hsf hlt g1 g2 g3) (Keep.of_wr W) (Arv.set A1 A2 A3 A4 A5 A6 (fits_nar_char _) W i hi hl))
theorem Wk.stB {a : Addr} {kc : ClassId} {z j x : Int32} {vs : List Value} {dv : Value} (i : Nat) (X : Wk p l e R s m args below meth c Z a0 EL own ws T h sf lts cells slots) (A : Arv Z h a kc .byte z vs dv) (hj : ¬ j < 0 ∧ j < z) (hi : j.toNatClampNeg = i) (hl : i < vs.length)
    (g1 : Z.heap.size ≤ a) (g2 : a ∈ ws ∨ s.heap.size ≤ a) (g3 : Sfe Z h sf a) (hd : decode c.code pc = .ok (.bastore, 1))
    (k : ∀ T' h', Wk p l e R s m args below meth c Z a0 EL own ws T' h' sf lts cells slots → Keep h h' [a] → Arv Z h' a kc .byte z (vs.set i (.int (nar .byte x))) dv → Go p e below P T' (mkF m (pc + 1) Ls rest)) : Go p e below P T (mkF m pc Ls (.int x :: .int j :: .ref a :: rest)) := by
  obtain ⟨hx, hEL, vm0, k0, locs, X, eT, hS, hk, hZ, hown, hC, hN, hO, hK, hsf, hlt⟩ := X
  obtain ⟨cl, A1, A2, A3, A4, A5, A6⟩ := A
  obtain ⟨T', h', X', e', W, st'⟩ := Jvm.RoadKit.stB X hx (s := s.setVm vm0) hZ eT A1 (inb_of A3 hj) (g := mkF m pc Ls (.int x :: .int j :: .ref a :: rest)) rfl rfl hd
  exact Go.of st' (k T' h' (Wk.wrote hx hEL X' e' W hS hk hZ hown hC hN hO hK hsf hlt g1 g2 g3) (Keep.of_wr W) (Arv.set A1 A2 A3 A4 A5 A6 (fits_nar_byte _) W i hi hl))

theorem Wk.ldC {a : Addr} {kc : ClassId} {z j : Int32} {v : Value} {vs : List Value} {dv : Value} (X : Wk p l e R s m args below meth c Z a0 EL own ws T h sf lts cells slots) (A : Arv Z h a kc .char z vs dv) (hj : ¬ j < 0 ∧ j < z) (hv : vs.getD j.toNatClampNeg dv = v) (hd : decode c.code pc = .ok (.caload, 1))
    (k : Go p e below P T (mkF m (pc + 1) Ls (v :: rest))) : Go p e below P T (mkF m pc Ls (.int j :: .ref a :: rest)) := by
  obtain ⟨hx, hEL, vm0, k0, locs, X, eT, hS, hk, hZ, q⟩ := X
  obtain ⟨cl, A1, A2, A3, A4, A5, A6⟩ := A
  exact Go.of (fun t k => X.caload hx (by rw [eT]; exact A1.1) (State.isArrayOf_alike hZ.alike A1.2.1) A1.2.2 (inb_of A3 hj) (A5.at (inb_of A3 hj) hv) (g := mkF m pc Ls (.int j :: .ref a :: rest)) rfl rfl hd t k) k
theorem Wk.ldB {a : Addr} {kc : ClassId} {z j : Int32} {v : Value} {vs : List Value} {dv : Value} (X : Wk p l e R s m args below meth c Z a0 EL own ws T h sf lts cells slots) (A : Arv Z h a kc .byte z vs dv) (hj : ¬ j < 0 ∧ j < z) (hv : vs.getD j.toNatClampNeg dv = v) (hd : decode c.code pc = .ok (.baload, 1))
    (k : Go p e below P T (mkF m (pc + 1) Ls (v :: rest))) : Go p e below P T (mkF m pc Ls (.int j :: .ref a :: rest)) := by
  obtain ⟨hx, hEL, vm0, k0, locs, X, eT, hS, hk, hZ, q⟩ := X
  obtain ⟨cl, A1, A2, A3, A4, A5, A6⟩ := A
  exact Go.of (fun t k => X.baloadBytes hx (by rw [eT]; exact A1.1) (State.isArrayOf_alike hZ.alike A1.2.1) A1.2.2 (inb_of A3 hj) (A5.at (inb_of A3 hj) hv) (g := mkF m pc Ls (.int j :: .ref a :: rest)) rfl rfl hd t k) k
theorem Wk.ldR {a : Addr} {kc : ClassId} {ty : FieldType} {z j : Int32} {v : Value} {vs : List Value} {dv : Value} (X : Wk p l e R s m args below meth c Z a0 EL own ws T h sf lts cells slots) (A : Arv Z h a kc ty z vs dv) (hty : ty.isReference = true) (hj : ¬ j < 0 ∧ j < z) (hv : vs.getD j.toNatClampNeg dv = v) (hd : decode c.code pc = .ok (.aaload, 1))
    (k : Go p e below P T (mkF m (pc + 1) Ls (v :: rest))) : Go p e below P T (mkF m pc Ls (.int j :: .ref a :: rest)) := by
  obtain ⟨hx, hEL, vm0, k0, locs, X, eT, hS, hk, hZ, q⟩ := X
  obtain ⟨cl, A1, A2, A3, A4, A5, A6⟩ := A
  exact Go.of (fun t k => X.aaload hx (by rw [eT]; exact A1.1) (State.isArrayOf_alike hZ.alike A1.2.1) hty A1.2.2 (inb_of A3 hj) (A5.at (inb_of A3 hj) hv) (g := mkF m pc Ls (.int j :: .ref a :: rest)) rfl rfl hd t k) k
theorem Wk.len {a : Addr} {kc : ClassId} {ty : FieldType} {z : Int32} {vs : List Value} {dv : Value} (X : Wk p l e R s m args below meth c Z a0 EL own ws T h sf lts cells slots) (A : Arv Z h a kc ty z vs dv) (hd : decode c.code pc = .ok (.arraylength, 1))
    (k : Go p e below P T (mkF m (pc + 1) Ls (.int z :: rest))) : Go p e below P T (mkF m pc Ls (.ref a :: rest)) := by
  obtain ⟨hx, hEL, vm0, k0, locs, X, eT, hS, hk, hZ, q⟩ := X
  obtain ⟨cl, A1, A2, A3, A4, A5, A6⟩ := A
  refine Go.of (fun t k => X.arraylength hx (by rw [eT]; exact A1.1) (State.isArrayOf_alike hZ.alike A1.2.1) (g := mkF m pc Ls (.ref a :: rest)) rfl rfl hd t k) ?_
  rw [len_of A3 A4]
  exact k

/-- ldc of a String constant of EL, read -/
theorem Wk.ldcR {index n : Nat} {text : String} {vs : List Value} {z : Int32} {st : List Value} (X : Wk p l e R s m args below meth c Z a0 EL own ws T h sf lts cells slots) (w : (Cond.stringLink own index text).before a0 Z = true) (wS : ∀ a ∈ Bundle.stringAtoms, a.before a0 Z = true) (hmem : (own, index) ∈ EL)
    (ht : (∀ c ∈ text.toList, c.toNat < 256) ∧ text.toList.map (fun c => Value.int (Jvm.Lit.byteI c.toNat.toUInt16)) = vs) (hz : ¬ z < 0) (hl : z.toNatClampNeg = vs.length) (hd : decode c.code pc = .ok (.ldc index, 2)) (hn : 4 * text.toList.length ≤ n) (hbig : n ≤ 536870912) (hc : cells + 2 ≤ R.cells) (hl' : slots + (n + 4) ≤ R.slots)
    (k : ∀ (T' : State) (h' : Heap) (a b : Nat) (kb : ClassId), Wk p l e R s m args below meth c Z a0 EL own ws T' h' sf [(index, a)] (cells + 2) (slots + (n + 4)) → Ext h h' → Exa Z h' a "java/lang/String" → Fld Z h' a "java/lang/String" "coder" "B" (.int 0) → Fld Z h' a "java/lang/String" "value" "[B" (.ref b) → Arv Z h' b kb .byte z vs (.int 0) → (∀ x ∈ sf, x ≠ a ∧ x ≠ b) → Go p e below P T' (mkF m (pc + 2) Ls (.ref a :: st))) : Go p e below P T (mkF m pc Ls st) := by
  obtain ⟨hx, hEL, vm0, k0, locs, X, eT, hS, hk, hZ, hown, hC, hN, hO, hK, hsf, hlt⟩ := X
  obtain ⟨a, T', h', k1, b, kb, X', e', E, hS', hk', hZ', hown', A1, A2, A3, A4, -, -, hC', hL, hne, st'⟩ := ldcCH X hx hZ hown w wS eT hS hk hEL hmem hC.1 ht hz hl (g := mkF m pc Ls st) rfl hd hn hbig hc hl'
  have hls : ∀ x ∈ sf, x < h'.size ∧ Safe Z EL T'.vm h' x := fun x hx => ⟨Nat.lt_of_lt_of_le (hsf x hx).1 E.1, hC'.safe (hsf x hx).1 (hsf x hx).2⟩
  exact Go.of st' (k T' h' a b kb ⟨hx, hEL, T'.vm, k1, locs, X', e', hS', hk', hZ', hown', hC.trans hC', hN, ext_trans hO E, hK.ext E, hls, fun q hq => by rw [List.mem_singleton.mp hq]; exact hL⟩ E A1 A2 A3 A4 fun x hx => hne x (hls x hx).2)
/-- ldc of a String constant, opaque -/
theorem Wk.ldcO {index n : Nat} {text : String} {st : List Value} (X : Wk p l e R s m args below meth c Z a0 EL own ws T h sf lts cells slots) (w : (Cond.stringLink own index text).before a0 Z = true) (wS : ∀ a ∈ Bundle.stringAtoms, a.before a0 Z = true)
    (hd : decode c.code pc = .ok (.ldc index, 2)) (hn : 4 * text.toList.length ≤ n) (hbig : n ≤ 536870912) (hc : cells + 2 ≤ R.cells) (hl' : slots + (n + 4) ≤ R.slots)
    (k : ∀ (T' : State) (h' : Heap) (a : Nat), Wk p l e R s m args below meth c Z a0 EL own ws T' h' sf [(index, a)] (cells + 2) (slots + (n + 4)) → Ext h h' → Go p e below P T' (mkF m (pc + 2) Ls (.ref a :: st))) : Go p e below P T (mkF m pc Ls st) := by
  obtain ⟨hx, hEL, vm0, k0, locs, X, eT, hS, hk, hZ, hown, hC, hN, hO, hK, hsf, hlt⟩ := X
  obtain ⟨a, T', h', k1, X', e', E, hS', hk', hZ', hown', hC', hL, st'⟩ := ldcOH X hx hZ hown w wS eT hS hk hEL hC.1 (g := mkF m pc Ls st) rfl hd hn hbig hc hl'
  exact Go.of st' (k T' h' a ⟨hx, hEL, T'.vm, k1, locs, X', e', hS', hk', hZ', hown', hC.trans hC', hN, ext_trans hO E, hK.ext E, fun x hx => ⟨Nat.lt_of_lt_of_le (hsf x hx).1 E.1, hC'.safe (hsf x hx).1 (hsf x hx).2⟩, fun q hq => by rw [List.mem_singleton.mp hq]; exact hL⟩ E)

/-- ldc of a constant that this method has loaded already -/
theorem Wk.ldcA {index : Nat} {text : String} {a : Addr} {st : List Value} (X : Wk p l e R s m args below meth c Z a0 EL own ws T h sf lts cells slots) (w : (Cond.stringLink own index text).before a0 Z = true) (hq : (index, a) ∈ lts)
    (hd : decode c.code pc = .ok (.ldc index, 2)) (k : Go p e below P T (mkF m (pc + 2) Ls (.ref a :: st))) : Go p e below P T (mkF m pc Ls st) := by
  obtain ⟨hx, hEL, vm0, k0, locs, X, eT, hS, hk, hZ, hown, hC, hN, hO, hK, hsf, hlt⟩ := X
  exact Go.of (ldcAgain X hx hZ hown w (hlt _ hq) (g := mkF m pc Ls st) rfl hd) k

/-- a callee's contract pays the call -/
theorem pay {y : MethodName} {bytes : ByteArray} {maxL : Nat} {ret : Option FieldType} {rm : Room} {len W : Nat} {as' : Array Value} {ws' si : List Addr} {Q : Option Value → (Addr → Prop) → Heap → Prop} {vm0 : Vm}
    (hM : Met l Z EL y bytes maxL ret rm as' h ws' si Q) (hZ : Z.Warmed39 vm0) (wc : (Cond.code y bytes maxL ret).before a0 Z = true) (wz : (Cond.initialized y.cls).before a0 Z = true) (hf : rm.frames + 1 ≤ R.frames) (hl : W + (maxL + 11) + rm.locals ≤ R.locals) (hEL : EW Z a0 EL) (H : CHv Z EL vm0 h) (hO : Ext Z.heap h) (hsi : ∀ x ∈ si, x < h.size ∧ Safe Z EL vm0 h x) :
    BackS l R p e below (s.setVm vm0) args y len W (fun A a => a = as' ∧ A.U.heap = h ∧ A.cells + rm.cells ≤ R.cells ∧ A.slots + rm.slots ≤ R.slots)
      (fun A _ v B => ∃ L, (Q v (Safe Z EL B.U.vm B.U.heap) B.U.heap ∧ Fr Z.heap.size L ∧ Ext Z.heap B.U.heap ∧ Keep h B.U.heap ws') ∧ B.locs = A.locs ++ L ∧ B.cells = A.cells + rm.cells ∧ B.slots = A.slots + rm.slots ∧ CHr Z EL vm0 h B.U.vm B.U.heap) :=
  BackS.of_freeW (bytes := bytes) (maxL := maxL) (ret := ret) (E := fun _ first o t L k n => k = rm.cells ∧ n = rm.slots ∧ (∃ v, o = .returned v ∧ (Q v (Safe Z EL t.vm t.heap) t.heap ∧ Fr Z.heap.size L ∧ Ext Z.heap t.heap ∧ Keep first.heap t.heap ws')) ∧ CHr Z EL first.vm first.heap t.vm t.heap) (hM []) hf hl
    (fun m meth c A a Y hp => have hU : Z.Warmed39 A.U.vm := wtrans (s := s.setVm vm0) hZ Y.warmed
      ⟨by show (Cond.and _ .tt).before a A.U = true; rw [Cond.before_and, mv hU wc]; rfl, mv hU wc, mv hU wz, hp.2.2.1, hp.2.2.2⟩)
    (fun m meth c A a g mk Y hp => ⟨hp.1, wtrans (s := s.setVm vm0) hZ Y.warmed, hp.2.1, (CHv.at Y hZ hEL H).1, hO, fun x hx => ⟨(hsi x hx).1, safe_any (CHv.at Y hZ hEL H) (hsi x hx).2⟩⟩) (fun _ _ _ _ _ _ _ _ _ => trivial)
    (fun _ _ _ _ ⟨v, L, h1, h2, h3, h4⟩ => ⟨L, _, _, h4, rfl, rfl, ⟨v, h1, h2⟩, h3⟩)
    (fun m meth c A a g mk v t L k n Y hp _ _ ⟨e1, e2, ⟨v', e3, e4, e5, e6, e7⟩, e8⟩ => by
      cases e3; subst e1 e2
      have eh : A.U.heap = h := hp.2.1
      refine ⟨L, ⟨e4, e5, e6, ?_⟩, rfl, rfl, rfl, (CHv.at Y hZ hEL H).trans ?_⟩
      · rw [← eh]; exact e7
      · rw [← eh]; exact e8)

/-- behind a call that may have interned -/
theorem Wk.back {T' : State} {ws' : List Addr} {vm0 : Vm} {k0 : Nat} {locs L : List Loc} {cells' slots' : Nat} (hx : p.tables.exec = Jvm.exec) (hEL : EW Z a0 EL) (hS : s.Since vm0 k0) (hk : k0 ≤ h.size) (hZ : Z.Warmed39 vm0) (hown : vm0.findClass own = some m.cls) (hC : CHr Z EL s.vm s.heap vm0 h) (hN : Fr Z.heap.size locs) (hO : Ext Z.heap T'.heap) (hK : Keep s.heap h ws) (hsf : ∀ x ∈ sf, x < h.size ∧ Safe Z EL vm0 h x) (hlt : ∀ q ∈ lts, Lit (s.setVm vm0) own q.1 q.2)
    (X' : Stand p l e R ((s.setVm vm0).setVm T'.vm) m args below meth c T' (locs ++ L) cells' slots') (hS' : (s.setVm vm0).Since T'.vm T'.heap.size) (hL : Fr Z.heap.size L) (hK' : Keep h T'.heap ws') (hC' : CHr Z EL vm0 h T'.vm T'.heap) (hws : ∀ x ∈ ws', x ∈ ws ∨ s.heap.size ≤ x) (sf' : List Addr) (hsf' : ∀ x ∈ sf', x < T'.heap.size ∧ Safe Z EL T'.vm T'.heap x) :
    Wk p l e R s m args below meth c Z a0 EL own ws T' T'.heap (sf' ++ sf) lts cells' slots' := by
  obtain ⟨X2, h2, h3, h4⟩ := rebS hS hk X' hS' hK'.1 hZ hown
  refine ⟨hx, hEL, T'.vm, _, locs ++ L, X2, rfl, h2, Nat.le_refl _, h3, h4, hC.trans hC', hN.app hL, hO, hK.trans hK' hws, fun x hx => ?_, fun q hq => (hlt q hq).stays hS'.1⟩
  rcases List.mem_append.mp hx with q | q
  · exact hsf' x q
  · exact ⟨Nat.lt_of_lt_of_le (hsf x q).1 hK'.1, hC'.safe (hsf x q).1 (hsf x q).2⟩

theorem sfe_all {vm : Vm} {si : List Addr} (hal : Z.vm.Alike vm) (hsf : ∀ x ∈ sf, x < h.size ∧ Safe Z EL vm h x) (q : ∀ x ∈ si, Sfe Z h sf x) : ∀ x ∈ si, x < h.size ∧ Safe Z EL vm h x := fun x hx => ⟨by
  rcases q x hx with r | ⟨C, E, -⟩ | ⟨cl, ty, A, -⟩
  · exact (hsf x r).1
  · exact E.lt
  · exact A.lt, (q x hx).safe hal hsf⟩

theorem Wk.callS {index W maxL : Nat} {y : MethodName} {bytes : ByteArray} {ret : Option FieldType} {rm : Room} {ws' si : List Addr} {Q : Option Value → (Addr → Prop) → Heap → Prop} {argsL stk : List Value} {ps : List FieldType} {r : Option FieldType} (X : Wk p l e R s m args below meth c Z a0 EL own ws T h sf lts cells slots)
    (w1 : (Cond.methodLink own index y).before a0 Z = true) (w2 : (Cond.static y).before a0 Z = true) (w3 : (Cond.initialized y.cls).before a0 Z = true) (w4 : (Cond.code y bytes maxL ret).before a0 Z = true) (hy : y.cls ≠ "java/lang/invoke/MethodHandle" ∧ y.cls ≠ "java/lang/invoke/VarHandle")
    (hM : Met l Z EL y bytes maxL ret rm argsL.toArray h ws' si Q) (hpd : parseMethodDescriptor y.desc = some ⟨ps, r⟩) (hlen : argsL.length = ps.length) (hst : stk = argsL.reverse ++ rest) (hW : (rest.map fun v => v.category).sum = W) (hsize : Ls.size = c.maxLocals) (hf : rm.frames + 1 ≤ R.frames) (hlo : W + (maxL + 11) + rm.locals ≤ R.locals) (hce : cells + rm.cells ≤ R.cells) (hsl : slots + rm.slots ≤ R.slots)
    (hd : decode c.code pc = .ok (.invokestatic index, 3)) (hws : ∀ x ∈ ws', x ∈ ws ∨ s.heap.size ≤ x) (hsi : ∀ x ∈ si, Sfe Z h sf x)
    (k : ∀ v T' h' (S : Addr → Prop), (∀ sf', (∀ x ∈ sf', x < h'.size ∧ S x) → Wk p l e R s m args below meth c Z a0 EL own ws T' h' (sf' ++ sf) lts (cells + rm.cells) (slots + rm.slots)) → Keep h h' ws' → Q v S h' → Go p e below P T' (mkF m (pc + 3) Ls (v.toList ++ rest))) : Go p e below P T (mkF m pc Ls stk) := by
  subst hst
  obtain ⟨hx, hEL, vm0, k0, locs, X, eT, hS, hk, hZ, hown, hC, hN, hO, hK, hsf, hlt⟩ := X
  obtain ⟨v, _, ⟨T', L', k', n'⟩, -, X', hS', -, ⟨L, ⟨hQ, hL, hO', hK'⟩, l1, l2, l3, hC'⟩, st⟩ := callSS X hx (y := y) hown (mvT (s := s.setVm vm0) hZ w1) (mvT (s := s.setVm vm0) hZ w2) (mvT (s := s.setVm vm0) hZ w3) (mvT (s := s.setVm vm0) hZ w4) hy (pay (W := W) hM hZ w4 w3 hf hlo hEL hC.1 hO (sfe_all hZ.alike hsf hsi)) (g := mkF m pc Ls (argsL.reverse ++ rest)) rfl hsize (argsL := argsL) (rest := rest) (lenOf hpd hlen) rfl (by rw [← hW]; show 2 * 0 + _ ≤ _; omega) hd (fun _ _ => ⟨rfl, eT, hce, hsl⟩)
  dsimp only [Pt.U, Pt.locs, Pt.cells, Pt.slots] at X' hS' hQ hO' hK' l1 l2 l3 hC' st
  subst l1 l2 l3
  exact Go.of (fun t q => st.trans q) (k v T' T'.heap _ (fun sf' q => Wk.back hx hEL hS hk hZ hown hC hN hO' hK hsf hlt X' hS' hL hK' hC' hws sf' q) hK' hQ)

theorem Wk.callC {index W maxL : Nat} {y : MethodName} {bytes : ByteArray} {rm : Room} {ws' si : List Addr} {Q : Option Value → (Addr → Prop) → Heap → Prop} {a : Addr} {argsL stk : List Value} {ps : List FieldType} {r : Option FieldType} (X : Wk p l e R s m args below meth c Z a0 EL own ws T h sf lts cells slots) (hy1 : y.name = "<init>")
    (w1 : (Cond.methodLink own index y).before a0 Z = true) (w2 : (Cond.instanceMethod y).before a0 Z = true) (w3 : (Cond.initialized y.cls).before a0 Z = true) (w4 : (Cond.code y bytes maxL none).before a0 Z = true) (hy : y.cls ≠ "java/lang/invoke/MethodHandle" ∧ y.cls ≠ "java/lang/invoke/VarHandle")
    (hM : Met l Z EL y bytes maxL none rm (.ref a :: argsL).toArray h ws' si Q) (hpd : parseMethodDescriptor y.desc = some ⟨ps, r⟩) (hlen : argsL.length = ps.length) (hst : stk = argsL.reverse ++ .ref a :: rest) (hW : (rest.map fun v => v.category).sum = W) (hsize : Ls.size = c.maxLocals) (hf : rm.frames + 1 ≤ R.frames) (hlo : W + (maxL + 11) + rm.locals ≤ R.locals) (hce : cells + rm.cells ≤ R.cells) (hsl : slots + rm.slots ≤ R.slots)
    (hd : decode c.code pc = .ok (.invokespecial index, 3)) (hws : ∀ x ∈ ws', x ∈ ws ∨ s.heap.size ≤ x) (hsi : ∀ x ∈ si, Sfe Z h sf x)
    (k : ∀ v T' h' (S : Addr → Prop), (∀ sf', (∀ x ∈ sf', x < h'.size ∧ S x) → Wk p l e R s m args below meth c Z a0 EL own ws T' h' (sf' ++ sf) lts (cells + rm.cells) (slots + rm.slots)) → Keep h h' ws' → Q v S h' → Go p e below P T' (mkF m (pc + 3) Ls (v.toList ++ rest))) : Go p e below P T (mkF m pc Ls stk) := by
  subst hst
  obtain ⟨hx, hEL, vm0, k0, locs, X, eT, hS, hk, hZ, hown, hC, hN, hO, hK, hsf, hlt⟩ := X
  obtain ⟨v, _, ⟨T', L', k', n'⟩, -, X', hS', -, ⟨L, ⟨hQ, hL, hO', hK'⟩, l1, l2, l3, hC'⟩, st⟩ := X.specialBackS hx (y := y) hy1 hown (mvT (s := s.setVm vm0) hZ w1) (mvT (s := s.setVm vm0) hZ w2) (mvT (s := s.setVm vm0) hZ w4) hy (pay (W := W) hM hZ w4 w3 hf hlo hEL hC.1 hO (sfe_all hZ.alike hsf hsi)) (g := mkF m pc Ls (argsL.reverse ++ .ref a :: rest)) rfl hsize (Steps.refl _) (a := a) (argsL := argsL) (rest := rest) (lenOf hpd hlen) rfl (by rw [← hW]; show 2 * 0 + _ ≤ _; omega) hd (fun _ _ => ⟨rfl, eT, hce, hsl⟩)
  dsimp only [Pt.U, Pt.locs, Pt.cells, Pt.slots] at X' hS' hQ hO' hK' l1 l2 l3 hC' st
  subst l1 l2 l3
  exact Go.of (fun t q => st.trans q) (k v T' T'.heap _ (fun sf' q => Wk.back hx hEL hS hk hZ hown hC hN hO' hK hsf hlt X' hS' hL hK' hC' hws sf' q) hK' hQ)

theorem Wk.callV {index W maxL : Nat} {C : String} {y z : MethodName} {bytes : ByteArray} {ret : Option FieldType} {rm : Room} {ws' si : List Addr} {Q : Option Value → (Addr → Prop) → Heap → Prop} {a : Addr} {argsL stk : List Value} {ps : List FieldType} {r : Option FieldType} (X : Wk p l e R s m args below meth c Z a0 EL own ws T h sf lts cells slots)
    (w1 : (Cond.methodLink own index y).before a0 Z = true) (w2 : (Cond.declares y).before a0 Z = true) (nf : ∀ s' : State, Z.Warmed39 s'.vm → NotFace s' y) (w3 : (Cond.selects C y z).before a0 Z = true) (w4 : (Cond.instanceMethod z).before a0 Z = true) (w5 : (Cond.initialized z.cls).before a0 Z = true) (w6 : (Cond.code z bytes maxL ret).before a0 Z = true) (hy : y.cls ≠ "java/lang/invoke/MethodHandle" ∧ y.cls ≠ "java/lang/invoke/VarHandle")
    (hM : Met l Z EL z bytes maxL ret rm (.ref a :: argsL).toArray h ws' si Q) (E : Exa Z h a C) (hpd : parseMethodDescriptor y.desc = some ⟨ps, r⟩) (hlen : argsL.length = ps.length) (hst : stk = argsL.reverse ++ .ref a :: rest) (hW : (rest.map fun v => v.category).sum = W) (hsize : Ls.size = c.maxLocals) (hf : rm.frames + 1 ≤ R.frames) (hlo : W + (maxL + 11) + rm.locals ≤ R.locals) (hce : cells + rm.cells ≤ R.cells) (hsl : slots + rm.slots ≤ R.slots)
    (hd : decode c.code pc = .ok (.invokevirtual index, 3)) (hws : ∀ x ∈ ws', x ∈ ws ∨ s.heap.size ≤ x) (hsi : ∀ x ∈ si, Sfe Z h sf x)
    (k : ∀ v T' h' (S : Addr → Prop), (∀ sf', (∀ x ∈ sf', x < h'.size ∧ S x) → Wk p l e R s m args below meth c Z a0 EL own ws T' h' (sf' ++ sf) lts (cells + rm.cells) (slots + rm.slots)) → Keep h h' ws' → Q v S h' → Go p e below P T' (mkF m (pc + 3) Ls (v.toList ++ rest))) : Go p e below P T (mkF m pc Ls stk) := by
  subst hst
  obtain ⟨hx, hEL, vm0, k0, locs, X, eT, hS, hk, hZ, hown, hC, hN, hO, hK, hsf, hlt⟩ := X
  obtain ⟨cq, kq, qa, qb, qc⟩ := isOf (s := s.setVm vm0) hZ eT E
  obtain ⟨v, _, ⟨T', L', k', n'⟩, -, X', hS', -, ⟨L, ⟨hQ, hL, hO', hK'⟩, l1, l2, l3, hC'⟩, st⟩ := X.virtualBackS hx (y := y) (z := z) hown (mvT (s := s.setVm vm0) hZ w1) (mvT (s := s.setVm vm0) hZ w2) (nf _ hZ) (mvT (s := s.setVm vm0) hZ w3) (mvT (s := s.setVm vm0) hZ w4) hy (pay (W := W) hM hZ w6 w5 hf hlo hEL hC.1 hO (sfe_all hZ.alike hsf hsi)) qa qc (g := mkF m pc Ls (argsL.reverse ++ .ref a :: rest)) rfl hsize (Steps.refl _) (argsL := argsL) (rest := rest) (lenOf hpd hlen) rfl (by rw [← hW]; show 2 * 0 + _ ≤ _; omega) hd (fun _ _ => ⟨rfl, eT, hce, hsl⟩)
  dsimp only [Pt.U, Pt.locs, Pt.cells, Pt.slots] at X' hS' hQ hO' hK' l1 l2 l3 hC' st
  subst l1 l2 l3
  exact Go.of (fun t q => st.trans q) (k v T' T'.heap _ (fun sf' q => Wk.back hx hEL hS hk hZ hown hC hN hO' hK hsf hlt X' hS' hL hK' hC' hws sf' q) hK' hQ)

theorem Wk.callI {index count W maxL : Nat} {C : String} {y z : MethodName} {bytes : ByteArray} {ret : Option FieldType} {rm : Room} {ws' si : List Addr} {Q : Option Value → (Addr → Prop) → Heap → Prop} {a : Addr} {argsL stk : List Value} {ps : List FieldType} {r : Option FieldType} (X : Wk p l e R s m args below meth c Z a0 EL own ws T h sf lts cells slots)
    (w1 : (Cond.methodLink own index y).before a0 Z = true) (w2 : (Cond.declares y).before a0 Z = true) (w3 : ∀ (s' : State) (args' : Array Value), Z.Warmed39 s'.vm → (Cond.interfaceMethod y.cls y.cls y.name y.desc).before args' s' = true) (w4 : (Cond.selects C y z).before a0 Z = true) (w5 : (Cond.instanceMethod z).before a0 Z = true) (w6 : (Cond.publicMethod z).before a0 Z = true) (w7 : (Cond.unhidden C y.name y.desc).before a0 Z = true) (w8 : (Cond.castable C y.cls).before a0 Z = true) (w9 : (Cond.initialized z.cls).before a0 Z = true) (w10 : (Cond.code z bytes maxL ret).before a0 Z = true) (hy : y.cls ≠ "java/lang/invoke/MethodHandle" ∧ y.cls ≠ "java/lang/invoke/VarHandle")
    (hM : Met l Z EL z bytes maxL ret rm (.ref a :: argsL).toArray h ws' si Q) (E : Exa Z h a C) (hpd : parseMethodDescriptor y.desc = some ⟨ps, r⟩) (hlen : argsL.length = ps.length) (hst : stk = argsL.reverse ++ .ref a :: rest) (hW : (rest.map fun v => v.category).sum = W) (hsize : Ls.size = c.maxLocals) (hf : rm.frames + 1 ≤ R.frames) (hlo : W + (maxL + 11) + rm.locals ≤ R.locals) (hce : cells + rm.cells ≤ R.cells) (hsl : slots + rm.slots ≤ R.slots)
    (hd : decode c.code pc = .ok (.invokeinterface index count, 5)) (hws : ∀ x ∈ ws', x ∈ ws ∨ s.heap.size ≤ x) (hsi : ∀ x ∈ si, Sfe Z h sf x)
    (k : ∀ v T' h' (S : Addr → Prop), (∀ sf', (∀ x ∈ sf', x < h'.size ∧ S x) → Wk p l e R s m args below meth c Z a0 EL own ws T' h' (sf' ++ sf) lts (cells + rm.cells) (slots + rm.slots)) → Keep h h' ws' → Q v S h' → Go p e below P T' (mkF m (pc + 5) Ls (v.toList ++ rest))) : Go p e below P T (mkF m pc Ls stk) := by
  subst hst
  obtain ⟨hx, hEL, vm0, k0, locs, X, eT, hS, hk, hZ, hown, hC, hN, hO, hK, hsf, hlt⟩ := X
  obtain ⟨cq, kq, qa, qb, qc⟩ := isOf (s := s.setVm vm0) hZ eT E
  obtain ⟨v, _, ⟨T', L', k', n'⟩, -, X', hS', -, ⟨L, ⟨hQ, hL, hO', hK'⟩, l1, l2, l3, hC'⟩, st⟩ := X.interfaceBackS hx (xi := y) (y := z) hown (mvT (s := s.setVm vm0) hZ w1) (mvT (s := s.setVm vm0) hZ w2) (w3 _ _ hZ) (mvT (s := s.setVm vm0) hZ w4) (mvT (s := s.setVm vm0) hZ w5) (mvT (s := s.setVm vm0) hZ w6) (mvT (s := s.setVm vm0) hZ w7) (mvT (s := s.setVm vm0) hZ w8) hy (pay (W := W) hM hZ w10 w9 hf hlo hEL hC.1 hO (sfe_all hZ.alike hsf hsi)) qa qb qc (g := mkF m pc Ls (argsL.reverse ++ .ref a :: rest)) rfl hsize (Steps.refl _) (argsL := argsL) (rest := rest) (lenOf hpd hlen) rfl (by rw [← hW]; show 2 * 0 + _ ≤ _; omega) hd (fun _ _ => ⟨rfl, eT, hce, hsl⟩)
  dsimp only [Pt.U, Pt.locs, Pt.cells, Pt.slots] at X' hS' hQ hO' hK' l1 l2 l3 hC' st
  subst l1 l2 l3
  exact Go.of (fun t q => st.trans q) (k v T' T'.heap _ (fun sf' q => Wk.back hx hEL hS hk hZ hown hC hN hO' hK hsf hlt X' hS' hL hK' hC' hws sf' q) hK' hQ)

/-- behind a call that interns nothing -/
theorem Wk.backN {T' : State} {ws' : List Addr} {vm0 : Vm} {k0 : Nat} {locs L : List Loc} {cells' slots' : Nat} (hx : p.tables.exec = Jvm.exec) (hEL : EW Z a0 EL) (hS : s.Since vm0 k0) (hk : k0 ≤ h.size) (hZ : Z.Warmed39 vm0) (hown : vm0.findClass own = some m.cls) (hC : CHr Z EL s.vm s.heap vm0 h) (hN : Fr Z.heap.size locs) (hO : Ext Z.heap h) (hK : Keep s.heap h ws) (hsf : ∀ x ∈ sf, x < h.size ∧ Safe Z EL vm0 h x) (hlt : ∀ q ∈ lts, Lit (s.setVm vm0) own q.1 q.2)
    (X' : Stand p l e R (s.setVm vm0) m args below meth c T' (locs ++ L) cells' slots') (hL : Fr Z.heap.size L) (hK' : Keep h T'.heap ws') (hw0 : ∀ x ∈ ws', Z.heap.size ≤ x) (hws : ∀ x ∈ ws', x ∈ ws ∨ s.heap.size ≤ x) (hsi : ∀ x ∈ ws', Sfe Z h sf x) :
    Wk p l e R s m args below meth c Z a0 EL own ws T' T'.heap sf lts cells' slots' :=
  have S := fun x hx => (hsi x hx).safe hZ.alike hsf
  ⟨hx, hEL, vm0, k0, locs ++ L, X', rfl, hS, Nat.le_trans hk hK'.1, hZ, hown, hC.trans (CHr.keep hK' S hC.1), hN.app hL, ext_keep hO hK' hw0, hK.trans hK' hws, fun x hx => ⟨Nat.lt_of_lt_of_le (hsf x hx).1 hK'.1, (hsf x hx).2.keep hK' S hC.1⟩, hlt⟩

theorem Wk.callCN {index W maxL nc ns : Nat} {y : MethodName} {bytes : ByteArray} {ws' : List Addr} {Qn : Option Value → Heap → List Loc → Prop} {a : Addr} {argsL stk : List Value} {ps : List FieldType} {r : Option FieldType} (X : Wk p l e R s m args below meth c Z a0 EL own ws T h sf lts cells slots) (hy1 : y.name = "<init>")
    (w1 : (Cond.methodLink own index y).before a0 Z = true) (w2 : (Cond.instanceMethod y).before a0 Z = true) (w4 : (Cond.code y bytes maxL none).before a0 Z = true) (hy : y.cls ≠ "java/lang/invoke/MethodHandle" ∧ y.cls ≠ "java/lang/invoke/VarHandle")
    (hB : ∀ vm0 : Vm, Z.Warmed39 vm0 → Back l R p e below (s.setVm vm0) args y 3 W (fun A a' => a' = (.ref a :: argsL).toArray ∧ A.U.heap = h ∧ A.cells + nc ≤ R.cells ∧ A.slots + ns ≤ R.slots) (fun A _ v B => ∃ L, Qn v B.U.heap L ∧ B.locs = A.locs ++ L ∧ B.cells = A.cells + nc ∧ B.slots = A.slots + ns)) (hQn : ∀ v h' L, Qn v h' L → Fr Z.heap.size L ∧ Keep h h' ws') (hpd : parseMethodDescriptor y.desc = some ⟨ps, r⟩) (hlen : argsL.length = ps.length) (hst : stk = argsL.reverse ++ .ref a :: rest) (hW : (rest.map fun v => v.category).sum = W) (hsize : Ls.size = c.maxLocals) (hce : cells + nc ≤ R.cells) (hsl : slots + ns ≤ R.slots)
    (hd : decode c.code pc = .ok (.invokespecial index, 3)) (hw0 : ∀ x ∈ ws', Z.heap.size ≤ x) (hws : ∀ x ∈ ws', x ∈ ws ∨ s.heap.size ≤ x) (hsi : ∀ x ∈ ws', Sfe Z h sf x)
    (k : ∀ v T' h', Wk p l e R s m args below meth c Z a0 EL own ws T' h' sf lts (cells + nc) (slots + ns) → Keep h h' ws' → (∃ L, Qn v h' L) → Go p e below P T' (mkF m (pc + 3) Ls (v.toList ++ rest))) : Go p e below P T (mkF m pc Ls stk) := by
  subst hst
  obtain ⟨hx, hEL, vm0, k0, locs, X, eT, hS, hk, hZ, hown, hC, hN, hO, hK, hsf, hlt⟩ := X
  obtain ⟨v, _, ⟨T', L', k', n'⟩, -, X', ⟨L, hQ, l1, l2, l3⟩, st⟩ := X.specialBack hx (y := y) hy1 hown (mvT (s := s.setVm vm0) hZ w1) (mvT (s := s.setVm vm0) hZ w2) (mvT (s := s.setVm vm0) hZ w4) hy (hB vm0 hZ) (g := mkF m pc Ls (argsL.reverse ++ .ref a :: rest)) rfl hsize (Steps.refl _) (a := a) (argsL := argsL) (rest := rest) (lenOf hpd hlen) rfl (by rw [← hW]; show 2 * 0 + _ ≤ _; omega) hd (fun _ _ => ⟨rfl, eT, hce, hsl⟩)
  dsimp only [Pt.U, Pt.locs, Pt.cells, Pt.slots] at X' hQ l1 l2 l3 st
  subst l1 l2 l3
  have q := hQn _ _ _ hQ
  exact Go.of (fun t q => st.trans q) (k v T' T'.heap (Wk.backN hx hEL hS hk hZ hown hC hN hO hK hsf hlt X' q.1 q.2 hw0 hws hsi) q.2 ⟨L, hQ⟩)

theorem Wk.callVN {index W nc ns : Nat} {C : String} {y z : MethodName} {ws' : List Addr} {Qn : Option Value → Heap → List Loc → Prop} {a : Addr} {argsL stk : List Value} {ps : List FieldType} {r : Option FieldType} (X : Wk p l e R s m args below meth c Z a0 EL own ws T h sf lts cells slots)
    (w1 : (Cond.methodLink own index y).before a0 Z = true) (w2 : (Cond.declares y).before a0 Z = true) (nf : ∀ s' : State, Z.Warmed39 s'.vm → NotFace s' y) (w3 : (Cond.selects C y z).before a0 Z = true) (w4 : (Cond.instanceMethod z).before a0 Z = true) (hy : y.cls ≠ "java/lang/invoke/MethodHandle" ∧ y.cls ≠ "java/lang/invoke/VarHandle")
    (hB : ∀ vm0 : Vm, Z.Warmed39 vm0 → Back l R p e below (s.setVm vm0) args z 3 W (fun A a' => a' = (.ref a :: argsL).toArray ∧ A.U.heap = h ∧ A.cells + nc ≤ R.cells ∧ A.slots + ns ≤ R.slots) (fun A _ v B => ∃ L, Qn v B.U.heap L ∧ B.locs = A.locs ++ L ∧ B.cells = A.cells + nc ∧ B.slots = A.slots + ns)) (hQn : ∀ v h' L, Qn v h' L → Fr Z.heap.size L ∧ Keep h h' ws') (E : Exa Z h a C) (hpd : parseMethodDescriptor y.desc = some ⟨ps, r⟩) (hlen : argsL.length = ps.length) (hst : stk = argsL.reverse ++ .ref a :: rest) (hW : (rest.map fun v => v.category).sum = W) (hsize : Ls.size = c.maxLocals) (hce : cells + nc ≤ R.cells) (hsl : slots + ns ≤ R.slots)
    (hd : decode c.code pc = .ok (.invokevirtual index, 3)) (hw0 : ∀ x ∈ ws', Z.heap.size ≤ x) (hws : ∀ x ∈ ws', x ∈ ws ∨ s.heap.size ≤ x) (hsi : ∀ x ∈ ws', Sfe Z h sf x)
    (k : ∀ v T' h', Wk p l e R s m args below meth c Z a0 EL own ws T' h' sf lts (cells + nc) (slots + ns) → Keep h h' ws' → (∃ L, Qn v h' L) → Go p e below P T' (mkF m (pc + 3) Ls (v.toList ++ rest))) : Go p e below P T (mkF m pc Ls stk) := by
  subst hst
  obtain ⟨hx, hEL, vm0, k0, locs, X, eT, hS, hk, hZ, hown, hC, hN, hO, hK, hsf, hlt⟩ := X
  obtain ⟨cq, kq, qa, qb, qc⟩ := isOf (s := s.setVm vm0) hZ eT E
  obtain ⟨v, _, ⟨T', L', k', n'⟩, -, X', ⟨L, hQ, l1, l2, l3⟩, st⟩ := X.virtualBack hx (y := y) (z := z) hown (mvT (s := s.setVm vm0) hZ w1) (mvT (s := s.setVm vm0) hZ w2) (nf _ hZ) (mvT (s := s.setVm vm0) hZ w3) (mvT (s := s.setVm vm0) hZ w4) hy (hB vm0 hZ) qa qc (g := mkF m pc Ls (argsL.reverse ++ .ref a :: rest)) rfl hsize (Steps.refl _) (argsL := argsL) (rest := rest) (lenOf hpd hlen) rfl (by rw [← hW]; show 2 * 0 + _ ≤ _; omega) hd (fun _ _ => ⟨rfl, eT, hce, hsl⟩)
  dsimp only [Pt.U, Pt.locs, Pt.cells, Pt.slots] at X' hQ l1 l2 l3 st
  subst l1 l2 l3
  have q := hQn _ _ _ hQ
  exact Go.of (fun t q => st.trans q) (k v T' T'.heap (Wk.backN hx hEL hS hk hZ hown hC hN hO hK hsf hlt X' q.1 q.2 hw0 hws hsi) q.2 ⟨L, hQ⟩)

theorem Wk.irem {x y : Int32} (X : Wk p l e R s m args below meth c Z a0 EL own ws T h sf lts cells slots) (hd : decode c.code pc = .ok (.irem, 1)) (hy : y ≠ 0) (k : Go p e below P T (mkF m (pc + 1) Ls (.int (x % y) :: rest))) : Go p e below P T (mkF m pc Ls (.int y :: .int x :: rest)) := by
  obtain ⟨hx, hEL, vm0, k0, locs, X, q⟩ := X
  exact Go.of (fun t k => iremM X hx rfl hd rfl hy k) k

/-- a String of Latin-1 chars cs: its object x, its byte[] t -/
def Str (Z : State) (h : Heap) (x t : Nat) (kb : ClassId) (cs : List Int32) : Prop :=
  Exa Z h x "java/lang/String" ∧ Fld Z h x "java/lang/String" "value" "[B" (.ref t) ∧ Fld Z h x "java/lang/String" "coder" "B" (.int 0) ∧ Arv Z h t kb .byte (Int32.ofNat cs.length) ((cs.map fun c => c.toInt8.toInt32).map Value.int) (.int 0) ∧ (∀ c ∈ cs, ¬ c < 0 ∧ ¬ (255 : Int32) < c) ∧ cs.length ≤ 4000
variable {x t : Nat} {kb : ClassId} {cs : List Int32} {h' : Heap}
theorem Str.ext (F : Str Z h x t kb cs) (E : Ext h h') : Str Z h' x t kb cs := ⟨F.1.ext E, F.2.1.ext E, F.2.2.1.ext E, F.2.2.2.1.ext E, F.2.2.2.2⟩
theorem Str.keep {ws' : List Addr} (F : Str Z h x t kb cs) (K : Keep h h' ws') (q : x ∉ ws') (r : t ∉ ws') : Str Z h' x t kb cs := ⟨F.1.keep K, F.2.1.keep K q, F.2.2.1.keep K q, F.2.2.2.1.keep K r, F.2.2.2.2⟩
theorem Str.lt (F : Str Z h x t kb cs) : x < h.size := F.1.lt
theorem Str.lt' (F : Str Z h x t kb cs) : t < h.size := F.2.2.2.1.lt
theorem Str.up (F : Str Z h x t kb cs) : ∀ c ∈ cs, ¬ c < 0 ∧ ¬ (65535 : Int32) < c := fun c hc => ⟨(F.2.2.2.2.1 c hc).1, fun q => (F.2.2.2.2.1 c hc).2 (by rw [Int32.lt_iff_toInt_lt] at q ⊢; have e1 : (65535 : Int32).toInt = 65535 := rfl; have e2 : (255 : Int32).toInt = 255 := rfl; omega)⟩

theorem and_nn (x m : Int32) (q : 0 ≤ m.toInt) : ¬ (x &&& m) < 0 ∧ (x &&& m).toNatClampNeg ≤ m.toInt.toNat := by
  have r := c_and x m q
  refine ⟨fun z => ?_, ?_⟩
  · rw [Int32.lt_iff_toInt_lt] at z
    have e : (0 : Int32).toInt = 0 := rfl
    omega
  · show (x &&& m).toInt.toNat ≤ _
    omega
theorem b8b8 (c : Int32) : c.toInt8.toInt32.toInt8.toInt32 = c.toInt8.toInt32 := by
  have e : c.toInt8.toInt32.toInt8 = c.toInt8 := by simp
  rw [e]
/-- (char) (c & 255) -/
theorem c255 (x : Int32) : (x &&& (255 : Int32)).toUInt32.toUInt16.toUInt32.toInt32 = x &&& 255 := i2c_mask x
theorem r255 (x : Int32) : ¬ (x &&& 255) < 0 ∧ ¬ (255 : Int32) < (x &&& 255) := by
  have r := c_and x 255 (by decide)
  have e : (0 : Int32).toInt = 0 := rfl
  have e2 : (255 : Int32).toInt = 255 := rfl
  refine ⟨fun z => ?_, fun z => ?_⟩ <;> rw [Int32.lt_iff_toInt_lt] at z <;> omega
theorem nar255 (x : Int32) (h0 : ¬ x < 0) (h1 : ¬ (255 : Int32) < x) : nar .char x = x := by
  show x.toUInt32.toUInt16.toUInt32.toInt32 = x
  have r := c_i2c x
  have e : (0 : Int32).toInt = 0 := rfl
  have e2 : (255 : Int32).toInt = 255 := rfl
  rw [Int32.lt_iff_toInt_lt] at h0 h1
  apply Int32.toInt_inj.mp
  omega

theorem Wk.instNull {index : Nat} (X : Wk p l e R s m args below meth c Z a0 EL own ws T h sf lts cells slots) (hd : decode c.code pc = .ok (.instanceof index, 3)) (k : Go p e below P T (mkF m (pc + 3) Ls (.int 0 :: rest))) : Go p e below P T (mkF m pc Ls (.null :: rest)) := by
  obtain ⟨hx, hEL, vm0, k0, locs, X, q⟩ := X
  exact Go.of (X.instanceofNull hx (g := mkF m pc Ls (.null :: rest)) rfl rfl hd) k
theorem Wk.castNull {index : Nat} (X : Wk p l e R s m args below meth c Z a0 EL own ws T h sf lts cells slots) (hd : decode c.code pc = .ok (.checkcast index, 3)) (k : Go p e below P T (mkF m (pc + 3) Ls (.null :: rest))) : Go p e below P T (mkF m pc Ls (.null :: rest)) := by
  obtain ⟨hx, hEL, vm0, k0, locs, X, q⟩ := X
  exact Go.of (X.checkcastNull hx (g := mkF m pc Ls (.null :: rest)) rfl rfl hd) k
theorem Wk.instNo {K C : String} {index : Nat} {a : Addr} (X : Wk p l e R s m args below meth c Z a0 EL own ws T h sf lts cells slots) (w : (Cond.classLink own index K).before a0 Z = true) (E : Exa Z h a C) (F : ∃ c t, Z.vm.findClass C = some c ∧ Z.vm.findClass K = some t ∧ Z.vm.assignable c t = false) (hd : decode c.code pc = .ok (.instanceof index, 3))
    (k : ∀ T', Wk p l e R s m args below meth c Z a0 EL own ws T' h sf lts cells slots → Go p e below P T' (mkF m (pc + 3) Ls (.int 0 :: rest))) : Go p e below P T (mkF m pc Ls (.ref a :: rest)) := by
  obtain ⟨hx, hEL, vm0, k0, locs, X, eT, hS, hk, hZ, hown, q⟩ := X
  obtain ⟨T', X', e', st'⟩ := Jvm.RoadKit.instNo X hx (s := s.setVm vm0) hZ hown w eT E F (g := mkF m pc Ls (.ref a :: rest)) rfl rfl hd
  exact Go.of st' (k T' ⟨hx, hEL, vm0, k0, locs, X', e', hS, hk, hZ, hown, q⟩)
/-- no object of class C (right below the root) is a K, where K is a plain class -/
theorem no_cast {C S K : String} {n : Nat} (w : (Cond.superclass C S).before a0 Z = true) (wr : (Cond.noSuperclass S).before a0 Z = true) (wi : (Cond.instantiable K n).before a0 Z = true) (h1 : C ≠ K) (h2 : S ≠ K) : ∃ c t, Z.vm.findClass C = some c ∧ Z.vm.findClass K = some t ∧ Z.vm.assignable c t = false := by
  obtain ⟨c, hc⟩ := found_sup w
  obtain ⟨r, k, kr, g1, g2, g3, g4, g5, g6, g7⟩ := Cond.superclass_spec hc w
  obtain ⟨r', k', q1, q2, q3, -, -⟩ := Cond.noSuperclass_spec wr
  obtain ⟨t, kt, f1, f2, f3, f4, -, -⟩ := Cond.instantiable_spec wi
  cases g1.symm.trans q1
  cases g3.symm.trans q2
  have n1 := ids_ne hc f1 h1
  have n2 := ids_ne g1 f1 h2
  have f5 : kt.isInterface = false := by
    rw [Bool.or_eq_false_iff] at f4
    exact f4.1
  have hs : ∀ fuel, Z.vm.isSubclassAux fuel c t = false := fun fuel => by
    cases fuel with
    | zero => rfl
    | succ f => cases f with
      | zero => simp [Vm.isSubclassAux, n1, g2, g4]
      | succ f => simp [Vm.isSubclassAux, n1, n2, g2, g4, g3, q3]
  refine ⟨c, t, hc, f1, ?_⟩
  show Z.vm.assignableAux (255 + 1) c t = false
  simp [Vm.assignableAux, n1, g2, f2, g5, f3, f5, Vm.isSubclass, hs]
theorem nar_i2c (x : Int32) (h0 : ¬ x < 0 ∧ ¬ (255 : Int32) < x) : nar .char (x.toUInt32.toUInt16.toUInt32.toInt32) = x := by
  have q := nar255 x h0.1 h0.2
  have r : x.toUInt32.toUInt16.toUInt32.toInt32 = x := q
  rw [r, q]
theorem i2c255 (x : Int32) (h0 : ¬ x < 0 ∧ ¬ (255 : Int32) < x) : x.toUInt32.toUInt16.toUInt32.toInt32 = x := nar255 x h0.1 h0.2
theorem rem3 (x : Int32) (h0 : ¬ x < 0) : x % 3 = 0 ∨ x % 3 = 1 ∨ x % 3 = 2 := by
  have r := (c_irem x 3 3 rfl).1
  have e : (0 : Int32).toInt = 0 := rfl
  have e1 : (1 : Int32).toInt = 1 := rfl
  have e2 : (2 : Int32).toInt = 2 := rfl
  rw [Int32.lt_iff_toInt_lt] at h0
  have r := r (by omega)
  have q : (x % 3).toInt = 0 ∨ (x % 3).toInt = 1 ∨ (x % 3).toInt = 2 := by omega
  rcases q with q | q | q
  · exact Or.inl (Int32.toInt_inj.mp (q.trans e.symm))
  · exact Or.inr (Or.inl (Int32.toInt_inj.mp (q.trans e1.symm)))
  · exact Or.inr (Or.inr (Int32.toInt_inj.mp (q.trans e2.symm)))
/-- the chars of a String of at most two -/
def chs (n c0 c1 : Int32) : List Int32 := if n = 0 then [] else if n = 1 then [c0] else [c0, c1]
theorem chs_eq {n k c0 c1 d0 d1 : Int32} (hn : n = 0 ∨ n = 1 ∨ n = 2) (hk : k = 0 ∨ k = 1 ∨ k = 2) : chs n c0 c1 = chs k d0 d1 ↔ n = k ∧ (n < 1 ∨ c0 = d0) ∧ (n < 2 ∨ c1 = d1) := by
  rcases hn with rfl | rfl | rfl <;> rcases hk with rfl | rfl | rfl <;> simp [chs]

theorem Wk.acmp {cd : ACond} {x y : Value} {o : Int} {pc' : Nat} {same : Bool} (X : Wk p l e R s m args below meth c Z a0 EL own ws T h sf lts cells slots) (h1 : x.isRef = true) (h2 : y.isRef = true) (hd : decode c.code pc = .ok (.if_acmp cd o, 3)) (hq : decide (x = y) = same) (ho : 0 ≤ (pc : Int) + o) (hp : pc' = if acV cd same = true then ((pc : Int) + o).toNat else pc + 3)
    (k : Go p e below P T (mkF m pc' Ls rest)) : Go p e below P T (mkF m pc Ls (y :: x :: rest)) := by
  obtain ⟨hx, hEL, vm0, k0, locs, X, q⟩ := X
  exact Go.of (fun t k => Jvm.RoadKit.acmp (g := mkF m pc Ls (y :: x :: rest)) X hx rfl h1 h2 rfl hd rfl hq ho hp k) k
theorem allI1 {a : Int32} (h : ¬ a < 0 ∧ ¬ (255 : Int32) < a) : ∀ c ∈ ([a] : List Int32), ¬ c < 0 ∧ ¬ (255 : Int32) < c := fun c hc => by rw [List.mem_singleton.mp hc]; exact h
theorem allI2 {a b : Int32} (h : ¬ a < 0 ∧ ¬ (255 : Int32) < a) (h' : ¬ b < 0 ∧ ¬ (255 : Int32) < b) : ∀ c ∈ ([a, b] : List Int32), ¬ c < 0 ∧ ¬ (255 : Int32) < c := fun c hc => by
  rcases List.mem_cons.mp hc with rfl | hc
  · exact h
  · exact allI1 h' c hc
theorem ushr_nn (x q : Int32) (k : Nat) (hk : q.toBitVec.toNat % 32 = k) (h0 : 0 < k) : ¬ ((x.toUInt32 >>> (q &&& 31).toUInt32).toInt32) < 0 := fun z => by
  have r := c_iushr x q k hk h0
  have e : (0 : Int32).toInt = 0 := rfl
  rw [Int32.lt_iff_toInt_lt, e, r] at z
  have : 0 ≤ x.toInt % 4294967296 / ((2 ^ k : Nat) : Int) := Int.ediv_nonneg (by omega) (Int.natCast_nonneg _)
  omega

theorem ofNat_toInt {i : Nat} (hi : i < 2147483648) : (Int32.ofNat i).toInt = i := Int32.toInt_ofNat_small (by omega)
theorem i32lt {i n : Nat} (hi : i < 2147483648) (hn : n < 2147483648) : Int32.ofNat i < Int32.ofNat n ↔ i < n := by
  rw [Int32.lt_iff_toInt_lt, ofNat_toInt hi, ofNat_toInt hn]; omega
theorem i32inj {i n : Nat} (hi : i < 2147483648) (hn : n < 2147483648) : Int32.ofNat i = Int32.ofNat n ↔ i = n := by
  constructor
  · intro q
    have q := congrArg Int32.toInt q
    rw [ofNat_toInt hi, ofNat_toInt hn] at q; omega
  · rintro rfl; rfl
theorem i32add (i j : Nat) : Int32.ofNat i + Int32.ofNat j = Int32.ofNat (i + j) := (Int32.ofNat_add i j).symm
theorem i32succ (i : Nat) : Int32.ofNat i + 1 = Int32.ofNat (i + 1) := i32add i 1
theorem i32sub {i j : Nat} (q : j ≤ i) : Int32.ofNat i - Int32.ofNat j = Int32.ofNat (i - j) := by
  have r := i32add (i - j) j
  rw [Nat.sub_add_cancel q] at r
  rw [← r]; simp

theorem Wk.ldcI {index : Nat} {v : Int32} {st : List Value} (X : Wk p l e R s m args below meth c Z a0 EL own ws T h sf lts cells slots) (w : (Cond.constant own index v).before a0 Z = true) (hd : decode c.code pc = .ok (.ldc index, 2)) (k : Go p e below P T (mkF m (pc + 2) Ls (.int v :: st))) : Go p e below P T (mkF m pc Ls st) := by
  obtain ⟨hx, hEL, vm0, k0, locs, X, eT, hS, hk, hZ, hown, q⟩ := X
  exact Go.of (X.ldcInt hx (s := s.setVm vm0) hown (mvT (s := s.setVm vm0) hZ w) (g := mkF m pc Ls st) rfl hd) k
/-- clone() of an array -/
theorem Wk.clone {ad : String} {index W cap : Nat} {a : Addr} {kc : ClassId} {ty : FieldType} {z : Int32} {vs : List Value} {dv : Value} (X : Wk p l e R s m args below meth c Z a0 EL own ws T h sf lts cells slots)
    (w1 : (Cond.methodLink own index ⟨ad, "clone", "()Ljava/lang/Object;"⟩).before a0 Z = true) (w2 : (Cond.sameMethod ad "java/lang/Object" "clone" "()Ljava/lang/Object;").before a0 Z = true) (w3 : (Cond.native ⟨"java/lang/Object", "clone", "()Ljava/lang/Object;"⟩).before a0 Z = true)
    (w4 : (Cond.instanceMethod ⟨"java/lang/Object", "clone", "()Ljava/lang/Object;"⟩).before a0 Z = true) (w5 : (Cond.selects ad ⟨ad, "clone", "()Ljava/lang/Object;"⟩ ⟨"java/lang/Object", "clone", "()Ljava/lang/Object;"⟩).before a0 Z = true) (w6 : (Cond.castable ad "java/lang/Cloneable").before a0 Z = true)
    (A : Arv Z h a kc ty z vs dv) (E : Exa Z h a ad) (hsize : Ls.size = c.maxLocals) (hd : decode c.code pc = .ok (.invokevirtual index, 3)) (hf : 1 ≤ R.frames) (hW : (rest.map fun v => v.category).sum = W) (hl : W + 14 ≤ R.locals) (hcap : z.toNatClampNeg ≤ cap) (hc : cells + 1 ≤ R.cells) (hsl : slots + cap ≤ R.slots)
    (k : ∀ T' h' b, b = h.size → Wk p l e R s m args below meth c Z a0 EL own ws T' h' (b :: sf) lts (cells + 1) (slots + cap) → Ext h h' → Arv Z h' b kc ty z vs dv → Exa Z h' b ad → Go p e below P T' (mkF m (pc + 3) Ls (.ref b :: rest))) : Go p e below P T (mkF m pc Ls (.ref a :: rest)) := by
  obtain ⟨hx, hEL, vm0, k0, locs, X, eT, hS, hk, hZ, hown, hC, hN, hO, hK, hsf, hlt⟩ := X
  obtain ⟨T', h', X', e', E', A', B', st'⟩ := cloneH X hx (s := s.setVm vm0) hZ hown w1 w2 w3 w4 w5 w6 eT (hs := []) (show Arh Z h a kc ty z [] vs dv from A) E (g := mkF m pc Ls (.ref a :: rest)) rfl hsize rfl hd hf (W := W) (by rw [← hW]; show 2 * 0 + _ ≤ _; omega) hl hcap hc hsl
  exact Go.of st' (k T' h' h.size rfl ⟨hx, hEL, vm0, k0, locs, X', e', hS, Nat.le_trans hk E'.1, hZ, hown, hC.trans (CHr.ext E' hC.1), hN, ext_trans hO E', hK.ext E', fun x hx => by
    rcases List.mem_cons.mp hx with rfl | hx
    · exact ⟨B'.lt, (Safe.new (Nat.le_refl _)).ext E' hC.1⟩
    · exact ⟨Nat.lt_of_lt_of_le (hsf x hx).1 E'.1, (hsf x hx).2.ext E' hC.1⟩, hlt⟩ E' A' B')
theorem ninN {x y : Nat} {L : List Nat} (q : x ≠ y) (r : x ∉ L) : x ∉ y :: L := ninS q r
theorem lt_snoc {P : Nat → Prop} {i : Nat} (h : ∀ j, j < i → P j) (hi : P i) : ∀ j, j < i + 1 → P j := fun j hj => by
  rcases Nat.lt_or_ge j i with q | q
  · exact h j q
  · obtain rfl : j = i := by omega
    exact hi
theorem ge_snoc {P : Nat → Prop} {f i : Nat} (h : ∀ j, f ≤ j → j < i → P j) (hi : P i) : ∀ j, f ≤ j → j < i + 1 → P j := fun j hf hj => by
  rcases Nat.lt_or_ge j i with q | q
  · exact h j hf q
  · obtain rfl : j = i := by omega
    exact hi
theorem ge_pred {P : Nat → Prop} {i n : Nat} (h : ∀ j, i ≤ j → j < n → P j) (hi : P (i - 1)) : ∀ j, i - 1 ≤ j → j < n → P j := fun j hf hj => by
  rcases Nat.lt_or_ge j i with q | q
  · obtain rfl : j = i - 1 := by omega
    exact hi
  · exact h j q hj
end Base
end Own
end Jvm.Pilot.@@N@@
/- laws to paste: Road.backV, Road.lenW, Road.chN, Road.eqW, Road.codOf (cut by pick.py; bodies as the Statement names them) -/
namespace Jvm.Pilot.@@N@@
namespace StrChars
open Jvm Sem ClassFile Op Lib Jvm.Stand Jvm.Free.XT Jvm.Free.ALB Jvm.Free.JM Jvm.Free
open Jvm.Lib.Cold (StaticIs)
/-- a char array whose places are chars -/
def Ch (a : Addr) (A : Cell) (U : State) : Prop := Arr .char a A U ∧ Typed .char A
theorem Ch.mv {a : Addr} {A : Cell} {U U' : State} (h : Ch a A U) (hal : U.vm.Alike U'.vm) (hh : U'.heap = U.heap) : Ch a A U' := ⟨h.1.mv hal hh, h.2⟩
theorem Ch.keep {a : Addr} {A : Cell} {U U' : State} (h : Ch a A U) (hal : U.vm.Alike U'.vm) (hk : U'.heap[a]? = some A) : Ch a A U' := ⟨h.1.keep hal hk, h.2⟩
/-- what place i of a char[]'s cell holds -/
def cv (A : Cell) (i : Nat) : Int32 := match A.slots[i]? with | some (.int x) => x | _ => 0
theorem Ch.get {a : Addr} {A : Cell} {U : State} (h : Ch a A U) {i : Nat} (hi : i < A.slots.size) : A.slots[i]? = some (.int (cv A i)) := by
  have e := Array.getElem?_eq_getElem hi
  have f := h.2 i _ e
  unfold cv; rw [e]
  generalize A.slots[i] = v at f
  cases v <;> simp [fits] at f ⊢
/-- the byte that i2b leaves of a char -/
def lo8 (x : Int32) : Int32 := x.toInt8.toInt32
theorem fits_lo8 (y : Int32) : fits .byte (.int (lo8 y)) = true := by
  have h1 := y.toInt8.le_toInt
  have h2 := y.toInt8.toInt_lt
  simp only [lo8, fits, Bool.and_eq_true, decide_eq_true_eq, Int32.le_iff_toInt_le, Int8.toInt_toInt32, show (-128 : Int32).toInt = -128 from by decide, show (127 : Int32).toInt = 127 from by decide]
  omega
/-- A' is A but that each place j of lo .. hi - 1 holds f j -/
def Laid (A A' : Cell) (lo hi : Nat) (f : Nat → Value) : Prop := A'.cls = A.cls ∧ A'.vm = A.vm ∧ A'.slots.size = A.slots.size ∧ ∀ i, A'.slots[i]? = if lo ≤ i ∧ i < hi then some (f i) else A.slots[i]?
theorem Laid.zero (A : Cell) (lo : Nat) (f : Nat → Value) : Laid A A lo (lo + 0) f := ⟨rfl, rfl, rfl, fun i => by rw [if_neg (by omega)]⟩
theorem Laid.step {A Ak : Cell} {lo k : Nat} {f : Nat → Value} {v : Value} (h : Laid A Ak lo k f) (hlo : lo ≤ k) (hk : k < Ak.slots.size) (hv : v = f k) : Laid A (Ak.setSlot k v) lo (k + 1) f := by
  refine ⟨h.1, h.2.1, by simpa [Cell.setSlot] using h.2.2.1, fun i => ?_⟩
  by_cases e : k = i
  · subst e; rw [Cell.slots_setSlot_self v hk, if_pos (by omega), hv]
  · rw [Cell.slots_setSlot_ne v e, h.2.2.2 i]
    by_cases q : lo ≤ i ∧ i < k
    · rw [if_pos q, if_pos (by omega)]
    · rw [if_neg q, if_neg (by omega)]
def U16 : String := "java/lang/StringUTF16"
namespace Cmp5
def yN : MethodName := ⟨"java/lang/StringUTF16", "compress", "([CI[BII)I"⟩
abbrev yB : ByteArray := jdk_52_method_21_code
theorem d0 : decode yB 0 = .ok (.iconst 0, 1) := by decide +kernel
theorem d1 : decode yB 1 = .ok (.istore 5, 2) := by decide +kernel
theorem d3 : decode yB 3 = .ok (.iload 5, 2) := by decide +kernel
theorem d5 : decode yB 5 = .ok (.iload 4, 2) := by decide +kernel
theorem d7 : decode yB 7 = .ok (.if_icmp (.ge) 37, 3) := by decide +kernel
theorem d10 : decode yB 10 = .ok (.aload_n 0, 1) := by decide +kernel
theorem d11 : decode yB 11 = .ok (.iload_n 1, 1) := by decide +kernel
theorem d12 : decode yB 12 = .ok (.caload, 1) := by decide +kernel
theorem d13 : decode yB 13 = .ok (.istore 6, 2) := by decide +kernel
theorem d15 : decode yB 15 = .ok (.iload 6, 2) := by decide +kernel
theorem d17 : decode yB 17 = .ok (.sipush 255, 3) := by decide +kernel
theorem d20 : decode yB 20 = .ok (.if_icmp (.le) 6, 3) := by decide +kernel
theorem d26 : decode yB 26 = .ok (.aload_n 2, 1) := by decide +kernel
theorem d27 : decode yB 27 = .ok (.iload_n 3, 1) := by decide +kernel
theorem d28 : decode yB 28 = .ok (.iload 6, 2) := by decide +kernel
theorem d30 : decode yB 30 = .ok (.i2b, 1) := by decide +kernel
theorem d31 : decode yB 31 = .ok (.bastore, 1) := by decide +kernel
theorem d32 : decode yB 32 = .ok (.iinc 1 1, 3) := by decide +kernel
theorem d35 : decode yB 35 = .ok (.iinc 3 1, 3) := by decide +kernel
theorem d38 : decode yB 38 = .ok (.iinc 5 1, 3) := by decide +kernel
theorem d41 : decode yB 41 = .ok (.goto (-38), 3) := by decide +kernel
theorem d44 : decode yB 44 = .ok (.iload 4, 2) := by decide +kernel
theorem d46 : decode yB 46 = .ok (.ireturn, 1) := by decide +kernel
def site : List Cond := []
def tab : Cond := tabOf yN yB 7 (some .int) site
def P (b : Addr) (A : Cell) (d : Addr) (B : Cell) (o q len : Nat) (args : Array Value) (s : State) : Prop := args = #[.ref b, .int (Int32.ofNat o), .ref d, .int (Int32.ofNat q), .int (Int32.ofNat len)] ∧ Ch b A s ∧ Arr .byte d B s ∧ b ≠ d ∧ o + len ≤ A.slots.size ∧ q + len ≤ B.slots.size ∧ ∀ i, i < len → ¬ 255 < cv A (o + i)
def E (b : Addr) (A : Cell) (d : Addr) (B : Cell) (o q len : Nat) (r : Option Value) (s u : State) : Prop := r = some (.int (Int32.ofNat len)) ∧ ∃ B', Put d B' s u ∧ Laid B B' q (q + len) (fun j => Value.int (lo8 (cv A (o + (j - q)))))
/-- no char of the range above 255: len; the places written hold each char's low byte -/
theorem law (l : Launch) (b : Addr) (A : Cell) (d : Addr) (B : Cell) (o q len : Nat) : Law l yN 5 5 0 0 yB 7 (some .int) site (P b A d B o q len) (E b A d B o q len) (copyLocs d q len) 0 0 := by
  refine Law.of_walk (plainFor_of_name (by decide +kernel)) (by decide +kernel) (by decide +kernel) (by decide) (fun _ _ h => by rw [h.1]; rfl) (fun _ U U' hal hh h => ⟨h.1, h.2.1.mv hal hh, h.2.2.1.mv hal hh, h.2.2.2⟩) (fun r U U' V V' h1 hal h2 h => ⟨h.1, h.2.elim fun B' q => ⟨B', q.1.mv h1 h2, q.2⟩⟩) ?_
  intro p e s m args below meth c s₁ X0 hexec hbytes hml hret hlk hnm hown hh0 W hP
  obtain ⟨rfl, hA, hB, hne, l1, l2, hp⟩ := hP
  have c1 : Steps p.tables e below (s₁.setTop (entryFrame m #[.ref b, .int (Int32.ofNat o), .ref d, .int (Int32.ofNat q), .int (Int32.ofNat len)] 7)) (s₁.setTop (mkF m 0 #[.val (.ref b), .val (.int (Int32.ofNat o)), .val (.ref d), .val (.int (Int32.ofNat q)), .val (.int (Int32.ofNat len)), .unset, .unset] [])) := entry rfl
  have hA0 := hA.1.mv X0.warmed.alike hh0
  have hB0 := hB.mv X0.warmed.alike hh0
  have a31 := hA.1.2.2.2
  have c2 : Steps p.tables e below (s₁.setTop (entryFrame m #[.ref b, .int (Int32.ofNat o), .ref d, .int (Int32.ofNat q), .int (Int32.ofNat len)] 7)) (s₁.setTop (mkF m 3 #[.val (.ref b), .val (.int (Int32.ofNat o)), .val (.ref d), .val (.int (Int32.ofNat q)), .val (.int (Int32.ofNat len)), .val (.int 0), .unset] [])) := c1.trans (by
    refine iconstV X0.here hexec rfl 0 (hb hbytes d0) (by decide) ?_
    refine XS.istore X0.here hexec rfl (hb hbytes d1) rfl rfl ?_
    exact Steps.refl _)
  have loop : ∀ (r i : Nat), i + r = len → ∀ (z : Slot), (z = .unset ∨ ∃ w, z = .val w ∧ w.category = 1) → ∀ (Tl : State) (Bk : Cell), Stand p l e { frames := 0, locals := 0, cells := 0, slots := 0 } s m #[.ref b, .int (Int32.ofNat o), .ref d, .int (Int32.ofNat q), .int (Int32.ofNat len)] below meth c Tl ([] ++ copyLocs d q i) 0 0 → Put d Bk s₁ Tl → Laid B Bk q (q + i) (fun j => Value.int (lo8 (cv A (o + (j - q))))) →
      Steps p.tables e below (s₁.setTop (entryFrame m #[.ref b, .int (Int32.ofNat o), .ref d, .int (Int32.ofNat q), .int (Int32.ofNat len)] 7)) (Tl.setTop (mkF m 3 #[.val (.ref b), .val (.int (Int32.ofNat (o + i))), .val (.ref d), .val (.int (Int32.ofNat (q + i))), .val (.int (Int32.ofNat len)), .val (.int (Int32.ofNat i)), z] [])) → ∃ (T' : State) (B' : Cell) (z' : Slot), Stand p l e { frames := 0, locals := 0, cells := 0, slots := 0 } s m #[.ref b, .int (Int32.ofNat o), .ref d, .int (Int32.ofNat q), .int (Int32.ofNat len)] below meth c T' ([] ++ copyLocs d q len) 0 0 ∧ Put d B' s₁ T' ∧ Laid B B' q (q + len) (fun j => Value.int (lo8 (cv A (o + (j - q))))) ∧
      Steps p.tables e below (s₁.setTop (entryFrame m #[.ref b, .int (Int32.ofNat o), .ref d, .int (Int32.ofNat q), .int (Int32.ofNat len)] 7)) (T'.setTop (mkF m 3 #[.val (.ref b), .val (.int (Int32.ofNat (o + len))), .val (.ref d), .val (.int (Int32.ofNat (q + len))), .val (.int (Int32.ofNat len)), .val (.int (Int32.ofNat len)), z'] [])) := by
    intro r
    induction r with
    | zero =>
      intro i hi z hz Tl Bk Xl pl fl cl
      have hil : i = len := by omega
      rw [hil] at Xl fl cl
      exact ⟨Tl, Bk, z, Xl, pl, fl, cl⟩
    | succ r ih =>
      intro i hi z hz Tl Bk Xl pl fl cl
      have all := X0.warmed.alike.symm.trans Xl.warmed.alike
      have hAl := hA0.keep all (pl.other hne hA0.1)
      have hBk := hB0.like all pl.1 fl.1 fl.2.1 fl.2.2.1
      have hlt : q + i < Bk.slots.size := by rw [fl.2.2.1]; omega
      have c3 : Steps p.tables e below (s₁.setTop (entryFrame m #[.ref b, .int (Int32.ofNat o), .ref d, .int (Int32.ofNat q), .int (Int32.ofNat len)] 7)) (Tl.setTop (mkF m 12 #[.val (.ref b), .val (.int (Int32.ofNat (o + i))), .val (.ref d), .val (.int (Int32.ofNat (q + i))), .val (.int (Int32.ofNat len)), .val (.int (Int32.ofNat i)), z] [.int (Int32.ofNat (o + i)), .ref b])) := cl.trans (by
        refine XS.iload Xl.here hexec rfl (hb hbytes d3) rfl ?_
        refine XS.iload Xl.here hexec rfl (hb hbytes d5) rfl ?_
        refine XS.icmpNo Xl.here hexec rfl (hb hbytes d7) rfl (ii_ge_f (lt32 (by omega) (by omega))) ?_
        refine XS.aloadN Xl.here hexec rfl (hb hbytes d10) rfl rfl ?_
        refine XS.iloadN Xl.here hexec rfl (hb hbytes d11) rfl ?_
        exact Steps.refl _)
      have c4 : Steps p.tables e below (s₁.setTop (entryFrame m #[.ref b, .int (Int32.ofNat o), .ref d, .int (Int32.ofNat q), .int (Int32.ofNat len)] 7)) (Tl.setTop (mkF m 13 #[.val (.ref b), .val (.int (Int32.ofNat (o + i))), .val (.ref d), .val (.int (Int32.ofNat (q + i))), .val (.int (Int32.ofNat len)), .val (.int (Int32.ofNat i)), z] [.int (cv A (o + i))])) := c3.trans (by
        refine Xl.aget hexec hAl rfl (hA.get (i := o + i) (by omega)) rfl rfl (hb hbytes d12) ?_
        exact Steps.refl _)
      have c5 : Steps p.tables e below (s₁.setTop (entryFrame m #[.ref b, .int (Int32.ofNat o), .ref d, .int (Int32.ofNat q), .int (Int32.ofNat len)] 7)) (Tl.setTop (mkF m 15 #[.val (.ref b), .val (.int (Int32.ofNat (o + i))), .val (.ref d), .val (.int (Int32.ofNat (q + i))), .val (.int (Int32.ofNat len)), .val (.int (Int32.ofNat i)), .val (.int (cv A (o + i)))] [])) := c4.trans (by
        refine XS.istoreS Xl.here hexec rfl (hb hbytes d13) rfl rfl hz ?_
        exact Steps.refl _)
      have c6 : Steps p.tables e below (s₁.setTop (entryFrame m #[.ref b, .int (Int32.ofNat o), .ref d, .int (Int32.ofNat q), .int (Int32.ofNat len)] 7)) (Tl.setTop (mkF m 31 #[.val (.ref b), .val (.int (Int32.ofNat (o + i))), .val (.ref d), .val (.int (Int32.ofNat (q + i))), .val (.int (Int32.ofNat len)), .val (.int (Int32.ofNat i)), .val (.int (cv A (o + i)))] [.int (lo8 (cv A (o + i))), .int (Int32.ofNat (q + i)), .ref d])) := c5.trans (by
        refine XS.iload Xl.here hexec rfl (hb hbytes d15) rfl ?_
        refine sipushV Xl.here hexec rfl 255 (hb hbytes d17) (by decide) ?_
        refine XS.icmpYes Xl.here hexec rfl (pc0 := 20) rfl (hb hbytes d20) rfl (ii_le_t (hp i (by omega))) (by decide) rfl ?_
        refine XS.aloadN Xl.here hexec rfl (hb hbytes d26) rfl rfl ?_
        refine XS.iloadN Xl.here hexec rfl (hb hbytes d27) rfl ?_
        refine XS.iload Xl.here hexec rfl (hb hbytes d28) rfl ?_
        refine i2b Xl.here hexec rfl (hb hbytes d30) rfl ?_
        exact Steps.refl _)
      obtain ⟨T7, X7, p7, st7⟩ := Xl.aput hexec hBk rfl hlt rfl (fits_lo8 (cv A (o + i))) (g := (mkF m 31 #[.val (.ref b), .val (.int (Int32.ofNat (o + i))), .val (.ref d), .val (.int (Int32.ofNat (q + i))), .val (.int (Int32.ofNat len)), .val (.int (Int32.ofNat i)), .val (.int (cv A (o + i)))] [.int (lo8 (cv A (o + i))), .int (Int32.ofNat (q + i)), .ref d])) rfl (rest := []) rfl (hb hbytes d31)
      have c8 : Steps p.tables e below (s₁.setTop (entryFrame m #[.ref b, .int (Int32.ofNat o), .ref d, .int (Int32.ofNat q), .int (Int32.ofNat len)] 7)) (T7.setTop (mkF m 32 #[.val (.ref b), .val (.int (Int32.ofNat (o + i))), .val (.ref d), .val (.int (Int32.ofNat (q + i))), .val (.int (Int32.ofNat len)), .val (.int (Int32.ofNat i)), .val (.int (cv A (o + i)))] [])) := c6.trans (st7 _ (Steps.refl _))
      have c9 : Steps p.tables e below (s₁.setTop (entryFrame m #[.ref b, .int (Int32.ofNat o), .ref d, .int (Int32.ofNat q), .int (Int32.ofNat len)] 7)) (T7.setTop (mkF m 3 #[.val (.ref b), .val (.int (Int32.ofNat (o + i) + 1)), .val (.ref d), .val (.int (Int32.ofNat (q + i) + 1)), .val (.int (Int32.ofNat len)), .val (.int (Int32.ofNat i + 1)), .val (.int (cv A (o + i)))] [])) := c8.trans (by
        refine iincV X7.here hexec rfl 1 (hb hbytes d32) (by decide) rfl rfl ?_
        refine iincV X7.here hexec rfl 1 (hb hbytes d35) (by decide) rfl rfl ?_
        refine iincV X7.here hexec rfl 1 (hb hbytes d38) (by decide) rfl rfl ?_
        refine XS.goto X7.here hexec rfl (pc0 := 41) rfl (hb hbytes d41) (by decide) rfl ?_
        exact Steps.refl _)
      have c10 : Steps p.tables e below (s₁.setTop (entryFrame m #[.ref b, .int (Int32.ofNat o), .ref d, .int (Int32.ofNat q), .int (Int32.ofNat len)] 7)) (T7.setTop (mkF m 3 #[.val (.ref b), .val (.int (Int32.ofNat (o + (i + 1)))), .val (.ref d), .val (.int (Int32.ofNat (q + (i + 1)))), .val (.int (Int32.ofNat len)), .val (.int (Int32.ofNat (i + 1))), .val (.int (cv A (o + i)))] [])) := by
        have := c9
        rw [succ32, succ32, succ32] at this
        exact this
      exact ih (i + 1) (by omega) _ (Or.inr ⟨_, rfl, rfl⟩) T7 _ (by rw [copyLocs_step, ← List.append_assoc]; exact X7) (pl.trans p7) (fl.step (by omega) hlt (by simp)) c10
  obtain ⟨T9, B9, z9, X9, p9, f9, g9⟩ := loop len 0 (by omega) .unset (Or.inl rfl) s₁ B (by simpa [copyLocs] using X0) ⟨hB0.1, fun _ _ => rfl, rfl⟩ (Laid.zero _ _ _) c2
  have c11 : Steps p.tables e below (s₁.setTop (entryFrame m #[.ref b, .int (Int32.ofNat o), .ref d, .int (Int32.ofNat q), .int (Int32.ofNat len)] 7)) (T9.setTop (mkF m 46 #[.val (.ref b), .val (.int (Int32.ofNat (o + len))), .val (.ref d), .val (.int (Int32.ofNat (q + len))), .val (.int (Int32.ofNat len)), .val (.int (Int32.ofNat len)), z9] [.int (Int32.ofNat len)])) := g9.trans (by
    refine XS.iload X9.here hexec rfl (hb hbytes d3) rfl ?_
    refine XS.iload X9.here hexec rfl (hb hbytes d5) rfl ?_
    refine XS.icmpYes X9.here hexec rfl (pc0 := 7) rfl (hb hbytes d7) rfl (ii_ge_t (nlt32 (by omega) (Nat.le_refl _))) (by decide) rfl ?_
    refine XS.iload X9.here hexec rfl (hb hbytes d44) rfl ?_
    exact Steps.refl _)
  exact ⟨T9, some (.int (Int32.ofNat len)), _, _, _, X9, by simp, rfl, rfl, (fun h => by cases h), ⟨rfl, B9, p9.from hh0, f9⟩, fun fs hl => c11.trans (X9.ireturnOut hexec hret rfl (Or.inl rfl) (hb hbytes d46) hl)⟩
end Cmp5
namespace Cmp3
def yN : MethodName := ⟨"java/lang/StringUTF16", "compress", "([CII)[B"⟩
abbrev yB : ByteArray := jdk_52_method_16_code
theorem d0 : decode yB 0 = .ok (.iload_n 2, 1) := by decide +kernel
theorem d1 : decode yB 1 = .ok (.newarray .byte, 2) := by decide +kernel
theorem d3 : decode yB 3 = .ok (.astore_n 3, 1) := by decide +kernel
theorem d4 : decode yB 4 = .ok (.aload_n 0, 1) := by decide +kernel
theorem d5 : decode yB 5 = .ok (.iload_n 1, 1) := by decide +kernel
theorem d6 : decode yB 6 = .ok (.aload_n 3, 1) := by decide +kernel
theorem d7 : decode yB 7 = .ok (.iconst 0, 1) := by decide +kernel
theorem d8 : decode yB 8 = .ok (.iload_n 2, 1) := by decide +kernel
theorem d9 : decode yB 9 = .ok (.invokestatic 115, 3) := by decide +kernel
theorem d12 : decode yB 12 = .ok (.istore 4, 2) := by decide +kernel
theorem d14 : decode yB 14 = .ok (.iload 4, 2) := by decide +kernel
theorem d16 : decode yB 16 = .ok (.iload_n 2, 1) := by decide +kernel
theorem d17 : decode yB 17 = .ok (.if_icmp (.eq) 40, 3) := by decide +kernel
theorem d57 : decode yB 57 = .ok (.aload_n 3, 1) := by decide +kernel
theorem d58 : decode yB 58 = .ok (.areturn, 1) := by decide +kernel
def site : List Cond := [.arrayClass .byte, Cmp5.tab] ++ staticW U16 115 Cmp5.yN
def tab : Cond := tabOf yN yB 6 (some (.array .byte)) site
def P (b : Addr) (A : Cell) (o len : Nat) (args : Array Value) (s : State) : Prop := args = #[.ref b, .int (Int32.ofNat o), .int (Int32.ofNat len)] ∧ Ch b A s ∧ o + len ≤ A.slots.size ∧ len ≤ 536870912 ∧ ∀ i, i < len → ¬ 255 < cv A (o + i)
def E (b : Addr) (A : Cell) (o len : Nat) (r : Option Value) (s u : State) : Prop := NewArr .byte "[B" len (fun j => .int (lo8 (cv A (o + j)))) r s u ∧ u.heap.size = s.heap.size + 1
/-- no char of the range above 255: a new byte[] of their low bytes -/
theorem law (l : Launch) (b : Addr) (A : Cell) (o len : Nat) : Law l yN 3 3 1 18 yB 6 (some (.array .byte)) site (P b A o len) (E b A o len) [] 1 len := by
  refine Law.of_walk (plainFor_of_name (by decide +kernel)) (by decide +kernel) (by decide +kernel) (by decide) (fun _ _ h => by rw [h.1]; rfl) (fun _ U U' hal hh h => ⟨h.1, h.2.1.mv hal hh, h.2.2⟩) (fun r U U' V V' h1 hal h2 h => ⟨NewArr.mv r U U' V V' h1 hal h2 h.1, by rw [h1, h2]; exact h.2⟩) ?_
  intro p e s m args below meth c s₁ X0 hexec hbytes hml hret hlk hnm hown hh0 W hP
  obtain ⟨rfl, hA, l1, l2, hp⟩ := hP
  have a31 := hA.1.2.2.2
  have c1 : Steps p.tables e below (s₁.setTop (entryFrame m #[.ref b, .int (Int32.ofNat o), .int (Int32.ofNat len)] 6)) (s₁.setTop (mkF m 0 #[.val (.ref b), .val (.int (Int32.ofNat o)), .val (.int (Int32.ofNat len)), .unset, .unset, .unset] [])) := entry rfl
  have c2 : Steps p.tables e below (s₁.setTop (entryFrame m #[.ref b, .int (Int32.ofNat o), .int (Int32.ofNat len)] 6)) (s₁.setTop (mkF m 1 #[.val (.ref b), .val (.int (Int32.ofNat o)), .val (.int (Int32.ofNat len)), .unset, .unset, .unset] [.int (Int32.ofNat len)])) := c1.trans (by
    refine XS.iloadN X0.here hexec rfl (hb hbytes d0) rfl ?_
    exact Steps.refl _)
  obtain ⟨T3, B3, X3, ba3, bs3, bv3, bh3, bf3, st3⟩ := X0.anew hexec (atype := .byte) (wk W (.arrayClass .byte)) rfl (by show len * 1 ≤ _; omega) (by omega) (g := (mkF m 1 #[.val (.ref b), .val (.int (Int32.ofNat o)), .val (.int (Int32.ofNat len)), .unset, .unset, .unset] [.int (Int32.ofNat len)])) rfl (hb hbytes d1) (rest := []) rfl (Nat.le_refl _) (by show 0 + len ≤ len; omega)
  rw [hh0] at ba3 st3
  have kp3 : XT.Kept s T3 := (XT.Kept.of_eq hh0).push bh3
  have hA3 := hA.keep X3.warmed.alike (kp3 _ _ hA.1.1)
  have hne : b ≠ s.heap.size := hA.1.ne
  have c4 : Steps p.tables e below (s₁.setTop (entryFrame m #[.ref b, .int (Int32.ofNat o), .int (Int32.ofNat len)] 6)) (T3.setTop (mkF m 3 #[.val (.ref b), .val (.int (Int32.ofNat o)), .val (.int (Int32.ofNat len)), .unset, .unset, .unset] [.ref s.heap.size])) := c2.trans (st3 _ (Steps.refl _))
  have c5 : Steps p.tables e below (s₁.setTop (entryFrame m #[.ref b, .int (Int32.ofNat o), .int (Int32.ofNat len)] 6)) (T3.setTop (mkF m 9 #[.val (.ref b), .val (.int (Int32.ofNat o)), .val (.int (Int32.ofNat len)), .val (.ref s.heap.size), .unset, .unset] [.int (Int32.ofNat len), .int 0, .ref s.heap.size, .int (Int32.ofNat o), .ref b])) := c4.trans (by
    refine XS.astoreN X3.here hexec rfl (hb hbytes d3) rfl rfl rfl ?_
    refine XS.aloadN X3.here hexec rfl (hb hbytes d4) rfl rfl ?_
    refine XS.iloadN X3.here hexec rfl (hb hbytes d5) rfl ?_
    refine XS.aloadN X3.here hexec rfl (hb hbytes d6) rfl rfl ?_
    refine iconstV X3.here hexec rfl 0 (hb hbytes d7) (by decide) ?_
    refine XS.iloadN X3.here hexec rfl (hb hbytes d8) rfl ?_
    exact Steps.refl _)
  obtain ⟨v6, T6, X6, E6, g6⟩ := X3.callS hexec (Cmp5.law l b A s.heap.size B3 o 0 len) hown (wks W (staticW U16 115 Cmp5.yN)) (wk W Cmp5.tab) (W := 0) (Nat.le_of_ble_eq_true rfl) (Nat.le_of_ble_eq_true rfl) (Nat.le_refl _) (by show 0 + len + 0 ≤ len; omega) (g := (mkF m 9 #[.val (.ref b), .val (.int (Int32.ofNat o)), .val (.int (Int32.ofNat len)), .val (.ref s.heap.size), .unset, .unset] [.int (Int32.ofNat len), .int (Int32.ofNat 0), .ref s.heap.size, .int (Int32.ofNat o), .ref b])) rfl (by rw [hml]; rfl) c5 (argsL := [.ref b, .int (Int32.ofNat o), .ref s.heap.size, .int (Int32.ofNat 0), .int (Int32.ofNat len)]) (rest := []) rfl rfl (by show 2 * 0 + 0 ≤ _; decide) (hb hbytes d9) (⟨rfl, hA3, ba3, hne, l1, by rw [bs3]; simp, hp⟩)
  obtain ⟨rfl, B6, p6, f6⟩ := E6
  have c7 : Steps p.tables e below (s₁.setTop (entryFrame m #[.ref b, .int (Int32.ofNat o), .int (Int32.ofNat len)] 6)) (T6.setTop (mkF m 12 #[.val (.ref b), .val (.int (Int32.ofNat o)), .val (.int (Int32.ofNat len)), .val (.ref s.heap.size), .unset, .unset] [.int (Int32.ofNat len)])) := g6
  have c8 : Steps p.tables e below (s₁.setTop (entryFrame m #[.ref b, .int (Int32.ofNat o), .int (Int32.ofNat len)] 6)) (T6.setTop (mkF m 58 #[.val (.ref b), .val (.int (Int32.ofNat o)), .val (.int (Int32.ofNat len)), .val (.ref s.heap.size), .val (.int (Int32.ofNat len)), .unset] [.ref s.heap.size])) := c7.trans (by
    refine XS.istore X6.here hexec rfl (hb hbytes d12) rfl rfl ?_
    refine XS.iload X6.here hexec rfl (hb hbytes d14) rfl ?_
    refine XS.iloadN X6.here hexec rfl (hb hbytes d16) rfl ?_
    refine XS.icmpYes X6.here hexec rfl (pc0 := 17) rfl (hb hbytes d17) rfl (ii_eq_t rfl) (by decide) rfl ?_
    refine XS.aloadN X6.here hexec rfl (hb hbytes d57) rfl rfl ?_
    exact Steps.refl _)
  have X8 := X6.wide (L' := []) (cells' := 1) (slots' := len) (fun x hx hlt => by
    simp only [List.nil_append, copyLocs, List.mem_map, List.mem_range] at hx
    obtain ⟨i, -, rfl⟩ := hx
    exact absurd hlt (Nat.lt_irrefl _)) (Nat.le_refl _) (by omega)
  exact ⟨T6, some (.ref s.heap.size), _, _, _, X8, rfl, rfl, rfl, (fun h => by cases h), ⟨⟨rfl, B6, ba3.like (X3.warmed.alike.symm.trans X6.warmed.alike) p6.1 f6.1 f6.2.1 f6.2.2.1, f6.2.1.trans bv3, by rw [X6.warmed.alike.findClass, f6.1]; exact bf3, by rw [f6.2.2.1, bs3]; simp, fun j hj => by rw [f6.2.2.2 j, if_pos (by omega)]; rfl, kp3.put p6 (Nat.le_refl _)⟩, by rw [p6.2.2, bh3, hh0]; simp⟩, fun fs hl => c8.trans (X8.areturnOut hexec rfl hret rfl (hb hbytes d58) hl)⟩
end Cmp3
namespace CodL
def yN : MethodName := ⟨"java/lang/StringUTF16", "coderFromArrayLen", "([BI)B"⟩
abbrev yB : ByteArray := jdk_52_method_15_code
theorem d0 : decode yB 0 = .ok (.iload_n 1, 1) := by decide +kernel
theorem d1 : decode yB 1 = .ok (.aload_n 0, 1) := by decide +kernel
theorem d2 : decode yB 2 = .ok (.arraylength, 1) := by decide +kernel
theorem d3 : decode yB 3 = .ok (.isub, 1) := by decide +kernel
theorem d4 : decode yB 4 = .ok (.bipush 31, 2) := by decide +kernel
theorem d6 : decode yB 6 = .ok (.iushr, 1) := by decide +kernel
theorem d7 : decode yB 7 = .ok (.i2b, 1) := by decide +kernel
theorem d8 : decode yB 8 = .ok (.ireturn, 1) := by decide +kernel
def site : List Cond := []
def tab : Cond := tabOf yN yB 2 (some .byte) site
def P (d : Addr) (B : Cell) (args : Array Value) (s : State) : Prop := args = #[.ref d, .int (Int32.ofNat B.slots.size)] ∧ Arr .byte d B s
def E (r : Option Value) (s u : State) : Prop := XT.PureE (some (.int 0)) r s u
/-- an array as long as the number of chars: LATIN1 -/
theorem law (l : Launch) (d : Addr) (B : Cell) : Law l yN 2 2 0 0 yB 2 (some .byte) site (P d B) E [] 0 0 := by
  refine Law.of_walk (plainFor_of_name (by decide +kernel)) (by decide +kernel) (by decide +kernel) (by decide) (fun _ _ h => by rw [h.1]; rfl) (fun _ U U' hal hh h => ⟨h.1, h.2.mv hal hh⟩) (fun r U U' V V' h1 hal h2 h => XT.PureE.mv r U U' V V' h1 hal h2 h) ?_
  intro p e s m args below meth c s₁ X0 hexec hbytes hml hret hlk hnm hown hh0 W hP
  obtain ⟨rfl, hB⟩ := hP
  have hB0 := hB.mv X0.warmed.alike hh0
  have c1 : Steps p.tables e below (s₁.setTop (entryFrame m #[.ref d, .int (Int32.ofNat B.slots.size)] 2)) (s₁.setTop (mkF m 0 #[.val (.ref d), .val (.int (Int32.ofNat B.slots.size))] [])) := entry rfl
  have c2 : Steps p.tables e below (s₁.setTop (entryFrame m #[.ref d, .int (Int32.ofNat B.slots.size)] 2)) (s₁.setTop (mkF m 2 #[.val (.ref d), .val (.int (Int32.ofNat B.slots.size))] [.ref d, .int (Int32.ofNat B.slots.size)])) := c1.trans (by
    refine XS.iloadN X0.here hexec rfl (hb hbytes d0) rfl ?_
    refine XS.aloadN X0.here hexec rfl (hb hbytes d1) rfl rfl ?_
    exact Steps.refl _)
  have c3 : Steps p.tables e below (s₁.setTop (entryFrame m #[.ref d, .int (Int32.ofNat B.slots.size)] 2)) (s₁.setTop (mkF m 8 #[.val (.ref d), .val (.int (Int32.ofNat B.slots.size))] [.int (lo8 (ushr (Int32.ofNat B.slots.size - Int32.ofNat B.slots.size) 31))])) := c2.trans (by
    refine X0.alen hexec hB0 rfl rfl (hb hbytes d2) ?_
    refine XS.isub X0.here hexec rfl (hb hbytes d3) rfl ?_
    refine bipushV X0.here hexec rfl 31 (hb hbytes d4) (by decide) ?_
    refine iushr X0.here hexec rfl (hb hbytes d6) rfl ?_
    refine i2b X0.here hexec rfl (hb hbytes d7) rfl ?_
    exact Steps.refl _)
  have e0 : lo8 (ushr (Int32.ofNat B.slots.size - Int32.ofNat B.slots.size) 31) = 0 := by rw [Int32.sub_self]; decide
  rw [e0] at c3
  exact ⟨s₁, some (.int 0), _, _, _, X0, rfl, rfl, rfl, (fun h => by cases h), ⟨rfl, hh0⟩, fun fs hl => c3.trans (X0.ireturnOut hexec hret rfl (Or.inr (Or.inr (Or.inl rfl))) (hb hbytes d8) hl)⟩
end CodL
/-- the String at a is Latin-1 over a new byte[] (the heap's one new cell): the low bytes of the len chars of A from o on; every cell but a is kept -/
def Got (a : Addr) (D : Cell) (fV fC : Field) (A : Cell) (o len : Nat) (r : Option Value) (s u : State) : Prop := r = none ∧ ∃ D' V : Cell, Blank "java/lang/String" a D' u ∧ Same D D' [fV.slot, fC.slot] ∧ D'.slots[fV.slot]? = some (.ref s.heap.size) ∧ D'.slots[fC.slot]? = some (.int 0) ∧ Arr .byte s.heap.size V u ∧ V.vm = .none ∧ u.vm.findClass "[B" = some V.cls ∧ V.slots.size = len ∧ (∀ j, j < len → V.slots[j]? = some (.int (lo8 (cv A (o + j))))) ∧ (∀ (y : Addr) (c : Cell), y ≠ a → s.heap[y]? = some c → u.heap[y]? = some c) ∧ u.heap.size = s.heap.size + 1
theorem Got.mv {a : Addr} {D A : Cell} {fV fC : Field} {o len : Nat} : ∀ r (U U' V V' : State), U'.heap = U.heap → V.vm.Alike V'.vm → V'.heap = V.heap → Got a D fV fC A o len r U V → Got a D fV fC A o len r U' V' :=
  fun r U U' V V' h1 hal h2 ⟨e0, D', X, a1, a2, a3, a4, a5, a6, a7, a8, a9, a10, a11⟩ => ⟨e0, D', X, a1.mv hal h2, a2, by rw [h1]; exact a3, a4, by rw [h1]; exact a5.mv hal h2, a6, by rw [hal.findClass]; exact a7, a8, a9, by rw [h1, h2]; exact a10, by rw [h1, h2]; exact a11⟩
namespace New4
def yN : MethodName := ⟨"java/lang/String", "<init>", "([CIILjava/lang/Void;)V"⟩
abbrev yB : ByteArray := jdk_42_method_149_code
theorem d0 : decode yB 0 = .ok (.aload_n 0, 1) := by decide +kernel
theorem d1 : decode yB 1 = .ok (.invokespecial 1, 3) := by decide +kernel
theorem d4 : decode yB 4 = .ok (.iload_n 3, 1) := by decide +kernel
theorem d5 : decode yB 5 = .ok (.ifCond (.ne) 22, 3) := by decide +kernel
theorem d27 : decode yB 27 = .ok (.getstatic 38, 3) := by decide +kernel
theorem d30 : decode yB 30 = .ok (.ifCond (.eq) 28, 3) := by decide +kernel
theorem d33 : decode yB 33 = .ok (.aload_n 1, 1) := by decide +kernel
theorem d34 : decode yB 34 = .ok (.iload_n 2, 1) := by decide +kernel
theorem d35 : decode yB 35 = .ok (.iload_n 3, 1) := by decide +kernel
theorem d36 : decode yB 36 = .ok (.invokestatic 177, 3) := by decide +kernel
theorem d39 : decode yB 39 = .ok (.astore 5, 2) := by decide +kernel
theorem d41 : decode yB 41 = .ok (.aload_n 0, 1) := by decide +kernel
theorem d42 : decode yB 42 = .ok (.aload 5, 2) := by decide +kernel
theorem d44 : decode yB 44 = .ok (.iload_n 3, 1) := by decide +kernel
theorem d45 : decode yB 45 = .ok (.invokestatic 47, 3) := by decide +kernel
theorem d48 : decode yB 48 = .ok (.putfield 15, 3) := by decide +kernel
theorem d51 : decode yB 51 = .ok (.aload_n 0, 1) := by decide +kernel
theorem d52 : decode yB 52 = .ok (.aload 5, 2) := by decide +kernel
theorem d54 : decode yB 54 = .ok (.putfield 9, 3) := by decide +kernel
theorem d57 : decode yB 57 = .ok (.return_, 1) := by decide +kernel
def site : List Cond := [.fieldLink "java/lang/String" 38 "java/lang/String" "COMPACT_STRINGS" "Z", Cmp3.tab, CodL.tab, .laysFinal "java/lang/String" "java/lang/String" "value" "[B", .fieldLink "java/lang/String" 9 "java/lang/String" "value" "[B", .laysFinal "java/lang/String" "java/lang/String" "coder" "B", .fieldLink "java/lang/String" 15 "java/lang/String" "coder" "B"] ++ objW "java/lang/String" 1 ++ staticW "java/lang/String" 177 Cmp3.yN ++ staticW "java/lang/String" 47 CodL.yN
def tab : Cond := tabOf yN yB 6 none site
def P (a : Addr) (D : Cell) (fV fC : Field) (b : Addr) (A : Cell) (z : Int32) (o len : Nat) (args : Array Value) (s : State) : Prop := args = #[.ref a, .ref b, .int (Int32.ofNat o), .int (Int32.ofNat len), .null] ∧ Blank "java/lang/String" a D s ∧ Found "java/lang/String" "value" "[B" fV s ∧ Found "java/lang/String" "coder" "B" fC s ∧ Ch b A s ∧ StaticIs s "java/lang/String" "COMPACT_STRINGS" "Z" (.int z) ∧ ¬ z = 0 ∧ 0 < len ∧ o + len ≤ A.slots.size ∧ len ≤ 536870912 ∧ ∀ i, i < len → ¬ 255 < cv A (o + i)
def E (a : Addr) (D : Cell) (fV fC : Field) (A : Cell) (o len : Nat) (r : Option Value) (s u : State) : Prop := Got a D fV fC A o len r s u
/-- len > 0, no char of the range above 255: a Latin-1 String of their low bytes -/
theorem law (l : Launch) (a : Addr) (D : Cell) (fV fC : Field) (b : Addr) (A : Cell) (z : Int32) (o len : Nat) : Law l yN 5 4 2 35 yB 6 none site (P a D fV fC b A z o len) (E a D fV fC A o len) [⟨a, fC.slot⟩, ⟨a, fV.slot⟩] 1 len := by
  refine Law.of_walk (plainFor_of_name (by decide +kernel)) (by decide +kernel) (by decide +kernel) (by decide) (fun _ _ h => by rw [h.1]; rfl) (fun _ U U' hal hh h => ⟨h.1, h.2.1.mv hal hh, h.2.2.1.al hal, h.2.2.2.1.al hal, h.2.2.2.2.1.mv hal hh, h.2.2.2.2.2.1.there hal hh, h.2.2.2.2.2.2⟩) (fun r U U' V V' h1 hal h2 h => Got.mv r U U' V V' h1 hal h2 h) ?_
  intro p e s m args below meth c s₁ X0 hexec hbytes hml hret hlk hnm hown hh0 W hP
  obtain ⟨rfl, hB, f1, f2, hA, s1, hz, l0, l1, l2, hp⟩ := hP
  have a31 := hA.1.2.2.2
  have c1 : Steps p.tables e below (s₁.setTop (entryFrame m #[.ref a, .ref b, .int (Int32.ofNat o), .int (Int32.ofNat len), .null] 6)) (s₁.setTop (mkF m 0 #[.val (.ref a), .val (.ref b), .val (.int (Int32.ofNat o)), .val (.int (Int32.ofNat len)), .val .null, .unset] [])) := entry rfl
  have c2 : Steps p.tables e below (s₁.setTop (entryFrame m #[.ref a, .ref b, .int (Int32.ofNat o), .int (Int32.ofNat len), .null] 6)) (s₁.setTop (mkF m 1 #[.val (.ref a), .val (.ref b), .val (.int (Int32.ofNat o)), .val (.int (Int32.ofNat len)), .val .null, .unset] [.ref a])) := c1.trans (by
    refine XS.aloadN X0.here hexec rfl (hb hbytes d0) rfl rfl ?_
    exact Steps.refl _)
  obtain ⟨T3, X3, q3, st3⟩ := X0.oinit hexec hown (wks W (objW "java/lang/String" 1)) (g := (mkF m 1 #[.val (.ref a), .val (.ref b), .val (.int (Int32.ofNat o)), .val (.int (Int32.ofNat len)), .val .null, .unset] [.ref a])) rfl (by rw [hml]; rfl) (rest := []) rfl (hb hbytes d1) (W := 0) (by show 2 * 0 + 0 ≤ _; decide) (Nat.le_of_ble_eq_true rfl) (Nat.le_of_ble_eq_true rfl)
  have hh3 := q3.trans hh0
  have c4 : Steps p.tables e below (s₁.setTop (entryFrame m #[.ref a, .ref b, .int (Int32.ofNat o), .int (Int32.ofNat len), .null] 6)) (T3.setTop (mkF m 27 #[.val (.ref a), .val (.ref b), .val (.int (Int32.ofNat o)), .val (.int (Int32.ofNat len)), .val .null, .unset] [])) := (c2.trans (st3 _ (Steps.refl _))).trans (by
    refine XS.iloadN X3.here hexec rfl (hb hbytes d4) rfl ?_
    refine XS.ifYes X3.here hexec rfl (pc0 := 5) rfl (hb hbytes d5) rfl (i0_ne_t (nz32 (by omega) l0)) (by decide) rfl ?_
    exact Steps.refl _)
  obtain ⟨T5, X5, q5, st5⟩ := X3.sget hexec hown (wk W (.fieldLink "java/lang/String" 38 "java/lang/String" "COMPACT_STRINGS" "Z")) s1 (fun _ _ h => by rw [hh3]; exact h) (g := (mkF m 27 #[.val (.ref a), .val (.ref b), .val (.int (Int32.ofNat o)), .val (.int (Int32.ofNat len)), .val .null, .unset] [])) rfl (hb hbytes d27)
  have hh5 := q5.trans hh3
  have c6 : Steps p.tables e below (s₁.setTop (entryFrame m #[.ref a, .ref b, .int (Int32.ofNat o), .int (Int32.ofNat len), .null] 6)) (T5.setTop (mkF m 30 #[.val (.ref a), .val (.ref b), .val (.int (Int32.ofNat o)), .val (.int (Int32.ofNat len)), .val .null, .unset] [.int z])) := c4.trans (st5 _ (Steps.refl _))
  have c7 : Steps p.tables e below (s₁.setTop (entryFrame m #[.ref a, .ref b, .int (Int32.ofNat o), .int (Int32.ofNat len), .null] 6)) (T5.setTop (mkF m 36 #[.val (.ref a), .val (.ref b), .val (.int (Int32.ofNat o)), .val (.int (Int32.ofNat len)), .val .null, .unset] [.int (Int32.ofNat len), .int (Int32.ofNat o), .ref b])) := c6.trans (by
    refine XS.ifNo X5.here hexec rfl (hb hbytes d30) rfl (i0_eq_f hz) ?_
    refine XS.aloadN X5.here hexec rfl (hb hbytes d33) rfl rfl ?_
    refine XS.iloadN X5.here hexec rfl (hb hbytes d34) rfl ?_
    refine XS.iloadN X5.here hexec rfl (hb hbytes d35) rfl ?_
    exact Steps.refl _)
  obtain ⟨v8, T8, X8, E8, g8⟩ := X5.callS hexec (Cmp3.law l b A o len) hown (wks W (staticW "java/lang/String" 177 Cmp3.yN)) (wk W Cmp3.tab) (W := 0) (Nat.le_of_ble_eq_true rfl) (Nat.le_of_ble_eq_true rfl) (Nat.le_refl _) (by show 0 + len ≤ len; omega) (g := (mkF m 36 #[.val (.ref a), .val (.ref b), .val (.int (Int32.ofNat o)), .val (.int (Int32.ofNat len)), .val .null, .unset] [.int (Int32.ofNat len), .int (Int32.ofNat o), .ref b])) rfl (by rw [hml]; rfl) c7 (argsL := [.ref b, .int (Int32.ofNat o), .int (Int32.ofNat len)]) (rest := []) rfl rfl (by show 2 * 0 + 0 ≤ _; decide) (hb hbytes d36) (⟨rfl, hA.mv X5.warmed.alike hh5, l1, l2, hp⟩)
  obtain ⟨e8, z8⟩ := E8
  obtain ⟨rfl, N, n1, n2, n3, n4, n5, n6⟩ := NewArr.mv _ T5 s _ _ hh5.symm (Vm.Alike.refl _) rfl e8
  rw [hh5] at z8
  have hB1 := hB.keep X8.warmed.alike (n6 _ _ hB.1)
  have hne : s.heap.size ≠ a := (Nat.ne_of_lt (Array.getElem?_eq_some_iff.mp hB.1).1).symm
  have c9 : Steps p.tables e below (s₁.setTop (entryFrame m #[.ref a, .ref b, .int (Int32.ofNat o), .int (Int32.ofNat len), .null] 6)) (T8.setTop (mkF m 39 #[.val (.ref a), .val (.ref b), .val (.int (Int32.ofNat o)), .val (.int (Int32.ofNat len)), .val .null, .unset] [.ref s.heap.size])) := g8
  have c10 : Steps p.tables e below (s₁.setTop (entryFrame m #[.ref a, .ref b, .int (Int32.ofNat o), .int (Int32.ofNat len), .null] 6)) (T8.setTop (mkF m 45 #[.val (.ref a), .val (.ref b), .val (.int (Int32.ofNat o)), .val (.int (Int32.ofNat len)), .val .null, .val (.ref s.heap.size)] [.int (Int32.ofNat N.slots.size), .ref s.heap.size, .ref a])) := by
    have hc : Steps p.tables e below (s₁.setTop (entryFrame m #[.ref a, .ref b, .int (Int32.ofNat o), .int (Int32.ofNat len), .null] 6)) (T8.setTop (mkF m 45 #[.val (.ref a), .val (.ref b), .val (.int (Int32.ofNat o)), .val (.int (Int32.ofNat len)), .val .null, .val (.ref s.heap.size)] [.int (Int32.ofNat len), .ref s.heap.size, .ref a])) := c9.trans (by
      refine XS.astore X8.here hexec rfl (hb hbytes d39) rfl rfl rfl ?_
      refine XS.aloadN X8.here hexec rfl (hb hbytes d41) rfl rfl ?_
      refine XS.aload X8.here hexec rfl (hb hbytes d42) rfl rfl ?_
      refine XS.iloadN X8.here hexec rfl (hb hbytes d44) rfl ?_
      exact Steps.refl _)
    rw [n4]; exact hc
  obtain ⟨v11, T11, X11, E11, g11⟩ := X8.callS hexec (CodL.law l s.heap.size N) hown (wks W (staticW "java/lang/String" 47 CodL.yN)) (wk W CodL.tab) (W := 1) (Nat.le_of_ble_eq_true rfl) (Nat.le_of_ble_eq_true rfl) (Nat.le_refl _) (by show 0 + len + 0 ≤ len; omega) (g := (mkF m 45 #[.val (.ref a), .val (.ref b), .val (.int (Int32.ofNat o)), .val (.int (Int32.ofNat len)), .val .null, .val (.ref s.heap.size)] [.int (Int32.ofNat N.slots.size), .ref s.heap.size, .ref a])) rfl (by rw [hml]; rfl) c10 (argsL := [.ref s.heap.size, .int (Int32.ofNat N.slots.size)]) (rest := [.ref a]) rfl rfl (by show 2 * 0 + (1 + 0) ≤ _; decide) (hb hbytes d45) (⟨rfl, n1⟩)
  obtain ⟨rfl, q11⟩ := E11
  have hB11 := hB1.mv (X8.warmed.alike.symm.trans X11.warmed.alike) q11
  have c12 : Steps p.tables e below (s₁.setTop (entryFrame m #[.ref a, .ref b, .int (Int32.ofNat o), .int (Int32.ofNat len), .null] 6)) (T11.setTop (mkF m 48 #[.val (.ref a), .val (.ref b), .val (.int (Int32.ofNat o)), .val (.int (Int32.ofNat len)), .val .null, .val (.ref s.heap.size)] [.int 0, .ref a])) := g11
  obtain ⟨T13, X13, p13, bl13, sl13, st13⟩ := X11.finit hexec hown (wk W (.fieldLink "java/lang/String" 15 "java/lang/String" "coder" "B")) (Or.inr ⟨_, (wk W (.laysFinal "java/lang/String" "java/lang/String" "coder" "B"))⟩) (Or.inl ⟨rfl, hnm⟩) f2 (Or.inl rfl) hB11 (t := .byte) (by decide +kernel) rfl (g := (mkF m 48 #[.val (.ref a), .val (.ref b), .val (.int (Int32.ofNat o)), .val (.int (Int32.ofNat len)), .val .null, .val (.ref s.heap.size)] [.int 0, .ref a])) rfl (rest := []) rfl (hb hbytes d48)
  have c14 : Steps p.tables e below (s₁.setTop (entryFrame m #[.ref a, .ref b, .int (Int32.ofNat o), .int (Int32.ofNat len), .null] 6)) (T13.setTop (mkF m 54 #[.val (.ref a), .val (.ref b), .val (.int (Int32.ofNat o)), .val (.int (Int32.ofNat len)), .val .null, .val (.ref s.heap.size)] [.ref s.heap.size, .ref a])) := (c12.trans (st13 _ (Steps.refl _))).trans (by
    refine XS.aloadN X13.here hexec rfl (hb hbytes d51) rfl rfl ?_
    refine XS.aload X13.here hexec rfl (hb hbytes d52) rfl rfl ?_
    exact Steps.refl _)
  obtain ⟨T15, X15, p15, bl15, sl15, st15⟩ := X13.finit hexec hown (wk W (.fieldLink "java/lang/String" 9 "java/lang/String" "value" "[B")) (Or.inr ⟨_, (wk W (.laysFinal "java/lang/String" "java/lang/String" "value" "[B"))⟩) (Or.inl ⟨rfl, hnm⟩) f1 (Or.inl rfl) bl13 (t := (.array .byte)) (by decide +kernel) rfl (g := (mkF m 54 #[.val (.ref a), .val (.ref b), .val (.int (Int32.ofNat o)), .val (.int (Int32.ofNat len)), .val .null, .val (.ref s.heap.size)] [.ref s.heap.size, .ref a])) rfl (rest := []) rfl (hb hbytes d54)
  have c16 : Steps p.tables e below (s₁.setTop (entryFrame m #[.ref a, .ref b, .int (Int32.ofNat o), .int (Int32.ofNat len), .null] 6)) (T15.setTop (mkF m 57 #[.val (.ref a), .val (.ref b), .val (.int (Int32.ofNat o)), .val (.int (Int32.ofNat len)), .val .null, .val (.ref s.heap.size)] [])) := c14.trans (st15 _ (Steps.refl _))
  have ap := apart (Or.inr ⟨_, (wk W (.laysFinal "java/lang/String" "java/lang/String" "value" "[B"))⟩) (Or.inr ⟨_, (wk W (.laysFinal "java/lang/String" "java/lang/String" "coder" "B"))⟩) f1 f2 (t₁ := .array .byte) (t₂ := .byte) (by decide +kernel) (by decide +kernel) (by decide)
  have al := X8.warmed.alike.symm.trans X15.warmed.alike
  have n7 : T11.heap[s.heap.size]? = some N := by rw [q11]; exact n1.1
  exact ⟨T15, none, _, _, _, X15, by simp, rfl, by omega, (fun _ => rfl), ⟨rfl, _, N, bl15, ((Same.refl D _).set _ (by simp)).set _ (by simp), sl15, (Cell.slots_setSlot_ne _ ap).trans sl13, n1.keep al (p15.other hne (p13.other hne n7)), n2, by rw [al.findClass]; exact n3, n4, n5, fun y c h1 h2 => p15.other h1 (p13.other h1 (by rw [q11]; exact n6 y c h2)), by rw [p15.2.2, p13.2.2, q11]; exact z8⟩, fun fs hl => c16.trans (X15.returnOut hexec hret (hb hbytes d57) hl)⟩
end New4
namespace New1
def yN : MethodName := ⟨"java/lang/String", "<init>", "([C)V"⟩
abbrev yB : ByteArray := jdk_42_method_3_code
theorem d0 : decode yB 0 = .ok (.aload_n 0, 1) := by decide +kernel
theorem d1 : decode yB 1 = .ok (.aload_n 1, 1) := by decide +kernel
theorem d2 : decode yB 2 = .ok (.iconst 0, 1) := by decide +kernel
theorem d3 : decode yB 3 = .ok (.aload_n 1, 1) := by decide +kernel
theorem d4 : decode yB 4 = .ok (.arraylength, 1) := by decide +kernel
theorem d5 : decode yB 5 = .ok (.aconst_null, 1) := by decide +kernel
theorem d6 : decode yB 6 = .ok (.invokespecial 27, 3) := by decide +kernel
theorem d9 : decode yB 9 = .ok (.return_, 1) := by decide +kernel
def site : List Cond := [New4.tab] ++ initW "java/lang/String" 27 New4.yN
def tab : Cond := tabOf yN yB 2 none site
def P (a : Addr) (D : Cell) (fV fC : Field) (b : Addr) (A : Cell) (z : Int32) (args : Array Value) (s : State) : Prop := args = #[.ref a, .ref b] ∧ Blank "java/lang/String" a D s ∧ Found "java/lang/String" "value" "[B" fV s ∧ Found "java/lang/String" "coder" "B" fC s ∧ Ch b A s ∧ StaticIs s "java/lang/String" "COMPACT_STRINGS" "Z" (.int z) ∧ ¬ z = 0 ∧ 0 < A.slots.size ∧ A.slots.size ≤ 536870912 ∧ ∀ i, i < A.slots.size → ¬ 255 < cv A i
def E (a : Addr) (D : Cell) (fV fC : Field) (A : Cell) (r : Option Value) (s u : State) : Prop := Got a D fV fC A 0 A.slots.size r s u
/-- new String(chars), not empty, no char above 255: a Latin-1 String of their low bytes -/
theorem law (l : Launch) (a : Addr) (D : Cell) (fV fC : Field) (b : Addr) (A : Cell) (z : Int32) : Law l yN 2 1 3 52 yB 2 none site (P a D fV fC b A z) (E a D fV fC A) [⟨a, fC.slot⟩, ⟨a, fV.slot⟩] 1 A.slots.size := by
  refine Law.of_walk (plainFor_of_name (by decide +kernel)) (by decide +kernel) (by decide +kernel) (by decide) (fun _ _ h => by rw [h.1]; rfl) (fun _ U U' hal hh h => ⟨h.1, h.2.1.mv hal hh, h.2.2.1.al hal, h.2.2.2.1.al hal, h.2.2.2.2.1.mv hal hh, h.2.2.2.2.2.1.there hal hh, h.2.2.2.2.2.2⟩) (fun r U U' V V' h1 hal h2 h => Got.mv r U U' V V' h1 hal h2 h) ?_
  intro p e s m args below meth c s₁ X0 hexec hbytes hml hret hlk hnm hown hh0 W hP
  obtain ⟨rfl, hB, f1, f2, hA, s1, hz, l0, l2, hp⟩ := hP
  have c1 : Steps p.tables e below (s₁.setTop (entryFrame m #[.ref a, .ref b] 2)) (s₁.setTop (mkF m 0 #[.val (.ref a), .val (.ref b)] [])) := entry rfl
  have c2 : Steps p.tables e below (s₁.setTop (entryFrame m #[.ref a, .ref b] 2)) (s₁.setTop (mkF m 6 #[.val (.ref a), .val (.ref b)] [.null, .int (Int32.ofNat A.slots.size), .int 0, .ref b, .ref a])) := c1.trans (by
    refine XS.aloadN X0.here hexec rfl (hb hbytes d0) rfl rfl ?_
    refine XS.aloadN X0.here hexec rfl (hb hbytes d1) rfl rfl ?_
    refine iconstV X0.here hexec rfl 0 (hb hbytes d2) (by decide) ?_
    refine XS.aloadN X0.here hexec rfl (hb hbytes d3) rfl rfl ?_
    refine X0.alen hexec (hA.1.mv X0.warmed.alike hh0) rfl rfl (hb hbytes d4) ?_
    refine XS.aconstNull X0.here hexec rfl (hb hbytes d5) ?_
    exact Steps.refl _)
  obtain ⟨v3, T3, X3, E3, g3⟩ := X0.callN hexec (New4.law l a D fV fC b A z 0 A.slots.size) rfl hown (wks W (initW "java/lang/String" 27 New4.yN)) (W New4.tab (by simp only [site, List.mem_cons, List.mem_append, true_or, or_true])) (W := 0) (Nat.le_of_ble_eq_true rfl) (Nat.le_of_ble_eq_true rfl) (Nat.le_refl _) (by show 0 + A.slots.size ≤ A.slots.size; omega) (g := (mkF m 6 #[.val (.ref a), .val (.ref b)] [.null, .int (Int32.ofNat A.slots.size), .int (Int32.ofNat 0), .ref b, .ref a])) rfl (by rw [hml]; rfl) c2 (argsL := [.ref b, .int (Int32.ofNat 0), .int (Int32.ofNat A.slots.size), .null]) (rest := []) rfl rfl (by show 2 * 0 + 0 ≤ _; decide) (hb hbytes d6) (⟨rfl, hB.mv X0.warmed.alike hh0, f1.al X0.warmed.alike, f2.al X0.warmed.alike, hA.mv X0.warmed.alike hh0, s1.there X0.warmed.alike hh0, hz, l0, by omega, l2, fun i hi => by rw [Nat.zero_add]; exact hp i hi⟩)
  have e0 := Got.mv _ s₁ s _ _ hh0.symm (Vm.Alike.refl _) rfl E3
  obtain rfl := e0.1
  have c4 : Steps p.tables e below (s₁.setTop (entryFrame m #[.ref a, .ref b] 2)) (T3.setTop (mkF m 9 #[.val (.ref a), .val (.ref b)] [])) := g3
  exact ⟨T3, none, _, _, _, X3, by simp, rfl, by omega, (fun _ => rfl), e0, fun fs hl => c4.trans (X3.returnOut hexec hret (hb hbytes d9) hl)⟩
theorem pays {l : Launch} {R : Room} {p : Program} {e : Env} {below : List Frame} {s : State} {sargs : Array Value} {len W : Nat} (a : Addr) (D : Cell) (fV fC : Field) (b : Addr) (A : Cell) (z : Int32) (htab : tab.before sargs s = true) (hfr : 4 ≤ R.frames) (hlo : W + 65 ≤ R.locals) :
    Back l R p e below s sargs yN len W (fun A₁ a₁ => A₁.cells + 1 ≤ R.cells ∧ A₁.slots + A.slots.size ≤ R.slots ∧ P a D fV fC b A z a₁ A₁.U) (fun A₁ _ v₁ B₁ => E a D fV fC A v₁ A₁.U B₁.U ∧ B₁.locs = A₁.locs ++ [⟨a, fC.slot⟩, ⟨a, fV.slot⟩] ∧ B₁.cells = A₁.cells + 1 ∧ B₁.slots = A₁.slots + A.slots.size) :=
  (law l a D fV fC b A z).pays htab hfr (by omega)
end New1
/-- the byte, read back as charAt reads it, is the char -/
theorem lo8_mask {x : Int32} (h0 : ¬ x < 0) (h1 : ¬ 255 < x) : lo8 x &&& 255 = x := by
  have t : ∀ k : Fin 256, lo8 (Int32.ofNat k.val) &&& 255 = Int32.ofNat k.val := by decide +kernel
  rw [Int32.lt_iff_toInt_lt] at h0 h1
  have e0 : (0 : Int32).toInt = 0 := rfl
  have e1 : (255 : Int32).toInt = 255 := rfl
  obtain ⟨k, hk⟩ : ∃ k : Nat, x.toInt = k := ⟨x.toInt.toNat, by omega⟩
  have hx : x = Int32.ofNat k := Int32.toInt_inj.mp (by rw [hk, Int32.toInt_ofNat_small (by omega)])
  rw [hx]
  exact t ⟨k, by omega⟩
end StrChars
namespace StrChars.Road
open Jvm Sem ClassFile Op Lib Jvm.Stand Jvm.Free Jvm.Free.XT
open Jvm.Lib.Cold (StaticIs)
abbrev ST : String := "java/lang/String"
/-- every table word that New1's law asks, flat -/
abbrev words : List Jvm.Cond := [.code New1.yN New1.yB 2 none, .initialized ST, .methodLink ST 27 New4.yN, .instanceMethod New4.yN,
  .code New4.yN New4.yB 6 none, .fieldLink ST 38 ST "COMPACT_STRINGS" "Z", .laysFinal ST ST "value" "[B", .fieldLink ST 9 ST "value" "[B", .laysFinal ST ST "coder" "B", .fieldLink ST 15 ST "coder" "B",
  .methodLink ST 1 Lib.objectInit, .instanceMethod Lib.objectInit, .code Lib.objectInit ⟨#[0xb1]⟩ 1 none, .methodLink ST 177 Cmp3.yN, .static Cmp3.yN, .methodLink ST 47 CodL.yN, .static CodL.yN,
  .code Cmp3.yN Cmp3.yB 6 (some (.array .byte)), .initialized U16, .arrayClass .byte, .methodLink U16 115 Cmp5.yN, .static Cmp5.yN, .code Cmp5.yN Cmp5.yB 7 (some .int), .code CodL.yN CodL.yB 2 (some .byte)]
theorem tab_of {a : Array Value} {s : State} (h : ∀ w ∈ words, w.before a s = true) : New1.tab.before a s = true := by
  have h5 : Cmp5.tab.before a s = true := unparts (wk h (.code Cmp5.yN Cmp5.yB 7 (some .int))) (wks h (.initialized Cmp5.yN.cls :: Cmp5.site))
  have hc : CodL.tab.before a s = true := unparts (wk h (.code CodL.yN CodL.yB 2 (some .byte))) (wks h (.initialized CodL.yN.cls :: CodL.site))
  have q5 : ∀ w ∈ Cmp5.tab :: words, w.before a s = true := fun w hw => (List.mem_cons.mp hw).elim (fun e => e ▸ h5) (h w)
  have h3 : Cmp3.tab.before a s = true := unparts (wk q5 (.code Cmp3.yN Cmp3.yB 6 (some (.array .byte)))) (wks q5 (.initialized Cmp3.yN.cls :: Cmp3.site))
  have q3 : ∀ w ∈ Cmp3.tab :: CodL.tab :: words, w.before a s = true := fun w hw => (List.mem_cons.mp hw).elim (fun e => e ▸ h3) fun hw => (List.mem_cons.mp hw).elim (fun e => e ▸ hc) (h w)
  have h4 : New4.tab.before a s = true := unparts (wk q3 (.code New4.yN New4.yB 6 none)) (wks q3 (.initialized New4.yN.cls :: New4.site))
  have q4 : ∀ w ∈ New4.tab :: words, w.before a s = true := fun w hw => (List.mem_cons.mp hw).elim (fun e => e ▸ h4) (h w)
  exact unparts (wk q4 (.code New1.yN New1.yB 2 none)) (wks q4 (.initialized New1.yN.cls :: New1.site))
/-- the words ride from the start Z to the walk's own state -/
theorem moved {Z s : State} {a0 args : Array Value} (hZ : Z.Warmed39 s.vm) (hw : ∀ d ∈ words, d.before a0 Z = true) : ∀ d ∈ words, d.before args s = true := fun d hd => by
  have q := hw d hd
  have t : ∀ d ∈ words, d = .arrayClass .byte ∨ (d.onTables && d.keepsFace) = true := by decide +kernel
  rcases t d hd with rfl | t
  · exact RoadKit.mvA hZ q
  · exact RoadKit.mv hZ q t
/-- WHAT COMES BACK, over the tables of the start Z: h the heap at the call, h' behind it -/
def Q (Z : State) (x : Addr) (A : Cell) (h : Heap) (v : Option Value) (h' : Heap) (L : List Loc) : Prop := v = none ∧ (∀ y ∈ L, y.base = x) ∧ RoadKit.Keep h h' [x] ∧ h'.size = h.size + 1 ∧ RoadKit.Exa Z h' x ST ∧ RoadKit.Fld Z h' x ST "value" "[B" (.ref h.size) ∧ RoadKit.Fld Z h' x ST "coder" "B" (.int 0) ∧
  (∃ V : Cell, RoadKit.Arr Z h' h.size V .byte ∧ V.vm = .none ∧ Z.vm.findClass "[B" = some V.cls ∧ V.slots.size = A.slots.size ∧ ∀ j, j < A.slots.size → V.slots[j]? = some (.int (lo8 (cv A j)))) ∧
  ∀ (O n d : String) (w : Value), RoadKit.Fld Z h x O n d w → RoadKit.slotOf Z O n d ≠ RoadKit.slotOf Z ST "value" "[B" → RoadKit.slotOf Z O n d ≠ RoadKit.slotOf Z ST "coder" "B" → RoadKit.Fld Z h' x O n d w
/-- **new String(chars) AT A CALL, IN THE ROAD'S FORM**: for specialBack behind newO: x the fresh String, b the char[] with the cell A -/
theorem back {p : Program} {l : Launch} {e : Env} {R : Room} {s : State} {args : Array Value} {below : List Frame} {len W : Nat} {Z : State} {a0 : Array Value} {h : Heap} (hZ : Z.Warmed39 s.vm) (hw : ∀ d ∈ words, d.before a0 Z = true) {kI : Nat} (wi : (Jvm.Cond.instantiable ST kI).before a0 Z = true)
    {x b : Addr} {A : Cell} {z : Int32} {v0 c0 : Value} (E : RoadKit.Exa Z h x ST) (V : RoadKit.Fld Z h x ST "value" "[B" v0) (C : RoadKit.Fld Z h x ST "coder" "B" c0) (K : RoadKit.Arr Z h b A .char) (hty : Typed .char A) (S : RoadKit.Sta Z h ST "COMPACT_STRINGS" "Z" (.int z)) (hz : ¬ z = 0)
    (l0 : 0 < A.slots.size) (l2 : A.slots.size ≤ 536870912) (hp : ∀ i, i < A.slots.size → ¬ 255 < cv A i) (hfr : 4 ≤ R.frames) (hlo : W + 65 ≤ R.locals) :
    Back l R p e below s args New1.yN len W (fun P a => a = #[.ref x, .ref b] ∧ P.U.heap = h ∧ P.cells + 1 ≤ R.cells ∧ P.slots + A.slots.size ≤ R.slots)
      (fun P _ v B => ∃ L, Q Z x A h v B.U.heap L ∧ B.locs = P.locs ++ L ∧ B.cells = P.cells + 1 ∧ B.slots = P.slots + A.slots.size) := by
  intro m meth c P g ig mk a X hg hsize hdg hW hn hp'
  obtain ⟨rfl, rfl, r1, r2⟩ := hp'
  have al : Z.vm.Alike P.U.vm := hZ.alike.trans X.warmed.alike
  obtain ⟨D, cfV, kV, iV, fV, hD, gV, stV, knV, obV, asV, slV⟩ := id V
  obtain ⟨D', cfC, kC, iC, fC, hD', gC, stC, -, -, asC, slC⟩ := id C
  cases hD.symm.trans hD'
  obtain ⟨D2, kD, e1, e2, e3, e4, e5⟩ := id E
  cases hD.symm.trans e1
  obtain ⟨c2, k2, i1, i2, i3, -⟩ := Cond.instantiable_spec wi
  cases e2.symm.trans i1
  cases e3.symm.trans i2
  obtain ⟨kU, u1, u2⟩ := al.2.2 _ _ e3
  have hB : Blank ST x D P.U := ⟨hD, ⟨knV, fun q hq => by rw [hq] at obV; cases obV⟩, by rw [al.findClass]; exact e2, kU, u1, by rw [u2]; exact i3, by rw [u2]; exact e5 i3⟩
  have F1 : Found ST "value" "[B" fV P.U := ⟨SBG.found_only al ⟨cfV, kV, iV, gV⟩, stV⟩
  have F2 : Found ST "coder" "B" fC P.U := ⟨SBG.found_only al ⟨cfC, kC, iC, gC⟩, stC⟩
  have hA : Ch b A P.U := ⟨⟨K.1, State.isArrayOf_alike al K.2.1, K.2.2, by omega⟩, hty⟩
  have hS : StaticIs P.U ST "COMPACT_STRINGS" "Z" (.int z) := by
    obtain ⟨cfS, iS, kS, fS, st, cS, t1, t2, t3, t4, t5, t6, t7⟩ := S
    exact StaticIs.there (s := { Z with heap := P.U.heap }) ⟨cfS, iS, kS, fS, st, cS, t1, t2, t3, t4, t5, (fun q => by rw [q] at t6; cases t6), t7⟩ al rfl
  obtain ⟨v, B, X', ⟨⟨hv, E', V', q1, q2, q3, q4, q5, q6, q7, q8, q9, q10, q11⟩, hl, hc, hs⟩, st⟩ := New1.pays x D fV fC b A z (tab_of (moved hZ hw)) hfr hlo m meth c P g ig mk _ X hg hsize hdg hW hn ⟨r1, r2, rfl, hB, F1, F2, hA, hS, hz, l0, l2, hp⟩
  have al' : Z.vm.Alike B.U.vm := hZ.alike.trans X'.warmed.alike
  have hsz : E'.slots.size = D.slots.size := by
    obtain ⟨-, -, -, kB, w1, w2, w3⟩ := q1
    obtain ⟨kB', y1, y2⟩ := al'.2.2 _ _ e3
    rw [q2.2.1] at w1
    cases w1.symm.trans y1
    rw [w3, e5 i3, y2]
  refine ⟨v, B, X', ⟨_, ⟨hv, ?_, ⟨by omega, fun y cy hy hn' => q10 y cy (by simpa using hn') hy, fun y cy hy => ?_⟩, q11, ⟨E', _, q1.1, by rw [q2.2.1]; exact e2, by rw [q2.2.1]; exact e3, by rw [q2.1]; exact obV, fun _ => by rw [hsz]; exact e5 i3⟩,
    ⟨E', cfV, kV, iV, fV, q1.1, gV, stV, by rw [q2.1]; exact knV, by rw [q2.1]; exact obV, by rw [q2.2.1]; exact asV, q3⟩, ⟨E', cfC, kC, iC, fC, q1.1, gC, stC, by rw [q2.1]; exact knV, by rw [q2.1]; exact obV, by rw [q2.2.1]; exact asC, q4⟩,
    ⟨V', ⟨q5.1, State.isArrayOf_alike al'.symm q5.2.1, q5.2.2.1⟩, q6, by rw [← al'.findClass]; exact q7, q8, fun j hj => by have := q9 j hj; rwa [Nat.zero_add] at this⟩, fun O n d w F n1 n2 => ?_⟩, hl, hc, hs⟩, st⟩
  · intro y hy
    simp only [List.mem_cons, List.not_mem_nil, or_false] at hy
    rcases hy with rfl | rfl <;> rfl
  · by_cases q : y = x
    · subst q
      cases hD.symm.trans hy
      exact ⟨E', q1.1, q2.2.1, q2.1, hsz⟩
    · exact ⟨cy, q10 y cy q hy, rfl, rfl, rfl⟩
  · obtain ⟨D3, cf, k, i, f, g1, g2, g3, g4, g5, g6, g7⟩ := F
    cases hD.symm.trans g1
    simp only [RoadKit.slotOf, g2, gV, gC, Option.map_some, Option.getD_some] at n1 n2
    exact ⟨E', cf, k, i, f, q1.1, g2, g3, by rw [q2.1]; exact g4, by rw [q2.1]; exact g5, by rw [q2.2.1]; exact g6, by rw [q2.2.2 f.slot (by simp [n1, n2])]; exact g7⟩
end StrChars.Road
namespace StrChars.Road
open Jvm Sem ClassFile Op Lib Jvm.Stand Jvm.Free Jvm.Free.XT
/-- WHAT COMES BACK, the byte[] as a list of values -/
def QA (Z : State) (x : Addr) (zn : Int32) (cs : List Int32) (h : Heap) (v : Option Value) (h' : Heap) (L : List Loc) : Prop := v = none ∧ (∀ y ∈ L, y.base = x) ∧ RoadKit.Keep h h' [x] ∧ h'.size = h.size + 1 ∧ RoadKit.Exa Z h' x ST ∧ RoadKit.Fld Z h' x ST "value" "[B" (.ref h.size) ∧ RoadKit.Fld Z h' x ST "coder" "B" (.int 0) ∧
  (∃ kb, Z.vm.findClass "[B" = some kb ∧ RoadKit.Arv Z h' h.size kb .byte zn (cs.map fun c => .int (lo8 c)) (.int 0)) ∧
  ∀ (O n d : String) (w : Value), RoadKit.Fld Z h x O n d w → RoadKit.slotOf Z O n d ≠ RoadKit.slotOf Z ST "value" "[B" → RoadKit.slotOf Z O n d ≠ RoadKit.slotOf Z ST "coder" "B" → RoadKit.Fld Z h' x O n d w
/-- **new String(chars) AT A CALL, THE ARRAYS AS LISTS**: the char[] at b holds cs, not empty, no char above 255 -/
theorem backArv {p : Program} {l : Launch} {e : Env} {R : Room} {s : State} {args : Array Value} {below : List Frame} {len W : Nat} {Z : State} {a0 : Array Value} {h : Heap} (hZ : Z.Warmed39 s.vm) (hw : ∀ d ∈ words, d.before a0 Z = true) {kI : Nat} (wi : (Jvm.Cond.instantiable ST kI).before a0 Z = true)
    {x b : Addr} {k : ClassId} {zn z : Int32} {cs : List Int32} {dv v0 c0 : Value} (E : RoadKit.Exa Z h x ST) (V : RoadKit.Fld Z h x ST "value" "[B" v0) (C : RoadKit.Fld Z h x ST "coder" "B" c0) (K : RoadKit.Arv Z h b k .char zn (cs.map Value.int) dv) (S : RoadKit.Sta Z h ST "COMPACT_STRINGS" "Z" (.int z)) (hz : ¬ z = 0)
    (hlen : zn.toNatClampNeg = cs.length) (h0 : 0 < cs.length) (hbig : cs.length ≤ 536870912) (hall : ∀ c ∈ cs, ¬ 255 < c) (hfr : 4 ≤ R.frames) (hlo : W + 65 ≤ R.locals) :
    Back l R p e below s args New1.yN len W (fun P a => a = #[.ref x, .ref b] ∧ P.U.heap = h ∧ P.cells + 1 ≤ R.cells ∧ P.slots + cs.length ≤ R.slots)
      (fun P _ v B => ∃ L, QA Z x zn cs h v B.U.heap L ∧ B.locs = P.locs ++ L ∧ B.cells = P.cells + 1 ∧ B.slots = P.slots + cs.length) := by
  obtain ⟨A, K1, K2, K3, K4, K5, K6⟩ := K
  have e : A.slots.size = cs.length := K3.trans hlen
  have hat : ∀ (i : Nat) (hi : i < cs.length), A.slots[i]? = some (.int cs[i]) := fun i hi => by rw [K5 i (by omega)]; simp [List.getD_eq_getElem?_getD, hi]
  have hcv : ∀ (i : Nat) (hi : i < cs.length), cv A i = cs[i] := fun i hi => by unfold cv; rw [hat i hi]
  have hty : Typed .char A := fun i v hv => by
    have hi : i < A.slots.size := (Array.getElem?_eq_some_iff.mp hv).1
    have q := K5 i hi
    rw [hv] at q
    rw [Option.some.inj q]
    exact K6 i hi
  refine Back.mono (back hZ hw wi E V C K1 hty S hz (by omega) (by omega) (fun i hi => by rw [hcv i (by omega)]; exact hall _ (List.getElem_mem _)) hfr hlo) (fun P a hp => ⟨hp.1, hp.2.1, hp.2.2.1, by rw [e]; exact hp.2.2.2⟩) (fun P a v B hp hq => ?_)
  obtain ⟨L, ⟨q1, q2, q3, q4, q5, q6, q7, ⟨V', v1, v2, v3, v4, v5⟩, q9⟩, hl, hc, hs⟩ := hq
  refine ⟨L, ⟨q1, q2, q3, q4, q5, q6, q7, ⟨V'.cls, v3, V', v1, rfl, by rw [v4, e, hlen], K4, fun i hi => ?_, fun i hi => ?_⟩, q9⟩, hl, hc, by rw [hs, e]⟩
  · have hi' : i < cs.length := by omega
    rw [v5 i (by omega), hcv i hi']; simp [List.getD_eq_getElem?_getD, hi']
  · have hi' : i < cs.length := by omega
    simp only [List.getD_eq_getElem?_getD, List.getElem?_map, List.getElem?_eq_getElem hi', Option.map_some, Option.getD_some]
    exact fits_lo8 _
end StrChars.Road
namespace StrChars.Road
open Jvm Sem ClassFile Op Lib Jvm.Stand Jvm.Free Jvm.Free.XT
/-- WHAT COMES BACK, in the writer's own shape -/
def QV (Z : State) (x : Addr) (N : Int32) (bs : List Int32) (h : Heap) (n0 : Nat) (v : Option Value) (h' : Heap) (L : List Loc) : Prop := v = none ∧ RoadKit.Fr n0 L ∧ RoadKit.Keep h h' [x] ∧ RoadKit.Exa Z h' x ST ∧ RoadKit.Fld Z h' x ST "coder" "B" (.int 0) ∧
  ∃ (t : Addr) (kb : ClassId), n0 ≤ t ∧ h.size ≤ t ∧ ¬ t = x ∧ RoadKit.Fld Z h' x ST "value" "[B" (.ref t) ∧ RoadKit.Arv Z h' t kb .byte N (bs.map Value.int) (.int 0)
/-- **new String(chars) AT A CALL, FOR THE WRITER**: a char[] of n known ints, each 0 to 255 -/
theorem backV {p : Program} {l : Launch} {e : Env} {R : Room} {s : State} {args : Array Value} {below : List Frame} {len W : Nat} {Z : State} {a0 : Array Value} {h : Heap} (hZ : Z.Warmed39 s.vm) (hw : ∀ d ∈ words, d.before a0 Z = true) {kI : Nat} (wi : (Jvm.Cond.instantiable ST kI).before a0 Z = true)
    {x b : Addr} {kC : ClassId} {cs bs : List Int32} {d v0 c0 : Value} {z N : Int32} {n n0 : Nat} (hx0 : n0 ≤ x) (hh0 : n0 ≤ h.size) (E : RoadKit.Exa Z h x ST) (V : RoadKit.Fld Z h x ST "value" "[B" v0) (C : RoadKit.Fld Z h x ST "coder" "B" c0) (K : RoadKit.Arv Z h b kC .char N (cs.map Value.int) d) (S : RoadKit.Sta Z h ST "COMPACT_STRINGS" "Z" (.int z)) (hz : ¬ z = 0)
    (hn : cs.length = n) (hN : N = Int32.ofNat n) (l0 : 0 < n) (l2 : n ≤ 4000) (hp : ∀ c ∈ cs, ¬ c < 0 ∧ ¬ (255 : Int32) < c) (hb : bs = cs.map (fun c => c.toInt8.toInt32)) (hfr : 4 ≤ R.frames) (hlo : W + 65 ≤ R.locals) :
    Back l R p e below s args (⟨"java/lang/String", "<init>", "([C)V"⟩ : MethodName) len W (fun P a => a = #[.ref x, .ref b] ∧ P.U.heap = h ∧ P.cells + 1 ≤ R.cells ∧ P.slots + n ≤ R.slots)
      (fun P _ v B => ∃ L, QV Z x N bs h n0 v B.U.heap L ∧ B.locs = P.locs ++ L ∧ B.cells = P.cells + 1 ∧ B.slots = P.slots + n) := by
  subst hn hN hb
  refine Back.mono (backArv hZ hw wi E V C K S hz (n32 (by omega)) l0 (by omega) (fun c hc => (hp c hc).2) hfr hlo) (fun P a hp => hp) (fun P a v B hp hq => ?_)
  obtain ⟨L, ⟨q1, q2, q3, q4, q5, q6, q7, ⟨kb, v1, v2⟩, q9⟩, hl, hc, hs⟩ := hq
  exact ⟨L, ⟨q1, fun y hy => by rw [q2 y hy]; exact hx0, q3, q5, q7, h.size, kb, hh0, Nat.le_refl _, Nat.ne_of_gt E.lt, q6, by rw [List.map_map]; exact v2⟩, hl, hc, hs⟩
end StrChars.Road
namespace StrChars
open Jvm Sem ClassFile Op Lib Jvm.Stand Jvm.Free.XT Jvm.Free.ALB Jvm.Free.JM Jvm.Free
open Jvm.Lib.Cold (StaticIs)
def hi8 (x : Int32) : Int32 := lo8 (x >>> ((8 : Int32) &&& 31))
/-- what StringUTF16.getChar makes of two bytes -/
def pairCh (u v : Int32) : Int32 := (((u &&& 255) <<< ((0 : Int32) &&& 31)) ||| ((v &&& 255) <<< ((8 : Int32) &&& 31))).toUInt32.toUInt16.toUInt32.toInt32
theorem shr0 (c : Int32) : c >>> ((0 : Int32) &&& 31) = c := by
  have e : ((0 : Int32) &&& 31) = 0 := by decide
  rw [e]
  apply Int32.toBitVec_inj.mp
  rw [Int32.toBitVec_shiftRight]
  have e1 : ((0 : Int32).toBitVec.smod 32) = 0#32 := by decide
  rw [e1, BitVec.sshiftRight_eq']
  exact BitVec.sshiftRight_zero
theorem lo8_and (x : Int32) : (lo8 x &&& 255).toBitVec.toNat = x.toBitVec.toNat % 256 := by
  have h : (lo8 x).toBitVec = (x.toBitVec.signExtend 8).signExtend 32 := by rw [lo8, Int8.toBitVec_toInt32, Int32.toBitVec_toInt8]
  rw [Int32.toBitVec_and, BitVec.toNat_and, h]
  have e : ((x.toBitVec.signExtend 8).signExtend 32).toNat % 256 = x.toBitVec.toNat % 256 := by
    rw [BitVec.toNat_signExtend]
    have hlt := x.toBitVec.isLt
    simp only [BitVec.toNat_setWidth, BitVec.toNat_signExtend]
    split <;> split <;> omega
  rw [← e]
  exact Nat.and_two_pow_sub_one_eq_mod _ 8
theorem pair_says {c : Int32} (h0 : ¬ c < 0) (h1 : ¬ 65535 < c) : pairCh (lo8 c) (hi8 c) = c := by
  rw [Int32.lt_iff_toInt_lt] at h0 h1
  have e0 : (0 : Int32).toInt = 0 := rfl
  have e1 : (65535 : Int32).toInt = 65535 := rfl
  have hc : c.toInt = c.toBitVec.toNat := by
    have := c.toBitVec.isLt
    have e : c.toInt = c.toBitVec.toInt := rfl
    rw [e] at h0 h1
    rw [e]
    rw [BitVec.toInt_eq_toNat_cond] at h0 h1 ⊢
    split at h0 <;> split <;> omega
  have hn : c.toBitVec.toNat < 65536 := by omega
  have a1 := lo8_and c
  have a2 : (hi8 c &&& 255).toBitVec.toNat = c.toBitVec.toNat / 256 := by
    rw [hi8, lo8_and]
    have e : ((8 : Int32) &&& 31) = 8 := by decide
    rw [e, Int32.toBitVec_shiftRight]
    have e2 : ((8 : Int32).toBitVec.smod 32) = 8#32 := by decide
    rw [e2, BitVec.sshiftRight_eq', BitVec.toNat_sshiftRight_of_msb_false (by rw [BitVec.msb_eq_false_iff_two_mul_lt]; omega)]
    show c.toBitVec.toNat >>> 8 % 256 = _
    rw [Nat.shiftRight_eq_div_pow]
    omega
  unfold pairCh
  apply Int32.toBitVec_inj.mp
  apply BitVec.eq_of_toNat_eq
  have f0 : ((0 : Int32) &&& 31) = 0 := by decide
  have f8 : ((8 : Int32) &&& 31) = 8 := by decide
  rw [f0, f8]
  have g : (((lo8 c &&& 255) <<< (0 : Int32)) ||| ((hi8 c &&& 255) <<< (8 : Int32))).toBitVec.toNat = c.toBitVec.toNat := by
    rw [Int32.toBitVec_or, Int32.toBitVec_shiftLeft, Int32.toBitVec_shiftLeft]
    have s0 : ((0 : Int32).toBitVec.smod 32) = 0#32 := by decide
    have s8 : ((8 : Int32).toBitVec.smod 32) = 8#32 := by decide
    rw [s0, s8, BitVec.toNat_or]
    simp only [BitVec.shiftLeft_eq', BitVec.toNat_shiftLeft, a1, a2]
    show (c.toBitVec.toNat % 256) <<< 0 % 2 ^ 32 ||| (c.toBitVec.toNat / 256) <<< 8 % 2 ^ 32 = _
    rw [Nat.shiftLeft_zero, Nat.mod_eq_of_lt (show c.toBitVec.toNat % 256 < 2 ^ 32 by omega), Nat.mod_eq_of_lt (show (c.toBitVec.toNat / 256) <<< 8 < 2 ^ 32 by rw [Nat.shiftLeft_eq]; omega), Nat.or_comm, ← Nat.shiftLeft_add_eq_or_of_lt (by omega), Nat.shiftLeft_eq]
    omega
  show BitVec.toNat (((((lo8 c &&& 255) <<< (0 : Int32)) ||| ((hi8 c &&& 255) <<< (8 : Int32))).toBitVec.setWidth 16).setWidth 32) = _
  rw [BitVec.toNat_setWidth, BitVec.toNat_setWidth, g]
  omega
end StrChars
namespace StrChars
open Jvm Sem ClassFile Op Lib Jvm.Stand Jvm.Free.XT Jvm.Free.ALB Jvm.Free.JM Jvm.Free
open Jvm.Lib.Cold (StaticIs)
theorem shr1 {n : Nat} (h : 2 * n < 2 ^ 31) : Int32.ofNat (2 * n) >>> ((1 : Int32) &&& 31) = Int32.ofNat n := by
  have e : ((1 : Int32) &&& 31) = 1 := by decide
  rw [e]
  apply Int32.toBitVec_inj.mp
  rw [Int32.toBitVec_shiftRight]
  have e1 : ((1 : Int32).toBitVec.smod 32) = 1#32 := by decide
  have hm : (BitVec.ofNat 32 (2 * n)).toNat = 2 * n := by rw [BitVec.toNat_ofNat, Nat.mod_eq_of_lt (by omega)]
  rw [e1, BitVec.sshiftRight_eq']
  apply BitVec.eq_of_toNat_eq
  show ((BitVec.ofNat 32 (2 * n)).sshiftRight 1).toNat = (BitVec.ofNat 32 n).toNat
  rw [BitVec.toNat_sshiftRight_of_msb_false (by rw [BitVec.msb_eq_false_iff_two_mul_lt, hm]; omega), hm, BitVec.toNat_ofNat, Nat.shiftRight_eq_div_pow]
  omega
/-- charAt's cast of a byte read back -/
def chr8 (u : Int32) : Int32 := (u &&& 255).toUInt32.toUInt16.toUInt32.toInt32
theorem chr8_lo8 {c : Int32} (h0 : ¬ c < 0) (h1 : ¬ 255 < c) : chr8 (lo8 c) = c := by
  have t : ∀ k : Fin 256, (Int32.ofNat k.val).toUInt32.toUInt16.toUInt32.toInt32 = Int32.ofNat k.val := by decide +kernel
  unfold chr8
  rw [lo8_mask h0 h1]
  rw [Int32.lt_iff_toInt_lt] at h0 h1
  have e0 : (0 : Int32).toInt = 0 := rfl
  have e1 : (255 : Int32).toInt = 255 := rfl
  obtain ⟨k, hk⟩ : ∃ k : Nat, c.toInt = k := ⟨c.toInt.toNat, by omega⟩
  have hx : c = Int32.ofNat k := Int32.toInt_inj.mp (by rw [hk, Int32.toInt_ofNat_small (by omega)])
  rw [hx]
  exact t ⟨k, by omega⟩
theorem narrow_ch {c : Int32} (h0 : ¬ c < 0) (h1 : ¬ 65535 < c) : narrow .char (.int c) = .int c := by
  have q : narrow .char (.int (pairCh (lo8 c) (hi8 c))) = .int (pairCh (lo8 c) (hi8 c)) := narrow_c _
  rwa [pair_says h0 h1] at q
/-- the array's cell V codes the n chars f 0 .. f (n - 1) by the coder cd, as the JDK does: coder 1 just where some char is above 255 -/
def Cod (cd : Int32) (n : Nat) (f : Nat → Int32) (V : Cell) : Prop := (cd = 0 ∧ V.slots.size = n ∧ ∀ j, j < n → V.slots[j]? = some (.int (lo8 (f j))) ∧ ¬ 255 < f j) ∨ (cd = 1 ∧ V.slots.size = 2 * n ∧ (∀ j, j < n → V.slots[2 * j]? = some (.int (lo8 (f j))) ∧ V.slots[2 * j + 1]? = some (.int (hi8 (f j)))) ∧ ∃ j, j < n ∧ 255 < f j)
theorem Cod.cd {cd : Int32} {n : Nat} {f : Nat → Int32} {V : Cell} (h : Cod cd n f V) : cd = 0 ∨ cd = 1 := h.imp (fun q => q.1) fun q => q.1
theorem Cod.len {cd : Int32} {n : Nat} {f : Nat → Int32} {V : Cell} (h : Cod cd n f V) (hs : V.slots.size < 2 ^ 31) : Int32.ofNat V.slots.size >>> (cd &&& 31) = Int32.ofNat n := by
  rcases h with ⟨rfl, h, -⟩ | ⟨rfl, h, -⟩
  · rw [shr0, h]
  · rw [h, shr1 (by omega)]
/-- **x is a String of the n chars f 0 .. f (n - 1)**, Latin-1 or UTF-16; its array at t has the cell V -/
def Txt (x t : Addr) (V : Cell) (cd : Int32) (n : Nat) (f : Nat → Int32) (U : State) : Prop := Exact "java/lang/String" x U ∧ Has x "java/lang/String" "value" "[B" (.ref t) U ∧ Has x "java/lang/String" "coder" "B" (.int cd) U ∧ XT.Arr .byte t V U ∧ Cod cd n f V ∧ ∀ j, j < n → ¬ f j < 0 ∧ ¬ 65535 < f j
theorem Txt.mv {x t : Addr} {V : Cell} {cd : Int32} {n : Nat} {f : Nat → Int32} {U U' : State} (h : Txt x t V cd n f U) (hal : U.vm.Alike U'.vm) (hh : U'.heap = U.heap) : Txt x t V cd n f U' := ⟨h.1.mv hal hh, h.2.1.mv hal hh, h.2.2.1.mv hal hh, h.2.2.2.1.mv hal hh, h.2.2.2.2⟩
namespace Cdr
def yN : MethodName := ⟨"java/lang/String", "coder", "()B"⟩
abbrev yB : ByteArray := jdk_42_method_152_code
theorem d0 : decode yB 0 = .ok (.getstatic 38, 3) := by decide +kernel
theorem d3 : decode yB 3 = .ok (.ifCond (.eq) 10, 3) := by decide +kernel
theorem d6 : decode yB 6 = .ok (.aload_n 0, 1) := by decide +kernel
theorem d7 : decode yB 7 = .ok (.getfield 15, 3) := by decide +kernel
theorem d10 : decode yB 10 = .ok (.goto 4, 3) := by decide +kernel
theorem d14 : decode yB 14 = .ok (.ireturn, 1) := by decide +kernel
def site : List Cond := [.fieldLink "java/lang/String" 38 "java/lang/String" "COMPACT_STRINGS" "Z", .fieldLink "java/lang/String" 15 "java/lang/String" "coder" "B"]
def tab : Cond := tabOf yN yB 1 (some .byte) site
def P (x : Addr) (cd z : Int32) (args : Array Value) (s : State) : Prop := args = #[.ref x] ∧ Has x "java/lang/String" "coder" "B" (.int cd) s ∧ (cd = 0 ∨ cd = 1) ∧ StaticIs s "java/lang/String" "COMPACT_STRINGS" "Z" (.int z) ∧ ¬ z = 0
def E (cd : Int32) (r : Option Value) (s u : State) : Prop := XT.PureE (some (.int cd)) r s u
theorem law (l : Launch) (x : Addr) (cd z : Int32) : Law l yN 1 0 0 0 yB 1 (some .byte) site (P x cd z) (E cd) [] 0 0 := by
  refine Law.of_walk (plainFor_of_name (by decide +kernel)) (by decide +kernel) (by decide +kernel) (by decide) (fun _ _ h => by rw [h.1]; rfl) (fun _ U U' hal hh h => ⟨h.1, h.2.1.mv hal hh, h.2.2.1, h.2.2.2.1.there hal hh, h.2.2.2.2⟩) (fun r U U' V V' h1 hal h2 h => XT.PureE.mv r U U' V V' h1 hal h2 h) ?_
  intro p e s m args below meth c s₁ X0 hexec hbytes hml hret hlk hnm hown hh0 W hP
  obtain ⟨rfl, hx, hc, s1, hz⟩ := hP
  have c1 : Steps p.tables e below (s₁.setTop (entryFrame m #[.ref x] 1)) (s₁.setTop (mkF m 0 #[.val (.ref x)] [])) := entry rfl
  obtain ⟨T2, X2, q2, st2⟩ := X0.sget hexec hown (wk W (.fieldLink "java/lang/String" 38 "java/lang/String" "COMPACT_STRINGS" "Z")) s1 (fun _ _ h => by rw [hh0]; exact h) (g := (mkF m 0 #[.val (.ref x)] [])) rfl (hb hbytes d0)
  have hh2 := q2.trans hh0
  have c3 : Steps p.tables e below (s₁.setTop (entryFrame m #[.ref x] 1)) (T2.setTop (mkF m 7 #[.val (.ref x)] [.ref x])) := (c1.trans (st2 _ (Steps.refl _))).trans (by
    refine XS.ifNo X2.here hexec rfl (hb hbytes d3) rfl (i0_eq_f hz) ?_
    refine XS.aloadN X2.here hexec rfl (hb hbytes d6) rfl rfl ?_
    exact Steps.refl _)
  obtain ⟨T4, X4, q4, st4⟩ := X2.hget hexec hown (wk W (.fieldLink "java/lang/String" 15 "java/lang/String" "coder" "B")) (hx.mv X2.warmed.alike hh2) (g := (mkF m 7 #[.val (.ref x)] [.ref x])) rfl (rest := []) rfl (hb hbytes d7)
  have c5 : Steps p.tables e below (s₁.setTop (entryFrame m #[.ref x] 1)) (T4.setTop (mkF m 14 #[.val (.ref x)] [.int cd])) := (c3.trans (st4 _ (Steps.refl _))).trans (by
    refine XS.goto X4.here hexec rfl (pc0 := 10) rfl (hb hbytes d10) (by decide) rfl ?_
    exact Steps.refl _)
  exact ⟨T4, some (.int cd), _, _, _, X4, rfl, rfl, rfl, (fun h => by cases h), ⟨rfl, q4.trans hh2⟩, fun fs hl => c5.trans (X4.ireturnOut hexec hret (by rcases hc with rfl | rfl <;> rfl) (Or.inr (Or.inr (Or.inl rfl))) (hb hbytes d14) hl)⟩
end Cdr
namespace Len
def yN : MethodName := ⟨"java/lang/String", "length", "()I"⟩
abbrev yB : ByteArray := jdk_42_method_54_code
theorem d0 : decode yB 0 = .ok (.aload_n 0, 1) := by decide +kernel
theorem d1 : decode yB 1 = .ok (.getfield 9, 3) := by decide +kernel
theorem d4 : decode yB 4 = .ok (.arraylength, 1) := by decide +kernel
theorem d5 : decode yB 5 = .ok (.aload_n 0, 1) := by decide +kernel
theorem d6 : decode yB 6 = .ok (.invokevirtual 335, 3) := by decide +kernel
theorem d9 : decode yB 9 = .ok (.ishr, 1) := by decide +kernel
theorem d10 : decode yB 10 = .ok (.ireturn, 1) := by decide +kernel
def site : List Cond := [.fieldLink "java/lang/String" 9 "java/lang/String" "value" "[B", Cdr.tab] ++ virtW "java/lang/String" 335 "java/lang/String" Cdr.yN Cdr.yN
def tab : Cond := tabOf yN yB 1 (some .int) site
def P (x t : Addr) (V : Cell) (cd : Int32) (n : Nat) (f : Nat → Int32) (z : Int32) (args : Array Value) (s : State) : Prop := args = #[.ref x] ∧ Txt x t V cd n f s ∧ StaticIs s "java/lang/String" "COMPACT_STRINGS" "Z" (.int z) ∧ ¬ z = 0
def E (n : Nat) (r : Option Value) (s u : State) : Prop := XT.PureE (some (.int (Int32.ofNat n))) r s u
/-- length() of a String of n chars, in either coding -/
theorem law (l : Launch) (x t : Addr) (V : Cell) (cd : Int32) (n : Nat) (f : Nat → Int32) (z : Int32) : Law l yN 1 0 1 13 yB 1 (some .int) site (P x t V cd n f z) (E n) [] 0 0 := by
  refine Law.of_walk (plainFor_of_name (by decide +kernel)) (by decide +kernel) (by decide +kernel) (by decide) (fun _ _ h => by rw [h.1]; rfl) (fun _ U U' hal hh h => ⟨h.1, h.2.1.mv hal hh, h.2.2.1.there hal hh, h.2.2.2⟩) (fun r U U' V V' h1 hal h2 h => XT.PureE.mv r U U' V V' h1 hal h2 h) ?_
  intro p e s m args below meth c s₁ X0 hexec hbytes hml hret hlk hnm hown hh0 W hP
  obtain ⟨rfl, hx, s1, hz⟩ := hP
  have v31 := hx.2.2.2.1.2.2.2
  have c1 : Steps p.tables e below (s₁.setTop (entryFrame m #[.ref x] 1)) (s₁.setTop (mkF m 1 #[.val (.ref x)] [.ref x])) := Steps.trans (entry rfl) (by
    show Steps p.tables e below (s₁.setTop (mkF m 0 #[.val (.ref x)] [])) _
    refine XS.aloadN X0.here hexec rfl (hb hbytes d0) rfl rfl ?_
    exact Steps.refl _)
  obtain ⟨T2, X2, q2, st2⟩ := X0.hget hexec hown (wk W (.fieldLink "java/lang/String" 9 "java/lang/String" "value" "[B")) (hx.mv X0.warmed.alike hh0).2.1 (g := (mkF m 1 #[.val (.ref x)] [.ref x])) rfl (rest := []) rfl (hb hbytes d1)
  have hh2 := q2.trans hh0
  have hx2 := hx.mv X2.warmed.alike hh2
  have c3 : Steps p.tables e below (s₁.setTop (entryFrame m #[.ref x] 1)) (T2.setTop (mkF m 6 #[.val (.ref x)] [.ref x, .int (Int32.ofNat V.slots.size)])) := (c1.trans (st2 _ (Steps.refl _))).trans (by
    refine X2.alen hexec hx2.2.2.2.1 rfl rfl (hb hbytes d4) ?_
    refine XS.aloadN X2.here hexec rfl (hb hbytes d5) rfl rfl ?_
    exact Steps.refl _)
  obtain ⟨v4, T4, X4, E4, g4⟩ := X2.callV hexec (Cdr.law l x cd z) hown (wks W (virtW "java/lang/String" 335 "java/lang/String" Cdr.yN Cdr.yN)) rfl (by decide) (wk W Cdr.tab) (W := 1) (Nat.le_of_ble_eq_true rfl) (Nat.le_of_ble_eq_true rfl) (Nat.le_refl _) (Nat.le_refl _) (hx2.1.fc X2.warmed.alike) hx2.1.is (g := (mkF m 6 #[.val (.ref x)] [.ref x, .int (Int32.ofNat V.slots.size)])) rfl (by rw [hml]; rfl) c3 (argsL := []) (rest := [.int (Int32.ofNat V.slots.size)]) rfl rfl (by show 2 * 0 + (1 + 0) ≤ _; decide) (hb hbytes d6) (⟨rfl, hx2.2.2.1, hx.2.2.2.2.1.cd, s1.there X2.warmed.alike hh2, hz⟩)
  obtain ⟨rfl, q4⟩ := E4
  have c5 : Steps p.tables e below (s₁.setTop (entryFrame m #[.ref x] 1)) (T4.setTop (mkF m 10 #[.val (.ref x)] [.int (Int32.ofNat V.slots.size >>> (cd &&& 31))])) := Steps.trans g4 (by
    refine ishr X4.here hexec rfl (hb hbytes d9) rfl ?_
    exact Steps.refl _)
  rw [hx.2.2.2.2.1.len v31] at c5
  exact ⟨T4, some (.int (Int32.ofNat n)), _, _, _, X4, rfl, rfl, rfl, (fun h => by cases h), ⟨rfl, q4.trans hh2⟩, fun fs hl => c5.trans (X4.ireturnOut hexec hret rfl (Or.inl rfl) (hb hbytes d10) hl)⟩
theorem pays {l : Launch} {R : Room} {p : Program} {e : Env} {below : List Frame} {s : State} {sargs : Array Value} {len W : Nat} (x t : Addr) (V : Cell) (cd : Int32) (n : Nat) (f : Nat → Int32) (z : Int32) (htab : tab.before sargs s = true) (hfr : 2 ≤ R.frames) (hlo : W + 25 ≤ R.locals) :
    Back l R p e below s sargs yN len W (fun A₁ a₁ => A₁.cells + 0 ≤ R.cells ∧ A₁.slots + 0 ≤ R.slots ∧ P x t V cd n f z a₁ A₁.U) (fun A₁ _ v₁ B₁ => E n v₁ A₁.U B₁.U ∧ B₁.locs = A₁.locs ++ [] ∧ B₁.cells = A₁.cells + 0 ∧ B₁.slots = A₁.slots + 0) :=
  (law l x t V cd n f z).pays htab hfr (by omega)
end Len
namespace IsL
def yN : MethodName := ⟨"java/lang/String", "isLatin1", "()Z"⟩
abbrev yB : ByteArray := jdk_42_method_154_code
theorem d0 : decode yB 0 = .ok (.getstatic 38, 3) := by decide +kernel
theorem d3 : decode yB 3 = .ok (.ifCond (.eq) 14, 3) := by decide +kernel
theorem d6 : decode yB 6 = .ok (.aload_n 0, 1) := by decide +kernel
theorem d7 : decode yB 7 = .ok (.getfield 15, 3) := by decide +kernel
theorem d10 : decode yB 10 = .ok (.ifCond (.ne) 7, 3) := by decide +kernel
theorem d13 : decode yB 13 = .ok (.iconst 1, 1) := by decide +kernel
theorem d14 : decode yB 14 = .ok (.goto 4, 3) := by decide +kernel
theorem d17 : decode yB 17 = .ok (.iconst 0, 1) := by decide +kernel
theorem d18 : decode yB 18 = .ok (.ireturn, 1) := by decide +kernel
def site : List Cond := [.fieldLink "java/lang/String" 38 "java/lang/String" "COMPACT_STRINGS" "Z", .fieldLink "java/lang/String" 15 "java/lang/String" "coder" "B"]
def tab : Cond := tabOf yN yB 1 (some .boolean) site
def P (x : Addr) (cd z : Int32) (args : Array Value) (s : State) : Prop := args = #[.ref x] ∧ Has x "java/lang/String" "coder" "B" (.int cd) s ∧ (cd = 0 ∨ cd = 1) ∧ StaticIs s "java/lang/String" "COMPACT_STRINGS" "Z" (.int z) ∧ ¬ z = 0
def E (cd : Int32) (r : Option Value) (s u : State) : Prop := XT.PureE (some (.int (1 - cd))) r s u
theorem law (l : Launch) (x : Addr) (cd z : Int32) : Law l yN 1 0 0 0 yB 1 (some .boolean) site (P x cd z) (E cd) [] 0 0 := by
  refine Law.of_walk (plainFor_of_name (by decide +kernel)) (by decide +kernel) (by decide +kernel) (by decide) (fun _ _ h => by rw [h.1]; rfl) (fun _ U U' hal hh h => ⟨h.1, h.2.1.mv hal hh, h.2.2.1, h.2.2.2.1.there hal hh, h.2.2.2.2⟩) (fun r U U' V V' h1 hal h2 h => XT.PureE.mv r U U' V V' h1 hal h2 h) ?_
  intro p e s m args below meth c s₁ X0 hexec hbytes hml hret hlk hnm hown hh0 W hP
  obtain ⟨rfl, hx, hc, s1, hz⟩ := hP
  have c1 : Steps p.tables e below (s₁.setTop (entryFrame m #[.ref x] 1)) (s₁.setTop (mkF m 0 #[.val (.ref x)] [])) := entry rfl
  obtain ⟨T2, X2, q2, st2⟩ := X0.sget hexec hown (wk W (.fieldLink "java/lang/String" 38 "java/lang/String" "COMPACT_STRINGS" "Z")) s1 (fun _ _ h => by rw [hh0]; exact h) (g := (mkF m 0 #[.val (.ref x)] [])) rfl (hb hbytes d0)
  have hh2 := q2.trans hh0
  have c3 : Steps p.tables e below (s₁.setTop (entryFrame m #[.ref x] 1)) (T2.setTop (mkF m 7 #[.val (.ref x)] [.ref x])) := (c1.trans (st2 _ (Steps.refl _))).trans (by
    refine XS.ifNo X2.here hexec rfl (hb hbytes d3) rfl (i0_eq_f hz) ?_
    refine XS.aloadN X2.here hexec rfl (hb hbytes d6) rfl rfl ?_
    exact Steps.refl _)
  obtain ⟨T4, X4, q4, st4⟩ := X2.hget hexec hown (wk W (.fieldLink "java/lang/String" 15 "java/lang/String" "coder" "B")) (hx.mv X2.warmed.alike hh2) (g := (mkF m 7 #[.val (.ref x)] [.ref x])) rfl (rest := []) rfl (hb hbytes d7)
  have c5 : Steps p.tables e below (s₁.setTop (entryFrame m #[.ref x] 1)) (T4.setTop (mkF m 10 #[.val (.ref x)] [.int cd])) := c3.trans (st4 _ (Steps.refl _))
  have c6 : Steps p.tables e below (s₁.setTop (entryFrame m #[.ref x] 1)) (T4.setTop (mkF m 18 #[.val (.ref x)] [.int (1 - cd)])) := by
    rcases hc with rfl | rfl
    · exact c5.trans (by
        refine XS.ifNo X4.here hexec rfl (hb hbytes d10) rfl (i0_ne_f rfl) ?_
        refine iconstV X4.here hexec rfl 1 (hb hbytes d13) (by decide) ?_
        refine XS.goto X4.here hexec rfl (pc0 := 14) rfl (hb hbytes d14) (by decide) rfl ?_
        exact Steps.refl _)
    · exact c5.trans (by
        refine XS.ifYes X4.here hexec rfl (pc0 := 10) rfl (hb hbytes d10) rfl (i0_ne_t (by decide)) (by decide) rfl ?_
        refine iconstV X4.here hexec rfl 0 (hb hbytes d17) (by decide) ?_
        exact Steps.refl _)
  exact ⟨T4, some (.int (1 - cd)), _, _, _, X4, rfl, rfl, rfl, (fun h => by cases h), ⟨rfl, q4.trans hh2⟩, fun fs hl => c6.trans (X4.ireturnOut hexec hret (by rcases hc with rfl | rfl <;> rfl) (Or.inr (Or.inl rfl)) (hb hbytes d18) hl)⟩
end IsL
namespace LChA
def yN : MethodName := ⟨"java/lang/StringLatin1", "charAt", "([BI)C"⟩
abbrev yB : ByteArray := jdk_43_method_2_code
theorem d0 : decode yB 0 = .ok (.iload_n 1, 1) := by decide +kernel
theorem d1 : decode yB 1 = .ok (.aload_n 0, 1) := by decide +kernel
theorem d2 : decode yB 2 = .ok (.arraylength, 1) := by decide +kernel
theorem d3 : decode yB 3 = .ok (.invokestatic 9, 3) := by decide +kernel
theorem d6 : decode yB 6 = .ok (.aload_n 0, 1) := by decide +kernel
theorem d7 : decode yB 7 = .ok (.iload_n 1, 1) := by decide +kernel
theorem d8 : decode yB 8 = .ok (.baload, 1) := by decide +kernel
theorem d9 : decode yB 9 = .ok (.sipush 255, 3) := by decide +kernel
theorem d12 : decode yB 12 = .ok (.iand, 1) := by decide +kernel
theorem d13 : decode yB 13 = .ok (.i2c, 1) := by decide +kernel
theorem d14 : decode yB 14 = .ok (.ireturn, 1) := by decide +kernel
def site : List Cond := [JO.Str_checkIndex.tab] ++ staticW "java/lang/StringLatin1" 9 JO.Str_checkIndex.yN
def tab : Cond := tabOf yN yB 2 (some .char) site
def P (t : Addr) (V : Cell) (i : Nat) (u : Int32) (fm : Value) (args : Array Value) (s : State) : Prop := args = #[.ref t, .int (Int32.ofNat i)] ∧ XT.Arr .byte t V s ∧ V.slots[i]? = some (.int u) ∧ (StaticIs s "jdk/internal/util/Preconditions" "SIOOBE_FORMATTER" "Ljava/util/function/BiFunction;" fm ∧ fm.isRef = true)
def E (u : Int32) (r : Option Value) (s w : State) : Prop := XT.PureE (some (.int (chr8 u))) r s w
theorem law (l : Launch) (t : Addr) (V : Cell) (i : Nat) (u : Int32) (fm : Value) : Law l yN 2 2 2 27 yB 2 (some .char) site (P t V i u fm) (E u) [] 0 0 := by
  refine Law.of_walk (plainFor_of_name (by decide +kernel)) (by decide +kernel) (by decide +kernel) (by decide) (fun _ _ h => by rw [h.1]; rfl) (fun _ U U' hal hh h => ⟨h.1, h.2.1.mv hal hh, h.2.2.1, h.2.2.2.1.there hal hh, h.2.2.2.2⟩) (fun r U U' V V' h1 hal h2 h => XT.PureE.mv r U U' V V' h1 hal h2 h) ?_
  intro p e s m args below meth c s₁ X0 hexec hbytes hml hret hlk hnm hown hh0 W hP
  obtain ⟨rfl, hV, hu, s1, rf⟩ := hP
  have v31 := hV.2.2.2
  have hi : i < V.slots.size := (Array.getElem?_eq_some_iff.mp hu).1
  have c1 : Steps p.tables e below (s₁.setTop (entryFrame m #[.ref t, .int (Int32.ofNat i)] 2)) (s₁.setTop (mkF m 0 #[.val (.ref t), .val (.int (Int32.ofNat i))] [])) := entry rfl
  have c2 : Steps p.tables e below (s₁.setTop (entryFrame m #[.ref t, .int (Int32.ofNat i)] 2)) (s₁.setTop (mkF m 3 #[.val (.ref t), .val (.int (Int32.ofNat i))] [.int (Int32.ofNat V.slots.size), .int (Int32.ofNat i)])) := c1.trans (by
    refine XS.iloadN X0.here hexec rfl (hb hbytes d0) rfl ?_
    refine XS.aloadN X0.here hexec rfl (hb hbytes d1) rfl rfl ?_
    refine X0.alen hexec (hV.mv X0.warmed.alike hh0) rfl rfl (hb hbytes d2) ?_
    exact Steps.refl _)
  obtain ⟨v3, T3, X3, E3, g3⟩ := X0.callS hexec (JO.Str_checkIndex.law l (Int32.ofNat i) (Int32.ofNat V.slots.size) fm) hown (wks W (staticW "java/lang/StringLatin1" 9 JO.Str_checkIndex.yN)) (wk W JO.Str_checkIndex.tab) (W := 0) (Nat.le_of_ble_eq_true rfl) (Nat.le_of_ble_eq_true rfl) (Nat.le_refl _) (Nat.le_refl _) (g := (mkF m 3 #[.val (.ref t), .val (.int (Int32.ofNat i))] [.int (Int32.ofNat V.slots.size), .int (Int32.ofNat i)])) rfl (by rw [hml]; rfl) c2 (argsL := [.int (Int32.ofNat i), .int (Int32.ofNat V.slots.size)]) (rest := []) rfl rfl (by show 2 * 0 + 0 ≤ _; decide) (hb hbytes d3) (⟨rfl, rf, s1.there X0.warmed.alike hh0, Int32.ofNat_not_neg (by omega), lt32 v31 hi⟩)
  obtain ⟨rfl, q3⟩ := E3
  have hh3 := q3.trans hh0
  have c4 : Steps p.tables e below (s₁.setTop (entryFrame m #[.ref t, .int (Int32.ofNat i)] 2)) (T3.setTop (mkF m 14 #[.val (.ref t), .val (.int (Int32.ofNat i))] [.int (chr8 u)])) := Steps.trans g3 (by
    refine XS.aloadN X3.here hexec rfl (hb hbytes d6) rfl rfl ?_
    refine XS.iloadN X3.here hexec rfl (hb hbytes d7) rfl ?_
    refine X3.aget hexec (hV.mv X3.warmed.alike hh3) rfl hu rfl rfl (hb hbytes d8) ?_
    refine sipushV X3.here hexec rfl 255 (hb hbytes d9) (by decide) ?_
    refine XS.iand X3.here hexec rfl (hb hbytes d12) rfl ?_
    refine i2c X3.here hexec rfl (hb hbytes d13) rfl ?_
    exact Steps.refl _)
  exact ⟨T3, some (.int (chr8 u)), _, _, _, X3, rfl, rfl, rfl, (fun h => by cases h), ⟨rfl, hh3⟩, fun fs hl => c4.trans (X3.ireturnOut hexec hret (narrow_c _) (Or.inr (Or.inr (Or.inr (Or.inl rfl)))) (hb hbytes d14) hl)⟩
end LChA
end StrChars
namespace StrChars.Road
open Jvm Sem ClassFile Op Lib Jvm.Stand Jvm.Free Jvm.Free.XT
open Jvm.Lib.Cold (StaticIs)
theorem consq {a : Array Value} {s : State} {c : Jvm.Cond} {L : List Jvm.Cond} (h0 : c.before a s = true) (h : ∀ w ∈ L, w.before a s = true) : ∀ w ∈ c :: L, w.before a s = true := fun w hw => (List.mem_cons.mp hw).elim (fun e => e ▸ h0) (h w)
/-- the words of String.length(), either coding -/
abbrev wordsLen : List Jvm.Cond := [.code Len.yN Len.yB 1 (some .int), .initialized ST, .fieldLink ST 9 ST "value" "[B", .fieldLink ST 38 ST "COMPACT_STRINGS" "Z", .fieldLink ST 15 ST "coder" "B", .code Cdr.yN Cdr.yB 1 (some .byte), .methodLink ST 335 Cdr.yN, .declares Cdr.yN, .selects ST Cdr.yN Cdr.yN, .instanceMethod Cdr.yN]
theorem tabLen_of {a : Array Value} {s : State} (h : ∀ w ∈ wordsLen, w.before a s = true) : Len.tab.before a s = true := by
  have hc : Cdr.tab.before a s = true := unparts (wk h (.code Cdr.yN Cdr.yB 1 (some .byte))) (wks h (.initialized Cdr.yN.cls :: Cdr.site))
  have q := consq hc h
  exact unparts (wk q (.code Len.yN Len.yB 1 (some .int))) (wks q (.initialized Len.yN.cls :: Len.site))
theorem movedLen {Z s : State} {a0 args : Array Value} (hZ : Z.Warmed39 s.vm) (hw : ∀ d ∈ wordsLen, d.before a0 Z = true) : ∀ d ∈ wordsLen, d.before args s = true := fun d hd => by
  have q := hw d hd
  have t : ∀ d ∈ wordsLen, d = .arrayClass .byte ∨ (d.onTables && d.keepsFace) = true := by decide +kernel
  rcases t d hd with rfl | t
  · exact RoadKit.mvA hZ q
  · exact RoadKit.mv hZ q t
/-- the bytes of the chars cs, low before high -/
def wideBytes : List Int32 → List Value
  | [] => []
  | c :: cs => .int (lo8 c) :: .int (hi8 c) :: wideBytes cs
theorem wide_lo (d : Value) : ∀ (cs : List Int32) (j : Nat), j < cs.length → (wideBytes cs).getD (2 * j) d = .int (lo8 (cs.getD j 0))
  | [], j, h => absurd h (Nat.not_lt_zero j)
  | c :: cs, 0, _ => rfl
  | c :: cs, j + 1, h => by
    have q := wide_lo d cs j (by simpa using h)
    rw [show 2 * (j + 1) = 2 * j + 1 + 1 from by omega]
    simpa [wideBytes] using q
theorem wide_hi (d : Value) : ∀ (cs : List Int32) (j : Nat), j < cs.length → (wideBytes cs).getD (2 * j + 1) d = .int (hi8 (cs.getD j 0))
  | [], j, h => absurd h (Nat.not_lt_zero j)
  | c :: cs, 0, _ => rfl
  | c :: cs, j + 1, h => by
    have q := wide_hi d cs j (by simpa using h)
    rw [show 2 * (j + 1) + 1 = 2 * j + 1 + 1 + 1 from by omega]
    simpa [wideBytes] using q
theorem low_at (d : Value) (cs : List Int32) (j : Nat) (h : j < cs.length) : (cs.map fun c => Value.int (lo8 c)).getD j d = .int (lo8 (cs.getD j 0)) := by
  simp [List.getD_eq_getElem?_getD, h]
/-- an array of N2 bytes vs codes the chars cs by the coder cd -/
def CodA (cs : List Int32) (cd N2 : Int32) (vs : List Value) : Prop := (cd = 0 ∧ N2 = Int32.ofNat cs.length ∧ vs = (cs.map fun c => Value.int (lo8 c)) ∧ ∀ c ∈ cs, ¬ 255 < c) ∨ (cd = 1 ∧ N2 = Int32.ofNat (2 * cs.length) ∧ vs = wideBytes cs ∧ ∃ c ∈ cs, 255 < c)
theorem CodA.cod {cs : List Int32} {cd N2 : Int32} {vs : List Value} {V : Cell} (h : CodA cs cd N2 vs) (hn : 2 * cs.length < 2 ^ 31) (hs : V.slots.size = N2.toNatClampNeg) (hv : RoadKit.Has V vs (.int 0)) : Cod cd cs.length (fun j => cs.getD j 0) V := by
  rcases h with ⟨rfl, rfl, rfl, h⟩ | ⟨rfl, rfl, rfl, c, hc, hw⟩
  · rw [n32 (by omega)] at hs
    exact Or.inl ⟨rfl, hs, fun j hj => ⟨by rw [hv j (by omega), low_at _ _ _ hj], by
      have e : cs.getD j 0 = cs[j] := by simp [List.getD_eq_getElem?_getD, hj]
      show ¬ 255 < cs.getD j 0
      rw [e]; exact h _ (List.getElem_mem _)⟩⟩
  · rw [n32 (by omega)] at hs
    obtain ⟨j, hj, rfl⟩ := List.getElem_of_mem hc
    exact Or.inr ⟨rfl, hs, fun j hj => ⟨by rw [hv _ (by omega), wide_lo _ _ _ hj], by rw [hv _ (by omega), wide_hi _ _ _ hj]⟩, j, hj, by
      have e : cs.getD j 0 = cs[j] := by simp [List.getD_eq_getElem?_getD, hj]
      show 255 < cs.getD j 0
      rw [e]; exact hw⟩
/-- an object of exactly java/lang/String, its two fields found: as the laws ask it -/
theorem strObj {Z U : State} {a0 : Array Value} {kI : Nat} (wi : (Jvm.Cond.instantiable ST kI).before a0 Z = true) (al : Z.vm.Alike U.vm) {x : Addr} {v0 c0 : Value} (E : RoadKit.Exa Z U.heap x ST) (V : RoadKit.Fld Z U.heap x ST "value" "[B" v0) (C : RoadKit.Fld Z U.heap x ST "coder" "B" c0) :
    ∃ (D : Cell) (fV fC : Field), Blank ST x D U ∧ Found ST "value" "[B" fV U ∧ Found ST "coder" "B" fC U ∧ D.slots[fV.slot]? = some v0 ∧ D.slots[fC.slot]? = some c0 ∧ RoadKit.slotOf Z ST "value" "[B" = fV.slot ∧ RoadKit.slotOf Z ST "coder" "B" = fC.slot := by
  obtain ⟨D, cfV, kV, iV, fV, hD, gV, stV, knV, obV, asV, slV⟩ := V
  obtain ⟨D', cfC, kC, iC, fC, hD', gC, stC, -, -, asC, slC⟩ := C
  cases hD.symm.trans hD'
  obtain ⟨D2, kD, e1, e2, e3, e4, e5⟩ := E
  cases hD.symm.trans e1
  obtain ⟨c2, k2, i1, i2, i3, -⟩ := Cond.instantiable_spec wi
  cases e2.symm.trans i1
  cases e3.symm.trans i2
  obtain ⟨kU, u1, u2⟩ := al.2.2 _ _ e3
  exact ⟨D, fV, fC, ⟨hD, ⟨knV, fun q hq => by rw [hq] at obV; cases obV⟩, by rw [al.findClass]; exact e2, kU, u1, by rw [u2]; exact i3, by rw [u2]; exact e5 i3⟩, ⟨SBG.found_only al ⟨cfV, kV, iV, gV⟩, stV⟩, ⟨SBG.found_only al ⟨cfC, kC, iC, gC⟩, stC⟩, slV, slC, by simp [RoadKit.slotOf, gV], by simp [RoadKit.slotOf, gC]⟩
theorem sta_is {Z U : State} (al : Z.vm.Alike U.vm) {C n d : String} {v : Value} (S : RoadKit.Sta Z U.heap C n d v) : StaticIs U C n d v := by
  obtain ⟨cfS, iS, kS, fS, st, cS, t1, t2, t3, t4, t5, t6, t7⟩ := S
  exact StaticIs.there (s := { Z with heap := U.heap }) ⟨cfS, iS, kS, fS, st, cS, t1, t2, t3, t4, t5, (fun q => by rw [q] at t6; cases t6), t7⟩ al rfl
/-- **length() OF SUCH A STRING** -/
theorem lenW {p : Program} {l : Launch} {e : Env} {R : Room} {s : State} {args : Array Value} {below : List Frame} {len W : Nat} {Z : State} {a0 : Array Value} {h : Heap} (hZ : Z.Warmed39 s.vm) (hw : ∀ d ∈ wordsLen, d.before a0 Z = true) {kI : Nat} (wi : (Jvm.Cond.instantiable ST kI).before a0 Z = true)
    {x t : Addr} {kb : ClassId} {cs : List Int32} {cd N2 z : Int32} {vs : List Value} (E : RoadKit.Exa Z h x ST) (V : RoadKit.Fld Z h x ST "value" "[B" (.ref t)) (C : RoadKit.Fld Z h x ST "coder" "B" (.int cd)) (K : RoadKit.Arv Z h t kb .byte N2 vs (.int 0)) (hc : CodA cs cd N2 vs) (hb : ∀ c ∈ cs, ¬ c < 0 ∧ ¬ (65535 : Int32) < c)
    (S : RoadKit.Sta Z h ST "COMPACT_STRINGS" "Z" (.int z)) (hz : ¬ z = 0) (l2 : cs.length ≤ 4000) (hfr : 2 ≤ R.frames) (hlo : W + 25 ≤ R.locals) :
    Back l R p e below s args (⟨"java/lang/String", "length", "()I"⟩ : MethodName) len W (fun P a => a = #[.ref x] ∧ P.U.heap = h ∧ P.cells + 0 ≤ R.cells ∧ P.slots + 0 ≤ R.slots)
      (fun P _ v B => ∃ L, (v = some (.int (Int32.ofNat cs.length)) ∧ L = [] ∧ B.U.heap = h) ∧ B.locs = P.locs ++ L ∧ B.cells = P.cells + 0 ∧ B.slots = P.slots + 0) := by
  obtain ⟨A, K1, K2, K3, K4, K5, K6⟩ := K
  have hcod := hc.cod (by omega) K3 K5
  intro m meth c P g ig mk a X hg hsize hdg hW hn hp'
  obtain ⟨rfl, rfl, r1, r2⟩ := hp'
  have al : Z.vm.Alike P.U.vm := hZ.alike.trans X.warmed.alike
  obtain ⟨D, fV, fC, hB, F1, F2, g1, g2, -, -⟩ := strObj wi al E V C
  have hx : Txt x t A cd cs.length (fun j => cs.getD j 0) P.U := ⟨⟨_, hB.2.2.1, D, hB.1, rfl, by cases q : D.vm <;> first | rfl | exact absurd q (hB.2.1.2 _)⟩, Has.of hB F1 g1, Has.of hB F2 g2, ⟨K1.1, State.isArrayOf_alike al K1.2.1, K1.2.2, by rcases hcod with ⟨-, q, -⟩ | ⟨-, q, -⟩ <;> omega⟩, hcod, fun j hj => by
    have e : cs.getD j 0 = cs[j] := by simp [List.getD_eq_getElem?_getD, hj]
    show ¬ cs.getD j 0 < 0 ∧ ¬ 65535 < cs.getD j 0
    rw [e]; exact hb _ (List.getElem_mem _)⟩
  obtain ⟨v, B, X', ⟨⟨hv, hh⟩, hl, hk, hs⟩, st⟩ := Len.pays x t A cd cs.length (fun j => cs.getD j 0) z (tabLen_of (movedLen hZ hw)) hfr hlo m meth c P g ig mk _ X hg hsize hdg hW hn ⟨r1, r2, rfl, hx, sta_is al S, hz⟩
  exact ⟨v, B, X', ⟨[], ⟨hv, rfl, hh⟩, hl, hk, hs⟩, st⟩
end StrChars.Road
namespace StrChars
open Jvm Sem ClassFile Op Lib Jvm.Stand Jvm.Free.XT Jvm.Free.ALB Jvm.Free.JM Jvm.Free
open Jvm.Lib.Cold (StaticIs)
/-- what place i of a byte[]'s cell holds -/
def yv (A : Cell) (i : Nat) : Int32 := match A.slots[i]? with | some (.int x) => x | _ => 0
theorem yv_get {a : Addr} {A : Cell} {U : State} (h : XT.Arr .byte a A U) (ht : Typed .byte A) {i : Nat} (hi : i < A.slots.size) : A.slots[i]? = some (.int (yv A i)) := by
  have e := Array.getElem?_eq_getElem hi
  have f := ht i _ e
  unfold yv; rw [e]
  generalize A.slots[i] = v at f
  cases v <;> simp [fits] at f ⊢
/-- the two arrays are equal, place for place -/
def EqC (A B : Cell) : Prop := A.slots.size = B.slots.size ∧ ∀ i, i < A.slots.size → yv A i = yv B i
/-- a boolean that says whether p -/
def Says01 (q : Prop) (r : Option Value) (s u : State) : Prop := ∃ v : Int32, r = some (.int v) ∧ u.heap = s.heap ∧ ((v = 1 ∧ q) ∨ (v = 0 ∧ ¬ q))
theorem Says01.mv {q : Prop} : ∀ r (U U' V V' : State), U'.heap = U.heap → V.vm.Alike V'.vm → V'.heap = V.heap → Says01 q r U V → Says01 q r U' V' :=
  fun r U U' V V' h1 _ h2 ⟨v, a, b, c⟩ => ⟨v, a, by rw [h1, h2]; exact b, c⟩
namespace LEq
def yN : MethodName := ⟨"java/lang/StringLatin1", "equals", "([B[B)Z"⟩
abbrev yB : ByteArray := jdk_43_method_13_code
theorem d0 : decode yB 0 = .ok (.aload_n 0, 1) := by decide +kernel
theorem d1 : decode yB 1 = .ok (.arraylength, 1) := by decide +kernel
theorem d2 : decode yB 2 = .ok (.aload_n 1, 1) := by decide +kernel
theorem d3 : decode yB 3 = .ok (.arraylength, 1) := by decide +kernel
theorem d4 : decode yB 4 = .ok (.if_icmp (.ne) 30, 3) := by decide +kernel
theorem d7 : decode yB 7 = .ok (.iconst 0, 1) := by decide +kernel
theorem d8 : decode yB 8 = .ok (.istore_n 2, 1) := by decide +kernel
theorem d9 : decode yB 9 = .ok (.iload_n 2, 1) := by decide +kernel
theorem d10 : decode yB 10 = .ok (.aload_n 0, 1) := by decide +kernel
theorem d11 : decode yB 11 = .ok (.arraylength, 1) := by decide +kernel
theorem d12 : decode yB 12 = .ok (.if_icmp (.ge) 20, 3) := by decide +kernel
theorem d15 : decode yB 15 = .ok (.aload_n 0, 1) := by decide +kernel
theorem d16 : decode yB 16 = .ok (.iload_n 2, 1) := by decide +kernel
theorem d17 : decode yB 17 = .ok (.baload, 1) := by decide +kernel
theorem d18 : decode yB 18 = .ok (.aload_n 1, 1) := by decide +kernel
theorem d19 : decode yB 19 = .ok (.iload_n 2, 1) := by decide +kernel
theorem d20 : decode yB 20 = .ok (.baload, 1) := by decide +kernel
theorem d21 : decode yB 21 = .ok (.if_icmp (.eq) 5, 3) := by decide +kernel
theorem d24 : decode yB 24 = .ok (.iconst 0, 1) := by decide +kernel
theorem d25 : decode yB 25 = .ok (.ireturn, 1) := by decide +kernel
theorem d26 : decode yB 26 = .ok (.iinc 2 1, 3) := by decide +kernel
theorem d29 : decode yB 29 = .ok (.goto (-20), 3) := by decide +kernel
theorem d32 : decode yB 32 = .ok (.iconst 1, 1) := by decide +kernel
theorem d33 : decode yB 33 = .ok (.ireturn, 1) := by decide +kernel
theorem d34 : decode yB 34 = .ok (.iconst 0, 1) := by decide +kernel
theorem d35 : decode yB 35 = .ok (.ireturn, 1) := by decide +kernel
def site : List Cond := []
def tab : Cond := tabOf yN yB 3 (some .boolean) site
def P (a : Addr) (A : Cell) (b : Addr) (B : Cell) (args : Array Value) (s : State) : Prop := args = #[.ref a, .ref b] ∧ XT.Arr .byte a A s ∧ Typed .byte A ∧ XT.Arr .byte b B s ∧ Typed .byte B
/-- whether two byte[] are equal, place for place -/
theorem law (l : Launch) (a : Addr) (A : Cell) (b : Addr) (B : Cell) : Law l yN 2 2 0 0 yB 3 (some .boolean) site (P a A b B) (Says01 (EqC A B)) [] 0 0 := by
  refine Law.of_walk (plainFor_of_name (by decide +kernel)) (by decide +kernel) (by decide +kernel) (by decide) (fun _ _ h => by rw [h.1]; rfl) (fun _ U U' hal hh h => ⟨h.1, h.2.1.mv hal hh, h.2.2.1, h.2.2.2.1.mv hal hh, h.2.2.2.2⟩) (fun r U U' V V' h1 hal h2 h => Says01.mv r U U' V V' h1 hal h2 h) ?_
  intro p e s m args below meth c s₁ X0 hexec hbytes hml hret hlk hnm hown hh0 W hP
  obtain ⟨rfl, hA, tA, hB, tB⟩ := hP
  have a31 := hA.2.2.2
  have b31 := hB.2.2.2
  have hA0 := hA.mv X0.warmed.alike hh0
  have hB0 := hB.mv X0.warmed.alike hh0
  have c1 : Steps p.tables e below (s₁.setTop (entryFrame m #[.ref a, .ref b] 3)) (s₁.setTop (mkF m 0 #[.val (.ref a), .val (.ref b), .unset] [])) := entry rfl
  have c2 : Steps p.tables e below (s₁.setTop (entryFrame m #[.ref a, .ref b] 3)) (s₁.setTop (mkF m 4 #[.val (.ref a), .val (.ref b), .unset] [.int (Int32.ofNat B.slots.size), .int (Int32.ofNat A.slots.size)])) := c1.trans (by
    refine XS.aloadN X0.here hexec rfl (hb hbytes d0) rfl rfl ?_
    refine X0.alen hexec hA0 rfl rfl (hb hbytes d1) ?_
    refine XS.aloadN X0.here hexec rfl (hb hbytes d2) rfl rfl ?_
    refine X0.alen hexec hB0 rfl rfl (hb hbytes d3) ?_
    exact Steps.refl _)
  by_cases hs : A.slots.size = B.slots.size
  · have c3 : Steps p.tables e below (s₁.setTop (entryFrame m #[.ref a, .ref b] 3)) (s₁.setTop (mkF m 9 #[.val (.ref a), .val (.ref b), .val (.int 0)] [])) := c2.trans (by
      refine XS.icmpNo X0.here hexec rfl (hb hbytes d4) rfl (ii_ne_f (by rw [hs])) ?_
      refine iconstV X0.here hexec rfl 0 (hb hbytes d7) (by decide) ?_
      refine XS.istoreN X0.here hexec rfl (hb hbytes d8) rfl rfl ?_
      exact Steps.refl _)
    have loop : ∀ (r i : Nat), i + r = A.slots.size → (∀ j, j < i → yv A j = yv B j) → Steps p.tables e below (s₁.setTop (entryFrame m #[.ref a, .ref b] 3)) (s₁.setTop (mkF m 9 #[.val (.ref a), .val (.ref b), .val (.int (Int32.ofNat i))] [])) → ∃ (pc : Nat) (Ls : Array Slot) (v : Int32), (pc = 25 ∨ pc = 33) ∧ ((v = 1 ∧ EqC A B) ∨ (v = 0 ∧ ¬ EqC A B)) ∧ Steps p.tables e below (s₁.setTop (entryFrame m #[.ref a, .ref b] 3)) (s₁.setTop (mkF m pc Ls [.int v])) := by
      intro r
      induction r with
      | zero =>
        intro i hi he cl
        exact ⟨33, _, 1, Or.inr rfl, Or.inl ⟨rfl, hs, fun j hj => he j (by omega)⟩, cl.trans (by
          refine XS.iloadN X0.here hexec rfl (hb hbytes d9) rfl ?_
          refine XS.aloadN X0.here hexec rfl (hb hbytes d10) rfl rfl ?_
          refine X0.alen hexec hA0 rfl rfl (hb hbytes d11) ?_
          refine XS.icmpYes X0.here hexec rfl (pc0 := 12) rfl (hb hbytes d12) rfl (ii_ge_t (nlt32 (by omega) (by omega))) (by decide) rfl ?_
          refine iconstV X0.here hexec rfl 1 (hb hbytes d32) (by decide) ?_
          exact Steps.refl _)⟩
      | succ r ih =>
        intro i hi he cl
        have c4 : Steps p.tables e below (s₁.setTop (entryFrame m #[.ref a, .ref b] 3)) (s₁.setTop (mkF m 21 #[.val (.ref a), .val (.ref b), .val (.int (Int32.ofNat i))] [.int (yv B i), .int (yv A i)])) := cl.trans (by
          refine XS.iloadN X0.here hexec rfl (hb hbytes d9) rfl ?_
          refine XS.aloadN X0.here hexec rfl (hb hbytes d10) rfl rfl ?_
          refine X0.alen hexec hA0 rfl rfl (hb hbytes d11) ?_
          refine XS.icmpNo X0.here hexec rfl (hb hbytes d12) rfl (ii_ge_f (lt32 (by omega) (by omega))) ?_
          refine XS.aloadN X0.here hexec rfl (hb hbytes d15) rfl rfl ?_
          refine XS.iloadN X0.here hexec rfl (hb hbytes d16) rfl ?_
          refine X0.aget hexec hA0 rfl (yv_get hA tA (i := i) (by omega)) rfl rfl (hb hbytes d17) ?_
          refine XS.aloadN X0.here hexec rfl (hb hbytes d18) rfl rfl ?_
          refine XS.iloadN X0.here hexec rfl (hb hbytes d19) rfl ?_
          refine X0.aget hexec hB0 rfl (yv_get hB tB (i := i) (by omega)) rfl rfl (hb hbytes d20) ?_
          exact Steps.refl _)
        by_cases hv : yv A i = yv B i
        · have c5 : Steps p.tables e below (s₁.setTop (entryFrame m #[.ref a, .ref b] 3)) (s₁.setTop (mkF m 9 #[.val (.ref a), .val (.ref b), .val (.int (Int32.ofNat i + 1))] [])) := c4.trans (by
            refine XS.icmpYes X0.here hexec rfl (pc0 := 21) rfl (hb hbytes d21) rfl (ii_eq_t hv) (by decide) rfl ?_
            refine iincV X0.here hexec rfl 1 (hb hbytes d26) (by decide) rfl rfl ?_
            refine XS.goto X0.here hexec rfl (pc0 := 29) rfl (hb hbytes d29) (by decide) rfl ?_
            exact Steps.refl _)
          rw [succ32] at c5
          exact ih (i + 1) (by omega) (fun j hj => by
            by_cases e : j = i
            · rw [e]; exact hv
            · exact he j (by omega)) c5
        · exact ⟨25, _, 0, Or.inl rfl, Or.inr ⟨rfl, fun q => hv (q.2 i (by omega))⟩, c4.trans (by
            refine XS.icmpNo X0.here hexec rfl (hb hbytes d21) rfl (ii_eq_f hv) ?_
            refine iconstV X0.here hexec rfl 0 (hb hbytes d24) (by decide) ?_
            exact Steps.refl _)⟩
    obtain ⟨pc, Ls, v, hpc, hv, cz⟩ := loop A.slots.size 0 (by omega) (fun j hj => absurd hj (Nat.not_lt_zero j)) c3
    have nv : narrow .boolean (.int v) = .int v := by rcases hv with ⟨rfl, -⟩ | ⟨rfl, -⟩ <;> rfl
    rcases hpc with rfl | rfl
    · exact ⟨s₁, some (.int v), _, _, _, X0, rfl, rfl, rfl, (fun h => by cases h), ⟨v, rfl, hh0, hv⟩, fun fs hl => cz.trans (X0.ireturnOut hexec hret nv (Or.inr (Or.inl rfl)) (hb hbytes d25) hl)⟩
    · exact ⟨s₁, some (.int v), _, _, _, X0, rfl, rfl, rfl, (fun h => by cases h), ⟨v, rfl, hh0, hv⟩, fun fs hl => cz.trans (X0.ireturnOut hexec hret nv (Or.inr (Or.inl rfl)) (hb hbytes d33) hl)⟩
  · have c3 : Steps p.tables e below (s₁.setTop (entryFrame m #[.ref a, .ref b] 3)) (s₁.setTop (mkF m 35 #[.val (.ref a), .val (.ref b), .unset] [.int 0])) := c2.trans (by
      refine XS.icmpYes X0.here hexec rfl (pc0 := 4) rfl (hb hbytes d4) rfl (ii_ne_t (ne32 a31 b31 hs)) (by decide) rfl ?_
      refine iconstV X0.here hexec rfl 0 (hb hbytes d34) (by decide) ?_
      exact Steps.refl _)
    exact ⟨s₁, some (.int 0), _, _, _, X0, rfl, rfl, rfl, (fun h => by cases h), ⟨0, rfl, hh0, Or.inr ⟨rfl, fun q => hs q.1⟩⟩, fun fs hl => c3.trans (X0.ireturnOut hexec hret rfl (Or.inr (Or.inl rfl)) (hb hbytes d35) hl)⟩
end LEq
theorem Cod.ty {cd : Int32} {n : Nat} {f : Nat → Int32} {V : Cell} (h : Cod cd n f V) : Typed .byte V := fun i v hv => by
  have hi : i < V.slots.size := (Array.getElem?_eq_some_iff.mp hv).1
  rcases h with ⟨-, k1, k2⟩ | ⟨-, k1, k2, -⟩
  · rw [(k2 i (by omega)).1] at hv; cases hv; exact fits_lo8 _
  · rcases Nat.mod_two_eq_zero_or_one i with e | e
    · obtain ⟨j, rfl⟩ : ∃ j, i = 2 * j := ⟨i / 2, by omega⟩
      rw [(k2 j (by omega)).1] at hv; cases hv; exact fits_lo8 _
    · obtain ⟨j, rfl⟩ : ∃ j, i = 2 * j + 1 := ⟨i / 2, by omega⟩
      rw [(k2 j (by omega)).2] at hv; cases hv; exact fits_lo8 _
/-- the same text -/
def SameT (n : Nat) (f : Nat → Int32) (k : Nat) (g : Nat → Int32) : Prop := n = k ∧ ∀ j, j < n → f j = g j
theorem lo8_inj {x y : Int32} (h0 : ¬ x < 0) (h1 : ¬ 255 < x) (k0 : ¬ y < 0) (k1 : ¬ 255 < y) (h : lo8 x = lo8 y) : x = y := by
  rw [← lo8_mask h0 h1, ← lo8_mask k0 k1, h]
/-- arrays coded by one coder are equal just where the texts are -/
theorem Cod.eqv {cd : Int32} {n k : Nat} {f g : Nat → Int32} {V V' : Cell} (h : Cod cd n f V) (h' : Cod cd k g V') (hf : ∀ j, j < n → ¬ f j < 0 ∧ ¬ 65535 < f j) (hg : ∀ j, j < k → ¬ g j < 0 ∧ ¬ 65535 < g j) : EqC V V' ↔ SameT n f k g := by
  have yvv : ∀ {W : Cell} {i : Nat} {x : Int32}, W.slots[i]? = some (.int x) → yv W i = x := fun q => by unfold yv; rw [q]
  rcases h with ⟨rfl, k1, k2⟩ | ⟨rfl, k1, k2, -⟩
  · rcases h' with ⟨-, m1, m2⟩ | ⟨e, -⟩
    · constructor
      · rintro ⟨e1, e2⟩
        refine ⟨by omega, fun j hj => ?_⟩
        have q := e2 j (by omega)
        rw [yvv (k2 j hj).1, yvv (m2 j (by omega)).1] at q
        exact lo8_inj (hf j hj).1 (k2 j hj).2 (hg j (by omega)).1 (m2 j (by omega)).2 q
      · rintro ⟨rfl, e2⟩
        refine ⟨by omega, fun j hj => ?_⟩
        rw [yvv (k2 j (by omega)).1, yvv (m2 j (by omega)).1, e2 j (by omega)]
    · exact absurd e (by decide)
  · rcases h' with ⟨e, -⟩ | ⟨-, m1, m2, -⟩
    · exact absurd e (by decide)
    · constructor
      · rintro ⟨e1, e2⟩
        refine ⟨by omega, fun j hj => ?_⟩
        have q1 := e2 (2 * j) (by omega)
        have q2 := e2 (2 * j + 1) (by omega)
        rw [yvv (k2 j hj).1, yvv (m2 j (by omega)).1] at q1
        rw [yvv (k2 j hj).2, yvv (m2 j (by omega)).2] at q2
        rw [← pair_says (hf j hj).1 (hf j hj).2, ← pair_says (hg j (by omega)).1 (hg j (by omega)).2, q1, q2]
      · rintro ⟨rfl, e2⟩
        refine ⟨by omega, fun i hi => ?_⟩
        rcases Nat.mod_two_eq_zero_or_one i with e | e
        · obtain ⟨j, rfl⟩ : ∃ j, i = 2 * j := ⟨i / 2, by omega⟩
          rw [yvv (k2 j (by omega)).1, yvv (m2 j (by omega)).1, e2 j (by omega)]
        · obtain ⟨j, rfl⟩ : ∃ j, i = 2 * j + 1 := ⟨i / 2, by omega⟩
          rw [yvv (k2 j (by omega)).2, yvv (m2 j (by omega)).2, e2 j (by omega)]
/-- two codings differ: so do the texts -/
theorem Cod.dif {cd cd' : Int32} {n k : Nat} {f g : Nat → Int32} {V V' : Cell} (h : Cod cd n f V) (h' : Cod cd' k g V') (hne : ¬ cd = cd') : ¬ SameT n f k g := by
  rintro ⟨rfl, e⟩
  rcases h with ⟨rfl, -, k2⟩ | ⟨rfl, -, -, j, hj, hw⟩
  · rcases h' with ⟨rfl, -⟩ | ⟨-, -, -, j, hj, hw⟩
    · exact hne rfl
    · exact (k2 j hj).2 (by rw [e j hj]; exact hw)
  · rcases h' with ⟨-, -, m2⟩ | ⟨rfl, -⟩
    · exact (m2 j hj).2 (by rw [← e j hj]; exact hw)
    · exact hne rfl
/-- an object of exactly C is an instance of C -/
theorem cinst {p : Program} {l : Launch} {e : Env} {R : Room} {s : State} {m : MethodId} {args : Array Value} {below : List Frame} {meth : Method} {c : Code} {T : State} {locs : List Loc} {cells slots : Nat} (X : Stand p l e R s m args below meth c T locs cells slots) (hexec : p.tables.exec = Jvm.exec) {own C : String} {index : Nat} (hown : s.vm.findClass own = some m.cls) (hlink : (Cond.classLink own index C).before args s = true) {a : Addr} (hE : Exact C a T)
    {g : JFrame} (hg : g.method = m) {rest : List Value} (hstack : g.stack = .ref a :: rest) (hdg : decode c.code g.pc = .ok (.instanceof index, 3)) :
    ∃ T', Stand p l e R s m args below meth c T' locs cells slots ∧ T'.heap = T.heap ∧ ∀ target, Steps p.tables e below (T'.setTop { g with pc := g.pc + 3, stack := .int 1 :: rest }) target → Steps p.tables e below (T.setTop g) target := by
  obtain ⟨cB, h1, D, h2, h3, h4⟩ := hE
  have h1' : s.vm.findClass C = some cB := by rw [← X.warmed.alike.findClass]; exact h1
  obtain ⟨vm', X', st⟩ := X.instanceofYes hexec hown hlink h2 h4 h1' (by rw [h3]; exact Jvm.Free.SB.assignable_self _ _) hg hstack hdg
  exact ⟨_, X', rfl, st⟩
theorem cself {p : Program} {l : Launch} {e : Env} {R : Room} {s : State} {m : MethodId} {args : Array Value} {below : List Frame} {meth : Method} {c : Code} {T : State} {locs : List Loc} {cells slots : Nat} (X : Stand p l e R s m args below meth c T locs cells slots) (hexec : p.tables.exec = Jvm.exec) {own C : String} {index : Nat} (hown : s.vm.findClass own = some m.cls) (hlink : (Cond.classLink own index C).before args s = true) {a : Addr} (hE : Exact C a T)
    {g : JFrame} (hg : g.method = m) {rest : List Value} (hstack : g.stack = .ref a :: rest) (hdg : decode c.code g.pc = .ok (.checkcast index, 3)) :
    ∃ T', Stand p l e R s m args below meth c T' locs cells slots ∧ T'.heap = T.heap ∧ ∀ target, Steps p.tables e below (T'.setTop { g with pc := g.pc + 3, stack := .ref a :: rest }) target → Steps p.tables e below (T.setTop g) target := by
  obtain ⟨cB, h1, D, h2, h3, h4⟩ := hE
  have h1' : s.vm.findClass C = some cB := by rw [← X.warmed.alike.findClass]; exact h1
  obtain ⟨vm', X', st⟩ := X.checkcastYes hexec hown hlink h2 h4 h1' (by rw [h3]; exact Jvm.Free.SB.assignable_self _ _) hg hstack hdg
  exact ⟨_, X', rfl, fun t h => st t (by rw [← hstack] at h; exact h)⟩
namespace SEq
def yN : MethodName := ⟨"java/lang/String", "equals", "(Ljava/lang/Object;)Z"⟩
abbrev yB : ByteArray := jdk_42_method_66_code
theorem d0 : decode yB 0 = .ok (.aload_n 0, 1) := by decide +kernel
theorem d1 : decode yB 1 = .ok (.aload_n 1, 1) := by decide +kernel
theorem d2 : decode yB 2 = .ok (.if_acmp (.ne) 5, 3) := by decide +kernel
theorem d5 : decode yB 5 = .ok (.iconst 1, 1) := by decide +kernel
theorem d6 : decode yB 6 = .ok (.ireturn, 1) := by decide +kernel
theorem d7 : decode yB 7 = .ok (.aload_n 1, 1) := by decide +kernel
theorem d8 : decode yB 8 = .ok (.instanceof 10, 3) := by decide +kernel
theorem d11 : decode yB 11 = .ok (.ifCond (.eq) 43, 3) := by decide +kernel
theorem d14 : decode yB 14 = .ok (.aload_n 1, 1) := by decide +kernel
theorem d15 : decode yB 15 = .ok (.checkcast 10, 3) := by decide +kernel
theorem d18 : decode yB 18 = .ok (.astore_n 2, 1) := by decide +kernel
theorem d19 : decode yB 19 = .ok (.getstatic 38, 3) := by decide +kernel
theorem d22 : decode yB 22 = .ok (.ifCond (.eq) 14, 3) := by decide +kernel
theorem d25 : decode yB 25 = .ok (.aload_n 0, 1) := by decide +kernel
theorem d26 : decode yB 26 = .ok (.getfield 15, 3) := by decide +kernel
theorem d29 : decode yB 29 = .ok (.aload_n 2, 1) := by decide +kernel
theorem d30 : decode yB 30 = .ok (.getfield 15, 3) := by decide +kernel
theorem d33 : decode yB 33 = .ok (.if_icmp (.ne) 21, 3) := by decide +kernel
theorem d36 : decode yB 36 = .ok (.aload_n 0, 1) := by decide +kernel
theorem d37 : decode yB 37 = .ok (.getfield 9, 3) := by decide +kernel
theorem d40 : decode yB 40 = .ok (.aload_n 2, 1) := by decide +kernel
theorem d41 : decode yB 41 = .ok (.getfield 9, 3) := by decide +kernel
theorem d44 : decode yB 44 = .ok (.invokestatic 541, 3) := by decide +kernel
theorem d47 : decode yB 47 = .ok (.ifCond (.eq) 7, 3) := by decide +kernel
theorem d50 : decode yB 50 = .ok (.iconst 1, 1) := by decide +kernel
theorem d51 : decode yB 51 = .ok (.goto 4, 3) := by decide +kernel
theorem d54 : decode yB 54 = .ok (.iconst 0, 1) := by decide +kernel
theorem d55 : decode yB 55 = .ok (.ireturn, 1) := by decide +kernel
def site : List Cond := [.classLink "java/lang/String" 10 "java/lang/String", .fieldLink "java/lang/String" 38 "java/lang/String" "COMPACT_STRINGS" "Z", .fieldLink "java/lang/String" 15 "java/lang/String" "coder" "B", .fieldLink "java/lang/String" 9 "java/lang/String" "value" "[B", LEq.tab] ++ staticW "java/lang/String" 541 LEq.yN
def tab : Cond := tabOf yN yB 3 (some .boolean) site
def P (x t : Addr) (V : Cell) (cd : Int32) (n : Nat) (f : Nat → Int32) (y t' : Addr) (V' : Cell) (cd' : Int32) (k : Nat) (g : Nat → Int32) (z : Int32) (args : Array Value) (s : State) : Prop := args = #[.ref x, .ref y] ∧ Txt x t V cd n f s ∧ Txt y t' V' cd' k g s ∧ StaticIs s "java/lang/String" "COMPACT_STRINGS" "Z" (.int z) ∧ ¬ z = 0
/-- equals(Object) of two Strings: whether the texts are the same -/
theorem law (l : Launch) (x t : Addr) (V : Cell) (cd : Int32) (n : Nat) (f : Nat → Int32) (y t' : Addr) (V' : Cell) (cd' : Int32) (k : Nat) (g : Nat → Int32) (z : Int32) : Law l yN 2 1 1 14 yB 3 (some .boolean) site (P x t V cd n f y t' V' cd' k g z) (Says01 (SameT n f k g)) [] 0 0 := by
  refine Law.of_walk (plainFor_of_name (by decide +kernel)) (by decide +kernel) (by decide +kernel) (by decide) (fun _ _ h => by rw [h.1]; rfl) (fun _ U U' hal hh h => ⟨h.1, h.2.1.mv hal hh, h.2.2.1.mv hal hh, h.2.2.2.1.there hal hh, h.2.2.2.2⟩) (fun r U U' V V' h1 hal h2 h => Says01.mv r U U' V V' h1 hal h2 h) ?_
  intro p e s m args below meth c s₁ X0 hexec hbytes hml hret hlk hnm hown hh0 W hP
  obtain ⟨rfl, hx, hy, s1, hz⟩ := hP
  have c1 : Steps p.tables e below (s₁.setTop (entryFrame m #[.ref x, .ref y] 3)) (s₁.setTop (mkF m 2 #[.val (.ref x), .val (.ref y), .unset] [.ref y, .ref x])) := Steps.trans (entry rfl) (by
    show Steps p.tables e below (s₁.setTop (mkF m 0 #[.val (.ref x), .val (.ref y), .unset] [])) _
    refine XS.aloadN X0.here hexec rfl (hb hbytes d0) rfl rfl ?_
    refine XS.aloadN X0.here hexec rfl (hb hbytes d1) rfl rfl ?_
    exact Steps.refl _)
  by_cases hxy : x = y
  · have c2 : Steps p.tables e below (s₁.setTop (entryFrame m #[.ref x, .ref y] 3)) (s₁.setTop (mkF m 6 #[.val (.ref x), .val (.ref y), .unset] [.int 1])) := c1.trans (by
      refine acmpNo X0.here hexec rfl (hb hbytes d2) rfl rfl rfl (by simp [acmp, hxy]) ?_
      refine iconstV X0.here hexec rfl 1 (hb hbytes d5) (by decide) ?_
      exact Steps.refl _)
    subst hxy
    have ec : cd = cd' := by
      obtain ⟨D, fd, a1, a2, a3⟩ := hx.2.2.1
      obtain ⟨D', fd', b1, b2, b3⟩ := hy.2.2.1
      cases a1.symm.trans b1
      obtain ⟨q1, q2, q3, q4⟩ := a2.1
      obtain ⟨r1, r2, r3, r4⟩ := b2.1
      cases q4.symm.trans r4
      cases a3.symm.trans b3; rfl
    have et : t = t' := by
      obtain ⟨D, fd, a1, a2, a3⟩ := hx.2.1
      obtain ⟨D', fd', b1, b2, b3⟩ := hy.2.1
      cases a1.symm.trans b1
      obtain ⟨q1, q2, q3, q4⟩ := a2.1
      obtain ⟨r1, r2, r3, r4⟩ := b2.1
      cases q4.symm.trans r4
      cases a3.symm.trans b3; rfl
    subst ec et
    have ev : V = V' := by cases hx.2.2.2.1.1.symm.trans hy.2.2.2.1.1; rfl
    subst ev
    have hs : SameT n f k g := (Cod.eqv hx.2.2.2.2.1 hy.2.2.2.2.1 hx.2.2.2.2.2 hy.2.2.2.2.2).mp ⟨rfl, fun _ _ => rfl⟩
    exact ⟨s₁, some (.int 1), _, _, _, X0, rfl, rfl, rfl, (fun h => by cases h), ⟨1, rfl, hh0, Or.inl ⟨rfl, hs⟩⟩, fun fs hl => c2.trans (X0.ireturnOut hexec hret rfl (Or.inr (Or.inl rfl)) (hb hbytes d6) hl)⟩
  · have c2 : Steps p.tables e below (s₁.setTop (entryFrame m #[.ref x, .ref y] 3)) (s₁.setTop (mkF m 8 #[.val (.ref x), .val (.ref y), .unset] [.ref y])) := c1.trans (by
      refine acmpYes X0.here hexec rfl (pc0 := 2) rfl (hb hbytes d2) rfl rfl rfl (by simp [acmp, hxy]) (by decide) rfl ?_
      refine XS.aloadN X0.here hexec rfl (hb hbytes d7) rfl rfl ?_
      exact Steps.refl _)
    obtain ⟨T3, X3, q3, st3⟩ := cinst X0 hexec hown (wk W (.classLink "java/lang/String" 10 "java/lang/String")) (hy.mv X0.warmed.alike hh0).1 (g := (mkF m 8 #[.val (.ref x), .val (.ref y), .unset] [.ref y])) rfl (rest := []) rfl (hb hbytes d8)
    have hh3 := q3.trans hh0
    have c4 : Steps p.tables e below (s₁.setTop (entryFrame m #[.ref x, .ref y] 3)) (T3.setTop (mkF m 15 #[.val (.ref x), .val (.ref y), .unset] [.ref y])) := (c2.trans (st3 _ (Steps.refl _))).trans (by
      refine XS.ifNo X3.here hexec rfl (hb hbytes d11) rfl (i0_eq_f (by decide)) ?_
      refine XS.aloadN X3.here hexec rfl (hb hbytes d14) rfl rfl ?_
      exact Steps.refl _)
    obtain ⟨T5, X5, q5, st5⟩ := cself X3 hexec hown (wk W (.classLink "java/lang/String" 10 "java/lang/String")) (hy.mv X3.warmed.alike hh3).1 (g := (mkF m 15 #[.val (.ref x), .val (.ref y), .unset] [.ref y])) rfl (rest := []) rfl (hb hbytes d15)
    have hh5 := q5.trans hh3
    have c6 : Steps p.tables e below (s₁.setTop (entryFrame m #[.ref x, .ref y] 3)) (T5.setTop (mkF m 19 #[.val (.ref x), .val (.ref y), .val (.ref y)] [])) := (c4.trans (st5 _ (Steps.refl _))).trans (by
      refine XS.astoreN X5.here hexec rfl (hb hbytes d18) rfl rfl rfl ?_
      exact Steps.refl _)
    obtain ⟨T7, X7, q7, st7⟩ := X5.sget hexec hown (wk W (.fieldLink "java/lang/String" 38 "java/lang/String" "COMPACT_STRINGS" "Z")) s1 (fun _ _ h => by rw [hh5]; exact h) (g := (mkF m 19 #[.val (.ref x), .val (.ref y), .val (.ref y)] [])) rfl (hb hbytes d19)
    have hh7 := q7.trans hh5
    have c8 : Steps p.tables e below (s₁.setTop (entryFrame m #[.ref x, .ref y] 3)) (T7.setTop (mkF m 26 #[.val (.ref x), .val (.ref y), .val (.ref y)] [.ref x])) := (c6.trans (st7 _ (Steps.refl _))).trans (by
      refine XS.ifNo X7.here hexec rfl (hb hbytes d22) rfl (i0_eq_f hz) ?_
      refine XS.aloadN X7.here hexec rfl (hb hbytes d25) rfl rfl ?_
      exact Steps.refl _)
    obtain ⟨T9, X9, q9, st9⟩ := X7.hget hexec hown (wk W (.fieldLink "java/lang/String" 15 "java/lang/String" "coder" "B")) (hx.mv X7.warmed.alike hh7).2.2.1 (g := (mkF m 26 #[.val (.ref x), .val (.ref y), .val (.ref y)] [.ref x])) rfl (rest := []) rfl (hb hbytes d26)
    have hh9 := q9.trans hh7
    have c10 : Steps p.tables e below (s₁.setTop (entryFrame m #[.ref x, .ref y] 3)) (T9.setTop (mkF m 30 #[.val (.ref x), .val (.ref y), .val (.ref y)] [.ref y, .int cd])) := (c8.trans (st9 _ (Steps.refl _))).trans (by
      refine XS.aloadN X9.here hexec rfl (hb hbytes d29) rfl rfl ?_
      exact Steps.refl _)
    obtain ⟨T11, X11, q11, st11⟩ := X9.hget hexec hown (wk W (.fieldLink "java/lang/String" 15 "java/lang/String" "coder" "B")) (hy.mv X9.warmed.alike hh9).2.2.1 (g := (mkF m 30 #[.val (.ref x), .val (.ref y), .val (.ref y)] [.ref y, .int cd])) rfl (rest := [.int cd]) rfl (hb hbytes d30)
    have hh11 := q11.trans hh9
    have c12 : Steps p.tables e below (s₁.setTop (entryFrame m #[.ref x, .ref y] 3)) (T11.setTop (mkF m 33 #[.val (.ref x), .val (.ref y), .val (.ref y)] [.int cd', .int cd])) := c10.trans (st11 _ (Steps.refl _))
    by_cases hcd : cd = cd'
    · subst hcd
      have c13 : Steps p.tables e below (s₁.setTop (entryFrame m #[.ref x, .ref y] 3)) (T11.setTop (mkF m 37 #[.val (.ref x), .val (.ref y), .val (.ref y)] [.ref x])) := c12.trans (by
        refine XS.icmpNo X11.here hexec rfl (hb hbytes d33) rfl (ii_ne_f rfl) ?_
        refine XS.aloadN X11.here hexec rfl (hb hbytes d36) rfl rfl ?_
        exact Steps.refl _)
      obtain ⟨T14, X14, q14, st14⟩ := X11.hget hexec hown (wk W (.fieldLink "java/lang/String" 9 "java/lang/String" "value" "[B")) (hx.mv X11.warmed.alike hh11).2.1 (g := (mkF m 37 #[.val (.ref x), .val (.ref y), .val (.ref y)] [.ref x])) rfl (rest := []) rfl (hb hbytes d37)
      have hh14 := q14.trans hh11
      have c15 : Steps p.tables e below (s₁.setTop (entryFrame m #[.ref x, .ref y] 3)) (T14.setTop (mkF m 41 #[.val (.ref x), .val (.ref y), .val (.ref y)] [.ref y, .ref t])) := (c13.trans (st14 _ (Steps.refl _))).trans (by
        refine XS.aloadN X14.here hexec rfl (hb hbytes d40) rfl rfl ?_
        exact Steps.refl _)
      obtain ⟨T16, X16, q16, st16⟩ := X14.hget hexec hown (wk W (.fieldLink "java/lang/String" 9 "java/lang/String" "value" "[B")) (hy.mv X14.warmed.alike hh14).2.1 (g := (mkF m 41 #[.val (.ref x), .val (.ref y), .val (.ref y)] [.ref y, .ref t])) rfl (rest := [.ref t]) rfl (hb hbytes d41)
      have hh16 := q16.trans hh14
      have c17 : Steps p.tables e below (s₁.setTop (entryFrame m #[.ref x, .ref y] 3)) (T16.setTop (mkF m 44 #[.val (.ref x), .val (.ref y), .val (.ref y)] [.ref t', .ref t])) := c15.trans (st16 _ (Steps.refl _))
      obtain ⟨v18, T18, X18, E18, g18⟩ := X16.callS hexec (LEq.law l t V t' V') hown (wks W (staticW "java/lang/String" 541 LEq.yN)) (wk W LEq.tab) (W := 0) (Nat.le_of_ble_eq_true rfl) (Nat.le_of_ble_eq_true rfl) (Nat.le_refl _) (Nat.le_refl _) (g := (mkF m 44 #[.val (.ref x), .val (.ref y), .val (.ref y)] [.ref t', .ref t])) rfl (by rw [hml]; rfl) c17 (argsL := [.ref t, .ref t']) (rest := []) rfl rfl (by show 2 * 0 + 0 ≤ _; decide) (hb hbytes d44) (⟨rfl, hx.2.2.2.1.mv X16.warmed.alike hh16, hx.2.2.2.2.1.ty, hy.2.2.2.1.mv X16.warmed.alike hh16, hy.2.2.2.2.1.ty⟩)
      obtain ⟨v, rfl, q18, hv⟩ := E18
      have iff := Cod.eqv hx.2.2.2.2.1 hy.2.2.2.2.1 hx.2.2.2.2.2 hy.2.2.2.2.2
      rcases hv with ⟨rfl, he⟩ | ⟨rfl, he⟩
      · have c19 : Steps p.tables e below (s₁.setTop (entryFrame m #[.ref x, .ref y] 3)) (T18.setTop (mkF m 55 #[.val (.ref x), .val (.ref y), .val (.ref y)] [.int 1])) := Steps.trans g18 (by
          refine XS.ifNo X18.here hexec rfl (hb hbytes d47) rfl (i0_eq_f (by decide)) ?_
          refine iconstV X18.here hexec rfl 1 (hb hbytes d50) (by decide) ?_
          refine XS.goto X18.here hexec rfl (pc0 := 51) rfl (hb hbytes d51) (by decide) rfl ?_
          exact Steps.refl _)
        exact ⟨T18, some (.int 1), _, _, _, X18, rfl, rfl, rfl, (fun h => by cases h), ⟨1, rfl, q18.trans hh16, Or.inl ⟨rfl, iff.mp he⟩⟩, fun fs hl => c19.trans (X18.ireturnOut hexec hret rfl (Or.inr (Or.inl rfl)) (hb hbytes d55) hl)⟩
      · have c19 : Steps p.tables e below (s₁.setTop (entryFrame m #[.ref x, .ref y] 3)) (T18.setTop (mkF m 55 #[.val (.ref x), .val (.ref y), .val (.ref y)] [.int 0])) := Steps.trans g18 (by
          refine XS.ifYes X18.here hexec rfl (pc0 := 47) rfl (hb hbytes d47) rfl (i0_eq_t rfl) (by decide) rfl ?_
          refine iconstV X18.here hexec rfl 0 (hb hbytes d54) (by decide) ?_
          exact Steps.refl _)
        exact ⟨T18, some (.int 0), _, _, _, X18, rfl, rfl, rfl, (fun h => by cases h), ⟨0, rfl, q18.trans hh16, Or.inr ⟨rfl, fun q => he (iff.mpr q)⟩⟩, fun fs hl => c19.trans (X18.ireturnOut hexec hret rfl (Or.inr (Or.inl rfl)) (hb hbytes d55) hl)⟩
    · have c13 : Steps p.tables e below (s₁.setTop (entryFrame m #[.ref x, .ref y] 3)) (T11.setTop (mkF m 55 #[.val (.ref x), .val (.ref y), .val (.ref y)] [.int 0])) := c12.trans (by
        refine XS.icmpYes X11.here hexec rfl (pc0 := 33) rfl (hb hbytes d33) rfl (ii_ne_t hcd) (by decide) rfl ?_
        refine iconstV X11.here hexec rfl 0 (hb hbytes d54) (by decide) ?_
        exact Steps.refl _)
      exact ⟨T11, some (.int 0), _, _, _, X11, rfl, rfl, rfl, (fun h => by cases h), ⟨0, rfl, hh11, Or.inr ⟨rfl, Cod.dif hx.2.2.2.2.1 hy.2.2.2.2.1 hcd⟩⟩, fun fs hl => c13.trans (X11.ireturnOut hexec hret rfl (Or.inr (Or.inl rfl)) (hb hbytes d55) hl)⟩
theorem pays {l : Launch} {R : Room} {p : Program} {e : Env} {below : List Frame} {s : State} {sargs : Array Value} {len W : Nat} (x t : Addr) (V : Cell) (cd : Int32) (n : Nat) (f : Nat → Int32) (y t' : Addr) (V' : Cell) (cd' : Int32) (k : Nat) (g : Nat → Int32) (z : Int32) (htab : tab.before sargs s = true) (hfr : 2 ≤ R.frames) (hlo : W + 28 ≤ R.locals) :
    Back l R p e below s sargs yN len W (fun A₁ a₁ => A₁.cells + 0 ≤ R.cells ∧ A₁.slots + 0 ≤ R.slots ∧ P x t V cd n f y t' V' cd' k g z a₁ A₁.U) (fun A₁ _ v₁ B₁ => Says01 (SameT n f k g) v₁ A₁.U B₁.U ∧ B₁.locs = A₁.locs ++ [] ∧ B₁.cells = A₁.cells + 0 ∧ B₁.slots = A₁.slots + 0) :=
  (law l x t V cd n f y t' V' cd' k g z).pays htab hfr (by omega)
end SEq
end StrChars
namespace StrChars.Road
open Jvm Sem ClassFile Op Lib Jvm.Stand Jvm.Free Jvm.Free.XT
open Jvm.Lib.Cold (StaticIs)
/-- the words of String.equals(Object) -/
abbrev wordsEq : List Jvm.Cond := [.code SEq.yN SEq.yB 3 (some .boolean), .initialized ST, .classLink ST 10 ST, .fieldLink ST 38 ST "COMPACT_STRINGS" "Z", .fieldLink ST 15 ST "coder" "B", .fieldLink ST 9 ST "value" "[B", .methodLink ST 541 LEq.yN, .static LEq.yN, .code LEq.yN LEq.yB 3 (some .boolean), .initialized "java/lang/StringLatin1"]
theorem tabEq_of {a : Array Value} {s : State} (h : ∀ w ∈ wordsEq, w.before a s = true) : SEq.tab.before a s = true := by
  have hl : LEq.tab.before a s = true := unparts (wk h (.code LEq.yN LEq.yB 3 (some .boolean))) (wks h (.initialized LEq.yN.cls :: LEq.site))
  have q := consq hl h
  exact unparts (wk q (.code SEq.yN SEq.yB 3 (some .boolean))) (wks q (.initialized SEq.yN.cls :: SEq.site))
theorem movedEq {Z s : State} {a0 args : Array Value} (hZ : Z.Warmed39 s.vm) (hw : ∀ d ∈ wordsEq, d.before a0 Z = true) : ∀ d ∈ wordsEq, d.before args s = true := fun d hd => by
  have t : ∀ d ∈ wordsEq, (d.onTables && d.keepsFace) = true := by decide +kernel
  exact RoadKit.mv hZ (hw d hd) (t d hd)
/-- the road's facts of a String, as the laws ask it -/
theorem txt_of {Z U : State} {a0 : Array Value} {kI : Nat} (wi : (Jvm.Cond.instantiable ST kI).before a0 Z = true) (al : Z.vm.Alike U.vm) {x t : Addr} {kb : ClassId} {cs : List Int32} {cd N2 : Int32} {vs : List Value} (E : RoadKit.Exa Z U.heap x ST) (V : RoadKit.Fld Z U.heap x ST "value" "[B" (.ref t)) (C : RoadKit.Fld Z U.heap x ST "coder" "B" (.int cd)) (K : RoadKit.Arv Z U.heap t kb .byte N2 vs (.int 0)) (hc : CodA cs cd N2 vs) (hb : ∀ c ∈ cs, ¬ c < 0 ∧ ¬ (65535 : Int32) < c) (l2 : cs.length ≤ 4000) :
    ∃ A, Txt x t A cd cs.length (fun j => cs.getD j 0) U := by
  obtain ⟨A, K1, K2, K3, K4, K5, K6⟩ := K
  have hcod := hc.cod (by omega) K3 K5
  obtain ⟨D, fV, fC, hB, F1, F2, g1, g2, -, -⟩ := strObj wi al E V C
  exact ⟨A, ⟨_, hB.2.2.1, D, hB.1, rfl, by cases q : D.vm <;> first | rfl | exact absurd q (hB.2.1.2 _)⟩, Has.of hB F1 g1, Has.of hB F2 g2, ⟨K1.1, State.isArrayOf_alike al K1.2.1, K1.2.2, by rcases hcod with ⟨-, q, -⟩ | ⟨-, q, -⟩ <;> omega⟩, hcod, fun j hj => by
    have e : cs.getD j 0 = cs[j] := by simp [List.getD_eq_getElem?_getD, hj]
    show ¬ cs.getD j 0 < 0 ∧ ¬ 65535 < cs.getD j 0
    rw [e]; exact hb _ (List.getElem_mem _)⟩
theorem same_list (cs ds : List Int32) : SameT cs.length (fun j => cs.getD j 0) ds.length (fun j => ds.getD j 0) ↔ cs = ds := by
  constructor
  · rintro ⟨e, q⟩
    refine List.ext_getElem e fun j h1 h2 => ?_
    have := q j h1
    simpa [List.getD_eq_getElem?_getD, h1, h2] using this
  · rintro rfl
    exact ⟨rfl, fun _ _ => rfl⟩
/-- **equals(Object) OF TWO SUCH STRINGS**: 1 just where the chars are the same -/
theorem eqW {p : Program} {l : Launch} {e : Env} {R : Room} {s : State} {args : Array Value} {below : List Frame} {len W : Nat} {Z : State} {a0 : Array Value} {h : Heap} (hZ : Z.Warmed39 s.vm) (hw : ∀ d ∈ wordsEq, d.before a0 Z = true) {kI : Nat} (wi : (Jvm.Cond.instantiable ST kI).before a0 Z = true)
    {x t : Addr} {kb : ClassId} {cs : List Int32} {cd N2 : Int32} {vs : List Value} (E : RoadKit.Exa Z h x ST) (V : RoadKit.Fld Z h x ST "value" "[B" (.ref t)) (C : RoadKit.Fld Z h x ST "coder" "B" (.int cd)) (K : RoadKit.Arv Z h t kb .byte N2 vs (.int 0)) (hc : CodA cs cd N2 vs) (hb : ∀ c ∈ cs, ¬ c < 0 ∧ ¬ (65535 : Int32) < c) (l2 : cs.length ≤ 4000)
    {y t' : Addr} {kb' : ClassId} {ds : List Int32} {cd' N2' : Int32} {vs' : List Value} (E' : RoadKit.Exa Z h y ST) (V' : RoadKit.Fld Z h y ST "value" "[B" (.ref t')) (C' : RoadKit.Fld Z h y ST "coder" "B" (.int cd')) (K' : RoadKit.Arv Z h t' kb' .byte N2' vs' (.int 0)) (hc' : CodA ds cd' N2' vs') (hb' : ∀ c ∈ ds, ¬ c < 0 ∧ ¬ (65535 : Int32) < c) (l2' : ds.length ≤ 4000)
    {z : Int32} (S : RoadKit.Sta Z h ST "COMPACT_STRINGS" "Z" (.int z)) (hz : ¬ z = 0) (hfr : 2 ≤ R.frames) (hlo : W + 28 ≤ R.locals) :
    Back l R p e below s args (⟨"java/lang/String", "equals", "(Ljava/lang/Object;)Z"⟩ : MethodName) len W (fun P a => a = #[.ref x, .ref y] ∧ P.U.heap = h ∧ P.cells + 0 ≤ R.cells ∧ P.slots + 0 ≤ R.slots)
      (fun P _ v B => ∃ L, (((v = some (.int 1) ∧ cs = ds) ∨ (v = some (.int 0) ∧ ¬ cs = ds)) ∧ L = [] ∧ B.U.heap = h) ∧ B.locs = P.locs ++ L ∧ B.cells = P.cells + 0 ∧ B.slots = P.slots + 0) := by
  intro m meth c P g ig mk a X hg hsize hdg hW hn hp'
  obtain ⟨rfl, rfl, r1, r2⟩ := hp'
  have al : Z.vm.Alike P.U.vm := hZ.alike.trans X.warmed.alike
  obtain ⟨A, hx⟩ := txt_of wi al E V C K hc hb l2
  obtain ⟨A', hy⟩ := txt_of wi al E' V' C' K' hc' hb' l2'
  obtain ⟨v, B, X', ⟨⟨w, hv, hh, hq⟩, hl, hk, hs⟩, st⟩ := SEq.pays x t A cd cs.length (fun j => cs.getD j 0) y t' A' cd' ds.length (fun j => ds.getD j 0) z (tabEq_of (movedEq hZ hw)) hfr hlo m meth c P g ig mk _ X hg hsize hdg hW hn ⟨r1, r2, rfl, hx, hy, sta_is al S, hz⟩
  refine ⟨v, B, X', ⟨[], ⟨?_, rfl, hh⟩, hl, hk, hs⟩, st⟩
  rcases hq with ⟨rfl, q⟩ | ⟨rfl, q⟩
  · exact Or.inl ⟨hv, (same_list cs ds).mp q⟩
  · exact Or.inr ⟨hv, fun e => q ((same_list cs ds).mpr e)⟩
end StrChars.Road
namespace StrChars
open Jvm Sem ClassFile Op Lib Jvm.Stand Jvm.Free.XT Jvm.Free.ALB Jvm.Free.JM Jvm.Free
open Jvm.Lib.Cold (StaticIs)
namespace ChN
def yN : MethodName := ⟨"java/lang/String", "charAt", "(I)C"⟩
abbrev yB : ByteArray := jdk_42_method_56_code
theorem d0 : decode yB 0 = .ok (.aload_n 0, 1) := by decide +kernel
theorem d1 : decode yB 1 = .ok (.invokevirtual 492, 3) := by decide +kernel
theorem d4 : decode yB 4 = .ok (.ifCond (.eq) 12, 3) := by decide +kernel
theorem d7 : decode yB 7 = .ok (.aload_n 0, 1) := by decide +kernel
theorem d8 : decode yB 8 = .ok (.getfield 9, 3) := by decide +kernel
theorem d11 : decode yB 11 = .ok (.iload_n 1, 1) := by decide +kernel
theorem d12 : decode yB 12 = .ok (.invokestatic 495, 3) := by decide +kernel
theorem d15 : decode yB 15 = .ok (.ireturn, 1) := by decide +kernel
def site : List Cond := [.fieldLink "java/lang/String" 9 "java/lang/String" "value" "[B", IsL.tab, LChA.tab] ++ virtW "java/lang/String" 492 "java/lang/String" IsL.yN IsL.yN ++ staticW "java/lang/String" 495 LChA.yN
def tab : Cond := tabOf yN yB 2 (some .char) site
def P (x t : Addr) (V : Cell) (n : Nat) (f : Nat → Int32) (z : Int32) (fm : Value) (i : Nat) (args : Array Value) (s : State) : Prop := args = #[.ref x, .int (Int32.ofNat i)] ∧ Txt x t V 0 n f s ∧ i < n ∧ StaticIs s "java/lang/String" "COMPACT_STRINGS" "Z" (.int z) ∧ ¬ z = 0 ∧ StaticIs s "jdk/internal/util/Preconditions" "SIOOBE_FORMATTER" "Ljava/util/function/BiFunction;" fm ∧ fm.isRef = true
def E (f : Nat → Int32) (i : Nat) (r : Option Value) (s u : State) : Prop := XT.PureE (some (.int (f i))) r s u
/-- charAt(i) of a Latin-1 String of n chars, i < n: f i -/
theorem law (l : Launch) (x t : Addr) (V : Cell) (n : Nat) (f : Nat → Int32) (z : Int32) (fm : Value) (i : Nat) : Law l yN 2 1 3 40 yB 2 (some .char) site (P x t V n f z fm i) (E f i) [] 0 0 := by
  refine Law.of_walk (plainFor_of_name (by decide +kernel)) (by decide +kernel) (by decide +kernel) (by decide) (fun _ _ h => by rw [h.1]; rfl) (fun _ U U' hal hh h => ⟨h.1, h.2.1.mv hal hh, h.2.2.1, h.2.2.2.1.there hal hh, h.2.2.2.2.1, h.2.2.2.2.2.1.there hal hh, h.2.2.2.2.2.2⟩) (fun r U U' V V' h1 hal h2 h => XT.PureE.mv r U U' V V' h1 hal h2 h) ?_
  intro p e s m args below meth c s₁ X0 hexec hbytes hml hret hlk hnm hown hh0 W hP
  obtain ⟨rfl, hx, hi, s1, hz, s3, rf⟩ := hP
  have v31 := hx.2.2.2.1.2.2.2
  have hr := hx.2.2.2.2.2 i hi
  have hx0 := hx.mv X0.warmed.alike hh0
  have c1 : Steps p.tables e below (s₁.setTop (entryFrame m #[.ref x, .int (Int32.ofNat i)] 2)) (s₁.setTop (mkF m 1 #[.val (.ref x), .val (.int (Int32.ofNat i))] [.ref x])) := Steps.trans (entry rfl) (by
    show Steps p.tables e below (s₁.setTop (mkF m 0 #[.val (.ref x), .val (.int (Int32.ofNat i))] [])) _
    refine XS.aloadN X0.here hexec rfl (hb hbytes d0) rfl rfl ?_
    exact Steps.refl _)
  obtain ⟨v2, T2, X2, E2, g2⟩ := X0.callV hexec (IsL.law l x 0 z) hown (wks W (virtW "java/lang/String" 492 "java/lang/String" IsL.yN IsL.yN)) rfl (by decide) (wk W IsL.tab) (W := 0) (Nat.le_of_ble_eq_true rfl) (Nat.le_of_ble_eq_true rfl) (Nat.le_refl _) (Nat.le_refl _) (hx0.1.fc X0.warmed.alike) hx0.1.is (g := (mkF m 1 #[.val (.ref x), .val (.int (Int32.ofNat i))] [.ref x])) rfl (by rw [hml]; rfl) c1 (argsL := []) (rest := []) rfl rfl (by show 2 * 0 + 0 ≤ _; decide) (hb hbytes d1) (⟨rfl, hx0.2.2.1, hx.2.2.2.2.1.cd, s1.there X0.warmed.alike hh0, hz⟩)
  obtain ⟨rfl, q2⟩ := E2
  have hh2 := q2.trans hh0
  have hx2 := hx.mv X2.warmed.alike hh2
  obtain ⟨-, k1, k2⟩ | ⟨k0, -⟩ := hx.2.2.2.2.1
  · have c3 : Steps p.tables e below (s₁.setTop (entryFrame m #[.ref x, .int (Int32.ofNat i)] 2)) (T2.setTop (mkF m 8 #[.val (.ref x), .val (.int (Int32.ofNat i))] [.ref x])) := Steps.trans g2 (by
      refine XS.ifNo X2.here hexec rfl (hb hbytes d4) rfl (i0_eq_f (by decide)) ?_
      refine XS.aloadN X2.here hexec rfl (hb hbytes d7) rfl rfl ?_
      exact Steps.refl _)
    obtain ⟨T4, X4, q4, st4⟩ := X2.hget hexec hown (wk W (.fieldLink "java/lang/String" 9 "java/lang/String" "value" "[B")) hx2.2.1 (g := (mkF m 8 #[.val (.ref x), .val (.int (Int32.ofNat i))] [.ref x])) rfl (rest := []) rfl (hb hbytes d8)
    have hh4 := q4.trans hh2
    have c5 : Steps p.tables e below (s₁.setTop (entryFrame m #[.ref x, .int (Int32.ofNat i)] 2)) (T4.setTop (mkF m 12 #[.val (.ref x), .val (.int (Int32.ofNat i))] [.int (Int32.ofNat i), .ref t])) := (c3.trans (st4 _ (Steps.refl _))).trans (by
      refine XS.iloadN X4.here hexec rfl (hb hbytes d11) rfl ?_
      exact Steps.refl _)
    obtain ⟨v6, T6, X6, E6, g6⟩ := X4.callS hexec (LChA.law l t V i (lo8 (f i)) fm) hown (wks W (staticW "java/lang/String" 495 LChA.yN)) (wk W LChA.tab) (W := 0) (Nat.le_of_ble_eq_true rfl) (Nat.le_of_ble_eq_true rfl) (Nat.le_refl _) (Nat.le_refl _) (g := (mkF m 12 #[.val (.ref x), .val (.int (Int32.ofNat i))] [.int (Int32.ofNat i), .ref t])) rfl (by rw [hml]; rfl) c5 (argsL := [.ref t, .int (Int32.ofNat i)]) (rest := []) rfl rfl (by show 2 * 0 + 0 ≤ _; decide) (hb hbytes d12) (⟨rfl, hx.2.2.2.1.mv X4.warmed.alike hh4, (k2 i hi).1, s3.there X4.warmed.alike hh4, rf⟩)
    obtain ⟨rfl, q6⟩ := E6
    rw [chr8_lo8 hr.1 (k2 i hi).2] at g6
    exact ⟨T6, some (.int (f i)), _, _, _, X6, rfl, rfl, rfl, (fun h => by cases h), ⟨rfl, q6.trans hh4⟩, fun fs hl => Steps.trans g6 (X6.ireturnOut hexec hret (narrow_ch hr.1 hr.2) (Or.inr (Or.inr (Or.inr (Or.inl rfl)))) (hb hbytes d15) hl)⟩
  · exact absurd k0 (by decide)
theorem pays {l : Launch} {R : Room} {p : Program} {e : Env} {below : List Frame} {s : State} {sargs : Array Value} {len W : Nat} (x t : Addr) (V : Cell) (n : Nat) (f : Nat → Int32) (z : Int32) (fm : Value) (i : Nat) (htab : tab.before sargs s = true) (hfr : 4 ≤ R.frames) (hlo : W + 53 ≤ R.locals) :
    Back l R p e below s sargs yN len W (fun A₁ a₁ => A₁.cells + 0 ≤ R.cells ∧ A₁.slots + 0 ≤ R.slots ∧ P x t V n f z fm i a₁ A₁.U) (fun A₁ _ v₁ B₁ => E f i v₁ A₁.U B₁.U ∧ B₁.locs = A₁.locs ++ [] ∧ B₁.cells = A₁.cells + 0 ∧ B₁.slots = A₁.slots + 0) :=
  (law l x t V n f z fm i).pays htab hfr (by omega)
end ChN
end StrChars
namespace StrChars.Road
open Jvm Sem ClassFile Op Lib Jvm.Stand Jvm.Free Jvm.Free.XT
open Jvm.Lib.Cold (StaticIs)
/-- the words of String.charAt(int), the Latin-1 road alone -/
abbrev wordsChN : List Jvm.Cond := [.code ChN.yN ChN.yB 2 (some .char), .initialized ST, .fieldLink ST 9 ST "value" "[B", .fieldLink ST 38 ST "COMPACT_STRINGS" "Z", .fieldLink ST 15 ST "coder" "B", .code IsL.yN IsL.yB 1 (some .boolean), .methodLink ST 492 IsL.yN, .declares IsL.yN, .selects ST IsL.yN IsL.yN, .instanceMethod IsL.yN,
  .methodLink ST 495 LChA.yN, .static LChA.yN, .code LChA.yN LChA.yB 2 (some .char), .initialized "java/lang/StringLatin1", .methodLink "java/lang/StringLatin1" 9 JO.Str_checkIndex.yN, .static JO.Str_checkIndex.yN, .code JO.Str_checkIndex.yN JO.Str_checkIndex.yB 2 none,
  .fieldLink ST 1053 "jdk/internal/util/Preconditions" "SIOOBE_FORMATTER" "Ljava/util/function/BiFunction;", .methodLink ST 1059 JC.PreCheck.yN, .static JC.PreCheck.yN, .code JC.PreCheck.yN JC.PreCheck.yB 3 (some .int), .initialized "jdk/internal/util/Preconditions"]
theorem tabChN_of {a : Array Value} {s : State} (h : ∀ w ∈ wordsChN, w.before a s = true) : ChN.tab.before a s = true := by
  have hp : JC.PreCheck.tab.before a s = true := unparts (wk h (.code JC.PreCheck.yN JC.PreCheck.yB 3 (some .int))) (wks h (.initialized JC.PreCheck.yN.cls :: JC.PreCheck.site))
  have qk := consq hp h
  have hk : JO.Str_checkIndex.tab.before a s = true := unparts (wk qk (.code JO.Str_checkIndex.yN JO.Str_checkIndex.yB 2 none)) (wks qk (.initialized JO.Str_checkIndex.yN.cls :: JO.Str_checkIndex.site))
  have ql := consq hk h
  have hl : LChA.tab.before a s = true := unparts (wk ql (.code LChA.yN LChA.yB 2 (some .char))) (wks ql (.initialized LChA.yN.cls :: LChA.site))
  have hi : IsL.tab.before a s = true := unparts (wk h (.code IsL.yN IsL.yB 1 (some .boolean))) (wks h (.initialized IsL.yN.cls :: IsL.site))
  have q := consq hi (consq hl h)
  exact unparts (wk q (.code ChN.yN ChN.yB 2 (some .char))) (wks q (.initialized ChN.yN.cls :: ChN.site))
theorem movedChN {Z s : State} {a0 args : Array Value} (hZ : Z.Warmed39 s.vm) (hw : ∀ d ∈ wordsChN, d.before a0 Z = true) : ∀ d ∈ wordsChN, d.before args s = true := fun d hd => by
  have t : ∀ d ∈ wordsChN, (d.onTables && d.keepsFace) = true := by decide +kernel
  exact RoadKit.mv hZ (hw d hd) (t d hd)
/-- **charAt(i) OF A LATIN-1 STRING**, i < n: the char -/
theorem chN {p : Program} {l : Launch} {e : Env} {R : Room} {s : State} {args : Array Value} {below : List Frame} {len W : Nat} {Z : State} {a0 : Array Value} {h : Heap} (hZ : Z.Warmed39 s.vm) (hw : ∀ d ∈ wordsChN, d.before a0 Z = true) {kI : Nat} (wi : (Jvm.Cond.instantiable ST kI).before a0 Z = true)
    {x t : Addr} {kb : ClassId} {cs : List Int32} {N2 z : Int32} {vs : List Value} {fm : Value} {i : Nat} {j : Int32} (E : RoadKit.Exa Z h x ST) (V : RoadKit.Fld Z h x ST "value" "[B" (.ref t)) (C : RoadKit.Fld Z h x ST "coder" "B" (.int 0)) (K : RoadKit.Arv Z h t kb .byte N2 vs (.int 0)) (hc : CodA cs 0 N2 vs) (hb : ∀ c ∈ cs, ¬ c < 0 ∧ ¬ (65535 : Int32) < c)
    (S : RoadKit.Sta Z h ST "COMPACT_STRINGS" "Z" (.int z)) (hz : ¬ z = 0) (F : RoadKit.Sta Z h "jdk/internal/util/Preconditions" "SIOOBE_FORMATTER" "Ljava/util/function/BiFunction;" fm) (rf : fm.isRef = true) (l2 : cs.length ≤ 4000) (hi : i < cs.length) (hj : j = Int32.ofNat i) (hfr : 4 ≤ R.frames) (hlo : W + 53 ≤ R.locals) :
    Back l R p e below s args (⟨"java/lang/String", "charAt", "(I)C"⟩ : MethodName) len W (fun P a => a = #[.ref x, .int j] ∧ P.U.heap = h ∧ P.cells + 0 ≤ R.cells ∧ P.slots + 0 ≤ R.slots)
      (fun P _ v B => ∃ L, (v = some (.int (cs.getD i 0)) ∧ L = [] ∧ B.U.heap = h) ∧ B.locs = P.locs ++ L ∧ B.cells = P.cells + 0 ∧ B.slots = P.slots + 0) := by
  subst hj
  intro m meth c P g ig mk a X hg hsize hdg hW hn hp'
  obtain ⟨rfl, rfl, r1, r2⟩ := hp'
  have al : Z.vm.Alike P.U.vm := hZ.alike.trans X.warmed.alike
  obtain ⟨A, hx⟩ := txt_of wi al E V C K hc hb l2
  obtain ⟨v, B, X', ⟨⟨hv, hh⟩, hl, hk, hs⟩, st⟩ := ChN.pays x t A cs.length (fun j => cs.getD j 0) z fm i (tabChN_of (movedChN hZ hw)) hfr hlo m meth c P g ig mk _ X hg hsize hdg hW hn ⟨r1, r2, rfl, hx, hi, sta_is al S, hz, sta_is al F, rf⟩
  exact ⟨v, B, X', ⟨[], ⟨hv, rfl, hh⟩, hl, hk, hs⟩, st⟩
/-- what backV says of its String, as the contracts of this text ask it: cs's low bytes, coder 0 -/
theorem codOf {cs : List Int32} {n : Nat} (hn : cs.length = n) (hb : ∀ c ∈ cs, ¬ 255 < c) : CodA cs 0 (Int32.ofNat n) ((cs.map lo8).map Value.int) := Or.inl ⟨rfl, by rw [hn], by simp [List.map_map, Function.comp_def], hb⟩
end StrChars.Road
end Jvm.Pilot.@@N@@
namespace Jvm.Pilot.@@N@@
open Jvm Jvm.ClassFile Sem Op Lib Jvm.Free Jvm.Stand Jvm.LawKit Jvm.RoadKit Bundle Jvm.Pilot.@@N@@.Jvm.D Own
def W0 : List Int32 := [45, 45, 105, 116, 101, 114, 97, 116, 105, 111, 110, 115]
def W1 : List Int32 := [45, 45, 115, 97, 108, 116]
def W2 : List Int32 := [45, 45, 119, 101, 97, 107, 45, 112, 97, 115, 115, 119, 111, 114, 100]
def Opts (Z : State) (o0 o1 o2 va w0 w1 w2 t0 t1 t2 : Addr) (kv k0 k1 k2 : ClassId) : Prop := Sta Z Z.heap "dev/portcullis/cli/HashPasswordCommand$Option" "ITERATIONS" "Ldev/portcullis/cli/HashPasswordCommand$Option;" (.ref o0) ∧ Sta Z Z.heap "dev/portcullis/cli/HashPasswordCommand$Option" "SALT" "Ldev/portcullis/cli/HashPasswordCommand$Option;" (.ref o1) ∧ Sta Z Z.heap "dev/portcullis/cli/HashPasswordCommand$Option" "WEAK_PASSWORD" "Ldev/portcullis/cli/HashPasswordCommand$Option;" (.ref o2) ∧ Sta Z Z.heap "dev/portcullis/cli/HashPasswordCommand$Option" "$VALUES" "[Ldev/portcullis/cli/HashPasswordCommand$Option;" (.ref va) ∧ Arv Z Z.heap va kv (.object "dev/portcullis/cli/HashPasswordCommand$Option") (3 : Int32) [.ref o0, .ref o1, .ref o2] .null ∧ Exa Z Z.heap va "[Ldev/portcullis/cli/HashPasswordCommand$Option;" ∧ (Exa Z Z.heap o0 "dev/portcullis/cli/HashPasswordCommand$Option" ∧ Fld Z Z.heap o0 "dev/portcullis/cli/HashPasswordCommand$Option" "word" "Ljava/lang/String;" (.ref w0) ∧ Str Z Z.heap w0 t0 k0 W0) ∧ (Exa Z Z.heap o1 "dev/portcullis/cli/HashPasswordCommand$Option" ∧ Fld Z Z.heap o1 "dev/portcullis/cli/HashPasswordCommand$Option" "word" "Ljava/lang/String;" (.ref w1) ∧ Str Z Z.heap w1 t1 k1 W1) ∧ (Exa Z Z.heap o2 "dev/portcullis/cli/HashPasswordCommand$Option" ∧ Fld Z Z.heap o2 "dev/portcullis/cli/HashPasswordCommand$Option" "word" "Ljava/lang/String;" (.ref w2) ∧ Str Z Z.heap w2 t2 k2 W2)

def Wld (Z : State) (a0 : Array Value) : Prop := (∀ d ∈ tables_1, d.before a0 Z = true) ∧ EW Z a0 consts_1 ∧ (∃ z : Int32, Sta Z Z.heap "java/lang/String" "COMPACT_STRINGS" "Z" (.int z) ∧ ¬ z = 0) ∧ ((∃ fm : Value, Sta Z Z.heap "jdk/internal/util/Preconditions" "SIOOBE_FORMATTER" "Ljava/util/function/BiFunction;" fm ∧ fm.isRef = true) ∧ ∃ o0 o1 o2 va w0 w1 w2 t0 t1 t2 kv k0 k1 k2, Opts Z o0 o1 o2 va w0 w1 w2 t0 t1 t2 kv k0 k1 k2)
theorem Wld.atoms {Z : State} {a0 : Array Value} (G : Wld Z a0) : ∀ d ∈ Bundle.stringAtoms, d.before a0 Z = true := fun d hd => G.1 d ((by decide +kernel : ∀ d ∈ Bundle.stringAtoms, d ∈ tables_1) d hd)
theorem d2_0 : decode method_2_code 0 = .ok (.iload_n 0, 1) := by decide +kernel
theorem d2_1 : decode method_2_code 1 = .ok (.ifCond .ne 74, 3) := by decide +kernel
theorem d2_4 : decode method_2_code 4 = .ok (.bipush 12, 2) := by decide +kernel
theorem d2_6 : decode method_2_code 6 = .ok (.newarray .char, 2) := by decide +kernel
theorem d2_8 : decode method_2_code 8 = .ok (.dup, 1) := by decide +kernel
theorem d2_9 : decode method_2_code 9 = .ok (.iconst 0, 1) := by decide +kernel
theorem d2_10 : decode method_2_code 10 = .ok (.bipush 45, 2) := by decide +kernel
theorem d2_12 : decode method_2_code 12 = .ok (.castore, 1) := by decide +kernel
theorem d2_13 : decode method_2_code 13 = .ok (.dup, 1) := by decide +kernel
theorem d2_14 : decode method_2_code 14 = .ok (.iconst 1, 1) := by decide +kernel
theorem d2_15 : decode method_2_code 15 = .ok (.bipush 45, 2) := by decide +kernel
theorem d2_17 : decode method_2_code 17 = .ok (.castore, 1) := by decide +kernel
theorem d2_18 : decode method_2_code 18 = .ok (.dup, 1) := by decide +kernel
theorem d2_19 : decode method_2_code 19 = .ok (.iconst 2, 1) := by decide +kernel
theorem d2_20 : decode method_2_code 20 = .ok (.bipush 105, 2) := by decide +kernel
theorem d2_22 : decode method_2_code 22 = .ok (.castore, 1) := by decide +kernel
theorem d2_23 : decode method_2_code 23 = .ok (.dup, 1) := by decide +kernel
theorem d2_24 : decode method_2_code 24 = .ok (.iconst 3, 1) := by decide +kernel
theorem d2_25 : decode method_2_code 25 = .ok (.bipush 116, 2) := by decide +kernel
theorem d2_27 : decode method_2_code 27 = .ok (.castore, 1) := by decide +kernel
theorem d2_28 : decode method_2_code 28 = .ok (.dup, 1) := by decide +kernel
theorem d2_29 : decode method_2_code 29 = .ok (.iconst 4, 1) := by decide +kernel
theorem d2_30 : decode method_2_code 30 = .ok (.bipush 101, 2) := by decide +kernel
theorem d2_32 : decode method_2_code 32 = .ok (.castore, 1) := by decide +kernel
theorem d2_33 : decode method_2_code 33 = .ok (.dup, 1) := by decide +kernel
theorem d2_34 : decode method_2_code 34 = .ok (.iconst 5, 1) := by decide +kernel
theorem d2_35 : decode method_2_code 35 = .ok (.bipush 114, 2) := by decide +kernel
theorem d2_37 : decode method_2_code 37 = .ok (.castore, 1) := by decide +kernel
theorem d2_38 : decode method_2_code 38 = .ok (.dup, 1) := by decide +kernel
theorem d2_39 : decode method_2_code 39 = .ok (.bipush 6, 2) := by decide +kernel
theorem d2_41 : decode method_2_code 41 = .ok (.bipush 97, 2) := by decide +kernel
theorem d2_43 : decode method_2_code 43 = .ok (.castore, 1) := by decide +kernel
theorem d2_44 : decode method_2_code 44 = .ok (.dup, 1) := by decide +kernel
theorem d2_45 : decode method_2_code 45 = .ok (.bipush 7, 2) := by decide +kernel
theorem d2_47 : decode method_2_code 47 = .ok (.bipush 116, 2) := by decide +kernel
theorem d2_49 : decode method_2_code 49 = .ok (.castore, 1) := by decide +kernel
theorem d2_50 : decode method_2_code 50 = .ok (.dup, 1) := by decide +kernel
theorem d2_51 : decode method_2_code 51 = .ok (.bipush 8, 2) := by decide +kernel
theorem d2_53 : decode method_2_code 53 = .ok (.bipush 105, 2) := by decide +kernel
theorem d2_55 : decode method_2_code 55 = .ok (.castore, 1) := by decide +kernel
theorem d2_56 : decode method_2_code 56 = .ok (.dup, 1) := by decide +kernel
theorem d2_57 : decode method_2_code 57 = .ok (.bipush 9, 2) := by decide +kernel
theorem d2_59 : decode method_2_code 59 = .ok (.bipush 111, 2) := by decide +kernel
theorem d2_61 : decode method_2_code 61 = .ok (.castore, 1) := by decide +kernel
theorem d2_62 : decode method_2_code 62 = .ok (.dup, 1) := by decide +kernel
theorem d2_63 : decode method_2_code 63 = .ok (.bipush 10, 2) := by decide +kernel
theorem d2_65 : decode method_2_code 65 = .ok (.bipush 110, 2) := by decide +kernel
theorem d2_67 : decode method_2_code 67 = .ok (.castore, 1) := by decide +kernel
theorem d2_68 : decode method_2_code 68 = .ok (.dup, 1) := by decide +kernel
theorem d2_69 : decode method_2_code 69 = .ok (.bipush 11, 2) := by decide +kernel
theorem d2_71 : decode method_2_code 71 = .ok (.bipush 115, 2) := by decide +kernel
theorem d2_73 : decode method_2_code 73 = .ok (.castore, 1) := by decide +kernel
theorem d2_74 : decode method_2_code 74 = .ok (.areturn, 1) := by decide +kernel
theorem d2_75 : decode method_2_code 75 = .ok (.iload_n 0, 1) := by decide +kernel
theorem d2_76 : decode method_2_code 76 = .ok (.iconst 1, 1) := by decide +kernel
theorem d2_77 : decode method_2_code 77 = .ok (.if_icmp .ne 38, 3) := by decide +kernel
theorem d2_80 : decode method_2_code 80 = .ok (.bipush 6, 2) := by decide +kernel
theorem d2_82 : decode method_2_code 82 = .ok (.newarray .char, 2) := by decide +kernel
theorem d2_84 : decode method_2_code 84 = .ok (.dup, 1) := by decide +kernel
theorem d2_85 : decode method_2_code 85 = .ok (.iconst 0, 1) := by decide +kernel
theorem d2_86 : decode method_2_code 86 = .ok (.bipush 45, 2) := by decide +kernel
theorem d2_88 : decode method_2_code 88 = .ok (.castore, 1) := by decide +kernel
theorem d2_89 : decode method_2_code 89 = .ok (.dup, 1) := by decide +kernel
theorem d2_90 : decode method_2_code 90 = .ok (.iconst 1, 1) := by decide +kernel
theorem d2_91 : decode method_2_code 91 = .ok (.bipush 45, 2) := by decide +kernel
theorem d2_93 : decode method_2_code 93 = .ok (.castore, 1) := by decide +kernel
theorem d2_94 : decode method_2_code 94 = .ok (.dup, 1) := by decide +kernel
theorem d2_95 : decode method_2_code 95 = .ok (.iconst 2, 1) := by decide +kernel
theorem d2_96 : decode method_2_code 96 = .ok (.bipush 115, 2) := by decide +kernel
theorem d2_98 : decode method_2_code 98 = .ok (.castore, 1) := by decide +kernel
theorem d2_99 : decode method_2_code 99 = .ok (.dup, 1) := by decide +kernel
theorem d2_100 : decode method_2_code 100 = .ok (.iconst 3, 1) := by decide +kernel
theorem d2_101 : decode method_2_code 101 = .ok (.bipush 97, 2) := by decide +kernel
theorem d2_103 : decode method_2_code 103 = .ok (.castore, 1) := by decide +kernel
theorem d2_104 : decode method_2_code 104 = .ok (.dup, 1) := by decide +kernel
theorem d2_105 : decode method_2_code 105 = .ok (.iconst 4, 1) := by decide +kernel
theorem d2_106 : decode method_2_code 106 = .ok (.bipush 108, 2) := by decide +kernel
theorem d2_108 : decode method_2_code 108 = .ok (.castore, 1) := by decide +kernel
theorem d2_109 : decode method_2_code 109 = .ok (.dup, 1) := by decide +kernel
theorem d2_110 : decode method_2_code 110 = .ok (.iconst 5, 1) := by decide +kernel
theorem d2_111 : decode method_2_code 111 = .ok (.bipush 116, 2) := by decide +kernel
theorem d2_113 : decode method_2_code 113 = .ok (.castore, 1) := by decide +kernel
theorem d2_114 : decode method_2_code 114 = .ok (.areturn, 1) := by decide +kernel
theorem d2_115 : decode method_2_code 115 = .ok (.bipush 15, 2) := by decide +kernel
theorem d2_117 : decode method_2_code 117 = .ok (.newarray .char, 2) := by decide +kernel
theorem d2_119 : decode method_2_code 119 = .ok (.dup, 1) := by decide +kernel
theorem d2_120 : decode method_2_code 120 = .ok (.iconst 0, 1) := by decide +kernel
theorem d2_121 : decode method_2_code 121 = .ok (.bipush 45, 2) := by decide +kernel
theorem d2_123 : decode method_2_code 123 = .ok (.castore, 1) := by decide +kernel
theorem d2_124 : decode method_2_code 124 = .ok (.dup, 1) := by decide +kernel
theorem d2_125 : decode method_2_code 125 = .ok (.iconst 1, 1) := by decide +kernel
theorem d2_126 : decode method_2_code 126 = .ok (.bipush 45, 2) := by decide +kernel
theorem d2_128 : decode method_2_code 128 = .ok (.castore, 1) := by decide +kernel
theorem d2_129 : decode method_2_code 129 = .ok (.dup, 1) := by decide +kernel
theorem d2_130 : decode method_2_code 130 = .ok (.iconst 2, 1) := by decide +kernel
theorem d2_131 : decode method_2_code 131 = .ok (.bipush 119, 2) := by decide +kernel
theorem d2_133 : decode method_2_code 133 = .ok (.castore, 1) := by decide +kernel
theorem d2_134 : decode method_2_code 134 = .ok (.dup, 1) := by decide +kernel
theorem d2_135 : decode method_2_code 135 = .ok (.iconst 3, 1) := by decide +kernel
theorem d2_136 : decode method_2_code 136 = .ok (.bipush 101, 2) := by decide +kernel
theorem d2_138 : decode method_2_code 138 = .ok (.castore, 1) := by decide +kernel
theorem d2_139 : decode method_2_code 139 = .ok (.dup, 1) := by decide +kernel
theorem d2_140 : decode method_2_code 140 = .ok (.iconst 4, 1) := by decide +kernel
theorem d2_141 : decode method_2_code 141 = .ok (.bipush 97, 2) := by decide +kernel
theorem d2_143 : decode method_2_code 143 = .ok (.castore, 1) := by decide +kernel
theorem d2_144 : decode method_2_code 144 = .ok (.dup, 1) := by decide +kernel
theorem d2_145 : decode method_2_code 145 = .ok (.iconst 5, 1) := by decide +kernel
theorem d2_146 : decode method_2_code 146 = .ok (.bipush 107, 2) := by decide +kernel
theorem d2_148 : decode method_2_code 148 = .ok (.castore, 1) := by decide +kernel
theorem d2_149 : decode method_2_code 149 = .ok (.dup, 1) := by decide +kernel
theorem d2_150 : decode method_2_code 150 = .ok (.bipush 6, 2) := by decide +kernel
theorem d2_152 : decode method_2_code 152 = .ok (.bipush 45, 2) := by decide +kernel
theorem d2_154 : decode method_2_code 154 = .ok (.castore, 1) := by decide +kernel
theorem d2_155 : decode method_2_code 155 = .ok (.dup, 1) := by decide +kernel
theorem d2_156 : decode method_2_code 156 = .ok (.bipush 7, 2) := by decide +kernel
theorem d2_158 : decode method_2_code 158 = .ok (.bipush 112, 2) := by decide +kernel
theorem d2_160 : decode method_2_code 160 = .ok (.castore, 1) := by decide +kernel
theorem d2_161 : decode method_2_code 161 = .ok (.dup, 1) := by decide +kernel
theorem d2_162 : decode method_2_code 162 = .ok (.bipush 8, 2) := by decide +kernel
theorem d2_164 : decode method_2_code 164 = .ok (.bipush 97, 2) := by decide +kernel
theorem d2_166 : decode method_2_code 166 = .ok (.castore, 1) := by decide +kernel
theorem d2_167 : decode method_2_code 167 = .ok (.dup, 1) := by decide +kernel
theorem d2_168 : decode method_2_code 168 = .ok (.bipush 9, 2) := by decide +kernel
theorem d2_170 : decode method_2_code 170 = .ok (.bipush 115, 2) := by decide +kernel
theorem d2_172 : decode method_2_code 172 = .ok (.castore, 1) := by decide +kernel
theorem d2_173 : decode method_2_code 173 = .ok (.dup, 1) := by decide +kernel
theorem d2_174 : decode method_2_code 174 = .ok (.bipush 10, 2) := by decide +kernel
theorem d2_176 : decode method_2_code 176 = .ok (.bipush 115, 2) := by decide +kernel
theorem d2_178 : decode method_2_code 178 = .ok (.castore, 1) := by decide +kernel
theorem d2_179 : decode method_2_code 179 = .ok (.dup, 1) := by decide +kernel
theorem d2_180 : decode method_2_code 180 = .ok (.bipush 11, 2) := by decide +kernel
theorem d2_182 : decode method_2_code 182 = .ok (.bipush 119, 2) := by decide +kernel
theorem d2_184 : decode method_2_code 184 = .ok (.castore, 1) := by decide +kernel
theorem d2_185 : decode method_2_code 185 = .ok (.dup, 1) := by decide +kernel
theorem d2_186 : decode method_2_code 186 = .ok (.bipush 12, 2) := by decide +kernel
theorem d2_188 : decode method_2_code 188 = .ok (.bipush 111, 2) := by decide +kernel
theorem d2_190 : decode method_2_code 190 = .ok (.castore, 1) := by decide +kernel
theorem d2_191 : decode method_2_code 191 = .ok (.dup, 1) := by decide +kernel
theorem d2_192 : decode method_2_code 192 = .ok (.bipush 13, 2) := by decide +kernel
theorem d2_194 : decode method_2_code 194 = .ok (.bipush 114, 2) := by decide +kernel
theorem d2_196 : decode method_2_code 196 = .ok (.castore, 1) := by decide +kernel
theorem d2_197 : decode method_2_code 197 = .ok (.dup, 1) := by decide +kernel
theorem d2_198 : decode method_2_code 198 = .ok (.bipush 14, 2) := by decide +kernel
theorem d2_200 : decode method_2_code 200 = .ok (.bipush 100, 2) := by decide +kernel
theorem d2_202 : decode method_2_code 202 = .ok (.castore, 1) := by decide +kernel
theorem d2_203 : decode method_2_code 203 = .ok (.areturn, 1) := by decide +kernel
theorem d14_0 : decode prog_55_method_4_code 0 = .ok (.invokestatic 49, 3) := by decide +kernel
theorem d14_3 : decode prog_55_method_4_code 3 = .ok (.astore_n 1, 1) := by decide +kernel
theorem d14_4 : decode prog_55_method_4_code 4 = .ok (.aload_n 1, 1) := by decide +kernel
theorem d14_5 : decode prog_55_method_4_code 5 = .ok (.arraylength, 1) := by decide +kernel
theorem d14_6 : decode prog_55_method_4_code 6 = .ok (.istore_n 2, 1) := by decide +kernel
theorem d14_7 : decode prog_55_method_4_code 7 = .ok (.iconst 0, 1) := by decide +kernel
theorem d14_8 : decode prog_55_method_4_code 8 = .ok (.istore_n 3, 1) := by decide +kernel
theorem d14_9 : decode prog_55_method_4_code 9 = .ok (.iload_n 3, 1) := by decide +kernel
theorem d14_10 : decode prog_55_method_4_code 10 = .ok (.iload_n 2, 1) := by decide +kernel
theorem d14_11 : decode prog_55_method_4_code 11 = .ok (.if_icmp .ge 29, 3) := by decide +kernel
theorem d14_14 : decode prog_55_method_4_code 14 = .ok (.aload_n 1, 1) := by decide +kernel
theorem d14_15 : decode prog_55_method_4_code 15 = .ok (.iload_n 3, 1) := by decide +kernel
theorem d14_16 : decode prog_55_method_4_code 16 = .ok (.aaload, 1) := by decide +kernel
theorem d14_17 : decode prog_55_method_4_code 17 = .ok (.astore 4, 2) := by decide +kernel
theorem d14_19 : decode prog_55_method_4_code 19 = .ok (.aload 4, 2) := by decide +kernel
theorem d14_21 : decode prog_55_method_4_code 21 = .ok (.getfield 32, 3) := by decide +kernel
theorem d14_24 : decode prog_55_method_4_code 24 = .ok (.aload_n 0, 1) := by decide +kernel
theorem d14_25 : decode prog_55_method_4_code 25 = .ok (.invokevirtual 53, 3) := by decide +kernel
theorem d14_28 : decode prog_55_method_4_code 28 = .ok (.ifCond .eq 6, 3) := by decide +kernel
theorem d14_31 : decode prog_55_method_4_code 31 = .ok (.aload 4, 2) := by decide +kernel
theorem d14_33 : decode prog_55_method_4_code 33 = .ok (.areturn, 1) := by decide +kernel
theorem d14_34 : decode prog_55_method_4_code 34 = .ok (.iinc 3 1, 3) := by decide +kernel
theorem d14_37 : decode prog_55_method_4_code 37 = .ok (.goto (-28), 3) := by decide +kernel
theorem d14_40 : decode prog_55_method_4_code 40 = .ok (.aconst_null, 1) := by decide +kernel
theorem d14_41 : decode prog_55_method_4_code 41 = .ok (.areturn, 1) := by decide +kernel
theorem d15_0 : decode prog_55_method_1_code 0 = .ok (.getstatic 13, 3) := by decide +kernel
theorem d15_3 : decode prog_55_method_1_code 3 = .ok (.invokevirtual 17, 3) := by decide +kernel
theorem d15_6 : decode prog_55_method_1_code 6 = .ok (.checkcast 18, 3) := by decide +kernel
theorem d15_9 : decode prog_55_method_1_code 9 = .ok (.areturn, 1) := by decide +kernel
theorem d18_0 : decode method_3_code 0 = .ok (.iload_n 0, 1) := by decide +kernel
theorem d18_1 : decode method_3_code 1 = .ok (.ifCond .ne 79, 3) := by decide +kernel
theorem d18_4 : decode method_3_code 4 = .ok (.bipush 13, 2) := by decide +kernel
theorem d18_6 : decode method_3_code 6 = .ok (.newarray .char, 2) := by decide +kernel
theorem d18_8 : decode method_3_code 8 = .ok (.dup, 1) := by decide +kernel
theorem d18_9 : decode method_3_code 9 = .ok (.iconst 0, 1) := by decide +kernel
theorem d18_10 : decode method_3_code 10 = .ok (.bipush 45, 2) := by decide +kernel
theorem d18_12 : decode method_3_code 12 = .ok (.castore, 1) := by decide +kernel
theorem d18_13 : decode method_3_code 13 = .ok (.dup, 1) := by decide +kernel
theorem d18_14 : decode method_3_code 14 = .ok (.iconst 1, 1) := by decide +kernel
theorem d18_15 : decode method_3_code 15 = .ok (.bipush 45, 2) := by decide +kernel
theorem d18_17 : decode method_3_code 17 = .ok (.castore, 1) := by decide +kernel
theorem d18_18 : decode method_3_code 18 = .ok (.dup, 1) := by decide +kernel
theorem d18_19 : decode method_3_code 19 = .ok (.iconst 2, 1) := by decide +kernel
theorem d18_20 : decode method_3_code 20 = .ok (.bipush 105, 2) := by decide +kernel
theorem d18_22 : decode method_3_code 22 = .ok (.castore, 1) := by decide +kernel
theorem d18_23 : decode method_3_code 23 = .ok (.dup, 1) := by decide +kernel
theorem d18_24 : decode method_3_code 24 = .ok (.iconst 3, 1) := by decide +kernel
theorem d18_25 : decode method_3_code 25 = .ok (.bipush 116, 2) := by decide +kernel
theorem d18_27 : decode method_3_code 27 = .ok (.castore, 1) := by decide +kernel
theorem d18_28 : decode method_3_code 28 = .ok (.dup, 1) := by decide +kernel
theorem d18_29 : decode method_3_code 29 = .ok (.iconst 4, 1) := by decide +kernel
theorem d18_30 : decode method_3_code 30 = .ok (.bipush 101, 2) := by decide +kernel
theorem d18_32 : decode method_3_code 32 = .ok (.castore, 1) := by decide +kernel
theorem d18_33 : decode method_3_code 33 = .ok (.dup, 1) := by decide +kernel
theorem d18_34 : decode method_3_code 34 = .ok (.iconst 5, 1) := by decide +kernel
theorem d18_35 : decode method_3_code 35 = .ok (.bipush 114, 2) := by decide +kernel
theorem d18_37 : decode method_3_code 37 = .ok (.castore, 1) := by decide +kernel
theorem d18_38 : decode method_3_code 38 = .ok (.dup, 1) := by decide +kernel
theorem d18_39 : decode method_3_code 39 = .ok (.bipush 6, 2) := by decide +kernel
theorem d18_41 : decode method_3_code 41 = .ok (.bipush 97, 2) := by decide +kernel
theorem d18_43 : decode method_3_code 43 = .ok (.castore, 1) := by decide +kernel
theorem d18_44 : decode method_3_code 44 = .ok (.dup, 1) := by decide +kernel
theorem d18_45 : decode method_3_code 45 = .ok (.bipush 7, 2) := by decide +kernel
theorem d18_47 : decode method_3_code 47 = .ok (.bipush 116, 2) := by decide +kernel
theorem d18_49 : decode method_3_code 49 = .ok (.castore, 1) := by decide +kernel
theorem d18_50 : decode method_3_code 50 = .ok (.dup, 1) := by decide +kernel
theorem d18_51 : decode method_3_code 51 = .ok (.bipush 8, 2) := by decide +kernel
theorem d18_53 : decode method_3_code 53 = .ok (.bipush 105, 2) := by decide +kernel
theorem d18_55 : decode method_3_code 55 = .ok (.castore, 1) := by decide +kernel
theorem d18_56 : decode method_3_code 56 = .ok (.dup, 1) := by decide +kernel
theorem d18_57 : decode method_3_code 57 = .ok (.bipush 9, 2) := by decide +kernel
theorem d18_59 : decode method_3_code 59 = .ok (.bipush 111, 2) := by decide +kernel
theorem d18_61 : decode method_3_code 61 = .ok (.castore, 1) := by decide +kernel
theorem d18_62 : decode method_3_code 62 = .ok (.dup, 1) := by decide +kernel
theorem d18_63 : decode method_3_code 63 = .ok (.bipush 10, 2) := by decide +kernel
theorem d18_65 : decode method_3_code 65 = .ok (.bipush 110, 2) := by decide +kernel
theorem d18_67 : decode method_3_code 67 = .ok (.castore, 1) := by decide +kernel
theorem d18_68 : decode method_3_code 68 = .ok (.dup, 1) := by decide +kernel
theorem d18_69 : decode method_3_code 69 = .ok (.bipush 11, 2) := by decide +kernel
theorem d18_71 : decode method_3_code 71 = .ok (.bipush 115, 2) := by decide +kernel
theorem d18_73 : decode method_3_code 73 = .ok (.castore, 1) := by decide +kernel
theorem d18_74 : decode method_3_code 74 = .ok (.dup, 1) := by decide +kernel
theorem d18_75 : decode method_3_code 75 = .ok (.bipush 12, 2) := by decide +kernel
theorem d18_77 : decode method_3_code 77 = .ok (.iload_n 1, 1) := by decide +kernel
theorem d18_78 : decode method_3_code 78 = .ok (.castore, 1) := by decide +kernel
theorem d18_79 : decode method_3_code 79 = .ok (.areturn, 1) := by decide +kernel
theorem d18_80 : decode method_3_code 80 = .ok (.iload_n 0, 1) := by decide +kernel
theorem d18_81 : decode method_3_code 81 = .ok (.iconst 1, 1) := by decide +kernel
theorem d18_82 : decode method_3_code 82 = .ok (.if_icmp .ne 43, 3) := by decide +kernel
theorem d18_85 : decode method_3_code 85 = .ok (.bipush 7, 2) := by decide +kernel
theorem d18_87 : decode method_3_code 87 = .ok (.newarray .char, 2) := by decide +kernel
theorem d18_89 : decode method_3_code 89 = .ok (.dup, 1) := by decide +kernel
theorem d18_90 : decode method_3_code 90 = .ok (.iconst 0, 1) := by decide +kernel
theorem d18_91 : decode method_3_code 91 = .ok (.bipush 45, 2) := by decide +kernel
theorem d18_93 : decode method_3_code 93 = .ok (.castore, 1) := by decide +kernel
theorem d18_94 : decode method_3_code 94 = .ok (.dup, 1) := by decide +kernel
theorem d18_95 : decode method_3_code 95 = .ok (.iconst 1, 1) := by decide +kernel
theorem d18_96 : decode method_3_code 96 = .ok (.bipush 45, 2) := by decide +kernel
theorem d18_98 : decode method_3_code 98 = .ok (.castore, 1) := by decide +kernel
theorem d18_99 : decode method_3_code 99 = .ok (.dup, 1) := by decide +kernel
theorem d18_100 : decode method_3_code 100 = .ok (.iconst 2, 1) := by decide +kernel
theorem d18_101 : decode method_3_code 101 = .ok (.bipush 115, 2) := by decide +kernel
theorem d18_103 : decode method_3_code 103 = .ok (.castore, 1) := by decide +kernel
theorem d18_104 : decode method_3_code 104 = .ok (.dup, 1) := by decide +kernel
theorem d18_105 : decode method_3_code 105 = .ok (.iconst 3, 1) := by decide +kernel
theorem d18_106 : decode method_3_code 106 = .ok (.bipush 97, 2) := by decide +kernel
theorem d18_108 : decode method_3_code 108 = .ok (.castore, 1) := by decide +kernel
theorem d18_109 : decode method_3_code 109 = .ok (.dup, 1) := by decide +kernel
theorem d18_110 : decode method_3_code 110 = .ok (.iconst 4, 1) := by decide +kernel
theorem d18_111 : decode method_3_code 111 = .ok (.bipush 108, 2) := by decide +kernel
theorem d18_113 : decode method_3_code 113 = .ok (.castore, 1) := by decide +kernel
theorem d18_114 : decode method_3_code 114 = .ok (.dup, 1) := by decide +kernel
theorem d18_115 : decode method_3_code 115 = .ok (.iconst 5, 1) := by decide +kernel
theorem d18_116 : decode method_3_code 116 = .ok (.bipush 116, 2) := by decide +kernel
theorem d18_118 : decode method_3_code 118 = .ok (.castore, 1) := by decide +kernel
theorem d18_119 : decode method_3_code 119 = .ok (.dup, 1) := by decide +kernel
theorem d18_120 : decode method_3_code 120 = .ok (.bipush 6, 2) := by decide +kernel
theorem d18_122 : decode method_3_code 122 = .ok (.iload_n 1, 1) := by decide +kernel
theorem d18_123 : decode method_3_code 123 = .ok (.castore, 1) := by decide +kernel
theorem d18_124 : decode method_3_code 124 = .ok (.areturn, 1) := by decide +kernel
theorem d18_125 : decode method_3_code 125 = .ok (.bipush 16, 2) := by decide +kernel
theorem d18_127 : decode method_3_code 127 = .ok (.newarray .char, 2) := by decide +kernel
theorem d18_129 : decode method_3_code 129 = .ok (.dup, 1) := by decide +kernel
theorem d18_130 : decode method_3_code 130 = .ok (.iconst 0, 1) := by decide +kernel
theorem d18_131 : decode method_3_code 131 = .ok (.bipush 45, 2) := by decide +kernel
theorem d18_133 : decode method_3_code 133 = .ok (.castore, 1) := by decide +kernel
theorem d18_134 : decode method_3_code 134 = .ok (.dup, 1) := by decide +kernel
theorem d18_135 : decode method_3_code 135 = .ok (.iconst 1, 1) := by decide +kernel
theorem d18_136 : decode method_3_code 136 = .ok (.bipush 45, 2) := by decide +kernel
theorem d18_138 : decode method_3_code 138 = .ok (.castore, 1) := by decide +kernel
theorem d18_139 : decode method_3_code 139 = .ok (.dup, 1) := by decide +kernel
theorem d18_140 : decode method_3_code 140 = .ok (.iconst 2, 1) := by decide +kernel
theorem d18_141 : decode method_3_code 141 = .ok (.bipush 119, 2) := by decide +kernel
theorem d18_143 : decode method_3_code 143 = .ok (.castore, 1) := by decide +kernel
theorem d18_144 : decode method_3_code 144 = .ok (.dup, 1) := by decide +kernel
theorem d18_145 : decode method_3_code 145 = .ok (.iconst 3, 1) := by decide +kernel
theorem d18_146 : decode method_3_code 146 = .ok (.bipush 101, 2) := by decide +kernel
theorem d18_148 : decode method_3_code 148 = .ok (.castore, 1) := by decide +kernel
theorem d18_149 : decode method_3_code 149 = .ok (.dup, 1) := by decide +kernel
theorem d18_150 : decode method_3_code 150 = .ok (.iconst 4, 1) := by decide +kernel
theorem d18_151 : decode method_3_code 151 = .ok (.bipush 97, 2) := by decide +kernel
theorem d18_153 : decode method_3_code 153 = .ok (.castore, 1) := by decide +kernel
theorem d18_154 : decode method_3_code 154 = .ok (.dup, 1) := by decide +kernel
theorem d18_155 : decode method_3_code 155 = .ok (.iconst 5, 1) := by decide +kernel
theorem d18_156 : decode method_3_code 156 = .ok (.bipush 107, 2) := by decide +kernel
theorem d18_158 : decode method_3_code 158 = .ok (.castore, 1) := by decide +kernel
theorem d18_159 : decode method_3_code 159 = .ok (.dup, 1) := by decide +kernel
theorem d18_160 : decode method_3_code 160 = .ok (.bipush 6, 2) := by decide +kernel
theorem d18_162 : decode method_3_code 162 = .ok (.bipush 45, 2) := by decide +kernel
theorem d18_164 : decode method_3_code 164 = .ok (.castore, 1) := by decide +kernel
theorem d18_165 : decode method_3_code 165 = .ok (.dup, 1) := by decide +kernel
theorem d18_166 : decode method_3_code 166 = .ok (.bipush 7, 2) := by decide +kernel
theorem d18_168 : decode method_3_code 168 = .ok (.bipush 112, 2) := by decide +kernel
theorem d18_170 : decode method_3_code 170 = .ok (.castore, 1) := by decide +kernel
theorem d18_171 : decode method_3_code 171 = .ok (.dup, 1) := by decide +kernel
theorem d18_172 : decode method_3_code 172 = .ok (.bipush 8, 2) := by decide +kernel
theorem d18_174 : decode method_3_code 174 = .ok (.bipush 97, 2) := by decide +kernel
theorem d18_176 : decode method_3_code 176 = .ok (.castore, 1) := by decide +kernel
theorem d18_177 : decode method_3_code 177 = .ok (.dup, 1) := by decide +kernel
theorem d18_178 : decode method_3_code 178 = .ok (.bipush 9, 2) := by decide +kernel
theorem d18_180 : decode method_3_code 180 = .ok (.bipush 115, 2) := by decide +kernel
theorem d18_182 : decode method_3_code 182 = .ok (.castore, 1) := by decide +kernel
theorem d18_183 : decode method_3_code 183 = .ok (.dup, 1) := by decide +kernel
theorem d18_184 : decode method_3_code 184 = .ok (.bipush 10, 2) := by decide +kernel
theorem d18_186 : decode method_3_code 186 = .ok (.bipush 115, 2) := by decide +kernel
theorem d18_188 : decode method_3_code 188 = .ok (.castore, 1) := by decide +kernel
theorem d18_189 : decode method_3_code 189 = .ok (.dup, 1) := by decide +kernel
theorem d18_190 : decode method_3_code 190 = .ok (.bipush 11, 2) := by decide +kernel
theorem d18_192 : decode method_3_code 192 = .ok (.bipush 119, 2) := by decide +kernel
theorem d18_194 : decode method_3_code 194 = .ok (.castore, 1) := by decide +kernel
theorem d18_195 : decode method_3_code 195 = .ok (.dup, 1) := by decide +kernel
theorem d18_196 : decode method_3_code 196 = .ok (.bipush 12, 2) := by decide +kernel
theorem d18_198 : decode method_3_code 198 = .ok (.bipush 111, 2) := by decide +kernel
theorem d18_200 : decode method_3_code 200 = .ok (.castore, 1) := by decide +kernel
theorem d18_201 : decode method_3_code 201 = .ok (.dup, 1) := by decide +kernel
theorem d18_202 : decode method_3_code 202 = .ok (.bipush 13, 2) := by decide +kernel
theorem d18_204 : decode method_3_code 204 = .ok (.bipush 114, 2) := by decide +kernel
theorem d18_206 : decode method_3_code 206 = .ok (.castore, 1) := by decide +kernel
theorem d18_207 : decode method_3_code 207 = .ok (.dup, 1) := by decide +kernel
theorem d18_208 : decode method_3_code 208 = .ok (.bipush 14, 2) := by decide +kernel
theorem d18_210 : decode method_3_code 210 = .ok (.bipush 100, 2) := by decide +kernel
theorem d18_212 : decode method_3_code 212 = .ok (.castore, 1) := by decide +kernel
theorem d18_213 : decode method_3_code 213 = .ok (.dup, 1) := by decide +kernel
theorem d18_214 : decode method_3_code 214 = .ok (.bipush 15, 2) := by decide +kernel
theorem d18_216 : decode method_3_code 216 = .ok (.iload_n 1, 1) := by decide +kernel
theorem d18_217 : decode method_3_code 217 = .ok (.castore, 1) := by decide +kernel
theorem d18_218 : decode method_3_code 218 = .ok (.areturn, 1) := by decide +kernel
theorem d19_0 : decode jdk_42_method_139_code 0 = .ok (.getstatic 38, 3) := by decide +kernel
theorem d19_3 : decode jdk_42_method_139_code 3 = .ok (.ifCond .eq 23, 3) := by decide +kernel
theorem d19_6 : decode jdk_42_method_139_code 6 = .ok (.iload_n 0, 1) := by decide +kernel
theorem d19_7 : decode jdk_42_method_139_code 7 = .ok (.invokestatic 1015, 3) := by decide +kernel
theorem d19_10 : decode jdk_42_method_139_code 10 = .ok (.ifCond .eq 16, 3) := by decide +kernel
theorem d19_13 : decode jdk_42_method_139_code 13 = .ok (.new 10, 3) := by decide +kernel
theorem d19_16 : decode jdk_42_method_139_code 16 = .ok (.dup, 1) := by decide +kernel
theorem d19_17 : decode jdk_42_method_139_code 17 = .ok (.iload_n 0, 1) := by decide +kernel
theorem d19_18 : decode jdk_42_method_139_code 18 = .ok (.invokestatic 1018, 3) := by decide +kernel
theorem d19_21 : decode jdk_42_method_139_code 21 = .ok (.iconst 0, 1) := by decide +kernel
theorem d19_22 : decode jdk_42_method_139_code 22 = .ok (.invokespecial 209, 3) := by decide +kernel
theorem d19_25 : decode jdk_42_method_139_code 25 = .ok (.areturn, 1) := by decide +kernel
theorem d20_0 : decode jdk_43_method_3_code 0 = .ok (.iload_n 0, 1) := by decide +kernel
theorem d20_1 : decode jdk_43_method_3_code 1 = .ok (.sipush 255, 3) := by decide +kernel
theorem d20_4 : decode jdk_43_method_3_code 4 = .ok (.if_icmp .gt 7, 3) := by decide +kernel
theorem d20_7 : decode jdk_43_method_3_code 7 = .ok (.iconst 1, 1) := by decide +kernel
theorem d20_8 : decode jdk_43_method_3_code 8 = .ok (.goto 4, 3) := by decide +kernel
theorem d20_12 : decode jdk_43_method_3_code 12 = .ok (.ireturn, 1) := by decide +kernel
theorem d21_0 : decode jdk_43_method_46_code 0 = .ok (.iconst 1, 1) := by decide +kernel
theorem d21_1 : decode jdk_43_method_46_code 1 = .ok (.newarray .byte, 2) := by decide +kernel
theorem d21_3 : decode jdk_43_method_46_code 3 = .ok (.dup, 1) := by decide +kernel
theorem d21_4 : decode jdk_43_method_46_code 4 = .ok (.iconst 0, 1) := by decide +kernel
theorem d21_5 : decode jdk_43_method_46_code 5 = .ok (.iload_n 0, 1) := by decide +kernel
theorem d21_6 : decode jdk_43_method_46_code 6 = .ok (.i2b, 1) := by decide +kernel
theorem d21_7 : decode jdk_43_method_46_code 7 = .ok (.bastore, 1) := by decide +kernel
theorem d21_8 : decode jdk_43_method_46_code 8 = .ok (.areturn, 1) := by decide +kernel
theorem d22_0 : decode jdk_42_method_151_code 0 = .ok (.aload_n 0, 1) := by decide +kernel
theorem d22_1 : decode jdk_42_method_151_code 1 = .ok (.invokespecial 1, 3) := by decide +kernel
theorem d22_4 : decode jdk_42_method_151_code 4 = .ok (.aload_n 0, 1) := by decide +kernel
theorem d22_5 : decode jdk_42_method_151_code 5 = .ok (.aload_n 1, 1) := by decide +kernel
theorem d22_6 : decode jdk_42_method_151_code 6 = .ok (.putfield 9, 3) := by decide +kernel
theorem d22_9 : decode jdk_42_method_151_code 9 = .ok (.aload_n 0, 1) := by decide +kernel
theorem d22_10 : decode jdk_42_method_151_code 10 = .ok (.iload_n 2, 1) := by decide +kernel
theorem d22_11 : decode jdk_42_method_151_code 11 = .ok (.putfield 15, 3) := by decide +kernel
theorem d22_14 : decode jdk_42_method_151_code 14 = .ok (.return_, 1) := by decide +kernel
theorem pd_0 : parseMethodDescriptor "(C)Z" = some ⟨[.char], some .boolean⟩ := by decide +kernel
theorem pd_1 : parseMethodDescriptor "(C)[B" = some ⟨[.char], some (.array .byte)⟩ := by decide +kernel
theorem pd_2 : parseMethodDescriptor "([BB)V" = some ⟨[(.array .byte), .byte], none⟩ := by decide +kernel
theorem pd_3 : parseMethodDescriptor "()[Ldev/portcullis/cli/HashPasswordCommand$Option;" = some ⟨[], some (.array (.object "dev/portcullis/cli/HashPasswordCommand$Option"))⟩ := by decide +kernel
theorem pd_4 : parseMethodDescriptor "(Ljava/lang/Object;)Z" = some ⟨[(.object "java/lang/Object")], some .boolean⟩ := by decide +kernel
theorem pd_5 : parseMethodDescriptor "(Ljava/lang/String;)Ldev/portcullis/cli/HashPasswordCommand$Option;" = some ⟨[(.object "java/lang/String")], some (.object "dev/portcullis/cli/HashPasswordCommand$Option")⟩ := by decide +kernel
theorem pd_6 : parseMethodDescriptor "()I" = some ⟨[], some .int⟩ := by decide +kernel
theorem pd_7 : parseMethodDescriptor "(I)[C" = some ⟨[.int], some (.array .char)⟩ := by decide +kernel
theorem pd_8 : parseMethodDescriptor "([C)V" = some ⟨[(.array .char)], none⟩ := by decide +kernel
theorem pd_9 : parseMethodDescriptor "(I)C" = some ⟨[.int], some .char⟩ := by decide +kernel
theorem pd_10 : parseMethodDescriptor "(IC)[C" = some ⟨[.int, .char], some (.array .char)⟩ := by decide +kernel
theorem pd_11 : parseMethodDescriptor "(C)Ljava/lang/String;" = some ⟨[.char], some (.object "java/lang/String")⟩ := by decide +kernel
theorem pn_0 : plainName "java/lang/StringLatin1" = true := by first | (simp [plainName, overriddenIn]; done) | decide +kernel
theorem pn_1 : plainName "java/lang/String" = true := by first | (simp [plainName, overriddenIn]; done) | decide +kernel
theorem pn_2 : plainName "dev/portcullis/cli/HashPasswordCommand$Option" = true := by first | (simp [plainName, overriddenIn]; done) | decide +kernel
theorem pn_3 : plainName "dev/portcullis/cli/OptionTypedPinLaw" = true := by first | (simp [plainName, overriddenIn]; done) | decide +kernel
def Q_l1_can (Z : State) (c : Int32) (h0 : Heap) : Option Value → (Addr → Prop) → Heap → Prop := fun v _ h => v = some (.int 1) ∧ h = h0
theorem ef_l1_can (m : MethodId) (c : Int32) : entryFrame m #[(.int c)] 1 = mkF m 0 #[.val (.int c)] [] := by first | (simp [entryFrame, mkF, argsToLocals, Value.category]; done) | rfl
set_option maxRecDepth 65536 in
set_option maxHeartbeats 40000000 in
theorem l1_can (l : Launch) (Z : State) (a0 : Array Value) (G : Wld Z a0) (c : Int32) (h0 : Heap) (hc : ¬ (255 : Int32) < c) :
    Met l Z consts_1 (⟨"java/lang/StringLatin1", "canEncode", "(C)Z"⟩ : MethodName) jdk_43_method_3_code 1 (some .boolean) ({ frames := 0, cells := 0, slots := 0, locals := 0 } : Room) #[(.int c)] h0 [] [] (Q_l1_can Z c h0) := by
  have hw := G.1
  have hEL := G.2.1
  refine Met.intro (a0 := a0) hEL pn_0 ?_
  intro pP eE sS mM bB mE cC T0 X0 hml hby hret hnm hlk hs0
  have hz0 : sS.heap.size = h0.size := by rw [hs0]
  have n0 : Z.heap.size ≤ h0.size := X0.ext0.1
  refine Go.cast (ef_l1_can mM c) ?_
  refine Go.of (T' := T0) (g' := (mkF mM 1 #[.val (.int c)] [(.int c)])) (fun _ k => XS.iloadN X0.hh X0.hx rfl (hb hby d20_0) rfl k) ?_
  refine Go.of (T' := T0) (g' := (mkF mM 4 #[.val (.int c)] [(.int (255 : Int32)), (.int c)])) (fun _ k => XS.sipush X0.hh X0.hx rfl (hb hby d20_1) k) ?_
  refine Go.of (T' := T0) (g' := (mkF mM 7 #[.val (.int c)] [])) (fun _ k => XS.icmpNo X0.hh X0.hx rfl (hb hby d20_4) rfl (flt hc).2.2.1 k) ?_
  refine Go.of (T' := T0) (g' := (mkF mM 8 #[.val (.int c)] [(.int (1 : Int32))])) (fun _ k => XS.iconst X0.hh X0.hx rfl (hb hby d20_7) k) ?_
  refine Go.of (T' := T0) (g' := (mkF mM 12 #[.val (.int c)] [(.int (1 : Int32))])) (fun _ k => XS.goto X0.hh X0.hx rfl (pc0 := 8) (pc' := 12) rfl (hb hby d20_8) (by decide) (by decide) k) ?_
  exact X0.nret (t := .boolean) hret (by simp) hlk (by decide) (by decide) (hb hby d20_12) (fun S hS => ⟨rfl, rfl⟩)
def Q_l1_bytes (Z : State) (c : Int32) (h0 : Heap) : Option Value → (Addr → Prop) → Heap → Prop := fun v _ h => ∃ (t : Nat) (kb : ClassId), v = some (.ref t) ∧ h0.size ≤ t ∧ Arv Z h t kb .byte (1 : Int32) [.int c.toInt8.toInt32] (.int 0)
theorem ef_l1_bytes (m : MethodId) (c : Int32) : entryFrame m #[(.int c)] 1 = mkF m 0 #[.val (.int c)] [] := by first | (simp [entryFrame, mkF, argsToLocals, Value.category]; done) | rfl
set_option maxRecDepth 65536 in
set_option maxHeartbeats 40000000 in
theorem l1_bytes (l : Launch) (Z : State) (a0 : Array Value) (G : Wld Z a0) (c : Int32) (h0 : Heap)  :
    Met l Z consts_1 (⟨"java/lang/StringLatin1", "toBytes", "(C)[B"⟩ : MethodName) jdk_43_method_46_code 1 (some (.array .byte)) ({ frames := 0, cells := 1, slots := 1, locals := 0 } : Room) #[(.int c)] h0 [] [] (Q_l1_bytes Z c h0) := by
  have hw := G.1
  have hEL := G.2.1
  refine Met.intro (a0 := a0) hEL pn_0 ?_
  intro pP eE sS mM bB mE cC T0 X0 hml hby hret hnm hlk hs0
  have hz0 : sS.heap.size = h0.size := by rw [hs0]
  have n0 : Z.heap.size ≤ h0.size := X0.ext0.1
  refine Go.cast (ef_l1_bytes mM c) ?_
  refine Go.of (T' := T0) (g' := (mkF mM 1 #[.val (.int c)] [(.int (1 : Int32))])) (fun _ k => XS.iconst X0.hh X0.hx rfl (hb hby d21_0) k) ?_
  refine X0.newP (cap := 1) (hw _ (List.mem_of_getElem? (i := 4) rfl)) (hb hby d21_1) (by decide) (by decide) (by decide) (by decide) (by decide) ?_
  intro T1 h1 t kc_t g_t X1 E1 V_t
  have z1 : h0.size ≤ h1.size := E1.1
  have l_t : t < h1.size := V_t.lt
  have V_t : Arv Z h1 t kc_t .byte (1 : Int32) [(.int (0 : Int32))] (.int (0 : Int32)) := Arv.pad V_t (pad_rep [] _ 1)
  show Go pP eE bB _ T1 (mkF mM 3 #[.val (.int c)] [(.ref t)])
  refine Go.of (T' := T1) (g' := (mkF mM 4 #[.val (.int c)] [(.ref t), (.ref t)])) (fun _ k => XS.dup X1.hh X1.hx rfl (hb hby d21_3) rfl rfl k) ?_
  refine Go.of (T' := T1) (g' := (mkF mM 5 #[.val (.int c)] [(.int (0 : Int32)), (.ref t), (.ref t)])) (fun _ k => XS.iconst X1.hh X1.hx rfl (hb hby d21_4) k) ?_
  refine Go.of (T' := T1) (g' := (mkF mM 6 #[.val (.int c)] [(.int c), (.int (0 : Int32)), (.ref t), (.ref t)])) (fun _ k => XS.iloadN X1.hh X1.hx rfl (hb hby d21_5) rfl k) ?_
  refine Go.of (T' := T1) (g' := (mkF mM 7 #[.val (.int c)] [(.int (c.toInt8.toInt32)), (.int (0 : Int32)), (.ref t), (.ref t)])) (fun _ k => XS.i2b X1.hh X1.hx rfl (hb hby d21_6) rfl k) ?_
  refine X1.stB 0 V_t (by decide) rfl (by decide) (by omega) (Or.inr (by omega)) (Sfe.mem (List.mem_of_getElem? (i := 0) rfl)) (hb hby d21_7) ?_
  intro T2 h2 X2 K2 V_t
  have z2 : h1.size ≤ h2.size := K2.1
  have V_t : Arv Z h2 t kc_t .byte (1 : Int32) [.int c.toInt8.toInt32] (.int 0) := by
    have q : nar .byte (c.toInt8.toInt32) = c.toInt8.toInt32 := b8b8 c
    rw [q] at V_t
    exact V_t
  show Go pP eE bB _ T2 (mkF mM 8 #[.val (.int c)] [(.ref t)])
  exact X2.aret hret rfl rfl rfl hlk (by decide) (by decide) (hb hby d21_8) (fun S hS => ⟨t, kc_t, rfl, by omega, V_t⟩)
def Q_str_bb (Z : State) (a t : Nat) (h0 : Heap) : Option Value → (Addr → Prop) → Heap → Prop := fun v _ h => v = none ∧ Exa Z h a "java/lang/String" ∧ Fld Z h a "java/lang/String" "value" "[B" (.ref t) ∧ Fld Z h a "java/lang/String" "coder" "B" (.int 0)
theorem ef_str_bb (m : MethodId) (a t : Nat) : entryFrame m #[(.ref a), (.ref t), (.int (0 : Int32))] 3 = mkF m 0 #[.val (.ref a), .val (.ref t), .val (.int (0 : Int32))] [] := by first | (simp [entryFrame, mkF, argsToLocals, Value.category]; done) | rfl
set_option maxRecDepth 65536 in
set_option maxHeartbeats 40000000 in
theorem str_bb (l : Launch) (Z : State) (a0 : Array Value) (G : Wld Z a0) (a t : Nat) (h0 : Heap) (E : Exa Z h0 a "java/lang/String") (Fv : Fld Z h0 a "java/lang/String" "value" "[B" .null) (Fc : Fld Z h0 a "java/lang/String" "coder" "B" (.int (0 : Int32))) (ga : Z.heap.size ≤ a) :
    Met l Z consts_1 (⟨"java/lang/String", "<init>", "([BB)V"⟩ : MethodName) jdk_42_method_151_code 3 none ({ frames := 1, cells := 0, slots := 0, locals := 12 } : Room) #[(.ref a), (.ref t), (.int (0 : Int32))] h0 [a] [a] (Q_str_bb Z a t h0) := by
  have hw := G.1
  have hEL := G.2.1
  refine Met.intro (a0 := a0) hEL pn_1 ?_
  intro pP eE sS mM bB mE cC T0 X0 hml hby hret hnm hlk hs0
  have hz0 : sS.heap.size = h0.size := by rw [hs0]
  have n0 : Z.heap.size ≤ h0.size := X0.ext0.1
  refine Go.cast (ef_str_bb mM a t) ?_
  have l_a : a < h0.size := E.lt
  refine Go.of (T' := T0) (g' := (mkF mM 1 #[.val (.ref a), .val (.ref t), .val (.int (0 : Int32))] [(.ref a)])) (fun _ k => XS.aloadN X0.hh X0.hx rfl (hb hby d22_0) rfl rfl k) ?_
  refine X0.initO (W := 0) (hw _ (List.mem_of_getElem? (i := 38) rfl)) (hw _ (List.mem_of_getElem? (i := 39) rfl)) (hw _ (List.mem_of_getElem? (i := 40) rfl)) (by rw [hml]; rfl) (hb hby d22_1) (by decide) rfl (by decide) ?_
  intro T1 X1
  show Go pP eE bB _ T1 (mkF mM 4 #[.val (.ref a), .val (.ref t), .val (.int (0 : Int32))] [])
  refine Go.of (T' := T1) (g' := (mkF mM 5 #[.val (.ref a), .val (.ref t), .val (.int (0 : Int32))] [(.ref a)])) (fun _ k => XS.aloadN X1.hh X1.hx rfl (hb hby d22_4) rfl rfl k) ?_
  refine Go.of (T' := T1) (g' := (mkF mM 6 #[.val (.ref a), .val (.ref t), .val (.int (0 : Int32))] [(.ref t), (.ref a)])) (fun _ k => XS.aloadN X1.hh X1.hx rfl (hb hby d22_5) rfl rfl k) ?_
  refine X1.putF (host := "") (Or.inl (hw _ (List.mem_of_getElem? (i := 17) rfl))) Via.refl Fv E (Or.inr ⟨(hw _ (List.mem_of_getElem? (i := 5) rfl)), rfl, hnm⟩) (hw _ (List.mem_of_getElem? (i := 3) rfl)) (ty := (.array .byte)) (by decide) rfl rfl (by omega) (Or.inl (List.mem_of_getElem? (i := 0) rfl)) (Sfe.mem (List.mem_of_getElem? (i := 0) rfl)) (hb hby d22_6) ?_
  intro T2 h2 X2 K2 W2
  have z2 : h0.size ≤ h2.size := K2.1
  have F_value_a := Fv.same W2
  show Go pP eE bB _ T2 (mkF mM 9 #[.val (.ref a), .val (.ref t), .val (.int (0 : Int32))] [])
  refine Go.of (T' := T2) (g' := (mkF mM 10 #[.val (.ref a), .val (.ref t), .val (.int (0 : Int32))] [(.ref a)])) (fun _ k => XS.aloadN X2.hh X2.hx rfl (hb hby d22_9) rfl rfl k) ?_
  refine Go.of (T' := T2) (g' := (mkF mM 11 #[.val (.ref a), .val (.ref t), .val (.int (0 : Int32))] [(.int (0 : Int32)), (.ref a)])) (fun _ k => XS.iloadN X2.hh X2.hx rfl (hb hby d22_10) rfl k) ?_
  have Fc := (Fc.other W2 (Or.inr (slot_ne (a0 := a0) (Or.inr (hw _ (List.mem_of_getElem? (i := 6) rfl))) (Or.inr (hw _ (List.mem_of_getElem? (i := 5) rfl))) (by decide) (t := .byte) (t' := (.array .byte)) (by decide) (by decide))))
  have E := (E.keep K2)
  refine X2.putFN (ty := .byte) (v' := (.int (0 : Int32))) (hw _ (List.mem_of_getElem? (i := 24) rfl)) Via.refl Fc E (Or.inr ⟨(hw _ (List.mem_of_getElem? (i := 6) rfl)), rfl, hnm⟩) (hw _ (List.mem_of_getElem? (i := 3) rfl)) (by decide) rfl rfl (by omega) (Or.inl (List.mem_of_getElem? (i := 0) rfl)) (Sfe.mem (List.mem_of_getElem? (i := 0) rfl)) (hb hby d22_11) ?_
  intro T3 h3 X3 K3 W3
  have z3 : h2.size ≤ h3.size := K3.1
  have F_coder_a := Fc.same W3
  show Go pP eE bB _ T3 (mkF mM 14 #[.val (.ref a), .val (.ref t), .val (.int (0 : Int32))] [])
  have F_value_a := (F_value_a.other W3 (Or.inr (slot_ne (a0 := a0) (Or.inr (hw _ (List.mem_of_getElem? (i := 5) rfl))) (Or.inr (hw _ (List.mem_of_getElem? (i := 6) rfl))) (by decide) (t := (.array .byte)) (t' := .byte) (by decide) (by decide))))
  have E := (E.keep K3)
  exact X3.vret hret hlk (by decide) (by decide) (hb hby d22_14) (fun S hS => ⟨rfl, E, F_value_a, F_coder_a⟩)
def Q_str_valueOf (Z : State) (c : Int32) (h0 : Heap) : Option Value → (Addr → Prop) → Heap → Prop := fun v _ h => ∃ (r t : Nat) (kb : ClassId), v = some (.ref r) ∧ h0.size ≤ r ∧ Str Z h r t kb [c]
theorem ef_str_valueOf (m : MethodId) (c : Int32) : entryFrame m #[(.int c)] 1 = mkF m 0 #[.val (.int c)] [] := by first | (simp [entryFrame, mkF, argsToLocals, Value.category]; done) | rfl
set_option maxRecDepth 65536 in
set_option maxHeartbeats 40000000 in
theorem str_valueOf (l : Launch) (Z : State) (a0 : Array Value) (G : Wld Z a0) (c : Int32) (h0 : Heap) (hc : ¬ c < 0 ∧ ¬ (255 : Int32) < c) :
    Met l Z consts_1 (⟨"java/lang/String", "valueOf", "(C)Ljava/lang/String;"⟩ : MethodName) jdk_42_method_139_code 1 (some (.object "java/lang/String")) ({ frames := 2, cells := 2, slots := 5, locals := 27 } : Room) #[(.int c)] h0 [] [] (Q_str_valueOf Z c h0) := by
  have hw := G.1
  have hEL := G.2.1
  refine Met.intro (a0 := a0) hEL pn_1 ?_
  intro pP eE sS mM bB mE cC T0 X0 hml hby hret hnm hlk hs0
  have hz0 : sS.heap.size = h0.size := by rw [hs0]
  have n0 : Z.heap.size ≤ h0.size := X0.ext0.1
  refine Go.cast (ef_str_valueOf mM c) ?_
  obtain ⟨zc, Sc, hzc⟩ := G.2.2.1
  refine X0.getS (host := "") (Or.inl (hw _ (List.mem_of_getElem? (i := 23) rfl))) Via.refl (Sc.ext X0.ext0) (hb hby d19_0) ?_
  intro T1 X1
  show Go pP eE bB _ T1 (mkF mM 3 #[.val (.int c)] [(.int zc)])
  refine Go.of (T' := T1) (g' := (mkF mM 6 #[.val (.int c)] [])) (fun _ k => XS.ifNo X1.hh X1.hx rfl (hb hby d19_3) rfl ((if0 _ _).trans (feq hzc).1) k) ?_
  refine Go.of (T' := T1) (g' := (mkF mM 7 #[.val (.int c)] [(.int c)])) (fun _ k => XS.iloadN X1.hh X1.hx rfl (hb hby d19_6) rfl k) ?_
  refine X1.callS (W := 0) (argsL := [(.int c)]) (rest := []) (hw _ (List.mem_of_getElem? (i := 115) rfl)) (hw _ (List.mem_of_getElem? (i := 116) rfl)) (hw _ (List.mem_of_getElem? (i := 63) rfl)) (hw _ (List.mem_of_getElem? (i := 117) rfl)) (by decide) (l1_can l Z a0 G c h0 hc.2) pd_0 rfl rfl rfl (by rw [hml]; rfl) (by decide) (by decide) (by decide) (by decide) (hb hby d19_7) all0 all0 ?_
  intro v2 T2 h2 S2 X2 K2 Q2
  obtain ⟨rfl, e1⟩ := Q2
  have X2 := X2 [] all0
  have z2 : h0.size ≤ h2.size := K2.1
  show Go pP eE bB _ T2 (mkF mM 10 #[.val (.int c)] [(.int (1 : Int32))])
  refine Go.of (T' := T2) (g' := (mkF mM 13 #[.val (.int c)] [])) (fun _ k => XS.ifNo X2.hh X2.hx rfl (hb hby d19_10) rfl ((if0 _ _).trans (feq (by decide)).1) k) ?_
  refine X2.newO (hw _ (List.mem_of_getElem? (i := 100) rfl)) (hw _ (List.mem_of_getElem? (i := 3) rfl)) (hw _ (List.mem_of_getElem? (i := 2) rfl)) (hb hby d19_13) (by decide) (by decide) ?_
  intro T3 h3 r g_r X3 E3 A_r D_r
  have z3 : h2.size ≤ h3.size := E3.1
  have l_r : r < h3.size := A_r.lt
  have F_value_r : Fld Z h3 r "java/lang/String" "value" "[B" .null := D_r (Or.inr (hw _ (List.mem_of_getElem? (i := 5) rfl))) (ty := (.array .byte)) (by decide)
  have F_coder_r : Fld Z h3 r "java/lang/String" "coder" "B" (.int (0 : Int32)) := D_r (Or.inr (hw _ (List.mem_of_getElem? (i := 6) rfl))) (ty := .byte) (by decide)
  show Go pP eE bB _ T3 (mkF mM 16 #[.val (.int c)] [(.ref r)])
  refine Go.of (T' := T3) (g' := (mkF mM 17 #[.val (.int c)] [(.ref r), (.ref r)])) (fun _ k => XS.dup X3.hh X3.hx rfl (hb hby d19_16) rfl rfl k) ?_
  refine Go.of (T' := T3) (g' := (mkF mM 18 #[.val (.int c)] [(.int c), (.ref r), (.ref r)])) (fun _ k => XS.iloadN X3.hh X3.hx rfl (hb hby d19_17) rfl k) ?_
  refine X3.callS (W := 2) (argsL := [(.int c)]) (rest := [(.ref r), (.ref r)]) (hw _ (List.mem_of_getElem? (i := 118) rfl)) (hw _ (List.mem_of_getElem? (i := 119) rfl)) (hw _ (List.mem_of_getElem? (i := 63) rfl)) (hw _ (List.mem_of_getElem? (i := 120) rfl)) (by decide) (l1_bytes l Z a0 G c h3) pd_1 rfl rfl rfl (by rw [hml]; rfl) (by decide) (by decide) (by decide) (by decide) (hb hby d19_18) all0 all0 ?_
  intro v4 T4 h4 S4 X4 K4 Q4
  obtain ⟨t, kb, rfl, gt, Vt⟩ := Q4
  have X4 := X4 [] all0
  have z4 : h3.size ≤ h4.size := K4.1
  show Go pP eE bB _ T4 (mkF mM 21 #[.val (.int c)] [(.ref t), (.ref r), (.ref r)])
  have lt_t : t < h4.size := Vt.lt
  refine Go.of (T' := T4) (g' := (mkF mM 22 #[.val (.int c)] [(.int (0 : Int32)), (.ref t), (.ref r), (.ref r)])) (fun _ k => XS.iconst X4.hh X4.hx rfl (hb hby d19_21) k) ?_
  have A_r := (A_r.keep K4)
  have F_value_r := (F_value_r.keep K4 nin0)
  have F_coder_r := (F_coder_r.keep K4 nin0)
  refine X4.callC (W := 1) (argsL := [(.ref t), (.int (0 : Int32))]) (rest := [(.ref r)]) (a := r) rfl (hw _ (List.mem_of_getElem? (i := 121) rfl)) (hw _ (List.mem_of_getElem? (i := 122) rfl)) (hw _ (List.mem_of_getElem? (i := 2) rfl)) (hw _ (List.mem_of_getElem? (i := 123) rfl)) (by decide) (str_bb l Z a0 G r t h4 A_r F_value_r F_coder_r (by omega)) pd_2 rfl rfl rfl (by rw [hml]; rfl) (by decide) (by decide) (by decide) (by decide) (hb hby d19_22) (allS (Or.inr (by omega)) all0) (allS (Sfe.mem (List.mem_of_getElem? (i := 0) rfl)) all0) ?_
  intro v5 T5 h5 S5 X5 K5 Q5
  obtain ⟨rfl, e1, e2, e3⟩ := Q5
  have X5 := X5 [] all0
  have z5 : h4.size ≤ h5.size := K5.1
  show Go pP eE bB _ T5 (mkF mM 25 #[.val (.int c)] [(.ref r)])
  have Vt := (Vt.keep K5 (ninN (by omega) nin0))
  exact X5.aret hret rfl rfl rfl hlk (by decide) (by decide) (hb hby d19_25) (fun S hS => ⟨r, t, kb, rfl, by omega, e1, e2, e3, Vt, (fun d hd => by rw [List.mem_singleton.mp hd]; exact hc), Nat.le_of_ble_eq_true rfl⟩)
def pickO (cs : List Int32) (o0 o1 o2 : Addr) : Value := if cs = W0 then .ref o0 else if cs = W1 then .ref o1 else if cs = W2 then .ref o2 else .null
theorem pickO_ref (cs : List Int32) (o0 o1 o2 : Addr) : (pickO cs o0 o1 o2).isRef = true := by
  unfold pickO
  repeat' split <;> try rfl
def Q_opt_values (Z : State) (o0 o1 o2 va w0 w1 w2 t0 t1 t2 : Nat) (kv k0 k1 k2 : ClassId) (h0 : Heap) : Option Value → (Addr → Prop) → Heap → Prop := fun v _ h => ∃ b : Nat, v = some (.ref b) ∧ Arv Z h b kv (.object "dev/portcullis/cli/HashPasswordCommand$Option") (3 : Int32) [.ref o0, .ref o1, .ref o2] .null
theorem ef_opt_values (m : MethodId) (o0 o1 o2 va w0 w1 w2 t0 t1 t2 : Nat) (kv k0 k1 k2 : ClassId) : entryFrame m #[] 0 = mkF m 0 #[] [] := by first | (simp [entryFrame, mkF, argsToLocals, Value.category]; done) | rfl
set_option maxRecDepth 65536 in
set_option maxHeartbeats 40000000 in
theorem opt_values (l : Launch) (Z : State) (a0 : Array Value) (G : Wld Z a0) (o0 o1 o2 va w0 w1 w2 t0 t1 t2 : Nat) (kv k0 k1 k2 : ClassId) (h0 : Heap) (O : Opts Z o0 o1 o2 va w0 w1 w2 t0 t1 t2 kv k0 k1 k2) :
    Met l Z consts_1 (⟨"dev/portcullis/cli/HashPasswordCommand$Option", "values", "()[Ldev/portcullis/cli/HashPasswordCommand$Option;"⟩ : MethodName) prog_55_method_1_code 0 (some (.array (.object "dev/portcullis/cli/HashPasswordCommand$Option"))) ({ frames := 1, cells := 1, slots := 3, locals := 14 } : Room) #[] h0 [] [] (Q_opt_values Z o0 o1 o2 va w0 w1 w2 t0 t1 t2 kv k0 k1 k2 h0) := by
  have hw := G.1
  have hEL := G.2.1
  refine Met.intro (a0 := a0) hEL pn_2 ?_
  intro pP eE sS mM bB mE cC T0 X0 hml hby hret hnm hlk hs0
  have hz0 : sS.heap.size = h0.size := by rw [hs0]
  have n0 : Z.heap.size ≤ h0.size := X0.ext0.1
  refine Go.cast (ef_opt_values mM o0 o1 o2 va w0 w1 w2 t0 t1 t2 kv k0 k1 k2) ?_
  obtain ⟨Si, Ss, Sw, Sv, Av, Ev, ⟨E0, Fw0, S0⟩, ⟨E1, Fw1, S1⟩, ⟨E2, Fw2, S2⟩⟩ := O
  refine X0.getS (host := "") (Or.inl (hw _ (List.mem_of_getElem? (i := 79) rfl))) Via.refl (Sv.ext X0.ext0) (hb hby d15_0) ?_
  intro T1 X1
  show Go pP eE bB _ T1 (mkF mM 3 #[] [(.ref va)])
  have Av := Av.ext X1.ext0
  have Ev := Ev.ext X1.ext0
  refine X1.clone (W := 0) (cap := 3) (hw _ (List.mem_of_getElem? (i := 81) rfl)) (hw _ (List.mem_of_getElem? (i := 82) rfl)) (hw _ (List.mem_of_getElem? (i := 86) rfl)) (hw _ (List.mem_of_getElem? (i := 84) rfl)) (hw _ (List.mem_of_getElem? (i := 85) rfl)) (hw _ (List.mem_of_getElem? (i := 87) rfl)) Av Ev (by rw [hml]; rfl) (hb hby d15_3) (by decide) rfl (by decide) (by decide) (by decide) (by decide) ?_
  intro T2 h2 b g_b X2 E2' V_b A_b
  have E2 := E2'
  have z2 : h0.size ≤ h2.size := E2.1
  show Go pP eE bB _ T2 (mkF mM 6 #[] [(.ref b)])
  refine X2.castY (hw _ (List.mem_of_getElem? (i := 91) rfl)) (Ins.self A_b) (hb hby d15_6) ?_
  intro T3 X3
  show Go pP eE bB _ T3 (mkF mM 9 #[] [(.ref b)])
  exact X3.aret hret rfl rfl rfl hlk (by decide) (by decide) (hb hby d15_9) (fun S hS => ⟨b, rfl, V_b⟩)
def Q_opt_typed (Z : State) (x t : Nat) (kb : ClassId) (cs : List Int32) (o0 o1 o2 va w0 w1 w2 t0 t1 t2 : Nat) (kv k0 k1 k2 : ClassId) (h0 : Heap) : Option Value → (Addr → Prop) → Heap → Prop := fun v _ h => v = some (pickO cs o0 o1 o2)
theorem ef_opt_typed (m : MethodId) (x t : Nat) (kb : ClassId) (cs : List Int32) (o0 o1 o2 va w0 w1 w2 t0 t1 t2 : Nat) (kv k0 k1 k2 : ClassId) : entryFrame m #[(.ref x)] 5 = mkF m 0 #[.val (.ref x), .unset, .unset, .unset, .unset] [] := by first | (simp [entryFrame, mkF, argsToLocals, Value.category]; done) | rfl
set_option maxRecDepth 65536 in
set_option maxHeartbeats 40000000 in
theorem opt_typed (l : Launch) (Z : State) (a0 : Array Value) (G : Wld Z a0) (x t : Nat) (kb : ClassId) (cs : List Int32) (o0 o1 o2 va w0 w1 w2 t0 t1 t2 : Nat) (kv k0 k1 k2 : ClassId) (h0 : Heap) (S : Str Z h0 x t kb cs) (O : Opts Z o0 o1 o2 va w0 w1 w2 t0 t1 t2 kv k0 k1 k2) :
    Met l Z consts_1 (⟨"dev/portcullis/cli/HashPasswordCommand$Option", "typed", "(Ljava/lang/String;)Ldev/portcullis/cli/HashPasswordCommand$Option;"⟩ : MethodName) prog_55_method_4_code 5 (some (.object "dev/portcullis/cli/HashPasswordCommand$Option")) ({ frames := 2, cells := 1, slots := 3, locals := 28 } : Room) #[(.ref x)] h0 [] [] (Q_opt_typed Z x t kb cs o0 o1 o2 va w0 w1 w2 t0 t1 t2 kv k0 k1 k2 h0) := by
  have hw := G.1
  have hEL := G.2.1
  refine Met.intro (a0 := a0) hEL pn_2 ?_
  intro pP eE sS mM bB mE cC T0 X0 hml hby hret hnm hlk hs0
  have hz0 : sS.heap.size = h0.size := by rw [hs0]
  have n0 : Z.heap.size ≤ h0.size := X0.ext0.1
  refine Go.cast (ef_opt_typed mM x t kb cs o0 o1 o2 va w0 w1 w2 t0 t1 t2 kv k0 k1 k2) ?_
  obtain ⟨zc, Sc, hzc⟩ := G.2.2.1
  have heq : ∀ d ∈ StrChars.Road.wordsEq, d.before a0 Z = true := fun d hd => hw d ((by decide +kernel : ∀ d ∈ StrChars.Road.wordsEq, d ∈ tables_1) d hd)
  refine X0.callS (W := 0) (argsL := []) (rest := []) (hw _ (List.mem_of_getElem? (i := 76) rfl)) (hw _ (List.mem_of_getElem? (i := 77) rfl)) (hw _ (List.mem_of_getElem? (i := 10) rfl)) (hw _ (List.mem_of_getElem? (i := 78) rfl)) (by decide) (opt_values l Z a0 G o0 o1 o2 va w0 w1 w2 t0 t1 t2 kv k0 k1 k2 h0 O) pd_3 rfl rfl rfl (by rw [hml]; rfl) (by decide) (by decide) (by decide) (by decide) (hb hby d14_0) all0 all0 ?_
  intro v1 T1 h1 S1 X1 K1 Q1
  obtain ⟨b, rfl, V_b⟩ := Q1
  have X1 := X1 [] all0
  have z1 : h0.size ≤ h1.size := K1.1
  show Go pP eE bB _ T1 (mkF mM 3 #[.val (.ref x), .unset, .unset, .unset, .unset] [(.ref b)])
  have S := (S.keep K1 nin0 nin0)
  obtain ⟨Si, Ss, Sw, Sv, Av, Ev, ⟨E0, Fw0, S0⟩, ⟨E1, Fw1, S1⟩, ⟨E2, Fw2, S2⟩⟩ := O
  refine Go.of (T' := T1) (g' := (mkF mM 4 #[.val (.ref x), .val (.ref b), .unset, .unset, .unset] [])) (fun _ k => XS.astoreN X1.hh X1.hx rfl (hb hby d14_3) rfl rfl (l' := #[.val (.ref x), .val (.ref b), .unset, .unset, .unset]) rfl k) ?_
  refine Go.of (T' := T1) (g' := (mkF mM 5 #[.val (.ref x), .val (.ref b), .unset, .unset, .unset] [(.ref b)])) (fun _ k => XS.aloadN X1.hh X1.hx rfl (hb hby d14_4) rfl rfl k) ?_
  refine X1.len V_b (hb hby d14_5) ?_
  show Go pP eE bB _ T1 (mkF mM 6 #[.val (.ref x), .val (.ref b), .unset, .unset, .unset] [(.int (3 : Int32))])
  refine Go.of (T' := T1) (g' := (mkF mM 7 #[.val (.ref x), .val (.ref b), .val (.int (3 : Int32)), .unset, .unset] [])) (fun _ k => XS.istoreN X1.hh X1.hx rfl (hb hby d14_6) rfl (l' := #[.val (.ref x), .val (.ref b), .val (.int (3 : Int32)), .unset, .unset]) rfl k) ?_
  refine Go.of (T' := T1) (g' := (mkF mM 8 #[.val (.ref x), .val (.ref b), .val (.int (3 : Int32)), .unset, .unset] [(.int (0 : Int32))])) (fun _ k => XS.iconst X1.hh X1.hx rfl (hb hby d14_7) k) ?_
  refine Go.of (T' := T1) (g' := (mkF mM 9 #[.val (.ref x), .val (.ref b), .val (.int (3 : Int32)), .val (.int (0 : Int32)), .unset] [])) (fun _ k => XS.istoreN X1.hh X1.hx rfl (hb hby d14_8) rfl (l' := #[.val (.ref x), .val (.ref b), .val (.int (3 : Int32)), .val (.int (0 : Int32)), .unset]) rfl k) ?_
  refine Go.of (T' := T1) (g' := (mkF mM 10 #[.val (.ref x), .val (.ref b), .val (.int (3 : Int32)), .val (.int (0 : Int32)), .unset] [(.int (0 : Int32))])) (fun _ k => XS.iloadN X1.hh X1.hx rfl (hb hby d14_9) rfl k) ?_
  refine Go.of (T' := T1) (g' := (mkF mM 11 #[.val (.ref x), .val (.ref b), .val (.int (3 : Int32)), .val (.int (0 : Int32)), .unset] [(.int (3 : Int32)), (.int (0 : Int32))])) (fun _ k => XS.iloadN X1.hh X1.hx rfl (hb hby d14_10) rfl k) ?_
  have Fw0 := Fw0.ext X1.ext0
  have S0 := S0.ext X1.ext0
  have Fw1 := Fw1.ext X1.ext0
  have S1 := S1.ext X1.ext0
  have Fw2 := Fw2.ext X1.ext0
  have S2 := S2.ext X1.ext0
  -- turn 0
  refine Go.of (T' := T1) (g' := (mkF mM 14 #[.val (.ref x), .val (.ref b), .val (.int (3 : Int32)), .val (.int (0 : Int32)), .unset] [])) (fun _ k => XS.icmpNo X1.hh X1.hx rfl (hb hby d14_11) rfl (tlt (by decide)).2.1 k) ?_
  refine Go.of (T' := T1) (g' := (mkF mM 15 #[.val (.ref x), .val (.ref b), .val (.int (3 : Int32)), .val (.int (0 : Int32)), .unset] [(.ref b)])) (fun _ k => XS.aloadN X1.hh X1.hx rfl (hb hby d14_14) rfl rfl k) ?_
  refine Go.of (T' := T1) (g' := (mkF mM 16 #[.val (.ref x), .val (.ref b), .val (.int (3 : Int32)), .val (.int (0 : Int32)), .unset] [(.int (0 : Int32)), (.ref b)])) (fun _ k => XS.iloadN X1.hh X1.hx rfl (hb hby d14_15) rfl k) ?_
  refine X1.ldR V_b rfl (by decide) rfl (hb hby d14_16) ?_
  show Go pP eE bB _ T1 (mkF mM 17 #[.val (.ref x), .val (.ref b), .val (.int (3 : Int32)), .val (.int (0 : Int32)), .unset] [(.ref o0)])
  refine Go.of (T' := T1) (g' := (mkF mM 19 #[.val (.ref x), .val (.ref b), .val (.int (3 : Int32)), .val (.int (0 : Int32)), .val (.ref o0)] [])) (fun _ k => XS.astore X1.hh X1.hx rfl (hb hby d14_17) rfl rfl (l' := #[.val (.ref x), .val (.ref b), .val (.int (3 : Int32)), .val (.int (0 : Int32)), .val (.ref o0)]) rfl k) ?_
  refine Go.of (T' := T1) (g' := (mkF mM 21 #[.val (.ref x), .val (.ref b), .val (.int (3 : Int32)), .val (.int (0 : Int32)), .val (.ref o0)] [(.ref o0)])) (fun _ k => XS.aload X1.hh X1.hx rfl (hb hby d14_19) rfl rfl k) ?_
  refine X1.getF (host := "") (Or.inl (hw _ (List.mem_of_getElem? (i := 93) rfl))) Via.refl Fw0 (hb hby d14_21) ?_
  intro T2 X2
  show Go pP eE bB _ T2 (mkF mM 24 #[.val (.ref x), .val (.ref b), .val (.int (3 : Int32)), .val (.int (0 : Int32)), .val (.ref o0)] [(.ref w0)])
  refine Go.of (T' := T2) (g' := (mkF mM 25 #[.val (.ref x), .val (.ref b), .val (.int (3 : Int32)), .val (.int (0 : Int32)), .val (.ref o0)] [(.ref x), (.ref w0)])) (fun _ k => XS.aloadN X2.hh X2.hx rfl (hb hby d14_24) rfl rfl k) ?_
  refine X2.callVN (W := 0) (argsL := [(.ref x)]) (rest := []) (nc := 0) (ns := 0) (ws' := []) (Qn := fun v h' L => ((v = some (.int 1) ∧ W0 = cs) ∨ (v = some (.int 0) ∧ ¬ W0 = cs)) ∧ L = [] ∧ h' = h1) (a := w0) (C := "java/lang/String") (z := (⟨"java/lang/String", "equals", "(Ljava/lang/Object;)Z"⟩ : MethodName)) (hw _ (List.mem_of_getElem? (i := 95) rfl)) (hw _ (List.mem_of_getElem? (i := 96) rfl)) (fun _ q => notFace_of_selects (args := #[]) (mvT q (hw _ (List.mem_of_getElem? (i := 98) rfl)))) (hw _ (List.mem_of_getElem? (i := 98) rfl)) (hw _ (List.mem_of_getElem? (i := 97) rfl)) (by decide) (fun vm0 hZ => StrChars.Road.eqW (s := sS.setVm vm0) (W := 0) hZ heq (kI := 4) (hw _ (List.mem_of_getElem? (i := 3) rfl)) S0.1 S0.2.1 S0.2.2.1 S0.2.2.2.1 (StrChars.Road.codOf rfl fun c hc => (S0.2.2.2.2.1 c hc).2) S0.up S0.2.2.2.2.2 S.1 S.2.1 S.2.2.1 S.2.2.2.1 (StrChars.Road.codOf rfl fun c hc => (S.2.2.2.2.1 c hc).2) S.up S.2.2.2.2.2 (Sc.ext X2.ext0) hzc (by decide) (by decide)) (fun v h' L q => by obtain ⟨-, rfl, rfl⟩ := q; exact ⟨Fr.nil _, Keep.refl _ _⟩) S0.1 pd_4 rfl rfl rfl (by rw [hml]; rfl) (by decide) (by decide) (hb hby d14_25) all0 all0 all0 ?_
  intro v3 T3 h3 X3 K3 Q3
  obtain ⟨_, hv3, -, e3⟩ := Q3
  rw [e3] at X3
  rcases hv3 with ⟨rfl, q0⟩ | ⟨rfl, q0⟩
  · show Go pP eE bB _ T3 (mkF mM 28 #[.val (.ref x), .val (.ref b), .val (.int (3 : Int32)), .val (.int (0 : Int32)), .val (.ref o0)] [(.int (1 : Int32))])
    refine Go.of (T' := T3) (g' := (mkF mM 31 #[.val (.ref x), .val (.ref b), .val (.int (3 : Int32)), .val (.int (0 : Int32)), .val (.ref o0)] [])) (fun _ k => XS.ifNo X3.hh X3.hx rfl (hb hby d14_28) rfl ((if0 _ _).trans (feq (by decide)).1) k) ?_
    refine Go.of (T' := T3) (g' := (mkF mM 33 #[.val (.ref x), .val (.ref b), .val (.int (3 : Int32)), .val (.int (0 : Int32)), .val (.ref o0)] [(.ref o0)])) (fun _ k => XS.aload X3.hh X3.hx rfl (hb hby d14_31) rfl rfl k) ?_
    exact X3.aret hret rfl rfl rfl hlk (by decide) (by decide) (hb hby d14_33) (fun S hS => by show some _ = some (pickO cs o0 o1 o2); unfold pickO; rw [if_pos q0.symm])
  · show Go pP eE bB _ T3 (mkF mM 28 #[.val (.ref x), .val (.ref b), .val (.int (3 : Int32)), .val (.int (0 : Int32)), .val (.ref o0)] [(.int (0 : Int32))])
    refine Go.of (T' := T3) (g' := (mkF mM 34 #[.val (.ref x), .val (.ref b), .val (.int (3 : Int32)), .val (.int (0 : Int32)), .val (.ref o0)] [])) (fun _ k => XS.ifYes X3.hh X3.hx rfl (pc0 := 28) (pc' := 34) rfl (hb hby d14_28) rfl ((if0 _ _).trans (teq rfl).1) (by decide) (by decide) k) ?_
    refine Go.of (T' := T3) (g' := (mkF mM 37 #[.val (.ref x), .val (.ref b), .val (.int (3 : Int32)), .val (.int ((0 : Int32) + (1 : Int32))), .val (.ref o0)] [])) (fun _ k => XS.iinc X3.hh X3.hx rfl (hb hby d14_34) rfl (l' := #[.val (.ref x), .val (.ref b), .val (.int (3 : Int32)), .val (.int ((0 : Int32) + (1 : Int32))), .val (.ref o0)]) rfl k) ?_
    refine Go.of (T' := T3) (g' := (mkF mM 9 #[.val (.ref x), .val (.ref b), .val (.int (3 : Int32)), .val (.int ((0 : Int32) + (1 : Int32))), .val (.ref o0)] [])) (fun _ k => XS.goto X3.hh X3.hx rfl (pc0 := 37) (pc' := 9) rfl (hb hby d14_37) (by decide) (by decide) k) ?_
    refine Go.of (T' := T3) (g' := (mkF mM 10 #[.val (.ref x), .val (.ref b), .val (.int (3 : Int32)), .val (.int ((0 : Int32) + (1 : Int32))), .val (.ref o0)] [(.int ((0 : Int32) + (1 : Int32)))])) (fun _ k => XS.iloadN X3.hh X3.hx rfl (hb hby d14_9) rfl k) ?_
    refine Go.of (T' := T3) (g' := (mkF mM 11 #[.val (.ref x), .val (.ref b), .val (.int (3 : Int32)), .val (.int ((0 : Int32) + (1 : Int32))), .val (.ref o0)] [(.int (3 : Int32)), (.int ((0 : Int32) + (1 : Int32)))])) (fun _ k => XS.iloadN X3.hh X3.hx rfl (hb hby d14_10) rfl k) ?_
    -- turn 1
    refine Go.of (T' := T3) (g' := (mkF mM 14 #[.val (.ref x), .val (.ref b), .val (.int (3 : Int32)), .val (.int ((0 : Int32) + (1 : Int32))), .val (.ref o0)] [])) (fun _ k => XS.icmpNo X3.hh X3.hx rfl (hb hby d14_11) rfl (tlt (by decide)).2.1 k) ?_
    refine Go.of (T' := T3) (g' := (mkF mM 15 #[.val (.ref x), .val (.ref b), .val (.int (3 : Int32)), .val (.int ((0 : Int32) + (1 : Int32))), .val (.ref o0)] [(.ref b)])) (fun _ k => XS.aloadN X3.hh X3.hx rfl (hb hby d14_14) rfl rfl k) ?_
    refine Go.of (T' := T3) (g' := (mkF mM 16 #[.val (.ref x), .val (.ref b), .val (.int (3 : Int32)), .val (.int ((0 : Int32) + (1 : Int32))), .val (.ref o0)] [(.int ((0 : Int32) + (1 : Int32))), (.ref b)])) (fun _ k => XS.iloadN X3.hh X3.hx rfl (hb hby d14_15) rfl k) ?_
    refine X3.ldR V_b rfl (by decide) rfl (hb hby d14_16) ?_
    show Go pP eE bB _ T3 (mkF mM 17 #[.val (.ref x), .val (.ref b), .val (.int (3 : Int32)), .val (.int ((0 : Int32) + (1 : Int32))), .val (.ref o0)] [(.ref o1)])
    refine Go.of (T' := T3) (g' := (mkF mM 19 #[.val (.ref x), .val (.ref b), .val (.int (3 : Int32)), .val (.int ((0 : Int32) + (1 : Int32))), .val (.ref o1)] [])) (fun _ k => XS.astore X3.hh X3.hx rfl (hb hby d14_17) rfl rfl (l' := #[.val (.ref x), .val (.ref b), .val (.int (3 : Int32)), .val (.int ((0 : Int32) + (1 : Int32))), .val (.ref o1)]) rfl k) ?_
    refine Go.of (T' := T3) (g' := (mkF mM 21 #[.val (.ref x), .val (.ref b), .val (.int (3 : Int32)), .val (.int ((0 : Int32) + (1 : Int32))), .val (.ref o1)] [(.ref o1)])) (fun _ k => XS.aload X3.hh X3.hx rfl (hb hby d14_19) rfl rfl k) ?_
    refine X3.getF (host := "") (Or.inl (hw _ (List.mem_of_getElem? (i := 93) rfl))) Via.refl Fw1 (hb hby d14_21) ?_
    intro T4 X4
    show Go pP eE bB _ T4 (mkF mM 24 #[.val (.ref x), .val (.ref b), .val (.int (3 : Int32)), .val (.int ((0 : Int32) + (1 : Int32))), .val (.ref o1)] [(.ref w1)])
    refine Go.of (T' := T4) (g' := (mkF mM 25 #[.val (.ref x), .val (.ref b), .val (.int (3 : Int32)), .val (.int ((0 : Int32) + (1 : Int32))), .val (.ref o1)] [(.ref x), (.ref w1)])) (fun _ k => XS.aloadN X4.hh X4.hx rfl (hb hby d14_24) rfl rfl k) ?_
    refine X4.callVN (W := 0) (argsL := [(.ref x)]) (rest := []) (nc := 0) (ns := 0) (ws' := []) (Qn := fun v h' L => ((v = some (.int 1) ∧ W1 = cs) ∨ (v = some (.int 0) ∧ ¬ W1 = cs)) ∧ L = [] ∧ h' = h1) (a := w1) (C := "java/lang/String") (z := (⟨"java/lang/String", "equals", "(Ljava/lang/Object;)Z"⟩ : MethodName)) (hw _ (List.mem_of_getElem? (i := 95) rfl)) (hw _ (List.mem_of_getElem? (i := 96) rfl)) (fun _ q => notFace_of_selects (args := #[]) (mvT q (hw _ (List.mem_of_getElem? (i := 98) rfl)))) (hw _ (List.mem_of_getElem? (i := 98) rfl)) (hw _ (List.mem_of_getElem? (i := 97) rfl)) (by decide) (fun vm0 hZ => StrChars.Road.eqW (s := sS.setVm vm0) (W := 0) hZ heq (kI := 4) (hw _ (List.mem_of_getElem? (i := 3) rfl)) S1.1 S1.2.1 S1.2.2.1 S1.2.2.2.1 (StrChars.Road.codOf rfl fun c hc => (S1.2.2.2.2.1 c hc).2) S1.up S1.2.2.2.2.2 S.1 S.2.1 S.2.2.1 S.2.2.2.1 (StrChars.Road.codOf rfl fun c hc => (S.2.2.2.2.1 c hc).2) S.up S.2.2.2.2.2 (Sc.ext X4.ext0) hzc (by decide) (by decide)) (fun v h' L q => by obtain ⟨-, rfl, rfl⟩ := q; exact ⟨Fr.nil _, Keep.refl _ _⟩) S1.1 pd_4 rfl rfl rfl (by rw [hml]; rfl) (by decide) (by decide) (hb hby d14_25) all0 all0 all0 ?_
    intro v5 T5 h5 X5 K5 Q5
    obtain ⟨_, hv5, -, e5⟩ := Q5
    rw [e5] at X5
    rcases hv5 with ⟨rfl, q1⟩ | ⟨rfl, q1⟩
    · show Go pP eE bB _ T5 (mkF mM 28 #[.val (.ref x), .val (.ref b), .val (.int (3 : Int32)), .val (.int ((0 : Int32) + (1 : Int32))), .val (.ref o1)] [(.int (1 : Int32))])
      refine Go.of (T' := T5) (g' := (mkF mM 31 #[.val (.ref x), .val (.ref b), .val (.int (3 : Int32)), .val (.int ((0 : Int32) + (1 : Int32))), .val (.ref o1)] [])) (fun _ k => XS.ifNo X5.hh X5.hx rfl (hb hby d14_28) rfl ((if0 _ _).trans (feq (by decide)).1) k) ?_
      refine Go.of (T' := T5) (g' := (mkF mM 33 #[.val (.ref x), .val (.ref b), .val (.int (3 : Int32)), .val (.int ((0 : Int32) + (1 : Int32))), .val (.ref o1)] [(.ref o1)])) (fun _ k => XS.aload X5.hh X5.hx rfl (hb hby d14_31) rfl rfl k) ?_
      exact X5.aret hret rfl rfl rfl hlk (by decide) (by decide) (hb hby d14_33) (fun S hS => by show some _ = some (pickO cs o0 o1 o2); unfold pickO; rw [if_neg (fun r => q0 r.symm), if_pos q1.symm])
    · show Go pP eE bB _ T5 (mkF mM 28 #[.val (.ref x), .val (.ref b), .val (.int (3 : Int32)), .val (.int ((0 : Int32) + (1 : Int32))), .val (.ref o1)] [(.int (0 : Int32))])
      refine Go.of (T' := T5) (g' := (mkF mM 34 #[.val (.ref x), .val (.ref b), .val (.int (3 : Int32)), .val (.int ((0 : Int32) + (1 : Int32))), .val (.ref o1)] [])) (fun _ k => XS.ifYes X5.hh X5.hx rfl (pc0 := 28) (pc' := 34) rfl (hb hby d14_28) rfl ((if0 _ _).trans (teq rfl).1) (by decide) (by decide) k) ?_
      refine Go.of (T' := T5) (g' := (mkF mM 37 #[.val (.ref x), .val (.ref b), .val (.int (3 : Int32)), .val (.int (((0 : Int32) + (1 : Int32)) + (1 : Int32))), .val (.ref o1)] [])) (fun _ k => XS.iinc X5.hh X5.hx rfl (hb hby d14_34) rfl (l' := #[.val (.ref x), .val (.ref b), .val (.int (3 : Int32)), .val (.int (((0 : Int32) + (1 : Int32)) + (1 : Int32))), .val (.ref o1)]) rfl k) ?_
      refine Go.of (T' := T5) (g' := (mkF mM 9 #[.val (.ref x), .val (.ref b), .val (.int (3 : Int32)), .val (.int (((0 : Int32) + (1 : Int32)) + (1 : Int32))), .val (.ref o1)] [])) (fun _ k => XS.goto X5.hh X5.hx rfl (pc0 := 37) (pc' := 9) rfl (hb hby d14_37) (by decide) (by decide) k) ?_
      refine Go.of (T' := T5) (g' := (mkF mM 10 #[.val (.ref x), .val (.ref b), .val (.int (3 : Int32)), .val (.int (((0 : Int32) + (1 : Int32)) + (1 : Int32))), .val (.ref o1)] [(.int (((0 : Int32) + (1 : Int32)) + (1 : Int32)))])) (fun _ k => XS.iloadN X5.hh X5.hx rfl (hb hby d14_9) rfl k) ?_
      refine Go.of (T' := T5) (g' := (mkF mM 11 #[.val (.ref x), .val (.ref b), .val (.int (3 : Int32)), .val (.int (((0 : Int32) + (1 : Int32)) + (1 : Int32))), .val (.ref o1)] [(.int (3 : Int32)), (.int (((0 : Int32) + (1 : Int32)) + (1 : Int32)))])) (fun _ k => XS.iloadN X5.hh X5.hx rfl (hb hby d14_10) rfl k) ?_
      -- turn 2
      refine Go.of (T' := T5) (g' := (mkF mM 14 #[.val (.ref x), .val (.ref b), .val (.int (3 : Int32)), .val (.int (((0 : Int32) + (1 : Int32)) + (1 : Int32))), .val (.ref o1)] [])) (fun _ k => XS.icmpNo X5.hh X5.hx rfl (hb hby d14_11) rfl (tlt (by decide)).2.1 k) ?_
      refine Go.of (T' := T5) (g' := (mkF mM 15 #[.val (.ref x), .val (.ref b), .val (.int (3 : Int32)), .val (.int (((0 : Int32) + (1 : Int32)) + (1 : Int32))), .val (.ref o1)] [(.ref b)])) (fun _ k => XS.aloadN X5.hh X5.hx rfl (hb hby d14_14) rfl rfl k) ?_
      refine Go.of (T' := T5) (g' := (mkF mM 16 #[.val (.ref x), .val (.ref b), .val (.int (3 : Int32)), .val (.int (((0 : Int32) + (1 : Int32)) + (1 : Int32))), .val (.ref o1)] [(.int (((0 : Int32) + (1 : Int32)) + (1 : Int32))), (.ref b)])) (fun _ k => XS.iloadN X5.hh X5.hx rfl (hb hby d14_15) rfl k) ?_
      refine X5.ldR V_b rfl (by decide) rfl (hb hby d14_16) ?_
      show Go pP eE bB _ T5 (mkF mM 17 #[.val (.ref x), .val (.ref b), .val (.int (3 : Int32)), .val (.int (((0 : Int32) + (1 : Int32)) + (1 : Int32))), .val (.ref o1)] [(.ref o2)])
      refine Go.of (T' := T5) (g' := (mkF mM 19 #[.val (.ref x), .val (.ref b), .val (.int (3 : Int32)), .val (.int (((0 : Int32) + (1 : Int32)) + (1 : Int32))), .val (.ref o2)] [])) (fun _ k => XS.astore X5.hh X5.hx rfl (hb hby d14_17) rfl rfl (l' := #[.val (.ref x), .val (.ref b), .val (.int (3 : Int32)), .val (.int (((0 : Int32) + (1 : Int32)) + (1 : Int32))), .val (.ref o2)]) rfl k) ?_
      refine Go.of (T' := T5) (g' := (mkF mM 21 #[.val (.ref x), .val (.ref b), .val (.int (3 : Int32)), .val (.int (((0 : Int32) + (1 : Int32)) + (1 : Int32))), .val (.ref o2)] [(.ref o2)])) (fun _ k => XS.aload X5.hh X5.hx rfl (hb hby d14_19) rfl rfl k) ?_
      refine X5.getF (host := "") (Or.inl (hw _ (List.mem_of_getElem? (i := 93) rfl))) Via.refl Fw2 (hb hby d14_21) ?_
      intro T6 X6
      show Go pP eE bB _ T6 (mkF mM 24 #[.val (.ref x), .val (.ref b), .val (.int (3 : Int32)), .val (.int (((0 : Int32) + (1 : Int32)) + (1 : Int32))), .val (.ref o2)] [(.ref w2)])
      refine Go.of (T' := T6) (g' := (mkF mM 25 #[.val (.ref x), .val (.ref b), .val (.int (3 : Int32)), .val (.int (((0 : Int32) + (1 : Int32)) + (1 : Int32))), .val (.ref o2)] [(.ref x), (.ref w2)])) (fun _ k => XS.aloadN X6.hh X6.hx rfl (hb hby d14_24) rfl rfl k) ?_
      refine X6.callVN (W := 0) (argsL := [(.ref x)]) (rest := []) (nc := 0) (ns := 0) (ws' := []) (Qn := fun v h' L => ((v = some (.int 1) ∧ W2 = cs) ∨ (v = some (.int 0) ∧ ¬ W2 = cs)) ∧ L = [] ∧ h' = h1) (a := w2) (C := "java/lang/String") (z := (⟨"java/lang/String", "equals", "(Ljava/lang/Object;)Z"⟩ : MethodName)) (hw _ (List.mem_of_getElem? (i := 95) rfl)) (hw _ (List.mem_of_getElem? (i := 96) rfl)) (fun _ q => notFace_of_selects (args := #[]) (mvT q (hw _ (List.mem_of_getElem? (i := 98) rfl)))) (hw _ (List.mem_of_getElem? (i := 98) rfl)) (hw _ (List.mem_of_getElem? (i := 97) rfl)) (by decide) (fun vm0 hZ => StrChars.Road.eqW (s := sS.setVm vm0) (W := 0) hZ heq (kI := 4) (hw _ (List.mem_of_getElem? (i := 3) rfl)) S2.1 S2.2.1 S2.2.2.1 S2.2.2.2.1 (StrChars.Road.codOf rfl fun c hc => (S2.2.2.2.2.1 c hc).2) S2.up S2.2.2.2.2.2 S.1 S.2.1 S.2.2.1 S.2.2.2.1 (StrChars.Road.codOf rfl fun c hc => (S.2.2.2.2.1 c hc).2) S.up S.2.2.2.2.2 (Sc.ext X6.ext0) hzc (by decide) (by decide)) (fun v h' L q => by obtain ⟨-, rfl, rfl⟩ := q; exact ⟨Fr.nil _, Keep.refl _ _⟩) S2.1 pd_4 rfl rfl rfl (by rw [hml]; rfl) (by decide) (by decide) (hb hby d14_25) all0 all0 all0 ?_
      intro v7 T7 h7 X7 K7 Q7
      obtain ⟨_, hv7, -, e7⟩ := Q7
      rw [e7] at X7
      rcases hv7 with ⟨rfl, q2⟩ | ⟨rfl, q2⟩
      · show Go pP eE bB _ T7 (mkF mM 28 #[.val (.ref x), .val (.ref b), .val (.int (3 : Int32)), .val (.int (((0 : Int32) + (1 : Int32)) + (1 : Int32))), .val (.ref o2)] [(.int (1 : Int32))])
        refine Go.of (T' := T7) (g' := (mkF mM 31 #[.val (.ref x), .val (.ref b), .val (.int (3 : Int32)), .val (.int (((0 : Int32) + (1 : Int32)) + (1 : Int32))), .val (.ref o2)] [])) (fun _ k => XS.ifNo X7.hh X7.hx rfl (hb hby d14_28) rfl ((if0 _ _).trans (feq (by decide)).1) k) ?_
        refine Go.of (T' := T7) (g' := (mkF mM 33 #[.val (.ref x), .val (.ref b), .val (.int (3 : Int32)), .val (.int (((0 : Int32) + (1 : Int32)) + (1 : Int32))), .val (.ref o2)] [(.ref o2)])) (fun _ k => XS.aload X7.hh X7.hx rfl (hb hby d14_31) rfl rfl k) ?_
        exact X7.aret hret rfl rfl rfl hlk (by decide) (by decide) (hb hby d14_33) (fun S hS => by show some _ = some (pickO cs o0 o1 o2); unfold pickO; rw [if_neg (fun r => q0 r.symm), if_neg (fun r => q1 r.symm), if_pos q2.symm])
      · show Go pP eE bB _ T7 (mkF mM 28 #[.val (.ref x), .val (.ref b), .val (.int (3 : Int32)), .val (.int (((0 : Int32) + (1 : Int32)) + (1 : Int32))), .val (.ref o2)] [(.int (0 : Int32))])
        refine Go.of (T' := T7) (g' := (mkF mM 34 #[.val (.ref x), .val (.ref b), .val (.int (3 : Int32)), .val (.int (((0 : Int32) + (1 : Int32)) + (1 : Int32))), .val (.ref o2)] [])) (fun _ k => XS.ifYes X7.hh X7.hx rfl (pc0 := 28) (pc' := 34) rfl (hb hby d14_28) rfl ((if0 _ _).trans (teq rfl).1) (by decide) (by decide) k) ?_
        refine Go.of (T' := T7) (g' := (mkF mM 37 #[.val (.ref x), .val (.ref b), .val (.int (3 : Int32)), .val (.int ((((0 : Int32) + (1 : Int32)) + (1 : Int32)) + (1 : Int32))), .val (.ref o2)] [])) (fun _ k => XS.iinc X7.hh X7.hx rfl (hb hby d14_34) rfl (l' := #[.val (.ref x), .val (.ref b), .val (.int (3 : Int32)), .val (.int ((((0 : Int32) + (1 : Int32)) + (1 : Int32)) + (1 : Int32))), .val (.ref o2)]) rfl k) ?_
        refine Go.of (T' := T7) (g' := (mkF mM 9 #[.val (.ref x), .val (.ref b), .val (.int (3 : Int32)), .val (.int ((((0 : Int32) + (1 : Int32)) + (1 : Int32)) + (1 : Int32))), .val (.ref o2)] [])) (fun _ k => XS.goto X7.hh X7.hx rfl (pc0 := 37) (pc' := 9) rfl (hb hby d14_37) (by decide) (by decide) k) ?_
        refine Go.of (T' := T7) (g' := (mkF mM 10 #[.val (.ref x), .val (.ref b), .val (.int (3 : Int32)), .val (.int ((((0 : Int32) + (1 : Int32)) + (1 : Int32)) + (1 : Int32))), .val (.ref o2)] [(.int ((((0 : Int32) + (1 : Int32)) + (1 : Int32)) + (1 : Int32)))])) (fun _ k => XS.iloadN X7.hh X7.hx rfl (hb hby d14_9) rfl k) ?_
        refine Go.of (T' := T7) (g' := (mkF mM 11 #[.val (.ref x), .val (.ref b), .val (.int (3 : Int32)), .val (.int ((((0 : Int32) + (1 : Int32)) + (1 : Int32)) + (1 : Int32))), .val (.ref o2)] [(.int (3 : Int32)), (.int ((((0 : Int32) + (1 : Int32)) + (1 : Int32)) + (1 : Int32)))])) (fun _ k => XS.iloadN X7.hh X7.hx rfl (hb hby d14_10) rfl k) ?_
        refine Go.of (T' := T7) (g' := (mkF mM 40 #[.val (.ref x), .val (.ref b), .val (.int (3 : Int32)), .val (.int ((((0 : Int32) + (1 : Int32)) + (1 : Int32)) + (1 : Int32))), .val (.ref o2)] [])) (fun _ k => XS.icmpYes X7.hh X7.hx rfl (pc0 := 11) (pc' := 40) rfl (hb hby d14_11) rfl (flt (by decide)).2.1 (by decide) (by decide) k) ?_
        refine Go.of (T' := T7) (g' := (mkF mM 41 #[.val (.ref x), .val (.ref b), .val (.int (3 : Int32)), .val (.int ((((0 : Int32) + (1 : Int32)) + (1 : Int32)) + (1 : Int32))), .val (.ref o2)] [.null])) (fun _ k => XS.aconstNull X7.hh X7.hx rfl (hb hby d14_40) k) ?_
        exact X7.aret hret rfl rfl rfl hlk (by decide) (by decide) (hb hby d14_41) (fun S hS => by show some _ = some (pickO cs o0 o1 o2); unfold pickO; rw [if_neg (fun r => q0 r.symm), if_neg (fun r => q1 r.symm), if_neg (fun r => q2 r.symm)])
def Q_chars_0 (Z : State)  (h0 : Heap) : Option Value → (Addr → Prop) → Heap → Prop := fun v _ h => ∃ (b : Nat) (kc : ClassId), v = some (.ref b) ∧ h0.size ≤ b ∧ Arv Z h b kc .char (12 : Int32) [.int (45 : Int32), .int (45 : Int32), .int (105 : Int32), .int (116 : Int32), .int (101 : Int32), .int (114 : Int32), .int (97 : Int32), .int (116 : Int32), .int (105 : Int32), .int (111 : Int32), .int (110 : Int32), .int (115 : Int32)] (.int 0)
theorem ef_chars_0 (m : MethodId)  : entryFrame m #[(.int (0 : Int32))] 1 = mkF m 0 #[.val (.int (0 : Int32))] [] := by first | (simp [entryFrame, mkF, argsToLocals, Value.category]; done) | rfl
set_option maxRecDepth 65536 in
set_option maxHeartbeats 40000000 in
theorem chars_0 (l : Launch) (Z : State) (a0 : Array Value) (G : Wld Z a0)  (h0 : Heap)  :
    Met l Z consts_1 (⟨"dev/portcullis/cli/OptionTypedPinLaw", "chars", "(I)[C"⟩ : MethodName) method_2_code 1 (some (.array .char)) ({ frames := 0, cells := 1, slots := 12, locals := 0 } : Room) #[(.int (0 : Int32))] h0 [] [] (Q_chars_0 Z h0) := by
  have hw := G.1
  have hEL := G.2.1
  refine Met.intro (a0 := a0) hEL pn_3 ?_
  intro pP eE sS mM bB mE cC T0 X0 hml hby hret hnm hlk hs0
  have hz0 : sS.heap.size = h0.size := by rw [hs0]
  have n0 : Z.heap.size ≤ h0.size := X0.ext0.1
  refine Go.cast (ef_chars_0 mM ) ?_
  refine Go.of (T' := T0) (g' := (mkF mM 1 #[.val (.int (0 : Int32))] [(.int (0 : Int32))])) (fun _ k => XS.iloadN X0.hh X0.hx rfl (hb hby d2_0) rfl k) ?_
  refine Go.of (T' := T0) (g' := (mkF mM 4 #[.val (.int (0 : Int32))] [])) (fun _ k => XS.ifNo X0.hh X0.hx rfl (hb hby d2_1) rfl ((if0 _ _).trans (teq (by decide)).2) k) ?_
  refine Go.of (T' := T0) (g' := (mkF mM 6 #[.val (.int (0 : Int32))] [(.int (12 : Int32))])) (fun _ k => XS.bipush X0.hh X0.hx rfl (hb hby d2_4) k) ?_
  refine X0.newP (cap := 12) (hw _ (List.mem_of_getElem? (i := 29) rfl)) (hb hby d2_6) (by decide) (by decide) (by decide) (by decide) (by decide) ?_
  intro T1 h1 b kc_b g_b X1 E1 V_b
  have z1 : h0.size ≤ h1.size := E1.1
  have l_b : b < h1.size := V_b.lt
  have V_b : Arv Z h1 b kc_b .char (12 : Int32) [(.int (0 : Int32)), (.int (0 : Int32)), (.int (0 : Int32)), (.int (0 : Int32)), (.int (0 : Int32)), (.int (0 : Int32)), (.int (0 : Int32)), (.int (0 : Int32)), (.int (0 : Int32)), (.int (0 : Int32)), (.int (0 : Int32)), (.int (0 : Int32))] (.int (0 : Int32)) := Arv.pad V_b (pad_rep [] _ 12)
  show Go pP eE bB _ T1 (mkF mM 8 #[.val (.int (0 : Int32))] [(.ref b)])
  refine Go.of (T' := T1) (g' := (mkF mM 9 #[.val (.int (0 : Int32))] [(.ref b), (.ref b)])) (fun _ k => XS.dup X1.hh X1.hx rfl (hb hby d2_8) rfl rfl k) ?_
  refine Go.of (T' := T1) (g' := (mkF mM 10 #[.val (.int (0 : Int32))] [(.int (0 : Int32)), (.ref b), (.ref b)])) (fun _ k => XS.iconst X1.hh X1.hx rfl (hb hby d2_9) k) ?_
  refine Go.of (T' := T1) (g' := (mkF mM 12 #[.val (.int (0 : Int32))] [(.int (45 : Int32)), (.int (0 : Int32)), (.ref b), (.ref b)])) (fun _ k => XS.bipush X1.hh X1.hx rfl (hb hby d2_10) k) ?_
  refine X1.stC 0 V_b (by decide) rfl (Nat.le_of_ble_eq_true rfl) (by omega) (Or.inr (by omega)) (hb hby d2_12) ?_
  intro T2 h2 X2 K2 V_b
  have z2 : h1.size ≤ h2.size := K2.1
  have V_b : Arv Z h2 b kc_b .char (12 : Int32) [(.int (45 : Int32)), (.int (0 : Int32)), (.int (0 : Int32)), (.int (0 : Int32)), (.int (0 : Int32)), (.int (0 : Int32)), (.int (0 : Int32)), (.int (0 : Int32)), (.int (0 : Int32)), (.int (0 : Int32)), (.int (0 : Int32)), (.int (0 : Int32))] (.int (0 : Int32)) := by have q := V_b; rw [(by decide : nar .char (45 : Int32) = 45)] at q; exact q
  show Go pP eE bB _ T2 (mkF mM 13 #[.val (.int (0 : Int32))] [(.ref b)])
  refine Go.of (T' := T2) (g' := (mkF mM 14 #[.val (.int (0 : Int32))] [(.ref b), (.ref b)])) (fun _ k => XS.dup X2.hh X2.hx rfl (hb hby d2_13) rfl rfl k) ?_
  refine Go.of (T' := T2) (g' := (mkF mM 15 #[.val (.int (0 : Int32))] [(.int (1 : Int32)), (.ref b), (.ref b)])) (fun _ k => XS.iconst X2.hh X2.hx rfl (hb hby d2_14) k) ?_
  refine Go.of (T' := T2) (g' := (mkF mM 17 #[.val (.int (0 : Int32))] [(.int (45 : Int32)), (.int (1 : Int32)), (.ref b), (.ref b)])) (fun _ k => XS.bipush X2.hh X2.hx rfl (hb hby d2_15) k) ?_
  refine X2.stC 1 V_b (by decide) rfl (Nat.le_of_ble_eq_true rfl) (by omega) (Or.inr (by omega)) (hb hby d2_17) ?_
  intro T3 h3 X3 K3 V_b
  have z3 : h2.size ≤ h3.size := K3.1
  have V_b : Arv Z h3 b kc_b .char (12 : Int32) [(.int (45 : Int32)), (.int (45 : Int32)), (.int (0 : Int32)), (.int (0 : Int32)), (.int (0 : Int32)), (.int (0 : Int32)), (.int (0 : Int32)), (.int (0 : Int32)), (.int (0 : Int32)), (.int (0 : Int32)), (.int (0 : Int32)), (.int (0 : Int32))] (.int (0 : Int32)) := by have q := V_b; rw [(by decide : nar .char (45 : Int32) = 45)] at q; exact q
  show Go pP eE bB _ T3 (mkF mM 18 #[.val (.int (0 : Int32))] [(.ref b)])
  refine Go.of (T' := T3) (g' := (mkF mM 19 #[.val (.int (0 : Int32))] [(.ref b), (.ref b)])) (fun _ k => XS.dup X3.hh X3.hx rfl (hb hby d2_18) rfl rfl k) ?_
  refine Go.of (T' := T3) (g' := (mkF mM 20 #[.val (.int (0 : Int32))] [(.int (2 : Int32)), (.ref b), (.ref b)])) (fun _ k => XS.iconst X3.hh X3.hx rfl (hb hby d2_19) k) ?_
  refine Go.of (T' := T3) (g' := (mkF mM 22 #[.val (.int (0 : Int32))] [(.int (105 : Int32)), (.int (2 : Int32)), (.ref b), (.ref b)])) (fun _ k => XS.bipush X3.hh X3.hx rfl (hb hby d2_20) k) ?_
  refine X3.stC 2 V_b (by decide) rfl (Nat.le_of_ble_eq_true rfl) (by omega) (Or.inr (by omega)) (hb hby d2_22) ?_
  intro T4 h4 X4 K4 V_b
  have z4 : h3.size ≤ h4.size := K4.1
  have V_b : Arv Z h4 b kc_b .char (12 : Int32) [(.int (45 : Int32)), (.int (45 : Int32)), (.int (105 : Int32)), (.int (0 : Int32)), (.int (0 : Int32)), (.int (0 : Int32)), (.int (0 : Int32)), (.int (0 : Int32)), (.int (0 : Int32)), (.int (0 : Int32)), (.int (0 : Int32)), (.int (0 : Int32))] (.int (0 : Int32)) := by have q := V_b; rw [(by decide : nar .char (105 : Int32) = 105)] at q; exact q
  show Go pP eE bB _ T4 (mkF mM 23 #[.val (.int (0 : Int32))] [(.ref b)])
  refine Go.of (T' := T4) (g' := (mkF mM 24 #[.val (.int (0 : Int32))] [(.ref b), (.ref b)])) (fun _ k => XS.dup X4.hh X4.hx rfl (hb hby d2_23) rfl rfl k) ?_
  refine Go.of (T' := T4) (g' := (mkF mM 25 #[.val (.int (0 : Int32))] [(.int (3 : Int32)), (.ref b), (.ref b)])) (fun _ k => XS.iconst X4.hh X4.hx rfl (hb hby d2_24) k) ?_
  refine Go.of (T' := T4) (g' := (mkF mM 27 #[.val (.int (0 : Int32))] [(.int (116 : Int32)), (.int (3 : Int32)), (.ref b), (.ref b)])) (fun _ k => XS.bipush X4.hh X4.hx rfl (hb hby d2_25) k) ?_
  refine X4.stC 3 V_b (by decide) rfl (Nat.le_of_ble_eq_true rfl) (by omega) (Or.inr (by omega)) (hb hby d2_27) ?_
  intro T5 h5 X5 K5 V_b
  have z5 : h4.size ≤ h5.size := K5.1
  have V_b : Arv Z h5 b kc_b .char (12 : Int32) [(.int (45 : Int32)), (.int (45 : Int32)), (.int (105 : Int32)), (.int (116 : Int32)), (.int (0 : Int32)), (.int (0 : Int32)), (.int (0 : Int32)), (.int (0 : Int32)), (.int (0 : Int32)), (.int (0 : Int32)), (.int (0 : Int32)), (.int (0 : Int32))] (.int (0 : Int32)) := by have q := V_b; rw [(by decide : nar .char (116 : Int32) = 116)] at q; exact q
  show Go pP eE bB _ T5 (mkF mM 28 #[.val (.int (0 : Int32))] [(.ref b)])
  refine Go.of (T' := T5) (g' := (mkF mM 29 #[.val (.int (0 : Int32))] [(.ref b), (.ref b)])) (fun _ k => XS.dup X5.hh X5.hx rfl (hb hby d2_28) rfl rfl k) ?_
  refine Go.of (T' := T5) (g' := (mkF mM 30 #[.val (.int (0 : Int32))] [(.int (4 : Int32)), (.ref b), (.ref b)])) (fun _ k => XS.iconst X5.hh X5.hx rfl (hb hby d2_29) k) ?_
  refine Go.of (T' := T5) (g' := (mkF mM 32 #[.val (.int (0 : Int32))] [(.int (101 : Int32)), (.int (4 : Int32)), (.ref b), (.ref b)])) (fun _ k => XS.bipush X5.hh X5.hx rfl (hb hby d2_30) k) ?_
  refine X5.stC 4 V_b (by decide) rfl (Nat.le_of_ble_eq_true rfl) (by omega) (Or.inr (by omega)) (hb hby d2_32) ?_
  intro T6 h6 X6 K6 V_b
  have z6 : h5.size ≤ h6.size := K6.1
  have V_b : Arv Z h6 b kc_b .char (12 : Int32) [(.int (45 : Int32)), (.int (45 : Int32)), (.int (105 : Int32)), (.int (116 : Int32)), (.int (101 : Int32)), (.int (0 : Int32)), (.int (0 : Int32)), (.int (0 : Int32)), (.int (0 : Int32)), (.int (0 : Int32)), (.int (0 : Int32)), (.int (0 : Int32))] (.int (0 : Int32)) := by have q := V_b; rw [(by decide : nar .char (101 : Int32) = 101)] at q; exact q
  show Go pP eE bB _ T6 (mkF mM 33 #[.val (.int (0 : Int32))] [(.ref b)])
  refine Go.of (T' := T6) (g' := (mkF mM 34 #[.val (.int (0 : Int32))] [(.ref b), (.ref b)])) (fun _ k => XS.dup X6.hh X6.hx rfl (hb hby d2_33) rfl rfl k) ?_
  refine Go.of (T' := T6) (g' := (mkF mM 35 #[.val (.int (0 : Int32))] [(.int (5 : Int32)), (.ref b), (.ref b)])) (fun _ k => XS.iconst X6.hh X6.hx rfl (hb hby d2_34) k) ?_
  refine Go.of (T' := T6) (g' := (mkF mM 37 #[.val (.int (0 : Int32))] [(.int (114 : Int32)), (.int (5 : Int32)), (.ref b), (.ref b)])) (fun _ k => XS.bipush X6.hh X6.hx rfl (hb hby d2_35) k) ?_
  refine X6.stC 5 V_b (by decide) rfl (Nat.le_of_ble_eq_true rfl) (by omega) (Or.inr (by omega)) (hb hby d2_37) ?_
  intro T7 h7 X7 K7 V_b
  have z7 : h6.size ≤ h7.size := K7.1
  have V_b : Arv Z h7 b kc_b .char (12 : Int32) [(.int (45 : Int32)), (.int (45 : Int32)), (.int (105 : Int32)), (.int (116 : Int32)), (.int (101 : Int32)), (.int (114 : Int32)), (.int (0 : Int32)), (.int (0 : Int32)), (.int (0 : Int32)), (.int (0 : Int32)), (.int (0 : Int32)), (.int (0 : Int32))] (.int (0 : Int32)) := by have q := V_b; rw [(by decide : nar .char (114 : Int32) = 114)] at q; exact q
  show Go pP eE bB _ T7 (mkF mM 38 #[.val (.int (0 : Int32))] [(.ref b)])
  refine Go.of (T' := T7) (g' := (mkF mM 39 #[.val (.int (0 : Int32))] [(.ref b), (.ref b)])) (fun _ k => XS.dup X7.hh X7.hx rfl (hb hby d2_38) rfl rfl k) ?_
  refine Go.of (T' := T7) (g' := (mkF mM 41 #[.val (.int (0 : Int32))] [(.int (6 : Int32)), (.ref b), (.ref b)])) (fun _ k => XS.bipush X7.hh X7.hx rfl (hb hby d2_39) k) ?_
  refine Go.of (T' := T7) (g' := (mkF mM 43 #[.val (.int (0 : Int32))] [(.int (97 : Int32)), (.int (6 : Int32)), (.ref b), (.ref b)])) (fun _ k => XS.bipush X7.hh X7.hx rfl (hb hby d2_41) k) ?_
  refine X7.stC 6 V_b (by decide) rfl (Nat.le_of_ble_eq_true rfl) (by omega) (Or.inr (by omega)) (hb hby d2_43) ?_
  intro T8 h8 X8 K8 V_b
  have z8 : h7.size ≤ h8.size := K8.1
  have V_b : Arv Z h8 b kc_b .char (12 : Int32) [(.int (45 : Int32)), (.int (45 : Int32)), (.int (105 : Int32)), (.int (116 : Int32)), (.int (101 : Int32)), (.int (114 : Int32)), (.int (97 : Int32)), (.int (0 : Int32)), (.int (0 : Int32)), (.int (0 : Int32)), (.int (0 : Int32)), (.int (0 : Int32))] (.int (0 : Int32)) := by have q := V_b; rw [(by decide : nar .char (97 : Int32) = 97)] at q; exact q
  show Go pP eE bB _ T8 (mkF mM 44 #[.val (.int (0 : Int32))] [(.ref b)])
  refine Go.of (T' := T8) (g' := (mkF mM 45 #[.val (.int (0 : Int32))] [(.ref b), (.ref b)])) (fun _ k => XS.dup X8.hh X8.hx rfl (hb hby d2_44) rfl rfl k) ?_
  refine Go.of (T' := T8) (g' := (mkF mM 47 #[.val (.int (0 : Int32))] [(.int (7 : Int32)), (.ref b), (.ref b)])) (fun _ k => XS.bipush X8.hh X8.hx rfl (hb hby d2_45) k) ?_
  refine Go.of (T' := T8) (g' := (mkF mM 49 #[.val (.int (0 : Int32))] [(.int (116 : Int32)), (.int (7 : Int32)), (.ref b), (.ref b)])) (fun _ k => XS.bipush X8.hh X8.hx rfl (hb hby d2_47) k) ?_
  refine X8.stC 7 V_b (by decide) rfl (Nat.le_of_ble_eq_true rfl) (by omega) (Or.inr (by omega)) (hb hby d2_49) ?_
  intro T9 h9 X9 K9 V_b
  have z9 : h8.size ≤ h9.size := K9.1
  have V_b : Arv Z h9 b kc_b .char (12 : Int32) [(.int (45 : Int32)), (.int (45 : Int32)), (.int (105 : Int32)), (.int (116 : Int32)), (.int (101 : Int32)), (.int (114 : Int32)), (.int (97 : Int32)), (.int (116 : Int32)), (.int (0 : Int32)), (.int (0 : Int32)), (.int (0 : Int32)), (.int (0 : Int32))] (.int (0 : Int32)) := by have q := V_b; rw [(by decide : nar .char (116 : Int32) = 116)] at q; exact q
  show Go pP eE bB _ T9 (mkF mM 50 #[.val (.int (0 : Int32))] [(.ref b)])
  refine Go.of (T' := T9) (g' := (mkF mM 51 #[.val (.int (0 : Int32))] [(.ref b), (.ref b)])) (fun _ k => XS.dup X9.hh X9.hx rfl (hb hby d2_50) rfl rfl k) ?_
  refine Go.of (T' := T9) (g' := (mkF mM 53 #[.val (.int (0 : Int32))] [(.int (8 : Int32)), (.ref b), (.ref b)])) (fun _ k => XS.bipush X9.hh X9.hx rfl (hb hby d2_51) k) ?_
  refine Go.of (T' := T9) (g' := (mkF mM 55 #[.val (.int (0 : Int32))] [(.int (105 : Int32)), (.int (8 : Int32)), (.ref b), (.ref b)])) (fun _ k => XS.bipush X9.hh X9.hx rfl (hb hby d2_53) k) ?_
  refine X9.stC 8 V_b (by decide) rfl (Nat.le_of_ble_eq_true rfl) (by omega) (Or.inr (by omega)) (hb hby d2_55) ?_
  intro T10 h10 X10 K10 V_b
  have z10 : h9.size ≤ h10.size := K10.1
  have V_b : Arv Z h10 b kc_b .char (12 : Int32) [(.int (45 : Int32)), (.int (45 : Int32)), (.int (105 : Int32)), (.int (116 : Int32)), (.int (101 : Int32)), (.int (114 : Int32)), (.int (97 : Int32)), (.int (116 : Int32)), (.int (105 : Int32)), (.int (0 : Int32)), (.int (0 : Int32)), (.int (0 : Int32))] (.int (0 : Int32)) := by have q := V_b; rw [(by decide : nar .char (105 : Int32) = 105)] at q; exact q
  show Go pP eE bB _ T10 (mkF mM 56 #[.val (.int (0 : Int32))] [(.ref b)])
  refine Go.of (T' := T10) (g' := (mkF mM 57 #[.val (.int (0 : Int32))] [(.ref b), (.ref b)])) (fun _ k => XS.dup X10.hh X10.hx rfl (hb hby d2_56) rfl rfl k) ?_
  refine Go.of (T' := T10) (g' := (mkF mM 59 #[.val (.int (0 : Int32))] [(.int (9 : Int32)), (.ref b), (.ref b)])) (fun _ k => XS.bipush X10.hh X10.hx rfl (hb hby d2_57) k) ?_
  refine Go.of (T' := T10) (g' := (mkF mM 61 #[.val (.int (0 : Int32))] [(.int (111 : Int32)), (.int (9 : Int32)), (.ref b), (.ref b)])) (fun _ k => XS.bipush X10.hh X10.hx rfl (hb hby d2_59) k) ?_
  refine X10.stC 9 V_b (by decide) rfl (Nat.le_of_ble_eq_true rfl) (by omega) (Or.inr (by omega)) (hb hby d2_61) ?_
  intro T11 h11 X11 K11 V_b
  have z11 : h10.size ≤ h11.size := K11.1
  have V_b : Arv Z h11 b kc_b .char (12 : Int32) [(.int (45 : Int32)), (.int (45 : Int32)), (.int (105 : Int32)), (.int (116 : Int32)), (.int (101 : Int32)), (.int (114 : Int32)), (.int (97 : Int32)), (.int (116 : Int32)), (.int (105 : Int32)), (.int (111 : Int32)), (.int (0 : Int32)), (.int (0 : Int32))] (.int (0 : Int32)) := by have q := V_b; rw [(by decide : nar .char (111 : Int32) = 111)] at q; exact q
  show Go pP eE bB _ T11 (mkF mM 62 #[.val (.int (0 : Int32))] [(.ref b)])
  refine Go.of (T' := T11) (g' := (mkF mM 63 #[.val (.int (0 : Int32))] [(.ref b), (.ref b)])) (fun _ k => XS.dup X11.hh X11.hx rfl (hb hby d2_62) rfl rfl k) ?_
  refine Go.of (T' := T11) (g' := (mkF mM 65 #[.val (.int (0 : Int32))] [(.int (10 : Int32)), (.ref b), (.ref b)])) (fun _ k => XS.bipush X11.hh X11.hx rfl (hb hby d2_63) k) ?_
  refine Go.of (T' := T11) (g' := (mkF mM 67 #[.val (.int (0 : Int32))] [(.int (110 : Int32)), (.int (10 : Int32)), (.ref b), (.ref b)])) (fun _ k => XS.bipush X11.hh X11.hx rfl (hb hby d2_65) k) ?_
  refine X11.stC 10 V_b (by decide) rfl (Nat.le_of_ble_eq_true rfl) (by omega) (Or.inr (by omega)) (hb hby d2_67) ?_
  intro T12 h12 X12 K12 V_b
  have z12 : h11.size ≤ h12.size := K12.1
  have V_b : Arv Z h12 b kc_b .char (12 : Int32) [(.int (45 : Int32)), (.int (45 : Int32)), (.int (105 : Int32)), (.int (116 : Int32)), (.int (101 : Int32)), (.int (114 : Int32)), (.int (97 : Int32)), (.int (116 : Int32)), (.int (105 : Int32)), (.int (111 : Int32)), (.int (110 : Int32)), (.int (0 : Int32))] (.int (0 : Int32)) := by have q := V_b; rw [(by decide : nar .char (110 : Int32) = 110)] at q; exact q
  show Go pP eE bB _ T12 (mkF mM 68 #[.val (.int (0 : Int32))] [(.ref b)])
  refine Go.of (T' := T12) (g' := (mkF mM 69 #[.val (.int (0 : Int32))] [(.ref b), (.ref b)])) (fun _ k => XS.dup X12.hh X12.hx rfl (hb hby d2_68) rfl rfl k) ?_
  refine Go.of (T' := T12) (g' := (mkF mM 71 #[.val (.int (0 : Int32))] [(.int (11 : Int32)), (.ref b), (.ref b)])) (fun _ k => XS.bipush X12.hh X12.hx rfl (hb hby d2_69) k) ?_
  refine Go.of (T' := T12) (g' := (mkF mM 73 #[.val (.int (0 : Int32))] [(.int (115 : Int32)), (.int (11 : Int32)), (.ref b), (.ref b)])) (fun _ k => XS.bipush X12.hh X12.hx rfl (hb hby d2_71) k) ?_
  refine X12.stC 11 V_b (by decide) rfl (Nat.le_of_ble_eq_true rfl) (by omega) (Or.inr (by omega)) (hb hby d2_73) ?_
  intro T13 h13 X13 K13 V_b
  have z13 : h12.size ≤ h13.size := K13.1
  have V_b : Arv Z h13 b kc_b .char (12 : Int32) [(.int (45 : Int32)), (.int (45 : Int32)), (.int (105 : Int32)), (.int (116 : Int32)), (.int (101 : Int32)), (.int (114 : Int32)), (.int (97 : Int32)), (.int (116 : Int32)), (.int (105 : Int32)), (.int (111 : Int32)), (.int (110 : Int32)), (.int (115 : Int32))] (.int (0 : Int32)) := by have q := V_b; rw [(by decide : nar .char (115 : Int32) = 115)] at q; exact q
  show Go pP eE bB _ T13 (mkF mM 74 #[.val (.int (0 : Int32))] [(.ref b)])
  exact X13.aret hret rfl rfl rfl hlk (by decide) (by decide) (hb hby d2_74) (fun S hS => ⟨b, kc_b, rfl, by omega, V_b⟩)
def Q_appended_0 (Z : State) (cc : Int32) (h0 : Heap) : Option Value → (Addr → Prop) → Heap → Prop := fun v _ h => ∃ (b : Nat) (kc : ClassId), v = some (.ref b) ∧ h0.size ≤ b ∧ Arv Z h b kc .char (13 : Int32) [.int (45 : Int32), .int (45 : Int32), .int (105 : Int32), .int (116 : Int32), .int (101 : Int32), .int (114 : Int32), .int (97 : Int32), .int (116 : Int32), .int (105 : Int32), .int (111 : Int32), .int (110 : Int32), .int (115 : Int32), .int cc] (.int 0)
theorem ef_appended_0 (m : MethodId) (cc : Int32) : entryFrame m #[(.int (0 : Int32)), (.int cc)] 2 = mkF m 0 #[.val (.int (0 : Int32)), .val (.int cc)] [] := by first | (simp [entryFrame, mkF, argsToLocals, Value.category]; done) | rfl
set_option maxRecDepth 65536 in
set_option maxHeartbeats 40000000 in
theorem appended_0 (l : Launch) (Z : State) (a0 : Array Value) (G : Wld Z a0) (cc : Int32) (h0 : Heap) (hc : ¬ cc < 0 ∧ ¬ (255 : Int32) < cc) :
    Met l Z consts_1 (⟨"dev/portcullis/cli/OptionTypedPinLaw", "appended", "(IC)[C"⟩ : MethodName) method_3_code 2 (some (.array .char)) ({ frames := 0, cells := 1, slots := 13, locals := 0 } : Room) #[(.int (0 : Int32)), (.int cc)] h0 [] [] (Q_appended_0 Z cc h0) := by
  have hw := G.1
  have hEL := G.2.1
  refine Met.intro (a0 := a0) hEL pn_3 ?_
  intro pP eE sS mM bB mE cC T0 X0 hml hby hret hnm hlk hs0
  have hz0 : sS.heap.size = h0.size := by rw [hs0]
  have n0 : Z.heap.size ≤ h0.size := X0.ext0.1
  refine Go.cast (ef_appended_0 mM cc) ?_
  refine Go.of (T' := T0) (g' := (mkF mM 1 #[.val (.int (0 : Int32)), .val (.int cc)] [(.int (0 : Int32))])) (fun _ k => XS.iloadN X0.hh X0.hx rfl (hb hby d18_0) rfl k) ?_
  refine Go.of (T' := T0) (g' := (mkF mM 4 #[.val (.int (0 : Int32)), .val (.int cc)] [])) (fun _ k => XS.ifNo X0.hh X0.hx rfl (hb hby d18_1) rfl ((if0 _ _).trans (teq (by decide)).2) k) ?_
  refine Go.of (T' := T0) (g' := (mkF mM 6 #[.val (.int (0 : Int32)), .val (.int cc)] [(.int (13 : Int32))])) (fun _ k => XS.bipush X0.hh X0.hx rfl (hb hby d18_4) k) ?_
  refine X0.newP (cap := 13) (hw _ (List.mem_of_getElem? (i := 29) rfl)) (hb hby d18_6) (by decide) (by decide) (by decide) (by decide) (by decide) ?_
  intro T1 h1 b kc_b g_b X1 E1 V_b
  have z1 : h0.size ≤ h1.size := E1.1
  have l_b : b < h1.size := V_b.lt
  have V_b : Arv Z h1 b kc_b .char (13 : Int32) [(.int (0 : Int32)), (.int (0 : Int32)), (.int (0 : Int32)), (.int (0 : Int32)), (.int (0 : Int32)), (.int (0 : Int32)), (.int (0 : Int32)), (.int (0 : Int32)), (.int (0 : Int32)), (.int (0 : Int32)), (.int (0 : Int32)), (.int (0 : Int32)), (.int (0 : Int32))] (.int (0 : Int32)) := Arv.pad V_b (pad_rep [] _ 13)
  show Go pP eE bB _ T1 (mkF mM 8 #[.val (.int (0 : Int32)), .val (.int cc)] [(.ref b)])
  refine Go.of (T' := T1) (g' := (mkF mM 9 #[.val (.int (0 : Int32)), .val (.int cc)] [(.ref b), (.ref b)])) (fun _ k => XS.dup X1.hh X1.hx rfl (hb hby d18_8) rfl rfl k) ?_
  refine Go.of (T' := T1) (g' := (mkF mM 10 #[.val (.int (0 : Int32)), .val (.int cc)] [(.int (0 : Int32)), (.ref b), (.ref b)])) (fun _ k => XS.iconst X1.hh X1.hx rfl (hb hby d18_9) k) ?_
  refine Go.of (T' := T1) (g' := (mkF mM 12 #[.val (.int (0 : Int32)), .val (.int cc)] [(.int (45 : Int32)), (.int (0 : Int32)), (.ref b), (.ref b)])) (fun _ k => XS.bipush X1.hh X1.hx rfl (hb hby d18_10) k) ?_
  refine X1.stC 0 V_b (by decide) rfl (Nat.le_of_ble_eq_true rfl) (by omega) (Or.inr (by omega)) (hb hby d18_12) ?_
  intro T2 h2 X2 K2 V_b
  have z2 : h1.size ≤ h2.size := K2.1
  have V_b : Arv Z h2 b kc_b .char (13 : Int32) [(.int (45 : Int32)), (.int (0 : Int32)), (.int (0 : Int32)), (.int (0 : Int32)), (.int (0 : Int32)), (.int (0 : Int32)), (.int (0 : Int32)), (.int (0 : Int32)), (.int (0 : Int32)), (.int (0 : Int32)), (.int (0 : Int32)), (.int (0 : Int32)), (.int (0 : Int32))] (.int (0 : Int32)) := by have q := V_b; rw [(by decide : nar .char (45 : Int32) = 45)] at q; exact q
  show Go pP eE bB _ T2 (mkF mM 13 #[.val (.int (0 : Int32)), .val (.int cc)] [(.ref b)])
  refine Go.of (T' := T2) (g' := (mkF mM 14 #[.val (.int (0 : Int32)), .val (.int cc)] [(.ref b), (.ref b)])) (fun _ k => XS.dup X2.hh X2.hx rfl (hb hby d18_13) rfl rfl k) ?_
  refine Go.of (T' := T2) (g' := (mkF mM 15 #[.val (.int (0 : Int32)), .val (.int cc)] [(.int (1 : Int32)), (.ref b), (.ref b)])) (fun _ k => XS.iconst X2.hh X2.hx rfl (hb hby d18_14) k) ?_
  refine Go.of (T' := T2) (g' := (mkF mM 17 #[.val (.int (0 : Int32)), .val (.int cc)] [(.int (45 : Int32)), (.int (1 : Int32)), (.ref b), (.ref b)])) (fun _ k => XS.bipush X2.hh X2.hx rfl (hb hby d18_15) k) ?_
  refine X2.stC 1 V_b (by decide) rfl (Nat.le_of_ble_eq_true rfl) (by omega) (Or.inr (by omega)) (hb hby d18_17) ?_
  intro T3 h3 X3 K3 V_b
  have z3 : h2.size ≤ h3.size := K3.1
  have V_b : Arv Z h3 b kc_b .char (13 : Int32) [(.int (45 : Int32)), (.int (45 : Int32)), (.int (0 : Int32)), (.int (0 : Int32)), (.int (0 : Int32)), (.int (0 : Int32)), (.int (0 : Int32)), (.int (0 : Int32)), (.int (0 : Int32)), (.int (0 : Int32)), (.int (0 : Int32)), (.int (0 : Int32)), (.int (0 : Int32))] (.int (0 : Int32)) := by have q := V_b; rw [(by decide : nar .char (45 : Int32) = 45)] at q; exact q
  show Go pP eE bB _ T3 (mkF mM 18 #[.val (.int (0 : Int32)), .val (.int cc)] [(.ref b)])
  refine Go.of (T' := T3) (g' := (mkF mM 19 #[.val (.int (0 : Int32)), .val (.int cc)] [(.ref b), (.ref b)])) (fun _ k => XS.dup X3.hh X3.hx rfl (hb hby d18_18) rfl rfl k) ?_
  refine Go.of (T' := T3) (g' := (mkF mM 20 #[.val (.int (0 : Int32)), .val (.int cc)] [(.int (2 : Int32)), (.ref b), (.ref b)])) (fun _ k => XS.iconst X3.hh X3.hx rfl (hb hby d18_19) k) ?_
  refine Go.of (T' := T3) (g' := (mkF mM 22 #[.val (.int (0 : Int32)), .val (.int cc)] [(.int (105 : Int32)), (.int (2 : Int32)), (.ref b), (.ref b)])) (fun _ k => XS.bipush X3.hh X3.hx rfl (hb hby d18_20) k) ?_
  refine X3.stC 2 V_b (by decide) rfl (Nat.le_of_ble_eq_true rfl) (by omega) (Or.inr (by omega)) (hb hby d18_22) ?_
  intro T4 h4 X4 K4 V_b
  have z4 : h3.size ≤ h4.size := K4.1
  have V_b : Arv Z h4 b kc_b .char (13 : Int32) [(.int (45 : Int32)), (.int (45 : Int32)), (.int (105 : Int32)), (.int (0 : Int32)), (.int (0 : Int32)), (.int (0 : Int32)), (.int (0 : Int32)), (.int (0 : Int32)), (.int (0 : Int32)), (.int (0 : Int32)), (.int (0 : Int32)), (.int (0 : Int32)), (.int (0 : Int32))] (.int (0 : Int32)) := by have q := V_b; rw [(by decide : nar .char (105 : Int32) = 105)] at q; exact q
  show Go pP eE bB _ T4 (mkF mM 23 #[.val (.int (0 : Int32)), .val (.int cc)] [(.ref b)])
  refine Go.of (T' := T4) (g' := (mkF mM 24 #[.val (.int (0 : Int32)), .val (.int cc)] [(.ref b), (.ref b)])) (fun _ k => XS.dup X4.hh X4.hx rfl (hb hby d18_23) rfl rfl k) ?_
  refine Go.of (T' := T4) (g' := (mkF mM 25 #[.val (.int (0 : Int32)), .val (.int cc)] [(.int (3 : Int32)), (.ref b), (.ref b)])) (fun _ k => XS.iconst X4.hh X4.hx rfl (hb hby d18_24) k) ?_
  refine Go.of (T' := T4) (g' := (mkF mM 27 #[.val (.int (0 : Int32)), .val (.int cc)] [(.int (116 : Int32)), (.int (3 : Int32)), (.ref b), (.ref b)])) (fun _ k => XS.bipush X4.hh X4.hx rfl (hb hby d18_25) k) ?_
  refine X4.stC 3 V_b (by decide) rfl (Nat.le_of_ble_eq_true rfl) (by omega) (Or.inr (by omega)) (hb hby d18_27) ?_
  intro T5 h5 X5 K5 V_b
  have z5 : h4.size ≤ h5.size := K5.1
  have V_b : Arv Z h5 b kc_b .char (13 : Int32) [(.int (45 : Int32)), (.int (45 : Int32)), (.int (105 : Int32)), (.int (116 : Int32)), (.int (0 : Int32)), (.int (0 : Int32)), (.int (0 : Int32)), (.int (0 : Int32)), (.int (0 : Int32)), (.int (0 : Int32)), (.int (0 : Int32)), (.int (0 : Int32)), (.int (0 : Int32))] (.int (0 : Int32)) := by have q := V_b; rw [(by decide : nar .char (116 : Int32) = 116)] at q; exact q
  show Go pP eE bB _ T5 (mkF mM 28 #[.val (.int (0 : Int32)), .val (.int cc)] [(.ref b)])
  refine Go.of (T' := T5) (g' := (mkF mM 29 #[.val (.int (0 : Int32)), .val (.int cc)] [(.ref b), (.ref b)])) (fun _ k => XS.dup X5.hh X5.hx rfl (hb hby d18_28) rfl rfl k) ?_
  refine Go.of (T' := T5) (g' := (mkF mM 30 #[.val (.int (0 : Int32)), .val (.int cc)] [(.int (4 : Int32)), (.ref b), (.ref b)])) (fun _ k => XS.iconst X5.hh X5.hx rfl (hb hby d18_29) k) ?_
  refine Go.of (T' := T5) (g' := (mkF mM 32 #[.val (.int (0 : Int32)), .val (.int cc)] [(.int (101 : Int32)), (.int (4 : Int32)), (.ref b), (.ref b)])) (fun _ k => XS.bipush X5.hh X5.hx rfl (hb hby d18_30) k) ?_
  refine X5.stC 4 V_b (by decide) rfl (Nat.le_of_ble_eq_true rfl) (by omega) (Or.inr (by omega)) (hb hby d18_32) ?_
  intro T6 h6 X6 K6 V_b
  have z6 : h5.size ≤ h6.size := K6.1
  have V_b : Arv Z h6 b kc_b .char (13 : Int32) [(.int (45 : Int32)), (.int (45 : Int32)), (.int (105 : Int32)), (.int (116 : Int32)), (.int (101 : Int32)), (.int (0 : Int32)), (.int (0 : Int32)), (.int (0 : Int32)), (.int (0 : Int32)), (.int (0 : Int32)), (.int (0 : Int32)), (.int (0 : Int32)), (.int (0 : Int32))] (.int (0 : Int32)) := by have q := V_b; rw [(by decide : nar .char (101 : Int32) = 101)] at q; exact q
  show Go pP eE bB _ T6 (mkF mM 33 #[.val (.int (0 : Int32)), .val (.int cc)] [(.ref b)])
  refine Go.of (T' := T6) (g' := (mkF mM 34 #[.val (.int (0 : Int32)), .val (.int cc)] [(.ref b), (.ref b)])) (fun _ k => XS.dup X6.hh X6.hx rfl (hb hby d18_33) rfl rfl k) ?_
  refine Go.of (T' := T6) (g' := (mkF mM 35 #[.val (.int (0 : Int32)), .val (.int cc)] [(.int (5 : Int32)), (.ref b), (.ref b)])) (fun _ k => XS.iconst X6.hh X6.hx rfl (hb hby d18_34) k) ?_
  refine Go.of (T' := T6) (g' := (mkF mM 37 #[.val (.int (0 : Int32)), .val (.int cc)] [(.int (114 : Int32)), (.int (5 : Int32)), (.ref b), (.ref b)])) (fun _ k => XS.bipush X6.hh X6.hx rfl (hb hby d18_35) k) ?_
  refine X6.stC 5 V_b (by decide) rfl (Nat.le_of_ble_eq_true rfl) (by omega) (Or.inr (by omega)) (hb hby d18_37) ?_
  intro T7 h7 X7 K7 V_b
  have z7 : h6.size ≤ h7.size := K7.1
  have V_b : Arv Z h7 b kc_b .char (13 : Int32) [(.int (45 : Int32)), (.int (45 : Int32)), (.int (105 : Int32)), (.int (116 : Int32)), (.int (101 : Int32)), (.int (114 : Int32)), (.int (0 : Int32)), (.int (0 : Int32)), (.int (0 : Int32)), (.int (0 : Int32)), (.int (0 : Int32)), (.int (0 : Int32)), (.int (0 : Int32))] (.int (0 : Int32)) := by have q := V_b; rw [(by decide : nar .char (114 : Int32) = 114)] at q; exact q
  show Go pP eE bB _ T7 (mkF mM 38 #[.val (.int (0 : Int32)), .val (.int cc)] [(.ref b)])
  refine Go.of (T' := T7) (g' := (mkF mM 39 #[.val (.int (0 : Int32)), .val (.int cc)] [(.ref b), (.ref b)])) (fun _ k => XS.dup X7.hh X7.hx rfl (hb hby d18_38) rfl rfl k) ?_
  refine Go.of (T' := T7) (g' := (mkF mM 41 #[.val (.int (0 : Int32)), .val (.int cc)] [(.int (6 : Int32)), (.ref b), (.ref b)])) (fun _ k => XS.bipush X7.hh X7.hx rfl (hb hby d18_39) k) ?_
  refine Go.of (T' := T7) (g' := (mkF mM 43 #[.val (.int (0 : Int32)), .val (.int cc)] [(.int (97 : Int32)), (.int (6 : Int32)), (.ref b), (.ref b)])) (fun _ k => XS.bipush X7.hh X7.hx rfl (hb hby d18_41) k) ?_
  refine X7.stC 6 V_b (by decide) rfl (Nat.le_of_ble_eq_true rfl) (by omega) (Or.inr (by omega)) (hb hby d18_43) ?_
  intro T8 h8 X8 K8 V_b
  have z8 : h7.size ≤ h8.size := K8.1
  have V_b : Arv Z h8 b kc_b .char (13 : Int32) [(.int (45 : Int32)), (.int (45 : Int32)), (.int (105 : Int32)), (.int (116 : Int32)), (.int (101 : Int32)), (.int (114 : Int32)), (.int (97 : Int32)), (.int (0 : Int32)), (.int (0 : Int32)), (.int (0 : Int32)), (.int (0 : Int32)), (.int (0 : Int32)), (.int (0 : Int32))] (.int (0 : Int32)) := by have q := V_b; rw [(by decide : nar .char (97 : Int32) = 97)] at q; exact q
  show Go pP eE bB _ T8 (mkF mM 44 #[.val (.int (0 : Int32)), .val (.int cc)] [(.ref b)])
  refine Go.of (T' := T8) (g' := (mkF mM 45 #[.val (.int (0 : Int32)), .val (.int cc)] [(.ref b), (.ref b)])) (fun _ k => XS.dup X8.hh X8.hx rfl (hb hby d18_44) rfl rfl k) ?_
  refine Go.of (T' := T8) (g' := (mkF mM 47 #[.val (.int (0 : Int32)), .val (.int cc)] [(.int (7 : Int32)), (.ref b), (.ref b)])) (fun _ k => XS.bipush X8.hh X8.hx rfl (hb hby d18_45) k) ?_
  refine Go.of (T' := T8) (g' := (mkF mM 49 #[.val (.int (0 : Int32)), .val (.int cc)] [(.int (116 : Int32)), (.int (7 : Int32)), (.ref b), (.ref b)])) (fun _ k => XS.bipush X8.hh X8.hx rfl (hb hby d18_47) k) ?_
  refine X8.stC 7 V_b (by decide) rfl (Nat.le_of_ble_eq_true rfl) (by omega) (Or.inr (by omega)) (hb hby d18_49) ?_
  intro T9 h9 X9 K9 V_b
  have z9 : h8.size ≤ h9.size := K9.1
  have V_b : Arv Z h9 b kc_b .char (13 : Int32) [(.int (45 : Int32)), (.int (45 : Int32)), (.int (105 : Int32)), (.int (116 : Int32)), (.int (101 : Int32)), (.int (114 : Int32)), (.int (97 : Int32)), (.int (116 : Int32)), (.int (0 : Int32)), (.int (0 : Int32)), (.int (0 : Int32)), (.int (0 : Int32)), (.int (0 : Int32))] (.int (0 : Int32)) := by have q := V_b; rw [(by decide : nar .char (116 : Int32) = 116)] at q; exact q
  show Go pP eE bB _ T9 (mkF mM 50 #[.val (.int (0 : Int32)), .val (.int cc)] [(.ref b)])
  refine Go.of (T' := T9) (g' := (mkF mM 51 #[.val (.int (0 : Int32)), .val (.int cc)] [(.ref b), (.ref b)])) (fun _ k => XS.dup X9.hh X9.hx rfl (hb hby d18_50) rfl rfl k) ?_
  refine Go.of (T' := T9) (g' := (mkF mM 53 #[.val (.int (0 : Int32)), .val (.int cc)] [(.int (8 : Int32)), (.ref b), (.ref b)])) (fun _ k => XS.bipush X9.hh X9.hx rfl (hb hby d18_51) k) ?_
  refine Go.of (T' := T9) (g' := (mkF mM 55 #[.val (.int (0 : Int32)), .val (.int cc)] [(.int (105 : Int32)), (.int (8 : Int32)), (.ref b), (.ref b)])) (fun _ k => XS.bipush X9.hh X9.hx rfl (hb hby d18_53) k) ?_
  refine X9.stC 8 V_b (by decide) rfl (Nat.le_of_ble_eq_true rfl) (by omega) (Or.inr (by omega)) (hb hby d18_55) ?_
  intro T10 h10 X10 K10 V_b
  have z10 : h9.size ≤ h10.size := K10.1
  have V_b : Arv Z h10 b kc_b .char (13 : Int32) [(.int (45 : Int32)), (.int (45 : Int32)), (.int (105 : Int32)), (.int (116 : Int32)), (.int (101 : Int32)), (.int (114 : Int32)), (.int (97 : Int32)), (.int (116 : Int32)), (.int (105 : Int32)), (.int (0 : Int32)), (.int (0 : Int32)), (.int (0 : Int32)), (.int (0 : Int32))] (.int (0 : Int32)) := by have q := V_b; rw [(by decide : nar .char (105 : Int32) = 105)] at q; exact q
  show Go pP eE bB _ T10 (mkF mM 56 #[.val (.int (0 : Int32)), .val (.int cc)] [(.ref b)])
  refine Go.of (T' := T10) (g' := (mkF mM 57 #[.val (.int (0 : Int32)), .val (.int cc)] [(.ref b), (.ref b)])) (fun _ k => XS.dup X10.hh X10.hx rfl (hb hby d18_56) rfl rfl k) ?_
  refine Go.of (T' := T10) (g' := (mkF mM 59 #[.val (.int (0 : Int32)), .val (.int cc)] [(.int (9 : Int32)), (.ref b), (.ref b)])) (fun _ k => XS.bipush X10.hh X10.hx rfl (hb hby d18_57) k) ?_
  refine Go.of (T' := T10) (g' := (mkF mM 61 #[.val (.int (0 : Int32)), .val (.int cc)] [(.int (111 : Int32)), (.int (9 : Int32)), (.ref b), (.ref b)])) (fun _ k => XS.bipush X10.hh X10.hx rfl (hb hby d18_59) k) ?_
  refine X10.stC 9 V_b (by decide) rfl (Nat.le_of_ble_eq_true rfl) (by omega) (Or.inr (by omega)) (hb hby d18_61) ?_
  intro T11 h11 X11 K11 V_b
  have z11 : h10.size ≤ h11.size := K11.1
  have V_b : Arv Z h11 b kc_b .char (13 : Int32) [(.int (45 : Int32)), (.int (45 : Int32)), (.int (105 : Int32)), (.int (116 : Int32)), (.int (101 : Int32)), (.int (114 : Int32)), (.int (97 : Int32)), (.int (116 : Int32)), (.int (105 : Int32)), (.int (111 : Int32)), (.int (0 : Int32)), (.int (0 : Int32)), (.int (0 : Int32))] (.int (0 : Int32)) := by have q := V_b; rw [(by decide : nar .char (111 : Int32) = 111)] at q; exact q
  show Go pP eE bB _ T11 (mkF mM 62 #[.val (.int (0 : Int32)), .val (.int cc)] [(.ref b)])
  refine Go.of (T' := T11) (g' := (mkF mM 63 #[.val (.int (0 : Int32)), .val (.int cc)] [(.ref b), (.ref b)])) (fun _ k => XS.dup X11.hh X11.hx rfl (hb hby d18_62) rfl rfl k) ?_
  refine Go.of (T' := T11) (g' := (mkF mM 65 #[.val (.int (0 : Int32)), .val (.int cc)] [(.int (10 : Int32)), (.ref b), (.ref b)])) (fun _ k => XS.bipush X11.hh X11.hx rfl (hb hby d18_63) k) ?_
  refine Go.of (T' := T11) (g' := (mkF mM 67 #[.val (.int (0 : Int32)), .val (.int cc)] [(.int (110 : Int32)), (.int (10 : Int32)), (.ref b), (.ref b)])) (fun _ k => XS.bipush X11.hh X11.hx rfl (hb hby d18_65) k) ?_
  refine X11.stC 10 V_b (by decide) rfl (Nat.le_of_ble_eq_true rfl) (by omega) (Or.inr (by omega)) (hb hby d18_67) ?_
  intro T12 h12 X12 K12 V_b
  have z12 : h11.size ≤ h12.size := K12.1
  have V_b : Arv Z h12 b kc_b .char (13 : Int32) [(.int (45 : Int32)), (.int (45 : Int32)), (.int (105 : Int32)), (.int (116 : Int32)), (.int (101 : Int32)), (.int (114 : Int32)), (.int (97 : Int32)), (.int (116 : Int32)), (.int (105 : Int32)), (.int (111 : Int32)), (.int (110 : Int32)), (.int (0 : Int32)), (.int (0 : Int32))] (.int (0 : Int32)) := by have q := V_b; rw [(by decide : nar .char (110 : Int32) = 110)] at q; exact q
  show Go pP eE bB _ T12 (mkF mM 68 #[.val (.int (0 : Int32)), .val (.int cc)] [(.ref b)])
  refine Go.of (T' := T12) (g' := (mkF mM 69 #[.val (.int (0 : Int32)), .val (.int cc)] [(.ref b), (.ref b)])) (fun _ k => XS.dup X12.hh X12.hx rfl (hb hby d18_68) rfl rfl k) ?_
  refine Go.of (T' := T12) (g' := (mkF mM 71 #[.val (.int (0 : Int32)), .val (.int cc)] [(.int (11 : Int32)), (.ref b), (.ref b)])) (fun _ k => XS.bipush X12.hh X12.hx rfl (hb hby d18_69) k) ?_
  refine Go.of (T' := T12) (g' := (mkF mM 73 #[.val (.int (0 : Int32)), .val (.int cc)] [(.int (115 : Int32)), (.int (11 : Int32)), (.ref b), (.ref b)])) (fun _ k => XS.bipush X12.hh X12.hx rfl (hb hby d18_71) k) ?_
  refine X12.stC 11 V_b (by decide) rfl (Nat.le_of_ble_eq_true rfl) (by omega) (Or.inr (by omega)) (hb hby d18_73) ?_
  intro T13 h13 X13 K13 V_b
  have z13 : h12.size ≤ h13.size := K13.1
  have V_b : Arv Z h13 b kc_b .char (13 : Int32) [(.int (45 : Int32)), (.int (45 : Int32)), (.int (105 : Int32)), (.int (116 : Int32)), (.int (101 : Int32)), (.int (114 : Int32)), (.int (97 : Int32)), (.int (116 : Int32)), (.int (105 : Int32)), (.int (111 : Int32)), (.int (110 : Int32)), (.int (115 : Int32)), (.int (0 : Int32))] (.int (0 : Int32)) := by have q := V_b; rw [(by decide : nar .char (115 : Int32) = 115)] at q; exact q
  show Go pP eE bB _ T13 (mkF mM 74 #[.val (.int (0 : Int32)), .val (.int cc)] [(.ref b)])
  refine Go.of (T' := T13) (g' := (mkF mM 75 #[.val (.int (0 : Int32)), .val (.int cc)] [(.ref b), (.ref b)])) (fun _ k => XS.dup X13.hh X13.hx rfl (hb hby d18_74) rfl rfl k) ?_
  refine Go.of (T' := T13) (g' := (mkF mM 77 #[.val (.int (0 : Int32)), .val (.int cc)] [(.int (12 : Int32)), (.ref b), (.ref b)])) (fun _ k => XS.bipush X13.hh X13.hx rfl (hb hby d18_75) k) ?_
  refine Go.of (T' := T13) (g' := (mkF mM 78 #[.val (.int (0 : Int32)), .val (.int cc)] [(.int cc), (.int (12 : Int32)), (.ref b), (.ref b)])) (fun _ k => XS.iloadN X13.hh X13.hx rfl (hb hby d18_77) rfl k) ?_
  refine X13.stC 12 V_b (by decide) rfl (Nat.le_of_ble_eq_true rfl) (by omega) (Or.inr (by omega)) (hb hby d18_78) ?_
  intro T14 h14 X14 K14 V_b
  have z14 : h13.size ≤ h14.size := K14.1
  have V_b : Arv Z h14 b kc_b .char (13 : Int32) [(.int (45 : Int32)), (.int (45 : Int32)), (.int (105 : Int32)), (.int (116 : Int32)), (.int (101 : Int32)), (.int (114 : Int32)), (.int (97 : Int32)), (.int (116 : Int32)), (.int (105 : Int32)), (.int (111 : Int32)), (.int (110 : Int32)), (.int (115 : Int32)), (.int cc)] (.int (0 : Int32)) := by have q := V_b; rw [nar255 cc hc.1 hc.2] at q; exact q
  show Go pP eE bB _ T14 (mkF mM 79 #[.val (.int (0 : Int32)), .val (.int cc)] [(.ref b)])
  exact X14.aret hret rfl rfl rfl hlk (by decide) (by decide) (hb hby d18_79) (fun S hS => ⟨b, kc_b, rfl, by omega, V_b⟩)
def Q_chars_1 (Z : State)  (h0 : Heap) : Option Value → (Addr → Prop) → Heap → Prop := fun v _ h => ∃ (b : Nat) (kc : ClassId), v = some (.ref b) ∧ h0.size ≤ b ∧ Arv Z h b kc .char (6 : Int32) [.int (45 : Int32), .int (45 : Int32), .int (115 : Int32), .int (97 : Int32), .int (108 : Int32), .int (116 : Int32)] (.int 0)
theorem ef_chars_1 (m : MethodId)  : entryFrame m #[(.int (1 : Int32))] 1 = mkF m 0 #[.val (.int (1 : Int32))] [] := by first | (simp [entryFrame, mkF, argsToLocals, Value.category]; done) | rfl
set_option maxRecDepth 65536 in
set_option maxHeartbeats 40000000 in
theorem chars_1 (l : Launch) (Z : State) (a0 : Array Value) (G : Wld Z a0)  (h0 : Heap)  :
    Met l Z consts_1 (⟨"dev/portcullis/cli/OptionTypedPinLaw", "chars", "(I)[C"⟩ : MethodName) method_2_code 1 (some (.array .char)) ({ frames := 0, cells := 1, slots := 6, locals := 0 } : Room) #[(.int (1 : Int32))] h0 [] [] (Q_chars_1 Z h0) := by
  have hw := G.1
  have hEL := G.2.1
  refine Met.intro (a0 := a0) hEL pn_3 ?_
  intro pP eE sS mM bB mE cC T0 X0 hml hby hret hnm hlk hs0
  have hz0 : sS.heap.size = h0.size := by rw [hs0]
  have n0 : Z.heap.size ≤ h0.size := X0.ext0.1
  refine Go.cast (ef_chars_1 mM ) ?_
  refine Go.of (T' := T0) (g' := (mkF mM 1 #[.val (.int (1 : Int32))] [(.int (1 : Int32))])) (fun _ k => XS.iloadN X0.hh X0.hx rfl (hb hby d2_0) rfl k) ?_
  refine Go.of (T' := T0) (g' := (mkF mM 75 #[.val (.int (1 : Int32))] [])) (fun _ k => XS.ifYes X0.hh X0.hx rfl (pc0 := 1) (pc' := 75) rfl (hb hby d2_1) rfl ((if0 _ _).trans (feq (by decide)).2) (by decide) (by decide) k) ?_
  refine Go.of (T' := T0) (g' := (mkF mM 76 #[.val (.int (1 : Int32))] [(.int (1 : Int32))])) (fun _ k => XS.iloadN X0.hh X0.hx rfl (hb hby d2_75) rfl k) ?_
  refine Go.of (T' := T0) (g' := (mkF mM 77 #[.val (.int (1 : Int32))] [(.int (1 : Int32)), (.int (1 : Int32))])) (fun _ k => XS.iconst X0.hh X0.hx rfl (hb hby d2_76) k) ?_
  refine Go.of (T' := T0) (g' := (mkF mM 80 #[.val (.int (1 : Int32))] [])) (fun _ k => XS.icmpNo X0.hh X0.hx rfl (hb hby d2_77) rfl (teq (by decide)).2 k) ?_
  refine Go.of (T' := T0) (g' := (mkF mM 82 #[.val (.int (1 : Int32))] [(.int (6 : Int32))])) (fun _ k => XS.bipush X0.hh X0.hx rfl (hb hby d2_80) k) ?_
  refine X0.newP (cap := 6) (hw _ (List.mem_of_getElem? (i := 29) rfl)) (hb hby d2_82) (by decide) (by decide) (by decide) (by decide) (by decide) ?_
  intro T1 h1 b kc_b g_b X1 E1 V_b
  have z1 : h0.size ≤ h1.size := E1.1
  have l_b : b < h1.size := V_b.lt
  have V_b : Arv Z h1 b kc_b .char (6 : Int32) [(.int (0 : Int32)), (.int (0 : Int32)), (.int (0 : Int32)), (.int (0 : Int32)), (.int (0 : Int32)), (.int (0 : Int32))] (.int (0 : Int32)) := Arv.pad V_b (pad_rep [] _ 6)
  show Go pP eE bB _ T1 (mkF mM 84 #[.val (.int (1 : Int32))] [(.ref b)])
  refine Go.of (T' := T1) (g' := (mkF mM 85 #[.val (.int (1 : Int32))] [(.ref b), (.ref b)])) (fun _ k => XS.dup X1.hh X1.hx rfl (hb hby d2_84) rfl rfl k) ?_
  refine Go.of (T' := T1) (g' := (mkF mM 86 #[.val (.int (1 : Int32))] [(.int (0 : Int32)), (.ref b), (.ref b)])) (fun _ k => XS.iconst X1.hh X1.hx rfl (hb hby d2_85) k) ?_
  refine Go.of (T' := T1) (g' := (mkF mM 88 #[.val (.int (1 : Int32))] [(.int (45 : Int32)), (.int (0 : Int32)), (.ref b), (.ref b)])) (fun _ k => XS.bipush X1.hh X1.hx rfl (hb hby d2_86) k) ?_
  refine X1.stC 0 V_b (by decide) rfl (Nat.le_of_ble_eq_true rfl) (by omega) (Or.inr (by omega)) (hb hby d2_88) ?_
  intro T2 h2 X2 K2 V_b
  have z2 : h1.size ≤ h2.size := K2.1
  have V_b : Arv Z h2 b kc_b .char (6 : Int32) [(.int (45 : Int32)), (.int (0 : Int32)), (.int (0 : Int32)), (.int (0 : Int32)), (.int (0 : Int32)), (.int (0 : Int32))] (.int (0 : Int32)) := by have q := V_b; rw [(by decide : nar .char (45 : Int32) = 45)] at q; exact q
  show Go pP eE bB _ T2 (mkF mM 89 #[.val (.int (1 : Int32))] [(.ref b)])
  refine Go.of (T' := T2) (g' := (mkF mM 90 #[.val (.int (1 : Int32))] [(.ref b), (.ref b)])) (fun _ k => XS.dup X2.hh X2.hx rfl (hb hby d2_89) rfl rfl k) ?_
  refine Go.of (T' := T2) (g' := (mkF mM 91 #[.val (.int (1 : Int32))] [(.int (1 : Int32)), (.ref b), (.ref b)])) (fun _ k => XS.iconst X2.hh X2.hx rfl (hb hby d2_90) k) ?_
  refine Go.of (T' := T2) (g' := (mkF mM 93 #[.val (.int (1 : Int32))] [(.int (45 : Int32)), (.int (1 : Int32)), (.ref b), (.ref b)])) (fun _ k => XS.bipush X2.hh X2.hx rfl (hb hby d2_91) k) ?_
  refine X2.stC 1 V_b (by decide) rfl (Nat.le_of_ble_eq_true rfl) (by omega) (Or.inr (by omega)) (hb hby d2_93) ?_
  intro T3 h3 X3 K3 V_b
  have z3 : h2.size ≤ h3.size := K3.1
  have V_b : Arv Z h3 b kc_b .char (6 : Int32) [(.int (45 : Int32)), (.int (45 : Int32)), (.int (0 : Int32)), (.int (0 : Int32)), (.int (0 : Int32)), (.int (0 : Int32))] (.int (0 : Int32)) := by have q := V_b; rw [(by decide : nar .char (45 : Int32) = 45)] at q; exact q
  show Go pP eE bB _ T3 (mkF mM 94 #[.val (.int (1 : Int32))] [(.ref b)])
  refine Go.of (T' := T3) (g' := (mkF mM 95 #[.val (.int (1 : Int32))] [(.ref b), (.ref b)])) (fun _ k => XS.dup X3.hh X3.hx rfl (hb hby d2_94) rfl rfl k) ?_
  refine Go.of (T' := T3) (g' := (mkF mM 96 #[.val (.int (1 : Int32))] [(.int (2 : Int32)), (.ref b), (.ref b)])) (fun _ k => XS.iconst X3.hh X3.hx rfl (hb hby d2_95) k) ?_
  refine Go.of (T' := T3) (g' := (mkF mM 98 #[.val (.int (1 : Int32))] [(.int (115 : Int32)), (.int (2 : Int32)), (.ref b), (.ref b)])) (fun _ k => XS.bipush X3.hh X3.hx rfl (hb hby d2_96) k) ?_
  refine X3.stC 2 V_b (by decide) rfl (Nat.le_of_ble_eq_true rfl) (by omega) (Or.inr (by omega)) (hb hby d2_98) ?_
  intro T4 h4 X4 K4 V_b
  have z4 : h3.size ≤ h4.size := K4.1
  have V_b : Arv Z h4 b kc_b .char (6 : Int32) [(.int (45 : Int32)), (.int (45 : Int32)), (.int (115 : Int32)), (.int (0 : Int32)), (.int (0 : Int32)), (.int (0 : Int32))] (.int (0 : Int32)) := by have q := V_b; rw [(by decide : nar .char (115 : Int32) = 115)] at q; exact q
  show Go pP eE bB _ T4 (mkF mM 99 #[.val (.int (1 : Int32))] [(.ref b)])
  refine Go.of (T' := T4) (g' := (mkF mM 100 #[.val (.int (1 : Int32))] [(.ref b), (.ref b)])) (fun _ k => XS.dup X4.hh X4.hx rfl (hb hby d2_99) rfl rfl k) ?_
  refine Go.of (T' := T4) (g' := (mkF mM 101 #[.val (.int (1 : Int32))] [(.int (3 : Int32)), (.ref b), (.ref b)])) (fun _ k => XS.iconst X4.hh X4.hx rfl (hb hby d2_100) k) ?_
  refine Go.of (T' := T4) (g' := (mkF mM 103 #[.val (.int (1 : Int32))] [(.int (97 : Int32)), (.int (3 : Int32)), (.ref b), (.ref b)])) (fun _ k => XS.bipush X4.hh X4.hx rfl (hb hby d2_101) k) ?_
  refine X4.stC 3 V_b (by decide) rfl (Nat.le_of_ble_eq_true rfl) (by omega) (Or.inr (by omega)) (hb hby d2_103) ?_
  intro T5 h5 X5 K5 V_b
  have z5 : h4.size ≤ h5.size := K5.1
  have V_b : Arv Z h5 b kc_b .char (6 : Int32) [(.int (45 : Int32)), (.int (45 : Int32)), (.int (115 : Int32)), (.int (97 : Int32)), (.int (0 : Int32)), (.int (0 : Int32))] (.int (0 : Int32)) := by have q := V_b; rw [(by decide : nar .char (97 : Int32) = 97)] at q; exact q
  show Go pP eE bB _ T5 (mkF mM 104 #[.val (.int (1 : Int32))] [(.ref b)])
  refine Go.of (T' := T5) (g' := (mkF mM 105 #[.val (.int (1 : Int32))] [(.ref b), (.ref b)])) (fun _ k => XS.dup X5.hh X5.hx rfl (hb hby d2_104) rfl rfl k) ?_
  refine Go.of (T' := T5) (g' := (mkF mM 106 #[.val (.int (1 : Int32))] [(.int (4 : Int32)), (.ref b), (.ref b)])) (fun _ k => XS.iconst X5.hh X5.hx rfl (hb hby d2_105) k) ?_
  refine Go.of (T' := T5) (g' := (mkF mM 108 #[.val (.int (1 : Int32))] [(.int (108 : Int32)), (.int (4 : Int32)), (.ref b), (.ref b)])) (fun _ k => XS.bipush X5.hh X5.hx rfl (hb hby d2_106) k) ?_
  refine X5.stC 4 V_b (by decide) rfl (Nat.le_of_ble_eq_true rfl) (by omega) (Or.inr (by omega)) (hb hby d2_108) ?_
  intro T6 h6 X6 K6 V_b
  have z6 : h5.size ≤ h6.size := K6.1
  have V_b : Arv Z h6 b kc_b .char (6 : Int32) [(.int (45 : Int32)), (.int (45 : Int32)), (.int (115 : Int32)), (.int (97 : Int32)), (.int (108 : Int32)), (.int (0 : Int32))] (.int (0 : Int32)) := by have q := V_b; rw [(by decide : nar .char (108 : Int32) = 108)] at q; exact q
  show Go pP eE bB _ T6 (mkF mM 109 #[.val (.int (1 : Int32))] [(.ref b)])
  refine Go.of (T' := T6) (g' := (mkF mM 110 #[.val (.int (1 : Int32))] [(.ref b), (.ref b)])) (fun _ k => XS.dup X6.hh X6.hx rfl (hb hby d2_109) rfl rfl k) ?_
  refine Go.of (T' := T6) (g' := (mkF mM 111 #[.val (.int (1 : Int32))] [(.int (5 : Int32)), (.ref b), (.ref b)])) (fun _ k => XS.iconst X6.hh X6.hx rfl (hb hby d2_110) k) ?_
  refine Go.of (T' := T6) (g' := (mkF mM 113 #[.val (.int (1 : Int32))] [(.int (116 : Int32)), (.int (5 : Int32)), (.ref b), (.ref b)])) (fun _ k => XS.bipush X6.hh X6.hx rfl (hb hby d2_111) k) ?_
  refine X6.stC 5 V_b (by decide) rfl (Nat.le_of_ble_eq_true rfl) (by omega) (Or.inr (by omega)) (hb hby d2_113) ?_
  intro T7 h7 X7 K7 V_b
  have z7 : h6.size ≤ h7.size := K7.1
  have V_b : Arv Z h7 b kc_b .char (6 : Int32) [(.int (45 : Int32)), (.int (45 : Int32)), (.int (115 : Int32)), (.int (97 : Int32)), (.int (108 : Int32)), (.int (116 : Int32))] (.int (0 : Int32)) := by have q := V_b; rw [(by decide : nar .char (116 : Int32) = 116)] at q; exact q
  show Go pP eE bB _ T7 (mkF mM 114 #[.val (.int (1 : Int32))] [(.ref b)])
  exact X7.aret hret rfl rfl rfl hlk (by decide) (by decide) (hb hby d2_114) (fun S hS => ⟨b, kc_b, rfl, by omega, V_b⟩)
def Q_appended_1 (Z : State) (cc : Int32) (h0 : Heap) : Option Value → (Addr → Prop) → Heap → Prop := fun v _ h => ∃ (b : Nat) (kc : ClassId), v = some (.ref b) ∧ h0.size ≤ b ∧ Arv Z h b kc .char (7 : Int32) [.int (45 : Int32), .int (45 : Int32), .int (115 : Int32), .int (97 : Int32), .int (108 : Int32), .int (116 : Int32), .int cc] (.int 0)
theorem ef_appended_1 (m : MethodId) (cc : Int32) : entryFrame m #[(.int (1 : Int32)), (.int cc)] 2 = mkF m 0 #[.val (.int (1 : Int32)), .val (.int cc)] [] := by first | (simp [entryFrame, mkF, argsToLocals, Value.category]; done) | rfl
set_option maxRecDepth 65536 in
set_option maxHeartbeats 40000000 in
theorem appended_1 (l : Launch) (Z : State) (a0 : Array Value) (G : Wld Z a0) (cc : Int32) (h0 : Heap) (hc : ¬ cc < 0 ∧ ¬ (255 : Int32) < cc) :
    Met l Z consts_1 (⟨"dev/portcullis/cli/OptionTypedPinLaw", "appended", "(IC)[C"⟩ : MethodName) method_3_code 2 (some (.array .char)) ({ frames := 0, cells := 1, slots := 7, locals := 0 } : Room) #[(.int (1 : Int32)), (.int cc)] h0 [] [] (Q_appended_1 Z cc h0) := by
  have hw := G.1
  have hEL := G.2.1
  refine Met.intro (a0 := a0) hEL pn_3 ?_
  intro pP eE sS mM bB mE cC T0 X0 hml hby hret hnm hlk hs0
  have hz0 : sS.heap.size = h0.size := by rw [hs0]
  have n0 : Z.heap.size ≤ h0.size := X0.ext0.1
  refine Go.cast (ef_appended_1 mM cc) ?_
  refine Go.of (T' := T0) (g' := (mkF mM 1 #[.val (.int (1 : Int32)), .val (.int cc)] [(.int (1 : Int32))])) (fun _ k => XS.iloadN X0.hh X0.hx rfl (hb hby d18_0) rfl k) ?_
  refine Go.of (T' := T0) (g' := (mkF mM 80 #[.val (.int (1 : Int32)), .val (.int cc)] [])) (fun _ k => XS.ifYes X0.hh X0.hx rfl (pc0 := 1) (pc' := 80) rfl (hb hby d18_1) rfl ((if0 _ _).trans (feq (by decide)).2) (by decide) (by decide) k) ?_
  refine Go.of (T' := T0) (g' := (mkF mM 81 #[.val (.int (1 : Int32)), .val (.int cc)] [(.int (1 : Int32))])) (fun _ k => XS.iloadN X0.hh X0.hx rfl (hb hby d18_80) rfl k) ?_
  refine Go.of (T' := T0) (g' := (mkF mM 82 #[.val (.int (1 : Int32)), .val (.int cc)] [(.int (1 : Int32)), (.int (1 : Int32))])) (fun _ k => XS.iconst X0.hh X0.hx rfl (hb hby d18_81) k) ?_
  refine Go.of (T' := T0) (g' := (mkF mM 85 #[.val (.int (1 : Int32)), .val (.int cc)] [])) (fun _ k => XS.icmpNo X0.hh X0.hx rfl (hb hby d18_82) rfl (teq (by decide)).2 k) ?_
  refine Go.of (T' := T0) (g' := (mkF mM 87 #[.val (.int (1 : Int32)), .val (.int cc)] [(.int (7 : Int32))])) (fun _ k => XS.bipush X0.hh X0.hx rfl (hb hby d18_85) k) ?_
  refine X0.newP (cap := 7) (hw _ (List.mem_of_getElem? (i := 29) rfl)) (hb hby d18_87) (by decide) (by decide) (by decide) (by decide) (by decide) ?_
  intro T1 h1 b kc_b g_b X1 E1 V_b
  have z1 : h0.size ≤ h1.size := E1.1
  have l_b : b < h1.size := V_b.lt
  have V_b : Arv Z h1 b kc_b .char (7 : Int32) [(.int (0 : Int32)), (.int (0 : Int32)), (.int (0 : Int32)), (.int (0 : Int32)), (.int (0 : Int32)), (.int (0 : Int32)), (.int (0 : Int32))] (.int (0 : Int32)) := Arv.pad V_b (pad_rep [] _ 7)
  show Go pP eE bB _ T1 (mkF mM 89 #[.val (.int (1 : Int32)), .val (.int cc)] [(.ref b)])
  refine Go.of (T' := T1) (g' := (mkF mM 90 #[.val (.int (1 : Int32)), .val (.int cc)] [(.ref b), (.ref b)])) (fun _ k => XS.dup X1.hh X1.hx rfl (hb hby d18_89) rfl rfl k) ?_
  refine Go.of (T' := T1) (g' := (mkF mM 91 #[.val (.int (1 : Int32)), .val (.int cc)] [(.int (0 : Int32)), (.ref b), (.ref b)])) (fun _ k => XS.iconst X1.hh X1.hx rfl (hb hby d18_90) k) ?_
  refine Go.of (T' := T1) (g' := (mkF mM 93 #[.val (.int (1 : Int32)), .val (.int cc)] [(.int (45 : Int32)), (.int (0 : Int32)), (.ref b), (.ref b)])) (fun _ k => XS.bipush X1.hh X1.hx rfl (hb hby d18_91) k) ?_
  refine X1.stC 0 V_b (by decide) rfl (Nat.le_of_ble_eq_true rfl) (by omega) (Or.inr (by omega)) (hb hby d18_93) ?_
  intro T2 h2 X2 K2 V_b
  have z2 : h1.size ≤ h2.size := K2.1
  have V_b : Arv Z h2 b kc_b .char (7 : Int32) [(.int (45 : Int32)), (.int (0 : Int32)), (.int (0 : Int32)), (.int (0 : Int32)), (.int (0 : Int32)), (.int (0 : Int32)), (.int (0 : Int32))] (.int (0 : Int32)) := by have q := V_b; rw [(by decide : nar .char (45 : Int32) = 45)] at q; exact q
  show Go pP eE bB _ T2 (mkF mM 94 #[.val (.int (1 : Int32)), .val (.int cc)] [(.ref b)])
  refine Go.of (T' := T2) (g' := (mkF mM 95 #[.val (.int (1 : Int32)), .val (.int cc)] [(.ref b), (.ref b)])) (fun _ k => XS.dup X2.hh X2.hx rfl (hb hby d18_94) rfl rfl k) ?_
  refine Go.of (T' := T2) (g' := (mkF mM 96 #[.val (.int (1 : Int32)), .val (.int cc)] [(.int (1 : Int32)), (.ref b), (.ref b)])) (fun _ k => XS.iconst X2.hh X2.hx rfl (hb hby d18_95) k) ?_
  refine Go.of (T' := T2) (g' := (mkF mM 98 #[.val (.int (1 : Int32)), .val (.int cc)] [(.int (45 : Int32)), (.int (1 : Int32)), (.ref b), (.ref b)])) (fun _ k => XS.bipush X2.hh X2.hx rfl (hb hby d18_96) k) ?_
  refine X2.stC 1 V_b (by decide) rfl (Nat.le_of_ble_eq_true rfl) (by omega) (Or.inr (by omega)) (hb hby d18_98) ?_
  intro T3 h3 X3 K3 V_b
  have z3 : h2.size ≤ h3.size := K3.1
  have V_b : Arv Z h3 b kc_b .char (7 : Int32) [(.int (45 : Int32)), (.int (45 : Int32)), (.int (0 : Int32)), (.int (0 : Int32)), (.int (0 : Int32)), (.int (0 : Int32)), (.int (0 : Int32))] (.int (0 : Int32)) := by have q := V_b; rw [(by decide : nar .char (45 : Int32) = 45)] at q; exact q
  show Go pP eE bB _ T3 (mkF mM 99 #[.val (.int (1 : Int32)), .val (.int cc)] [(.ref b)])
  refine Go.of (T' := T3) (g' := (mkF mM 100 #[.val (.int (1 : Int32)), .val (.int cc)] [(.ref b), (.ref b)])) (fun _ k => XS.dup X3.hh X3.hx rfl (hb hby d18_99) rfl rfl k) ?_
  refine Go.of (T' := T3) (g' := (mkF mM 101 #[.val (.int (1 : Int32)), .val (.int cc)] [(.int (2 : Int32)), (.ref b), (.ref b)])) (fun _ k => XS.iconst X3.hh X3.hx rfl (hb hby d18_100) k) ?_
  refine Go.of (T' := T3) (g' := (mkF mM 103 #[.val (.int (1 : Int32)), .val (.int cc)] [(.int (115 : Int32)), (.int (2 : Int32)), (.ref b), (.ref b)])) (fun _ k => XS.bipush X3.hh X3.hx rfl (hb hby d18_101) k) ?_
  refine X3.stC 2 V_b (by decide) rfl (Nat.le_of_ble_eq_true rfl) (by omega) (Or.inr (by omega)) (hb hby d18_103) ?_
  intro T4 h4 X4 K4 V_b
  have z4 : h3.size ≤ h4.size := K4.1
  have V_b : Arv Z h4 b kc_b .char (7 : Int32) [(.int (45 : Int32)), (.int (45 : Int32)), (.int (115 : Int32)), (.int (0 : Int32)), (.int (0 : Int32)), (.int (0 : Int32)), (.int (0 : Int32))] (.int (0 : Int32)) := by have q := V_b; rw [(by decide : nar .char (115 : Int32) = 115)] at q; exact q
  show Go pP eE bB _ T4 (mkF mM 104 #[.val (.int (1 : Int32)), .val (.int cc)] [(.ref b)])
  refine Go.of (T' := T4) (g' := (mkF mM 105 #[.val (.int (1 : Int32)), .val (.int cc)] [(.ref b), (.ref b)])) (fun _ k => XS.dup X4.hh X4.hx rfl (hb hby d18_104) rfl rfl k) ?_
  refine Go.of (T' := T4) (g' := (mkF mM 106 #[.val (.int (1 : Int32)), .val (.int cc)] [(.int (3 : Int32)), (.ref b), (.ref b)])) (fun _ k => XS.iconst X4.hh X4.hx rfl (hb hby d18_105) k) ?_
  refine Go.of (T' := T4) (g' := (mkF mM 108 #[.val (.int (1 : Int32)), .val (.int cc)] [(.int (97 : Int32)), (.int (3 : Int32)), (.ref b), (.ref b)])) (fun _ k => XS.bipush X4.hh X4.hx rfl (hb hby d18_106) k) ?_
  refine X4.stC 3 V_b (by decide) rfl (Nat.le_of_ble_eq_true rfl) (by omega) (Or.inr (by omega)) (hb hby d18_108) ?_
  intro T5 h5 X5 K5 V_b
  have z5 : h4.size ≤ h5.size := K5.1
  have V_b : Arv Z h5 b kc_b .char (7 : Int32) [(.int (45 : Int32)), (.int (45 : Int32)), (.int (115 : Int32)), (.int (97 : Int32)), (.int (0 : Int32)), (.int (0 : Int32)), (.int (0 : Int32))] (.int (0 : Int32)) := by have q := V_b; rw [(by decide : nar .char (97 : Int32) = 97)] at q; exact q
  show Go pP eE bB _ T5 (mkF mM 109 #[.val (.int (1 : Int32)), .val (.int cc)] [(.ref b)])
  refine Go.of (T' := T5) (g' := (mkF mM 110 #[.val (.int (1 : Int32)), .val (.int cc)] [(.ref b), (.ref b)])) (fun _ k => XS.dup X5.hh X5.hx rfl (hb hby d18_109) rfl rfl k) ?_
  refine Go.of (T' := T5) (g' := (mkF mM 111 #[.val (.int (1 : Int32)), .val (.int cc)] [(.int (4 : Int32)), (.ref b), (.ref b)])) (fun _ k => XS.iconst X5.hh X5.hx rfl (hb hby d18_110) k) ?_
  refine Go.of (T' := T5) (g' := (mkF mM 113 #[.val (.int (1 : Int32)), .val (.int cc)] [(.int (108 : Int32)), (.int (4 : Int32)), (.ref b), (.ref b)])) (fun _ k => XS.bipush X5.hh X5.hx rfl (hb hby d18_111) k) ?_
  refine X5.stC 4 V_b (by decide) rfl (Nat.le_of_ble_eq_true rfl) (by omega) (Or.inr (by omega)) (hb hby d18_113) ?_
  intro T6 h6 X6 K6 V_b
  have z6 : h5.size ≤ h6.size := K6.1
  have V_b : Arv Z h6 b kc_b .char (7 : Int32) [(.int (45 : Int32)), (.int (45 : Int32)), (.int (115 : Int32)), (.int (97 : Int32)), (.int (108 : Int32)), (.int (0 : Int32)), (.int (0 : Int32))] (.int (0 : Int32)) := by have q := V_b; rw [(by decide : nar .char (108 : Int32) = 108)] at q; exact q
  show Go pP eE bB _ T6 (mkF mM 114 #[.val (.int (1 : Int32)), .val (.int cc)] [(.ref b)])
  refine Go.of (T' := T6) (g' := (mkF mM 115 #[.val (.int (1 : Int32)), .val (.int cc)] [(.ref b), (.ref b)])) (fun _ k => XS.dup X6.hh X6.hx rfl (hb hby d18_114) rfl rfl k) ?_
  refine Go.of (T' := T6) (g' := (mkF mM 116 #[.val (.int (1 : Int32)), .val (.int cc)] [(.int (5 : Int32)), (.ref b), (.ref b)])) (fun _ k => XS.iconst X6.hh X6.hx rfl (hb hby d18_115) k) ?_
  refine Go.of (T' := T6) (g' := (mkF mM 118 #[.val (.int (1 : Int32)), .val (.int cc)] [(.int (116 : Int32)), (.int (5 : Int32)), (.ref b), (.ref b)])) (fun _ k => XS.bipush X6.hh X6.hx rfl (hb hby d18_116) k) ?_
  refine X6.stC 5 V_b (by decide) rfl (Nat.le_of_ble_eq_true rfl) (by omega) (Or.inr (by omega)) (hb hby d18_118) ?_
  intro T7 h7 X7 K7 V_b
  have z7 : h6.size ≤ h7.size := K7.1
  have V_b : Arv Z h7 b kc_b .char (7 : Int32) [(.int (45 : Int32)), (.int (45 : Int32)), (.int (115 : Int32)), (.int (97 : Int32)), (.int (108 : Int32)), (.int (116 : Int32)), (.int (0 : Int32))] (.int (0 : Int32)) := by have q := V_b; rw [(by decide : nar .char (116 : Int32) = 116)] at q; exact q
  show Go pP eE bB _ T7 (mkF mM 119 #[.val (.int (1 : Int32)), .val (.int cc)] [(.ref b)])
  refine Go.of (T' := T7) (g' := (mkF mM 120 #[.val (.int (1 : Int32)), .val (.int cc)] [(.ref b), (.ref b)])) (fun _ k => XS.dup X7.hh X7.hx rfl (hb hby d18_119) rfl rfl k) ?_
  refine Go.of (T' := T7) (g' := (mkF mM 122 #[.val (.int (1 : Int32)), .val (.int cc)] [(.int (6 : Int32)), (.ref b), (.ref b)])) (fun _ k => XS.bipush X7.hh X7.hx rfl (hb hby d18_120) k) ?_
  refine Go.of (T' := T7) (g' := (mkF mM 123 #[.val (.int (1 : Int32)), .val (.int cc)] [(.int cc), (.int (6 : Int32)), (.ref b), (.ref b)])) (fun _ k => XS.iloadN X7.hh X7.hx rfl (hb hby d18_122) rfl k) ?_
  refine X7.stC 6 V_b (by decide) rfl (Nat.le_of_ble_eq_true rfl) (by omega) (Or.inr (by omega)) (hb hby d18_123) ?_
  intro T8 h8 X8 K8 V_b
  have z8 : h7.size ≤ h8.size := K8.1
  have V_b : Arv Z h8 b kc_b .char (7 : Int32) [(.int (45 : Int32)), (.int (45 : Int32)), (.int (115 : Int32)), (.int (97 : Int32)), (.int (108 : Int32)), (.int (116 : Int32)), (.int cc)] (.int (0 : Int32)) := by have q := V_b; rw [nar255 cc hc.1 hc.2] at q; exact q
  show Go pP eE bB _ T8 (mkF mM 124 #[.val (.int (1 : Int32)), .val (.int cc)] [(.ref b)])
  exact X8.aret hret rfl rfl rfl hlk (by decide) (by decide) (hb hby d18_124) (fun S hS => ⟨b, kc_b, rfl, by omega, V_b⟩)
def Q_chars_2 (Z : State)  (h0 : Heap) : Option Value → (Addr → Prop) → Heap → Prop := fun v _ h => ∃ (b : Nat) (kc : ClassId), v = some (.ref b) ∧ h0.size ≤ b ∧ Arv Z h b kc .char (15 : Int32) [.int (45 : Int32), .int (45 : Int32), .int (119 : Int32), .int (101 : Int32), .int (97 : Int32), .int (107 : Int32), .int (45 : Int32), .int (112 : Int32), .int (97 : Int32), .int (115 : Int32), .int (115 : Int32), .int (119 : Int32), .int (111 : Int32), .int (114 : Int32), .int (100 : Int32)] (.int 0)
theorem ef_chars_2 (m : MethodId)  : entryFrame m #[(.int (2 : Int32))] 1 = mkF m 0 #[.val (.int (2 : Int32))] [] := by first | (simp [entryFrame, mkF, argsToLocals, Value.category]; done) | rfl
set_option maxRecDepth 65536 in
set_option maxHeartbeats 40000000 in
theorem chars_2 (l : Launch) (Z : State) (a0 : Array Value) (G : Wld Z a0)  (h0 : Heap)  :
    Met l Z consts_1 (⟨"dev/portcullis/cli/OptionTypedPinLaw", "chars", "(I)[C"⟩ : MethodName) method_2_code 1 (some (.array .char)) ({ frames := 0, cells := 1, slots := 15, locals := 0 } : Room) #[(.int (2 : Int32))] h0 [] [] (Q_chars_2 Z h0) := by
  have hw := G.1
  have hEL := G.2.1
  refine Met.intro (a0 := a0) hEL pn_3 ?_
  intro pP eE sS mM bB mE cC T0 X0 hml hby hret hnm hlk hs0
  have hz0 : sS.heap.size = h0.size := by rw [hs0]
  have n0 : Z.heap.size ≤ h0.size := X0.ext0.1
  refine Go.cast (ef_chars_2 mM ) ?_
  refine Go.of (T' := T0) (g' := (mkF mM 1 #[.val (.int (2 : Int32))] [(.int (2 : Int32))])) (fun _ k => XS.iloadN X0.hh X0.hx rfl (hb hby d2_0) rfl k) ?_
  refine Go.of (T' := T0) (g' := (mkF mM 75 #[.val (.int (2 : Int32))] [])) (fun _ k => XS.ifYes X0.hh X0.hx rfl (pc0 := 1) (pc' := 75) rfl (hb hby d2_1) rfl ((if0 _ _).trans (feq (by decide)).2) (by decide) (by decide) k) ?_
  refine Go.of (T' := T0) (g' := (mkF mM 76 #[.val (.int (2 : Int32))] [(.int (2 : Int32))])) (fun _ k => XS.iloadN X0.hh X0.hx rfl (hb hby d2_75) rfl k) ?_
  refine Go.of (T' := T0) (g' := (mkF mM 77 #[.val (.int (2 : Int32))] [(.int (1 : Int32)), (.int (2 : Int32))])) (fun _ k => XS.iconst X0.hh X0.hx rfl (hb hby d2_76) k) ?_
  refine Go.of (T' := T0) (g' := (mkF mM 115 #[.val (.int (2 : Int32))] [])) (fun _ k => XS.icmpYes X0.hh X0.hx rfl (pc0 := 77) (pc' := 115) rfl (hb hby d2_77) rfl (feq (by decide)).2 (by decide) (by decide) k) ?_
  refine Go.of (T' := T0) (g' := (mkF mM 117 #[.val (.int (2 : Int32))] [(.int (15 : Int32))])) (fun _ k => XS.bipush X0.hh X0.hx rfl (hb hby d2_115) k) ?_
  refine X0.newP (cap := 15) (hw _ (List.mem_of_getElem? (i := 29) rfl)) (hb hby d2_117) (by decide) (by decide) (by decide) (by decide) (by decide) ?_
  intro T1 h1 b kc_b g_b X1 E1 V_b
  have z1 : h0.size ≤ h1.size := E1.1
  have l_b : b < h1.size := V_b.lt
  have V_b : Arv Z h1 b kc_b .char (15 : Int32) [(.int (0 : Int32)), (.int (0 : Int32)), (.int (0 : Int32)), (.int (0 : Int32)), (.int (0 : Int32)), (.int (0 : Int32)), (.int (0 : Int32)), (.int (0 : Int32)), (.int (0 : Int32)), (.int (0 : Int32)), (.int (0 : Int32)), (.int (0 : Int32)), (.int (0 : Int32)), (.int (0 : Int32)), (.int (0 : Int32))] (.int (0 : Int32)) := Arv.pad V_b (pad_rep [] _ 15)
  show Go pP eE bB _ T1 (mkF mM 119 #[.val (.int (2 : Int32))] [(.ref b)])
  refine Go.of (T' := T1) (g' := (mkF mM 120 #[.val (.int (2 : Int32))] [(.ref b), (.ref b)])) (fun _ k => XS.dup X1.hh X1.hx rfl (hb hby d2_119) rfl rfl k) ?_
  refine Go.of (T' := T1) (g' := (mkF mM 121 #[.val (.int (2 : Int32))] [(.int (0 : Int32)), (.ref b), (.ref b)])) (fun _ k => XS.iconst X1.hh X1.hx rfl (hb hby d2_120) k) ?_
  refine Go.of (T' := T1) (g' := (mkF mM 123 #[.val (.int (2 : Int32))] [(.int (45 : Int32)), (.int (0 : Int32)), (.ref b), (.ref b)])) (fun _ k => XS.bipush X1.hh X1.hx rfl (hb hby d2_121) k) ?_
  refine X1.stC 0 V_b (by decide) rfl (Nat.le_of_ble_eq_true rfl) (by omega) (Or.inr (by omega)) (hb hby d2_123) ?_
  intro T2 h2 X2 K2 V_b
  have z2 : h1.size ≤ h2.size := K2.1
  have V_b : Arv Z h2 b kc_b .char (15 : Int32) [(.int (45 : Int32)), (.int (0 : Int32)), (.int (0 : Int32)), (.int (0 : Int32)), (.int (0 : Int32)), (.int (0 : Int32)), (.int (0 : Int32)), (.int (0 : Int32)), (.int (0 : Int32)), (.int (0 : Int32)), (.int (0 : Int32)), (.int (0 : Int32)), (.int (0 : Int32)), (.int (0 : Int32)), (.int (0 : Int32))] (.int (0 : Int32)) := by have q := V_b; rw [(by decide : nar .char (45 : Int32) = 45)] at q; exact q
  show Go pP eE bB _ T2 (mkF mM 124 #[.val (.int (2 : Int32))] [(.ref b)])
  refine Go.of (T' := T2) (g' := (mkF mM 125 #[.val (.int (2 : Int32))] [(.ref b), (.ref b)])) (fun _ k => XS.dup X2.hh X2.hx rfl (hb hby d2_124) rfl rfl k) ?_
  refine Go.of (T' := T2) (g' := (mkF mM 126 #[.val (.int (2 : Int32))] [(.int (1 : Int32)), (.ref b), (.ref b)])) (fun _ k => XS.iconst X2.hh X2.hx rfl (hb hby d2_125) k) ?_
  refine Go.of (T' := T2) (g' := (mkF mM 128 #[.val (.int (2 : Int32))] [(.int (45 : Int32)), (.int (1 : Int32)), (.ref b), (.ref b)])) (fun _ k => XS.bipush X2.hh X2.hx rfl (hb hby d2_126) k) ?_
  refine X2.stC 1 V_b (by decide) rfl (Nat.le_of_ble_eq_true rfl) (by omega) (Or.inr (by omega)) (hb hby d2_128) ?_
  intro T3 h3 X3 K3 V_b
  have z3 : h2.size ≤ h3.size := K3.1
  have V_b : Arv Z h3 b kc_b .char (15 : Int32) [(.int (45 : Int32)), (.int (45 : Int32)), (.int (0 : Int32)), (.int (0 : Int32)), (.int (0 : Int32)), (.int (0 : Int32)), (.int (0 : Int32)), (.int (0 : Int32)), (.int (0 : Int32)), (.int (0 : Int32)), (.int (0 : Int32)), (.int (0 : Int32)), (.int (0 : Int32)), (.int (0 : Int32)), (.int (0 : Int32))] (.int (0 : Int32)) := by have q := V_b; rw [(by decide : nar .char (45 : Int32) = 45)] at q; exact q
  show Go pP eE bB _ T3 (mkF mM 129 #[.val (.int (2 : Int32))] [(.ref b)])
  refine Go.of (T' := T3) (g' := (mkF mM 130 #[.val (.int (2 : Int32))] [(.ref b), (.ref b)])) (fun _ k => XS.dup X3.hh X3.hx rfl (hb hby d2_129) rfl rfl k) ?_
  refine Go.of (T' := T3) (g' := (mkF mM 131 #[.val (.int (2 : Int32))] [(.int (2 : Int32)), (.ref b), (.ref b)])) (fun _ k => XS.iconst X3.hh X3.hx rfl (hb hby d2_130) k) ?_
  refine Go.of (T' := T3) (g' := (mkF mM 133 #[.val (.int (2 : Int32))] [(.int (119 : Int32)), (.int (2 : Int32)), (.ref b), (.ref b)])) (fun _ k => XS.bipush X3.hh X3.hx rfl (hb hby d2_131) k) ?_
  refine X3.stC 2 V_b (by decide) rfl (Nat.le_of_ble_eq_true rfl) (by omega) (Or.inr (by omega)) (hb hby d2_133) ?_
  intro T4 h4 X4 K4 V_b
  have z4 : h3.size ≤ h4.size := K4.1
  have V_b : Arv Z h4 b kc_b .char (15 : Int32) [(.int (45 : Int32)), (.int (45 : Int32)), (.int (119 : Int32)), (.int (0 : Int32)), (.int (0 : Int32)), (.int (0 : Int32)), (.int (0 : Int32)), (.int (0 : Int32)), (.int (0 : Int32)), (.int (0 : Int32)), (.int (0 : Int32)), (.int (0 : Int32)), (.int (0 : Int32)), (.int (0 : Int32)), (.int (0 : Int32))] (.int (0 : Int32)) := by have q := V_b; rw [(by decide : nar .char (119 : Int32) = 119)] at q; exact q
  show Go pP eE bB _ T4 (mkF mM 134 #[.val (.int (2 : Int32))] [(.ref b)])
  refine Go.of (T' := T4) (g' := (mkF mM 135 #[.val (.int (2 : Int32))] [(.ref b), (.ref b)])) (fun _ k => XS.dup X4.hh X4.hx rfl (hb hby d2_134) rfl rfl k) ?_
  refine Go.of (T' := T4) (g' := (mkF mM 136 #[.val (.int (2 : Int32))] [(.int (3 : Int32)), (.ref b), (.ref b)])) (fun _ k => XS.iconst X4.hh X4.hx rfl (hb hby d2_135) k) ?_
  refine Go.of (T' := T4) (g' := (mkF mM 138 #[.val (.int (2 : Int32))] [(.int (101 : Int32)), (.int (3 : Int32)), (.ref b), (.ref b)])) (fun _ k => XS.bipush X4.hh X4.hx rfl (hb hby d2_136) k) ?_
  refine X4.stC 3 V_b (by decide) rfl (Nat.le_of_ble_eq_true rfl) (by omega) (Or.inr (by omega)) (hb hby d2_138) ?_
  intro T5 h5 X5 K5 V_b
  have z5 : h4.size ≤ h5.size := K5.1
  have V_b : Arv Z h5 b kc_b .char (15 : Int32) [(.int (45 : Int32)), (.int (45 : Int32)), (.int (119 : Int32)), (.int (101 : Int32)), (.int (0 : Int32)), (.int (0 : Int32)), (.int (0 : Int32)), (.int (0 : Int32)), (.int (0 : Int32)), (.int (0 : Int32)), (.int (0 : Int32)), (.int (0 : Int32)), (.int (0 : Int32)), (.int (0 : Int32)), (.int (0 : Int32))] (.int (0 : Int32)) := by have q := V_b; rw [(by decide : nar .char (101 : Int32) = 101)] at q; exact q
  show Go pP eE bB _ T5 (mkF mM 139 #[.val (.int (2 : Int32))] [(.ref b)])
  refine Go.of (T' := T5) (g' := (mkF mM 140 #[.val (.int (2 : Int32))] [(.ref b), (.ref b)])) (fun _ k => XS.dup X5.hh X5.hx rfl (hb hby d2_139) rfl rfl k) ?_
  refine Go.of (T' := T5) (g' := (mkF mM 141 #[.val (.int (2 : Int32))] [(.int (4 : Int32)), (.ref b), (.ref b)])) (fun _ k => XS.iconst X5.hh X5.hx rfl (hb hby d2_140) k) ?_
  refine Go.of (T' := T5) (g' := (mkF mM 143 #[.val (.int (2 : Int32))] [(.int (97 : Int32)), (.int (4 : Int32)), (.ref b), (.ref b)])) (fun _ k => XS.bipush X5.hh X5.hx rfl (hb hby d2_141) k) ?_
  refine X5.stC 4 V_b (by decide) rfl (Nat.le_of_ble_eq_true rfl) (by omega) (Or.inr (by omega)) (hb hby d2_143) ?_
  intro T6 h6 X6 K6 V_b
  have z6 : h5.size ≤ h6.size := K6.1
  have V_b : Arv Z h6 b kc_b .char (15 : Int32) [(.int (45 : Int32)), (.int (45 : Int32)), (.int (119 : Int32)), (.int (101 : Int32)), (.int (97 : Int32)), (.int (0 : Int32)), (.int (0 : Int32)), (.int (0 : Int32)), (.int (0 : Int32)), (.int (0 : Int32)), (.int (0 : Int32)), (.int (0 : Int32)), (.int (0 : Int32)), (.int (0 : Int32)), (.int (0 : Int32))] (.int (0 : Int32)) := by have q := V_b; rw [(by decide : nar .char (97 : Int32) = 97)] at q; exact q
  show Go pP eE bB _ T6 (mkF mM 144 #[.val (.int (2 : Int32))] [(.ref b)])
  refine Go.of (T' := T6) (g' := (mkF mM 145 #[.val (.int (2 : Int32))] [(.ref b), (.ref b)])) (fun _ k => XS.dup X6.hh X6.hx rfl (hb hby d2_144) rfl rfl k) ?_
  refine Go.of (T' := T6) (g' := (mkF mM 146 #[.val (.int (2 : Int32))] [(.int (5 : Int32)), (.ref b), (.ref b)])) (fun _ k => XS.iconst X6.hh X6.hx rfl (hb hby d2_145) k) ?_
  refine Go.of (T' := T6) (g' := (mkF mM 148 #[.val (.int (2 : Int32))] [(.int (107 : Int32)), (.int (5 : Int32)), (.ref b), (.ref b)])) (fun _ k => XS.bipush X6.hh X6.hx rfl (hb hby d2_146) k) ?_
  refine X6.stC 5 V_b (by decide) rfl (Nat.le_of_ble_eq_true rfl) (by omega) (Or.inr (by omega)) (hb hby d2_148) ?_
  intro T7 h7 X7 K7 V_b
  have z7 : h6.size ≤ h7.size := K7.1
  have V_b : Arv Z h7 b kc_b .char (15 : Int32) [(.int (45 : Int32)), (.int (45 : Int32)), (.int (119 : Int32)), (.int (101 : Int32)), (.int (97 : Int32)), (.int (107 : Int32)), (.int (0 : Int32)), (.int (0 : Int32)), (.int (0 : Int32)), (.int (0 : Int32)), (.int (0 : Int32)), (.int (0 : Int32)), (.int (0 : Int32)), (.int (0 : Int32)), (.int (0 : Int32))] (.int (0 : Int32)) := by have q := V_b; rw [(by decide : nar .char (107 : Int32) = 107)] at q; exact q
  show Go pP eE bB _ T7 (mkF mM 149 #[.val (.int (2 : Int32))] [(.ref b)])
  refine Go.of (T' := T7) (g' := (mkF mM 150 #[.val (.int (2 : Int32))] [(.ref b), (.ref b)])) (fun _ k => XS.dup X7.hh X7.hx rfl (hb hby d2_149) rfl rfl k) ?_
  refine Go.of (T' := T7) (g' := (mkF mM 152 #[.val (.int (2 : Int32))] [(.int (6 : Int32)), (.ref b), (.ref b)])) (fun _ k => XS.bipush X7.hh X7.hx rfl (hb hby d2_150) k) ?_
  refine Go.of (T' := T7) (g' := (mkF mM 154 #[.val (.int (2 : Int32))] [(.int (45 : Int32)), (.int (6 : Int32)), (.ref b), (.ref b)])) (fun _ k => XS.bipush X7.hh X7.hx rfl (hb hby d2_152) k) ?_
  refine X7.stC 6 V_b (by decide) rfl (Nat.le_of_ble_eq_true rfl) (by omega) (Or.inr (by omega)) (hb hby d2_154) ?_
  intro T8 h8 X8 K8 V_b
  have z8 : h7.size ≤ h8.size := K8.1
  have V_b : Arv Z h8 b kc_b .char (15 : Int32) [(.int (45 : Int32)), (.int (45 : Int32)), (.int (119 : Int32)), (.int (101 : Int32)), (.int (97 : Int32)), (.int (107 : Int32)), (.int (45 : Int32)), (.int (0 : Int32)), (.int (0 : Int32)), (.int (0 : Int32)), (.int (0 : Int32)), (.int (0 : Int32)), (.int (0 : Int32)), (.int (0 : Int32)), (.int (0 : Int32))] (.int (0 : Int32)) := by have q := V_b; rw [(by decide : nar .char (45 : Int32) = 45)] at q; exact q
  show Go pP eE bB _ T8 (mkF mM 155 #[.val (.int (2 : Int32))] [(.ref b)])
  refine Go.of (T' := T8) (g' := (mkF mM 156 #[.val (.int (2 : Int32))] [(.ref b), (.ref b)])) (fun _ k => XS.dup X8.hh X8.hx rfl (hb hby d2_155) rfl rfl k) ?_
  refine Go.of (T' := T8) (g' := (mkF mM 158 #[.val (.int (2 : Int32))] [(.int (7 : Int32)), (.ref b), (.ref b)])) (fun _ k => XS.bipush X8.hh X8.hx rfl (hb hby d2_156) k) ?_
  refine Go.of (T' := T8) (g' := (mkF mM 160 #[.val (.int (2 : Int32))] [(.int (112 : Int32)), (.int (7 : Int32)), (.ref b), (.ref b)])) (fun _ k => XS.bipush X8.hh X8.hx rfl (hb hby d2_158) k) ?_
  refine X8.stC 7 V_b (by decide) rfl (Nat.le_of_ble_eq_true rfl) (by omega) (Or.inr (by omega)) (hb hby d2_160) ?_
  intro T9 h9 X9 K9 V_b
  have z9 : h8.size ≤ h9.size := K9.1
  have V_b : Arv Z h9 b kc_b .char (15 : Int32) [(.int (45 : Int32)), (.int (45 : Int32)), (.int (119 : Int32)), (.int (101 : Int32)), (.int (97 : Int32)), (.int (107 : Int32)), (.int (45 : Int32)), (.int (112 : Int32)), (.int (0 : Int32)), (.int (0 : Int32)), (.int (0 : Int32)), (.int (0 : Int32)), (.int (0 : Int32)), (.int (0 : Int32)), (.int (0 : Int32))] (.int (0 : Int32)) := by have q := V_b; rw [(by decide : nar .char (112 : Int32) = 112)] at q; exact q
  show Go pP eE bB _ T9 (mkF mM 161 #[.val (.int (2 : Int32))] [(.ref b)])
  refine Go.of (T' := T9) (g' := (mkF mM 162 #[.val (.int (2 : Int32))] [(.ref b), (.ref b)])) (fun _ k => XS.dup X9.hh X9.hx rfl (hb hby d2_161) rfl rfl k) ?_
  refine Go.of (T' := T9) (g' := (mkF mM 164 #[.val (.int (2 : Int32))] [(.int (8 : Int32)), (.ref b), (.ref b)])) (fun _ k => XS.bipush X9.hh X9.hx rfl (hb hby d2_162) k) ?_
  refine Go.of (T' := T9) (g' := (mkF mM 166 #[.val (.int (2 : Int32))] [(.int (97 : Int32)), (.int (8 : Int32)), (.ref b), (.ref b)])) (fun _ k => XS.bipush X9.hh X9.hx rfl (hb hby d2_164) k) ?_
  refine X9.stC 8 V_b (by decide) rfl (Nat.le_of_ble_eq_true rfl) (by omega) (Or.inr (by omega)) (hb hby d2_166) ?_
  intro T10 h10 X10 K10 V_b
  have z10 : h9.size ≤ h10.size := K10.1
  have V_b : Arv Z h10 b kc_b .char (15 : Int32) [(.int (45 : Int32)), (.int (45 : Int32)), (.int (119 : Int32)), (.int (101 : Int32)), (.int (97 : Int32)), (.int (107 : Int32)), (.int (45 : Int32)), (.int (112 : Int32)), (.int (97 : Int32)), (.int (0 : Int32)), (.int (0 : Int32)), (.int (0 : Int32)), (.int (0 : Int32)), (.int (0 : Int32)), (.int (0 : Int32))] (.int (0 : Int32)) := by have q := V_b; rw [(by decide : nar .char (97 : Int32) = 97)] at q; exact q
  show Go pP eE bB _ T10 (mkF mM 167 #[.val (.int (2 : Int32))] [(.ref b)])
  refine Go.of (T' := T10) (g' := (mkF mM 168 #[.val (.int (2 : Int32))] [(.ref b), (.ref b)])) (fun _ k => XS.dup X10.hh X10.hx rfl (hb hby d2_167) rfl rfl k) ?_
  refine Go.of (T' := T10) (g' := (mkF mM 170 #[.val (.int (2 : Int32))] [(.int (9 : Int32)), (.ref b), (.ref b)])) (fun _ k => XS.bipush X10.hh X10.hx rfl (hb hby d2_168) k) ?_
  refine Go.of (T' := T10) (g' := (mkF mM 172 #[.val (.int (2 : Int32))] [(.int (115 : Int32)), (.int (9 : Int32)), (.ref b), (.ref b)])) (fun _ k => XS.bipush X10.hh X10.hx rfl (hb hby d2_170) k) ?_
  refine X10.stC 9 V_b (by decide) rfl (Nat.le_of_ble_eq_true rfl) (by omega) (Or.inr (by omega)) (hb hby d2_172) ?_
  intro T11 h11 X11 K11 V_b
  have z11 : h10.size ≤ h11.size := K11.1
  have V_b : Arv Z h11 b kc_b .char (15 : Int32) [(.int (45 : Int32)), (.int (45 : Int32)), (.int (119 : Int32)), (.int (101 : Int32)), (.int (97 : Int32)), (.int (107 : Int32)), (.int (45 : Int32)), (.int (112 : Int32)), (.int (97 : Int32)), (.int (115 : Int32)), (.int (0 : Int32)), (.int (0 : Int32)), (.int (0 : Int32)), (.int (0 : Int32)), (.int (0 : Int32))] (.int (0 : Int32)) := by have q := V_b; rw [(by decide : nar .char (115 : Int32) = 115)] at q; exact q
  show Go pP eE bB _ T11 (mkF mM 173 #[.val (.int (2 : Int32))] [(.ref b)])
  refine Go.of (T' := T11) (g' := (mkF mM 174 #[.val (.int (2 : Int32))] [(.ref b), (.ref b)])) (fun _ k => XS.dup X11.hh X11.hx rfl (hb hby d2_173) rfl rfl k) ?_
  refine Go.of (T' := T11) (g' := (mkF mM 176 #[.val (.int (2 : Int32))] [(.int (10 : Int32)), (.ref b), (.ref b)])) (fun _ k => XS.bipush X11.hh X11.hx rfl (hb hby d2_174) k) ?_
  refine Go.of (T' := T11) (g' := (mkF mM 178 #[.val (.int (2 : Int32))] [(.int (115 : Int32)), (.int (10 : Int32)), (.ref b), (.ref b)])) (fun _ k => XS.bipush X11.hh X11.hx rfl (hb hby d2_176) k) ?_
  refine X11.stC 10 V_b (by decide) rfl (Nat.le_of_ble_eq_true rfl) (by omega) (Or.inr (by omega)) (hb hby d2_178) ?_
  intro T12 h12 X12 K12 V_b
  have z12 : h11.size ≤ h12.size := K12.1
  have V_b : Arv Z h12 b kc_b .char (15 : Int32) [(.int (45 : Int32)), (.int (45 : Int32)), (.int (119 : Int32)), (.int (101 : Int32)), (.int (97 : Int32)), (.int (107 : Int32)), (.int (45 : Int32)), (.int (112 : Int32)), (.int (97 : Int32)), (.int (115 : Int32)), (.int (115 : Int32)), (.int (0 : Int32)), (.int (0 : Int32)), (.int (0 : Int32)), (.int (0 : Int32))] (.int (0 : Int32)) := by have q := V_b; rw [(by decide : nar .char (115 : Int32) = 115)] at q; exact q
  show Go pP eE bB _ T12 (mkF mM 179 #[.val (.int (2 : Int32))] [(.ref b)])
  refine Go.of (T' := T12) (g' := (mkF mM 180 #[.val (.int (2 : Int32))] [(.ref b), (.ref b)])) (fun _ k => XS.dup X12.hh X12.hx rfl (hb hby d2_179) rfl rfl k) ?_
  refine Go.of (T' := T12) (g' := (mkF mM 182 #[.val (.int (2 : Int32))] [(.int (11 : Int32)), (.ref b), (.ref b)])) (fun _ k => XS.bipush X12.hh X12.hx rfl (hb hby d2_180) k) ?_
  refine Go.of (T' := T12) (g' := (mkF mM 184 #[.val (.int (2 : Int32))] [(.int (119 : Int32)), (.int (11 : Int32)), (.ref b), (.ref b)])) (fun _ k => XS.bipush X12.hh X12.hx rfl (hb hby d2_182) k) ?_
  refine X12.stC 11 V_b (by decide) rfl (Nat.le_of_ble_eq_true rfl) (by omega) (Or.inr (by omega)) (hb hby d2_184) ?_
  intro T13 h13 X13 K13 V_b
  have z13 : h12.size ≤ h13.size := K13.1
  have V_b : Arv Z h13 b kc_b .char (15 : Int32) [(.int (45 : Int32)), (.int (45 : Int32)), (.int (119 : Int32)), (.int (101 : Int32)), (.int (97 : Int32)), (.int (107 : Int32)), (.int (45 : Int32)), (.int (112 : Int32)), (.int (97 : Int32)), (.int (115 : Int32)), (.int (115 : Int32)), (.int (119 : Int32)), (.int (0 : Int32)), (.int (0 : Int32)), (.int (0 : Int32))] (.int (0 : Int32)) := by have q := V_b; rw [(by decide : nar .char (119 : Int32) = 119)] at q; exact q
  show Go pP eE bB _ T13 (mkF mM 185 #[.val (.int (2 : Int32))] [(.ref b)])
  refine Go.of (T' := T13) (g' := (mkF mM 186 #[.val (.int (2 : Int32))] [(.ref b), (.ref b)])) (fun _ k => XS.dup X13.hh X13.hx rfl (hb hby d2_185) rfl rfl k) ?_
  refine Go.of (T' := T13) (g' := (mkF mM 188 #[.val (.int (2 : Int32))] [(.int (12 : Int32)), (.ref b), (.ref b)])) (fun _ k => XS.bipush X13.hh X13.hx rfl (hb hby d2_186) k) ?_
  refine Go.of (T' := T13) (g' := (mkF mM 190 #[.val (.int (2 : Int32))] [(.int (111 : Int32)), (.int (12 : Int32)), (.ref b), (.ref b)])) (fun _ k => XS.bipush X13.hh X13.hx rfl (hb hby d2_188) k) ?_
  refine X13.stC 12 V_b (by decide) rfl (Nat.le_of_ble_eq_true rfl) (by omega) (Or.inr (by omega)) (hb hby d2_190) ?_
  intro T14 h14 X14 K14 V_b
  have z14 : h13.size ≤ h14.size := K14.1
  have V_b : Arv Z h14 b kc_b .char (15 : Int32) [(.int (45 : Int32)), (.int (45 : Int32)), (.int (119 : Int32)), (.int (101 : Int32)), (.int (97 : Int32)), (.int (107 : Int32)), (.int (45 : Int32)), (.int (112 : Int32)), (.int (97 : Int32)), (.int (115 : Int32)), (.int (115 : Int32)), (.int (119 : Int32)), (.int (111 : Int32)), (.int (0 : Int32)), (.int (0 : Int32))] (.int (0 : Int32)) := by have q := V_b; rw [(by decide : nar .char (111 : Int32) = 111)] at q; exact q
  show Go pP eE bB _ T14 (mkF mM 191 #[.val (.int (2 : Int32))] [(.ref b)])
  refine Go.of (T' := T14) (g' := (mkF mM 192 #[.val (.int (2 : Int32))] [(.ref b), (.ref b)])) (fun _ k => XS.dup X14.hh X14.hx rfl (hb hby d2_191) rfl rfl k) ?_
  refine Go.of (T' := T14) (g' := (mkF mM 194 #[.val (.int (2 : Int32))] [(.int (13 : Int32)), (.ref b), (.ref b)])) (fun _ k => XS.bipush X14.hh X14.hx rfl (hb hby d2_192) k) ?_
  refine Go.of (T' := T14) (g' := (mkF mM 196 #[.val (.int (2 : Int32))] [(.int (114 : Int32)), (.int (13 : Int32)), (.ref b), (.ref b)])) (fun _ k => XS.bipush X14.hh X14.hx rfl (hb hby d2_194) k) ?_
  refine X14.stC 13 V_b (by decide) rfl (Nat.le_of_ble_eq_true rfl) (by omega) (Or.inr (by omega)) (hb hby d2_196) ?_
  intro T15 h15 X15 K15 V_b
  have z15 : h14.size ≤ h15.size := K15.1
  have V_b : Arv Z h15 b kc_b .char (15 : Int32) [(.int (45 : Int32)), (.int (45 : Int32)), (.int (119 : Int32)), (.int (101 : Int32)), (.int (97 : Int32)), (.int (107 : Int32)), (.int (45 : Int32)), (.int (112 : Int32)), (.int (97 : Int32)), (.int (115 : Int32)), (.int (115 : Int32)), (.int (119 : Int32)), (.int (111 : Int32)), (.int (114 : Int32)), (.int (0 : Int32))] (.int (0 : Int32)) := by have q := V_b; rw [(by decide : nar .char (114 : Int32) = 114)] at q; exact q
  show Go pP eE bB _ T15 (mkF mM 197 #[.val (.int (2 : Int32))] [(.ref b)])
  refine Go.of (T' := T15) (g' := (mkF mM 198 #[.val (.int (2 : Int32))] [(.ref b), (.ref b)])) (fun _ k => XS.dup X15.hh X15.hx rfl (hb hby d2_197) rfl rfl k) ?_
  refine Go.of (T' := T15) (g' := (mkF mM 200 #[.val (.int (2 : Int32))] [(.int (14 : Int32)), (.ref b), (.ref b)])) (fun _ k => XS.bipush X15.hh X15.hx rfl (hb hby d2_198) k) ?_
  refine Go.of (T' := T15) (g' := (mkF mM 202 #[.val (.int (2 : Int32))] [(.int (100 : Int32)), (.int (14 : Int32)), (.ref b), (.ref b)])) (fun _ k => XS.bipush X15.hh X15.hx rfl (hb hby d2_200) k) ?_
  refine X15.stC 14 V_b (by decide) rfl (Nat.le_of_ble_eq_true rfl) (by omega) (Or.inr (by omega)) (hb hby d2_202) ?_
  intro T16 h16 X16 K16 V_b
  have z16 : h15.size ≤ h16.size := K16.1
  have V_b : Arv Z h16 b kc_b .char (15 : Int32) [(.int (45 : Int32)), (.int (45 : Int32)), (.int (119 : Int32)), (.int (101 : Int32)), (.int (97 : Int32)), (.int (107 : Int32)), (.int (45 : Int32)), (.int (112 : Int32)), (.int (97 : Int32)), (.int (115 : Int32)), (.int (115 : Int32)), (.int (119 : Int32)), (.int (111 : Int32)), (.int (114 : Int32)), (.int (100 : Int32))] (.int (0 : Int32)) := by have q := V_b; rw [(by decide : nar .char (100 : Int32) = 100)] at q; exact q
  show Go pP eE bB _ T16 (mkF mM 203 #[.val (.int (2 : Int32))] [(.ref b)])
  exact X16.aret hret rfl rfl rfl hlk (by decide) (by decide) (hb hby d2_203) (fun S hS => ⟨b, kc_b, rfl, by omega, V_b⟩)
def Q_appended_2 (Z : State) (cc : Int32) (h0 : Heap) : Option Value → (Addr → Prop) → Heap → Prop := fun v _ h => ∃ (b : Nat) (kc : ClassId), v = some (.ref b) ∧ h0.size ≤ b ∧ Arv Z h b kc .char (16 : Int32) [.int (45 : Int32), .int (45 : Int32), .int (119 : Int32), .int (101 : Int32), .int (97 : Int32), .int (107 : Int32), .int (45 : Int32), .int (112 : Int32), .int (97 : Int32), .int (115 : Int32), .int (115 : Int32), .int (119 : Int32), .int (111 : Int32), .int (114 : Int32), .int (100 : Int32), .int cc] (.int 0)
theorem ef_appended_2 (m : MethodId) (cc : Int32) : entryFrame m #[(.int (2 : Int32)), (.int cc)] 2 = mkF m 0 #[.val (.int (2 : Int32)), .val (.int cc)] [] := by first | (simp [entryFrame, mkF, argsToLocals, Value.category]; done) | rfl
set_option maxRecDepth 65536 in
set_option maxHeartbeats 40000000 in
theorem appended_2 (l : Launch) (Z : State) (a0 : Array Value) (G : Wld Z a0) (cc : Int32) (h0 : Heap) (hc : ¬ cc < 0 ∧ ¬ (255 : Int32) < cc) :
    Met l Z consts_1 (⟨"dev/portcullis/cli/OptionTypedPinLaw", "appended", "(IC)[C"⟩ : MethodName) method_3_code 2 (some (.array .char)) ({ frames := 0, cells := 1, slots := 16, locals := 0 } : Room) #[(.int (2 : Int32)), (.int cc)] h0 [] [] (Q_appended_2 Z cc h0) := by
  have hw := G.1
  have hEL := G.2.1
  refine Met.intro (a0 := a0) hEL pn_3 ?_
  intro pP eE sS mM bB mE cC T0 X0 hml hby hret hnm hlk hs0
  have hz0 : sS.heap.size = h0.size := by rw [hs0]
  have n0 : Z.heap.size ≤ h0.size := X0.ext0.1
  refine Go.cast (ef_appended_2 mM cc) ?_
  refine Go.of (T' := T0) (g' := (mkF mM 1 #[.val (.int (2 : Int32)), .val (.int cc)] [(.int (2 : Int32))])) (fun _ k => XS.iloadN X0.hh X0.hx rfl (hb hby d18_0) rfl k) ?_
  refine Go.of (T' := T0) (g' := (mkF mM 80 #[.val (.int (2 : Int32)), .val (.int cc)] [])) (fun _ k => XS.ifYes X0.hh X0.hx rfl (pc0 := 1) (pc' := 80) rfl (hb hby d18_1) rfl ((if0 _ _).trans (feq (by decide)).2) (by decide) (by decide) k) ?_
  refine Go.of (T' := T0) (g' := (mkF mM 81 #[.val (.int (2 : Int32)), .val (.int cc)] [(.int (2 : Int32))])) (fun _ k => XS.iloadN X0.hh X0.hx rfl (hb hby d18_80) rfl k) ?_
  refine Go.of (T' := T0) (g' := (mkF mM 82 #[.val (.int (2 : Int32)), .val (.int cc)] [(.int (1 : Int32)), (.int (2 : Int32))])) (fun _ k => XS.iconst X0.hh X0.hx rfl (hb hby d18_81) k) ?_
  refine Go.of (T' := T0) (g' := (mkF mM 125 #[.val (.int (2 : Int32)), .val (.int cc)] [])) (fun _ k => XS.icmpYes X0.hh X0.hx rfl (pc0 := 82) (pc' := 125) rfl (hb hby d18_82) rfl (feq (by decide)).2 (by decide) (by decide) k) ?_
  refine Go.of (T' := T0) (g' := (mkF mM 127 #[.val (.int (2 : Int32)), .val (.int cc)] [(.int (16 : Int32))])) (fun _ k => XS.bipush X0.hh X0.hx rfl (hb hby d18_125) k) ?_
  refine X0.newP (cap := 16) (hw _ (List.mem_of_getElem? (i := 29) rfl)) (hb hby d18_127) (by decide) (by decide) (by decide) (by decide) (by decide) ?_
  intro T1 h1 b kc_b g_b X1 E1 V_b
  have z1 : h0.size ≤ h1.size := E1.1
  have l_b : b < h1.size := V_b.lt
  have V_b : Arv Z h1 b kc_b .char (16 : Int32) [(.int (0 : Int32)), (.int (0 : Int32)), (.int (0 : Int32)), (.int (0 : Int32)), (.int (0 : Int32)), (.int (0 : Int32)), (.int (0 : Int32)), (.int (0 : Int32)), (.int (0 : Int32)), (.int (0 : Int32)), (.int (0 : Int32)), (.int (0 : Int32)), (.int (0 : Int32)), (.int (0 : Int32)), (.int (0 : Int32)), (.int (0 : Int32))] (.int (0 : Int32)) := Arv.pad V_b (pad_rep [] _ 16)
  show Go pP eE bB _ T1 (mkF mM 129 #[.val (.int (2 : Int32)), .val (.int cc)] [(.ref b)])
  refine Go.of (T' := T1) (g' := (mkF mM 130 #[.val (.int (2 : Int32)), .val (.int cc)] [(.ref b), (.ref b)])) (fun _ k => XS.dup X1.hh X1.hx rfl (hb hby d18_129) rfl rfl k) ?_
  refine Go.of (T' := T1) (g' := (mkF mM 131 #[.val (.int (2 : Int32)), .val (.int cc)] [(.int (0 : Int32)), (.ref b), (.ref b)])) (fun _ k => XS.iconst X1.hh X1.hx rfl (hb hby d18_130) k) ?_
  refine Go.of (T' := T1) (g' := (mkF mM 133 #[.val (.int (2 : Int32)), .val (.int cc)] [(.int (45 : Int32)), (.int (0 : Int32)), (.ref b), (.ref b)])) (fun _ k => XS.bipush X1.hh X1.hx rfl (hb hby d18_131) k) ?_
  refine X1.stC 0 V_b (by decide) rfl (Nat.le_of_ble_eq_true rfl) (by omega) (Or.inr (by omega)) (hb hby d18_133) ?_
  intro T2 h2 X2 K2 V_b
  have z2 : h1.size ≤ h2.size := K2.1
  have V_b : Arv Z h2 b kc_b .char (16 : Int32) [(.int (45 : Int32)), (.int (0 : Int32)), (.int (0 : Int32)), (.int (0 : Int32)), (.int (0 : Int32)), (.int (0 : Int32)), (.int (0 : Int32)), (.int (0 : Int32)), (.int (0 : Int32)), (.int (0 : Int32)), (.int (0 : Int32)), (.int (0 : Int32)), (.int (0 : Int32)), (.int (0 : Int32)), (.int (0 : Int32)), (.int (0 : Int32))] (.int (0 : Int32)) := by have q := V_b; rw [(by decide : nar .char (45 : Int32) = 45)] at q; exact q
  show Go pP eE bB _ T2 (mkF mM 134 #[.val (.int (2 : Int32)), .val (.int cc)] [(.ref b)])
  refine Go.of (T' := T2) (g' := (mkF mM 135 #[.val (.int (2 : Int32)), .val (.int cc)] [(.ref b), (.ref b)])) (fun _ k => XS.dup X2.hh X2.hx rfl (hb hby d18_134) rfl rfl k) ?_
  refine Go.of (T' := T2) (g' := (mkF mM 136 #[.val (.int (2 : Int32)), .val (.int cc)] [(.int (1 : Int32)), (.ref b), (.ref b)])) (fun _ k => XS.iconst X2.hh X2.hx rfl (hb hby d18_135) k) ?_
  refine Go.of (T' := T2) (g' := (mkF mM 138 #[.val (.int (2 : Int32)), .val (.int cc)] [(.int (45 : Int32)), (.int (1 : Int32)), (.ref b), (.ref b)])) (fun _ k => XS.bipush X2.hh X2.hx rfl (hb hby d18_136) k) ?_
  refine X2.stC 1 V_b (by decide) rfl (Nat.le_of_ble_eq_true rfl) (by omega) (Or.inr (by omega)) (hb hby d18_138) ?_
  intro T3 h3 X3 K3 V_b
  have z3 : h2.size ≤ h3.size := K3.1
  have V_b : Arv Z h3 b kc_b .char (16 : Int32) [(.int (45 : Int32)), (.int (45 : Int32)), (.int (0 : Int32)), (.int (0 : Int32)), (.int (0 : Int32)), (.int (0 : Int32)), (.int (0 : Int32)), (.int (0 : Int32)), (.int (0 : Int32)), (.int (0 : Int32)), (.int (0 : Int32)), (.int (0 : Int32)), (.int (0 : Int32)), (.int (0 : Int32)), (.int (0 : Int32)), (.int (0 : Int32))] (.int (0 : Int32)) := by have q := V_b; rw [(by decide : nar .char (45 : Int32) = 45)] at q; exact q
  show Go pP eE bB _ T3 (mkF mM 139 #[.val (.int (2 : Int32)), .val (.int cc)] [(.ref b)])
  refine Go.of (T' := T3) (g' := (mkF mM 140 #[.val (.int (2 : Int32)), .val (.int cc)] [(.ref b), (.ref b)])) (fun _ k => XS.dup X3.hh X3.hx rfl (hb hby d18_139) rfl rfl k) ?_
  refine Go.of (T' := T3) (g' := (mkF mM 141 #[.val (.int (2 : Int32)), .val (.int cc)] [(.int (2 : Int32)), (.ref b), (.ref b)])) (fun _ k => XS.iconst X3.hh X3.hx rfl (hb hby d18_140) k) ?_
  refine Go.of (T' := T3) (g' := (mkF mM 143 #[.val (.int (2 : Int32)), .val (.int cc)] [(.int (119 : Int32)), (.int (2 : Int32)), (.ref b), (.ref b)])) (fun _ k => XS.bipush X3.hh X3.hx rfl (hb hby d18_141) k) ?_
  refine X3.stC 2 V_b (by decide) rfl (Nat.le_of_ble_eq_true rfl) (by omega) (Or.inr (by omega)) (hb hby d18_143) ?_
  intro T4 h4 X4 K4 V_b
  have z4 : h3.size ≤ h4.size := K4.1
  have V_b : Arv Z h4 b kc_b .char (16 : Int32) [(.int (45 : Int32)), (.int (45 : Int32)), (.int (119 : Int32)), (.int (0 : Int32)), (.int (0 : Int32)), (.int (0 : Int32)), (.int (0 : Int32)), (.int (0 : Int32)), (.int (0 : Int32)), (.int (0 : Int32)), (.int (0 : Int32)), (.int (0 : Int32)), (.int (0 : Int32)), (.int (0 : Int32)), (.int (0 : Int32)), (.int (0 : Int32))] (.int (0 : Int32)) := by have q := V_b; rw [(by decide : nar .char (119 : Int32) = 119)] at q; exact q
  show Go pP eE bB _ T4 (mkF mM 144 #[.val (.int (2 : Int32)), .val (.int cc)] [(.ref b)])
  refine Go.of (T' := T4) (g' := (mkF mM 145 #[.val (.int (2 : Int32)), .val (.int cc)] [(.ref b), (.ref b)])) (fun _ k => XS.dup X4.hh X4.hx rfl (hb hby d18_144) rfl rfl k) ?_
  refine Go.of (T' := T4) (g' := (mkF mM 146 #[.val (.int (2 : Int32)), .val (.int cc)] [(.int (3 : Int32)), (.ref b), (.ref b)])) (fun _ k => XS.iconst X4.hh X4.hx rfl (hb hby d18_145) k) ?_
  refine Go.of (T' := T4) (g' := (mkF mM 148 #[.val (.int (2 : Int32)), .val (.int cc)] [(.int (101 : Int32)), (.int (3 : Int32)), (.ref b), (.ref b)])) (fun _ k => XS.bipush X4.hh X4.hx rfl (hb hby d18_146) k) ?_
  refine X4.stC 3 V_b (by decide) rfl (Nat.le_of_ble_eq_true rfl) (by omega) (Or.inr (by omega)) (hb hby d18_148) ?_
  intro T5 h5 X5 K5 V_b
  have z5 : h4.size ≤ h5.size := K5.1
  have V_b : Arv Z h5 b kc_b .char (16 : Int32) [(.int (45 : Int32)), (.int (45 : Int32)), (.int (119 : Int32)), (.int (101 : Int32)), (.int (0 : Int32)), (.int (0 : Int32)), (.int (0 : Int32)), (.int (0 : Int32)), (.int (0 : Int32)), (.int (0 : Int32)), (.int (0 : Int32)), (.int (0 : Int32)), (.int (0 : Int32)), (.int (0 : Int32)), (.int (0 : Int32)), (.int (0 : Int32))] (.int (0 : Int32)) := by have q := V_b; rw [(by decide : nar .char (101 : Int32) = 101)] at q; exact q
  show Go pP eE bB _ T5 (mkF mM 149 #[.val (.int (2 : Int32)), .val (.int cc)] [(.ref b)])
  refine Go.of (T' := T5) (g' := (mkF mM 150 #[.val (.int (2 : Int32)), .val (.int cc)] [(.ref b), (.ref b)])) (fun _ k => XS.dup X5.hh X5.hx rfl (hb hby d18_149) rfl rfl k) ?_
  refine Go.of (T' := T5) (g' := (mkF mM 151 #[.val (.int (2 : Int32)), .val (.int cc)] [(.int (4 : Int32)), (.ref b), (.ref b)])) (fun _ k => XS.iconst X5.hh X5.hx rfl (hb hby d18_150) k) ?_
  refine Go.of (T' := T5) (g' := (mkF mM 153 #[.val (.int (2 : Int32)), .val (.int cc)] [(.int (97 : Int32)), (.int (4 : Int32)), (.ref b), (.ref b)])) (fun _ k => XS.bipush X5.hh X5.hx rfl (hb hby d18_151) k) ?_
  refine X5.stC 4 V_b (by decide) rfl (Nat.le_of_ble_eq_true rfl) (by omega) (Or.inr (by omega)) (hb hby d18_153) ?_
  intro T6 h6 X6 K6 V_b
  have z6 : h5.size ≤ h6.size := K6.1
  have V_b : Arv Z h6 b kc_b .char (16 : Int32) [(.int (45 : Int32)), (.int (45 : Int32)), (.int (119 : Int32)), (.int (101 : Int32)), (.int (97 : Int32)), (.int (0 : Int32)), (.int (0 : Int32)), (.int (0 : Int32)), (.int (0 : Int32)), (.int (0 : Int32)), (.int (0 : Int32)), (.int (0 : Int32)), (.int (0 : Int32)), (.int (0 : Int32)), (.int (0 : Int32)), (.int (0 : Int32))] (.int (0 : Int32)) := by have q := V_b; rw [(by decide : nar .char (97 : Int32) = 97)] at q; exact q
  show Go pP eE bB _ T6 (mkF mM 154 #[.val (.int (2 : Int32)), .val (.int cc)] [(.ref b)])
  refine Go.of (T' := T6) (g' := (mkF mM 155 #[.val (.int (2 : Int32)), .val (.int cc)] [(.ref b), (.ref b)])) (fun _ k => XS.dup X6.hh X6.hx rfl (hb hby d18_154) rfl rfl k) ?_
  refine Go.of (T' := T6) (g' := (mkF mM 156 #[.val (.int (2 : Int32)), .val (.int cc)] [(.int (5 : Int32)), (.ref b), (.ref b)])) (fun _ k => XS.iconst X6.hh X6.hx rfl (hb hby d18_155) k) ?_
  refine Go.of (T' := T6) (g' := (mkF mM 158 #[.val (.int (2 : Int32)), .val (.int cc)] [(.int (107 : Int32)), (.int (5 : Int32)), (.ref b), (.ref b)])) (fun _ k => XS.bipush X6.hh X6.hx rfl (hb hby d18_156) k) ?_
  refine X6.stC 5 V_b (by decide) rfl (Nat.le_of_ble_eq_true rfl) (by omega) (Or.inr (by omega)) (hb hby d18_158) ?_
  intro T7 h7 X7 K7 V_b
  have z7 : h6.size ≤ h7.size := K7.1
  have V_b : Arv Z h7 b kc_b .char (16 : Int32) [(.int (45 : Int32)), (.int (45 : Int32)), (.int (119 : Int32)), (.int (101 : Int32)), (.int (97 : Int32)), (.int (107 : Int32)), (.int (0 : Int32)), (.int (0 : Int32)), (.int (0 : Int32)), (.int (0 : Int32)), (.int (0 : Int32)), (.int (0 : Int32)), (.int (0 : Int32)), (.int (0 : Int32)), (.int (0 : Int32)), (.int (0 : Int32))] (.int (0 : Int32)) := by have q := V_b; rw [(by decide : nar .char (107 : Int32) = 107)] at q; exact q
  show Go pP eE bB _ T7 (mkF mM 159 #[.val (.int (2 : Int32)), .val (.int cc)] [(.ref b)])
  refine Go.of (T' := T7) (g' := (mkF mM 160 #[.val (.int (2 : Int32)), .val (.int cc)] [(.ref b), (.ref b)])) (fun _ k => XS.dup X7.hh X7.hx rfl (hb hby d18_159) rfl rfl k) ?_
  refine Go.of (T' := T7) (g' := (mkF mM 162 #[.val (.int (2 : Int32)), .val (.int cc)] [(.int (6 : Int32)), (.ref b), (.ref b)])) (fun _ k => XS.bipush X7.hh X7.hx rfl (hb hby d18_160) k) ?_
  refine Go.of (T' := T7) (g' := (mkF mM 164 #[.val (.int (2 : Int32)), .val (.int cc)] [(.int (45 : Int32)), (.int (6 : Int32)), (.ref b), (.ref b)])) (fun _ k => XS.bipush X7.hh X7.hx rfl (hb hby d18_162) k) ?_
  refine X7.stC 6 V_b (by decide) rfl (Nat.le_of_ble_eq_true rfl) (by omega) (Or.inr (by omega)) (hb hby d18_164) ?_
  intro T8 h8 X8 K8 V_b
  have z8 : h7.size ≤ h8.size := K8.1
  have V_b : Arv Z h8 b kc_b .char (16 : Int32) [(.int (45 : Int32)), (.int (45 : Int32)), (.int (119 : Int32)), (.int (101 : Int32)), (.int (97 : Int32)), (.int (107 : Int32)), (.int (45 : Int32)), (.int (0 : Int32)), (.int (0 : Int32)), (.int (0 : Int32)), (.int (0 : Int32)), (.int (0 : Int32)), (.int (0 : Int32)), (.int (0 : Int32)), (.int (0 : Int32)), (.int (0 : Int32))] (.int (0 : Int32)) := by have q := V_b; rw [(by decide : nar .char (45 : Int32) = 45)] at q; exact q
  show Go pP eE bB _ T8 (mkF mM 165 #[.val (.int (2 : Int32)), .val (.int cc)] [(.ref b)])
  refine Go.of (T' := T8) (g' := (mkF mM 166 #[.val (.int (2 : Int32)), .val (.int cc)] [(.ref b), (.ref b)])) (fun _ k => XS.dup X8.hh X8.hx rfl (hb hby d18_165) rfl rfl k) ?_
  refine Go.of (T' := T8) (g' := (mkF mM 168 #[.val (.int (2 : Int32)), .val (.int cc)] [(.int (7 : Int32)), (.ref b), (.ref b)])) (fun _ k => XS.bipush X8.hh X8.hx rfl (hb hby d18_166) k) ?_
  refine Go.of (T' := T8) (g' := (mkF mM 170 #[.val (.int (2 : Int32)), .val (.int cc)] [(.int (112 : Int32)), (.int (7 : Int32)), (.ref b), (.ref b)])) (fun _ k => XS.bipush X8.hh X8.hx rfl (hb hby d18_168) k) ?_
  refine X8.stC 7 V_b (by decide) rfl (Nat.le_of_ble_eq_true rfl) (by omega) (Or.inr (by omega)) (hb hby d18_170) ?_
  intro T9 h9 X9 K9 V_b
  have z9 : h8.size ≤ h9.size := K9.1
  have V_b : Arv Z h9 b kc_b .char (16 : Int32) [(.int (45 : Int32)), (.int (45 : Int32)), (.int (119 : Int32)), (.int (101 : Int32)), (.int (97 : Int32)), (.int (107 : Int32)), (.int (45 : Int32)), (.int (112 : Int32)), (.int (0 : Int32)), (.int (0 : Int32)), (.int (0 : Int32)), (.int (0 : Int32)), (.int (0 : Int32)), (.int (0 : Int32)), (.int (0 : Int32)), (.int (0 : Int32))] (.int (0 : Int32)) := by have q := V_b; rw [(by decide : nar .char (112 : Int32) = 112)] at q; exact q
  show Go pP eE bB _ T9 (mkF mM 171 #[.val (.int (2 : Int32)), .val (.int cc)] [(.ref b)])
  refine Go.of (T' := T9) (g' := (mkF mM 172 #[.val (.int (2 : Int32)), .val (.int cc)] [(.ref b), (.ref b)])) (fun _ k => XS.dup X9.hh X9.hx rfl (hb hby d18_171) rfl rfl k) ?_
  refine Go.of (T' := T9) (g' := (mkF mM 174 #[.val (.int (2 : Int32)), .val (.int cc)] [(.int (8 : Int32)), (.ref b), (.ref b)])) (fun _ k => XS.bipush X9.hh X9.hx rfl (hb hby d18_172) k) ?_
  refine Go.of (T' := T9) (g' := (mkF mM 176 #[.val (.int (2 : Int32)), .val (.int cc)] [(.int (97 : Int32)), (.int (8 : Int32)), (.ref b), (.ref b)])) (fun _ k => XS.bipush X9.hh X9.hx rfl (hb hby d18_174) k) ?_
  refine X9.stC 8 V_b (by decide) rfl (Nat.le_of_ble_eq_true rfl) (by omega) (Or.inr (by omega)) (hb hby d18_176) ?_
  intro T10 h10 X10 K10 V_b
  have z10 : h9.size ≤ h10.size := K10.1
  have V_b : Arv Z h10 b kc_b .char (16 : Int32) [(.int (45 : Int32)), (.int (45 : Int32)), (.int (119 : Int32)), (.int (101 : Int32)), (.int (97 : Int32)), (.int (107 : Int32)), (.int (45 : Int32)), (.int (112 : Int32)), (.int (97 : Int32)), (.int (0 : Int32)), (.int (0 : Int32)), (.int (0 : Int32)), (.int (0 : Int32)), (.int (0 : Int32)), (.int (0 : Int32)), (.int (0 : Int32))] (.int (0 : Int32)) := by have q := V_b; rw [(by decide : nar .char (97 : Int32) = 97)] at q; exact q
  show Go pP eE bB _ T10 (mkF mM 177 #[.val (.int (2 : Int32)), .val (.int cc)] [(.ref b)])
  refine Go.of (T' := T10) (g' := (mkF mM 178 #[.val (.int (2 : Int32)), .val (.int cc)] [(.ref b), (.ref b)])) (fun _ k => XS.dup X10.hh X10.hx rfl (hb hby d18_177) rfl rfl k) ?_
  refine Go.of (T' := T10) (g' := (mkF mM 180 #[.val (.int (2 : Int32)), .val (.int cc)] [(.int (9 : Int32)), (.ref b), (.ref b)])) (fun _ k => XS.bipush X10.hh X10.hx rfl (hb hby d18_178) k) ?_
  refine Go.of (T' := T10) (g' := (mkF mM 182 #[.val (.int (2 : Int32)), .val (.int cc)] [(.int (115 : Int32)), (.int (9 : Int32)), (.ref b), (.ref b)])) (fun _ k => XS.bipush X10.hh X10.hx rfl (hb hby d18_180) k) ?_
  refine X10.stC 9 V_b (by decide) rfl (Nat.le_of_ble_eq_true rfl) (by omega) (Or.inr (by omega)) (hb hby d18_182) ?_
  intro T11 h11 X11 K11 V_b
  have z11 : h10.size ≤ h11.size := K11.1
  have V_b : Arv Z h11 b kc_b .char (16 : Int32) [(.int (45 : Int32)), (.int (45 : Int32)), (.int (119 : Int32)), (.int (101 : Int32)), (.int (97 : Int32)), (.int (107 : Int32)), (.int (45 : Int32)), (.int (112 : Int32)), (.int (97 : Int32)), (.int (115 : Int32)), (.int (0 : Int32)), (.int (0 : Int32)), (.int (0 : Int32)), (.int (0 : Int32)), (.int (0 : Int32)), (.int (0 : Int32))] (.int (0 : Int32)) := by have q := V_b; rw [(by decide : nar .char (115 : Int32) = 115)] at q; exact q
  show Go pP eE bB _ T11 (mkF mM 183 #[.val (.int (2 : Int32)), .val (.int cc)] [(.ref b)])
  refine Go.of (T' := T11) (g' := (mkF mM 184 #[.val (.int (2 : Int32)), .val (.int cc)] [(.ref b), (.ref b)])) (fun _ k => XS.dup X11.hh X11.hx rfl (hb hby d18_183) rfl rfl k) ?_
  refine Go.of (T' := T11) (g' := (mkF mM 186 #[.val (.int (2 : Int32)), .val (.int cc)] [(.int (10 : Int32)), (.ref b), (.ref b)])) (fun _ k => XS.bipush X11.hh X11.hx rfl (hb hby d18_184) k) ?_
  refine Go.of (T' := T11) (g' := (mkF mM 188 #[.val (.int (2 : Int32)), .val (.int cc)] [(.int (115 : Int32)), (.int (10 : Int32)), (.ref b), (.ref b)])) (fun _ k => XS.bipush X11.hh X11.hx rfl (hb hby d18_186) k) ?_
  refine X11.stC 10 V_b (by decide) rfl (Nat.le_of_ble_eq_true rfl) (by omega) (Or.inr (by omega)) (hb hby d18_188) ?_
  intro T12 h12 X12 K12 V_b
  have z12 : h11.size ≤ h12.size := K12.1
  have V_b : Arv Z h12 b kc_b .char (16 : Int32) [(.int (45 : Int32)), (.int (45 : Int32)), (.int (119 : Int32)), (.int (101 : Int32)), (.int (97 : Int32)), (.int (107 : Int32)), (.int (45 : Int32)), (.int (112 : Int32)), (.int (97 : Int32)), (.int (115 : Int32)), (.int (115 : Int32)), (.int (0 : Int32)), (.int (0 : Int32)), (.int (0 : Int32)), (.int (0 : Int32)), (.int (0 : Int32))] (.int (0 : Int32)) := by have q := V_b; rw [(by decide : nar .char (115 : Int32) = 115)] at q; exact q
  show Go pP eE bB _ T12 (mkF mM 189 #[.val (.int (2 : Int32)), .val (.int cc)] [(.ref b)])
  refine Go.of (T' := T12) (g' := (mkF mM 190 #[.val (.int (2 : Int32)), .val (.int cc)] [(.ref b), (.ref b)])) (fun _ k => XS.dup X12.hh X12.hx rfl (hb hby d18_189) rfl rfl k) ?_
  refine Go.of (T' := T12) (g' := (mkF mM 192 #[.val (.int (2 : Int32)), .val (.int cc)] [(.int (11 : Int32)), (.ref b), (.ref b)])) (fun _ k => XS.bipush X12.hh X12.hx rfl (hb hby d18_190) k) ?_
  refine Go.of (T' := T12) (g' := (mkF mM 194 #[.val (.int (2 : Int32)), .val (.int cc)] [(.int (119 : Int32)), (.int (11 : Int32)), (.ref b), (.ref b)])) (fun _ k => XS.bipush X12.hh X12.hx rfl (hb hby d18_192) k) ?_
  refine X12.stC 11 V_b (by decide) rfl (Nat.le_of_ble_eq_true rfl) (by omega) (Or.inr (by omega)) (hb hby d18_194) ?_
  intro T13 h13 X13 K13 V_b
  have z13 : h12.size ≤ h13.size := K13.1
  have V_b : Arv Z h13 b kc_b .char (16 : Int32) [(.int (45 : Int32)), (.int (45 : Int32)), (.int (119 : Int32)), (.int (101 : Int32)), (.int (97 : Int32)), (.int (107 : Int32)), (.int (45 : Int32)), (.int (112 : Int32)), (.int (97 : Int32)), (.int (115 : Int32)), (.int (115 : Int32)), (.int (119 : Int32)), (.int (0 : Int32)), (.int (0 : Int32)), (.int (0 : Int32)), (.int (0 : Int32))] (.int (0 : Int32)) := by have q := V_b; rw [(by decide : nar .char (119 : Int32) = 119)] at q; exact q
  show Go pP eE bB _ T13 (mkF mM 195 #[.val (.int (2 : Int32)), .val (.int cc)] [(.ref b)])
  refine Go.of (T' := T13) (g' := (mkF mM 196 #[.val (.int (2 : Int32)), .val (.int cc)] [(.ref b), (.ref b)])) (fun _ k => XS.dup X13.hh X13.hx rfl (hb hby d18_195) rfl rfl k) ?_
  refine Go.of (T' := T13) (g' := (mkF mM 198 #[.val (.int (2 : Int32)), .val (.int cc)] [(.int (12 : Int32)), (.ref b), (.ref b)])) (fun _ k => XS.bipush X13.hh X13.hx rfl (hb hby d18_196) k) ?_
  refine Go.of (T' := T13) (g' := (mkF mM 200 #[.val (.int (2 : Int32)), .val (.int cc)] [(.int (111 : Int32)), (.int (12 : Int32)), (.ref b), (.ref b)])) (fun _ k => XS.bipush X13.hh X13.hx rfl (hb hby d18_198) k) ?_
  refine X13.stC 12 V_b (by decide) rfl (Nat.le_of_ble_eq_true rfl) (by omega) (Or.inr (by omega)) (hb hby d18_200) ?_
  intro T14 h14 X14 K14 V_b
  have z14 : h13.size ≤ h14.size := K14.1
  have V_b : Arv Z h14 b kc_b .char (16 : Int32) [(.int (45 : Int32)), (.int (45 : Int32)), (.int (119 : Int32)), (.int (101 : Int32)), (.int (97 : Int32)), (.int (107 : Int32)), (.int (45 : Int32)), (.int (112 : Int32)), (.int (97 : Int32)), (.int (115 : Int32)), (.int (115 : Int32)), (.int (119 : Int32)), (.int (111 : Int32)), (.int (0 : Int32)), (.int (0 : Int32)), (.int (0 : Int32))] (.int (0 : Int32)) := by have q := V_b; rw [(by decide : nar .char (111 : Int32) = 111)] at q; exact q
  show Go pP eE bB _ T14 (mkF mM 201 #[.val (.int (2 : Int32)), .val (.int cc)] [(.ref b)])
  refine Go.of (T' := T14) (g' := (mkF mM 202 #[.val (.int (2 : Int32)), .val (.int cc)] [(.ref b), (.ref b)])) (fun _ k => XS.dup X14.hh X14.hx rfl (hb hby d18_201) rfl rfl k) ?_
  refine Go.of (T' := T14) (g' := (mkF mM 204 #[.val (.int (2 : Int32)), .val (.int cc)] [(.int (13 : Int32)), (.ref b), (.ref b)])) (fun _ k => XS.bipush X14.hh X14.hx rfl (hb hby d18_202) k) ?_
  refine Go.of (T' := T14) (g' := (mkF mM 206 #[.val (.int (2 : Int32)), .val (.int cc)] [(.int (114 : Int32)), (.int (13 : Int32)), (.ref b), (.ref b)])) (fun _ k => XS.bipush X14.hh X14.hx rfl (hb hby d18_204) k) ?_
  refine X14.stC 13 V_b (by decide) rfl (Nat.le_of_ble_eq_true rfl) (by omega) (Or.inr (by omega)) (hb hby d18_206) ?_
  intro T15 h15 X15 K15 V_b
  have z15 : h14.size ≤ h15.size := K15.1
  have V_b : Arv Z h15 b kc_b .char (16 : Int32) [(.int (45 : Int32)), (.int (45 : Int32)), (.int (119 : Int32)), (.int (101 : Int32)), (.int (97 : Int32)), (.int (107 : Int32)), (.int (45 : Int32)), (.int (112 : Int32)), (.int (97 : Int32)), (.int (115 : Int32)), (.int (115 : Int32)), (.int (119 : Int32)), (.int (111 : Int32)), (.int (114 : Int32)), (.int (0 : Int32)), (.int (0 : Int32))] (.int (0 : Int32)) := by have q := V_b; rw [(by decide : nar .char (114 : Int32) = 114)] at q; exact q
  show Go pP eE bB _ T15 (mkF mM 207 #[.val (.int (2 : Int32)), .val (.int cc)] [(.ref b)])
  refine Go.of (T' := T15) (g' := (mkF mM 208 #[.val (.int (2 : Int32)), .val (.int cc)] [(.ref b), (.ref b)])) (fun _ k => XS.dup X15.hh X15.hx rfl (hb hby d18_207) rfl rfl k) ?_
  refine Go.of (T' := T15) (g' := (mkF mM 210 #[.val (.int (2 : Int32)), .val (.int cc)] [(.int (14 : Int32)), (.ref b), (.ref b)])) (fun _ k => XS.bipush X15.hh X15.hx rfl (hb hby d18_208) k) ?_
  refine Go.of (T' := T15) (g' := (mkF mM 212 #[.val (.int (2 : Int32)), .val (.int cc)] [(.int (100 : Int32)), (.int (14 : Int32)), (.ref b), (.ref b)])) (fun _ k => XS.bipush X15.hh X15.hx rfl (hb hby d18_210) k) ?_
  refine X15.stC 14 V_b (by decide) rfl (Nat.le_of_ble_eq_true rfl) (by omega) (Or.inr (by omega)) (hb hby d18_212) ?_
  intro T16 h16 X16 K16 V_b
  have z16 : h15.size ≤ h16.size := K16.1
  have V_b : Arv Z h16 b kc_b .char (16 : Int32) [(.int (45 : Int32)), (.int (45 : Int32)), (.int (119 : Int32)), (.int (101 : Int32)), (.int (97 : Int32)), (.int (107 : Int32)), (.int (45 : Int32)), (.int (112 : Int32)), (.int (97 : Int32)), (.int (115 : Int32)), (.int (115 : Int32)), (.int (119 : Int32)), (.int (111 : Int32)), (.int (114 : Int32)), (.int (100 : Int32)), (.int (0 : Int32))] (.int (0 : Int32)) := by have q := V_b; rw [(by decide : nar .char (100 : Int32) = 100)] at q; exact q
  show Go pP eE bB _ T16 (mkF mM 213 #[.val (.int (2 : Int32)), .val (.int cc)] [(.ref b)])
  refine Go.of (T' := T16) (g' := (mkF mM 214 #[.val (.int (2 : Int32)), .val (.int cc)] [(.ref b), (.ref b)])) (fun _ k => XS.dup X16.hh X16.hx rfl (hb hby d18_213) rfl rfl k) ?_
  refine Go.of (T' := T16) (g' := (mkF mM 216 #[.val (.int (2 : Int32)), .val (.int cc)] [(.int (15 : Int32)), (.ref b), (.ref b)])) (fun _ k => XS.bipush X16.hh X16.hx rfl (hb hby d18_214) k) ?_
  refine Go.of (T' := T16) (g' := (mkF mM 217 #[.val (.int (2 : Int32)), .val (.int cc)] [(.int cc), (.int (15 : Int32)), (.ref b), (.ref b)])) (fun _ k => XS.iloadN X16.hh X16.hx rfl (hb hby d18_216) rfl k) ?_
  refine X16.stC 15 V_b (by decide) rfl (Nat.le_of_ble_eq_true rfl) (by omega) (Or.inr (by omega)) (hb hby d18_217) ?_
  intro T17 h17 X17 K17 V_b
  have z17 : h16.size ≤ h17.size := K17.1
  have V_b : Arv Z h17 b kc_b .char (16 : Int32) [(.int (45 : Int32)), (.int (45 : Int32)), (.int (119 : Int32)), (.int (101 : Int32)), (.int (97 : Int32)), (.int (107 : Int32)), (.int (45 : Int32)), (.int (112 : Int32)), (.int (97 : Int32)), (.int (115 : Int32)), (.int (115 : Int32)), (.int (119 : Int32)), (.int (111 : Int32)), (.int (114 : Int32)), (.int (100 : Int32)), (.int cc)] (.int (0 : Int32)) := by have q := V_b; rw [nar255 cc hc.1 hc.2] at q; exact q
  show Go pP eE bB _ T17 (mkF mM 218 #[.val (.int (2 : Int32)), .val (.int cc)] [(.ref b)])
  exact X17.aret hret rfl rfl rfl hlk (by decide) (by decide) (hb hby d18_218) (fun S hS => ⟨b, kc_b, rfl, by omega, V_b⟩)

theorem rem4 (x : Int32) (h0 : ¬ x < 0) : x % 4 = 0 ∨ x % 4 = 1 ∨ x % 4 = 2 ∨ x % 4 = 3 := by
  have r := (c_irem x 4 4 rfl).1
  have e : (0 : Int32).toInt = 0 := rfl
  have e1 : (1 : Int32).toInt = 1 := rfl
  have e2 : (2 : Int32).toInt = 2 := rfl
  have e3 : (3 : Int32).toInt = 3 := rfl
  rw [Int32.lt_iff_toInt_lt] at h0
  have r := r (by omega)
  have q : (x % 4).toInt = 0 ∨ (x % 4).toInt = 1 ∨ (x % 4).toInt = 2 ∨ (x % 4).toInt = 3 := by omega
  rcases q with q | q | q | q
  · exact Or.inl (Int32.toInt_inj.mp (q.trans e.symm))
  · exact Or.inr (Or.inl (Int32.toInt_inj.mp (q.trans e1.symm)))
  · exact Or.inr (Or.inr (Or.inl (Int32.toInt_inj.mp (q.trans e2.symm))))
  · exact Or.inr (Or.inr (Or.inr (Int32.toInt_inj.mp (q.trans e3.symm))))
theorem and3 (x : Int32) : x &&& 3 = 0 ∨ x &&& 3 = 1 ∨ x &&& 3 = 2 ∨ x &&& 3 = 3 := by
  have r := c_and x 3 (by decide)
  have e : (0 : Int32).toInt = 0 := rfl
  have e1 : (1 : Int32).toInt = 1 := rfl
  have e2 : (2 : Int32).toInt = 2 := rfl
  have e3 : (3 : Int32).toInt = 3 := rfl
  have q : (x &&& 3).toInt = 0 ∨ (x &&& 3).toInt = 1 ∨ (x &&& 3).toInt = 2 ∨ (x &&& 3).toInt = 3 := by omega
  rcases q with q | q | q | q
  · exact Or.inl (Int32.toInt_inj.mp (q.trans e.symm))
  · exact Or.inr (Or.inl (Int32.toInt_inj.mp (q.trans e1.symm)))
  · exact Or.inr (Or.inr (Or.inl (Int32.toInt_inj.mp (q.trans e2.symm))))
  · exact Or.inr (Or.inr (Or.inr (Int32.toInt_inj.mp (q.trans e3.symm))))
theorem remN (x : Int32) (h0 : ¬ x < 0) (n : Nat) (hn : 0 < n) (hn' : n ≤ 4000) : ∃ k : Nat, k < n ∧ x % Int32.ofNat n = Int32.ofNat k := by
  have e : (0 : Int32).toInt = 0 := rfl
  have en := ofNat_toInt (i := n) (by omega)
  have r := (c_irem x (Int32.ofNat n) n en).1
  rw [Int32.lt_iff_toInt_lt] at h0
  have r := r (by omega)
  have p1 : 0 ≤ x.toInt % (n : Int) := Int.emod_nonneg _ (by omega)
  have p2 : x.toInt % (n : Int) < n := Int.emod_lt_of_pos _ (by omega)
  refine ⟨(x.toInt % (n : Int)).toNat, by omega, Int32.toInt_inj.mp ?_⟩
  rw [r, ofNat_toInt (by omega)]
  omega
theorem pick_none {cs : List Int32} {o0 o1 o2 : Addr} (h0 : ¬ cs.length = 12) (h1 : ¬ cs.length = 6) (h2 : ¬ cs.length = 15) : pickO cs o0 o1 o2 = .null := by
  unfold pickO
  rw [if_neg (fun q => h0 (by rw [q]; rfl)), if_neg (fun q => h1 (by rw [q]; rfl)), if_neg (fun q => h2 (by rw [q]; rfl))]
theorem pick_0 {cs : List Int32} {o0 o1 o2 : Addr} (h : cs.length = 12) : pickO cs o0 o1 o2 = if cs = W0 then .ref o0 else .null := by
  unfold pickO
  rw [if_neg (c := cs = W1) (fun q => by rw [q] at h; exact absurd h (by decide)), if_neg (c := cs = W2) (fun q => by rw [q] at h; exact absurd h (by decide))]
theorem pick_1 {cs : List Int32} {o0 o1 o2 : Addr} (h : cs.length = 6) : pickO cs o0 o1 o2 = if cs = W1 then .ref o1 else .null := by
  unfold pickO
  rw [if_neg (c := cs = W0) (fun q => by rw [q] at h; exact absurd h (by decide)), if_neg (c := cs = W2) (fun q => by rw [q] at h; exact absurd h (by decide))]
theorem pick_2 {cs : List Int32} {o0 o1 o2 : Addr} (h : cs.length = 15) : pickO cs o0 o1 o2 = if cs = W2 then .ref o2 else .null := by
  unfold pickO
  rw [if_neg (c := cs = W0) (fun q => by rw [q] at h; exact absurd h (by decide)), if_neg (c := cs = W1) (fun q => by rw [q] at h; exact absurd h (by decide))]
theorem set_same {W : List Int32} {k : Nat} {c : Int32} (hk : k < W.length) : W.set k c = W ↔ W.getD k 0 = c := by
  constructor
  · intro q
    have : (W.set k c).getD k 0 = c := by simp [List.getD_eq_getElem?_getD, hk]
    rw [q] at this; exact this
  · intro q
    rw [← q, List.getD_eq_getElem?_getD, List.getElem?_eq_getElem hk]
    simp
theorem set_rng {W : List Int32} {k : Nat} {c : Int32} (h : ∀ d ∈ W, ¬ d < 0 ∧ ¬ (255 : Int32) < d) (hc : ¬ c < 0 ∧ ¬ (255 : Int32) < c) : ∀ d ∈ W.set k c, ¬ d < 0 ∧ ¬ (255 : Int32) < d := fun d hd => by
  rcases List.mem_or_eq_of_mem_set hd with q | rfl
  · exact h d q
  · exact hc
theorem W0r : ∀ d ∈ W0, ¬ d < 0 ∧ ¬ (255 : Int32) < d := by decide
theorem W1r : ∀ d ∈ W1, ¬ d < 0 ∧ ¬ (255 : Int32) < d := by decide
theorem W2r : ∀ d ∈ W2, ¬ d < 0 ∧ ¬ (255 : Int32) < d := by decide

def Q_law_rm  : Option Value → (Addr → Prop) → Heap → Prop := fun v _ h => v = some (.int 1)
theorem ef_law_rm (m : MethodId) (aa ab ac ad : Int32) : entryFrame m #[(.int aa), (.int ab), (.int ac), (.int ad)] 14 = mkF m 0 #[.val (.int aa), .val (.int ab), .val (.int ac), .val (.int ad), .unset, .unset, .unset, .unset, .unset, .unset, .unset, .unset, .unset, .unset] [] := by first | (simp [entryFrame, mkF, argsToLocals, Value.category]; done) | rfl
set_option maxRecDepth 65536 in
set_option maxHeartbeats 40000000 in
theorem law_rm (l : Launch) (Z : State) (a0 : Array Value) (G : Wld Z a0) (aa ab ac ad : Int32) (h0 : Heap)  :
    Met l Z consts_1 x code maxLocals ret room_1 #[(.int aa), (.int ab), (.int ac), (.int ad)] h0 [] [] (Q_law_rm ) := by
  have hw := G.1
  have hEL := G.2.1
  refine Met.intro (a0 := a0) hEL pn_3 ?_
  intro pP eE sS mM bB mE cC T0 X0 hml hby hret hnm hlk hs0
  have hz0 : sS.heap.size = h0.size := by rw [hs0]
  have n0 : Z.heap.size ≤ h0.size := X0.ext0.1
  refine Go.cast (ef_law_rm mM aa ab ac ad) ?_
  obtain ⟨zc, Sc, hzc⟩ := G.2.2.1
  have hws : ∀ d ∈ StrChars.Road.words, d.before a0 Z = true := fun d hd => hw d ((by decide +kernel : ∀ d ∈ StrChars.Road.words, d ∈ tables_1) d hd)
  have hln : ∀ d ∈ StrChars.Road.wordsLen, d.before a0 Z = true := fun d hd => hw d ((by decide +kernel : ∀ d ∈ StrChars.Road.wordsLen, d ∈ tables_1) d hd)
  have hch : ∀ d ∈ StrChars.Road.wordsChN, d.before a0 Z = true := fun d hd => hw d ((by decide +kernel : ∀ d ∈ StrChars.Road.wordsChN, d ∈ tables_1) d hd)
  have hwS : ∀ d ∈ Bundle.stringAtoms, d.before a0 Z = true := G.atoms
  obtain ⟨⟨fm, Sf, rfm⟩, o0, o1, o2, va, w0, w1, w2, t0, t1, t2, kv, k0, k1, k2, O⟩ := G.2.2.2
  have O' := O
  obtain ⟨Si, Ss, Sw, Sv, Av, Ev, ⟨E0, Fw0, S0⟩, ⟨E1, Fw1, S1⟩, ⟨E2, Fw2, S2⟩⟩ := O'
  refine Go.of (T' := T0) (g' := (mkF mM 1 #[.val (.int aa), .val (.int ab), .val (.int ac), .val (.int ad), .unset, .unset, .unset, .unset, .unset, .unset, .unset, .unset, .unset, .unset] [(.int aa)])) (fun _ k => XS.iloadN X0.hh X0.hx rfl (hb hby at_0) rfl k) ?_
  refine X0.ldcI (hw _ (List.mem_of_getElem? (i := 0) rfl)) (hb hby at_1) ?_
  show Go pP eE bB _ T0 (mkF mM 3 #[.val (.int aa), .val (.int ab), .val (.int ac), .val (.int ad), .unset, .unset, .unset, .unset, .unset, .unset, .unset, .unset, .unset, .unset] [(.int (2147483647 : Int32)), (.int aa)])
  refine Go.of (T' := T0) (g' := (mkF mM 4 #[.val (.int aa), .val (.int ab), .val (.int ac), .val (.int ad), .unset, .unset, .unset, .unset, .unset, .unset, .unset, .unset, .unset, .unset] [(.int (aa &&& (2147483647 : Int32)))])) (fun _ k => XS.iand X0.hh X0.hx rfl (hb hby at_3) rfl k) ?_
  refine Go.of (T' := T0) (g' := (mkF mM 5 #[.val (.int aa), .val (.int ab), .val (.int ac), .val (.int ad), .unset, .unset, .unset, .unset, .unset, .unset, .unset, .unset, .unset, .unset] [(.int (4 : Int32)), (.int (aa &&& (2147483647 : Int32)))])) (fun _ k => XS.iconst X0.hh X0.hx rfl (hb hby at_4) k) ?_
  refine X0.irem (hb hby at_5) (by decide) ?_
  show Go pP eE bB _ T0 (mkF mM 6 #[.val (.int aa), .val (.int ab), .val (.int ac), .val (.int ad), .unset, .unset, .unset, .unset, .unset, .unset, .unset, .unset, .unset, .unset] [(.int ((aa &&& (2147483647 : Int32)) % (4 : Int32)))])
  refine Go.of (T' := T0) (g' := (mkF mM 8 #[.val (.int aa), .val (.int ab), .val (.int ac), .val (.int ad), .val (.int ((aa &&& (2147483647 : Int32)) % (4 : Int32))), .unset, .unset, .unset, .unset, .unset, .unset, .unset, .unset, .unset] [])) (fun _ k => XS.istore X0.hh X0.hx rfl (hb hby at_6) rfl (l' := #[.val (.int aa), .val (.int ab), .val (.int ac), .val (.int ad), .val (.int ((aa &&& (2147483647 : Int32)) % (4 : Int32))), .unset, .unset, .unset, .unset, .unset, .unset, .unset, .unset, .unset]) rfl k) ?_
  refine Go.of (T' := T0) (g' := (mkF mM 9 #[.val (.int aa), .val (.int ab), .val (.int ac), .val (.int ad), .val (.int ((aa &&& (2147483647 : Int32)) % (4 : Int32))), .unset, .unset, .unset, .unset, .unset, .unset, .unset, .unset, .unset] [(.int ac)])) (fun _ k => XS.iloadN X0.hh X0.hx rfl (hb hby at_8) rfl k) ?_
  refine Go.of (T' := T0) (g' := (mkF mM 12 #[.val (.int aa), .val (.int ab), .val (.int ac), .val (.int ad), .val (.int ((aa &&& (2147483647 : Int32)) % (4 : Int32))), .unset, .unset, .unset, .unset, .unset, .unset, .unset, .unset, .unset] [(.int (255 : Int32)), (.int ac)])) (fun _ k => XS.sipush X0.hh X0.hx rfl (hb hby at_9) k) ?_
  refine Go.of (T' := T0) (g' := (mkF mM 13 #[.val (.int aa), .val (.int ab), .val (.int ac), .val (.int ad), .val (.int ((aa &&& (2147483647 : Int32)) % (4 : Int32))), .unset, .unset, .unset, .unset, .unset, .unset, .unset, .unset, .unset] [(.int (ac &&& (255 : Int32)))])) (fun _ k => XS.iand X0.hh X0.hx rfl (hb hby at_12) rfl k) ?_
  refine Go.of (T' := T0) (g' := (mkF mM 14 #[.val (.int aa), .val (.int ab), .val (.int ac), .val (.int ad), .val (.int ((aa &&& (2147483647 : Int32)) % (4 : Int32))), .unset, .unset, .unset, .unset, .unset, .unset, .unset, .unset, .unset] [(.int ((ac &&& (255 : Int32)).toUInt32.toUInt16.toUInt32.toInt32))])) (fun _ k => XS.i2c X0.hh X0.hx rfl (hb hby at_13) rfl k) ?_
  refine Go.of (T' := T0) (g' := (mkF mM 16 #[.val (.int aa), .val (.int ab), .val (.int ac), .val (.int ad), .val (.int ((aa &&& (2147483647 : Int32)) % (4 : Int32))), .val (.int ((ac &&& (255 : Int32)).toUInt32.toUInt16.toUInt32.toInt32)), .unset, .unset, .unset, .unset, .unset, .unset, .unset, .unset] [])) (fun _ k => XS.istore X0.hh X0.hx rfl (hb hby at_14) rfl (l' := #[.val (.int aa), .val (.int ab), .val (.int ac), .val (.int ad), .val (.int ((aa &&& (2147483647 : Int32)) % (4 : Int32))), .val (.int ((ac &&& (255 : Int32)).toUInt32.toUInt16.toUInt32.toInt32)), .unset, .unset, .unset, .unset, .unset, .unset, .unset, .unset]) rfl k) ?_
  refine Go.of (T' := T0) (g' := (mkF mM 17 #[.val (.int aa), .val (.int ab), .val (.int ac), .val (.int ad), .val (.int ((aa &&& (2147483647 : Int32)) % (4 : Int32))), .val (.int ((ac &&& (255 : Int32)).toUInt32.toUInt16.toUInt32.toInt32)), .unset, .unset, .unset, .unset, .unset, .unset, .unset, .unset] [(.int ad)])) (fun _ k => XS.iloadN X0.hh X0.hx rfl (hb hby at_16) rfl k) ?_
  refine Go.of (T' := T0) (g' := (mkF mM 18 #[.val (.int aa), .val (.int ab), .val (.int ac), .val (.int ad), .val (.int ((aa &&& (2147483647 : Int32)) % (4 : Int32))), .val (.int ((ac &&& (255 : Int32)).toUInt32.toUInt16.toUInt32.toInt32)), .unset, .unset, .unset, .unset, .unset, .unset, .unset, .unset] [(.int (3 : Int32)), (.int ad)])) (fun _ k => XS.iconst X0.hh X0.hx rfl (hb hby at_17) k) ?_
  refine Go.of (T' := T0) (g' := (mkF mM 19 #[.val (.int aa), .val (.int ab), .val (.int ac), .val (.int ad), .val (.int ((aa &&& (2147483647 : Int32)) % (4 : Int32))), .val (.int ((ac &&& (255 : Int32)).toUInt32.toUInt16.toUInt32.toInt32)), .unset, .unset, .unset, .unset, .unset, .unset, .unset, .unset] [(.int (ad &&& (3 : Int32)))])) (fun _ k => XS.iand X0.hh X0.hx rfl (hb hby at_18) rfl k) ?_
  refine Go.of (T' := T0) (g' := (mkF mM 21 #[.val (.int aa), .val (.int ab), .val (.int ac), .val (.int ad), .val (.int ((aa &&& (2147483647 : Int32)) % (4 : Int32))), .val (.int ((ac &&& (255 : Int32)).toUInt32.toUInt16.toUInt32.toInt32)), .val (.int (ad &&& (3 : Int32))), .unset, .unset, .unset, .unset, .unset, .unset, .unset] [])) (fun _ k => XS.istore X0.hh X0.hx rfl (hb hby at_19) rfl (l' := #[.val (.int aa), .val (.int ab), .val (.int ac), .val (.int ad), .val (.int ((aa &&& (2147483647 : Int32)) % (4 : Int32))), .val (.int ((ac &&& (255 : Int32)).toUInt32.toUInt16.toUInt32.toInt32)), .val (.int (ad &&& (3 : Int32))), .unset, .unset, .unset, .unset, .unset, .unset, .unset]) rfl k) ?_
  have J0 : ∀ (wd cc ss : Int32), (wd = 0 ∨ wd = 1 ∨ wd = 2 ∨ wd = 3) → (¬ cc < 0 ∧ ¬ (255 : Int32) < cc) → (ss = 0 ∨ ss = 1 ∨ ss = 2 ∨ ss = 3) → Go pP eE bB (Pst room_1 sS Z consts_1 [] (Q_law_rm )) T0 (mkF mM 21 #[.val (.int aa), .val (.int ab), .val (.int ac), .val (.int ad), .val (.int wd), .val (.int cc), .val (.int ss), .unset, .unset, .unset, .unset, .unset, .unset, .unset] []) := by
    intro wd cc ss r1 r2 r3
    have fin : ∀ (T9 : State) (h9 : Heap) (sf9 : List Addr) (lt9 : List (Nat × Addr)) (xa t : Nat) (kb : ClassId) (cs : List Int32) (ev : Value) (p4 p5 p6 p9 p10 p11 p12 p13 : Slot), Wk pP l eE room_1 sS mM #[(.int aa), (.int ab), (.int ac), (.int ad)] bB mE cC Z a0 consts_1 x.cls [] T9 h9 sf9 lt9 26 3000 → Str Z h9 xa t kb cs → ev = pickO cs o0 o1 o2 → Go pP eE bB (Pst room_1 sS Z consts_1 [] (Q_law_rm )) T9 (mkF mM 296 #[.val (.int aa), .val (.int ab), .val (.int ac), .val (.int ad), p4, p5, p6, .val (.ref xa), .val ev, p9, p10, p11, p12, p13] []) := by
      intro T9 h9 sf9 lt9 xa t kb cs ev p4 p5 p6 p9 p10 p11 p12 p13 X9 S9 hev
      have rv : ev.isRef = true := by rw [hev]; exact pickO_ref _ _ _ _
      refine Go.of (T' := T9) (g' := (mkF mM 298 #[.val (.int aa), .val (.int ab), .val (.int ac), .val (.int ad), p4, p5, p6, .val (.ref xa), .val ev, p9, p10, p11, p12, p13] [(.ref xa)])) (fun _ k => XS.aload X9.hh X9.hx rfl (hb hby at_296) rfl rfl k) ?_
      refine X9.callS (W := 0) (argsL := [(.ref xa)]) (rest := []) (hw _ (List.mem_of_getElem? (i := 73) rfl)) (hw _ (List.mem_of_getElem? (i := 74) rfl)) (hw _ (List.mem_of_getElem? (i := 10) rfl)) (hw _ (List.mem_of_getElem? (i := 75) rfl)) (by decide) (opt_typed l Z a0 G xa t kb cs o0 o1 o2 va w0 w1 w2 t0 t1 t2 kv k0 k1 k2 h9 S9 O) pd_5 rfl rfl rfl (by rw [hml]; rfl) (by decide) (by decide) (by decide) (by decide) (hb hby at_298) all0 all0 ?_
      intro v1 T1 h1 S1 X1 K1 Q1
      obtain rfl := Q1
      have X1 := X1 [] all0
      have z1 : h9.size ≤ h1.size := K1.1
      show Go pP eE bB _ T1 (mkF mM 301 #[.val (.int aa), .val (.int ab), .val (.int ac), .val (.int ad), p4, p5, p6, .val (.ref xa), .val ev, p9, p10, p11, p12, p13] [(pickO cs o0 o1 o2)])
      refine Go.of (T' := T1) (g' := (mkF mM 303 #[.val (.int aa), .val (.int ab), .val (.int ac), .val (.int ad), p4, p5, p6, .val (.ref xa), .val ev, p9, p10, p11, p12, p13] [ev, (pickO cs o0 o1 o2)])) (fun _ k => XS.aload X1.hh X1.hx rfl (hb hby at_301) rfl rv k) ?_
      refine X1.acmp (pc' := 306) (same := true) (pickO_ref _ _ _ _) rv (hb hby at_303) (decide_eq_true hev.symm) (by decide) (by decide) ?_
      show Go pP eE bB _ T1 (mkF mM 306 #[.val (.int aa), .val (.int ab), .val (.int ac), .val (.int ad), p4, p5, p6, .val (.ref xa), .val ev, p9, p10, p11, p12, p13] [])
      refine Go.of (T' := T1) (g' := (mkF mM 307 #[.val (.int aa), .val (.int ab), .val (.int ac), .val (.int ad), p4, p5, p6, .val (.ref xa), .val ev, p9, p10, p11, p12, p13] [(.int (1 : Int32))])) (fun _ k => XS.iconst X1.hh X1.hx rfl (hb hby at_306) k) ?_
      refine Go.of (T' := T1) (g' := (mkF mM 311 #[.val (.int aa), .val (.int ab), .val (.int ac), .val (.int ad), p4, p5, p6, .val (.ref xa), .val ev, p9, p10, p11, p12, p13] [(.int (1 : Int32))])) (fun _ k => XS.goto X1.hh X1.hx rfl (pc0 := 307) (pc' := 311) rfl (hb hby at_307) (by decide) (by decide) k) ?_
      exact X1.nret (t := .boolean) hret (by simp) hlk (by decide) (by decide) (hb hby at_311) (fun S hS => rfl)
    rcases r1 with rfl | rfl | rfl | rfl
    · rcases r3 with rfl | rfl | rfl | rfl
      · show Go pP eE bB _ T0 (mkF mM 21 #[.val (.int aa), .val (.int ab), .val (.int ac), .val (.int ad), .val (.int (0 : Int32)), .val (.int cc), .val (.int (0 : Int32)), .unset, .unset, .unset, .unset, .unset, .unset, .unset] [])
        refine Go.of (T' := T0) (g' := (mkF mM 23 #[.val (.int aa), .val (.int ab), .val (.int ac), .val (.int ad), .val (.int (0 : Int32)), .val (.int cc), .val (.int (0 : Int32)), .unset, .unset, .unset, .unset, .unset, .unset, .unset] [(.int (0 : Int32))])) (fun _ k => XS.iload X0.hh X0.hx rfl (hb hby at_21) rfl k) ?_
        refine Go.of (T' := T0) (g' := (mkF mM 24 #[.val (.int aa), .val (.int ab), .val (.int ac), .val (.int ad), .val (.int (0 : Int32)), .val (.int cc), .val (.int (0 : Int32)), .unset, .unset, .unset, .unset, .unset, .unset, .unset] [(.int (3 : Int32)), (.int (0 : Int32))])) (fun _ k => XS.iconst X0.hh X0.hx rfl (hb hby at_23) k) ?_
        refine Go.of (T' := T0) (g' := (mkF mM 101 #[.val (.int aa), .val (.int ab), .val (.int ac), .val (.int ad), .val (.int (0 : Int32)), .val (.int cc), .val (.int (0 : Int32)), .unset, .unset, .unset, .unset, .unset, .unset, .unset] [])) (fun _ k => XS.icmpYes X0.hh X0.hx rfl (pc0 := 24) (pc' := 101) rfl (hb hby at_24) rfl (feq (by decide)).2 (by decide) (by decide) k) ?_
        refine Go.of (T' := T0) (g' := (mkF mM 103 #[.val (.int aa), .val (.int ab), .val (.int ac), .val (.int ad), .val (.int (0 : Int32)), .val (.int cc), .val (.int (0 : Int32)), .unset, .unset, .unset, .unset, .unset, .unset, .unset] [(.int (0 : Int32))])) (fun _ k => XS.iload X0.hh X0.hx rfl (hb hby at_101) rfl k) ?_
        refine Go.of (T' := T0) (g' := (mkF mM 106 #[.val (.int aa), .val (.int ab), .val (.int ac), .val (.int ad), .val (.int (0 : Int32)), .val (.int cc), .val (.int (0 : Int32)), .unset, .unset, .unset, .unset, .unset, .unset, .unset] [])) (fun _ k => XS.ifNo X0.hh X0.hx rfl (hb hby at_103) rfl ((if0 _ _).trans (teq (by decide)).2) k) ?_
        refine X0.ldcR (n := 48) (z := Int32.ofNat ([45, 45, 105, 116, 101, 114, 97, 116, 105, 111, 110, 115] : List Int32).length) (vs := (([45, 45, 105, 116, 101, 114, 97, 116, 105, 111, 110, 115] : List Int32).map fun c => c.toInt8.toInt32).map Value.int) (hw _ (List.mem_of_getElem? (i := 1) rfl)) hwS (by decide +kernel) (by decide +kernel) (by decide +kernel) (by decide +kernel) (hb hby at_106) (by decide +kernel) (by decide) (by decide) (by decide) ?_
        intro T2 h2 q t_q kb_q X2 E2 A_q C_q V_q B_q N_q
        have z2 : h0.size ≤ h2.size := E2.1
        have l_q : q < h2.size := A_q.lt
        have lt_q : t_q < h2.size := B_q.lt
        have St_q : Str Z h2 q t_q kb_q [45, 45, 105, 116, 101, 114, 97, 116, 105, 111, 110, 115] := ⟨A_q, V_q, C_q, B_q, by decide, by decide⟩
        show Go pP eE bB _ T2 (mkF mM 108 #[.val (.int aa), .val (.int ab), .val (.int ac), .val (.int ad), .val (.int (0 : Int32)), .val (.int cc), .val (.int (0 : Int32)), .unset, .unset, .unset, .unset, .unset, .unset, .unset] [(.ref q)])
        refine Go.of (T' := T2) (g' := (mkF mM 124 #[.val (.int aa), .val (.int ab), .val (.int ac), .val (.int ad), .val (.int (0 : Int32)), .val (.int cc), .val (.int (0 : Int32)), .unset, .unset, .unset, .unset, .unset, .unset, .unset] [(.ref q)])) (fun _ k => XS.goto X2.hh X2.hx rfl (pc0 := 108) (pc' := 124) rfl (hb hby at_108) (by decide) (by decide) k) ?_
        refine Go.of (T' := T2) (g' := (mkF mM 126 #[.val (.int aa), .val (.int ab), .val (.int ac), .val (.int ad), .val (.int (0 : Int32)), .val (.int cc), .val (.int (0 : Int32)), .unset, .unset, .val (.ref q), .unset, .unset, .unset, .unset] [])) (fun _ k => XS.astore X2.hh X2.hx rfl (hb hby at_124) rfl rfl (l' := #[.val (.int aa), .val (.int ab), .val (.int ac), .val (.int ad), .val (.int (0 : Int32)), .val (.int cc), .val (.int (0 : Int32)), .unset, .unset, .val (.ref q), .unset, .unset, .unset, .unset]) rfl k) ?_
        refine Go.of (T' := T2) (g' := (mkF mM 128 #[.val (.int aa), .val (.int ab), .val (.int ac), .val (.int ad), .val (.int (0 : Int32)), .val (.int cc), .val (.int (0 : Int32)), .unset, .unset, .val (.ref q), .unset, .unset, .unset, .unset] [(.int (0 : Int32))])) (fun _ k => XS.iload X2.hh X2.hx rfl (hb hby at_126) rfl k) ?_
        refine Go.of (T' := T2) (g' := (mkF mM 131 #[.val (.int aa), .val (.int ab), .val (.int ac), .val (.int ad), .val (.int (0 : Int32)), .val (.int cc), .val (.int (0 : Int32)), .unset, .unset, .val (.ref q), .unset, .unset, .unset, .unset] [])) (fun _ k => XS.ifNo X2.hh X2.hx rfl (hb hby at_128) rfl ((if0 _ _).trans (teq (by decide)).2) k) ?_
        refine X2.getS (host := "") (Or.inl (hw _ (List.mem_of_getElem? (i := 9) rfl))) Via.refl (Si.ext X2.ext0) (hb hby at_131) ?_
        intro T3 X3
        show Go pP eE bB _ T3 (mkF mM 134 #[.val (.int aa), .val (.int ab), .val (.int ac), .val (.int ad), .val (.int (0 : Int32)), .val (.int cc), .val (.int (0 : Int32)), .unset, .unset, .val (.ref q), .unset, .unset, .unset, .unset] [(.ref o0)])
        refine Go.of (T' := T3) (g' := (mkF mM 152 #[.val (.int aa), .val (.int ab), .val (.int ac), .val (.int ad), .val (.int (0 : Int32)), .val (.int cc), .val (.int (0 : Int32)), .unset, .unset, .val (.ref q), .unset, .unset, .unset, .unset] [(.ref o0)])) (fun _ k => XS.goto X3.hh X3.hx rfl (pc0 := 134) (pc' := 152) rfl (hb hby at_134) (by decide) (by decide) k) ?_
        refine Go.of (T' := T3) (g' := (mkF mM 154 #[.val (.int aa), .val (.int ab), .val (.int ac), .val (.int ad), .val (.int (0 : Int32)), .val (.int cc), .val (.int (0 : Int32)), .unset, .unset, .val (.ref q), .val (.ref o0), .unset, .unset, .unset] [])) (fun _ k => XS.astore X3.hh X3.hx rfl (hb hby at_152) rfl rfl (l' := #[.val (.int aa), .val (.int ab), .val (.int ac), .val (.int ad), .val (.int (0 : Int32)), .val (.int cc), .val (.int (0 : Int32)), .unset, .unset, .val (.ref q), .val (.ref o0), .unset, .unset, .unset]) rfl k) ?_
        refine Go.of (T' := T3) (g' := (mkF mM 156 #[.val (.int aa), .val (.int ab), .val (.int ac), .val (.int ad), .val (.int (0 : Int32)), .val (.int cc), .val (.int (0 : Int32)), .unset, .unset, .val (.ref q), .val (.ref o0), .unset, .unset, .unset] [(.ref q)])) (fun _ k => XS.aload X3.hh X3.hx rfl (hb hby at_154) rfl rfl k) ?_
        have Sq : Str Z h2 q t_q kb_q W0 := St_q
        refine X3.callVN (W := 0) (argsL := []) (rest := []) (nc := 0) (ns := 0) (ws' := []) (Qn := fun v h' L => v = some (.int (Int32.ofNat W0.length)) ∧ L = [] ∧ h' = h2) (a := q) (C := "java/lang/String") (z := (⟨"java/lang/String", "length", "()I"⟩ : MethodName)) (hw _ (List.mem_of_getElem? (i := 12) rfl)) (hw _ (List.mem_of_getElem? (i := 13) rfl)) (fun _ q => notFace_of_selects (args := #[]) (mvT q (hw _ (List.mem_of_getElem? (i := 15) rfl)))) (hw _ (List.mem_of_getElem? (i := 15) rfl)) (hw _ (List.mem_of_getElem? (i := 14) rfl)) (by decide) (fun vm0 hZ => StrChars.Road.lenW (s := sS.setVm vm0) (W := 0) hZ hln (kI := 4) (hw _ (List.mem_of_getElem? (i := 3) rfl)) Sq.1 Sq.2.1 Sq.2.2.1 Sq.2.2.2.1 (StrChars.Road.codOf rfl fun c hc => (Sq.2.2.2.2.1 c hc).2) Sq.up (Sc.ext X3.ext0) hzc Sq.2.2.2.2.2 (by decide) (by decide)) (fun v h' L q => by obtain ⟨-, rfl, rfl⟩ := q; exact ⟨Fr.nil _, Keep.refl _ _⟩) Sq.1 pd_6 rfl rfl rfl (by rw [hml]; rfl) (by decide) (by decide) (hb hby at_156) all0 all0 all0 ?_
        intro v4 T4 h4 X4 K4 Q4
        obtain ⟨_, rfl, -, e4⟩ := Q4
        rw [e4] at X4
        show Go pP eE bB _ T4 (mkF mM 159 #[.val (.int aa), .val (.int ab), .val (.int ac), .val (.int ad), .val (.int (0 : Int32)), .val (.int cc), .val (.int (0 : Int32)), .unset, .unset, .val (.ref q), .val (.ref o0), .unset, .unset, .unset] [(.int (Int32.ofNat W0.length))])
        refine Go.of (T' := T4) (g' := (mkF mM 161 #[.val (.int aa), .val (.int ab), .val (.int ac), .val (.int ad), .val (.int (0 : Int32)), .val (.int cc), .val (.int (0 : Int32)), .unset, .unset, .val (.ref q), .val (.ref o0), .val (.int (Int32.ofNat W0.length)), .unset, .unset] [])) (fun _ k => XS.istore X4.hh X4.hx rfl (hb hby at_159) rfl (l' := #[.val (.int aa), .val (.int ab), .val (.int ac), .val (.int ad), .val (.int (0 : Int32)), .val (.int cc), .val (.int (0 : Int32)), .unset, .unset, .val (.ref q), .val (.ref o0), .val (.int (Int32.ofNat W0.length)), .unset, .unset]) rfl k) ?_
        refine Go.of (T' := T4) (g' := (mkF mM 163 #[.val (.int aa), .val (.int ab), .val (.int ac), .val (.int ad), .val (.int (0 : Int32)), .val (.int cc), .val (.int (0 : Int32)), .unset, .unset, .val (.ref q), .val (.ref o0), .val (.int (Int32.ofNat W0.length)), .unset, .unset] [(.int (0 : Int32))])) (fun _ k => XS.iload X4.hh X4.hx rfl (hb hby at_161) rfl k) ?_
        refine Go.of (T' := T4) (g' := (mkF mM 166 #[.val (.int aa), .val (.int ab), .val (.int ac), .val (.int ad), .val (.int (0 : Int32)), .val (.int cc), .val (.int (0 : Int32)), .unset, .unset, .val (.ref q), .val (.ref o0), .val (.int (Int32.ofNat W0.length)), .unset, .unset] [])) (fun _ k => XS.ifNo X4.hh X4.hx rfl (hb hby at_163) rfl ((if0 _ _).trans (teq (by decide)).2) k) ?_
        refine Go.of (T' := T4) (g' := (mkF mM 168 #[.val (.int aa), .val (.int ab), .val (.int ac), .val (.int ad), .val (.int (0 : Int32)), .val (.int cc), .val (.int (0 : Int32)), .unset, .unset, .val (.ref q), .val (.ref o0), .val (.int (Int32.ofNat W0.length)), .unset, .unset] [(.ref q)])) (fun _ k => XS.aload X4.hh X4.hx rfl (hb hby at_166) rfl rfl k) ?_
        refine Go.of (T' := T4) (g' := (mkF mM 170 #[.val (.int aa), .val (.int ab), .val (.int ac), .val (.int ad), .val (.int (0 : Int32)), .val (.int cc), .val (.int (0 : Int32)), .val (.ref q), .unset, .val (.ref q), .val (.ref o0), .val (.int (Int32.ofNat W0.length)), .unset, .unset] [])) (fun _ k => XS.astore X4.hh X4.hx rfl (hb hby at_168) rfl rfl (l' := #[.val (.int aa), .val (.int ab), .val (.int ac), .val (.int ad), .val (.int (0 : Int32)), .val (.int cc), .val (.int (0 : Int32)), .val (.ref q), .unset, .val (.ref q), .val (.ref o0), .val (.int (Int32.ofNat W0.length)), .unset, .unset]) rfl k) ?_
        refine Go.of (T' := T4) (g' := (mkF mM 172 #[.val (.int aa), .val (.int ab), .val (.int ac), .val (.int ad), .val (.int (0 : Int32)), .val (.int cc), .val (.int (0 : Int32)), .val (.ref q), .unset, .val (.ref q), .val (.ref o0), .val (.int (Int32.ofNat W0.length)), .unset, .unset] [(.ref o0)])) (fun _ k => XS.aload X4.hh X4.hx rfl (hb hby at_170) rfl rfl k) ?_
        refine Go.of (T' := T4) (g' := (mkF mM 174 #[.val (.int aa), .val (.int ab), .val (.int ac), .val (.int ad), .val (.int (0 : Int32)), .val (.int cc), .val (.int (0 : Int32)), .val (.ref q), .val (.ref o0), .val (.ref q), .val (.ref o0), .val (.int (Int32.ofNat W0.length)), .unset, .unset] [])) (fun _ k => XS.astore X4.hh X4.hx rfl (hb hby at_172) rfl rfl (l' := #[.val (.int aa), .val (.int ab), .val (.int ac), .val (.int ad), .val (.int (0 : Int32)), .val (.int cc), .val (.int (0 : Int32)), .val (.ref q), .val (.ref o0), .val (.ref q), .val (.ref o0), .val (.int (Int32.ofNat W0.length)), .unset, .unset]) rfl k) ?_
        refine Go.of (T' := T4) (g' := (mkF mM 296 #[.val (.int aa), .val (.int ab), .val (.int ac), .val (.int ad), .val (.int (0 : Int32)), .val (.int cc), .val (.int (0 : Int32)), .val (.ref q), .val (.ref o0), .val (.ref q), .val (.ref o0), .val (.int (Int32.ofNat W0.length)), .unset, .unset] [])) (fun _ k => XS.goto X4.hh X4.hx rfl (pc0 := 174) (pc' := 296) rfl (hb hby at_174) (by decide) (by decide) k) ?_
        exact fin _ _ _ _ _ _ _ _ _ _ _ _ _ _ _ _ _ (X4.mono (by decide) (by decide)) Sq rfl
      · show Go pP eE bB _ T0 (mkF mM 21 #[.val (.int aa), .val (.int ab), .val (.int ac), .val (.int ad), .val (.int (0 : Int32)), .val (.int cc), .val (.int (1 : Int32)), .unset, .unset, .unset, .unset, .unset, .unset, .unset] [])
        refine Go.of (T' := T0) (g' := (mkF mM 23 #[.val (.int aa), .val (.int ab), .val (.int ac), .val (.int ad), .val (.int (0 : Int32)), .val (.int cc), .val (.int (1 : Int32)), .unset, .unset, .unset, .unset, .unset, .unset, .unset] [(.int (0 : Int32))])) (fun _ k => XS.iload X0.hh X0.hx rfl (hb hby at_21) rfl k) ?_
        refine Go.of (T' := T0) (g' := (mkF mM 24 #[.val (.int aa), .val (.int ab), .val (.int ac), .val (.int ad), .val (.int (0 : Int32)), .val (.int cc), .val (.int (1 : Int32)), .unset, .unset, .unset, .unset, .unset, .unset, .unset] [(.int (3 : Int32)), (.int (0 : Int32))])) (fun _ k => XS.iconst X0.hh X0.hx rfl (hb hby at_23) k) ?_
        refine Go.of (T' := T0) (g' := (mkF mM 101 #[.val (.int aa), .val (.int ab), .val (.int ac), .val (.int ad), .val (.int (0 : Int32)), .val (.int cc), .val (.int (1 : Int32)), .unset, .unset, .unset, .unset, .unset, .unset, .unset] [])) (fun _ k => XS.icmpYes X0.hh X0.hx rfl (pc0 := 24) (pc' := 101) rfl (hb hby at_24) rfl (feq (by decide)).2 (by decide) (by decide) k) ?_
        refine Go.of (T' := T0) (g' := (mkF mM 103 #[.val (.int aa), .val (.int ab), .val (.int ac), .val (.int ad), .val (.int (0 : Int32)), .val (.int cc), .val (.int (1 : Int32)), .unset, .unset, .unset, .unset, .unset, .unset, .unset] [(.int (0 : Int32))])) (fun _ k => XS.iload X0.hh X0.hx rfl (hb hby at_101) rfl k) ?_
        refine Go.of (T' := T0) (g' := (mkF mM 106 #[.val (.int aa), .val (.int ab), .val (.int ac), .val (.int ad), .val (.int (0 : Int32)), .val (.int cc), .val (.int (1 : Int32)), .unset, .unset, .unset, .unset, .unset, .unset, .unset] [])) (fun _ k => XS.ifNo X0.hh X0.hx rfl (hb hby at_103) rfl ((if0 _ _).trans (teq (by decide)).2) k) ?_
        refine X0.ldcR (n := 48) (z := Int32.ofNat ([45, 45, 105, 116, 101, 114, 97, 116, 105, 111, 110, 115] : List Int32).length) (vs := (([45, 45, 105, 116, 101, 114, 97, 116, 105, 111, 110, 115] : List Int32).map fun c => c.toInt8.toInt32).map Value.int) (hw _ (List.mem_of_getElem? (i := 1) rfl)) hwS (by decide +kernel) (by decide +kernel) (by decide +kernel) (by decide +kernel) (hb hby at_106) (by decide +kernel) (by decide) (by decide) (by decide) ?_
        intro T5 h5 q t_q kb_q X5 E5 A_q C_q V_q B_q N_q
        have z5 : h0.size ≤ h5.size := E5.1
        have l_q : q < h5.size := A_q.lt
        have lt_q : t_q < h5.size := B_q.lt
        have St_q : Str Z h5 q t_q kb_q [45, 45, 105, 116, 101, 114, 97, 116, 105, 111, 110, 115] := ⟨A_q, V_q, C_q, B_q, by decide, by decide⟩
        show Go pP eE bB _ T5 (mkF mM 108 #[.val (.int aa), .val (.int ab), .val (.int ac), .val (.int ad), .val (.int (0 : Int32)), .val (.int cc), .val (.int (1 : Int32)), .unset, .unset, .unset, .unset, .unset, .unset, .unset] [(.ref q)])
        refine Go.of (T' := T5) (g' := (mkF mM 124 #[.val (.int aa), .val (.int ab), .val (.int ac), .val (.int ad), .val (.int (0 : Int32)), .val (.int cc), .val (.int (1 : Int32)), .unset, .unset, .unset, .unset, .unset, .unset, .unset] [(.ref q)])) (fun _ k => XS.goto X5.hh X5.hx rfl (pc0 := 108) (pc' := 124) rfl (hb hby at_108) (by decide) (by decide) k) ?_
        refine Go.of (T' := T5) (g' := (mkF mM 126 #[.val (.int aa), .val (.int ab), .val (.int ac), .val (.int ad), .val (.int (0 : Int32)), .val (.int cc), .val (.int (1 : Int32)), .unset, .unset, .val (.ref q), .unset, .unset, .unset, .unset] [])) (fun _ k => XS.astore X5.hh X5.hx rfl (hb hby at_124) rfl rfl (l' := #[.val (.int aa), .val (.int ab), .val (.int ac), .val (.int ad), .val (.int (0 : Int32)), .val (.int cc), .val (.int (1 : Int32)), .unset, .unset, .val (.ref q), .unset, .unset, .unset, .unset]) rfl k) ?_
        refine Go.of (T' := T5) (g' := (mkF mM 128 #[.val (.int aa), .val (.int ab), .val (.int ac), .val (.int ad), .val (.int (0 : Int32)), .val (.int cc), .val (.int (1 : Int32)), .unset, .unset, .val (.ref q), .unset, .unset, .unset, .unset] [(.int (0 : Int32))])) (fun _ k => XS.iload X5.hh X5.hx rfl (hb hby at_126) rfl k) ?_
        refine Go.of (T' := T5) (g' := (mkF mM 131 #[.val (.int aa), .val (.int ab), .val (.int ac), .val (.int ad), .val (.int (0 : Int32)), .val (.int cc), .val (.int (1 : Int32)), .unset, .unset, .val (.ref q), .unset, .unset, .unset, .unset] [])) (fun _ k => XS.ifNo X5.hh X5.hx rfl (hb hby at_128) rfl ((if0 _ _).trans (teq (by decide)).2) k) ?_
        refine X5.getS (host := "") (Or.inl (hw _ (List.mem_of_getElem? (i := 9) rfl))) Via.refl (Si.ext X5.ext0) (hb hby at_131) ?_
        intro T6 X6
        show Go pP eE bB _ T6 (mkF mM 134 #[.val (.int aa), .val (.int ab), .val (.int ac), .val (.int ad), .val (.int (0 : Int32)), .val (.int cc), .val (.int (1 : Int32)), .unset, .unset, .val (.ref q), .unset, .unset, .unset, .unset] [(.ref o0)])
        refine Go.of (T' := T6) (g' := (mkF mM 152 #[.val (.int aa), .val (.int ab), .val (.int ac), .val (.int ad), .val (.int (0 : Int32)), .val (.int cc), .val (.int (1 : Int32)), .unset, .unset, .val (.ref q), .unset, .unset, .unset, .unset] [(.ref o0)])) (fun _ k => XS.goto X6.hh X6.hx rfl (pc0 := 134) (pc' := 152) rfl (hb hby at_134) (by decide) (by decide) k) ?_
        refine Go.of (T' := T6) (g' := (mkF mM 154 #[.val (.int aa), .val (.int ab), .val (.int ac), .val (.int ad), .val (.int (0 : Int32)), .val (.int cc), .val (.int (1 : Int32)), .unset, .unset, .val (.ref q), .val (.ref o0), .unset, .unset, .unset] [])) (fun _ k => XS.astore X6.hh X6.hx rfl (hb hby at_152) rfl rfl (l' := #[.val (.int aa), .val (.int ab), .val (.int ac), .val (.int ad), .val (.int (0 : Int32)), .val (.int cc), .val (.int (1 : Int32)), .unset, .unset, .val (.ref q), .val (.ref o0), .unset, .unset, .unset]) rfl k) ?_
        refine Go.of (T' := T6) (g' := (mkF mM 156 #[.val (.int aa), .val (.int ab), .val (.int ac), .val (.int ad), .val (.int (0 : Int32)), .val (.int cc), .val (.int (1 : Int32)), .unset, .unset, .val (.ref q), .val (.ref o0), .unset, .unset, .unset] [(.ref q)])) (fun _ k => XS.aload X6.hh X6.hx rfl (hb hby at_154) rfl rfl k) ?_
        have Sq : Str Z h5 q t_q kb_q W0 := St_q
        refine X6.callVN (W := 0) (argsL := []) (rest := []) (nc := 0) (ns := 0) (ws' := []) (Qn := fun v h' L => v = some (.int (Int32.ofNat W0.length)) ∧ L = [] ∧ h' = h5) (a := q) (C := "java/lang/String") (z := (⟨"java/lang/String", "length", "()I"⟩ : MethodName)) (hw _ (List.mem_of_getElem? (i := 12) rfl)) (hw _ (List.mem_of_getElem? (i := 13) rfl)) (fun _ q => notFace_of_selects (args := #[]) (mvT q (hw _ (List.mem_of_getElem? (i := 15) rfl)))) (hw _ (List.mem_of_getElem? (i := 15) rfl)) (hw _ (List.mem_of_getElem? (i := 14) rfl)) (by decide) (fun vm0 hZ => StrChars.Road.lenW (s := sS.setVm vm0) (W := 0) hZ hln (kI := 4) (hw _ (List.mem_of_getElem? (i := 3) rfl)) Sq.1 Sq.2.1 Sq.2.2.1 Sq.2.2.2.1 (StrChars.Road.codOf rfl fun c hc => (Sq.2.2.2.2.1 c hc).2) Sq.up (Sc.ext X6.ext0) hzc Sq.2.2.2.2.2 (by decide) (by decide)) (fun v h' L q => by obtain ⟨-, rfl, rfl⟩ := q; exact ⟨Fr.nil _, Keep.refl _ _⟩) Sq.1 pd_6 rfl rfl rfl (by rw [hml]; rfl) (by decide) (by decide) (hb hby at_156) all0 all0 all0 ?_
        intro v7 T7 h7 X7 K7 Q7
        obtain ⟨_, rfl, -, e7⟩ := Q7
        rw [e7] at X7
        show Go pP eE bB _ T7 (mkF mM 159 #[.val (.int aa), .val (.int ab), .val (.int ac), .val (.int ad), .val (.int (0 : Int32)), .val (.int cc), .val (.int (1 : Int32)), .unset, .unset, .val (.ref q), .val (.ref o0), .unset, .unset, .unset] [(.int (Int32.ofNat W0.length))])
        refine Go.of (T' := T7) (g' := (mkF mM 161 #[.val (.int aa), .val (.int ab), .val (.int ac), .val (.int ad), .val (.int (0 : Int32)), .val (.int cc), .val (.int (1 : Int32)), .unset, .unset, .val (.ref q), .val (.ref o0), .val (.int (Int32.ofNat W0.length)), .unset, .unset] [])) (fun _ k => XS.istore X7.hh X7.hx rfl (hb hby at_159) rfl (l' := #[.val (.int aa), .val (.int ab), .val (.int ac), .val (.int ad), .val (.int (0 : Int32)), .val (.int cc), .val (.int (1 : Int32)), .unset, .unset, .val (.ref q), .val (.ref o0), .val (.int (Int32.ofNat W0.length)), .unset, .unset]) rfl k) ?_
        refine Go.of (T' := T7) (g' := (mkF mM 163 #[.val (.int aa), .val (.int ab), .val (.int ac), .val (.int ad), .val (.int (0 : Int32)), .val (.int cc), .val (.int (1 : Int32)), .unset, .unset, .val (.ref q), .val (.ref o0), .val (.int (Int32.ofNat W0.length)), .unset, .unset] [(.int (1 : Int32))])) (fun _ k => XS.iload X7.hh X7.hx rfl (hb hby at_161) rfl k) ?_
        refine Go.of (T' := T7) (g' := (mkF mM 177 #[.val (.int aa), .val (.int ab), .val (.int ac), .val (.int ad), .val (.int (0 : Int32)), .val (.int cc), .val (.int (1 : Int32)), .unset, .unset, .val (.ref q), .val (.ref o0), .val (.int (Int32.ofNat W0.length)), .unset, .unset] [])) (fun _ k => XS.ifYes X7.hh X7.hx rfl (pc0 := 163) (pc' := 177) rfl (hb hby at_163) rfl ((if0 _ _).trans (feq (by decide)).2) (by decide) (by decide) k) ?_
        refine Go.of (T' := T7) (g' := (mkF mM 179 #[.val (.int aa), .val (.int ab), .val (.int ac), .val (.int ad), .val (.int (0 : Int32)), .val (.int cc), .val (.int (1 : Int32)), .unset, .unset, .val (.ref q), .val (.ref o0), .val (.int (Int32.ofNat W0.length)), .unset, .unset] [(.int (1 : Int32))])) (fun _ k => XS.iload X7.hh X7.hx rfl (hb hby at_177) rfl k) ?_
        refine Go.of (T' := T7) (g' := (mkF mM 180 #[.val (.int aa), .val (.int ab), .val (.int ac), .val (.int ad), .val (.int (0 : Int32)), .val (.int cc), .val (.int (1 : Int32)), .unset, .unset, .val (.ref q), .val (.ref o0), .val (.int (Int32.ofNat W0.length)), .unset, .unset] [(.int (1 : Int32)), (.int (1 : Int32))])) (fun _ k => XS.iconst X7.hh X7.hx rfl (hb hby at_179) k) ?_
        refine Go.of (T' := T7) (g' := (mkF mM 183 #[.val (.int aa), .val (.int ab), .val (.int ac), .val (.int ad), .val (.int (0 : Int32)), .val (.int cc), .val (.int (1 : Int32)), .unset, .unset, .val (.ref q), .val (.ref o0), .val (.int (Int32.ofNat W0.length)), .unset, .unset] [])) (fun _ k => XS.icmpNo X7.hh X7.hx rfl (hb hby at_180) rfl (teq (by decide)).2 k) ?_
        refine Go.of (T' := T7) (g' := (mkF mM 184 #[.val (.int aa), .val (.int ab), .val (.int ac), .val (.int ad), .val (.int (0 : Int32)), .val (.int cc), .val (.int (1 : Int32)), .unset, .unset, .val (.ref q), .val (.ref o0), .val (.int (Int32.ofNat W0.length)), .unset, .unset] [(.int ab)])) (fun _ k => XS.iloadN X7.hh X7.hx rfl (hb hby at_183) rfl k) ?_
        refine X7.ldcI (hw _ (List.mem_of_getElem? (i := 0) rfl)) (hb hby at_184) ?_
        show Go pP eE bB _ T7 (mkF mM 186 #[.val (.int aa), .val (.int ab), .val (.int ac), .val (.int ad), .val (.int (0 : Int32)), .val (.int cc), .val (.int (1 : Int32)), .unset, .unset, .val (.ref q), .val (.ref o0), .val (.int (Int32.ofNat W0.length)), .unset, .unset] [(.int (2147483647 : Int32)), (.int ab)])
        refine Go.of (T' := T7) (g' := (mkF mM 187 #[.val (.int aa), .val (.int ab), .val (.int ac), .val (.int ad), .val (.int (0 : Int32)), .val (.int cc), .val (.int (1 : Int32)), .unset, .unset, .val (.ref q), .val (.ref o0), .val (.int (Int32.ofNat W0.length)), .unset, .unset] [(.int (ab &&& (2147483647 : Int32)))])) (fun _ k => XS.iand X7.hh X7.hx rfl (hb hby at_186) rfl k) ?_
        refine Go.of (T' := T7) (g' := (mkF mM 189 #[.val (.int aa), .val (.int ab), .val (.int ac), .val (.int ad), .val (.int (0 : Int32)), .val (.int cc), .val (.int (1 : Int32)), .unset, .unset, .val (.ref q), .val (.ref o0), .val (.int (Int32.ofNat W0.length)), .unset, .unset] [(.int (Int32.ofNat W0.length)), (.int (ab &&& (2147483647 : Int32)))])) (fun _ k => XS.iload X7.hh X7.hx rfl (hb hby at_187) rfl k) ?_
        refine X7.irem (hb hby at_189) (by decide) ?_
        show Go pP eE bB _ T7 (mkF mM 190 #[.val (.int aa), .val (.int ab), .val (.int ac), .val (.int ad), .val (.int (0 : Int32)), .val (.int cc), .val (.int (1 : Int32)), .unset, .unset, .val (.ref q), .val (.ref o0), .val (.int (Int32.ofNat W0.length)), .unset, .unset] [(.int ((ab &&& (2147483647 : Int32)) % (Int32.ofNat W0.length)))])
        obtain ⟨pn, hpn, hpe⟩ := remN (ab &&& (2147483647 : Int32)) (and_nn _ 2147483647 (by decide)).1 W0.length (by decide) (by decide)
        rw [hpe]
        show Go pP eE bB _ T7 (mkF mM 190 #[.val (.int aa), .val (.int ab), .val (.int ac), .val (.int ad), .val (.int (0 : Int32)), .val (.int cc), .val (.int (1 : Int32)), .unset, .unset, .val (.ref q), .val (.ref o0), .val (.int (Int32.ofNat W0.length)), .unset, .unset] [(.int (Int32.ofNat pn))])
        have hpn' : pn < 12 := hpn
        refine Go.of (T' := T7) (g' := (mkF mM 192 #[.val (.int aa), .val (.int ab), .val (.int ac), .val (.int ad), .val (.int (0 : Int32)), .val (.int cc), .val (.int (1 : Int32)), .unset, .unset, .val (.ref q), .val (.ref o0), .val (.int (Int32.ofNat W0.length)), .val (.int (Int32.ofNat pn)), .unset] [])) (fun _ k => XS.istore X7.hh X7.hx rfl (hb hby at_190) rfl (l' := #[.val (.int aa), .val (.int ab), .val (.int ac), .val (.int ad), .val (.int (0 : Int32)), .val (.int cc), .val (.int (1 : Int32)), .unset, .unset, .val (.ref q), .val (.ref o0), .val (.int (Int32.ofNat W0.length)), .val (.int (Int32.ofNat pn)), .unset]) rfl k) ?_
        refine Go.of (T' := T7) (g' := (mkF mM 194 #[.val (.int aa), .val (.int ab), .val (.int ac), .val (.int ad), .val (.int (0 : Int32)), .val (.int cc), .val (.int (1 : Int32)), .unset, .unset, .val (.ref q), .val (.ref o0), .val (.int (Int32.ofNat W0.length)), .val (.int (Int32.ofNat pn)), .unset] [(.int (0 : Int32))])) (fun _ k => XS.iload X7.hh X7.hx rfl (hb hby at_192) rfl k) ?_
        refine X7.callS (W := 0) (argsL := [(.int (0 : Int32))]) (rest := []) (hw _ (List.mem_of_getElem? (i := 25) rfl)) (hw _ (List.mem_of_getElem? (i := 26) rfl)) (hw _ (List.mem_of_getElem? (i := 27) rfl)) (hw _ (List.mem_of_getElem? (i := 28) rfl)) (by decide) (chars_0 l Z a0 G h5) pd_7 rfl rfl rfl (by rw [hml]; rfl) (by decide) (by decide) (by decide) (by decide) (hb hby at_194) all0 all0 ?_
        intro v8 T8 h8 S8 X8 K8 Q8
        obtain ⟨b, kc_b, rfl, gb, V_b⟩ := Q8
        have X8 := X8 [] all0
        have z8 : h5.size ≤ h8.size := K8.1
        show Go pP eE bB _ T8 (mkF mM 197 #[.val (.int aa), .val (.int ab), .val (.int ac), .val (.int ad), .val (.int (0 : Int32)), .val (.int cc), .val (.int (1 : Int32)), .unset, .unset, .val (.ref q), .val (.ref o0), .val (.int (Int32.ofNat W0.length)), .val (.int (Int32.ofNat pn)), .unset] [(.ref b)])
        have l_b : b < h8.size := V_b.lt
        refine Go.of (T' := T8) (g' := (mkF mM 199 #[.val (.int aa), .val (.int ab), .val (.int ac), .val (.int ad), .val (.int (0 : Int32)), .val (.int cc), .val (.int (1 : Int32)), .unset, .unset, .val (.ref q), .val (.ref o0), .val (.int (Int32.ofNat W0.length)), .val (.int (Int32.ofNat pn)), .val (.ref b)] [])) (fun _ k => XS.astore X8.hh X8.hx rfl (hb hby at_197) rfl rfl (l' := #[.val (.int aa), .val (.int ab), .val (.int ac), .val (.int ad), .val (.int (0 : Int32)), .val (.int cc), .val (.int (1 : Int32)), .unset, .unset, .val (.ref q), .val (.ref o0), .val (.int (Int32.ofNat W0.length)), .val (.int (Int32.ofNat pn)), .val (.ref b)]) rfl k) ?_
        refine Go.of (T' := T8) (g' := (mkF mM 201 #[.val (.int aa), .val (.int ab), .val (.int ac), .val (.int ad), .val (.int (0 : Int32)), .val (.int cc), .val (.int (1 : Int32)), .unset, .unset, .val (.ref q), .val (.ref o0), .val (.int (Int32.ofNat W0.length)), .val (.int (Int32.ofNat pn)), .val (.ref b)] [(.ref b)])) (fun _ k => XS.aload X8.hh X8.hx rfl (hb hby at_199) rfl rfl k) ?_
        refine Go.of (T' := T8) (g' := (mkF mM 203 #[.val (.int aa), .val (.int ab), .val (.int ac), .val (.int ad), .val (.int (0 : Int32)), .val (.int cc), .val (.int (1 : Int32)), .unset, .unset, .val (.ref q), .val (.ref o0), .val (.int (Int32.ofNat W0.length)), .val (.int (Int32.ofNat pn)), .val (.ref b)] [(.int (Int32.ofNat pn)), (.ref b)])) (fun _ k => XS.iload X8.hh X8.hx rfl (hb hby at_201) rfl k) ?_
        refine Go.of (T' := T8) (g' := (mkF mM 205 #[.val (.int aa), .val (.int ab), .val (.int ac), .val (.int ad), .val (.int (0 : Int32)), .val (.int cc), .val (.int (1 : Int32)), .unset, .unset, .val (.ref q), .val (.ref o0), .val (.int (Int32.ofNat W0.length)), .val (.int (Int32.ofNat pn)), .val (.ref b)] [(.int cc), (.int (Int32.ofNat pn)), (.ref b)])) (fun _ k => XS.iload X8.hh X8.hx rfl (hb hby at_203) rfl k) ?_
        refine X8.stC pn V_b ⟨fun q => absurd ((i32lt (i := pn) (n := 0) (by omega) (by omega)).mp q) (by omega), (i32lt (i := pn) (n := 12) (by omega) (by omega)).mpr hpn'⟩ (by show (Int32.ofNat pn).toInt.toNat = pn; rw [ofNat_toInt (by omega)]; omega) hpn' (by omega) (Or.inr (by omega)) (hb hby at_205) ?_
        intro T9 h9 X9 K9 V_b
        have z9 : h8.size ≤ h9.size := K9.1
        have V_b : Arv Z h9 b kc_b .char (12 : Int32) ((W0.set pn cc).map Value.int) (.int 0) := by
          rw [nar255 cc r2.1 r2.2] at V_b
          rw [List.map_set]
          exact V_b
        show Go pP eE bB _ T9 (mkF mM 206 #[.val (.int aa), .val (.int ab), .val (.int ac), .val (.int ad), .val (.int (0 : Int32)), .val (.int cc), .val (.int (1 : Int32)), .unset, .unset, .val (.ref q), .val (.ref o0), .val (.int (Int32.ofNat W0.length)), .val (.int (Int32.ofNat pn)), .val (.ref b)] [])
        refine X9.newO (hw _ (List.mem_of_getElem? (i := 30) rfl)) (hw _ (List.mem_of_getElem? (i := 3) rfl)) (hw _ (List.mem_of_getElem? (i := 2) rfl)) (hb hby at_206) (by decide) (by decide) ?_
        intro T10 h10 r g_r X10 E10 A_r D_r
        have z10 : h9.size ≤ h10.size := E10.1
        have l_r : r < h10.size := A_r.lt
        have F_value_r : Fld Z h10 r "java/lang/String" "value" "[B" .null := D_r (Or.inr (hw _ (List.mem_of_getElem? (i := 5) rfl))) (ty := (.array .byte)) (by decide)
        have F_coder_r : Fld Z h10 r "java/lang/String" "coder" "B" (.int (0 : Int32)) := D_r (Or.inr (hw _ (List.mem_of_getElem? (i := 6) rfl))) (ty := .byte) (by decide)
        show Go pP eE bB _ T10 (mkF mM 209 #[.val (.int aa), .val (.int ab), .val (.int ac), .val (.int ad), .val (.int (0 : Int32)), .val (.int cc), .val (.int (1 : Int32)), .unset, .unset, .val (.ref q), .val (.ref o0), .val (.int (Int32.ofNat W0.length)), .val (.int (Int32.ofNat pn)), .val (.ref b)] [(.ref r)])
        refine Go.of (T' := T10) (g' := (mkF mM 210 #[.val (.int aa), .val (.int ab), .val (.int ac), .val (.int ad), .val (.int (0 : Int32)), .val (.int cc), .val (.int (1 : Int32)), .unset, .unset, .val (.ref q), .val (.ref o0), .val (.int (Int32.ofNat W0.length)), .val (.int (Int32.ofNat pn)), .val (.ref b)] [(.ref r), (.ref r)])) (fun _ k => XS.dup X10.hh X10.hx rfl (hb hby at_209) rfl rfl k) ?_
        refine Go.of (T' := T10) (g' := (mkF mM 212 #[.val (.int aa), .val (.int ab), .val (.int ac), .val (.int ad), .val (.int (0 : Int32)), .val (.int cc), .val (.int (1 : Int32)), .unset, .unset, .val (.ref q), .val (.ref o0), .val (.int (Int32.ofNat W0.length)), .val (.int (Int32.ofNat pn)), .val (.ref b)] [(.ref b), (.ref r), (.ref r)])) (fun _ k => XS.aload X10.hh X10.hx rfl (hb hby at_210) rfl rfl k) ?_
        have hp := set_rng (k := pn) W0r r2
        have V_b := (V_b.ext E10)
        refine X10.callCN (W := 1) (argsL := [(.ref b)]) (rest := [(.ref r)]) (nc := 1) (ns := 12) (ws' := [r]) (a := r) rfl (hw _ (List.mem_of_getElem? (i := 31) rfl)) (hw _ (List.mem_of_getElem? (i := 32) rfl)) (hw _ (List.mem_of_getElem? (i := 33) rfl)) (by decide) (fun vm0 hZ => StrChars.Road.backV (s := sS.setVm vm0) (W := 1) hZ hws (kI := 4) (hw _ (List.mem_of_getElem? (i := 3) rfl)) (cs := (W0.set pn cc)) (bs := (W0.set pn cc).map (fun c => c.toInt8.toInt32)) (n := 12) (n0 := Z.heap.size) (by omega) (by omega) A_r F_value_r F_coder_r V_b (Sc.ext X10.ext0) hzc (by rw [List.length_set]; rfl) rfl (by decide) (by decide) hp rfl (by decide) (by decide)) (fun v h' L q => ⟨q.2.1, q.2.2.1⟩) pd_8 rfl rfl rfl (by rw [hml]; rfl) (by decide) (by decide) (hb hby at_212) (allS (by omega) all0) (allS (Or.inr (by omega)) all0) (allS (Sfe.mem (List.mem_of_getElem? (i := 0) rfl)) all0) ?_
        intro v11 T11 h11 X11 K11 Q11
        obtain ⟨_, ⟨rfl, -, -, A_r, C_r, t_r, kb_r, gt_r, gs_r, -, V_r, B_r⟩⟩ := Q11
        have z11 : h10.size ≤ h11.size := K11.1
        show Go pP eE bB _ T11 (mkF mM 215 #[.val (.int aa), .val (.int ab), .val (.int ac), .val (.int ad), .val (.int (0 : Int32)), .val (.int cc), .val (.int (1 : Int32)), .unset, .unset, .val (.ref q), .val (.ref o0), .val (.int (Int32.ofNat W0.length)), .val (.int (Int32.ofNat pn)), .val (.ref b)] [(.ref r)])
        have lt_r : t_r < h11.size := B_r.lt
        have St_r : Str Z h11 r t_r kb_r (W0.set pn cc) := ⟨A_r, V_r, C_r, by rw [List.length_set]; exact B_r, hp, by rw [List.length_set]; decide⟩
        refine Go.of (T' := T11) (g' := (mkF mM 217 #[.val (.int aa), .val (.int ab), .val (.int ac), .val (.int ad), .val (.int (0 : Int32)), .val (.int cc), .val (.int (1 : Int32)), .val (.ref r), .unset, .val (.ref q), .val (.ref o0), .val (.int (Int32.ofNat W0.length)), .val (.int (Int32.ofNat pn)), .val (.ref b)] [])) (fun _ k => XS.astore X11.hh X11.hx rfl (hb hby at_215) rfl rfl (l' := #[.val (.int aa), .val (.int ab), .val (.int ac), .val (.int ad), .val (.int (0 : Int32)), .val (.int cc), .val (.int (1 : Int32)), .val (.ref r), .unset, .val (.ref q), .val (.ref o0), .val (.int (Int32.ofNat W0.length)), .val (.int (Int32.ofNat pn)), .val (.ref b)]) rfl k) ?_
        refine Go.of (T' := T11) (g' := (mkF mM 219 #[.val (.int aa), .val (.int ab), .val (.int ac), .val (.int ad), .val (.int (0 : Int32)), .val (.int cc), .val (.int (1 : Int32)), .val (.ref r), .unset, .val (.ref q), .val (.ref o0), .val (.int (Int32.ofNat W0.length)), .val (.int (Int32.ofNat pn)), .val (.ref b)] [(.ref q)])) (fun _ k => XS.aload X11.hh X11.hx rfl (hb hby at_217) rfl rfl k) ?_
        refine Go.of (T' := T11) (g' := (mkF mM 221 #[.val (.int aa), .val (.int ab), .val (.int ac), .val (.int ad), .val (.int (0 : Int32)), .val (.int cc), .val (.int (1 : Int32)), .val (.ref r), .unset, .val (.ref q), .val (.ref o0), .val (.int (Int32.ofNat W0.length)), .val (.int (Int32.ofNat pn)), .val (.ref b)] [(.int (Int32.ofNat pn)), (.ref q)])) (fun _ k => XS.iload X11.hh X11.hx rfl (hb hby at_219) rfl k) ?_
        have Sq := ((((Sq.keep K8 nin0 nin0).keep K9 (ninN (by omega) nin0) (ninN (by omega) nin0)).ext E10).keep K11 (ninN (by omega) nin0) (ninN (by omega) nin0))
        refine X11.callVN (W := 0) (argsL := [(.int (Int32.ofNat pn))]) (rest := []) (nc := 0) (ns := 0) (ws' := []) (Qn := fun v h' L => v = some (.int (W0.getD pn 0)) ∧ L = [] ∧ h' = h11) (a := q) (C := "java/lang/String") (z := (⟨"java/lang/String", "charAt", "(I)C"⟩ : MethodName)) (hw _ (List.mem_of_getElem? (i := 51) rfl)) (hw _ (List.mem_of_getElem? (i := 52) rfl)) (fun _ q => notFace_of_selects (args := #[]) (mvT q (hw _ (List.mem_of_getElem? (i := 54) rfl)))) (hw _ (List.mem_of_getElem? (i := 54) rfl)) (hw _ (List.mem_of_getElem? (i := 53) rfl)) (by decide) (fun vm0 hZ => StrChars.Road.chN (s := sS.setVm vm0) (W := 0) hZ hch (kI := 4) (hw _ (List.mem_of_getElem? (i := 3) rfl)) Sq.1 Sq.2.1 Sq.2.2.1 Sq.2.2.2.1 (StrChars.Road.codOf rfl fun c hc => (Sq.2.2.2.2.1 c hc).2) Sq.up (Sc.ext X11.ext0) hzc (Sf.ext X11.ext0) rfm Sq.2.2.2.2.2 (i := pn) hpn (j := (Int32.ofNat pn)) rfl (by decide) (by decide)) (fun v h' L q => by obtain ⟨-, rfl, rfl⟩ := q; exact ⟨Fr.nil _, Keep.refl _ _⟩) Sq.1 pd_9 rfl rfl rfl (by rw [hml]; rfl) (by decide) (by decide) (hb hby at_221) all0 all0 all0 ?_
        intro v12 T12 h12 X12 K12 Q12
        obtain ⟨_, rfl, -, e12⟩ := Q12
        rw [e12] at X12
        show Go pP eE bB _ T12 (mkF mM 224 #[.val (.int aa), .val (.int ab), .val (.int ac), .val (.int ad), .val (.int (0 : Int32)), .val (.int cc), .val (.int (1 : Int32)), .val (.ref r), .unset, .val (.ref q), .val (.ref o0), .val (.int (Int32.ofNat W0.length)), .val (.int (Int32.ofNat pn)), .val (.ref b)] [(.int (W0.getD pn 0))])
        refine Go.of (T' := T12) (g' := (mkF mM 226 #[.val (.int aa), .val (.int ab), .val (.int ac), .val (.int ad), .val (.int (0 : Int32)), .val (.int cc), .val (.int (1 : Int32)), .val (.ref r), .unset, .val (.ref q), .val (.ref o0), .val (.int (Int32.ofNat W0.length)), .val (.int (Int32.ofNat pn)), .val (.ref b)] [(.int cc), (.int (W0.getD pn 0))])) (fun _ k => XS.iload X12.hh X12.hx rfl (hb hby at_224) rfl k) ?_
        have hss := set_same (c := cc) hpn
        by_cases hc226 : (W0.getD pn 0) = cc
        · refine Go.of (T' := T12) (g' := (mkF mM 229 #[.val (.int aa), .val (.int ab), .val (.int ac), .val (.int ad), .val (.int (0 : Int32)), .val (.int cc), .val (.int (1 : Int32)), .val (.ref r), .unset, .val (.ref q), .val (.ref o0), .val (.int (Int32.ofNat W0.length)), .val (.int (Int32.ofNat pn)), .val (.ref b)] [])) (fun _ k => XS.icmpNo X12.hh X12.hx rfl (hb hby at_226) rfl (teq hc226).2 k) ?_
          refine Go.of (T' := T12) (g' := (mkF mM 231 #[.val (.int aa), .val (.int ab), .val (.int ac), .val (.int ad), .val (.int (0 : Int32)), .val (.int cc), .val (.int (1 : Int32)), .val (.ref r), .unset, .val (.ref q), .val (.ref o0), .val (.int (Int32.ofNat W0.length)), .val (.int (Int32.ofNat pn)), .val (.ref b)] [(.ref o0)])) (fun _ k => XS.aload X12.hh X12.hx rfl (hb hby at_229) rfl rfl k) ?_
          refine Go.of (T' := T12) (g' := (mkF mM 235 #[.val (.int aa), .val (.int ab), .val (.int ac), .val (.int ad), .val (.int (0 : Int32)), .val (.int cc), .val (.int (1 : Int32)), .val (.ref r), .unset, .val (.ref q), .val (.ref o0), .val (.int (Int32.ofNat W0.length)), .val (.int (Int32.ofNat pn)), .val (.ref b)] [(.ref o0)])) (fun _ k => XS.goto X12.hh X12.hx rfl (pc0 := 231) (pc' := 235) rfl (hb hby at_231) (by decide) (by decide) k) ?_
          refine Go.of (T' := T12) (g' := (mkF mM 237 #[.val (.int aa), .val (.int ab), .val (.int ac), .val (.int ad), .val (.int (0 : Int32)), .val (.int cc), .val (.int (1 : Int32)), .val (.ref r), .val (.ref o0), .val (.ref q), .val (.ref o0), .val (.int (Int32.ofNat W0.length)), .val (.int (Int32.ofNat pn)), .val (.ref b)] [])) (fun _ k => XS.astore X12.hh X12.hx rfl (hb hby at_235) rfl rfl (l' := #[.val (.int aa), .val (.int ab), .val (.int ac), .val (.int ad), .val (.int (0 : Int32)), .val (.int cc), .val (.int (1 : Int32)), .val (.ref r), .val (.ref o0), .val (.ref q), .val (.ref o0), .val (.int (Int32.ofNat W0.length)), .val (.int (Int32.ofNat pn)), .val (.ref b)]) rfl k) ?_
          refine Go.of (T' := T12) (g' := (mkF mM 296 #[.val (.int aa), .val (.int ab), .val (.int ac), .val (.int ad), .val (.int (0 : Int32)), .val (.int cc), .val (.int (1 : Int32)), .val (.ref r), .val (.ref o0), .val (.ref q), .val (.ref o0), .val (.int (Int32.ofNat W0.length)), .val (.int (Int32.ofNat pn)), .val (.ref b)] [])) (fun _ k => XS.goto X12.hh X12.hx rfl (pc0 := 237) (pc' := 296) rfl (hb hby at_237) (by decide) (by decide) k) ?_
          exact fin _ _ _ _ _ _ _ _ _ _ _ _ _ _ _ _ _ (X12.mono (by decide) (by decide)) St_r (by rw [(pick_0 (by rw [List.length_set]; rfl)), if_pos (hss.mpr hc226)])
        · refine Go.of (T' := T12) (g' := (mkF mM 234 #[.val (.int aa), .val (.int ab), .val (.int ac), .val (.int ad), .val (.int (0 : Int32)), .val (.int cc), .val (.int (1 : Int32)), .val (.ref r), .unset, .val (.ref q), .val (.ref o0), .val (.int (Int32.ofNat W0.length)), .val (.int (Int32.ofNat pn)), .val (.ref b)] [])) (fun _ k => XS.icmpYes X12.hh X12.hx rfl (pc0 := 226) (pc' := 234) rfl (hb hby at_226) rfl (feq hc226).2 (by decide) (by decide) k) ?_
          refine Go.of (T' := T12) (g' := (mkF mM 235 #[.val (.int aa), .val (.int ab), .val (.int ac), .val (.int ad), .val (.int (0 : Int32)), .val (.int cc), .val (.int (1 : Int32)), .val (.ref r), .unset, .val (.ref q), .val (.ref o0), .val (.int (Int32.ofNat W0.length)), .val (.int (Int32.ofNat pn)), .val (.ref b)] [.null])) (fun _ k => XS.aconstNull X12.hh X12.hx rfl (hb hby at_234) k) ?_
          refine Go.of (T' := T12) (g' := (mkF mM 237 #[.val (.int aa), .val (.int ab), .val (.int ac), .val (.int ad), .val (.int (0 : Int32)), .val (.int cc), .val (.int (1 : Int32)), .val (.ref r), .val .null, .val (.ref q), .val (.ref o0), .val (.int (Int32.ofNat W0.length)), .val (.int (Int32.ofNat pn)), .val (.ref b)] [])) (fun _ k => XS.astore X12.hh X12.hx rfl (hb hby at_235) rfl rfl (l' := #[.val (.int aa), .val (.int ab), .val (.int ac), .val (.int ad), .val (.int (0 : Int32)), .val (.int cc), .val (.int (1 : Int32)), .val (.ref r), .val .null, .val (.ref q), .val (.ref o0), .val (.int (Int32.ofNat W0.length)), .val (.int (Int32.ofNat pn)), .val (.ref b)]) rfl k) ?_
          refine Go.of (T' := T12) (g' := (mkF mM 296 #[.val (.int aa), .val (.int ab), .val (.int ac), .val (.int ad), .val (.int (0 : Int32)), .val (.int cc), .val (.int (1 : Int32)), .val (.ref r), .val .null, .val (.ref q), .val (.ref o0), .val (.int (Int32.ofNat W0.length)), .val (.int (Int32.ofNat pn)), .val (.ref b)] [])) (fun _ k => XS.goto X12.hh X12.hx rfl (pc0 := 237) (pc' := 296) rfl (hb hby at_237) (by decide) (by decide) k) ?_
          exact fin _ _ _ _ _ _ _ _ _ _ _ _ _ _ _ _ _ (X12.mono (by decide) (by decide)) St_r (by rw [(pick_0 (by rw [List.length_set]; rfl)), if_neg fun q => hc226 (hss.mp q)])
      · show Go pP eE bB _ T0 (mkF mM 21 #[.val (.int aa), .val (.int ab), .val (.int ac), .val (.int ad), .val (.int (0 : Int32)), .val (.int cc), .val (.int (2 : Int32)), .unset, .unset, .unset, .unset, .unset, .unset, .unset] [])
        refine Go.of (T' := T0) (g' := (mkF mM 23 #[.val (.int aa), .val (.int ab), .val (.int ac), .val (.int ad), .val (.int (0 : Int32)), .val (.int cc), .val (.int (2 : Int32)), .unset, .unset, .unset, .unset, .unset, .unset, .unset] [(.int (0 : Int32))])) (fun _ k => XS.iload X0.hh X0.hx rfl (hb hby at_21) rfl k) ?_
        refine Go.of (T' := T0) (g' := (mkF mM 24 #[.val (.int aa), .val (.int ab), .val (.int ac), .val (.int ad), .val (.int (0 : Int32)), .val (.int cc), .val (.int (2 : Int32)), .unset, .unset, .unset, .unset, .unset, .unset, .unset] [(.int (3 : Int32)), (.int (0 : Int32))])) (fun _ k => XS.iconst X0.hh X0.hx rfl (hb hby at_23) k) ?_
        refine Go.of (T' := T0) (g' := (mkF mM 101 #[.val (.int aa), .val (.int ab), .val (.int ac), .val (.int ad), .val (.int (0 : Int32)), .val (.int cc), .val (.int (2 : Int32)), .unset, .unset, .unset, .unset, .unset, .unset, .unset] [])) (fun _ k => XS.icmpYes X0.hh X0.hx rfl (pc0 := 24) (pc' := 101) rfl (hb hby at_24) rfl (feq (by decide)).2 (by decide) (by decide) k) ?_
        refine Go.of (T' := T0) (g' := (mkF mM 103 #[.val (.int aa), .val (.int ab), .val (.int ac), .val (.int ad), .val (.int (0 : Int32)), .val (.int cc), .val (.int (2 : Int32)), .unset, .unset, .unset, .unset, .unset, .unset, .unset] [(.int (0 : Int32))])) (fun _ k => XS.iload X0.hh X0.hx rfl (hb hby at_101) rfl k) ?_
        refine Go.of (T' := T0) (g' := (mkF mM 106 #[.val (.int aa), .val (.int ab), .val (.int ac), .val (.int ad), .val (.int (0 : Int32)), .val (.int cc), .val (.int (2 : Int32)), .unset, .unset, .unset, .unset, .unset, .unset, .unset] [])) (fun _ k => XS.ifNo X0.hh X0.hx rfl (hb hby at_103) rfl ((if0 _ _).trans (teq (by decide)).2) k) ?_
        refine X0.ldcR (n := 48) (z := Int32.ofNat ([45, 45, 105, 116, 101, 114, 97, 116, 105, 111, 110, 115] : List Int32).length) (vs := (([45, 45, 105, 116, 101, 114, 97, 116, 105, 111, 110, 115] : List Int32).map fun c => c.toInt8.toInt32).map Value.int) (hw _ (List.mem_of_getElem? (i := 1) rfl)) hwS (by decide +kernel) (by decide +kernel) (by decide +kernel) (by decide +kernel) (hb hby at_106) (by decide +kernel) (by decide) (by decide) (by decide) ?_
        intro T13 h13 q t_q kb_q X13 E13 A_q C_q V_q B_q N_q
        have z13 : h0.size ≤ h13.size := E13.1
        have l_q : q < h13.size := A_q.lt
        have lt_q : t_q < h13.size := B_q.lt
        have St_q : Str Z h13 q t_q kb_q [45, 45, 105, 116, 101, 114, 97, 116, 105, 111, 110, 115] := ⟨A_q, V_q, C_q, B_q, by decide, by decide⟩
        show Go pP eE bB _ T13 (mkF mM 108 #[.val (.int aa), .val (.int ab), .val (.int ac), .val (.int ad), .val (.int (0 : Int32)), .val (.int cc), .val (.int (2 : Int32)), .unset, .unset, .unset, .unset, .unset, .unset, .unset] [(.ref q)])
        refine Go.of (T' := T13) (g' := (mkF mM 124 #[.val (.int aa), .val (.int ab), .val (.int ac), .val (.int ad), .val (.int (0 : Int32)), .val (.int cc), .val (.int (2 : Int32)), .unset, .unset, .unset, .unset, .unset, .unset, .unset] [(.ref q)])) (fun _ k => XS.goto X13.hh X13.hx rfl (pc0 := 108) (pc' := 124) rfl (hb hby at_108) (by decide) (by decide) k) ?_
        refine Go.of (T' := T13) (g' := (mkF mM 126 #[.val (.int aa), .val (.int ab), .val (.int ac), .val (.int ad), .val (.int (0 : Int32)), .val (.int cc), .val (.int (2 : Int32)), .unset, .unset, .val (.ref q), .unset, .unset, .unset, .unset] [])) (fun _ k => XS.astore X13.hh X13.hx rfl (hb hby at_124) rfl rfl (l' := #[.val (.int aa), .val (.int ab), .val (.int ac), .val (.int ad), .val (.int (0 : Int32)), .val (.int cc), .val (.int (2 : Int32)), .unset, .unset, .val (.ref q), .unset, .unset, .unset, .unset]) rfl k) ?_
        refine Go.of (T' := T13) (g' := (mkF mM 128 #[.val (.int aa), .val (.int ab), .val (.int ac), .val (.int ad), .val (.int (0 : Int32)), .val (.int cc), .val (.int (2 : Int32)), .unset, .unset, .val (.ref q), .unset, .unset, .unset, .unset] [(.int (0 : Int32))])) (fun _ k => XS.iload X13.hh X13.hx rfl (hb hby at_126) rfl k) ?_
        refine Go.of (T' := T13) (g' := (mkF mM 131 #[.val (.int aa), .val (.int ab), .val (.int ac), .val (.int ad), .val (.int (0 : Int32)), .val (.int cc), .val (.int (2 : Int32)), .unset, .unset, .val (.ref q), .unset, .unset, .unset, .unset] [])) (fun _ k => XS.ifNo X13.hh X13.hx rfl (hb hby at_128) rfl ((if0 _ _).trans (teq (by decide)).2) k) ?_
        refine X13.getS (host := "") (Or.inl (hw _ (List.mem_of_getElem? (i := 9) rfl))) Via.refl (Si.ext X13.ext0) (hb hby at_131) ?_
        intro T14 X14
        show Go pP eE bB _ T14 (mkF mM 134 #[.val (.int aa), .val (.int ab), .val (.int ac), .val (.int ad), .val (.int (0 : Int32)), .val (.int cc), .val (.int (2 : Int32)), .unset, .unset, .val (.ref q), .unset, .unset, .unset, .unset] [(.ref o0)])
        refine Go.of (T' := T14) (g' := (mkF mM 152 #[.val (.int aa), .val (.int ab), .val (.int ac), .val (.int ad), .val (.int (0 : Int32)), .val (.int cc), .val (.int (2 : Int32)), .unset, .unset, .val (.ref q), .unset, .unset, .unset, .unset] [(.ref o0)])) (fun _ k => XS.goto X14.hh X14.hx rfl (pc0 := 134) (pc' := 152) rfl (hb hby at_134) (by decide) (by decide) k) ?_
        refine Go.of (T' := T14) (g' := (mkF mM 154 #[.val (.int aa), .val (.int ab), .val (.int ac), .val (.int ad), .val (.int (0 : Int32)), .val (.int cc), .val (.int (2 : Int32)), .unset, .unset, .val (.ref q), .val (.ref o0), .unset, .unset, .unset] [])) (fun _ k => XS.astore X14.hh X14.hx rfl (hb hby at_152) rfl rfl (l' := #[.val (.int aa), .val (.int ab), .val (.int ac), .val (.int ad), .val (.int (0 : Int32)), .val (.int cc), .val (.int (2 : Int32)), .unset, .unset, .val (.ref q), .val (.ref o0), .unset, .unset, .unset]) rfl k) ?_
        refine Go.of (T' := T14) (g' := (mkF mM 156 #[.val (.int aa), .val (.int ab), .val (.int ac), .val (.int ad), .val (.int (0 : Int32)), .val (.int cc), .val (.int (2 : Int32)), .unset, .unset, .val (.ref q), .val (.ref o0), .unset, .unset, .unset] [(.ref q)])) (fun _ k => XS.aload X14.hh X14.hx rfl (hb hby at_154) rfl rfl k) ?_
        have Sq : Str Z h13 q t_q kb_q W0 := St_q
        refine X14.callVN (W := 0) (argsL := []) (rest := []) (nc := 0) (ns := 0) (ws' := []) (Qn := fun v h' L => v = some (.int (Int32.ofNat W0.length)) ∧ L = [] ∧ h' = h13) (a := q) (C := "java/lang/String") (z := (⟨"java/lang/String", "length", "()I"⟩ : MethodName)) (hw _ (List.mem_of_getElem? (i := 12) rfl)) (hw _ (List.mem_of_getElem? (i := 13) rfl)) (fun _ q => notFace_of_selects (args := #[]) (mvT q (hw _ (List.mem_of_getElem? (i := 15) rfl)))) (hw _ (List.mem_of_getElem? (i := 15) rfl)) (hw _ (List.mem_of_getElem? (i := 14) rfl)) (by decide) (fun vm0 hZ => StrChars.Road.lenW (s := sS.setVm vm0) (W := 0) hZ hln (kI := 4) (hw _ (List.mem_of_getElem? (i := 3) rfl)) Sq.1 Sq.2.1 Sq.2.2.1 Sq.2.2.2.1 (StrChars.Road.codOf rfl fun c hc => (Sq.2.2.2.2.1 c hc).2) Sq.up (Sc.ext X14.ext0) hzc Sq.2.2.2.2.2 (by decide) (by decide)) (fun v h' L q => by obtain ⟨-, rfl, rfl⟩ := q; exact ⟨Fr.nil _, Keep.refl _ _⟩) Sq.1 pd_6 rfl rfl rfl (by rw [hml]; rfl) (by decide) (by decide) (hb hby at_156) all0 all0 all0 ?_
        intro v15 T15 h15 X15 K15 Q15
        obtain ⟨_, rfl, -, e15⟩ := Q15
        rw [e15] at X15
        show Go pP eE bB _ T15 (mkF mM 159 #[.val (.int aa), .val (.int ab), .val (.int ac), .val (.int ad), .val (.int (0 : Int32)), .val (.int cc), .val (.int (2 : Int32)), .unset, .unset, .val (.ref q), .val (.ref o0), .unset, .unset, .unset] [(.int (Int32.ofNat W0.length))])
        refine Go.of (T' := T15) (g' := (mkF mM 161 #[.val (.int aa), .val (.int ab), .val (.int ac), .val (.int ad), .val (.int (0 : Int32)), .val (.int cc), .val (.int (2 : Int32)), .unset, .unset, .val (.ref q), .val (.ref o0), .val (.int (Int32.ofNat W0.length)), .unset, .unset] [])) (fun _ k => XS.istore X15.hh X15.hx rfl (hb hby at_159) rfl (l' := #[.val (.int aa), .val (.int ab), .val (.int ac), .val (.int ad), .val (.int (0 : Int32)), .val (.int cc), .val (.int (2 : Int32)), .unset, .unset, .val (.ref q), .val (.ref o0), .val (.int (Int32.ofNat W0.length)), .unset, .unset]) rfl k) ?_
        refine Go.of (T' := T15) (g' := (mkF mM 163 #[.val (.int aa), .val (.int ab), .val (.int ac), .val (.int ad), .val (.int (0 : Int32)), .val (.int cc), .val (.int (2 : Int32)), .unset, .unset, .val (.ref q), .val (.ref o0), .val (.int (Int32.ofNat W0.length)), .unset, .unset] [(.int (2 : Int32))])) (fun _ k => XS.iload X15.hh X15.hx rfl (hb hby at_161) rfl k) ?_
        refine Go.of (T' := T15) (g' := (mkF mM 177 #[.val (.int aa), .val (.int ab), .val (.int ac), .val (.int ad), .val (.int (0 : Int32)), .val (.int cc), .val (.int (2 : Int32)), .unset, .unset, .val (.ref q), .val (.ref o0), .val (.int (Int32.ofNat W0.length)), .unset, .unset] [])) (fun _ k => XS.ifYes X15.hh X15.hx rfl (pc0 := 163) (pc' := 177) rfl (hb hby at_163) rfl ((if0 _ _).trans (feq (by decide)).2) (by decide) (by decide) k) ?_
        refine Go.of (T' := T15) (g' := (mkF mM 179 #[.val (.int aa), .val (.int ab), .val (.int ac), .val (.int ad), .val (.int (0 : Int32)), .val (.int cc), .val (.int (2 : Int32)), .unset, .unset, .val (.ref q), .val (.ref o0), .val (.int (Int32.ofNat W0.length)), .unset, .unset] [(.int (2 : Int32))])) (fun _ k => XS.iload X15.hh X15.hx rfl (hb hby at_177) rfl k) ?_
        refine Go.of (T' := T15) (g' := (mkF mM 180 #[.val (.int aa), .val (.int ab), .val (.int ac), .val (.int ad), .val (.int (0 : Int32)), .val (.int cc), .val (.int (2 : Int32)), .unset, .unset, .val (.ref q), .val (.ref o0), .val (.int (Int32.ofNat W0.length)), .unset, .unset] [(.int (1 : Int32)), (.int (2 : Int32))])) (fun _ k => XS.iconst X15.hh X15.hx rfl (hb hby at_179) k) ?_
        refine Go.of (T' := T15) (g' := (mkF mM 240 #[.val (.int aa), .val (.int ab), .val (.int ac), .val (.int ad), .val (.int (0 : Int32)), .val (.int cc), .val (.int (2 : Int32)), .unset, .unset, .val (.ref q), .val (.ref o0), .val (.int (Int32.ofNat W0.length)), .unset, .unset] [])) (fun _ k => XS.icmpYes X15.hh X15.hx rfl (pc0 := 180) (pc' := 240) rfl (hb hby at_180) rfl (feq (by decide)).2 (by decide) (by decide) k) ?_
        refine Go.of (T' := T15) (g' := (mkF mM 242 #[.val (.int aa), .val (.int ab), .val (.int ac), .val (.int ad), .val (.int (0 : Int32)), .val (.int cc), .val (.int (2 : Int32)), .unset, .unset, .val (.ref q), .val (.ref o0), .val (.int (Int32.ofNat W0.length)), .unset, .unset] [(.int (2 : Int32))])) (fun _ k => XS.iload X15.hh X15.hx rfl (hb hby at_240) rfl k) ?_
        refine Go.of (T' := T15) (g' := (mkF mM 243 #[.val (.int aa), .val (.int ab), .val (.int ac), .val (.int ad), .val (.int (0 : Int32)), .val (.int cc), .val (.int (2 : Int32)), .unset, .unset, .val (.ref q), .val (.ref o0), .val (.int (Int32.ofNat W0.length)), .unset, .unset] [(.int (2 : Int32)), (.int (2 : Int32))])) (fun _ k => XS.iconst X15.hh X15.hx rfl (hb hby at_242) k) ?_
        refine Go.of (T' := T15) (g' := (mkF mM 246 #[.val (.int aa), .val (.int ab), .val (.int ac), .val (.int ad), .val (.int (0 : Int32)), .val (.int cc), .val (.int (2 : Int32)), .unset, .unset, .val (.ref q), .val (.ref o0), .val (.int (Int32.ofNat W0.length)), .unset, .unset] [])) (fun _ k => XS.icmpNo X15.hh X15.hx rfl (hb hby at_243) rfl (teq (by decide)).2 k) ?_
        refine X15.newO (hw _ (List.mem_of_getElem? (i := 30) rfl)) (hw _ (List.mem_of_getElem? (i := 3) rfl)) (hw _ (List.mem_of_getElem? (i := 2) rfl)) (hb hby at_246) (by decide) (by decide) ?_
        intro T16 h16 r g_r X16 E16 A_r D_r
        have z16 : h13.size ≤ h16.size := E16.1
        have l_r : r < h16.size := A_r.lt
        have F_value_r : Fld Z h16 r "java/lang/String" "value" "[B" .null := D_r (Or.inr (hw _ (List.mem_of_getElem? (i := 5) rfl))) (ty := (.array .byte)) (by decide)
        have F_coder_r : Fld Z h16 r "java/lang/String" "coder" "B" (.int (0 : Int32)) := D_r (Or.inr (hw _ (List.mem_of_getElem? (i := 6) rfl))) (ty := .byte) (by decide)
        show Go pP eE bB _ T16 (mkF mM 249 #[.val (.int aa), .val (.int ab), .val (.int ac), .val (.int ad), .val (.int (0 : Int32)), .val (.int cc), .val (.int (2 : Int32)), .unset, .unset, .val (.ref q), .val (.ref o0), .val (.int (Int32.ofNat W0.length)), .unset, .unset] [(.ref r)])
        refine Go.of (T' := T16) (g' := (mkF mM 250 #[.val (.int aa), .val (.int ab), .val (.int ac), .val (.int ad), .val (.int (0 : Int32)), .val (.int cc), .val (.int (2 : Int32)), .unset, .unset, .val (.ref q), .val (.ref o0), .val (.int (Int32.ofNat W0.length)), .unset, .unset] [(.ref r), (.ref r)])) (fun _ k => XS.dup X16.hh X16.hx rfl (hb hby at_249) rfl rfl k) ?_
        refine Go.of (T' := T16) (g' := (mkF mM 252 #[.val (.int aa), .val (.int ab), .val (.int ac), .val (.int ad), .val (.int (0 : Int32)), .val (.int cc), .val (.int (2 : Int32)), .unset, .unset, .val (.ref q), .val (.ref o0), .val (.int (Int32.ofNat W0.length)), .unset, .unset] [(.int (0 : Int32)), (.ref r), (.ref r)])) (fun _ k => XS.iload X16.hh X16.hx rfl (hb hby at_250) rfl k) ?_
        refine Go.of (T' := T16) (g' := (mkF mM 254 #[.val (.int aa), .val (.int ab), .val (.int ac), .val (.int ad), .val (.int (0 : Int32)), .val (.int cc), .val (.int (2 : Int32)), .unset, .unset, .val (.ref q), .val (.ref o0), .val (.int (Int32.ofNat W0.length)), .unset, .unset] [(.int cc), (.int (0 : Int32)), (.ref r), (.ref r)])) (fun _ k => XS.iload X16.hh X16.hx rfl (hb hby at_252) rfl k) ?_
        refine X16.callS (W := 2) (argsL := [(.int (0 : Int32)), (.int cc)]) (rest := [(.ref r), (.ref r)]) (hw _ (List.mem_of_getElem? (i := 104) rfl)) (hw _ (List.mem_of_getElem? (i := 105) rfl)) (hw _ (List.mem_of_getElem? (i := 27) rfl)) (hw _ (List.mem_of_getElem? (i := 106) rfl)) (by decide) (appended_0 l Z a0 G cc h16 r2) pd_10 rfl rfl rfl (by rw [hml]; rfl) (by decide) (by decide) (by decide) (by decide) (hb hby at_254) all0 all0 ?_
        intro v17 T17 h17 S17 X17 K17 Q17
        obtain ⟨b, kc_b, rfl, gb, V_b⟩ := Q17
        have X17 := X17 [] all0
        have z17 : h16.size ≤ h17.size := K17.1
        show Go pP eE bB _ T17 (mkF mM 257 #[.val (.int aa), .val (.int ab), .val (.int ac), .val (.int ad), .val (.int (0 : Int32)), .val (.int cc), .val (.int (2 : Int32)), .unset, .unset, .val (.ref q), .val (.ref o0), .val (.int (Int32.ofNat W0.length)), .unset, .unset] [(.ref b), (.ref r), (.ref r)])
        have l_b : b < h17.size := V_b.lt
        have hp : ∀ c ∈ ([(45 : Int32), (45 : Int32), (105 : Int32), (116 : Int32), (101 : Int32), (114 : Int32), (97 : Int32), (116 : Int32), (105 : Int32), (111 : Int32), (110 : Int32), (115 : Int32), cc] : List Int32), ¬ c < 0 ∧ ¬ (255 : Int32) < c := by
          intro c hc
          rcases List.mem_append.mp (show c ∈ W0 ++ [cc] from hc) with q | q
          · exact W0r c q
          · rw [List.mem_singleton.mp q]; exact r2
        have A_r := (A_r.keep K17)
        have F_value_r := (F_value_r.keep K17 nin0)
        have F_coder_r := (F_coder_r.keep K17 nin0)
        refine X17.callCN (W := 1) (argsL := [(.ref b)]) (rest := [(.ref r)]) (nc := 1) (ns := 13) (ws' := [r]) (a := r) rfl (hw _ (List.mem_of_getElem? (i := 31) rfl)) (hw _ (List.mem_of_getElem? (i := 32) rfl)) (hw _ (List.mem_of_getElem? (i := 33) rfl)) (by decide) (fun vm0 hZ => StrChars.Road.backV (s := sS.setVm vm0) (W := 1) hZ hws (kI := 4) (hw _ (List.mem_of_getElem? (i := 3) rfl)) (cs := ([(45 : Int32), (45 : Int32), (105 : Int32), (116 : Int32), (101 : Int32), (114 : Int32), (97 : Int32), (116 : Int32), (105 : Int32), (111 : Int32), (110 : Int32), (115 : Int32), cc] : List Int32)) (bs := ([(45 : Int32), (45 : Int32), (105 : Int32), (116 : Int32), (101 : Int32), (114 : Int32), (97 : Int32), (116 : Int32), (105 : Int32), (111 : Int32), (110 : Int32), (115 : Int32), cc] : List Int32).map (fun c => c.toInt8.toInt32)) (n := 13) (n0 := Z.heap.size) (by omega) (by omega) A_r F_value_r F_coder_r V_b (Sc.ext X17.ext0) hzc rfl rfl (by decide) (by decide) hp rfl (by decide) (by decide)) (fun v h' L q => ⟨q.2.1, q.2.2.1⟩) pd_8 rfl rfl rfl (by rw [hml]; rfl) (by decide) (by decide) (hb hby at_257) (allS (by omega) all0) (allS (Or.inr (by omega)) all0) (allS (Sfe.mem (List.mem_of_getElem? (i := 0) rfl)) all0) ?_
        intro v18 T18 h18 X18 K18 Q18
        obtain ⟨_, ⟨rfl, -, -, A_r, C_r, t_r, kb_r, gt_r, gs_r, -, V_r, B_r⟩⟩ := Q18
        have z18 : h17.size ≤ h18.size := K18.1
        show Go pP eE bB _ T18 (mkF mM 260 #[.val (.int aa), .val (.int ab), .val (.int ac), .val (.int ad), .val (.int (0 : Int32)), .val (.int cc), .val (.int (2 : Int32)), .unset, .unset, .val (.ref q), .val (.ref o0), .val (.int (Int32.ofNat W0.length)), .unset, .unset] [(.ref r)])
        have lt_r : t_r < h18.size := B_r.lt
        have St_r : Str Z h18 r t_r kb_r ([(45 : Int32), (45 : Int32), (105 : Int32), (116 : Int32), (101 : Int32), (114 : Int32), (97 : Int32), (116 : Int32), (105 : Int32), (111 : Int32), (110 : Int32), (115 : Int32), cc] : List Int32) := ⟨A_r, V_r, C_r, B_r, hp, Nat.le_of_ble_eq_true rfl⟩
        refine Go.of (T' := T18) (g' := (mkF mM 262 #[.val (.int aa), .val (.int ab), .val (.int ac), .val (.int ad), .val (.int (0 : Int32)), .val (.int cc), .val (.int (2 : Int32)), .val (.ref r), .unset, .val (.ref q), .val (.ref o0), .val (.int (Int32.ofNat W0.length)), .unset, .unset] [])) (fun _ k => XS.astore X18.hh X18.hx rfl (hb hby at_260) rfl rfl (l' := #[.val (.int aa), .val (.int ab), .val (.int ac), .val (.int ad), .val (.int (0 : Int32)), .val (.int cc), .val (.int (2 : Int32)), .val (.ref r), .unset, .val (.ref q), .val (.ref o0), .val (.int (Int32.ofNat W0.length)), .unset, .unset]) rfl k) ?_
        refine Go.of (T' := T18) (g' := (mkF mM 263 #[.val (.int aa), .val (.int ab), .val (.int ac), .val (.int ad), .val (.int (0 : Int32)), .val (.int cc), .val (.int (2 : Int32)), .val (.ref r), .unset, .val (.ref q), .val (.ref o0), .val (.int (Int32.ofNat W0.length)), .unset, .unset] [.null])) (fun _ k => XS.aconstNull X18.hh X18.hx rfl (hb hby at_262) k) ?_
        refine Go.of (T' := T18) (g' := (mkF mM 265 #[.val (.int aa), .val (.int ab), .val (.int ac), .val (.int ad), .val (.int (0 : Int32)), .val (.int cc), .val (.int (2 : Int32)), .val (.ref r), .val .null, .val (.ref q), .val (.ref o0), .val (.int (Int32.ofNat W0.length)), .unset, .unset] [])) (fun _ k => XS.astore X18.hh X18.hx rfl (hb hby at_263) rfl rfl (l' := #[.val (.int aa), .val (.int ab), .val (.int ac), .val (.int ad), .val (.int (0 : Int32)), .val (.int cc), .val (.int (2 : Int32)), .val (.ref r), .val .null, .val (.ref q), .val (.ref o0), .val (.int (Int32.ofNat W0.length)), .unset, .unset]) rfl k) ?_
        refine Go.of (T' := T18) (g' := (mkF mM 296 #[.val (.int aa), .val (.int ab), .val (.int ac), .val (.int ad), .val (.int (0 : Int32)), .val (.int cc), .val (.int (2 : Int32)), .val (.ref r), .val .null, .val (.ref q), .val (.ref o0), .val (.int (Int32.ofNat W0.length)), .unset, .unset] [])) (fun _ k => XS.goto X18.hh X18.hx rfl (pc0 := 265) (pc' := 296) rfl (hb hby at_265) (by decide) (by decide) k) ?_
        exact fin _ _ _ _ _ _ _ _ _ _ _ _ _ _ _ _ _ (X18.mono (by decide) (by decide)) St_r (pick_none (by simp) (by simp) (by simp)).symm
      · show Go pP eE bB _ T0 (mkF mM 21 #[.val (.int aa), .val (.int ab), .val (.int ac), .val (.int ad), .val (.int (0 : Int32)), .val (.int cc), .val (.int (3 : Int32)), .unset, .unset, .unset, .unset, .unset, .unset, .unset] [])
        refine Go.of (T' := T0) (g' := (mkF mM 23 #[.val (.int aa), .val (.int ab), .val (.int ac), .val (.int ad), .val (.int (0 : Int32)), .val (.int cc), .val (.int (3 : Int32)), .unset, .unset, .unset, .unset, .unset, .unset, .unset] [(.int (0 : Int32))])) (fun _ k => XS.iload X0.hh X0.hx rfl (hb hby at_21) rfl k) ?_
        refine Go.of (T' := T0) (g' := (mkF mM 24 #[.val (.int aa), .val (.int ab), .val (.int ac), .val (.int ad), .val (.int (0 : Int32)), .val (.int cc), .val (.int (3 : Int32)), .unset, .unset, .unset, .unset, .unset, .unset, .unset] [(.int (3 : Int32)), (.int (0 : Int32))])) (fun _ k => XS.iconst X0.hh X0.hx rfl (hb hby at_23) k) ?_
        refine Go.of (T' := T0) (g' := (mkF mM 101 #[.val (.int aa), .val (.int ab), .val (.int ac), .val (.int ad), .val (.int (0 : Int32)), .val (.int cc), .val (.int (3 : Int32)), .unset, .unset, .unset, .unset, .unset, .unset, .unset] [])) (fun _ k => XS.icmpYes X0.hh X0.hx rfl (pc0 := 24) (pc' := 101) rfl (hb hby at_24) rfl (feq (by decide)).2 (by decide) (by decide) k) ?_
        refine Go.of (T' := T0) (g' := (mkF mM 103 #[.val (.int aa), .val (.int ab), .val (.int ac), .val (.int ad), .val (.int (0 : Int32)), .val (.int cc), .val (.int (3 : Int32)), .unset, .unset, .unset, .unset, .unset, .unset, .unset] [(.int (0 : Int32))])) (fun _ k => XS.iload X0.hh X0.hx rfl (hb hby at_101) rfl k) ?_
        refine Go.of (T' := T0) (g' := (mkF mM 106 #[.val (.int aa), .val (.int ab), .val (.int ac), .val (.int ad), .val (.int (0 : Int32)), .val (.int cc), .val (.int (3 : Int32)), .unset, .unset, .unset, .unset, .unset, .unset, .unset] [])) (fun _ k => XS.ifNo X0.hh X0.hx rfl (hb hby at_103) rfl ((if0 _ _).trans (teq (by decide)).2) k) ?_
        refine X0.ldcR (n := 48) (z := Int32.ofNat ([45, 45, 105, 116, 101, 114, 97, 116, 105, 111, 110, 115] : List Int32).length) (vs := (([45, 45, 105, 116, 101, 114, 97, 116, 105, 111, 110, 115] : List Int32).map fun c => c.toInt8.toInt32).map Value.int) (hw _ (List.mem_of_getElem? (i := 1) rfl)) hwS (by decide +kernel) (by decide +kernel) (by decide +kernel) (by decide +kernel) (hb hby at_106) (by decide +kernel) (by decide) (by decide) (by decide) ?_
        intro T19 h19 q t_q kb_q X19 E19 A_q C_q V_q B_q N_q
        have z19 : h0.size ≤ h19.size := E19.1
        have l_q : q < h19.size := A_q.lt
        have lt_q : t_q < h19.size := B_q.lt
        have St_q : Str Z h19 q t_q kb_q [45, 45, 105, 116, 101, 114, 97, 116, 105, 111, 110, 115] := ⟨A_q, V_q, C_q, B_q, by decide, by decide⟩
        show Go pP eE bB _ T19 (mkF mM 108 #[.val (.int aa), .val (.int ab), .val (.int ac), .val (.int ad), .val (.int (0 : Int32)), .val (.int cc), .val (.int (3 : Int32)), .unset, .unset, .unset, .unset, .unset, .unset, .unset] [(.ref q)])
        refine Go.of (T' := T19) (g' := (mkF mM 124 #[.val (.int aa), .val (.int ab), .val (.int ac), .val (.int ad), .val (.int (0 : Int32)), .val (.int cc), .val (.int (3 : Int32)), .unset, .unset, .unset, .unset, .unset, .unset, .unset] [(.ref q)])) (fun _ k => XS.goto X19.hh X19.hx rfl (pc0 := 108) (pc' := 124) rfl (hb hby at_108) (by decide) (by decide) k) ?_
        refine Go.of (T' := T19) (g' := (mkF mM 126 #[.val (.int aa), .val (.int ab), .val (.int ac), .val (.int ad), .val (.int (0 : Int32)), .val (.int cc), .val (.int (3 : Int32)), .unset, .unset, .val (.ref q), .unset, .unset, .unset, .unset] [])) (fun _ k => XS.astore X19.hh X19.hx rfl (hb hby at_124) rfl rfl (l' := #[.val (.int aa), .val (.int ab), .val (.int ac), .val (.int ad), .val (.int (0 : Int32)), .val (.int cc), .val (.int (3 : Int32)), .unset, .unset, .val (.ref q), .unset, .unset, .unset, .unset]) rfl k) ?_
        refine Go.of (T' := T19) (g' := (mkF mM 128 #[.val (.int aa), .val (.int ab), .val (.int ac), .val (.int ad), .val (.int (0 : Int32)), .val (.int cc), .val (.int (3 : Int32)), .unset, .unset, .val (.ref q), .unset, .unset, .unset, .unset] [(.int (0 : Int32))])) (fun _ k => XS.iload X19.hh X19.hx rfl (hb hby at_126) rfl k) ?_
        refine Go.of (T' := T19) (g' := (mkF mM 131 #[.val (.int aa), .val (.int ab), .val (.int ac), .val (.int ad), .val (.int (0 : Int32)), .val (.int cc), .val (.int (3 : Int32)), .unset, .unset, .val (.ref q), .unset, .unset, .unset, .unset] [])) (fun _ k => XS.ifNo X19.hh X19.hx rfl (hb hby at_128) rfl ((if0 _ _).trans (teq (by decide)).2) k) ?_
        refine X19.getS (host := "") (Or.inl (hw _ (List.mem_of_getElem? (i := 9) rfl))) Via.refl (Si.ext X19.ext0) (hb hby at_131) ?_
        intro T20 X20
        show Go pP eE bB _ T20 (mkF mM 134 #[.val (.int aa), .val (.int ab), .val (.int ac), .val (.int ad), .val (.int (0 : Int32)), .val (.int cc), .val (.int (3 : Int32)), .unset, .unset, .val (.ref q), .unset, .unset, .unset, .unset] [(.ref o0)])
        refine Go.of (T' := T20) (g' := (mkF mM 152 #[.val (.int aa), .val (.int ab), .val (.int ac), .val (.int ad), .val (.int (0 : Int32)), .val (.int cc), .val (.int (3 : Int32)), .unset, .unset, .val (.ref q), .unset, .unset, .unset, .unset] [(.ref o0)])) (fun _ k => XS.goto X20.hh X20.hx rfl (pc0 := 134) (pc' := 152) rfl (hb hby at_134) (by decide) (by decide) k) ?_
        refine Go.of (T' := T20) (g' := (mkF mM 154 #[.val (.int aa), .val (.int ab), .val (.int ac), .val (.int ad), .val (.int (0 : Int32)), .val (.int cc), .val (.int (3 : Int32)), .unset, .unset, .val (.ref q), .val (.ref o0), .unset, .unset, .unset] [])) (fun _ k => XS.astore X20.hh X20.hx rfl (hb hby at_152) rfl rfl (l' := #[.val (.int aa), .val (.int ab), .val (.int ac), .val (.int ad), .val (.int (0 : Int32)), .val (.int cc), .val (.int (3 : Int32)), .unset, .unset, .val (.ref q), .val (.ref o0), .unset, .unset, .unset]) rfl k) ?_
        refine Go.of (T' := T20) (g' := (mkF mM 156 #[.val (.int aa), .val (.int ab), .val (.int ac), .val (.int ad), .val (.int (0 : Int32)), .val (.int cc), .val (.int (3 : Int32)), .unset, .unset, .val (.ref q), .val (.ref o0), .unset, .unset, .unset] [(.ref q)])) (fun _ k => XS.aload X20.hh X20.hx rfl (hb hby at_154) rfl rfl k) ?_
        have Sq : Str Z h19 q t_q kb_q W0 := St_q
        refine X20.callVN (W := 0) (argsL := []) (rest := []) (nc := 0) (ns := 0) (ws' := []) (Qn := fun v h' L => v = some (.int (Int32.ofNat W0.length)) ∧ L = [] ∧ h' = h19) (a := q) (C := "java/lang/String") (z := (⟨"java/lang/String", "length", "()I"⟩ : MethodName)) (hw _ (List.mem_of_getElem? (i := 12) rfl)) (hw _ (List.mem_of_getElem? (i := 13) rfl)) (fun _ q => notFace_of_selects (args := #[]) (mvT q (hw _ (List.mem_of_getElem? (i := 15) rfl)))) (hw _ (List.mem_of_getElem? (i := 15) rfl)) (hw _ (List.mem_of_getElem? (i := 14) rfl)) (by decide) (fun vm0 hZ => StrChars.Road.lenW (s := sS.setVm vm0) (W := 0) hZ hln (kI := 4) (hw _ (List.mem_of_getElem? (i := 3) rfl)) Sq.1 Sq.2.1 Sq.2.2.1 Sq.2.2.2.1 (StrChars.Road.codOf rfl fun c hc => (Sq.2.2.2.2.1 c hc).2) Sq.up (Sc.ext X20.ext0) hzc Sq.2.2.2.2.2 (by decide) (by decide)) (fun v h' L q => by obtain ⟨-, rfl, rfl⟩ := q; exact ⟨Fr.nil _, Keep.refl _ _⟩) Sq.1 pd_6 rfl rfl rfl (by rw [hml]; rfl) (by decide) (by decide) (hb hby at_156) all0 all0 all0 ?_
        intro v21 T21 h21 X21 K21 Q21
        obtain ⟨_, rfl, -, e21⟩ := Q21
        rw [e21] at X21
        show Go pP eE bB _ T21 (mkF mM 159 #[.val (.int aa), .val (.int ab), .val (.int ac), .val (.int ad), .val (.int (0 : Int32)), .val (.int cc), .val (.int (3 : Int32)), .unset, .unset, .val (.ref q), .val (.ref o0), .unset, .unset, .unset] [(.int (Int32.ofNat W0.length))])
        refine Go.of (T' := T21) (g' := (mkF mM 161 #[.val (.int aa), .val (.int ab), .val (.int ac), .val (.int ad), .val (.int (0 : Int32)), .val (.int cc), .val (.int (3 : Int32)), .unset, .unset, .val (.ref q), .val (.ref o0), .val (.int (Int32.ofNat W0.length)), .unset, .unset] [])) (fun _ k => XS.istore X21.hh X21.hx rfl (hb hby at_159) rfl (l' := #[.val (.int aa), .val (.int ab), .val (.int ac), .val (.int ad), .val (.int (0 : Int32)), .val (.int cc), .val (.int (3 : Int32)), .unset, .unset, .val (.ref q), .val (.ref o0), .val (.int (Int32.ofNat W0.length)), .unset, .unset]) rfl k) ?_
        refine Go.of (T' := T21) (g' := (mkF mM 163 #[.val (.int aa), .val (.int ab), .val (.int ac), .val (.int ad), .val (.int (0 : Int32)), .val (.int cc), .val (.int (3 : Int32)), .unset, .unset, .val (.ref q), .val (.ref o0), .val (.int (Int32.ofNat W0.length)), .unset, .unset] [(.int (3 : Int32))])) (fun _ k => XS.iload X21.hh X21.hx rfl (hb hby at_161) rfl k) ?_
        refine Go.of (T' := T21) (g' := (mkF mM 177 #[.val (.int aa), .val (.int ab), .val (.int ac), .val (.int ad), .val (.int (0 : Int32)), .val (.int cc), .val (.int (3 : Int32)), .unset, .unset, .val (.ref q), .val (.ref o0), .val (.int (Int32.ofNat W0.length)), .unset, .unset] [])) (fun _ k => XS.ifYes X21.hh X21.hx rfl (pc0 := 163) (pc' := 177) rfl (hb hby at_163) rfl ((if0 _ _).trans (feq (by decide)).2) (by decide) (by decide) k) ?_
        refine Go.of (T' := T21) (g' := (mkF mM 179 #[.val (.int aa), .val (.int ab), .val (.int ac), .val (.int ad), .val (.int (0 : Int32)), .val (.int cc), .val (.int (3 : Int32)), .unset, .unset, .val (.ref q), .val (.ref o0), .val (.int (Int32.ofNat W0.length)), .unset, .unset] [(.int (3 : Int32))])) (fun _ k => XS.iload X21.hh X21.hx rfl (hb hby at_177) rfl k) ?_
        refine Go.of (T' := T21) (g' := (mkF mM 180 #[.val (.int aa), .val (.int ab), .val (.int ac), .val (.int ad), .val (.int (0 : Int32)), .val (.int cc), .val (.int (3 : Int32)), .unset, .unset, .val (.ref q), .val (.ref o0), .val (.int (Int32.ofNat W0.length)), .unset, .unset] [(.int (1 : Int32)), (.int (3 : Int32))])) (fun _ k => XS.iconst X21.hh X21.hx rfl (hb hby at_179) k) ?_
        refine Go.of (T' := T21) (g' := (mkF mM 240 #[.val (.int aa), .val (.int ab), .val (.int ac), .val (.int ad), .val (.int (0 : Int32)), .val (.int cc), .val (.int (3 : Int32)), .unset, .unset, .val (.ref q), .val (.ref o0), .val (.int (Int32.ofNat W0.length)), .unset, .unset] [])) (fun _ k => XS.icmpYes X21.hh X21.hx rfl (pc0 := 180) (pc' := 240) rfl (hb hby at_180) rfl (feq (by decide)).2 (by decide) (by decide) k) ?_
        refine Go.of (T' := T21) (g' := (mkF mM 242 #[.val (.int aa), .val (.int ab), .val (.int ac), .val (.int ad), .val (.int (0 : Int32)), .val (.int cc), .val (.int (3 : Int32)), .unset, .unset, .val (.ref q), .val (.ref o0), .val (.int (Int32.ofNat W0.length)), .unset, .unset] [(.int (3 : Int32))])) (fun _ k => XS.iload X21.hh X21.hx rfl (hb hby at_240) rfl k) ?_
        refine Go.of (T' := T21) (g' := (mkF mM 243 #[.val (.int aa), .val (.int ab), .val (.int ac), .val (.int ad), .val (.int (0 : Int32)), .val (.int cc), .val (.int (3 : Int32)), .unset, .unset, .val (.ref q), .val (.ref o0), .val (.int (Int32.ofNat W0.length)), .unset, .unset] [(.int (2 : Int32)), (.int (3 : Int32))])) (fun _ k => XS.iconst X21.hh X21.hx rfl (hb hby at_242) k) ?_
        refine Go.of (T' := T21) (g' := (mkF mM 268 #[.val (.int aa), .val (.int ab), .val (.int ac), .val (.int ad), .val (.int (0 : Int32)), .val (.int cc), .val (.int (3 : Int32)), .unset, .unset, .val (.ref q), .val (.ref o0), .val (.int (Int32.ofNat W0.length)), .unset, .unset] [])) (fun _ k => XS.icmpYes X21.hh X21.hx rfl (pc0 := 243) (pc' := 268) rfl (hb hby at_243) rfl (feq (by decide)).2 (by decide) (by decide) k) ?_
        refine Go.of (T' := T21) (g' := (mkF mM 270 #[.val (.int aa), .val (.int ab), .val (.int ac), .val (.int ad), .val (.int (0 : Int32)), .val (.int cc), .val (.int (3 : Int32)), .unset, .unset, .val (.ref q), .val (.ref o0), .val (.int (Int32.ofNat W0.length)), .unset, .unset] [(.int (0 : Int32))])) (fun _ k => XS.iload X21.hh X21.hx rfl (hb hby at_268) rfl k) ?_
        refine Go.of (T' := T21) (g' := (mkF mM 273 #[.val (.int aa), .val (.int ab), .val (.int ac), .val (.int ad), .val (.int (0 : Int32)), .val (.int cc), .val (.int (3 : Int32)), .unset, .unset, .val (.ref q), .val (.ref o0), .val (.int (Int32.ofNat W0.length)), .unset, .unset] [])) (fun _ k => XS.ifNo X21.hh X21.hx rfl (hb hby at_270) rfl ((if0 _ _).trans (teq (by decide)).2) k) ?_
        refine X21.ldcR (n := 44) (z := Int32.ofNat ([45, 45, 105, 116, 101, 114, 97, 116, 105, 111, 110] : List Int32).length) (vs := (([45, 45, 105, 116, 101, 114, 97, 116, 105, 111, 110] : List Int32).map fun c => c.toInt8.toInt32).map Value.int) (hw _ (List.mem_of_getElem? (i := 124) rfl)) hwS (by decide +kernel) (by decide +kernel) (by decide +kernel) (by decide +kernel) (hb hby at_273) (by decide +kernel) (by decide) (by decide) (by decide) ?_
        intro T22 h22 u t_u kb_u X22 E22 A_u C_u V_u B_u N_u
        have z22 : h19.size ≤ h22.size := E22.1
        have l_u : u < h22.size := A_u.lt
        have lt_u : t_u < h22.size := B_u.lt
        have St_u : Str Z h22 u t_u kb_u [45, 45, 105, 116, 101, 114, 97, 116, 105, 111, 110] := ⟨A_u, V_u, C_u, B_u, by decide, by decide⟩
        show Go pP eE bB _ T22 (mkF mM 275 #[.val (.int aa), .val (.int ab), .val (.int ac), .val (.int ad), .val (.int (0 : Int32)), .val (.int cc), .val (.int (3 : Int32)), .unset, .unset, .val (.ref q), .val (.ref o0), .val (.int (Int32.ofNat W0.length)), .unset, .unset] [(.ref u)])
        refine Go.of (T' := T22) (g' := (mkF mM 291 #[.val (.int aa), .val (.int ab), .val (.int ac), .val (.int ad), .val (.int (0 : Int32)), .val (.int cc), .val (.int (3 : Int32)), .unset, .unset, .val (.ref q), .val (.ref o0), .val (.int (Int32.ofNat W0.length)), .unset, .unset] [(.ref u)])) (fun _ k => XS.goto X22.hh X22.hx rfl (pc0 := 275) (pc' := 291) rfl (hb hby at_275) (by decide) (by decide) k) ?_
        refine Go.of (T' := T22) (g' := (mkF mM 293 #[.val (.int aa), .val (.int ab), .val (.int ac), .val (.int ad), .val (.int (0 : Int32)), .val (.int cc), .val (.int (3 : Int32)), .val (.ref u), .unset, .val (.ref q), .val (.ref o0), .val (.int (Int32.ofNat W0.length)), .unset, .unset] [])) (fun _ k => XS.astore X22.hh X22.hx rfl (hb hby at_291) rfl rfl (l' := #[.val (.int aa), .val (.int ab), .val (.int ac), .val (.int ad), .val (.int (0 : Int32)), .val (.int cc), .val (.int (3 : Int32)), .val (.ref u), .unset, .val (.ref q), .val (.ref o0), .val (.int (Int32.ofNat W0.length)), .unset, .unset]) rfl k) ?_
        refine Go.of (T' := T22) (g' := (mkF mM 294 #[.val (.int aa), .val (.int ab), .val (.int ac), .val (.int ad), .val (.int (0 : Int32)), .val (.int cc), .val (.int (3 : Int32)), .val (.ref u), .unset, .val (.ref q), .val (.ref o0), .val (.int (Int32.ofNat W0.length)), .unset, .unset] [.null])) (fun _ k => XS.aconstNull X22.hh X22.hx rfl (hb hby at_293) k) ?_
        refine Go.of (T' := T22) (g' := (mkF mM 296 #[.val (.int aa), .val (.int ab), .val (.int ac), .val (.int ad), .val (.int (0 : Int32)), .val (.int cc), .val (.int (3 : Int32)), .val (.ref u), .val .null, .val (.ref q), .val (.ref o0), .val (.int (Int32.ofNat W0.length)), .unset, .unset] [])) (fun _ k => XS.astore X22.hh X22.hx rfl (hb hby at_294) rfl rfl (l' := #[.val (.int aa), .val (.int ab), .val (.int ac), .val (.int ad), .val (.int (0 : Int32)), .val (.int cc), .val (.int (3 : Int32)), .val (.ref u), .val .null, .val (.ref q), .val (.ref o0), .val (.int (Int32.ofNat W0.length)), .unset, .unset]) rfl k) ?_
        exact fin _ _ _ _ _ _ _ _ _ _ _ _ _ _ _ _ _ (X22.mono (by decide) (by decide)) St_u (pick_none (by decide) (by decide) (by decide)).symm
    · rcases r3 with rfl | rfl | rfl | rfl
      · show Go pP eE bB _ T0 (mkF mM 21 #[.val (.int aa), .val (.int ab), .val (.int ac), .val (.int ad), .val (.int (1 : Int32)), .val (.int cc), .val (.int (0 : Int32)), .unset, .unset, .unset, .unset, .unset, .unset, .unset] [])
        refine Go.of (T' := T0) (g' := (mkF mM 23 #[.val (.int aa), .val (.int ab), .val (.int ac), .val (.int ad), .val (.int (1 : Int32)), .val (.int cc), .val (.int (0 : Int32)), .unset, .unset, .unset, .unset, .unset, .unset, .unset] [(.int (1 : Int32))])) (fun _ k => XS.iload X0.hh X0.hx rfl (hb hby at_21) rfl k) ?_
        refine Go.of (T' := T0) (g' := (mkF mM 24 #[.val (.int aa), .val (.int ab), .val (.int ac), .val (.int ad), .val (.int (1 : Int32)), .val (.int cc), .val (.int (0 : Int32)), .unset, .unset, .unset, .unset, .unset, .unset, .unset] [(.int (3 : Int32)), (.int (1 : Int32))])) (fun _ k => XS.iconst X0.hh X0.hx rfl (hb hby at_23) k) ?_
        refine Go.of (T' := T0) (g' := (mkF mM 101 #[.val (.int aa), .val (.int ab), .val (.int ac), .val (.int ad), .val (.int (1 : Int32)), .val (.int cc), .val (.int (0 : Int32)), .unset, .unset, .unset, .unset, .unset, .unset, .unset] [])) (fun _ k => XS.icmpYes X0.hh X0.hx rfl (pc0 := 24) (pc' := 101) rfl (hb hby at_24) rfl (feq (by decide)).2 (by decide) (by decide) k) ?_
        refine Go.of (T' := T0) (g' := (mkF mM 103 #[.val (.int aa), .val (.int ab), .val (.int ac), .val (.int ad), .val (.int (1 : Int32)), .val (.int cc), .val (.int (0 : Int32)), .unset, .unset, .unset, .unset, .unset, .unset, .unset] [(.int (1 : Int32))])) (fun _ k => XS.iload X0.hh X0.hx rfl (hb hby at_101) rfl k) ?_
        refine Go.of (T' := T0) (g' := (mkF mM 111 #[.val (.int aa), .val (.int ab), .val (.int ac), .val (.int ad), .val (.int (1 : Int32)), .val (.int cc), .val (.int (0 : Int32)), .unset, .unset, .unset, .unset, .unset, .unset, .unset] [])) (fun _ k => XS.ifYes X0.hh X0.hx rfl (pc0 := 103) (pc' := 111) rfl (hb hby at_103) rfl ((if0 _ _).trans (feq (by decide)).2) (by decide) (by decide) k) ?_
        refine Go.of (T' := T0) (g' := (mkF mM 113 #[.val (.int aa), .val (.int ab), .val (.int ac), .val (.int ad), .val (.int (1 : Int32)), .val (.int cc), .val (.int (0 : Int32)), .unset, .unset, .unset, .unset, .unset, .unset, .unset] [(.int (1 : Int32))])) (fun _ k => XS.iload X0.hh X0.hx rfl (hb hby at_111) rfl k) ?_
        refine Go.of (T' := T0) (g' := (mkF mM 114 #[.val (.int aa), .val (.int ab), .val (.int ac), .val (.int ad), .val (.int (1 : Int32)), .val (.int cc), .val (.int (0 : Int32)), .unset, .unset, .unset, .unset, .unset, .unset, .unset] [(.int (1 : Int32)), (.int (1 : Int32))])) (fun _ k => XS.iconst X0.hh X0.hx rfl (hb hby at_113) k) ?_
        refine Go.of (T' := T0) (g' := (mkF mM 117 #[.val (.int aa), .val (.int ab), .val (.int ac), .val (.int ad), .val (.int (1 : Int32)), .val (.int cc), .val (.int (0 : Int32)), .unset, .unset, .unset, .unset, .unset, .unset, .unset] [])) (fun _ k => XS.icmpNo X0.hh X0.hx rfl (hb hby at_114) rfl (teq (by decide)).2 k) ?_
        refine X0.ldcR (n := 24) (z := Int32.ofNat ([45, 45, 115, 97, 108, 116] : List Int32).length) (vs := (([45, 45, 115, 97, 108, 116] : List Int32).map fun c => c.toInt8.toInt32).map Value.int) (hw _ (List.mem_of_getElem? (i := 109) rfl)) hwS (by decide +kernel) (by decide +kernel) (by decide +kernel) (by decide +kernel) (hb hby at_117) (by decide +kernel) (by decide) (by decide) (by decide) ?_
        intro T23 h23 q t_q kb_q X23 E23 A_q C_q V_q B_q N_q
        have z23 : h0.size ≤ h23.size := E23.1
        have l_q : q < h23.size := A_q.lt
        have lt_q : t_q < h23.size := B_q.lt
        have St_q : Str Z h23 q t_q kb_q [45, 45, 115, 97, 108, 116] := ⟨A_q, V_q, C_q, B_q, by decide, by decide⟩
        show Go pP eE bB _ T23 (mkF mM 119 #[.val (.int aa), .val (.int ab), .val (.int ac), .val (.int ad), .val (.int (1 : Int32)), .val (.int cc), .val (.int (0 : Int32)), .unset, .unset, .unset, .unset, .unset, .unset, .unset] [(.ref q)])
        refine Go.of (T' := T23) (g' := (mkF mM 124 #[.val (.int aa), .val (.int ab), .val (.int ac), .val (.int ad), .val (.int (1 : Int32)), .val (.int cc), .val (.int (0 : Int32)), .unset, .unset, .unset, .unset, .unset, .unset, .unset] [(.ref q)])) (fun _ k => XS.goto X23.hh X23.hx rfl (pc0 := 119) (pc' := 124) rfl (hb hby at_119) (by decide) (by decide) k) ?_
        refine Go.of (T' := T23) (g' := (mkF mM 126 #[.val (.int aa), .val (.int ab), .val (.int ac), .val (.int ad), .val (.int (1 : Int32)), .val (.int cc), .val (.int (0 : Int32)), .unset, .unset, .val (.ref q), .unset, .unset, .unset, .unset] [])) (fun _ k => XS.astore X23.hh X23.hx rfl (hb hby at_124) rfl rfl (l' := #[.val (.int aa), .val (.int ab), .val (.int ac), .val (.int ad), .val (.int (1 : Int32)), .val (.int cc), .val (.int (0 : Int32)), .unset, .unset, .val (.ref q), .unset, .unset, .unset, .unset]) rfl k) ?_
        refine Go.of (T' := T23) (g' := (mkF mM 128 #[.val (.int aa), .val (.int ab), .val (.int ac), .val (.int ad), .val (.int (1 : Int32)), .val (.int cc), .val (.int (0 : Int32)), .unset, .unset, .val (.ref q), .unset, .unset, .unset, .unset] [(.int (1 : Int32))])) (fun _ k => XS.iload X23.hh X23.hx rfl (hb hby at_126) rfl k) ?_
        refine Go.of (T' := T23) (g' := (mkF mM 137 #[.val (.int aa), .val (.int ab), .val (.int ac), .val (.int ad), .val (.int (1 : Int32)), .val (.int cc), .val (.int (0 : Int32)), .unset, .unset, .val (.ref q), .unset, .unset, .unset, .unset] [])) (fun _ k => XS.ifYes X23.hh X23.hx rfl (pc0 := 128) (pc' := 137) rfl (hb hby at_128) rfl ((if0 _ _).trans (feq (by decide)).2) (by decide) (by decide) k) ?_
        refine Go.of (T' := T23) (g' := (mkF mM 139 #[.val (.int aa), .val (.int ab), .val (.int ac), .val (.int ad), .val (.int (1 : Int32)), .val (.int cc), .val (.int (0 : Int32)), .unset, .unset, .val (.ref q), .unset, .unset, .unset, .unset] [(.int (1 : Int32))])) (fun _ k => XS.iload X23.hh X23.hx rfl (hb hby at_137) rfl k) ?_
        refine Go.of (T' := T23) (g' := (mkF mM 140 #[.val (.int aa), .val (.int ab), .val (.int ac), .val (.int ad), .val (.int (1 : Int32)), .val (.int cc), .val (.int (0 : Int32)), .unset, .unset, .val (.ref q), .unset, .unset, .unset, .unset] [(.int (1 : Int32)), (.int (1 : Int32))])) (fun _ k => XS.iconst X23.hh X23.hx rfl (hb hby at_139) k) ?_
        refine Go.of (T' := T23) (g' := (mkF mM 143 #[.val (.int aa), .val (.int ab), .val (.int ac), .val (.int ad), .val (.int (1 : Int32)), .val (.int cc), .val (.int (0 : Int32)), .unset, .unset, .val (.ref q), .unset, .unset, .unset, .unset] [])) (fun _ k => XS.icmpNo X23.hh X23.hx rfl (hb hby at_140) rfl (teq (by decide)).2 k) ?_
        refine X23.getS (host := "") (Or.inl (hw _ (List.mem_of_getElem? (i := 110) rfl))) Via.refl (Ss.ext X23.ext0) (hb hby at_143) ?_
        intro T24 X24
        show Go pP eE bB _ T24 (mkF mM 146 #[.val (.int aa), .val (.int ab), .val (.int ac), .val (.int ad), .val (.int (1 : Int32)), .val (.int cc), .val (.int (0 : Int32)), .unset, .unset, .val (.ref q), .unset, .unset, .unset, .unset] [(.ref o1)])
        refine Go.of (T' := T24) (g' := (mkF mM 152 #[.val (.int aa), .val (.int ab), .val (.int ac), .val (.int ad), .val (.int (1 : Int32)), .val (.int cc), .val (.int (0 : Int32)), .unset, .unset, .val (.ref q), .unset, .unset, .unset, .unset] [(.ref o1)])) (fun _ k => XS.goto X24.hh X24.hx rfl (pc0 := 146) (pc' := 152) rfl (hb hby at_146) (by decide) (by decide) k) ?_
        refine Go.of (T' := T24) (g' := (mkF mM 154 #[.val (.int aa), .val (.int ab), .val (.int ac), .val (.int ad), .val (.int (1 : Int32)), .val (.int cc), .val (.int (0 : Int32)), .unset, .unset, .val (.ref q), .val (.ref o1), .unset, .unset, .unset] [])) (fun _ k => XS.astore X24.hh X24.hx rfl (hb hby at_152) rfl rfl (l' := #[.val (.int aa), .val (.int ab), .val (.int ac), .val (.int ad), .val (.int (1 : Int32)), .val (.int cc), .val (.int (0 : Int32)), .unset, .unset, .val (.ref q), .val (.ref o1), .unset, .unset, .unset]) rfl k) ?_
        refine Go.of (T' := T24) (g' := (mkF mM 156 #[.val (.int aa), .val (.int ab), .val (.int ac), .val (.int ad), .val (.int (1 : Int32)), .val (.int cc), .val (.int (0 : Int32)), .unset, .unset, .val (.ref q), .val (.ref o1), .unset, .unset, .unset] [(.ref q)])) (fun _ k => XS.aload X24.hh X24.hx rfl (hb hby at_154) rfl rfl k) ?_
        have Sq : Str Z h23 q t_q kb_q W1 := St_q
        refine X24.callVN (W := 0) (argsL := []) (rest := []) (nc := 0) (ns := 0) (ws' := []) (Qn := fun v h' L => v = some (.int (Int32.ofNat W1.length)) ∧ L = [] ∧ h' = h23) (a := q) (C := "java/lang/String") (z := (⟨"java/lang/String", "length", "()I"⟩ : MethodName)) (hw _ (List.mem_of_getElem? (i := 12) rfl)) (hw _ (List.mem_of_getElem? (i := 13) rfl)) (fun _ q => notFace_of_selects (args := #[]) (mvT q (hw _ (List.mem_of_getElem? (i := 15) rfl)))) (hw _ (List.mem_of_getElem? (i := 15) rfl)) (hw _ (List.mem_of_getElem? (i := 14) rfl)) (by decide) (fun vm0 hZ => StrChars.Road.lenW (s := sS.setVm vm0) (W := 0) hZ hln (kI := 4) (hw _ (List.mem_of_getElem? (i := 3) rfl)) Sq.1 Sq.2.1 Sq.2.2.1 Sq.2.2.2.1 (StrChars.Road.codOf rfl fun c hc => (Sq.2.2.2.2.1 c hc).2) Sq.up (Sc.ext X24.ext0) hzc Sq.2.2.2.2.2 (by decide) (by decide)) (fun v h' L q => by obtain ⟨-, rfl, rfl⟩ := q; exact ⟨Fr.nil _, Keep.refl _ _⟩) Sq.1 pd_6 rfl rfl rfl (by rw [hml]; rfl) (by decide) (by decide) (hb hby at_156) all0 all0 all0 ?_
        intro v25 T25 h25 X25 K25 Q25
        obtain ⟨_, rfl, -, e25⟩ := Q25
        rw [e25] at X25
        show Go pP eE bB _ T25 (mkF mM 159 #[.val (.int aa), .val (.int ab), .val (.int ac), .val (.int ad), .val (.int (1 : Int32)), .val (.int cc), .val (.int (0 : Int32)), .unset, .unset, .val (.ref q), .val (.ref o1), .unset, .unset, .unset] [(.int (Int32.ofNat W1.length))])
        refine Go.of (T' := T25) (g' := (mkF mM 161 #[.val (.int aa), .val (.int ab), .val (.int ac), .val (.int ad), .val (.int (1 : Int32)), .val (.int cc), .val (.int (0 : Int32)), .unset, .unset, .val (.ref q), .val (.ref o1), .val (.int (Int32.ofNat W1.length)), .unset, .unset] [])) (fun _ k => XS.istore X25.hh X25.hx rfl (hb hby at_159) rfl (l' := #[.val (.int aa), .val (.int ab), .val (.int ac), .val (.int ad), .val (.int (1 : Int32)), .val (.int cc), .val (.int (0 : Int32)), .unset, .unset, .val (.ref q), .val (.ref o1), .val (.int (Int32.ofNat W1.length)), .unset, .unset]) rfl k) ?_
        refine Go.of (T' := T25) (g' := (mkF mM 163 #[.val (.int aa), .val (.int ab), .val (.int ac), .val (.int ad), .val (.int (1 : Int32)), .val (.int cc), .val (.int (0 : Int32)), .unset, .unset, .val (.ref q), .val (.ref o1), .val (.int (Int32.ofNat W1.length)), .unset, .unset] [(.int (0 : Int32))])) (fun _ k => XS.iload X25.hh X25.hx rfl (hb hby at_161) rfl k) ?_
        refine Go.of (T' := T25) (g' := (mkF mM 166 #[.val (.int aa), .val (.int ab), .val (.int ac), .val (.int ad), .val (.int (1 : Int32)), .val (.int cc), .val (.int (0 : Int32)), .unset, .unset, .val (.ref q), .val (.ref o1), .val (.int (Int32.ofNat W1.length)), .unset, .unset] [])) (fun _ k => XS.ifNo X25.hh X25.hx rfl (hb hby at_163) rfl ((if0 _ _).trans (teq (by decide)).2) k) ?_
        refine Go.of (T' := T25) (g' := (mkF mM 168 #[.val (.int aa), .val (.int ab), .val (.int ac), .val (.int ad), .val (.int (1 : Int32)), .val (.int cc), .val (.int (0 : Int32)), .unset, .unset, .val (.ref q), .val (.ref o1), .val (.int (Int32.ofNat W1.length)), .unset, .unset] [(.ref q)])) (fun _ k => XS.aload X25.hh X25.hx rfl (hb hby at_166) rfl rfl k) ?_
        refine Go.of (T' := T25) (g' := (mkF mM 170 #[.val (.int aa), .val (.int ab), .val (.int ac), .val (.int ad), .val (.int (1 : Int32)), .val (.int cc), .val (.int (0 : Int32)), .val (.ref q), .unset, .val (.ref q), .val (.ref o1), .val (.int (Int32.ofNat W1.length)), .unset, .unset] [])) (fun _ k => XS.astore X25.hh X25.hx rfl (hb hby at_168) rfl rfl (l' := #[.val (.int aa), .val (.int ab), .val (.int ac), .val (.int ad), .val (.int (1 : Int32)), .val (.int cc), .val (.int (0 : Int32)), .val (.ref q), .unset, .val (.ref q), .val (.ref o1), .val (.int (Int32.ofNat W1.length)), .unset, .unset]) rfl k) ?_
        refine Go.of (T' := T25) (g' := (mkF mM 172 #[.val (.int aa), .val (.int ab), .val (.int ac), .val (.int ad), .val (.int (1 : Int32)), .val (.int cc), .val (.int (0 : Int32)), .val (.ref q), .unset, .val (.ref q), .val (.ref o1), .val (.int (Int32.ofNat W1.length)), .unset, .unset] [(.ref o1)])) (fun _ k => XS.aload X25.hh X25.hx rfl (hb hby at_170) rfl rfl k) ?_
        refine Go.of (T' := T25) (g' := (mkF mM 174 #[.val (.int aa), .val (.int ab), .val (.int ac), .val (.int ad), .val (.int (1 : Int32)), .val (.int cc), .val (.int (0 : Int32)), .val (.ref q), .val (.ref o1), .val (.ref q), .val (.ref o1), .val (.int (Int32.ofNat W1.length)), .unset, .unset] [])) (fun _ k => XS.astore X25.hh X25.hx rfl (hb hby at_172) rfl rfl (l' := #[.val (.int aa), .val (.int ab), .val (.int ac), .val (.int ad), .val (.int (1 : Int32)), .val (.int cc), .val (.int (0 : Int32)), .val (.ref q), .val (.ref o1), .val (.ref q), .val (.ref o1), .val (.int (Int32.ofNat W1.length)), .unset, .unset]) rfl k) ?_
        refine Go.of (T' := T25) (g' := (mkF mM 296 #[.val (.int aa), .val (.int ab), .val (.int ac), .val (.int ad), .val (.int (1 : Int32)), .val (.int cc), .val (.int (0 : Int32)), .val (.ref q), .val (.ref o1), .val (.ref q), .val (.ref o1), .val (.int (Int32.ofNat W1.length)), .unset, .unset] [])) (fun _ k => XS.goto X25.hh X25.hx rfl (pc0 := 174) (pc' := 296) rfl (hb hby at_174) (by decide) (by decide) k) ?_
        exact fin _ _ _ _ _ _ _ _ _ _ _ _ _ _ _ _ _ (X25.mono (by decide) (by decide)) Sq rfl
      · show Go pP eE bB _ T0 (mkF mM 21 #[.val (.int aa), .val (.int ab), .val (.int ac), .val (.int ad), .val (.int (1 : Int32)), .val (.int cc), .val (.int (1 : Int32)), .unset, .unset, .unset, .unset, .unset, .unset, .unset] [])
        refine Go.of (T' := T0) (g' := (mkF mM 23 #[.val (.int aa), .val (.int ab), .val (.int ac), .val (.int ad), .val (.int (1 : Int32)), .val (.int cc), .val (.int (1 : Int32)), .unset, .unset, .unset, .unset, .unset, .unset, .unset] [(.int (1 : Int32))])) (fun _ k => XS.iload X0.hh X0.hx rfl (hb hby at_21) rfl k) ?_
        refine Go.of (T' := T0) (g' := (mkF mM 24 #[.val (.int aa), .val (.int ab), .val (.int ac), .val (.int ad), .val (.int (1 : Int32)), .val (.int cc), .val (.int (1 : Int32)), .unset, .unset, .unset, .unset, .unset, .unset, .unset] [(.int (3 : Int32)), (.int (1 : Int32))])) (fun _ k => XS.iconst X0.hh X0.hx rfl (hb hby at_23) k) ?_
        refine Go.of (T' := T0) (g' := (mkF mM 101 #[.val (.int aa), .val (.int ab), .val (.int ac), .val (.int ad), .val (.int (1 : Int32)), .val (.int cc), .val (.int (1 : Int32)), .unset, .unset, .unset, .unset, .unset, .unset, .unset] [])) (fun _ k => XS.icmpYes X0.hh X0.hx rfl (pc0 := 24) (pc' := 101) rfl (hb hby at_24) rfl (feq (by decide)).2 (by decide) (by decide) k) ?_
        refine Go.of (T' := T0) (g' := (mkF mM 103 #[.val (.int aa), .val (.int ab), .val (.int ac), .val (.int ad), .val (.int (1 : Int32)), .val (.int cc), .val (.int (1 : Int32)), .unset, .unset, .unset, .unset, .unset, .unset, .unset] [(.int (1 : Int32))])) (fun _ k => XS.iload X0.hh X0.hx rfl (hb hby at_101) rfl k) ?_
        refine Go.of (T' := T0) (g' := (mkF mM 111 #[.val (.int aa), .val (.int ab), .val (.int ac), .val (.int ad), .val (.int (1 : Int32)), .val (.int cc), .val (.int (1 : Int32)), .unset, .unset, .unset, .unset, .unset, .unset, .unset] [])) (fun _ k => XS.ifYes X0.hh X0.hx rfl (pc0 := 103) (pc' := 111) rfl (hb hby at_103) rfl ((if0 _ _).trans (feq (by decide)).2) (by decide) (by decide) k) ?_
        refine Go.of (T' := T0) (g' := (mkF mM 113 #[.val (.int aa), .val (.int ab), .val (.int ac), .val (.int ad), .val (.int (1 : Int32)), .val (.int cc), .val (.int (1 : Int32)), .unset, .unset, .unset, .unset, .unset, .unset, .unset] [(.int (1 : Int32))])) (fun _ k => XS.iload X0.hh X0.hx rfl (hb hby at_111) rfl k) ?_
        refine Go.of (T' := T0) (g' := (mkF mM 114 #[.val (.int aa), .val (.int ab), .val (.int ac), .val (.int ad), .val (.int (1 : Int32)), .val (.int cc), .val (.int (1 : Int32)), .unset, .unset, .unset, .unset, .unset, .unset, .unset] [(.int (1 : Int32)), (.int (1 : Int32))])) (fun _ k => XS.iconst X0.hh X0.hx rfl (hb hby at_113) k) ?_
        refine Go.of (T' := T0) (g' := (mkF mM 117 #[.val (.int aa), .val (.int ab), .val (.int ac), .val (.int ad), .val (.int (1 : Int32)), .val (.int cc), .val (.int (1 : Int32)), .unset, .unset, .unset, .unset, .unset, .unset, .unset] [])) (fun _ k => XS.icmpNo X0.hh X0.hx rfl (hb hby at_114) rfl (teq (by decide)).2 k) ?_
        refine X0.ldcR (n := 24) (z := Int32.ofNat ([45, 45, 115, 97, 108, 116] : List Int32).length) (vs := (([45, 45, 115, 97, 108, 116] : List Int32).map fun c => c.toInt8.toInt32).map Value.int) (hw _ (List.mem_of_getElem? (i := 109) rfl)) hwS (by decide +kernel) (by decide +kernel) (by decide +kernel) (by decide +kernel) (hb hby at_117) (by decide +kernel) (by decide) (by decide) (by decide) ?_
        intro T26 h26 q t_q kb_q X26 E26 A_q C_q V_q B_q N_q
        have z26 : h0.size ≤ h26.size := E26.1
        have l_q : q < h26.size := A_q.lt
        have lt_q : t_q < h26.size := B_q.lt
        have St_q : Str Z h26 q t_q kb_q [45, 45, 115, 97, 108, 116] := ⟨A_q, V_q, C_q, B_q, by decide, by decide⟩
        show Go pP eE bB _ T26 (mkF mM 119 #[.val (.int aa), .val (.int ab), .val (.int ac), .val (.int ad), .val (.int (1 : Int32)), .val (.int cc), .val (.int (1 : Int32)), .unset, .unset, .unset, .unset, .unset, .unset, .unset] [(.ref q)])
        refine Go.of (T' := T26) (g' := (mkF mM 124 #[.val (.int aa), .val (.int ab), .val (.int ac), .val (.int ad), .val (.int (1 : Int32)), .val (.int cc), .val (.int (1 : Int32)), .unset, .unset, .unset, .unset, .unset, .unset, .unset] [(.ref q)])) (fun _ k => XS.goto X26.hh X26.hx rfl (pc0 := 119) (pc' := 124) rfl (hb hby at_119) (by decide) (by decide) k) ?_
        refine Go.of (T' := T26) (g' := (mkF mM 126 #[.val (.int aa), .val (.int ab), .val (.int ac), .val (.int ad), .val (.int (1 : Int32)), .val (.int cc), .val (.int (1 : Int32)), .unset, .unset, .val (.ref q), .unset, .unset, .unset, .unset] [])) (fun _ k => XS.astore X26.hh X26.hx rfl (hb hby at_124) rfl rfl (l' := #[.val (.int aa), .val (.int ab), .val (.int ac), .val (.int ad), .val (.int (1 : Int32)), .val (.int cc), .val (.int (1 : Int32)), .unset, .unset, .val (.ref q), .unset, .unset, .unset, .unset]) rfl k) ?_
        refine Go.of (T' := T26) (g' := (mkF mM 128 #[.val (.int aa), .val (.int ab), .val (.int ac), .val (.int ad), .val (.int (1 : Int32)), .val (.int cc), .val (.int (1 : Int32)), .unset, .unset, .val (.ref q), .unset, .unset, .unset, .unset] [(.int (1 : Int32))])) (fun _ k => XS.iload X26.hh X26.hx rfl (hb hby at_126) rfl k) ?_
        refine Go.of (T' := T26) (g' := (mkF mM 137 #[.val (.int aa), .val (.int ab), .val (.int ac), .val (.int ad), .val (.int (1 : Int32)), .val (.int cc), .val (.int (1 : Int32)), .unset, .unset, .val (.ref q), .unset, .unset, .unset, .unset] [])) (fun _ k => XS.ifYes X26.hh X26.hx rfl (pc0 := 128) (pc' := 137) rfl (hb hby at_128) rfl ((if0 _ _).trans (feq (by decide)).2) (by decide) (by decide) k) ?_
        refine Go.of (T' := T26) (g' := (mkF mM 139 #[.val (.int aa), .val (.int ab), .val (.int ac), .val (.int ad), .val (.int (1 : Int32)), .val (.int cc), .val (.int (1 : Int32)), .unset, .unset, .val (.ref q), .unset, .unset, .unset, .unset] [(.int (1 : Int32))])) (fun _ k => XS.iload X26.hh X26.hx rfl (hb hby at_137) rfl k) ?_
        refine Go.of (T' := T26) (g' := (mkF mM 140 #[.val (.int aa), .val (.int ab), .val (.int ac), .val (.int ad), .val (.int (1 : Int32)), .val (.int cc), .val (.int (1 : Int32)), .unset, .unset, .val (.ref q), .unset, .unset, .unset, .unset] [(.int (1 : Int32)), (.int (1 : Int32))])) (fun _ k => XS.iconst X26.hh X26.hx rfl (hb hby at_139) k) ?_
        refine Go.of (T' := T26) (g' := (mkF mM 143 #[.val (.int aa), .val (.int ab), .val (.int ac), .val (.int ad), .val (.int (1 : Int32)), .val (.int cc), .val (.int (1 : Int32)), .unset, .unset, .val (.ref q), .unset, .unset, .unset, .unset] [])) (fun _ k => XS.icmpNo X26.hh X26.hx rfl (hb hby at_140) rfl (teq (by decide)).2 k) ?_
        refine X26.getS (host := "") (Or.inl (hw _ (List.mem_of_getElem? (i := 110) rfl))) Via.refl (Ss.ext X26.ext0) (hb hby at_143) ?_
        intro T27 X27
        show Go pP eE bB _ T27 (mkF mM 146 #[.val (.int aa), .val (.int ab), .val (.int ac), .val (.int ad), .val (.int (1 : Int32)), .val (.int cc), .val (.int (1 : Int32)), .unset, .unset, .val (.ref q), .unset, .unset, .unset, .unset] [(.ref o1)])
        refine Go.of (T' := T27) (g' := (mkF mM 152 #[.val (.int aa), .val (.int ab), .val (.int ac), .val (.int ad), .val (.int (1 : Int32)), .val (.int cc), .val (.int (1 : Int32)), .unset, .unset, .val (.ref q), .unset, .unset, .unset, .unset] [(.ref o1)])) (fun _ k => XS.goto X27.hh X27.hx rfl (pc0 := 146) (pc' := 152) rfl (hb hby at_146) (by decide) (by decide) k) ?_
        refine Go.of (T' := T27) (g' := (mkF mM 154 #[.val (.int aa), .val (.int ab), .val (.int ac), .val (.int ad), .val (.int (1 : Int32)), .val (.int cc), .val (.int (1 : Int32)), .unset, .unset, .val (.ref q), .val (.ref o1), .unset, .unset, .unset] [])) (fun _ k => XS.astore X27.hh X27.hx rfl (hb hby at_152) rfl rfl (l' := #[.val (.int aa), .val (.int ab), .val (.int ac), .val (.int ad), .val (.int (1 : Int32)), .val (.int cc), .val (.int (1 : Int32)), .unset, .unset, .val (.ref q), .val (.ref o1), .unset, .unset, .unset]) rfl k) ?_
        refine Go.of (T' := T27) (g' := (mkF mM 156 #[.val (.int aa), .val (.int ab), .val (.int ac), .val (.int ad), .val (.int (1 : Int32)), .val (.int cc), .val (.int (1 : Int32)), .unset, .unset, .val (.ref q), .val (.ref o1), .unset, .unset, .unset] [(.ref q)])) (fun _ k => XS.aload X27.hh X27.hx rfl (hb hby at_154) rfl rfl k) ?_
        have Sq : Str Z h26 q t_q kb_q W1 := St_q
        refine X27.callVN (W := 0) (argsL := []) (rest := []) (nc := 0) (ns := 0) (ws' := []) (Qn := fun v h' L => v = some (.int (Int32.ofNat W1.length)) ∧ L = [] ∧ h' = h26) (a := q) (C := "java/lang/String") (z := (⟨"java/lang/String", "length", "()I"⟩ : MethodName)) (hw _ (List.mem_of_getElem? (i := 12) rfl)) (hw _ (List.mem_of_getElem? (i := 13) rfl)) (fun _ q => notFace_of_selects (args := #[]) (mvT q (hw _ (List.mem_of_getElem? (i := 15) rfl)))) (hw _ (List.mem_of_getElem? (i := 15) rfl)) (hw _ (List.mem_of_getElem? (i := 14) rfl)) (by decide) (fun vm0 hZ => StrChars.Road.lenW (s := sS.setVm vm0) (W := 0) hZ hln (kI := 4) (hw _ (List.mem_of_getElem? (i := 3) rfl)) Sq.1 Sq.2.1 Sq.2.2.1 Sq.2.2.2.1 (StrChars.Road.codOf rfl fun c hc => (Sq.2.2.2.2.1 c hc).2) Sq.up (Sc.ext X27.ext0) hzc Sq.2.2.2.2.2 (by decide) (by decide)) (fun v h' L q => by obtain ⟨-, rfl, rfl⟩ := q; exact ⟨Fr.nil _, Keep.refl _ _⟩) Sq.1 pd_6 rfl rfl rfl (by rw [hml]; rfl) (by decide) (by decide) (hb hby at_156) all0 all0 all0 ?_
        intro v28 T28 h28 X28 K28 Q28
        obtain ⟨_, rfl, -, e28⟩ := Q28
        rw [e28] at X28
        show Go pP eE bB _ T28 (mkF mM 159 #[.val (.int aa), .val (.int ab), .val (.int ac), .val (.int ad), .val (.int (1 : Int32)), .val (.int cc), .val (.int (1 : Int32)), .unset, .unset, .val (.ref q), .val (.ref o1), .unset, .unset, .unset] [(.int (Int32.ofNat W1.length))])
        refine Go.of (T' := T28) (g' := (mkF mM 161 #[.val (.int aa), .val (.int ab), .val (.int ac), .val (.int ad), .val (.int (1 : Int32)), .val (.int cc), .val (.int (1 : Int32)), .unset, .unset, .val (.ref q), .val (.ref o1), .val (.int (Int32.ofNat W1.length)), .unset, .unset] [])) (fun _ k => XS.istore X28.hh X28.hx rfl (hb hby at_159) rfl (l' := #[.val (.int aa), .val (.int ab), .val (.int ac), .val (.int ad), .val (.int (1 : Int32)), .val (.int cc), .val (.int (1 : Int32)), .unset, .unset, .val (.ref q), .val (.ref o1), .val (.int (Int32.ofNat W1.length)), .unset, .unset]) rfl k) ?_
        refine Go.of (T' := T28) (g' := (mkF mM 163 #[.val (.int aa), .val (.int ab), .val (.int ac), .val (.int ad), .val (.int (1 : Int32)), .val (.int cc), .val (.int (1 : Int32)), .unset, .unset, .val (.ref q), .val (.ref o1), .val (.int (Int32.ofNat W1.length)), .unset, .unset] [(.int (1 : Int32))])) (fun _ k => XS.iload X28.hh X28.hx rfl (hb hby at_161) rfl k) ?_
        refine Go.of (T' := T28) (g' := (mkF mM 177 #[.val (.int aa), .val (.int ab), .val (.int ac), .val (.int ad), .val (.int (1 : Int32)), .val (.int cc), .val (.int (1 : Int32)), .unset, .unset, .val (.ref q), .val (.ref o1), .val (.int (Int32.ofNat W1.length)), .unset, .unset] [])) (fun _ k => XS.ifYes X28.hh X28.hx rfl (pc0 := 163) (pc' := 177) rfl (hb hby at_163) rfl ((if0 _ _).trans (feq (by decide)).2) (by decide) (by decide) k) ?_
        refine Go.of (T' := T28) (g' := (mkF mM 179 #[.val (.int aa), .val (.int ab), .val (.int ac), .val (.int ad), .val (.int (1 : Int32)), .val (.int cc), .val (.int (1 : Int32)), .unset, .unset, .val (.ref q), .val (.ref o1), .val (.int (Int32.ofNat W1.length)), .unset, .unset] [(.int (1 : Int32))])) (fun _ k => XS.iload X28.hh X28.hx rfl (hb hby at_177) rfl k) ?_
        refine Go.of (T' := T28) (g' := (mkF mM 180 #[.val (.int aa), .val (.int ab), .val (.int ac), .val (.int ad), .val (.int (1 : Int32)), .val (.int cc), .val (.int (1 : Int32)), .unset, .unset, .val (.ref q), .val (.ref o1), .val (.int (Int32.ofNat W1.length)), .unset, .unset] [(.int (1 : Int32)), (.int (1 : Int32))])) (fun _ k => XS.iconst X28.hh X28.hx rfl (hb hby at_179) k) ?_
        refine Go.of (T' := T28) (g' := (mkF mM 183 #[.val (.int aa), .val (.int ab), .val (.int ac), .val (.int ad), .val (.int (1 : Int32)), .val (.int cc), .val (.int (1 : Int32)), .unset, .unset, .val (.ref q), .val (.ref o1), .val (.int (Int32.ofNat W1.length)), .unset, .unset] [])) (fun _ k => XS.icmpNo X28.hh X28.hx rfl (hb hby at_180) rfl (teq (by decide)).2 k) ?_
        refine Go.of (T' := T28) (g' := (mkF mM 184 #[.val (.int aa), .val (.int ab), .val (.int ac), .val (.int ad), .val (.int (1 : Int32)), .val (.int cc), .val (.int (1 : Int32)), .unset, .unset, .val (.ref q), .val (.ref o1), .val (.int (Int32.ofNat W1.length)), .unset, .unset] [(.int ab)])) (fun _ k => XS.iloadN X28.hh X28.hx rfl (hb hby at_183) rfl k) ?_
        refine X28.ldcI (hw _ (List.mem_of_getElem? (i := 0) rfl)) (hb hby at_184) ?_
        show Go pP eE bB _ T28 (mkF mM 186 #[.val (.int aa), .val (.int ab), .val (.int ac), .val (.int ad), .val (.int (1 : Int32)), .val (.int cc), .val (.int (1 : Int32)), .unset, .unset, .val (.ref q), .val (.ref o1), .val (.int (Int32.ofNat W1.length)), .unset, .unset] [(.int (2147483647 : Int32)), (.int ab)])
        refine Go.of (T' := T28) (g' := (mkF mM 187 #[.val (.int aa), .val (.int ab), .val (.int ac), .val (.int ad), .val (.int (1 : Int32)), .val (.int cc), .val (.int (1 : Int32)), .unset, .unset, .val (.ref q), .val (.ref o1), .val (.int (Int32.ofNat W1.length)), .unset, .unset] [(.int (ab &&& (2147483647 : Int32)))])) (fun _ k => XS.iand X28.hh X28.hx rfl (hb hby at_186) rfl k) ?_
        refine Go.of (T' := T28) (g' := (mkF mM 189 #[.val (.int aa), .val (.int ab), .val (.int ac), .val (.int ad), .val (.int (1 : Int32)), .val (.int cc), .val (.int (1 : Int32)), .unset, .unset, .val (.ref q), .val (.ref o1), .val (.int (Int32.ofNat W1.length)), .unset, .unset] [(.int (Int32.ofNat W1.length)), (.int (ab &&& (2147483647 : Int32)))])) (fun _ k => XS.iload X28.hh X28.hx rfl (hb hby at_187) rfl k) ?_
        refine X28.irem (hb hby at_189) (by decide) ?_
        show Go pP eE bB _ T28 (mkF mM 190 #[.val (.int aa), .val (.int ab), .val (.int ac), .val (.int ad), .val (.int (1 : Int32)), .val (.int cc), .val (.int (1 : Int32)), .unset, .unset, .val (.ref q), .val (.ref o1), .val (.int (Int32.ofNat W1.length)), .unset, .unset] [(.int ((ab &&& (2147483647 : Int32)) % (Int32.ofNat W1.length)))])
        obtain ⟨pn, hpn, hpe⟩ := remN (ab &&& (2147483647 : Int32)) (and_nn _ 2147483647 (by decide)).1 W1.length (by decide) (by decide)
        rw [hpe]
        show Go pP eE bB _ T28 (mkF mM 190 #[.val (.int aa), .val (.int ab), .val (.int ac), .val (.int ad), .val (.int (1 : Int32)), .val (.int cc), .val (.int (1 : Int32)), .unset, .unset, .val (.ref q), .val (.ref o1), .val (.int (Int32.ofNat W1.length)), .unset, .unset] [(.int (Int32.ofNat pn))])
        have hpn' : pn < 6 := hpn
        refine Go.of (T' := T28) (g' := (mkF mM 192 #[.val (.int aa), .val (.int ab), .val (.int ac), .val (.int ad), .val (.int (1 : Int32)), .val (.int cc), .val (.int (1 : Int32)), .unset, .unset, .val (.ref q), .val (.ref o1), .val (.int (Int32.ofNat W1.length)), .val (.int (Int32.ofNat pn)), .unset] [])) (fun _ k => XS.istore X28.hh X28.hx rfl (hb hby at_190) rfl (l' := #[.val (.int aa), .val (.int ab), .val (.int ac), .val (.int ad), .val (.int (1 : Int32)), .val (.int cc), .val (.int (1 : Int32)), .unset, .unset, .val (.ref q), .val (.ref o1), .val (.int (Int32.ofNat W1.length)), .val (.int (Int32.ofNat pn)), .unset]) rfl k) ?_
        refine Go.of (T' := T28) (g' := (mkF mM 194 #[.val (.int aa), .val (.int ab), .val (.int ac), .val (.int ad), .val (.int (1 : Int32)), .val (.int cc), .val (.int (1 : Int32)), .unset, .unset, .val (.ref q), .val (.ref o1), .val (.int (Int32.ofNat W1.length)), .val (.int (Int32.ofNat pn)), .unset] [(.int (1 : Int32))])) (fun _ k => XS.iload X28.hh X28.hx rfl (hb hby at_192) rfl k) ?_
        refine X28.callS (W := 0) (argsL := [(.int (1 : Int32))]) (rest := []) (hw _ (List.mem_of_getElem? (i := 25) rfl)) (hw _ (List.mem_of_getElem? (i := 26) rfl)) (hw _ (List.mem_of_getElem? (i := 27) rfl)) (hw _ (List.mem_of_getElem? (i := 28) rfl)) (by decide) (chars_1 l Z a0 G h26) pd_7 rfl rfl rfl (by rw [hml]; rfl) (by decide) (by decide) (by decide) (by decide) (hb hby at_194) all0 all0 ?_
        intro v29 T29 h29 S29 X29 K29 Q29
        obtain ⟨b, kc_b, rfl, gb, V_b⟩ := Q29
        have X29 := X29 [] all0
        have z29 : h26.size ≤ h29.size := K29.1
        show Go pP eE bB _ T29 (mkF mM 197 #[.val (.int aa), .val (.int ab), .val (.int ac), .val (.int ad), .val (.int (1 : Int32)), .val (.int cc), .val (.int (1 : Int32)), .unset, .unset, .val (.ref q), .val (.ref o1), .val (.int (Int32.ofNat W1.length)), .val (.int (Int32.ofNat pn)), .unset] [(.ref b)])
        have l_b : b < h29.size := V_b.lt
        refine Go.of (T' := T29) (g' := (mkF mM 199 #[.val (.int aa), .val (.int ab), .val (.int ac), .val (.int ad), .val (.int (1 : Int32)), .val (.int cc), .val (.int (1 : Int32)), .unset, .unset, .val (.ref q), .val (.ref o1), .val (.int (Int32.ofNat W1.length)), .val (.int (Int32.ofNat pn)), .val (.ref b)] [])) (fun _ k => XS.astore X29.hh X29.hx rfl (hb hby at_197) rfl rfl (l' := #[.val (.int aa), .val (.int ab), .val (.int ac), .val (.int ad), .val (.int (1 : Int32)), .val (.int cc), .val (.int (1 : Int32)), .unset, .unset, .val (.ref q), .val (.ref o1), .val (.int (Int32.ofNat W1.length)), .val (.int (Int32.ofNat pn)), .val (.ref b)]) rfl k) ?_
        refine Go.of (T' := T29) (g' := (mkF mM 201 #[.val (.int aa), .val (.int ab), .val (.int ac), .val (.int ad), .val (.int (1 : Int32)), .val (.int cc), .val (.int (1 : Int32)), .unset, .unset, .val (.ref q), .val (.ref o1), .val (.int (Int32.ofNat W1.length)), .val (.int (Int32.ofNat pn)), .val (.ref b)] [(.ref b)])) (fun _ k => XS.aload X29.hh X29.hx rfl (hb hby at_199) rfl rfl k) ?_
        refine Go.of (T' := T29) (g' := (mkF mM 203 #[.val (.int aa), .val (.int ab), .val (.int ac), .val (.int ad), .val (.int (1 : Int32)), .val (.int cc), .val (.int (1 : Int32)), .unset, .unset, .val (.ref q), .val (.ref o1), .val (.int (Int32.ofNat W1.length)), .val (.int (Int32.ofNat pn)), .val (.ref b)] [(.int (Int32.ofNat pn)), (.ref b)])) (fun _ k => XS.iload X29.hh X29.hx rfl (hb hby at_201) rfl k) ?_
        refine Go.of (T' := T29) (g' := (mkF mM 205 #[.val (.int aa), .val (.int ab), .val (.int ac), .val (.int ad), .val (.int (1 : Int32)), .val (.int cc), .val (.int (1 : Int32)), .unset, .unset, .val (.ref q), .val (.ref o1), .val (.int (Int32.ofNat W1.length)), .val (.int (Int32.ofNat pn)), .val (.ref b)] [(.int cc), (.int (Int32.ofNat pn)), (.ref b)])) (fun _ k => XS.iload X29.hh X29.hx rfl (hb hby at_203) rfl k) ?_
        refine X29.stC pn V_b ⟨fun q => absurd ((i32lt (i := pn) (n := 0) (by omega) (by omega)).mp q) (by omega), (i32lt (i := pn) (n := 6) (by omega) (by omega)).mpr hpn'⟩ (by show (Int32.ofNat pn).toInt.toNat = pn; rw [ofNat_toInt (by omega)]; omega) hpn' (by omega) (Or.inr (by omega)) (hb hby at_205) ?_
        intro T30 h30 X30 K30 V_b
        have z30 : h29.size ≤ h30.size := K30.1
        have V_b : Arv Z h30 b kc_b .char (6 : Int32) ((W1.set pn cc).map Value.int) (.int 0) := by
          rw [nar255 cc r2.1 r2.2] at V_b
          rw [List.map_set]
          exact V_b
        show Go pP eE bB _ T30 (mkF mM 206 #[.val (.int aa), .val (.int ab), .val (.int ac), .val (.int ad), .val (.int (1 : Int32)), .val (.int cc), .val (.int (1 : Int32)), .unset, .unset, .val (.ref q), .val (.ref o1), .val (.int (Int32.ofNat W1.length)), .val (.int (Int32.ofNat pn)), .val (.ref b)] [])
        refine X30.newO (hw _ (List.mem_of_getElem? (i := 30) rfl)) (hw _ (List.mem_of_getElem? (i := 3) rfl)) (hw _ (List.mem_of_getElem? (i := 2) rfl)) (hb hby at_206) (by decide) (by decide) ?_
        intro T31 h31 r g_r X31 E31 A_r D_r
        have z31 : h30.size ≤ h31.size := E31.1
        have l_r : r < h31.size := A_r.lt
        have F_value_r : Fld Z h31 r "java/lang/String" "value" "[B" .null := D_r (Or.inr (hw _ (List.mem_of_getElem? (i := 5) rfl))) (ty := (.array .byte)) (by decide)
        have F_coder_r : Fld Z h31 r "java/lang/String" "coder" "B" (.int (0 : Int32)) := D_r (Or.inr (hw _ (List.mem_of_getElem? (i := 6) rfl))) (ty := .byte) (by decide)
        show Go pP eE bB _ T31 (mkF mM 209 #[.val (.int aa), .val (.int ab), .val (.int ac), .val (.int ad), .val (.int (1 : Int32)), .val (.int cc), .val (.int (1 : Int32)), .unset, .unset, .val (.ref q), .val (.ref o1), .val (.int (Int32.ofNat W1.length)), .val (.int (Int32.ofNat pn)), .val (.ref b)] [(.ref r)])
        refine Go.of (T' := T31) (g' := (mkF mM 210 #[.val (.int aa), .val (.int ab), .val (.int ac), .val (.int ad), .val (.int (1 : Int32)), .val (.int cc), .val (.int (1 : Int32)), .unset, .unset, .val (.ref q), .val (.ref o1), .val (.int (Int32.ofNat W1.length)), .val (.int (Int32.ofNat pn)), .val (.ref b)] [(.ref r), (.ref r)])) (fun _ k => XS.dup X31.hh X31.hx rfl (hb hby at_209) rfl rfl k) ?_
        refine Go.of (T' := T31) (g' := (mkF mM 212 #[.val (.int aa), .val (.int ab), .val (.int ac), .val (.int ad), .val (.int (1 : Int32)), .val (.int cc), .val (.int (1 : Int32)), .unset, .unset, .val (.ref q), .val (.ref o1), .val (.int (Int32.ofNat W1.length)), .val (.int (Int32.ofNat pn)), .val (.ref b)] [(.ref b), (.ref r), (.ref r)])) (fun _ k => XS.aload X31.hh X31.hx rfl (hb hby at_210) rfl rfl k) ?_
        have hp := set_rng (k := pn) W1r r2
        have V_b := (V_b.ext E31)
        refine X31.callCN (W := 1) (argsL := [(.ref b)]) (rest := [(.ref r)]) (nc := 1) (ns := 6) (ws' := [r]) (a := r) rfl (hw _ (List.mem_of_getElem? (i := 31) rfl)) (hw _ (List.mem_of_getElem? (i := 32) rfl)) (hw _ (List.mem_of_getElem? (i := 33) rfl)) (by decide) (fun vm0 hZ => StrChars.Road.backV (s := sS.setVm vm0) (W := 1) hZ hws (kI := 4) (hw _ (List.mem_of_getElem? (i := 3) rfl)) (cs := (W1.set pn cc)) (bs := (W1.set pn cc).map (fun c => c.toInt8.toInt32)) (n := 6) (n0 := Z.heap.size) (by omega) (by omega) A_r F_value_r F_coder_r V_b (Sc.ext X31.ext0) hzc (by rw [List.length_set]; rfl) rfl (by decide) (by decide) hp rfl (by decide) (by decide)) (fun v h' L q => ⟨q.2.1, q.2.2.1⟩) pd_8 rfl rfl rfl (by rw [hml]; rfl) (by decide) (by decide) (hb hby at_212) (allS (by omega) all0) (allS (Or.inr (by omega)) all0) (allS (Sfe.mem (List.mem_of_getElem? (i := 0) rfl)) all0) ?_
        intro v32 T32 h32 X32 K32 Q32
        obtain ⟨_, ⟨rfl, -, -, A_r, C_r, t_r, kb_r, gt_r, gs_r, -, V_r, B_r⟩⟩ := Q32
        have z32 : h31.size ≤ h32.size := K32.1
        show Go pP eE bB _ T32 (mkF mM 215 #[.val (.int aa), .val (.int ab), .val (.int ac), .val (.int ad), .val (.int (1 : Int32)), .val (.int cc), .val (.int (1 : Int32)), .unset, .unset, .val (.ref q), .val (.ref o1), .val (.int (Int32.ofNat W1.length)), .val (.int (Int32.ofNat pn)), .val (.ref b)] [(.ref r)])
        have lt_r : t_r < h32.size := B_r.lt
        have St_r : Str Z h32 r t_r kb_r (W1.set pn cc) := ⟨A_r, V_r, C_r, by rw [List.length_set]; exact B_r, hp, by rw [List.length_set]; decide⟩
        refine Go.of (T' := T32) (g' := (mkF mM 217 #[.val (.int aa), .val (.int ab), .val (.int ac), .val (.int ad), .val (.int (1 : Int32)), .val (.int cc), .val (.int (1 : Int32)), .val (.ref r), .unset, .val (.ref q), .val (.ref o1), .val (.int (Int32.ofNat W1.length)), .val (.int (Int32.ofNat pn)), .val (.ref b)] [])) (fun _ k => XS.astore X32.hh X32.hx rfl (hb hby at_215) rfl rfl (l' := #[.val (.int aa), .val (.int ab), .val (.int ac), .val (.int ad), .val (.int (1 : Int32)), .val (.int cc), .val (.int (1 : Int32)), .val (.ref r), .unset, .val (.ref q), .val (.ref o1), .val (.int (Int32.ofNat W1.length)), .val (.int (Int32.ofNat pn)), .val (.ref b)]) rfl k) ?_
        refine Go.of (T' := T32) (g' := (mkF mM 219 #[.val (.int aa), .val (.int ab), .val (.int ac), .val (.int ad), .val (.int (1 : Int32)), .val (.int cc), .val (.int (1 : Int32)), .val (.ref r), .unset, .val (.ref q), .val (.ref o1), .val (.int (Int32.ofNat W1.length)), .val (.int (Int32.ofNat pn)), .val (.ref b)] [(.ref q)])) (fun _ k => XS.aload X32.hh X32.hx rfl (hb hby at_217) rfl rfl k) ?_
        refine Go.of (T' := T32) (g' := (mkF mM 221 #[.val (.int aa), .val (.int ab), .val (.int ac), .val (.int ad), .val (.int (1 : Int32)), .val (.int cc), .val (.int (1 : Int32)), .val (.ref r), .unset, .val (.ref q), .val (.ref o1), .val (.int (Int32.ofNat W1.length)), .val (.int (Int32.ofNat pn)), .val (.ref b)] [(.int (Int32.ofNat pn)), (.ref q)])) (fun _ k => XS.iload X32.hh X32.hx rfl (hb hby at_219) rfl k) ?_
        have Sq := ((((Sq.keep K29 nin0 nin0).keep K30 (ninN (by omega) nin0) (ninN (by omega) nin0)).ext E31).keep K32 (ninN (by omega) nin0) (ninN (by omega) nin0))
        refine X32.callVN (W := 0) (argsL := [(.int (Int32.ofNat pn))]) (rest := []) (nc := 0) (ns := 0) (ws' := []) (Qn := fun v h' L => v = some (.int (W1.getD pn 0)) ∧ L = [] ∧ h' = h32) (a := q) (C := "java/lang/String") (z := (⟨"java/lang/String", "charAt", "(I)C"⟩ : MethodName)) (hw _ (List.mem_of_getElem? (i := 51) rfl)) (hw _ (List.mem_of_getElem? (i := 52) rfl)) (fun _ q => notFace_of_selects (args := #[]) (mvT q (hw _ (List.mem_of_getElem? (i := 54) rfl)))) (hw _ (List.mem_of_getElem? (i := 54) rfl)) (hw _ (List.mem_of_getElem? (i := 53) rfl)) (by decide) (fun vm0 hZ => StrChars.Road.chN (s := sS.setVm vm0) (W := 0) hZ hch (kI := 4) (hw _ (List.mem_of_getElem? (i := 3) rfl)) Sq.1 Sq.2.1 Sq.2.2.1 Sq.2.2.2.1 (StrChars.Road.codOf rfl fun c hc => (Sq.2.2.2.2.1 c hc).2) Sq.up (Sc.ext X32.ext0) hzc (Sf.ext X32.ext0) rfm Sq.2.2.2.2.2 (i := pn) hpn (j := (Int32.ofNat pn)) rfl (by decide) (by decide)) (fun v h' L q => by obtain ⟨-, rfl, rfl⟩ := q; exact ⟨Fr.nil _, Keep.refl _ _⟩) Sq.1 pd_9 rfl rfl rfl (by rw [hml]; rfl) (by decide) (by decide) (hb hby at_221) all0 all0 all0 ?_
        intro v33 T33 h33 X33 K33 Q33
        obtain ⟨_, rfl, -, e33⟩ := Q33
        rw [e33] at X33
        show Go pP eE bB _ T33 (mkF mM 224 #[.val (.int aa), .val (.int ab), .val (.int ac), .val (.int ad), .val (.int (1 : Int32)), .val (.int cc), .val (.int (1 : Int32)), .val (.ref r), .unset, .val (.ref q), .val (.ref o1), .val (.int (Int32.ofNat W1.length)), .val (.int (Int32.ofNat pn)), .val (.ref b)] [(.int (W1.getD pn 0))])
        refine Go.of (T' := T33) (g' := (mkF mM 226 #[.val (.int aa), .val (.int ab), .val (.int ac), .val (.int ad), .val (.int (1 : Int32)), .val (.int cc), .val (.int (1 : Int32)), .val (.ref r), .unset, .val (.ref q), .val (.ref o1), .val (.int (Int32.ofNat W1.length)), .val (.int (Int32.ofNat pn)), .val (.ref b)] [(.int cc), (.int (W1.getD pn 0))])) (fun _ k => XS.iload X33.hh X33.hx rfl (hb hby at_224) rfl k) ?_
        have hss := set_same (c := cc) hpn
        by_cases hc226 : (W1.getD pn 0) = cc
        · refine Go.of (T' := T33) (g' := (mkF mM 229 #[.val (.int aa), .val (.int ab), .val (.int ac), .val (.int ad), .val (.int (1 : Int32)), .val (.int cc), .val (.int (1 : Int32)), .val (.ref r), .unset, .val (.ref q), .val (.ref o1), .val (.int (Int32.ofNat W1.length)), .val (.int (Int32.ofNat pn)), .val (.ref b)] [])) (fun _ k => XS.icmpNo X33.hh X33.hx rfl (hb hby at_226) rfl (teq hc226).2 k) ?_
          refine Go.of (T' := T33) (g' := (mkF mM 231 #[.val (.int aa), .val (.int ab), .val (.int ac), .val (.int ad), .val (.int (1 : Int32)), .val (.int cc), .val (.int (1 : Int32)), .val (.ref r), .unset, .val (.ref q), .val (.ref o1), .val (.int (Int32.ofNat W1.length)), .val (.int (Int32.ofNat pn)), .val (.ref b)] [(.ref o1)])) (fun _ k => XS.aload X33.hh X33.hx rfl (hb hby at_229) rfl rfl k) ?_
          refine Go.of (T' := T33) (g' := (mkF mM 235 #[.val (.int aa), .val (.int ab), .val (.int ac), .val (.int ad), .val (.int (1 : Int32)), .val (.int cc), .val (.int (1 : Int32)), .val (.ref r), .unset, .val (.ref q), .val (.ref o1), .val (.int (Int32.ofNat W1.length)), .val (.int (Int32.ofNat pn)), .val (.ref b)] [(.ref o1)])) (fun _ k => XS.goto X33.hh X33.hx rfl (pc0 := 231) (pc' := 235) rfl (hb hby at_231) (by decide) (by decide) k) ?_
          refine Go.of (T' := T33) (g' := (mkF mM 237 #[.val (.int aa), .val (.int ab), .val (.int ac), .val (.int ad), .val (.int (1 : Int32)), .val (.int cc), .val (.int (1 : Int32)), .val (.ref r), .val (.ref o1), .val (.ref q), .val (.ref o1), .val (.int (Int32.ofNat W1.length)), .val (.int (Int32.ofNat pn)), .val (.ref b)] [])) (fun _ k => XS.astore X33.hh X33.hx rfl (hb hby at_235) rfl rfl (l' := #[.val (.int aa), .val (.int ab), .val (.int ac), .val (.int ad), .val (.int (1 : Int32)), .val (.int cc), .val (.int (1 : Int32)), .val (.ref r), .val (.ref o1), .val (.ref q), .val (.ref o1), .val (.int (Int32.ofNat W1.length)), .val (.int (Int32.ofNat pn)), .val (.ref b)]) rfl k) ?_
          refine Go.of (T' := T33) (g' := (mkF mM 296 #[.val (.int aa), .val (.int ab), .val (.int ac), .val (.int ad), .val (.int (1 : Int32)), .val (.int cc), .val (.int (1 : Int32)), .val (.ref r), .val (.ref o1), .val (.ref q), .val (.ref o1), .val (.int (Int32.ofNat W1.length)), .val (.int (Int32.ofNat pn)), .val (.ref b)] [])) (fun _ k => XS.goto X33.hh X33.hx rfl (pc0 := 237) (pc' := 296) rfl (hb hby at_237) (by decide) (by decide) k) ?_
          exact fin _ _ _ _ _ _ _ _ _ _ _ _ _ _ _ _ _ (X33.mono (by decide) (by decide)) St_r (by rw [(pick_1 (by rw [List.length_set]; rfl)), if_pos (hss.mpr hc226)])
        · refine Go.of (T' := T33) (g' := (mkF mM 234 #[.val (.int aa), .val (.int ab), .val (.int ac), .val (.int ad), .val (.int (1 : Int32)), .val (.int cc), .val (.int (1 : Int32)), .val (.ref r), .unset, .val (.ref q), .val (.ref o1), .val (.int (Int32.ofNat W1.length)), .val (.int (Int32.ofNat pn)), .val (.ref b)] [])) (fun _ k => XS.icmpYes X33.hh X33.hx rfl (pc0 := 226) (pc' := 234) rfl (hb hby at_226) rfl (feq hc226).2 (by decide) (by decide) k) ?_
          refine Go.of (T' := T33) (g' := (mkF mM 235 #[.val (.int aa), .val (.int ab), .val (.int ac), .val (.int ad), .val (.int (1 : Int32)), .val (.int cc), .val (.int (1 : Int32)), .val (.ref r), .unset, .val (.ref q), .val (.ref o1), .val (.int (Int32.ofNat W1.length)), .val (.int (Int32.ofNat pn)), .val (.ref b)] [.null])) (fun _ k => XS.aconstNull X33.hh X33.hx rfl (hb hby at_234) k) ?_
          refine Go.of (T' := T33) (g' := (mkF mM 237 #[.val (.int aa), .val (.int ab), .val (.int ac), .val (.int ad), .val (.int (1 : Int32)), .val (.int cc), .val (.int (1 : Int32)), .val (.ref r), .val .null, .val (.ref q), .val (.ref o1), .val (.int (Int32.ofNat W1.length)), .val (.int (Int32.ofNat pn)), .val (.ref b)] [])) (fun _ k => XS.astore X33.hh X33.hx rfl (hb hby at_235) rfl rfl (l' := #[.val (.int aa), .val (.int ab), .val (.int ac), .val (.int ad), .val (.int (1 : Int32)), .val (.int cc), .val (.int (1 : Int32)), .val (.ref r), .val .null, .val (.ref q), .val (.ref o1), .val (.int (Int32.ofNat W1.length)), .val (.int (Int32.ofNat pn)), .val (.ref b)]) rfl k) ?_
          refine Go.of (T' := T33) (g' := (mkF mM 296 #[.val (.int aa), .val (.int ab), .val (.int ac), .val (.int ad), .val (.int (1 : Int32)), .val (.int cc), .val (.int (1 : Int32)), .val (.ref r), .val .null, .val (.ref q), .val (.ref o1), .val (.int (Int32.ofNat W1.length)), .val (.int (Int32.ofNat pn)), .val (.ref b)] [])) (fun _ k => XS.goto X33.hh X33.hx rfl (pc0 := 237) (pc' := 296) rfl (hb hby at_237) (by decide) (by decide) k) ?_
          exact fin _ _ _ _ _ _ _ _ _ _ _ _ _ _ _ _ _ (X33.mono (by decide) (by decide)) St_r (by rw [(pick_1 (by rw [List.length_set]; rfl)), if_neg fun q => hc226 (hss.mp q)])
      · show Go pP eE bB _ T0 (mkF mM 21 #[.val (.int aa), .val (.int ab), .val (.int ac), .val (.int ad), .val (.int (1 : Int32)), .val (.int cc), .val (.int (2 : Int32)), .unset, .unset, .unset, .unset, .unset, .unset, .unset] [])
        refine Go.of (T' := T0) (g' := (mkF mM 23 #[.val (.int aa), .val (.int ab), .val (.int ac), .val (.int ad), .val (.int (1 : Int32)), .val (.int cc), .val (.int (2 : Int32)), .unset, .unset, .unset, .unset, .unset, .unset, .unset] [(.int (1 : Int32))])) (fun _ k => XS.iload X0.hh X0.hx rfl (hb hby at_21) rfl k) ?_
        refine Go.of (T' := T0) (g' := (mkF mM 24 #[.val (.int aa), .val (.int ab), .val (.int ac), .val (.int ad), .val (.int (1 : Int32)), .val (.int cc), .val (.int (2 : Int32)), .unset, .unset, .unset, .unset, .unset, .unset, .unset] [(.int (3 : Int32)), (.int (1 : Int32))])) (fun _ k => XS.iconst X0.hh X0.hx rfl (hb hby at_23) k) ?_
        refine Go.of (T' := T0) (g' := (mkF mM 101 #[.val (.int aa), .val (.int ab), .val (.int ac), .val (.int ad), .val (.int (1 : Int32)), .val (.int cc), .val (.int (2 : Int32)), .unset, .unset, .unset, .unset, .unset, .unset, .unset] [])) (fun _ k => XS.icmpYes X0.hh X0.hx rfl (pc0 := 24) (pc' := 101) rfl (hb hby at_24) rfl (feq (by decide)).2 (by decide) (by decide) k) ?_
        refine Go.of (T' := T0) (g' := (mkF mM 103 #[.val (.int aa), .val (.int ab), .val (.int ac), .val (.int ad), .val (.int (1 : Int32)), .val (.int cc), .val (.int (2 : Int32)), .unset, .unset, .unset, .unset, .unset, .unset, .unset] [(.int (1 : Int32))])) (fun _ k => XS.iload X0.hh X0.hx rfl (hb hby at_101) rfl k) ?_
        refine Go.of (T' := T0) (g' := (mkF mM 111 #[.val (.int aa), .val (.int ab), .val (.int ac), .val (.int ad), .val (.int (1 : Int32)), .val (.int cc), .val (.int (2 : Int32)), .unset, .unset, .unset, .unset, .unset, .unset, .unset] [])) (fun _ k => XS.ifYes X0.hh X0.hx rfl (pc0 := 103) (pc' := 111) rfl (hb hby at_103) rfl ((if0 _ _).trans (feq (by decide)).2) (by decide) (by decide) k) ?_
        refine Go.of (T' := T0) (g' := (mkF mM 113 #[.val (.int aa), .val (.int ab), .val (.int ac), .val (.int ad), .val (.int (1 : Int32)), .val (.int cc), .val (.int (2 : Int32)), .unset, .unset, .unset, .unset, .unset, .unset, .unset] [(.int (1 : Int32))])) (fun _ k => XS.iload X0.hh X0.hx rfl (hb hby at_111) rfl k) ?_
        refine Go.of (T' := T0) (g' := (mkF mM 114 #[.val (.int aa), .val (.int ab), .val (.int ac), .val (.int ad), .val (.int (1 : Int32)), .val (.int cc), .val (.int (2 : Int32)), .unset, .unset, .unset, .unset, .unset, .unset, .unset] [(.int (1 : Int32)), (.int (1 : Int32))])) (fun _ k => XS.iconst X0.hh X0.hx rfl (hb hby at_113) k) ?_
        refine Go.of (T' := T0) (g' := (mkF mM 117 #[.val (.int aa), .val (.int ab), .val (.int ac), .val (.int ad), .val (.int (1 : Int32)), .val (.int cc), .val (.int (2 : Int32)), .unset, .unset, .unset, .unset, .unset, .unset, .unset] [])) (fun _ k => XS.icmpNo X0.hh X0.hx rfl (hb hby at_114) rfl (teq (by decide)).2 k) ?_
        refine X0.ldcR (n := 24) (z := Int32.ofNat ([45, 45, 115, 97, 108, 116] : List Int32).length) (vs := (([45, 45, 115, 97, 108, 116] : List Int32).map fun c => c.toInt8.toInt32).map Value.int) (hw _ (List.mem_of_getElem? (i := 109) rfl)) hwS (by decide +kernel) (by decide +kernel) (by decide +kernel) (by decide +kernel) (hb hby at_117) (by decide +kernel) (by decide) (by decide) (by decide) ?_
        intro T34 h34 q t_q kb_q X34 E34 A_q C_q V_q B_q N_q
        have z34 : h0.size ≤ h34.size := E34.1
        have l_q : q < h34.size := A_q.lt
        have lt_q : t_q < h34.size := B_q.lt
        have St_q : Str Z h34 q t_q kb_q [45, 45, 115, 97, 108, 116] := ⟨A_q, V_q, C_q, B_q, by decide, by decide⟩
        show Go pP eE bB _ T34 (mkF mM 119 #[.val (.int aa), .val (.int ab), .val (.int ac), .val (.int ad), .val (.int (1 : Int32)), .val (.int cc), .val (.int (2 : Int32)), .unset, .unset, .unset, .unset, .unset, .unset, .unset] [(.ref q)])
        refine Go.of (T' := T34) (g' := (mkF mM 124 #[.val (.int aa), .val (.int ab), .val (.int ac), .val (.int ad), .val (.int (1 : Int32)), .val (.int cc), .val (.int (2 : Int32)), .unset, .unset, .unset, .unset, .unset, .unset, .unset] [(.ref q)])) (fun _ k => XS.goto X34.hh X34.hx rfl (pc0 := 119) (pc' := 124) rfl (hb hby at_119) (by decide) (by decide) k) ?_
        refine Go.of (T' := T34) (g' := (mkF mM 126 #[.val (.int aa), .val (.int ab), .val (.int ac), .val (.int ad), .val (.int (1 : Int32)), .val (.int cc), .val (.int (2 : Int32)), .unset, .unset, .val (.ref q), .unset, .unset, .unset, .unset] [])) (fun _ k => XS.astore X34.hh X34.hx rfl (hb hby at_124) rfl rfl (l' := #[.val (.int aa), .val (.int ab), .val (.int ac), .val (.int ad), .val (.int (1 : Int32)), .val (.int cc), .val (.int (2 : Int32)), .unset, .unset, .val (.ref q), .unset, .unset, .unset, .unset]) rfl k) ?_
        refine Go.of (T' := T34) (g' := (mkF mM 128 #[.val (.int aa), .val (.int ab), .val (.int ac), .val (.int ad), .val (.int (1 : Int32)), .val (.int cc), .val (.int (2 : Int32)), .unset, .unset, .val (.ref q), .unset, .unset, .unset, .unset] [(.int (1 : Int32))])) (fun _ k => XS.iload X34.hh X34.hx rfl (hb hby at_126) rfl k) ?_
        refine Go.of (T' := T34) (g' := (mkF mM 137 #[.val (.int aa), .val (.int ab), .val (.int ac), .val (.int ad), .val (.int (1 : Int32)), .val (.int cc), .val (.int (2 : Int32)), .unset, .unset, .val (.ref q), .unset, .unset, .unset, .unset] [])) (fun _ k => XS.ifYes X34.hh X34.hx rfl (pc0 := 128) (pc' := 137) rfl (hb hby at_128) rfl ((if0 _ _).trans (feq (by decide)).2) (by decide) (by decide) k) ?_
        refine Go.of (T' := T34) (g' := (mkF mM 139 #[.val (.int aa), .val (.int ab), .val (.int ac), .val (.int ad), .val (.int (1 : Int32)), .val (.int cc), .val (.int (2 : Int32)), .unset, .unset, .val (.ref q), .unset, .unset, .unset, .unset] [(.int (1 : Int32))])) (fun _ k => XS.iload X34.hh X34.hx rfl (hb hby at_137) rfl k) ?_
        refine Go.of (T' := T34) (g' := (mkF mM 140 #[.val (.int aa), .val (.int ab), .val (.int ac), .val (.int ad), .val (.int (1 : Int32)), .val (.int cc), .val (.int (2 : Int32)), .unset, .unset, .val (.ref q), .unset, .unset, .unset, .unset] [(.int (1 : Int32)), (.int (1 : Int32))])) (fun _ k => XS.iconst X34.hh X34.hx rfl (hb hby at_139) k) ?_
        refine Go.of (T' := T34) (g' := (mkF mM 143 #[.val (.int aa), .val (.int ab), .val (.int ac), .val (.int ad), .val (.int (1 : Int32)), .val (.int cc), .val (.int (2 : Int32)), .unset, .unset, .val (.ref q), .unset, .unset, .unset, .unset] [])) (fun _ k => XS.icmpNo X34.hh X34.hx rfl (hb hby at_140) rfl (teq (by decide)).2 k) ?_
        refine X34.getS (host := "") (Or.inl (hw _ (List.mem_of_getElem? (i := 110) rfl))) Via.refl (Ss.ext X34.ext0) (hb hby at_143) ?_
        intro T35 X35
        show Go pP eE bB _ T35 (mkF mM 146 #[.val (.int aa), .val (.int ab), .val (.int ac), .val (.int ad), .val (.int (1 : Int32)), .val (.int cc), .val (.int (2 : Int32)), .unset, .unset, .val (.ref q), .unset, .unset, .unset, .unset] [(.ref o1)])
        refine Go.of (T' := T35) (g' := (mkF mM 152 #[.val (.int aa), .val (.int ab), .val (.int ac), .val (.int ad), .val (.int (1 : Int32)), .val (.int cc), .val (.int (2 : Int32)), .unset, .unset, .val (.ref q), .unset, .unset, .unset, .unset] [(.ref o1)])) (fun _ k => XS.goto X35.hh X35.hx rfl (pc0 := 146) (pc' := 152) rfl (hb hby at_146) (by decide) (by decide) k) ?_
        refine Go.of (T' := T35) (g' := (mkF mM 154 #[.val (.int aa), .val (.int ab), .val (.int ac), .val (.int ad), .val (.int (1 : Int32)), .val (.int cc), .val (.int (2 : Int32)), .unset, .unset, .val (.ref q), .val (.ref o1), .unset, .unset, .unset] [])) (fun _ k => XS.astore X35.hh X35.hx rfl (hb hby at_152) rfl rfl (l' := #[.val (.int aa), .val (.int ab), .val (.int ac), .val (.int ad), .val (.int (1 : Int32)), .val (.int cc), .val (.int (2 : Int32)), .unset, .unset, .val (.ref q), .val (.ref o1), .unset, .unset, .unset]) rfl k) ?_
        refine Go.of (T' := T35) (g' := (mkF mM 156 #[.val (.int aa), .val (.int ab), .val (.int ac), .val (.int ad), .val (.int (1 : Int32)), .val (.int cc), .val (.int (2 : Int32)), .unset, .unset, .val (.ref q), .val (.ref o1), .unset, .unset, .unset] [(.ref q)])) (fun _ k => XS.aload X35.hh X35.hx rfl (hb hby at_154) rfl rfl k) ?_
        have Sq : Str Z h34 q t_q kb_q W1 := St_q
        refine X35.callVN (W := 0) (argsL := []) (rest := []) (nc := 0) (ns := 0) (ws' := []) (Qn := fun v h' L => v = some (.int (Int32.ofNat W1.length)) ∧ L = [] ∧ h' = h34) (a := q) (C := "java/lang/String") (z := (⟨"java/lang/String", "length", "()I"⟩ : MethodName)) (hw _ (List.mem_of_getElem? (i := 12) rfl)) (hw _ (List.mem_of_getElem? (i := 13) rfl)) (fun _ q => notFace_of_selects (args := #[]) (mvT q (hw _ (List.mem_of_getElem? (i := 15) rfl)))) (hw _ (List.mem_of_getElem? (i := 15) rfl)) (hw _ (List.mem_of_getElem? (i := 14) rfl)) (by decide) (fun vm0 hZ => StrChars.Road.lenW (s := sS.setVm vm0) (W := 0) hZ hln (kI := 4) (hw _ (List.mem_of_getElem? (i := 3) rfl)) Sq.1 Sq.2.1 Sq.2.2.1 Sq.2.2.2.1 (StrChars.Road.codOf rfl fun c hc => (Sq.2.2.2.2.1 c hc).2) Sq.up (Sc.ext X35.ext0) hzc Sq.2.2.2.2.2 (by decide) (by decide)) (fun v h' L q => by obtain ⟨-, rfl, rfl⟩ := q; exact ⟨Fr.nil _, Keep.refl _ _⟩) Sq.1 pd_6 rfl rfl rfl (by rw [hml]; rfl) (by decide) (by decide) (hb hby at_156) all0 all0 all0 ?_
        intro v36 T36 h36 X36 K36 Q36
        obtain ⟨_, rfl, -, e36⟩ := Q36
        rw [e36] at X36
        show Go pP eE bB _ T36 (mkF mM 159 #[.val (.int aa), .val (.int ab), .val (.int ac), .val (.int ad), .val (.int (1 : Int32)), .val (.int cc), .val (.int (2 : Int32)), .unset, .unset, .val (.ref q), .val (.ref o1), .unset, .unset, .unset] [(.int (Int32.ofNat W1.length))])
        refine Go.of (T' := T36) (g' := (mkF mM 161 #[.val (.int aa), .val (.int ab), .val (.int ac), .val (.int ad), .val (.int (1 : Int32)), .val (.int cc), .val (.int (2 : Int32)), .unset, .unset, .val (.ref q), .val (.ref o1), .val (.int (Int32.ofNat W1.length)), .unset, .unset] [])) (fun _ k => XS.istore X36.hh X36.hx rfl (hb hby at_159) rfl (l' := #[.val (.int aa), .val (.int ab), .val (.int ac), .val (.int ad), .val (.int (1 : Int32)), .val (.int cc), .val (.int (2 : Int32)), .unset, .unset, .val (.ref q), .val (.ref o1), .val (.int (Int32.ofNat W1.length)), .unset, .unset]) rfl k) ?_
        refine Go.of (T' := T36) (g' := (mkF mM 163 #[.val (.int aa), .val (.int ab), .val (.int ac), .val (.int ad), .val (.int (1 : Int32)), .val (.int cc), .val (.int (2 : Int32)), .unset, .unset, .val (.ref q), .val (.ref o1), .val (.int (Int32.ofNat W1.length)), .unset, .unset] [(.int (2 : Int32))])) (fun _ k => XS.iload X36.hh X36.hx rfl (hb hby at_161) rfl k) ?_
        refine Go.of (T' := T36) (g' := (mkF mM 177 #[.val (.int aa), .val (.int ab), .val (.int ac), .val (.int ad), .val (.int (1 : Int32)), .val (.int cc), .val (.int (2 : Int32)), .unset, .unset, .val (.ref q), .val (.ref o1), .val (.int (Int32.ofNat W1.length)), .unset, .unset] [])) (fun _ k => XS.ifYes X36.hh X36.hx rfl (pc0 := 163) (pc' := 177) rfl (hb hby at_163) rfl ((if0 _ _).trans (feq (by decide)).2) (by decide) (by decide) k) ?_
        refine Go.of (T' := T36) (g' := (mkF mM 179 #[.val (.int aa), .val (.int ab), .val (.int ac), .val (.int ad), .val (.int (1 : Int32)), .val (.int cc), .val (.int (2 : Int32)), .unset, .unset, .val (.ref q), .val (.ref o1), .val (.int (Int32.ofNat W1.length)), .unset, .unset] [(.int (2 : Int32))])) (fun _ k => XS.iload X36.hh X36.hx rfl (hb hby at_177) rfl k) ?_
        refine Go.of (T' := T36) (g' := (mkF mM 180 #[.val (.int aa), .val (.int ab), .val (.int ac), .val (.int ad), .val (.int (1 : Int32)), .val (.int cc), .val (.int (2 : Int32)), .unset, .unset, .val (.ref q), .val (.ref o1), .val (.int (Int32.ofNat W1.length)), .unset, .unset] [(.int (1 : Int32)), (.int (2 : Int32))])) (fun _ k => XS.iconst X36.hh X36.hx rfl (hb hby at_179) k) ?_
        refine Go.of (T' := T36) (g' := (mkF mM 240 #[.val (.int aa), .val (.int ab), .val (.int ac), .val (.int ad), .val (.int (1 : Int32)), .val (.int cc), .val (.int (2 : Int32)), .unset, .unset, .val (.ref q), .val (.ref o1), .val (.int (Int32.ofNat W1.length)), .unset, .unset] [])) (fun _ k => XS.icmpYes X36.hh X36.hx rfl (pc0 := 180) (pc' := 240) rfl (hb hby at_180) rfl (feq (by decide)).2 (by decide) (by decide) k) ?_
        refine Go.of (T' := T36) (g' := (mkF mM 242 #[.val (.int aa), .val (.int ab), .val (.int ac), .val (.int ad), .val (.int (1 : Int32)), .val (.int cc), .val (.int (2 : Int32)), .unset, .unset, .val (.ref q), .val (.ref o1), .val (.int (Int32.ofNat W1.length)), .unset, .unset] [(.int (2 : Int32))])) (fun _ k => XS.iload X36.hh X36.hx rfl (hb hby at_240) rfl k) ?_
        refine Go.of (T' := T36) (g' := (mkF mM 243 #[.val (.int aa), .val (.int ab), .val (.int ac), .val (.int ad), .val (.int (1 : Int32)), .val (.int cc), .val (.int (2 : Int32)), .unset, .unset, .val (.ref q), .val (.ref o1), .val (.int (Int32.ofNat W1.length)), .unset, .unset] [(.int (2 : Int32)), (.int (2 : Int32))])) (fun _ k => XS.iconst X36.hh X36.hx rfl (hb hby at_242) k) ?_
        refine Go.of (T' := T36) (g' := (mkF mM 246 #[.val (.int aa), .val (.int ab), .val (.int ac), .val (.int ad), .val (.int (1 : Int32)), .val (.int cc), .val (.int (2 : Int32)), .unset, .unset, .val (.ref q), .val (.ref o1), .val (.int (Int32.ofNat W1.length)), .unset, .unset] [])) (fun _ k => XS.icmpNo X36.hh X36.hx rfl (hb hby at_243) rfl (teq (by decide)).2 k) ?_
        refine X36.newO (hw _ (List.mem_of_getElem? (i := 30) rfl)) (hw _ (List.mem_of_getElem? (i := 3) rfl)) (hw _ (List.mem_of_getElem? (i := 2) rfl)) (hb hby at_246) (by decide) (by decide) ?_
        intro T37 h37 r g_r X37 E37 A_r D_r
        have z37 : h34.size ≤ h37.size := E37.1
        have l_r : r < h37.size := A_r.lt
        have F_value_r : Fld Z h37 r "java/lang/String" "value" "[B" .null := D_r (Or.inr (hw _ (List.mem_of_getElem? (i := 5) rfl))) (ty := (.array .byte)) (by decide)
        have F_coder_r : Fld Z h37 r "java/lang/String" "coder" "B" (.int (0 : Int32)) := D_r (Or.inr (hw _ (List.mem_of_getElem? (i := 6) rfl))) (ty := .byte) (by decide)
        show Go pP eE bB _ T37 (mkF mM 249 #[.val (.int aa), .val (.int ab), .val (.int ac), .val (.int ad), .val (.int (1 : Int32)), .val (.int cc), .val (.int (2 : Int32)), .unset, .unset, .val (.ref q), .val (.ref o1), .val (.int (Int32.ofNat W1.length)), .unset, .unset] [(.ref r)])
        refine Go.of (T' := T37) (g' := (mkF mM 250 #[.val (.int aa), .val (.int ab), .val (.int ac), .val (.int ad), .val (.int (1 : Int32)), .val (.int cc), .val (.int (2 : Int32)), .unset, .unset, .val (.ref q), .val (.ref o1), .val (.int (Int32.ofNat W1.length)), .unset, .unset] [(.ref r), (.ref r)])) (fun _ k => XS.dup X37.hh X37.hx rfl (hb hby at_249) rfl rfl k) ?_
        refine Go.of (T' := T37) (g' := (mkF mM 252 #[.val (.int aa), .val (.int ab), .val (.int ac), .val (.int ad), .val (.int (1 : Int32)), .val (.int cc), .val (.int (2 : Int32)), .unset, .unset, .val (.ref q), .val (.ref o1), .val (.int (Int32.ofNat W1.length)), .unset, .unset] [(.int (1 : Int32)), (.ref r), (.ref r)])) (fun _ k => XS.iload X37.hh X37.hx rfl (hb hby at_250) rfl k) ?_
        refine Go.of (T' := T37) (g' := (mkF mM 254 #[.val (.int aa), .val (.int ab), .val (.int ac), .val (.int ad), .val (.int (1 : Int32)), .val (.int cc), .val (.int (2 : Int32)), .unset, .unset, .val (.ref q), .val (.ref o1), .val (.int (Int32.ofNat W1.length)), .unset, .unset] [(.int cc), (.int (1 : Int32)), (.ref r), (.ref r)])) (fun _ k => XS.iload X37.hh X37.hx rfl (hb hby at_252) rfl k) ?_
        refine X37.callS (W := 2) (argsL := [(.int (1 : Int32)), (.int cc)]) (rest := [(.ref r), (.ref r)]) (hw _ (List.mem_of_getElem? (i := 104) rfl)) (hw _ (List.mem_of_getElem? (i := 105) rfl)) (hw _ (List.mem_of_getElem? (i := 27) rfl)) (hw _ (List.mem_of_getElem? (i := 106) rfl)) (by decide) (appended_1 l Z a0 G cc h37 r2) pd_10 rfl rfl rfl (by rw [hml]; rfl) (by decide) (by decide) (by decide) (by decide) (hb hby at_254) all0 all0 ?_
        intro v38 T38 h38 S38 X38 K38 Q38
        obtain ⟨b, kc_b, rfl, gb, V_b⟩ := Q38
        have X38 := X38 [] all0
        have z38 : h37.size ≤ h38.size := K38.1
        show Go pP eE bB _ T38 (mkF mM 257 #[.val (.int aa), .val (.int ab), .val (.int ac), .val (.int ad), .val (.int (1 : Int32)), .val (.int cc), .val (.int (2 : Int32)), .unset, .unset, .val (.ref q), .val (.ref o1), .val (.int (Int32.ofNat W1.length)), .unset, .unset] [(.ref b), (.ref r), (.ref r)])
        have l_b : b < h38.size := V_b.lt
        have hp : ∀ c ∈ ([(45 : Int32), (45 : Int32), (115 : Int32), (97 : Int32), (108 : Int32), (116 : Int32), cc] : List Int32), ¬ c < 0 ∧ ¬ (255 : Int32) < c := by
          intro c hc
          rcases List.mem_append.mp (show c ∈ W1 ++ [cc] from hc) with q | q
          · exact W1r c q
          · rw [List.mem_singleton.mp q]; exact r2
        have A_r := (A_r.keep K38)
        have F_value_r := (F_value_r.keep K38 nin0)
        have F_coder_r := (F_coder_r.keep K38 nin0)
        refine X38.callCN (W := 1) (argsL := [(.ref b)]) (rest := [(.ref r)]) (nc := 1) (ns := 7) (ws' := [r]) (a := r) rfl (hw _ (List.mem_of_getElem? (i := 31) rfl)) (hw _ (List.mem_of_getElem? (i := 32) rfl)) (hw _ (List.mem_of_getElem? (i := 33) rfl)) (by decide) (fun vm0 hZ => StrChars.Road.backV (s := sS.setVm vm0) (W := 1) hZ hws (kI := 4) (hw _ (List.mem_of_getElem? (i := 3) rfl)) (cs := ([(45 : Int32), (45 : Int32), (115 : Int32), (97 : Int32), (108 : Int32), (116 : Int32), cc] : List Int32)) (bs := ([(45 : Int32), (45 : Int32), (115 : Int32), (97 : Int32), (108 : Int32), (116 : Int32), cc] : List Int32).map (fun c => c.toInt8.toInt32)) (n := 7) (n0 := Z.heap.size) (by omega) (by omega) A_r F_value_r F_coder_r V_b (Sc.ext X38.ext0) hzc rfl rfl (by decide) (by decide) hp rfl (by decide) (by decide)) (fun v h' L q => ⟨q.2.1, q.2.2.1⟩) pd_8 rfl rfl rfl (by rw [hml]; rfl) (by decide) (by decide) (hb hby at_257) (allS (by omega) all0) (allS (Or.inr (by omega)) all0) (allS (Sfe.mem (List.mem_of_getElem? (i := 0) rfl)) all0) ?_
        intro v39 T39 h39 X39 K39 Q39
        obtain ⟨_, ⟨rfl, -, -, A_r, C_r, t_r, kb_r, gt_r, gs_r, -, V_r, B_r⟩⟩ := Q39
        have z39 : h38.size ≤ h39.size := K39.1
        show Go pP eE bB _ T39 (mkF mM 260 #[.val (.int aa), .val (.int ab), .val (.int ac), .val (.int ad), .val (.int (1 : Int32)), .val (.int cc), .val (.int (2 : Int32)), .unset, .unset, .val (.ref q), .val (.ref o1), .val (.int (Int32.ofNat W1.length)), .unset, .unset] [(.ref r)])
        have lt_r : t_r < h39.size := B_r.lt
        have St_r : Str Z h39 r t_r kb_r ([(45 : Int32), (45 : Int32), (115 : Int32), (97 : Int32), (108 : Int32), (116 : Int32), cc] : List Int32) := ⟨A_r, V_r, C_r, B_r, hp, Nat.le_of_ble_eq_true rfl⟩
        refine Go.of (T' := T39) (g' := (mkF mM 262 #[.val (.int aa), .val (.int ab), .val (.int ac), .val (.int ad), .val (.int (1 : Int32)), .val (.int cc), .val (.int (2 : Int32)), .val (.ref r), .unset, .val (.ref q), .val (.ref o1), .val (.int (Int32.ofNat W1.length)), .unset, .unset] [])) (fun _ k => XS.astore X39.hh X39.hx rfl (hb hby at_260) rfl rfl (l' := #[.val (.int aa), .val (.int ab), .val (.int ac), .val (.int ad), .val (.int (1 : Int32)), .val (.int cc), .val (.int (2 : Int32)), .val (.ref r), .unset, .val (.ref q), .val (.ref o1), .val (.int (Int32.ofNat W1.length)), .unset, .unset]) rfl k) ?_
        refine Go.of (T' := T39) (g' := (mkF mM 263 #[.val (.int aa), .val (.int ab), .val (.int ac), .val (.int ad), .val (.int (1 : Int32)), .val (.int cc), .val (.int (2 : Int32)), .val (.ref r), .unset, .val (.ref q), .val (.ref o1), .val (.int (Int32.ofNat W1.length)), .unset, .unset] [.null])) (fun _ k => XS.aconstNull X39.hh X39.hx rfl (hb hby at_262) k) ?_
        refine Go.of (T' := T39) (g' := (mkF mM 265 #[.val (.int aa), .val (.int ab), .val (.int ac), .val (.int ad), .val (.int (1 : Int32)), .val (.int cc), .val (.int (2 : Int32)), .val (.ref r), .val .null, .val (.ref q), .val (.ref o1), .val (.int (Int32.ofNat W1.length)), .unset, .unset] [])) (fun _ k => XS.astore X39.hh X39.hx rfl (hb hby at_263) rfl rfl (l' := #[.val (.int aa), .val (.int ab), .val (.int ac), .val (.int ad), .val (.int (1 : Int32)), .val (.int cc), .val (.int (2 : Int32)), .val (.ref r), .val .null, .val (.ref q), .val (.ref o1), .val (.int (Int32.ofNat W1.length)), .unset, .unset]) rfl k) ?_
        refine Go.of (T' := T39) (g' := (mkF mM 296 #[.val (.int aa), .val (.int ab), .val (.int ac), .val (.int ad), .val (.int (1 : Int32)), .val (.int cc), .val (.int (2 : Int32)), .val (.ref r), .val .null, .val (.ref q), .val (.ref o1), .val (.int (Int32.ofNat W1.length)), .unset, .unset] [])) (fun _ k => XS.goto X39.hh X39.hx rfl (pc0 := 265) (pc' := 296) rfl (hb hby at_265) (by decide) (by decide) k) ?_
        exact fin _ _ _ _ _ _ _ _ _ _ _ _ _ _ _ _ _ (X39.mono (by decide) (by decide)) St_r (pick_none (by simp) (by simp) (by simp)).symm
      · show Go pP eE bB _ T0 (mkF mM 21 #[.val (.int aa), .val (.int ab), .val (.int ac), .val (.int ad), .val (.int (1 : Int32)), .val (.int cc), .val (.int (3 : Int32)), .unset, .unset, .unset, .unset, .unset, .unset, .unset] [])
        refine Go.of (T' := T0) (g' := (mkF mM 23 #[.val (.int aa), .val (.int ab), .val (.int ac), .val (.int ad), .val (.int (1 : Int32)), .val (.int cc), .val (.int (3 : Int32)), .unset, .unset, .unset, .unset, .unset, .unset, .unset] [(.int (1 : Int32))])) (fun _ k => XS.iload X0.hh X0.hx rfl (hb hby at_21) rfl k) ?_
        refine Go.of (T' := T0) (g' := (mkF mM 24 #[.val (.int aa), .val (.int ab), .val (.int ac), .val (.int ad), .val (.int (1 : Int32)), .val (.int cc), .val (.int (3 : Int32)), .unset, .unset, .unset, .unset, .unset, .unset, .unset] [(.int (3 : Int32)), (.int (1 : Int32))])) (fun _ k => XS.iconst X0.hh X0.hx rfl (hb hby at_23) k) ?_
        refine Go.of (T' := T0) (g' := (mkF mM 101 #[.val (.int aa), .val (.int ab), .val (.int ac), .val (.int ad), .val (.int (1 : Int32)), .val (.int cc), .val (.int (3 : Int32)), .unset, .unset, .unset, .unset, .unset, .unset, .unset] [])) (fun _ k => XS.icmpYes X0.hh X0.hx rfl (pc0 := 24) (pc' := 101) rfl (hb hby at_24) rfl (feq (by decide)).2 (by decide) (by decide) k) ?_
        refine Go.of (T' := T0) (g' := (mkF mM 103 #[.val (.int aa), .val (.int ab), .val (.int ac), .val (.int ad), .val (.int (1 : Int32)), .val (.int cc), .val (.int (3 : Int32)), .unset, .unset, .unset, .unset, .unset, .unset, .unset] [(.int (1 : Int32))])) (fun _ k => XS.iload X0.hh X0.hx rfl (hb hby at_101) rfl k) ?_
        refine Go.of (T' := T0) (g' := (mkF mM 111 #[.val (.int aa), .val (.int ab), .val (.int ac), .val (.int ad), .val (.int (1 : Int32)), .val (.int cc), .val (.int (3 : Int32)), .unset, .unset, .unset, .unset, .unset, .unset, .unset] [])) (fun _ k => XS.ifYes X0.hh X0.hx rfl (pc0 := 103) (pc' := 111) rfl (hb hby at_103) rfl ((if0 _ _).trans (feq (by decide)).2) (by decide) (by decide) k) ?_
        refine Go.of (T' := T0) (g' := (mkF mM 113 #[.val (.int aa), .val (.int ab), .val (.int ac), .val (.int ad), .val (.int (1 : Int32)), .val (.int cc), .val (.int (3 : Int32)), .unset, .unset, .unset, .unset, .unset, .unset, .unset] [(.int (1 : Int32))])) (fun _ k => XS.iload X0.hh X0.hx rfl (hb hby at_111) rfl k) ?_
        refine Go.of (T' := T0) (g' := (mkF mM 114 #[.val (.int aa), .val (.int ab), .val (.int ac), .val (.int ad), .val (.int (1 : Int32)), .val (.int cc), .val (.int (3 : Int32)), .unset, .unset, .unset, .unset, .unset, .unset, .unset] [(.int (1 : Int32)), (.int (1 : Int32))])) (fun _ k => XS.iconst X0.hh X0.hx rfl (hb hby at_113) k) ?_
        refine Go.of (T' := T0) (g' := (mkF mM 117 #[.val (.int aa), .val (.int ab), .val (.int ac), .val (.int ad), .val (.int (1 : Int32)), .val (.int cc), .val (.int (3 : Int32)), .unset, .unset, .unset, .unset, .unset, .unset, .unset] [])) (fun _ k => XS.icmpNo X0.hh X0.hx rfl (hb hby at_114) rfl (teq (by decide)).2 k) ?_
        refine X0.ldcR (n := 24) (z := Int32.ofNat ([45, 45, 115, 97, 108, 116] : List Int32).length) (vs := (([45, 45, 115, 97, 108, 116] : List Int32).map fun c => c.toInt8.toInt32).map Value.int) (hw _ (List.mem_of_getElem? (i := 109) rfl)) hwS (by decide +kernel) (by decide +kernel) (by decide +kernel) (by decide +kernel) (hb hby at_117) (by decide +kernel) (by decide) (by decide) (by decide) ?_
        intro T40 h40 q t_q kb_q X40 E40 A_q C_q V_q B_q N_q
        have z40 : h0.size ≤ h40.size := E40.1
        have l_q : q < h40.size := A_q.lt
        have lt_q : t_q < h40.size := B_q.lt
        have St_q : Str Z h40 q t_q kb_q [45, 45, 115, 97, 108, 116] := ⟨A_q, V_q, C_q, B_q, by decide, by decide⟩
        show Go pP eE bB _ T40 (mkF mM 119 #[.val (.int aa), .val (.int ab), .val (.int ac), .val (.int ad), .val (.int (1 : Int32)), .val (.int cc), .val (.int (3 : Int32)), .unset, .unset, .unset, .unset, .unset, .unset, .unset] [(.ref q)])
        refine Go.of (T' := T40) (g' := (mkF mM 124 #[.val (.int aa), .val (.int ab), .val (.int ac), .val (.int ad), .val (.int (1 : Int32)), .val (.int cc), .val (.int (3 : Int32)), .unset, .unset, .unset, .unset, .unset, .unset, .unset] [(.ref q)])) (fun _ k => XS.goto X40.hh X40.hx rfl (pc0 := 119) (pc' := 124) rfl (hb hby at_119) (by decide) (by decide) k) ?_
        refine Go.of (T' := T40) (g' := (mkF mM 126 #[.val (.int aa), .val (.int ab), .val (.int ac), .val (.int ad), .val (.int (1 : Int32)), .val (.int cc), .val (.int (3 : Int32)), .unset, .unset, .val (.ref q), .unset, .unset, .unset, .unset] [])) (fun _ k => XS.astore X40.hh X40.hx rfl (hb hby at_124) rfl rfl (l' := #[.val (.int aa), .val (.int ab), .val (.int ac), .val (.int ad), .val (.int (1 : Int32)), .val (.int cc), .val (.int (3 : Int32)), .unset, .unset, .val (.ref q), .unset, .unset, .unset, .unset]) rfl k) ?_
        refine Go.of (T' := T40) (g' := (mkF mM 128 #[.val (.int aa), .val (.int ab), .val (.int ac), .val (.int ad), .val (.int (1 : Int32)), .val (.int cc), .val (.int (3 : Int32)), .unset, .unset, .val (.ref q), .unset, .unset, .unset, .unset] [(.int (1 : Int32))])) (fun _ k => XS.iload X40.hh X40.hx rfl (hb hby at_126) rfl k) ?_
        refine Go.of (T' := T40) (g' := (mkF mM 137 #[.val (.int aa), .val (.int ab), .val (.int ac), .val (.int ad), .val (.int (1 : Int32)), .val (.int cc), .val (.int (3 : Int32)), .unset, .unset, .val (.ref q), .unset, .unset, .unset, .unset] [])) (fun _ k => XS.ifYes X40.hh X40.hx rfl (pc0 := 128) (pc' := 137) rfl (hb hby at_128) rfl ((if0 _ _).trans (feq (by decide)).2) (by decide) (by decide) k) ?_
        refine Go.of (T' := T40) (g' := (mkF mM 139 #[.val (.int aa), .val (.int ab), .val (.int ac), .val (.int ad), .val (.int (1 : Int32)), .val (.int cc), .val (.int (3 : Int32)), .unset, .unset, .val (.ref q), .unset, .unset, .unset, .unset] [(.int (1 : Int32))])) (fun _ k => XS.iload X40.hh X40.hx rfl (hb hby at_137) rfl k) ?_
        refine Go.of (T' := T40) (g' := (mkF mM 140 #[.val (.int aa), .val (.int ab), .val (.int ac), .val (.int ad), .val (.int (1 : Int32)), .val (.int cc), .val (.int (3 : Int32)), .unset, .unset, .val (.ref q), .unset, .unset, .unset, .unset] [(.int (1 : Int32)), (.int (1 : Int32))])) (fun _ k => XS.iconst X40.hh X40.hx rfl (hb hby at_139) k) ?_
        refine Go.of (T' := T40) (g' := (mkF mM 143 #[.val (.int aa), .val (.int ab), .val (.int ac), .val (.int ad), .val (.int (1 : Int32)), .val (.int cc), .val (.int (3 : Int32)), .unset, .unset, .val (.ref q), .unset, .unset, .unset, .unset] [])) (fun _ k => XS.icmpNo X40.hh X40.hx rfl (hb hby at_140) rfl (teq (by decide)).2 k) ?_
        refine X40.getS (host := "") (Or.inl (hw _ (List.mem_of_getElem? (i := 110) rfl))) Via.refl (Ss.ext X40.ext0) (hb hby at_143) ?_
        intro T41 X41
        show Go pP eE bB _ T41 (mkF mM 146 #[.val (.int aa), .val (.int ab), .val (.int ac), .val (.int ad), .val (.int (1 : Int32)), .val (.int cc), .val (.int (3 : Int32)), .unset, .unset, .val (.ref q), .unset, .unset, .unset, .unset] [(.ref o1)])
        refine Go.of (T' := T41) (g' := (mkF mM 152 #[.val (.int aa), .val (.int ab), .val (.int ac), .val (.int ad), .val (.int (1 : Int32)), .val (.int cc), .val (.int (3 : Int32)), .unset, .unset, .val (.ref q), .unset, .unset, .unset, .unset] [(.ref o1)])) (fun _ k => XS.goto X41.hh X41.hx rfl (pc0 := 146) (pc' := 152) rfl (hb hby at_146) (by decide) (by decide) k) ?_
        refine Go.of (T' := T41) (g' := (mkF mM 154 #[.val (.int aa), .val (.int ab), .val (.int ac), .val (.int ad), .val (.int (1 : Int32)), .val (.int cc), .val (.int (3 : Int32)), .unset, .unset, .val (.ref q), .val (.ref o1), .unset, .unset, .unset] [])) (fun _ k => XS.astore X41.hh X41.hx rfl (hb hby at_152) rfl rfl (l' := #[.val (.int aa), .val (.int ab), .val (.int ac), .val (.int ad), .val (.int (1 : Int32)), .val (.int cc), .val (.int (3 : Int32)), .unset, .unset, .val (.ref q), .val (.ref o1), .unset, .unset, .unset]) rfl k) ?_
        refine Go.of (T' := T41) (g' := (mkF mM 156 #[.val (.int aa), .val (.int ab), .val (.int ac), .val (.int ad), .val (.int (1 : Int32)), .val (.int cc), .val (.int (3 : Int32)), .unset, .unset, .val (.ref q), .val (.ref o1), .unset, .unset, .unset] [(.ref q)])) (fun _ k => XS.aload X41.hh X41.hx rfl (hb hby at_154) rfl rfl k) ?_
        have Sq : Str Z h40 q t_q kb_q W1 := St_q
        refine X41.callVN (W := 0) (argsL := []) (rest := []) (nc := 0) (ns := 0) (ws' := []) (Qn := fun v h' L => v = some (.int (Int32.ofNat W1.length)) ∧ L = [] ∧ h' = h40) (a := q) (C := "java/lang/String") (z := (⟨"java/lang/String", "length", "()I"⟩ : MethodName)) (hw _ (List.mem_of_getElem? (i := 12) rfl)) (hw _ (List.mem_of_getElem? (i := 13) rfl)) (fun _ q => notFace_of_selects (args := #[]) (mvT q (hw _ (List.mem_of_getElem? (i := 15) rfl)))) (hw _ (List.mem_of_getElem? (i := 15) rfl)) (hw _ (List.mem_of_getElem? (i := 14) rfl)) (by decide) (fun vm0 hZ => StrChars.Road.lenW (s := sS.setVm vm0) (W := 0) hZ hln (kI := 4) (hw _ (List.mem_of_getElem? (i := 3) rfl)) Sq.1 Sq.2.1 Sq.2.2.1 Sq.2.2.2.1 (StrChars.Road.codOf rfl fun c hc => (Sq.2.2.2.2.1 c hc).2) Sq.up (Sc.ext X41.ext0) hzc Sq.2.2.2.2.2 (by decide) (by decide)) (fun v h' L q => by obtain ⟨-, rfl, rfl⟩ := q; exact ⟨Fr.nil _, Keep.refl _ _⟩) Sq.1 pd_6 rfl rfl rfl (by rw [hml]; rfl) (by decide) (by decide) (hb hby at_156) all0 all0 all0 ?_
        intro v42 T42 h42 X42 K42 Q42
        obtain ⟨_, rfl, -, e42⟩ := Q42
        rw [e42] at X42
        show Go pP eE bB _ T42 (mkF mM 159 #[.val (.int aa), .val (.int ab), .val (.int ac), .val (.int ad), .val (.int (1 : Int32)), .val (.int cc), .val (.int (3 : Int32)), .unset, .unset, .val (.ref q), .val (.ref o1), .unset, .unset, .unset] [(.int (Int32.ofNat W1.length))])
        refine Go.of (T' := T42) (g' := (mkF mM 161 #[.val (.int aa), .val (.int ab), .val (.int ac), .val (.int ad), .val (.int (1 : Int32)), .val (.int cc), .val (.int (3 : Int32)), .unset, .unset, .val (.ref q), .val (.ref o1), .val (.int (Int32.ofNat W1.length)), .unset, .unset] [])) (fun _ k => XS.istore X42.hh X42.hx rfl (hb hby at_159) rfl (l' := #[.val (.int aa), .val (.int ab), .val (.int ac), .val (.int ad), .val (.int (1 : Int32)), .val (.int cc), .val (.int (3 : Int32)), .unset, .unset, .val (.ref q), .val (.ref o1), .val (.int (Int32.ofNat W1.length)), .unset, .unset]) rfl k) ?_
        refine Go.of (T' := T42) (g' := (mkF mM 163 #[.val (.int aa), .val (.int ab), .val (.int ac), .val (.int ad), .val (.int (1 : Int32)), .val (.int cc), .val (.int (3 : Int32)), .unset, .unset, .val (.ref q), .val (.ref o1), .val (.int (Int32.ofNat W1.length)), .unset, .unset] [(.int (3 : Int32))])) (fun _ k => XS.iload X42.hh X42.hx rfl (hb hby at_161) rfl k) ?_
        refine Go.of (T' := T42) (g' := (mkF mM 177 #[.val (.int aa), .val (.int ab), .val (.int ac), .val (.int ad), .val (.int (1 : Int32)), .val (.int cc), .val (.int (3 : Int32)), .unset, .unset, .val (.ref q), .val (.ref o1), .val (.int (Int32.ofNat W1.length)), .unset, .unset] [])) (fun _ k => XS.ifYes X42.hh X42.hx rfl (pc0 := 163) (pc' := 177) rfl (hb hby at_163) rfl ((if0 _ _).trans (feq (by decide)).2) (by decide) (by decide) k) ?_
        refine Go.of (T' := T42) (g' := (mkF mM 179 #[.val (.int aa), .val (.int ab), .val (.int ac), .val (.int ad), .val (.int (1 : Int32)), .val (.int cc), .val (.int (3 : Int32)), .unset, .unset, .val (.ref q), .val (.ref o1), .val (.int (Int32.ofNat W1.length)), .unset, .unset] [(.int (3 : Int32))])) (fun _ k => XS.iload X42.hh X42.hx rfl (hb hby at_177) rfl k) ?_
        refine Go.of (T' := T42) (g' := (mkF mM 180 #[.val (.int aa), .val (.int ab), .val (.int ac), .val (.int ad), .val (.int (1 : Int32)), .val (.int cc), .val (.int (3 : Int32)), .unset, .unset, .val (.ref q), .val (.ref o1), .val (.int (Int32.ofNat W1.length)), .unset, .unset] [(.int (1 : Int32)), (.int (3 : Int32))])) (fun _ k => XS.iconst X42.hh X42.hx rfl (hb hby at_179) k) ?_
        refine Go.of (T' := T42) (g' := (mkF mM 240 #[.val (.int aa), .val (.int ab), .val (.int ac), .val (.int ad), .val (.int (1 : Int32)), .val (.int cc), .val (.int (3 : Int32)), .unset, .unset, .val (.ref q), .val (.ref o1), .val (.int (Int32.ofNat W1.length)), .unset, .unset] [])) (fun _ k => XS.icmpYes X42.hh X42.hx rfl (pc0 := 180) (pc' := 240) rfl (hb hby at_180) rfl (feq (by decide)).2 (by decide) (by decide) k) ?_
        refine Go.of (T' := T42) (g' := (mkF mM 242 #[.val (.int aa), .val (.int ab), .val (.int ac), .val (.int ad), .val (.int (1 : Int32)), .val (.int cc), .val (.int (3 : Int32)), .unset, .unset, .val (.ref q), .val (.ref o1), .val (.int (Int32.ofNat W1.length)), .unset, .unset] [(.int (3 : Int32))])) (fun _ k => XS.iload X42.hh X42.hx rfl (hb hby at_240) rfl k) ?_
        refine Go.of (T' := T42) (g' := (mkF mM 243 #[.val (.int aa), .val (.int ab), .val (.int ac), .val (.int ad), .val (.int (1 : Int32)), .val (.int cc), .val (.int (3 : Int32)), .unset, .unset, .val (.ref q), .val (.ref o1), .val (.int (Int32.ofNat W1.length)), .unset, .unset] [(.int (2 : Int32)), (.int (3 : Int32))])) (fun _ k => XS.iconst X42.hh X42.hx rfl (hb hby at_242) k) ?_
        refine Go.of (T' := T42) (g' := (mkF mM 268 #[.val (.int aa), .val (.int ab), .val (.int ac), .val (.int ad), .val (.int (1 : Int32)), .val (.int cc), .val (.int (3 : Int32)), .unset, .unset, .val (.ref q), .val (.ref o1), .val (.int (Int32.ofNat W1.length)), .unset, .unset] [])) (fun _ k => XS.icmpYes X42.hh X42.hx rfl (pc0 := 243) (pc' := 268) rfl (hb hby at_243) rfl (feq (by decide)).2 (by decide) (by decide) k) ?_
        refine Go.of (T' := T42) (g' := (mkF mM 270 #[.val (.int aa), .val (.int ab), .val (.int ac), .val (.int ad), .val (.int (1 : Int32)), .val (.int cc), .val (.int (3 : Int32)), .unset, .unset, .val (.ref q), .val (.ref o1), .val (.int (Int32.ofNat W1.length)), .unset, .unset] [(.int (1 : Int32))])) (fun _ k => XS.iload X42.hh X42.hx rfl (hb hby at_268) rfl k) ?_
        refine Go.of (T' := T42) (g' := (mkF mM 278 #[.val (.int aa), .val (.int ab), .val (.int ac), .val (.int ad), .val (.int (1 : Int32)), .val (.int cc), .val (.int (3 : Int32)), .unset, .unset, .val (.ref q), .val (.ref o1), .val (.int (Int32.ofNat W1.length)), .unset, .unset] [])) (fun _ k => XS.ifYes X42.hh X42.hx rfl (pc0 := 270) (pc' := 278) rfl (hb hby at_270) rfl ((if0 _ _).trans (feq (by decide)).2) (by decide) (by decide) k) ?_
        refine Go.of (T' := T42) (g' := (mkF mM 280 #[.val (.int aa), .val (.int ab), .val (.int ac), .val (.int ad), .val (.int (1 : Int32)), .val (.int cc), .val (.int (3 : Int32)), .unset, .unset, .val (.ref q), .val (.ref o1), .val (.int (Int32.ofNat W1.length)), .unset, .unset] [(.int (1 : Int32))])) (fun _ k => XS.iload X42.hh X42.hx rfl (hb hby at_278) rfl k) ?_
        refine Go.of (T' := T42) (g' := (mkF mM 281 #[.val (.int aa), .val (.int ab), .val (.int ac), .val (.int ad), .val (.int (1 : Int32)), .val (.int cc), .val (.int (3 : Int32)), .unset, .unset, .val (.ref q), .val (.ref o1), .val (.int (Int32.ofNat W1.length)), .unset, .unset] [(.int (1 : Int32)), (.int (1 : Int32))])) (fun _ k => XS.iconst X42.hh X42.hx rfl (hb hby at_280) k) ?_
        refine Go.of (T' := T42) (g' := (mkF mM 284 #[.val (.int aa), .val (.int ab), .val (.int ac), .val (.int ad), .val (.int (1 : Int32)), .val (.int cc), .val (.int (3 : Int32)), .unset, .unset, .val (.ref q), .val (.ref o1), .val (.int (Int32.ofNat W1.length)), .unset, .unset] [])) (fun _ k => XS.icmpNo X42.hh X42.hx rfl (hb hby at_281) rfl (teq (by decide)).2 k) ?_
        refine X42.ldcR (n := 20) (z := Int32.ofNat ([45, 45, 115, 97, 108] : List Int32).length) (vs := (([45, 45, 115, 97, 108] : List Int32).map fun c => c.toInt8.toInt32).map Value.int) (hw _ (List.mem_of_getElem? (i := 125) rfl)) hwS (by decide +kernel) (by decide +kernel) (by decide +kernel) (by decide +kernel) (hb hby at_284) (by decide +kernel) (by decide) (by decide) (by decide) ?_
        intro T43 h43 u t_u kb_u X43 E43 A_u C_u V_u B_u N_u
        have z43 : h40.size ≤ h43.size := E43.1
        have l_u : u < h43.size := A_u.lt
        have lt_u : t_u < h43.size := B_u.lt
        have St_u : Str Z h43 u t_u kb_u [45, 45, 115, 97, 108] := ⟨A_u, V_u, C_u, B_u, by decide, by decide⟩
        show Go pP eE bB _ T43 (mkF mM 286 #[.val (.int aa), .val (.int ab), .val (.int ac), .val (.int ad), .val (.int (1 : Int32)), .val (.int cc), .val (.int (3 : Int32)), .unset, .unset, .val (.ref q), .val (.ref o1), .val (.int (Int32.ofNat W1.length)), .unset, .unset] [(.ref u)])
        refine Go.of (T' := T43) (g' := (mkF mM 291 #[.val (.int aa), .val (.int ab), .val (.int ac), .val (.int ad), .val (.int (1 : Int32)), .val (.int cc), .val (.int (3 : Int32)), .unset, .unset, .val (.ref q), .val (.ref o1), .val (.int (Int32.ofNat W1.length)), .unset, .unset] [(.ref u)])) (fun _ k => XS.goto X43.hh X43.hx rfl (pc0 := 286) (pc' := 291) rfl (hb hby at_286) (by decide) (by decide) k) ?_
        refine Go.of (T' := T43) (g' := (mkF mM 293 #[.val (.int aa), .val (.int ab), .val (.int ac), .val (.int ad), .val (.int (1 : Int32)), .val (.int cc), .val (.int (3 : Int32)), .val (.ref u), .unset, .val (.ref q), .val (.ref o1), .val (.int (Int32.ofNat W1.length)), .unset, .unset] [])) (fun _ k => XS.astore X43.hh X43.hx rfl (hb hby at_291) rfl rfl (l' := #[.val (.int aa), .val (.int ab), .val (.int ac), .val (.int ad), .val (.int (1 : Int32)), .val (.int cc), .val (.int (3 : Int32)), .val (.ref u), .unset, .val (.ref q), .val (.ref o1), .val (.int (Int32.ofNat W1.length)), .unset, .unset]) rfl k) ?_
        refine Go.of (T' := T43) (g' := (mkF mM 294 #[.val (.int aa), .val (.int ab), .val (.int ac), .val (.int ad), .val (.int (1 : Int32)), .val (.int cc), .val (.int (3 : Int32)), .val (.ref u), .unset, .val (.ref q), .val (.ref o1), .val (.int (Int32.ofNat W1.length)), .unset, .unset] [.null])) (fun _ k => XS.aconstNull X43.hh X43.hx rfl (hb hby at_293) k) ?_
        refine Go.of (T' := T43) (g' := (mkF mM 296 #[.val (.int aa), .val (.int ab), .val (.int ac), .val (.int ad), .val (.int (1 : Int32)), .val (.int cc), .val (.int (3 : Int32)), .val (.ref u), .val .null, .val (.ref q), .val (.ref o1), .val (.int (Int32.ofNat W1.length)), .unset, .unset] [])) (fun _ k => XS.astore X43.hh X43.hx rfl (hb hby at_294) rfl rfl (l' := #[.val (.int aa), .val (.int ab), .val (.int ac), .val (.int ad), .val (.int (1 : Int32)), .val (.int cc), .val (.int (3 : Int32)), .val (.ref u), .val .null, .val (.ref q), .val (.ref o1), .val (.int (Int32.ofNat W1.length)), .unset, .unset]) rfl k) ?_
        exact fin _ _ _ _ _ _ _ _ _ _ _ _ _ _ _ _ _ (X43.mono (by decide) (by decide)) St_u (pick_none (by decide) (by decide) (by decide)).symm
    · rcases r3 with rfl | rfl | rfl | rfl
      · show Go pP eE bB _ T0 (mkF mM 21 #[.val (.int aa), .val (.int ab), .val (.int ac), .val (.int ad), .val (.int (2 : Int32)), .val (.int cc), .val (.int (0 : Int32)), .unset, .unset, .unset, .unset, .unset, .unset, .unset] [])
        refine Go.of (T' := T0) (g' := (mkF mM 23 #[.val (.int aa), .val (.int ab), .val (.int ac), .val (.int ad), .val (.int (2 : Int32)), .val (.int cc), .val (.int (0 : Int32)), .unset, .unset, .unset, .unset, .unset, .unset, .unset] [(.int (2 : Int32))])) (fun _ k => XS.iload X0.hh X0.hx rfl (hb hby at_21) rfl k) ?_
        refine Go.of (T' := T0) (g' := (mkF mM 24 #[.val (.int aa), .val (.int ab), .val (.int ac), .val (.int ad), .val (.int (2 : Int32)), .val (.int cc), .val (.int (0 : Int32)), .unset, .unset, .unset, .unset, .unset, .unset, .unset] [(.int (3 : Int32)), (.int (2 : Int32))])) (fun _ k => XS.iconst X0.hh X0.hx rfl (hb hby at_23) k) ?_
        refine Go.of (T' := T0) (g' := (mkF mM 101 #[.val (.int aa), .val (.int ab), .val (.int ac), .val (.int ad), .val (.int (2 : Int32)), .val (.int cc), .val (.int (0 : Int32)), .unset, .unset, .unset, .unset, .unset, .unset, .unset] [])) (fun _ k => XS.icmpYes X0.hh X0.hx rfl (pc0 := 24) (pc' := 101) rfl (hb hby at_24) rfl (feq (by decide)).2 (by decide) (by decide) k) ?_
        refine Go.of (T' := T0) (g' := (mkF mM 103 #[.val (.int aa), .val (.int ab), .val (.int ac), .val (.int ad), .val (.int (2 : Int32)), .val (.int cc), .val (.int (0 : Int32)), .unset, .unset, .unset, .unset, .unset, .unset, .unset] [(.int (2 : Int32))])) (fun _ k => XS.iload X0.hh X0.hx rfl (hb hby at_101) rfl k) ?_
        refine Go.of (T' := T0) (g' := (mkF mM 111 #[.val (.int aa), .val (.int ab), .val (.int ac), .val (.int ad), .val (.int (2 : Int32)), .val (.int cc), .val (.int (0 : Int32)), .unset, .unset, .unset, .unset, .unset, .unset, .unset] [])) (fun _ k => XS.ifYes X0.hh X0.hx rfl (pc0 := 103) (pc' := 111) rfl (hb hby at_103) rfl ((if0 _ _).trans (feq (by decide)).2) (by decide) (by decide) k) ?_
        refine Go.of (T' := T0) (g' := (mkF mM 113 #[.val (.int aa), .val (.int ab), .val (.int ac), .val (.int ad), .val (.int (2 : Int32)), .val (.int cc), .val (.int (0 : Int32)), .unset, .unset, .unset, .unset, .unset, .unset, .unset] [(.int (2 : Int32))])) (fun _ k => XS.iload X0.hh X0.hx rfl (hb hby at_111) rfl k) ?_
        refine Go.of (T' := T0) (g' := (mkF mM 114 #[.val (.int aa), .val (.int ab), .val (.int ac), .val (.int ad), .val (.int (2 : Int32)), .val (.int cc), .val (.int (0 : Int32)), .unset, .unset, .unset, .unset, .unset, .unset, .unset] [(.int (1 : Int32)), (.int (2 : Int32))])) (fun _ k => XS.iconst X0.hh X0.hx rfl (hb hby at_113) k) ?_
        refine Go.of (T' := T0) (g' := (mkF mM 122 #[.val (.int aa), .val (.int ab), .val (.int ac), .val (.int ad), .val (.int (2 : Int32)), .val (.int cc), .val (.int (0 : Int32)), .unset, .unset, .unset, .unset, .unset, .unset, .unset] [])) (fun _ k => XS.icmpYes X0.hh X0.hx rfl (pc0 := 114) (pc' := 122) rfl (hb hby at_114) rfl (feq (by decide)).2 (by decide) (by decide) k) ?_
        refine X0.ldcR (n := 60) (z := Int32.ofNat ([45, 45, 119, 101, 97, 107, 45, 112, 97, 115, 115, 119, 111, 114, 100] : List Int32).length) (vs := (([45, 45, 119, 101, 97, 107, 45, 112, 97, 115, 115, 119, 111, 114, 100] : List Int32).map fun c => c.toInt8.toInt32).map Value.int) (hw _ (List.mem_of_getElem? (i := 107) rfl)) hwS (by decide +kernel) (by decide +kernel) (by decide +kernel) (by decide +kernel) (hb hby at_122) (by decide +kernel) (by decide) (by decide) (by decide) ?_
        intro T44 h44 q t_q kb_q X44 E44 A_q C_q V_q B_q N_q
        have z44 : h0.size ≤ h44.size := E44.1
        have l_q : q < h44.size := A_q.lt
        have lt_q : t_q < h44.size := B_q.lt
        have St_q : Str Z h44 q t_q kb_q [45, 45, 119, 101, 97, 107, 45, 112, 97, 115, 115, 119, 111, 114, 100] := ⟨A_q, V_q, C_q, B_q, by decide, by decide⟩
        show Go pP eE bB _ T44 (mkF mM 124 #[.val (.int aa), .val (.int ab), .val (.int ac), .val (.int ad), .val (.int (2 : Int32)), .val (.int cc), .val (.int (0 : Int32)), .unset, .unset, .unset, .unset, .unset, .unset, .unset] [(.ref q)])
        refine Go.of (T' := T44) (g' := (mkF mM 126 #[.val (.int aa), .val (.int ab), .val (.int ac), .val (.int ad), .val (.int (2 : Int32)), .val (.int cc), .val (.int (0 : Int32)), .unset, .unset, .val (.ref q), .unset, .unset, .unset, .unset] [])) (fun _ k => XS.astore X44.hh X44.hx rfl (hb hby at_124) rfl rfl (l' := #[.val (.int aa), .val (.int ab), .val (.int ac), .val (.int ad), .val (.int (2 : Int32)), .val (.int cc), .val (.int (0 : Int32)), .unset, .unset, .val (.ref q), .unset, .unset, .unset, .unset]) rfl k) ?_
        refine Go.of (T' := T44) (g' := (mkF mM 128 #[.val (.int aa), .val (.int ab), .val (.int ac), .val (.int ad), .val (.int (2 : Int32)), .val (.int cc), .val (.int (0 : Int32)), .unset, .unset, .val (.ref q), .unset, .unset, .unset, .unset] [(.int (2 : Int32))])) (fun _ k => XS.iload X44.hh X44.hx rfl (hb hby at_126) rfl k) ?_
        refine Go.of (T' := T44) (g' := (mkF mM 137 #[.val (.int aa), .val (.int ab), .val (.int ac), .val (.int ad), .val (.int (2 : Int32)), .val (.int cc), .val (.int (0 : Int32)), .unset, .unset, .val (.ref q), .unset, .unset, .unset, .unset] [])) (fun _ k => XS.ifYes X44.hh X44.hx rfl (pc0 := 128) (pc' := 137) rfl (hb hby at_128) rfl ((if0 _ _).trans (feq (by decide)).2) (by decide) (by decide) k) ?_
        refine Go.of (T' := T44) (g' := (mkF mM 139 #[.val (.int aa), .val (.int ab), .val (.int ac), .val (.int ad), .val (.int (2 : Int32)), .val (.int cc), .val (.int (0 : Int32)), .unset, .unset, .val (.ref q), .unset, .unset, .unset, .unset] [(.int (2 : Int32))])) (fun _ k => XS.iload X44.hh X44.hx rfl (hb hby at_137) rfl k) ?_
        refine Go.of (T' := T44) (g' := (mkF mM 140 #[.val (.int aa), .val (.int ab), .val (.int ac), .val (.int ad), .val (.int (2 : Int32)), .val (.int cc), .val (.int (0 : Int32)), .unset, .unset, .val (.ref q), .unset, .unset, .unset, .unset] [(.int (1 : Int32)), (.int (2 : Int32))])) (fun _ k => XS.iconst X44.hh X44.hx rfl (hb hby at_139) k) ?_
        refine Go.of (T' := T44) (g' := (mkF mM 149 #[.val (.int aa), .val (.int ab), .val (.int ac), .val (.int ad), .val (.int (2 : Int32)), .val (.int cc), .val (.int (0 : Int32)), .unset, .unset, .val (.ref q), .unset, .unset, .unset, .unset] [])) (fun _ k => XS.icmpYes X44.hh X44.hx rfl (pc0 := 140) (pc' := 149) rfl (hb hby at_140) rfl (feq (by decide)).2 (by decide) (by decide) k) ?_
        refine X44.getS (host := "") (Or.inl (hw _ (List.mem_of_getElem? (i := 108) rfl))) Via.refl (Sw.ext X44.ext0) (hb hby at_149) ?_
        intro T45 X45
        show Go pP eE bB _ T45 (mkF mM 152 #[.val (.int aa), .val (.int ab), .val (.int ac), .val (.int ad), .val (.int (2 : Int32)), .val (.int cc), .val (.int (0 : Int32)), .unset, .unset, .val (.ref q), .unset, .unset, .unset, .unset] [(.ref o2)])
        refine Go.of (T' := T45) (g' := (mkF mM 154 #[.val (.int aa), .val (.int ab), .val (.int ac), .val (.int ad), .val (.int (2 : Int32)), .val (.int cc), .val (.int (0 : Int32)), .unset, .unset, .val (.ref q), .val (.ref o2), .unset, .unset, .unset] [])) (fun _ k => XS.astore X45.hh X45.hx rfl (hb hby at_152) rfl rfl (l' := #[.val (.int aa), .val (.int ab), .val (.int ac), .val (.int ad), .val (.int (2 : Int32)), .val (.int cc), .val (.int (0 : Int32)), .unset, .unset, .val (.ref q), .val (.ref o2), .unset, .unset, .unset]) rfl k) ?_
        refine Go.of (T' := T45) (g' := (mkF mM 156 #[.val (.int aa), .val (.int ab), .val (.int ac), .val (.int ad), .val (.int (2 : Int32)), .val (.int cc), .val (.int (0 : Int32)), .unset, .unset, .val (.ref q), .val (.ref o2), .unset, .unset, .unset] [(.ref q)])) (fun _ k => XS.aload X45.hh X45.hx rfl (hb hby at_154) rfl rfl k) ?_
        have Sq : Str Z h44 q t_q kb_q W2 := St_q
        refine X45.callVN (W := 0) (argsL := []) (rest := []) (nc := 0) (ns := 0) (ws' := []) (Qn := fun v h' L => v = some (.int (Int32.ofNat W2.length)) ∧ L = [] ∧ h' = h44) (a := q) (C := "java/lang/String") (z := (⟨"java/lang/String", "length", "()I"⟩ : MethodName)) (hw _ (List.mem_of_getElem? (i := 12) rfl)) (hw _ (List.mem_of_getElem? (i := 13) rfl)) (fun _ q => notFace_of_selects (args := #[]) (mvT q (hw _ (List.mem_of_getElem? (i := 15) rfl)))) (hw _ (List.mem_of_getElem? (i := 15) rfl)) (hw _ (List.mem_of_getElem? (i := 14) rfl)) (by decide) (fun vm0 hZ => StrChars.Road.lenW (s := sS.setVm vm0) (W := 0) hZ hln (kI := 4) (hw _ (List.mem_of_getElem? (i := 3) rfl)) Sq.1 Sq.2.1 Sq.2.2.1 Sq.2.2.2.1 (StrChars.Road.codOf rfl fun c hc => (Sq.2.2.2.2.1 c hc).2) Sq.up (Sc.ext X45.ext0) hzc Sq.2.2.2.2.2 (by decide) (by decide)) (fun v h' L q => by obtain ⟨-, rfl, rfl⟩ := q; exact ⟨Fr.nil _, Keep.refl _ _⟩) Sq.1 pd_6 rfl rfl rfl (by rw [hml]; rfl) (by decide) (by decide) (hb hby at_156) all0 all0 all0 ?_
        intro v46 T46 h46 X46 K46 Q46
        obtain ⟨_, rfl, -, e46⟩ := Q46
        rw [e46] at X46
        show Go pP eE bB _ T46 (mkF mM 159 #[.val (.int aa), .val (.int ab), .val (.int ac), .val (.int ad), .val (.int (2 : Int32)), .val (.int cc), .val (.int (0 : Int32)), .unset, .unset, .val (.ref q), .val (.ref o2), .unset, .unset, .unset] [(.int (Int32.ofNat W2.length))])
        refine Go.of (T' := T46) (g' := (mkF mM 161 #[.val (.int aa), .val (.int ab), .val (.int ac), .val (.int ad), .val (.int (2 : Int32)), .val (.int cc), .val (.int (0 : Int32)), .unset, .unset, .val (.ref q), .val (.ref o2), .val (.int (Int32.ofNat W2.length)), .unset, .unset] [])) (fun _ k => XS.istore X46.hh X46.hx rfl (hb hby at_159) rfl (l' := #[.val (.int aa), .val (.int ab), .val (.int ac), .val (.int ad), .val (.int (2 : Int32)), .val (.int cc), .val (.int (0 : Int32)), .unset, .unset, .val (.ref q), .val (.ref o2), .val (.int (Int32.ofNat W2.length)), .unset, .unset]) rfl k) ?_
        refine Go.of (T' := T46) (g' := (mkF mM 163 #[.val (.int aa), .val (.int ab), .val (.int ac), .val (.int ad), .val (.int (2 : Int32)), .val (.int cc), .val (.int (0 : Int32)), .unset, .unset, .val (.ref q), .val (.ref o2), .val (.int (Int32.ofNat W2.length)), .unset, .unset] [(.int (0 : Int32))])) (fun _ k => XS.iload X46.hh X46.hx rfl (hb hby at_161) rfl k) ?_
        refine Go.of (T' := T46) (g' := (mkF mM 166 #[.val (.int aa), .val (.int ab), .val (.int ac), .val (.int ad), .val (.int (2 : Int32)), .val (.int cc), .val (.int (0 : Int32)), .unset, .unset, .val (.ref q), .val (.ref o2), .val (.int (Int32.ofNat W2.length)), .unset, .unset] [])) (fun _ k => XS.ifNo X46.hh X46.hx rfl (hb hby at_163) rfl ((if0 _ _).trans (teq (by decide)).2) k) ?_
        refine Go.of (T' := T46) (g' := (mkF mM 168 #[.val (.int aa), .val (.int ab), .val (.int ac), .val (.int ad), .val (.int (2 : Int32)), .val (.int cc), .val (.int (0 : Int32)), .unset, .unset, .val (.ref q), .val (.ref o2), .val (.int (Int32.ofNat W2.length)), .unset, .unset] [(.ref q)])) (fun _ k => XS.aload X46.hh X46.hx rfl (hb hby at_166) rfl rfl k) ?_
        refine Go.of (T' := T46) (g' := (mkF mM 170 #[.val (.int aa), .val (.int ab), .val (.int ac), .val (.int ad), .val (.int (2 : Int32)), .val (.int cc), .val (.int (0 : Int32)), .val (.ref q), .unset, .val (.ref q), .val (.ref o2), .val (.int (Int32.ofNat W2.length)), .unset, .unset] [])) (fun _ k => XS.astore X46.hh X46.hx rfl (hb hby at_168) rfl rfl (l' := #[.val (.int aa), .val (.int ab), .val (.int ac), .val (.int ad), .val (.int (2 : Int32)), .val (.int cc), .val (.int (0 : Int32)), .val (.ref q), .unset, .val (.ref q), .val (.ref o2), .val (.int (Int32.ofNat W2.length)), .unset, .unset]) rfl k) ?_
        refine Go.of (T' := T46) (g' := (mkF mM 172 #[.val (.int aa), .val (.int ab), .val (.int ac), .val (.int ad), .val (.int (2 : Int32)), .val (.int cc), .val (.int (0 : Int32)), .val (.ref q), .unset, .val (.ref q), .val (.ref o2), .val (.int (Int32.ofNat W2.length)), .unset, .unset] [(.ref o2)])) (fun _ k => XS.aload X46.hh X46.hx rfl (hb hby at_170) rfl rfl k) ?_
        refine Go.of (T' := T46) (g' := (mkF mM 174 #[.val (.int aa), .val (.int ab), .val (.int ac), .val (.int ad), .val (.int (2 : Int32)), .val (.int cc), .val (.int (0 : Int32)), .val (.ref q), .val (.ref o2), .val (.ref q), .val (.ref o2), .val (.int (Int32.ofNat W2.length)), .unset, .unset] [])) (fun _ k => XS.astore X46.hh X46.hx rfl (hb hby at_172) rfl rfl (l' := #[.val (.int aa), .val (.int ab), .val (.int ac), .val (.int ad), .val (.int (2 : Int32)), .val (.int cc), .val (.int (0 : Int32)), .val (.ref q), .val (.ref o2), .val (.ref q), .val (.ref o2), .val (.int (Int32.ofNat W2.length)), .unset, .unset]) rfl k) ?_
        refine Go.of (T' := T46) (g' := (mkF mM 296 #[.val (.int aa), .val (.int ab), .val (.int ac), .val (.int ad), .val (.int (2 : Int32)), .val (.int cc), .val (.int (0 : Int32)), .val (.ref q), .val (.ref o2), .val (.ref q), .val (.ref o2), .val (.int (Int32.ofNat W2.length)), .unset, .unset] [])) (fun _ k => XS.goto X46.hh X46.hx rfl (pc0 := 174) (pc' := 296) rfl (hb hby at_174) (by decide) (by decide) k) ?_
        exact fin _ _ _ _ _ _ _ _ _ _ _ _ _ _ _ _ _ (X46.mono (by decide) (by decide)) Sq rfl
      · show Go pP eE bB _ T0 (mkF mM 21 #[.val (.int aa), .val (.int ab), .val (.int ac), .val (.int ad), .val (.int (2 : Int32)), .val (.int cc), .val (.int (1 : Int32)), .unset, .unset, .unset, .unset, .unset, .unset, .unset] [])
        refine Go.of (T' := T0) (g' := (mkF mM 23 #[.val (.int aa), .val (.int ab), .val (.int ac), .val (.int ad), .val (.int (2 : Int32)), .val (.int cc), .val (.int (1 : Int32)), .unset, .unset, .unset, .unset, .unset, .unset, .unset] [(.int (2 : Int32))])) (fun _ k => XS.iload X0.hh X0.hx rfl (hb hby at_21) rfl k) ?_
        refine Go.of (T' := T0) (g' := (mkF mM 24 #[.val (.int aa), .val (.int ab), .val (.int ac), .val (.int ad), .val (.int (2 : Int32)), .val (.int cc), .val (.int (1 : Int32)), .unset, .unset, .unset, .unset, .unset, .unset, .unset] [(.int (3 : Int32)), (.int (2 : Int32))])) (fun _ k => XS.iconst X0.hh X0.hx rfl (hb hby at_23) k) ?_
        refine Go.of (T' := T0) (g' := (mkF mM 101 #[.val (.int aa), .val (.int ab), .val (.int ac), .val (.int ad), .val (.int (2 : Int32)), .val (.int cc), .val (.int (1 : Int32)), .unset, .unset, .unset, .unset, .unset, .unset, .unset] [])) (fun _ k => XS.icmpYes X0.hh X0.hx rfl (pc0 := 24) (pc' := 101) rfl (hb hby at_24) rfl (feq (by decide)).2 (by decide) (by decide) k) ?_
        refine Go.of (T' := T0) (g' := (mkF mM 103 #[.val (.int aa), .val (.int ab), .val (.int ac), .val (.int ad), .val (.int (2 : Int32)), .val (.int cc), .val (.int (1 : Int32)), .unset, .unset, .unset, .unset, .unset, .unset, .unset] [(.int (2 : Int32))])) (fun _ k => XS.iload X0.hh X0.hx rfl (hb hby at_101) rfl k) ?_
        refine Go.of (T' := T0) (g' := (mkF mM 111 #[.val (.int aa), .val (.int ab), .val (.int ac), .val (.int ad), .val (.int (2 : Int32)), .val (.int cc), .val (.int (1 : Int32)), .unset, .unset, .unset, .unset, .unset, .unset, .unset] [])) (fun _ k => XS.ifYes X0.hh X0.hx rfl (pc0 := 103) (pc' := 111) rfl (hb hby at_103) rfl ((if0 _ _).trans (feq (by decide)).2) (by decide) (by decide) k) ?_
        refine Go.of (T' := T0) (g' := (mkF mM 113 #[.val (.int aa), .val (.int ab), .val (.int ac), .val (.int ad), .val (.int (2 : Int32)), .val (.int cc), .val (.int (1 : Int32)), .unset, .unset, .unset, .unset, .unset, .unset, .unset] [(.int (2 : Int32))])) (fun _ k => XS.iload X0.hh X0.hx rfl (hb hby at_111) rfl k) ?_
        refine Go.of (T' := T0) (g' := (mkF mM 114 #[.val (.int aa), .val (.int ab), .val (.int ac), .val (.int ad), .val (.int (2 : Int32)), .val (.int cc), .val (.int (1 : Int32)), .unset, .unset, .unset, .unset, .unset, .unset, .unset] [(.int (1 : Int32)), (.int (2 : Int32))])) (fun _ k => XS.iconst X0.hh X0.hx rfl (hb hby at_113) k) ?_
        refine Go.of (T' := T0) (g' := (mkF mM 122 #[.val (.int aa), .val (.int ab), .val (.int ac), .val (.int ad), .val (.int (2 : Int32)), .val (.int cc), .val (.int (1 : Int32)), .unset, .unset, .unset, .unset, .unset, .unset, .unset] [])) (fun _ k => XS.icmpYes X0.hh X0.hx rfl (pc0 := 114) (pc' := 122) rfl (hb hby at_114) rfl (feq (by decide)).2 (by decide) (by decide) k) ?_
        refine X0.ldcR (n := 60) (z := Int32.ofNat ([45, 45, 119, 101, 97, 107, 45, 112, 97, 115, 115, 119, 111, 114, 100] : List Int32).length) (vs := (([45, 45, 119, 101, 97, 107, 45, 112, 97, 115, 115, 119, 111, 114, 100] : List Int32).map fun c => c.toInt8.toInt32).map Value.int) (hw _ (List.mem_of_getElem? (i := 107) rfl)) hwS (by decide +kernel) (by decide +kernel) (by decide +kernel) (by decide +kernel) (hb hby at_122) (by decide +kernel) (by decide) (by decide) (by decide) ?_
        intro T47 h47 q t_q kb_q X47 E47 A_q C_q V_q B_q N_q
        have z47 : h0.size ≤ h47.size := E47.1
        have l_q : q < h47.size := A_q.lt
        have lt_q : t_q < h47.size := B_q.lt
        have St_q : Str Z h47 q t_q kb_q [45, 45, 119, 101, 97, 107, 45, 112, 97, 115, 115, 119, 111, 114, 100] := ⟨A_q, V_q, C_q, B_q, by decide, by decide⟩
        show Go pP eE bB _ T47 (mkF mM 124 #[.val (.int aa), .val (.int ab), .val (.int ac), .val (.int ad), .val (.int (2 : Int32)), .val (.int cc), .val (.int (1 : Int32)), .unset, .unset, .unset, .unset, .unset, .unset, .unset] [(.ref q)])
        refine Go.of (T' := T47) (g' := (mkF mM 126 #[.val (.int aa), .val (.int ab), .val (.int ac), .val (.int ad), .val (.int (2 : Int32)), .val (.int cc), .val (.int (1 : Int32)), .unset, .unset, .val (.ref q), .unset, .unset, .unset, .unset] [])) (fun _ k => XS.astore X47.hh X47.hx rfl (hb hby at_124) rfl rfl (l' := #[.val (.int aa), .val (.int ab), .val (.int ac), .val (.int ad), .val (.int (2 : Int32)), .val (.int cc), .val (.int (1 : Int32)), .unset, .unset, .val (.ref q), .unset, .unset, .unset, .unset]) rfl k) ?_
        refine Go.of (T' := T47) (g' := (mkF mM 128 #[.val (.int aa), .val (.int ab), .val (.int ac), .val (.int ad), .val (.int (2 : Int32)), .val (.int cc), .val (.int (1 : Int32)), .unset, .unset, .val (.ref q), .unset, .unset, .unset, .unset] [(.int (2 : Int32))])) (fun _ k => XS.iload X47.hh X47.hx rfl (hb hby at_126) rfl k) ?_
        refine Go.of (T' := T47) (g' := (mkF mM 137 #[.val (.int aa), .val (.int ab), .val (.int ac), .val (.int ad), .val (.int (2 : Int32)), .val (.int cc), .val (.int (1 : Int32)), .unset, .unset, .val (.ref q), .unset, .unset, .unset, .unset] [])) (fun _ k => XS.ifYes X47.hh X47.hx rfl (pc0 := 128) (pc' := 137) rfl (hb hby at_128) rfl ((if0 _ _).trans (feq (by decide)).2) (by decide) (by decide) k) ?_
        refine Go.of (T' := T47) (g' := (mkF mM 139 #[.val (.int aa), .val (.int ab), .val (.int ac), .val (.int ad), .val (.int (2 : Int32)), .val (.int cc), .val (.int (1 : Int32)), .unset, .unset, .val (.ref q), .unset, .unset, .unset, .unset] [(.int (2 : Int32))])) (fun _ k => XS.iload X47.hh X47.hx rfl (hb hby at_137) rfl k) ?_
        refine Go.of (T' := T47) (g' := (mkF mM 140 #[.val (.int aa), .val (.int ab), .val (.int ac), .val (.int ad), .val (.int (2 : Int32)), .val (.int cc), .val (.int (1 : Int32)), .unset, .unset, .val (.ref q), .unset, .unset, .unset, .unset] [(.int (1 : Int32)), (.int (2 : Int32))])) (fun _ k => XS.iconst X47.hh X47.hx rfl (hb hby at_139) k) ?_
        refine Go.of (T' := T47) (g' := (mkF mM 149 #[.val (.int aa), .val (.int ab), .val (.int ac), .val (.int ad), .val (.int (2 : Int32)), .val (.int cc), .val (.int (1 : Int32)), .unset, .unset, .val (.ref q), .unset, .unset, .unset, .unset] [])) (fun _ k => XS.icmpYes X47.hh X47.hx rfl (pc0 := 140) (pc' := 149) rfl (hb hby at_140) rfl (feq (by decide)).2 (by decide) (by decide) k) ?_
        refine X47.getS (host := "") (Or.inl (hw _ (List.mem_of_getElem? (i := 108) rfl))) Via.refl (Sw.ext X47.ext0) (hb hby at_149) ?_
        intro T48 X48
        show Go pP eE bB _ T48 (mkF mM 152 #[.val (.int aa), .val (.int ab), .val (.int ac), .val (.int ad), .val (.int (2 : Int32)), .val (.int cc), .val (.int (1 : Int32)), .unset, .unset, .val (.ref q), .unset, .unset, .unset, .unset] [(.ref o2)])
        refine Go.of (T' := T48) (g' := (mkF mM 154 #[.val (.int aa), .val (.int ab), .val (.int ac), .val (.int ad), .val (.int (2 : Int32)), .val (.int cc), .val (.int (1 : Int32)), .unset, .unset, .val (.ref q), .val (.ref o2), .unset, .unset, .unset] [])) (fun _ k => XS.astore X48.hh X48.hx rfl (hb hby at_152) rfl rfl (l' := #[.val (.int aa), .val (.int ab), .val (.int ac), .val (.int ad), .val (.int (2 : Int32)), .val (.int cc), .val (.int (1 : Int32)), .unset, .unset, .val (.ref q), .val (.ref o2), .unset, .unset, .unset]) rfl k) ?_
        refine Go.of (T' := T48) (g' := (mkF mM 156 #[.val (.int aa), .val (.int ab), .val (.int ac), .val (.int ad), .val (.int (2 : Int32)), .val (.int cc), .val (.int (1 : Int32)), .unset, .unset, .val (.ref q), .val (.ref o2), .unset, .unset, .unset] [(.ref q)])) (fun _ k => XS.aload X48.hh X48.hx rfl (hb hby at_154) rfl rfl k) ?_
        have Sq : Str Z h47 q t_q kb_q W2 := St_q
        refine X48.callVN (W := 0) (argsL := []) (rest := []) (nc := 0) (ns := 0) (ws' := []) (Qn := fun v h' L => v = some (.int (Int32.ofNat W2.length)) ∧ L = [] ∧ h' = h47) (a := q) (C := "java/lang/String") (z := (⟨"java/lang/String", "length", "()I"⟩ : MethodName)) (hw _ (List.mem_of_getElem? (i := 12) rfl)) (hw _ (List.mem_of_getElem? (i := 13) rfl)) (fun _ q => notFace_of_selects (args := #[]) (mvT q (hw _ (List.mem_of_getElem? (i := 15) rfl)))) (hw _ (List.mem_of_getElem? (i := 15) rfl)) (hw _ (List.mem_of_getElem? (i := 14) rfl)) (by decide) (fun vm0 hZ => StrChars.Road.lenW (s := sS.setVm vm0) (W := 0) hZ hln (kI := 4) (hw _ (List.mem_of_getElem? (i := 3) rfl)) Sq.1 Sq.2.1 Sq.2.2.1 Sq.2.2.2.1 (StrChars.Road.codOf rfl fun c hc => (Sq.2.2.2.2.1 c hc).2) Sq.up (Sc.ext X48.ext0) hzc Sq.2.2.2.2.2 (by decide) (by decide)) (fun v h' L q => by obtain ⟨-, rfl, rfl⟩ := q; exact ⟨Fr.nil _, Keep.refl _ _⟩) Sq.1 pd_6 rfl rfl rfl (by rw [hml]; rfl) (by decide) (by decide) (hb hby at_156) all0 all0 all0 ?_
        intro v49 T49 h49 X49 K49 Q49
        obtain ⟨_, rfl, -, e49⟩ := Q49
        rw [e49] at X49
        show Go pP eE bB _ T49 (mkF mM 159 #[.val (.int aa), .val (.int ab), .val (.int ac), .val (.int ad), .val (.int (2 : Int32)), .val (.int cc), .val (.int (1 : Int32)), .unset, .unset, .val (.ref q), .val (.ref o2), .unset, .unset, .unset] [(.int (Int32.ofNat W2.length))])
        refine Go.of (T' := T49) (g' := (mkF mM 161 #[.val (.int aa), .val (.int ab), .val (.int ac), .val (.int ad), .val (.int (2 : Int32)), .val (.int cc), .val (.int (1 : Int32)), .unset, .unset, .val (.ref q), .val (.ref o2), .val (.int (Int32.ofNat W2.length)), .unset, .unset] [])) (fun _ k => XS.istore X49.hh X49.hx rfl (hb hby at_159) rfl (l' := #[.val (.int aa), .val (.int ab), .val (.int ac), .val (.int ad), .val (.int (2 : Int32)), .val (.int cc), .val (.int (1 : Int32)), .unset, .unset, .val (.ref q), .val (.ref o2), .val (.int (Int32.ofNat W2.length)), .unset, .unset]) rfl k) ?_
        refine Go.of (T' := T49) (g' := (mkF mM 163 #[.val (.int aa), .val (.int ab), .val (.int ac), .val (.int ad), .val (.int (2 : Int32)), .val (.int cc), .val (.int (1 : Int32)), .unset, .unset, .val (.ref q), .val (.ref o2), .val (.int (Int32.ofNat W2.length)), .unset, .unset] [(.int (1 : Int32))])) (fun _ k => XS.iload X49.hh X49.hx rfl (hb hby at_161) rfl k) ?_
        refine Go.of (T' := T49) (g' := (mkF mM 177 #[.val (.int aa), .val (.int ab), .val (.int ac), .val (.int ad), .val (.int (2 : Int32)), .val (.int cc), .val (.int (1 : Int32)), .unset, .unset, .val (.ref q), .val (.ref o2), .val (.int (Int32.ofNat W2.length)), .unset, .unset] [])) (fun _ k => XS.ifYes X49.hh X49.hx rfl (pc0 := 163) (pc' := 177) rfl (hb hby at_163) rfl ((if0 _ _).trans (feq (by decide)).2) (by decide) (by decide) k) ?_
        refine Go.of (T' := T49) (g' := (mkF mM 179 #[.val (.int aa), .val (.int ab), .val (.int ac), .val (.int ad), .val (.int (2 : Int32)), .val (.int cc), .val (.int (1 : Int32)), .unset, .unset, .val (.ref q), .val (.ref o2), .val (.int (Int32.ofNat W2.length)), .unset, .unset] [(.int (1 : Int32))])) (fun _ k => XS.iload X49.hh X49.hx rfl (hb hby at_177) rfl k) ?_
        refine Go.of (T' := T49) (g' := (mkF mM 180 #[.val (.int aa), .val (.int ab), .val (.int ac), .val (.int ad), .val (.int (2 : Int32)), .val (.int cc), .val (.int (1 : Int32)), .unset, .unset, .val (.ref q), .val (.ref o2), .val (.int (Int32.ofNat W2.length)), .unset, .unset] [(.int (1 : Int32)), (.int (1 : Int32))])) (fun _ k => XS.iconst X49.hh X49.hx rfl (hb hby at_179) k) ?_
        refine Go.of (T' := T49) (g' := (mkF mM 183 #[.val (.int aa), .val (.int ab), .val (.int ac), .val (.int ad), .val (.int (2 : Int32)), .val (.int cc), .val (.int (1 : Int32)), .unset, .unset, .val (.ref q), .val (.ref o2), .val (.int (Int32.ofNat W2.length)), .unset, .unset] [])) (fun _ k => XS.icmpNo X49.hh X49.hx rfl (hb hby at_180) rfl (teq (by decide)).2 k) ?_
        refine Go.of (T' := T49) (g' := (mkF mM 184 #[.val (.int aa), .val (.int ab), .val (.int ac), .val (.int ad), .val (.int (2 : Int32)), .val (.int cc), .val (.int (1 : Int32)), .unset, .unset, .val (.ref q), .val (.ref o2), .val (.int (Int32.ofNat W2.length)), .unset, .unset] [(.int ab)])) (fun _ k => XS.iloadN X49.hh X49.hx rfl (hb hby at_183) rfl k) ?_
        refine X49.ldcI (hw _ (List.mem_of_getElem? (i := 0) rfl)) (hb hby at_184) ?_
        show Go pP eE bB _ T49 (mkF mM 186 #[.val (.int aa), .val (.int ab), .val (.int ac), .val (.int ad), .val (.int (2 : Int32)), .val (.int cc), .val (.int (1 : Int32)), .unset, .unset, .val (.ref q), .val (.ref o2), .val (.int (Int32.ofNat W2.length)), .unset, .unset] [(.int (2147483647 : Int32)), (.int ab)])
        refine Go.of (T' := T49) (g' := (mkF mM 187 #[.val (.int aa), .val (.int ab), .val (.int ac), .val (.int ad), .val (.int (2 : Int32)), .val (.int cc), .val (.int (1 : Int32)), .unset, .unset, .val (.ref q), .val (.ref o2), .val (.int (Int32.ofNat W2.length)), .unset, .unset] [(.int (ab &&& (2147483647 : Int32)))])) (fun _ k => XS.iand X49.hh X49.hx rfl (hb hby at_186) rfl k) ?_
        refine Go.of (T' := T49) (g' := (mkF mM 189 #[.val (.int aa), .val (.int ab), .val (.int ac), .val (.int ad), .val (.int (2 : Int32)), .val (.int cc), .val (.int (1 : Int32)), .unset, .unset, .val (.ref q), .val (.ref o2), .val (.int (Int32.ofNat W2.length)), .unset, .unset] [(.int (Int32.ofNat W2.length)), (.int (ab &&& (2147483647 : Int32)))])) (fun _ k => XS.iload X49.hh X49.hx rfl (hb hby at_187) rfl k) ?_
        refine X49.irem (hb hby at_189) (by decide) ?_
        show Go pP eE bB _ T49 (mkF mM 190 #[.val (.int aa), .val (.int ab), .val (.int ac), .val (.int ad), .val (.int (2 : Int32)), .val (.int cc), .val (.int (1 : Int32)), .unset, .unset, .val (.ref q), .val (.ref o2), .val (.int (Int32.ofNat W2.length)), .unset, .unset] [(.int ((ab &&& (2147483647 : Int32)) % (Int32.ofNat W2.length)))])
        obtain ⟨pn, hpn, hpe⟩ := remN (ab &&& (2147483647 : Int32)) (and_nn _ 2147483647 (by decide)).1 W2.length (by decide) (by decide)
        rw [hpe]
        show Go pP eE bB _ T49 (mkF mM 190 #[.val (.int aa), .val (.int ab), .val (.int ac), .val (.int ad), .val (.int (2 : Int32)), .val (.int cc), .val (.int (1 : Int32)), .unset, .unset, .val (.ref q), .val (.ref o2), .val (.int (Int32.ofNat W2.length)), .unset, .unset] [(.int (Int32.ofNat pn))])
        have hpn' : pn < 15 := hpn
        refine Go.of (T' := T49) (g' := (mkF mM 192 #[.val (.int aa), .val (.int ab), .val (.int ac), .val (.int ad), .val (.int (2 : Int32)), .val (.int cc), .val (.int (1 : Int32)), .unset, .unset, .val (.ref q), .val (.ref o2), .val (.int (Int32.ofNat W2.length)), .val (.int (Int32.ofNat pn)), .unset] [])) (fun _ k => XS.istore X49.hh X49.hx rfl (hb hby at_190) rfl (l' := #[.val (.int aa), .val (.int ab), .val (.int ac), .val (.int ad), .val (.int (2 : Int32)), .val (.int cc), .val (.int (1 : Int32)), .unset, .unset, .val (.ref q), .val (.ref o2), .val (.int (Int32.ofNat W2.length)), .val (.int (Int32.ofNat pn)), .unset]) rfl k) ?_
        refine Go.of (T' := T49) (g' := (mkF mM 194 #[.val (.int aa), .val (.int ab), .val (.int ac), .val (.int ad), .val (.int (2 : Int32)), .val (.int cc), .val (.int (1 : Int32)), .unset, .unset, .val (.ref q), .val (.ref o2), .val (.int (Int32.ofNat W2.length)), .val (.int (Int32.ofNat pn)), .unset] [(.int (2 : Int32))])) (fun _ k => XS.iload X49.hh X49.hx rfl (hb hby at_192) rfl k) ?_
        refine X49.callS (W := 0) (argsL := [(.int (2 : Int32))]) (rest := []) (hw _ (List.mem_of_getElem? (i := 25) rfl)) (hw _ (List.mem_of_getElem? (i := 26) rfl)) (hw _ (List.mem_of_getElem? (i := 27) rfl)) (hw _ (List.mem_of_getElem? (i := 28) rfl)) (by decide) (chars_2 l Z a0 G h47) pd_7 rfl rfl rfl (by rw [hml]; rfl) (by decide) (by decide) (by decide) (by decide) (hb hby at_194) all0 all0 ?_
        intro v50 T50 h50 S50 X50 K50 Q50
        obtain ⟨b, kc_b, rfl, gb, V_b⟩ := Q50
        have X50 := X50 [] all0
        have z50 : h47.size ≤ h50.size := K50.1
        show Go pP eE bB _ T50 (mkF mM 197 #[.val (.int aa), .val (.int ab), .val (.int ac), .val (.int ad), .val (.int (2 : Int32)), .val (.int cc), .val (.int (1 : Int32)), .unset, .unset, .val (.ref q), .val (.ref o2), .val (.int (Int32.ofNat W2.length)), .val (.int (Int32.ofNat pn)), .unset] [(.ref b)])
        have l_b : b < h50.size := V_b.lt
        refine Go.of (T' := T50) (g' := (mkF mM 199 #[.val (.int aa), .val (.int ab), .val (.int ac), .val (.int ad), .val (.int (2 : Int32)), .val (.int cc), .val (.int (1 : Int32)), .unset, .unset, .val (.ref q), .val (.ref o2), .val (.int (Int32.ofNat W2.length)), .val (.int (Int32.ofNat pn)), .val (.ref b)] [])) (fun _ k => XS.astore X50.hh X50.hx rfl (hb hby at_197) rfl rfl (l' := #[.val (.int aa), .val (.int ab), .val (.int ac), .val (.int ad), .val (.int (2 : Int32)), .val (.int cc), .val (.int (1 : Int32)), .unset, .unset, .val (.ref q), .val (.ref o2), .val (.int (Int32.ofNat W2.length)), .val (.int (Int32.ofNat pn)), .val (.ref b)]) rfl k) ?_
        refine Go.of (T' := T50) (g' := (mkF mM 201 #[.val (.int aa), .val (.int ab), .val (.int ac), .val (.int ad), .val (.int (2 : Int32)), .val (.int cc), .val (.int (1 : Int32)), .unset, .unset, .val (.ref q), .val (.ref o2), .val (.int (Int32.ofNat W2.length)), .val (.int (Int32.ofNat pn)), .val (.ref b)] [(.ref b)])) (fun _ k => XS.aload X50.hh X50.hx rfl (hb hby at_199) rfl rfl k) ?_
        refine Go.of (T' := T50) (g' := (mkF mM 203 #[.val (.int aa), .val (.int ab), .val (.int ac), .val (.int ad), .val (.int (2 : Int32)), .val (.int cc), .val (.int (1 : Int32)), .unset, .unset, .val (.ref q), .val (.ref o2), .val (.int (Int32.ofNat W2.length)), .val (.int (Int32.ofNat pn)), .val (.ref b)] [(.int (Int32.ofNat pn)), (.ref b)])) (fun _ k => XS.iload X50.hh X50.hx rfl (hb hby at_201) rfl k) ?_
        refine Go.of (T' := T50) (g' := (mkF mM 205 #[.val (.int aa), .val (.int ab), .val (.int ac), .val (.int ad), .val (.int (2 : Int32)), .val (.int cc), .val (.int (1 : Int32)), .unset, .unset, .val (.ref q), .val (.ref o2), .val (.int (Int32.ofNat W2.length)), .val (.int (Int32.ofNat pn)), .val (.ref b)] [(.int cc), (.int (Int32.ofNat pn)), (.ref b)])) (fun _ k => XS.iload X50.hh X50.hx rfl (hb hby at_203) rfl k) ?_
        refine X50.stC pn V_b ⟨fun q => absurd ((i32lt (i := pn) (n := 0) (by omega) (by omega)).mp q) (by omega), (i32lt (i := pn) (n := 15) (by omega) (by omega)).mpr hpn'⟩ (by show (Int32.ofNat pn).toInt.toNat = pn; rw [ofNat_toInt (by omega)]; omega) hpn' (by omega) (Or.inr (by omega)) (hb hby at_205) ?_
        intro T51 h51 X51 K51 V_b
        have z51 : h50.size ≤ h51.size := K51.1
        have V_b : Arv Z h51 b kc_b .char (15 : Int32) ((W2.set pn cc).map Value.int) (.int 0) := by
          rw [nar255 cc r2.1 r2.2] at V_b
          rw [List.map_set]
          exact V_b
        show Go pP eE bB _ T51 (mkF mM 206 #[.val (.int aa), .val (.int ab), .val (.int ac), .val (.int ad), .val (.int (2 : Int32)), .val (.int cc), .val (.int (1 : Int32)), .unset, .unset, .val (.ref q), .val (.ref o2), .val (.int (Int32.ofNat W2.length)), .val (.int (Int32.ofNat pn)), .val (.ref b)] [])
        refine X51.newO (hw _ (List.mem_of_getElem? (i := 30) rfl)) (hw _ (List.mem_of_getElem? (i := 3) rfl)) (hw _ (List.mem_of_getElem? (i := 2) rfl)) (hb hby at_206) (by decide) (by decide) ?_
        intro T52 h52 r g_r X52 E52 A_r D_r
        have z52 : h51.size ≤ h52.size := E52.1
        have l_r : r < h52.size := A_r.lt
        have F_value_r : Fld Z h52 r "java/lang/String" "value" "[B" .null := D_r (Or.inr (hw _ (List.mem_of_getElem? (i := 5) rfl))) (ty := (.array .byte)) (by decide)
        have F_coder_r : Fld Z h52 r "java/lang/String" "coder" "B" (.int (0 : Int32)) := D_r (Or.inr (hw _ (List.mem_of_getElem? (i := 6) rfl))) (ty := .byte) (by decide)
        show Go pP eE bB _ T52 (mkF mM 209 #[.val (.int aa), .val (.int ab), .val (.int ac), .val (.int ad), .val (.int (2 : Int32)), .val (.int cc), .val (.int (1 : Int32)), .unset, .unset, .val (.ref q), .val (.ref o2), .val (.int (Int32.ofNat W2.length)), .val (.int (Int32.ofNat pn)), .val (.ref b)] [(.ref r)])
        refine Go.of (T' := T52) (g' := (mkF mM 210 #[.val (.int aa), .val (.int ab), .val (.int ac), .val (.int ad), .val (.int (2 : Int32)), .val (.int cc), .val (.int (1 : Int32)), .unset, .unset, .val (.ref q), .val (.ref o2), .val (.int (Int32.ofNat W2.length)), .val (.int (Int32.ofNat pn)), .val (.ref b)] [(.ref r), (.ref r)])) (fun _ k => XS.dup X52.hh X52.hx rfl (hb hby at_209) rfl rfl k) ?_
        refine Go.of (T' := T52) (g' := (mkF mM 212 #[.val (.int aa), .val (.int ab), .val (.int ac), .val (.int ad), .val (.int (2 : Int32)), .val (.int cc), .val (.int (1 : Int32)), .unset, .unset, .val (.ref q), .val (.ref o2), .val (.int (Int32.ofNat W2.length)), .val (.int (Int32.ofNat pn)), .val (.ref b)] [(.ref b), (.ref r), (.ref r)])) (fun _ k => XS.aload X52.hh X52.hx rfl (hb hby at_210) rfl rfl k) ?_
        have hp := set_rng (k := pn) W2r r2
        have V_b := (V_b.ext E52)
        refine X52.callCN (W := 1) (argsL := [(.ref b)]) (rest := [(.ref r)]) (nc := 1) (ns := 15) (ws' := [r]) (a := r) rfl (hw _ (List.mem_of_getElem? (i := 31) rfl)) (hw _ (List.mem_of_getElem? (i := 32) rfl)) (hw _ (List.mem_of_getElem? (i := 33) rfl)) (by decide) (fun vm0 hZ => StrChars.Road.backV (s := sS.setVm vm0) (W := 1) hZ hws (kI := 4) (hw _ (List.mem_of_getElem? (i := 3) rfl)) (cs := (W2.set pn cc)) (bs := (W2.set pn cc).map (fun c => c.toInt8.toInt32)) (n := 15) (n0 := Z.heap.size) (by omega) (by omega) A_r F_value_r F_coder_r V_b (Sc.ext X52.ext0) hzc (by rw [List.length_set]; rfl) rfl (by decide) (by decide) hp rfl (by decide) (by decide)) (fun v h' L q => ⟨q.2.1, q.2.2.1⟩) pd_8 rfl rfl rfl (by rw [hml]; rfl) (by decide) (by decide) (hb hby at_212) (allS (by omega) all0) (allS (Or.inr (by omega)) all0) (allS (Sfe.mem (List.mem_of_getElem? (i := 0) rfl)) all0) ?_
        intro v53 T53 h53 X53 K53 Q53
        obtain ⟨_, ⟨rfl, -, -, A_r, C_r, t_r, kb_r, gt_r, gs_r, -, V_r, B_r⟩⟩ := Q53
        have z53 : h52.size ≤ h53.size := K53.1
        show Go pP eE bB _ T53 (mkF mM 215 #[.val (.int aa), .val (.int ab), .val (.int ac), .val (.int ad), .val (.int (2 : Int32)), .val (.int cc), .val (.int (1 : Int32)), .unset, .unset, .val (.ref q), .val (.ref o2), .val (.int (Int32.ofNat W2.length)), .val (.int (Int32.ofNat pn)), .val (.ref b)] [(.ref r)])
        have lt_r : t_r < h53.size := B_r.lt
        have St_r : Str Z h53 r t_r kb_r (W2.set pn cc) := ⟨A_r, V_r, C_r, by rw [List.length_set]; exact B_r, hp, by rw [List.length_set]; decide⟩
        refine Go.of (T' := T53) (g' := (mkF mM 217 #[.val (.int aa), .val (.int ab), .val (.int ac), .val (.int ad), .val (.int (2 : Int32)), .val (.int cc), .val (.int (1 : Int32)), .val (.ref r), .unset, .val (.ref q), .val (.ref o2), .val (.int (Int32.ofNat W2.length)), .val (.int (Int32.ofNat pn)), .val (.ref b)] [])) (fun _ k => XS.astore X53.hh X53.hx rfl (hb hby at_215) rfl rfl (l' := #[.val (.int aa), .val (.int ab), .val (.int ac), .val (.int ad), .val (.int (2 : Int32)), .val (.int cc), .val (.int (1 : Int32)), .val (.ref r), .unset, .val (.ref q), .val (.ref o2), .val (.int (Int32.ofNat W2.length)), .val (.int (Int32.ofNat pn)), .val (.ref b)]) rfl k) ?_
        refine Go.of (T' := T53) (g' := (mkF mM 219 #[.val (.int aa), .val (.int ab), .val (.int ac), .val (.int ad), .val (.int (2 : Int32)), .val (.int cc), .val (.int (1 : Int32)), .val (.ref r), .unset, .val (.ref q), .val (.ref o2), .val (.int (Int32.ofNat W2.length)), .val (.int (Int32.ofNat pn)), .val (.ref b)] [(.ref q)])) (fun _ k => XS.aload X53.hh X53.hx rfl (hb hby at_217) rfl rfl k) ?_
        refine Go.of (T' := T53) (g' := (mkF mM 221 #[.val (.int aa), .val (.int ab), .val (.int ac), .val (.int ad), .val (.int (2 : Int32)), .val (.int cc), .val (.int (1 : Int32)), .val (.ref r), .unset, .val (.ref q), .val (.ref o2), .val (.int (Int32.ofNat W2.length)), .val (.int (Int32.ofNat pn)), .val (.ref b)] [(.int (Int32.ofNat pn)), (.ref q)])) (fun _ k => XS.iload X53.hh X53.hx rfl (hb hby at_219) rfl k) ?_
        have Sq := ((((Sq.keep K50 nin0 nin0).keep K51 (ninN (by omega) nin0) (ninN (by omega) nin0)).ext E52).keep K53 (ninN (by omega) nin0) (ninN (by omega) nin0))
        refine X53.callVN (W := 0) (argsL := [(.int (Int32.ofNat pn))]) (rest := []) (nc := 0) (ns := 0) (ws' := []) (Qn := fun v h' L => v = some (.int (W2.getD pn 0)) ∧ L = [] ∧ h' = h53) (a := q) (C := "java/lang/String") (z := (⟨"java/lang/String", "charAt", "(I)C"⟩ : MethodName)) (hw _ (List.mem_of_getElem? (i := 51) rfl)) (hw _ (List.mem_of_getElem? (i := 52) rfl)) (fun _ q => notFace_of_selects (args := #[]) (mvT q (hw _ (List.mem_of_getElem? (i := 54) rfl)))) (hw _ (List.mem_of_getElem? (i := 54) rfl)) (hw _ (List.mem_of_getElem? (i := 53) rfl)) (by decide) (fun vm0 hZ => StrChars.Road.chN (s := sS.setVm vm0) (W := 0) hZ hch (kI := 4) (hw _ (List.mem_of_getElem? (i := 3) rfl)) Sq.1 Sq.2.1 Sq.2.2.1 Sq.2.2.2.1 (StrChars.Road.codOf rfl fun c hc => (Sq.2.2.2.2.1 c hc).2) Sq.up (Sc.ext X53.ext0) hzc (Sf.ext X53.ext0) rfm Sq.2.2.2.2.2 (i := pn) hpn (j := (Int32.ofNat pn)) rfl (by decide) (by decide)) (fun v h' L q => by obtain ⟨-, rfl, rfl⟩ := q; exact ⟨Fr.nil _, Keep.refl _ _⟩) Sq.1 pd_9 rfl rfl rfl (by rw [hml]; rfl) (by decide) (by decide) (hb hby at_221) all0 all0 all0 ?_
        intro v54 T54 h54 X54 K54 Q54
        obtain ⟨_, rfl, -, e54⟩ := Q54
        rw [e54] at X54
        show Go pP eE bB _ T54 (mkF mM 224 #[.val (.int aa), .val (.int ab), .val (.int ac), .val (.int ad), .val (.int (2 : Int32)), .val (.int cc), .val (.int (1 : Int32)), .val (.ref r), .unset, .val (.ref q), .val (.ref o2), .val (.int (Int32.ofNat W2.length)), .val (.int (Int32.ofNat pn)), .val (.ref b)] [(.int (W2.getD pn 0))])
        refine Go.of (T' := T54) (g' := (mkF mM 226 #[.val (.int aa), .val (.int ab), .val (.int ac), .val (.int ad), .val (.int (2 : Int32)), .val (.int cc), .val (.int (1 : Int32)), .val (.ref r), .unset, .val (.ref q), .val (.ref o2), .val (.int (Int32.ofNat W2.length)), .val (.int (Int32.ofNat pn)), .val (.ref b)] [(.int cc), (.int (W2.getD pn 0))])) (fun _ k => XS.iload X54.hh X54.hx rfl (hb hby at_224) rfl k) ?_
        have hss := set_same (c := cc) hpn
        by_cases hc226 : (W2.getD pn 0) = cc
        · refine Go.of (T' := T54) (g' := (mkF mM 229 #[.val (.int aa), .val (.int ab), .val (.int ac), .val (.int ad), .val (.int (2 : Int32)), .val (.int cc), .val (.int (1 : Int32)), .val (.ref r), .unset, .val (.ref q), .val (.ref o2), .val (.int (Int32.ofNat W2.length)), .val (.int (Int32.ofNat pn)), .val (.ref b)] [])) (fun _ k => XS.icmpNo X54.hh X54.hx rfl (hb hby at_226) rfl (teq hc226).2 k) ?_
          refine Go.of (T' := T54) (g' := (mkF mM 231 #[.val (.int aa), .val (.int ab), .val (.int ac), .val (.int ad), .val (.int (2 : Int32)), .val (.int cc), .val (.int (1 : Int32)), .val (.ref r), .unset, .val (.ref q), .val (.ref o2), .val (.int (Int32.ofNat W2.length)), .val (.int (Int32.ofNat pn)), .val (.ref b)] [(.ref o2)])) (fun _ k => XS.aload X54.hh X54.hx rfl (hb hby at_229) rfl rfl k) ?_
          refine Go.of (T' := T54) (g' := (mkF mM 235 #[.val (.int aa), .val (.int ab), .val (.int ac), .val (.int ad), .val (.int (2 : Int32)), .val (.int cc), .val (.int (1 : Int32)), .val (.ref r), .unset, .val (.ref q), .val (.ref o2), .val (.int (Int32.ofNat W2.length)), .val (.int (Int32.ofNat pn)), .val (.ref b)] [(.ref o2)])) (fun _ k => XS.goto X54.hh X54.hx rfl (pc0 := 231) (pc' := 235) rfl (hb hby at_231) (by decide) (by decide) k) ?_
          refine Go.of (T' := T54) (g' := (mkF mM 237 #[.val (.int aa), .val (.int ab), .val (.int ac), .val (.int ad), .val (.int (2 : Int32)), .val (.int cc), .val (.int (1 : Int32)), .val (.ref r), .val (.ref o2), .val (.ref q), .val (.ref o2), .val (.int (Int32.ofNat W2.length)), .val (.int (Int32.ofNat pn)), .val (.ref b)] [])) (fun _ k => XS.astore X54.hh X54.hx rfl (hb hby at_235) rfl rfl (l' := #[.val (.int aa), .val (.int ab), .val (.int ac), .val (.int ad), .val (.int (2 : Int32)), .val (.int cc), .val (.int (1 : Int32)), .val (.ref r), .val (.ref o2), .val (.ref q), .val (.ref o2), .val (.int (Int32.ofNat W2.length)), .val (.int (Int32.ofNat pn)), .val (.ref b)]) rfl k) ?_
          refine Go.of (T' := T54) (g' := (mkF mM 296 #[.val (.int aa), .val (.int ab), .val (.int ac), .val (.int ad), .val (.int (2 : Int32)), .val (.int cc), .val (.int (1 : Int32)), .val (.ref r), .val (.ref o2), .val (.ref q), .val (.ref o2), .val (.int (Int32.ofNat W2.length)), .val (.int (Int32.ofNat pn)), .val (.ref b)] [])) (fun _ k => XS.goto X54.hh X54.hx rfl (pc0 := 237) (pc' := 296) rfl (hb hby at_237) (by decide) (by decide) k) ?_
          exact fin _ _ _ _ _ _ _ _ _ _ _ _ _ _ _ _ _ (X54.mono (by decide) (by decide)) St_r (by rw [(pick_2 (by rw [List.length_set]; rfl)), if_pos (hss.mpr hc226)])
        · refine Go.of (T' := T54) (g' := (mkF mM 234 #[.val (.int aa), .val (.int ab), .val (.int ac), .val (.int ad), .val (.int (2 : Int32)), .val (.int cc), .val (.int (1 : Int32)), .val (.ref r), .unset, .val (.ref q), .val (.ref o2), .val (.int (Int32.ofNat W2.length)), .val (.int (Int32.ofNat pn)), .val (.ref b)] [])) (fun _ k => XS.icmpYes X54.hh X54.hx rfl (pc0 := 226) (pc' := 234) rfl (hb hby at_226) rfl (feq hc226).2 (by decide) (by decide) k) ?_
          refine Go.of (T' := T54) (g' := (mkF mM 235 #[.val (.int aa), .val (.int ab), .val (.int ac), .val (.int ad), .val (.int (2 : Int32)), .val (.int cc), .val (.int (1 : Int32)), .val (.ref r), .unset, .val (.ref q), .val (.ref o2), .val (.int (Int32.ofNat W2.length)), .val (.int (Int32.ofNat pn)), .val (.ref b)] [.null])) (fun _ k => XS.aconstNull X54.hh X54.hx rfl (hb hby at_234) k) ?_
          refine Go.of (T' := T54) (g' := (mkF mM 237 #[.val (.int aa), .val (.int ab), .val (.int ac), .val (.int ad), .val (.int (2 : Int32)), .val (.int cc), .val (.int (1 : Int32)), .val (.ref r), .val .null, .val (.ref q), .val (.ref o2), .val (.int (Int32.ofNat W2.length)), .val (.int (Int32.ofNat pn)), .val (.ref b)] [])) (fun _ k => XS.astore X54.hh X54.hx rfl (hb hby at_235) rfl rfl (l' := #[.val (.int aa), .val (.int ab), .val (.int ac), .val (.int ad), .val (.int (2 : Int32)), .val (.int cc), .val (.int (1 : Int32)), .val (.ref r), .val .null, .val (.ref q), .val (.ref o2), .val (.int (Int32.ofNat W2.length)), .val (.int (Int32.ofNat pn)), .val (.ref b)]) rfl k) ?_
          refine Go.of (T' := T54) (g' := (mkF mM 296 #[.val (.int aa), .val (.int ab), .val (.int ac), .val (.int ad), .val (.int (2 : Int32)), .val (.int cc), .val (.int (1 : Int32)), .val (.ref r), .val .null, .val (.ref q), .val (.ref o2), .val (.int (Int32.ofNat W2.length)), .val (.int (Int32.ofNat pn)), .val (.ref b)] [])) (fun _ k => XS.goto X54.hh X54.hx rfl (pc0 := 237) (pc' := 296) rfl (hb hby at_237) (by decide) (by decide) k) ?_
          exact fin _ _ _ _ _ _ _ _ _ _ _ _ _ _ _ _ _ (X54.mono (by decide) (by decide)) St_r (by rw [(pick_2 (by rw [List.length_set]; rfl)), if_neg fun q => hc226 (hss.mp q)])
      · show Go pP eE bB _ T0 (mkF mM 21 #[.val (.int aa), .val (.int ab), .val (.int ac), .val (.int ad), .val (.int (2 : Int32)), .val (.int cc), .val (.int (2 : Int32)), .unset, .unset, .unset, .unset, .unset, .unset, .unset] [])
        refine Go.of (T' := T0) (g' := (mkF mM 23 #[.val (.int aa), .val (.int ab), .val (.int ac), .val (.int ad), .val (.int (2 : Int32)), .val (.int cc), .val (.int (2 : Int32)), .unset, .unset, .unset, .unset, .unset, .unset, .unset] [(.int (2 : Int32))])) (fun _ k => XS.iload X0.hh X0.hx rfl (hb hby at_21) rfl k) ?_
        refine Go.of (T' := T0) (g' := (mkF mM 24 #[.val (.int aa), .val (.int ab), .val (.int ac), .val (.int ad), .val (.int (2 : Int32)), .val (.int cc), .val (.int (2 : Int32)), .unset, .unset, .unset, .unset, .unset, .unset, .unset] [(.int (3 : Int32)), (.int (2 : Int32))])) (fun _ k => XS.iconst X0.hh X0.hx rfl (hb hby at_23) k) ?_
        refine Go.of (T' := T0) (g' := (mkF mM 101 #[.val (.int aa), .val (.int ab), .val (.int ac), .val (.int ad), .val (.int (2 : Int32)), .val (.int cc), .val (.int (2 : Int32)), .unset, .unset, .unset, .unset, .unset, .unset, .unset] [])) (fun _ k => XS.icmpYes X0.hh X0.hx rfl (pc0 := 24) (pc' := 101) rfl (hb hby at_24) rfl (feq (by decide)).2 (by decide) (by decide) k) ?_
        refine Go.of (T' := T0) (g' := (mkF mM 103 #[.val (.int aa), .val (.int ab), .val (.int ac), .val (.int ad), .val (.int (2 : Int32)), .val (.int cc), .val (.int (2 : Int32)), .unset, .unset, .unset, .unset, .unset, .unset, .unset] [(.int (2 : Int32))])) (fun _ k => XS.iload X0.hh X0.hx rfl (hb hby at_101) rfl k) ?_
        refine Go.of (T' := T0) (g' := (mkF mM 111 #[.val (.int aa), .val (.int ab), .val (.int ac), .val (.int ad), .val (.int (2 : Int32)), .val (.int cc), .val (.int (2 : Int32)), .unset, .unset, .unset, .unset, .unset, .unset, .unset] [])) (fun _ k => XS.ifYes X0.hh X0.hx rfl (pc0 := 103) (pc' := 111) rfl (hb hby at_103) rfl ((if0 _ _).trans (feq (by decide)).2) (by decide) (by decide) k) ?_
        refine Go.of (T' := T0) (g' := (mkF mM 113 #[.val (.int aa), .val (.int ab), .val (.int ac), .val (.int ad), .val (.int (2 : Int32)), .val (.int cc), .val (.int (2 : Int32)), .unset, .unset, .unset, .unset, .unset, .unset, .unset] [(.int (2 : Int32))])) (fun _ k => XS.iload X0.hh X0.hx rfl (hb hby at_111) rfl k) ?_
        refine Go.of (T' := T0) (g' := (mkF mM 114 #[.val (.int aa), .val (.int ab), .val (.int ac), .val (.int ad), .val (.int (2 : Int32)), .val (.int cc), .val (.int (2 : Int32)), .unset, .unset, .unset, .unset, .unset, .unset, .unset] [(.int (1 : Int32)), (.int (2 : Int32))])) (fun _ k => XS.iconst X0.hh X0.hx rfl (hb hby at_113) k) ?_
        refine Go.of (T' := T0) (g' := (mkF mM 122 #[.val (.int aa), .val (.int ab), .val (.int ac), .val (.int ad), .val (.int (2 : Int32)), .val (.int cc), .val (.int (2 : Int32)), .unset, .unset, .unset, .unset, .unset, .unset, .unset] [])) (fun _ k => XS.icmpYes X0.hh X0.hx rfl (pc0 := 114) (pc' := 122) rfl (hb hby at_114) rfl (feq (by decide)).2 (by decide) (by decide) k) ?_
        refine X0.ldcR (n := 60) (z := Int32.ofNat ([45, 45, 119, 101, 97, 107, 45, 112, 97, 115, 115, 119, 111, 114, 100] : List Int32).length) (vs := (([45, 45, 119, 101, 97, 107, 45, 112, 97, 115, 115, 119, 111, 114, 100] : List Int32).map fun c => c.toInt8.toInt32).map Value.int) (hw _ (List.mem_of_getElem? (i := 107) rfl)) hwS (by decide +kernel) (by decide +kernel) (by decide +kernel) (by decide +kernel) (hb hby at_122) (by decide +kernel) (by decide) (by decide) (by decide) ?_
        intro T55 h55 q t_q kb_q X55 E55 A_q C_q V_q B_q N_q
        have z55 : h0.size ≤ h55.size := E55.1
        have l_q : q < h55.size := A_q.lt
        have lt_q : t_q < h55.size := B_q.lt
        have St_q : Str Z h55 q t_q kb_q [45, 45, 119, 101, 97, 107, 45, 112, 97, 115, 115, 119, 111, 114, 100] := ⟨A_q, V_q, C_q, B_q, by decide, by decide⟩
        show Go pP eE bB _ T55 (mkF mM 124 #[.val (.int aa), .val (.int ab), .val (.int ac), .val (.int ad), .val (.int (2 : Int32)), .val (.int cc), .val (.int (2 : Int32)), .unset, .unset, .unset, .unset, .unset, .unset, .unset] [(.ref q)])
        refine Go.of (T' := T55) (g' := (mkF mM 126 #[.val (.int aa), .val (.int ab), .val (.int ac), .val (.int ad), .val (.int (2 : Int32)), .val (.int cc), .val (.int (2 : Int32)), .unset, .unset, .val (.ref q), .unset, .unset, .unset, .unset] [])) (fun _ k => XS.astore X55.hh X55.hx rfl (hb hby at_124) rfl rfl (l' := #[.val (.int aa), .val (.int ab), .val (.int ac), .val (.int ad), .val (.int (2 : Int32)), .val (.int cc), .val (.int (2 : Int32)), .unset, .unset, .val (.ref q), .unset, .unset, .unset, .unset]) rfl k) ?_
        refine Go.of (T' := T55) (g' := (mkF mM 128 #[.val (.int aa), .val (.int ab), .val (.int ac), .val (.int ad), .val (.int (2 : Int32)), .val (.int cc), .val (.int (2 : Int32)), .unset, .unset, .val (.ref q), .unset, .unset, .unset, .unset] [(.int (2 : Int32))])) (fun _ k => XS.iload X55.hh X55.hx rfl (hb hby at_126) rfl k) ?_
        refine Go.of (T' := T55) (g' := (mkF mM 137 #[.val (.int aa), .val (.int ab), .val (.int ac), .val (.int ad), .val (.int (2 : Int32)), .val (.int cc), .val (.int (2 : Int32)), .unset, .unset, .val (.ref q), .unset, .unset, .unset, .unset] [])) (fun _ k => XS.ifYes X55.hh X55.hx rfl (pc0 := 128) (pc' := 137) rfl (hb hby at_128) rfl ((if0 _ _).trans (feq (by decide)).2) (by decide) (by decide) k) ?_
        refine Go.of (T' := T55) (g' := (mkF mM 139 #[.val (.int aa), .val (.int ab), .val (.int ac), .val (.int ad), .val (.int (2 : Int32)), .val (.int cc), .val (.int (2 : Int32)), .unset, .unset, .val (.ref q), .unset, .unset, .unset, .unset] [(.int (2 : Int32))])) (fun _ k => XS.iload X55.hh X55.hx rfl (hb hby at_137) rfl k) ?_
        refine Go.of (T' := T55) (g' := (mkF mM 140 #[.val (.int aa), .val (.int ab), .val (.int ac), .val (.int ad), .val (.int (2 : Int32)), .val (.int cc), .val (.int (2 : Int32)), .unset, .unset, .val (.ref q), .unset, .unset, .unset, .unset] [(.int (1 : Int32)), (.int (2 : Int32))])) (fun _ k => XS.iconst X55.hh X55.hx rfl (hb hby at_139) k) ?_
        refine Go.of (T' := T55) (g' := (mkF mM 149 #[.val (.int aa), .val (.int ab), .val (.int ac), .val (.int ad), .val (.int (2 : Int32)), .val (.int cc), .val (.int (2 : Int32)), .unset, .unset, .val (.ref q), .unset, .unset, .unset, .unset] [])) (fun _ k => XS.icmpYes X55.hh X55.hx rfl (pc0 := 140) (pc' := 149) rfl (hb hby at_140) rfl (feq (by decide)).2 (by decide) (by decide) k) ?_
        refine X55.getS (host := "") (Or.inl (hw _ (List.mem_of_getElem? (i := 108) rfl))) Via.refl (Sw.ext X55.ext0) (hb hby at_149) ?_
        intro T56 X56
        show Go pP eE bB _ T56 (mkF mM 152 #[.val (.int aa), .val (.int ab), .val (.int ac), .val (.int ad), .val (.int (2 : Int32)), .val (.int cc), .val (.int (2 : Int32)), .unset, .unset, .val (.ref q), .unset, .unset, .unset, .unset] [(.ref o2)])
        refine Go.of (T' := T56) (g' := (mkF mM 154 #[.val (.int aa), .val (.int ab), .val (.int ac), .val (.int ad), .val (.int (2 : Int32)), .val (.int cc), .val (.int (2 : Int32)), .unset, .unset, .val (.ref q), .val (.ref o2), .unset, .unset, .unset] [])) (fun _ k => XS.astore X56.hh X56.hx rfl (hb hby at_152) rfl rfl (l' := #[.val (.int aa), .val (.int ab), .val (.int ac), .val (.int ad), .val (.int (2 : Int32)), .val (.int cc), .val (.int (2 : Int32)), .unset, .unset, .val (.ref q), .val (.ref o2), .unset, .unset, .unset]) rfl k) ?_
        refine Go.of (T' := T56) (g' := (mkF mM 156 #[.val (.int aa), .val (.int ab), .val (.int ac), .val (.int ad), .val (.int (2 : Int32)), .val (.int cc), .val (.int (2 : Int32)), .unset, .unset, .val (.ref q), .val (.ref o2), .unset, .unset, .unset] [(.ref q)])) (fun _ k => XS.aload X56.hh X56.hx rfl (hb hby at_154) rfl rfl k) ?_
        have Sq : Str Z h55 q t_q kb_q W2 := St_q
        refine X56.callVN (W := 0) (argsL := []) (rest := []) (nc := 0) (ns := 0) (ws' := []) (Qn := fun v h' L => v = some (.int (Int32.ofNat W2.length)) ∧ L = [] ∧ h' = h55) (a := q) (C := "java/lang/String") (z := (⟨"java/lang/String", "length", "()I"⟩ : MethodName)) (hw _ (List.mem_of_getElem? (i := 12) rfl)) (hw _ (List.mem_of_getElem? (i := 13) rfl)) (fun _ q => notFace_of_selects (args := #[]) (mvT q (hw _ (List.mem_of_getElem? (i := 15) rfl)))) (hw _ (List.mem_of_getElem? (i := 15) rfl)) (hw _ (List.mem_of_getElem? (i := 14) rfl)) (by decide) (fun vm0 hZ => StrChars.Road.lenW (s := sS.setVm vm0) (W := 0) hZ hln (kI := 4) (hw _ (List.mem_of_getElem? (i := 3) rfl)) Sq.1 Sq.2.1 Sq.2.2.1 Sq.2.2.2.1 (StrChars.Road.codOf rfl fun c hc => (Sq.2.2.2.2.1 c hc).2) Sq.up (Sc.ext X56.ext0) hzc Sq.2.2.2.2.2 (by decide) (by decide)) (fun v h' L q => by obtain ⟨-, rfl, rfl⟩ := q; exact ⟨Fr.nil _, Keep.refl _ _⟩) Sq.1 pd_6 rfl rfl rfl (by rw [hml]; rfl) (by decide) (by decide) (hb hby at_156) all0 all0 all0 ?_
        intro v57 T57 h57 X57 K57 Q57
        obtain ⟨_, rfl, -, e57⟩ := Q57
        rw [e57] at X57
        show Go pP eE bB _ T57 (mkF mM 159 #[.val (.int aa), .val (.int ab), .val (.int ac), .val (.int ad), .val (.int (2 : Int32)), .val (.int cc), .val (.int (2 : Int32)), .unset, .unset, .val (.ref q), .val (.ref o2), .unset, .unset, .unset] [(.int (Int32.ofNat W2.length))])
        refine Go.of (T' := T57) (g' := (mkF mM 161 #[.val (.int aa), .val (.int ab), .val (.int ac), .val (.int ad), .val (.int (2 : Int32)), .val (.int cc), .val (.int (2 : Int32)), .unset, .unset, .val (.ref q), .val (.ref o2), .val (.int (Int32.ofNat W2.length)), .unset, .unset] [])) (fun _ k => XS.istore X57.hh X57.hx rfl (hb hby at_159) rfl (l' := #[.val (.int aa), .val (.int ab), .val (.int ac), .val (.int ad), .val (.int (2 : Int32)), .val (.int cc), .val (.int (2 : Int32)), .unset, .unset, .val (.ref q), .val (.ref o2), .val (.int (Int32.ofNat W2.length)), .unset, .unset]) rfl k) ?_
        refine Go.of (T' := T57) (g' := (mkF mM 163 #[.val (.int aa), .val (.int ab), .val (.int ac), .val (.int ad), .val (.int (2 : Int32)), .val (.int cc), .val (.int (2 : Int32)), .unset, .unset, .val (.ref q), .val (.ref o2), .val (.int (Int32.ofNat W2.length)), .unset, .unset] [(.int (2 : Int32))])) (fun _ k => XS.iload X57.hh X57.hx rfl (hb hby at_161) rfl k) ?_
        refine Go.of (T' := T57) (g' := (mkF mM 177 #[.val (.int aa), .val (.int ab), .val (.int ac), .val (.int ad), .val (.int (2 : Int32)), .val (.int cc), .val (.int (2 : Int32)), .unset, .unset, .val (.ref q), .val (.ref o2), .val (.int (Int32.ofNat W2.length)), .unset, .unset] [])) (fun _ k => XS.ifYes X57.hh X57.hx rfl (pc0 := 163) (pc' := 177) rfl (hb hby at_163) rfl ((if0 _ _).trans (feq (by decide)).2) (by decide) (by decide) k) ?_
        refine Go.of (T' := T57) (g' := (mkF mM 179 #[.val (.int aa), .val (.int ab), .val (.int ac), .val (.int ad), .val (.int (2 : Int32)), .val (.int cc), .val (.int (2 : Int32)), .unset, .unset, .val (.ref q), .val (.ref o2), .val (.int (Int32.ofNat W2.length)), .unset, .unset] [(.int (2 : Int32))])) (fun _ k => XS.iload X57.hh X57.hx rfl (hb hby at_177) rfl k) ?_
        refine Go.of (T' := T57) (g' := (mkF mM 180 #[.val (.int aa), .val (.int ab), .val (.int ac), .val (.int ad), .val (.int (2 : Int32)), .val (.int cc), .val (.int (2 : Int32)), .unset, .unset, .val (.ref q), .val (.ref o2), .val (.int (Int32.ofNat W2.length)), .unset, .unset] [(.int (1 : Int32)), (.int (2 : Int32))])) (fun _ k => XS.iconst X57.hh X57.hx rfl (hb hby at_179) k) ?_
        refine Go.of (T' := T57) (g' := (mkF mM 240 #[.val (.int aa), .val (.int ab), .val (.int ac), .val (.int ad), .val (.int (2 : Int32)), .val (.int cc), .val (.int (2 : Int32)), .unset, .unset, .val (.ref q), .val (.ref o2), .val (.int (Int32.ofNat W2.length)), .unset, .unset] [])) (fun _ k => XS.icmpYes X57.hh X57.hx rfl (pc0 := 180) (pc' := 240) rfl (hb hby at_180) rfl (feq (by decide)).2 (by decide) (by decide) k) ?_
        refine Go.of (T' := T57) (g' := (mkF mM 242 #[.val (.int aa), .val (.int ab), .val (.int ac), .val (.int ad), .val (.int (2 : Int32)), .val (.int cc), .val (.int (2 : Int32)), .unset, .unset, .val (.ref q), .val (.ref o2), .val (.int (Int32.ofNat W2.length)), .unset, .unset] [(.int (2 : Int32))])) (fun _ k => XS.iload X57.hh X57.hx rfl (hb hby at_240) rfl k) ?_
        refine Go.of (T' := T57) (g' := (mkF mM 243 #[.val (.int aa), .val (.int ab), .val (.int ac), .val (.int ad), .val (.int (2 : Int32)), .val (.int cc), .val (.int (2 : Int32)), .unset, .unset, .val (.ref q), .val (.ref o2), .val (.int (Int32.ofNat W2.length)), .unset, .unset] [(.int (2 : Int32)), (.int (2 : Int32))])) (fun _ k => XS.iconst X57.hh X57.hx rfl (hb hby at_242) k) ?_
        refine Go.of (T' := T57) (g' := (mkF mM 246 #[.val (.int aa), .val (.int ab), .val (.int ac), .val (.int ad), .val (.int (2 : Int32)), .val (.int cc), .val (.int (2 : Int32)), .unset, .unset, .val (.ref q), .val (.ref o2), .val (.int (Int32.ofNat W2.length)), .unset, .unset] [])) (fun _ k => XS.icmpNo X57.hh X57.hx rfl (hb hby at_243) rfl (teq (by decide)).2 k) ?_
        refine X57.newO (hw _ (List.mem_of_getElem? (i := 30) rfl)) (hw _ (List.mem_of_getElem? (i := 3) rfl)) (hw _ (List.mem_of_getElem? (i := 2) rfl)) (hb hby at_246) (by decide) (by decide) ?_
        intro T58 h58 r g_r X58 E58 A_r D_r
        have z58 : h55.size ≤ h58.size := E58.1
        have l_r : r < h58.size := A_r.lt
        have F_value_r : Fld Z h58 r "java/lang/String" "value" "[B" .null := D_r (Or.inr (hw _ (List.mem_of_getElem? (i := 5) rfl))) (ty := (.array .byte)) (by decide)
        have F_coder_r : Fld Z h58 r "java/lang/String" "coder" "B" (.int (0 : Int32)) := D_r (Or.inr (hw _ (List.mem_of_getElem? (i := 6) rfl))) (ty := .byte) (by decide)
        show Go pP eE bB _ T58 (mkF mM 249 #[.val (.int aa), .val (.int ab), .val (.int ac), .val (.int ad), .val (.int (2 : Int32)), .val (.int cc), .val (.int (2 : Int32)), .unset, .unset, .val (.ref q), .val (.ref o2), .val (.int (Int32.ofNat W2.length)), .unset, .unset] [(.ref r)])
        refine Go.of (T' := T58) (g' := (mkF mM 250 #[.val (.int aa), .val (.int ab), .val (.int ac), .val (.int ad), .val (.int (2 : Int32)), .val (.int cc), .val (.int (2 : Int32)), .unset, .unset, .val (.ref q), .val (.ref o2), .val (.int (Int32.ofNat W2.length)), .unset, .unset] [(.ref r), (.ref r)])) (fun _ k => XS.dup X58.hh X58.hx rfl (hb hby at_249) rfl rfl k) ?_
        refine Go.of (T' := T58) (g' := (mkF mM 252 #[.val (.int aa), .val (.int ab), .val (.int ac), .val (.int ad), .val (.int (2 : Int32)), .val (.int cc), .val (.int (2 : Int32)), .unset, .unset, .val (.ref q), .val (.ref o2), .val (.int (Int32.ofNat W2.length)), .unset, .unset] [(.int (2 : Int32)), (.ref r), (.ref r)])) (fun _ k => XS.iload X58.hh X58.hx rfl (hb hby at_250) rfl k) ?_
        refine Go.of (T' := T58) (g' := (mkF mM 254 #[.val (.int aa), .val (.int ab), .val (.int ac), .val (.int ad), .val (.int (2 : Int32)), .val (.int cc), .val (.int (2 : Int32)), .unset, .unset, .val (.ref q), .val (.ref o2), .val (.int (Int32.ofNat W2.length)), .unset, .unset] [(.int cc), (.int (2 : Int32)), (.ref r), (.ref r)])) (fun _ k => XS.iload X58.hh X58.hx rfl (hb hby at_252) rfl k) ?_
        refine X58.callS (W := 2) (argsL := [(.int (2 : Int32)), (.int cc)]) (rest := [(.ref r), (.ref r)]) (hw _ (List.mem_of_getElem? (i := 104) rfl)) (hw _ (List.mem_of_getElem? (i := 105) rfl)) (hw _ (List.mem_of_getElem? (i := 27) rfl)) (hw _ (List.mem_of_getElem? (i := 106) rfl)) (by decide) (appended_2 l Z a0 G cc h58 r2) pd_10 rfl rfl rfl (by rw [hml]; rfl) (by decide) (by decide) (by decide) (by decide) (hb hby at_254) all0 all0 ?_
        intro v59 T59 h59 S59 X59 K59 Q59
        obtain ⟨b, kc_b, rfl, gb, V_b⟩ := Q59
        have X59 := X59 [] all0
        have z59 : h58.size ≤ h59.size := K59.1
        show Go pP eE bB _ T59 (mkF mM 257 #[.val (.int aa), .val (.int ab), .val (.int ac), .val (.int ad), .val (.int (2 : Int32)), .val (.int cc), .val (.int (2 : Int32)), .unset, .unset, .val (.ref q), .val (.ref o2), .val (.int (Int32.ofNat W2.length)), .unset, .unset] [(.ref b), (.ref r), (.ref r)])
        have l_b : b < h59.size := V_b.lt
        have hp : ∀ c ∈ ([(45 : Int32), (45 : Int32), (119 : Int32), (101 : Int32), (97 : Int32), (107 : Int32), (45 : Int32), (112 : Int32), (97 : Int32), (115 : Int32), (115 : Int32), (119 : Int32), (111 : Int32), (114 : Int32), (100 : Int32), cc] : List Int32), ¬ c < 0 ∧ ¬ (255 : Int32) < c := by
          intro c hc
          rcases List.mem_append.mp (show c ∈ W2 ++ [cc] from hc) with q | q
          · exact W2r c q
          · rw [List.mem_singleton.mp q]; exact r2
        have A_r := (A_r.keep K59)
        have F_value_r := (F_value_r.keep K59 nin0)
        have F_coder_r := (F_coder_r.keep K59 nin0)
        refine X59.callCN (W := 1) (argsL := [(.ref b)]) (rest := [(.ref r)]) (nc := 1) (ns := 16) (ws' := [r]) (a := r) rfl (hw _ (List.mem_of_getElem? (i := 31) rfl)) (hw _ (List.mem_of_getElem? (i := 32) rfl)) (hw _ (List.mem_of_getElem? (i := 33) rfl)) (by decide) (fun vm0 hZ => StrChars.Road.backV (s := sS.setVm vm0) (W := 1) hZ hws (kI := 4) (hw _ (List.mem_of_getElem? (i := 3) rfl)) (cs := ([(45 : Int32), (45 : Int32), (119 : Int32), (101 : Int32), (97 : Int32), (107 : Int32), (45 : Int32), (112 : Int32), (97 : Int32), (115 : Int32), (115 : Int32), (119 : Int32), (111 : Int32), (114 : Int32), (100 : Int32), cc] : List Int32)) (bs := ([(45 : Int32), (45 : Int32), (119 : Int32), (101 : Int32), (97 : Int32), (107 : Int32), (45 : Int32), (112 : Int32), (97 : Int32), (115 : Int32), (115 : Int32), (119 : Int32), (111 : Int32), (114 : Int32), (100 : Int32), cc] : List Int32).map (fun c => c.toInt8.toInt32)) (n := 16) (n0 := Z.heap.size) (by omega) (by omega) A_r F_value_r F_coder_r V_b (Sc.ext X59.ext0) hzc rfl rfl (by decide) (by decide) hp rfl (by decide) (by decide)) (fun v h' L q => ⟨q.2.1, q.2.2.1⟩) pd_8 rfl rfl rfl (by rw [hml]; rfl) (by decide) (by decide) (hb hby at_257) (allS (by omega) all0) (allS (Or.inr (by omega)) all0) (allS (Sfe.mem (List.mem_of_getElem? (i := 0) rfl)) all0) ?_
        intro v60 T60 h60 X60 K60 Q60
        obtain ⟨_, ⟨rfl, -, -, A_r, C_r, t_r, kb_r, gt_r, gs_r, -, V_r, B_r⟩⟩ := Q60
        have z60 : h59.size ≤ h60.size := K60.1
        show Go pP eE bB _ T60 (mkF mM 260 #[.val (.int aa), .val (.int ab), .val (.int ac), .val (.int ad), .val (.int (2 : Int32)), .val (.int cc), .val (.int (2 : Int32)), .unset, .unset, .val (.ref q), .val (.ref o2), .val (.int (Int32.ofNat W2.length)), .unset, .unset] [(.ref r)])
        have lt_r : t_r < h60.size := B_r.lt
        have St_r : Str Z h60 r t_r kb_r ([(45 : Int32), (45 : Int32), (119 : Int32), (101 : Int32), (97 : Int32), (107 : Int32), (45 : Int32), (112 : Int32), (97 : Int32), (115 : Int32), (115 : Int32), (119 : Int32), (111 : Int32), (114 : Int32), (100 : Int32), cc] : List Int32) := ⟨A_r, V_r, C_r, B_r, hp, Nat.le_of_ble_eq_true rfl⟩
        refine Go.of (T' := T60) (g' := (mkF mM 262 #[.val (.int aa), .val (.int ab), .val (.int ac), .val (.int ad), .val (.int (2 : Int32)), .val (.int cc), .val (.int (2 : Int32)), .val (.ref r), .unset, .val (.ref q), .val (.ref o2), .val (.int (Int32.ofNat W2.length)), .unset, .unset] [])) (fun _ k => XS.astore X60.hh X60.hx rfl (hb hby at_260) rfl rfl (l' := #[.val (.int aa), .val (.int ab), .val (.int ac), .val (.int ad), .val (.int (2 : Int32)), .val (.int cc), .val (.int (2 : Int32)), .val (.ref r), .unset, .val (.ref q), .val (.ref o2), .val (.int (Int32.ofNat W2.length)), .unset, .unset]) rfl k) ?_
        refine Go.of (T' := T60) (g' := (mkF mM 263 #[.val (.int aa), .val (.int ab), .val (.int ac), .val (.int ad), .val (.int (2 : Int32)), .val (.int cc), .val (.int (2 : Int32)), .val (.ref r), .unset, .val (.ref q), .val (.ref o2), .val (.int (Int32.ofNat W2.length)), .unset, .unset] [.null])) (fun _ k => XS.aconstNull X60.hh X60.hx rfl (hb hby at_262) k) ?_
        refine Go.of (T' := T60) (g' := (mkF mM 265 #[.val (.int aa), .val (.int ab), .val (.int ac), .val (.int ad), .val (.int (2 : Int32)), .val (.int cc), .val (.int (2 : Int32)), .val (.ref r), .val .null, .val (.ref q), .val (.ref o2), .val (.int (Int32.ofNat W2.length)), .unset, .unset] [])) (fun _ k => XS.astore X60.hh X60.hx rfl (hb hby at_263) rfl rfl (l' := #[.val (.int aa), .val (.int ab), .val (.int ac), .val (.int ad), .val (.int (2 : Int32)), .val (.int cc), .val (.int (2 : Int32)), .val (.ref r), .val .null, .val (.ref q), .val (.ref o2), .val (.int (Int32.ofNat W2.length)), .unset, .unset]) rfl k) ?_
        refine Go.of (T' := T60) (g' := (mkF mM 296 #[.val (.int aa), .val (.int ab), .val (.int ac), .val (.int ad), .val (.int (2 : Int32)), .val (.int cc), .val (.int (2 : Int32)), .val (.ref r), .val .null, .val (.ref q), .val (.ref o2), .val (.int (Int32.ofNat W2.length)), .unset, .unset] [])) (fun _ k => XS.goto X60.hh X60.hx rfl (pc0 := 265) (pc' := 296) rfl (hb hby at_265) (by decide) (by decide) k) ?_
        exact fin _ _ _ _ _ _ _ _ _ _ _ _ _ _ _ _ _ (X60.mono (by decide) (by decide)) St_r (pick_none (by simp) (by simp) (by simp)).symm
      · show Go pP eE bB _ T0 (mkF mM 21 #[.val (.int aa), .val (.int ab), .val (.int ac), .val (.int ad), .val (.int (2 : Int32)), .val (.int cc), .val (.int (3 : Int32)), .unset, .unset, .unset, .unset, .unset, .unset, .unset] [])
        refine Go.of (T' := T0) (g' := (mkF mM 23 #[.val (.int aa), .val (.int ab), .val (.int ac), .val (.int ad), .val (.int (2 : Int32)), .val (.int cc), .val (.int (3 : Int32)), .unset, .unset, .unset, .unset, .unset, .unset, .unset] [(.int (2 : Int32))])) (fun _ k => XS.iload X0.hh X0.hx rfl (hb hby at_21) rfl k) ?_
        refine Go.of (T' := T0) (g' := (mkF mM 24 #[.val (.int aa), .val (.int ab), .val (.int ac), .val (.int ad), .val (.int (2 : Int32)), .val (.int cc), .val (.int (3 : Int32)), .unset, .unset, .unset, .unset, .unset, .unset, .unset] [(.int (3 : Int32)), (.int (2 : Int32))])) (fun _ k => XS.iconst X0.hh X0.hx rfl (hb hby at_23) k) ?_
        refine Go.of (T' := T0) (g' := (mkF mM 101 #[.val (.int aa), .val (.int ab), .val (.int ac), .val (.int ad), .val (.int (2 : Int32)), .val (.int cc), .val (.int (3 : Int32)), .unset, .unset, .unset, .unset, .unset, .unset, .unset] [])) (fun _ k => XS.icmpYes X0.hh X0.hx rfl (pc0 := 24) (pc' := 101) rfl (hb hby at_24) rfl (feq (by decide)).2 (by decide) (by decide) k) ?_
        refine Go.of (T' := T0) (g' := (mkF mM 103 #[.val (.int aa), .val (.int ab), .val (.int ac), .val (.int ad), .val (.int (2 : Int32)), .val (.int cc), .val (.int (3 : Int32)), .unset, .unset, .unset, .unset, .unset, .unset, .unset] [(.int (2 : Int32))])) (fun _ k => XS.iload X0.hh X0.hx rfl (hb hby at_101) rfl k) ?_
        refine Go.of (T' := T0) (g' := (mkF mM 111 #[.val (.int aa), .val (.int ab), .val (.int ac), .val (.int ad), .val (.int (2 : Int32)), .val (.int cc), .val (.int (3 : Int32)), .unset, .unset, .unset, .unset, .unset, .unset, .unset] [])) (fun _ k => XS.ifYes X0.hh X0.hx rfl (pc0 := 103) (pc' := 111) rfl (hb hby at_103) rfl ((if0 _ _).trans (feq (by decide)).2) (by decide) (by decide) k) ?_
        refine Go.of (T' := T0) (g' := (mkF mM 113 #[.val (.int aa), .val (.int ab), .val (.int ac), .val (.int ad), .val (.int (2 : Int32)), .val (.int cc), .val (.int (3 : Int32)), .unset, .unset, .unset, .unset, .unset, .unset, .unset] [(.int (2 : Int32))])) (fun _ k => XS.iload X0.hh X0.hx rfl (hb hby at_111) rfl k) ?_
        refine Go.of (T' := T0) (g' := (mkF mM 114 #[.val (.int aa), .val (.int ab), .val (.int ac), .val (.int ad), .val (.int (2 : Int32)), .val (.int cc), .val (.int (3 : Int32)), .unset, .unset, .unset, .unset, .unset, .unset, .unset] [(.int (1 : Int32)), (.int (2 : Int32))])) (fun _ k => XS.iconst X0.hh X0.hx rfl (hb hby at_113) k) ?_
        refine Go.of (T' := T0) (g' := (mkF mM 122 #[.val (.int aa), .val (.int ab), .val (.int ac), .val (.int ad), .val (.int (2 : Int32)), .val (.int cc), .val (.int (3 : Int32)), .unset, .unset, .unset, .unset, .unset, .unset, .unset] [])) (fun _ k => XS.icmpYes X0.hh X0.hx rfl (pc0 := 114) (pc' := 122) rfl (hb hby at_114) rfl (feq (by decide)).2 (by decide) (by decide) k) ?_
        refine X0.ldcR (n := 60) (z := Int32.ofNat ([45, 45, 119, 101, 97, 107, 45, 112, 97, 115, 115, 119, 111, 114, 100] : List Int32).length) (vs := (([45, 45, 119, 101, 97, 107, 45, 112, 97, 115, 115, 119, 111, 114, 100] : List Int32).map fun c => c.toInt8.toInt32).map Value.int) (hw _ (List.mem_of_getElem? (i := 107) rfl)) hwS (by decide +kernel) (by decide +kernel) (by decide +kernel) (by decide +kernel) (hb hby at_122) (by decide +kernel) (by decide) (by decide) (by decide) ?_
        intro T61 h61 q t_q kb_q X61 E61 A_q C_q V_q B_q N_q
        have z61 : h0.size ≤ h61.size := E61.1
        have l_q : q < h61.size := A_q.lt
        have lt_q : t_q < h61.size := B_q.lt
        have St_q : Str Z h61 q t_q kb_q [45, 45, 119, 101, 97, 107, 45, 112, 97, 115, 115, 119, 111, 114, 100] := ⟨A_q, V_q, C_q, B_q, by decide, by decide⟩
        show Go pP eE bB _ T61 (mkF mM 124 #[.val (.int aa), .val (.int ab), .val (.int ac), .val (.int ad), .val (.int (2 : Int32)), .val (.int cc), .val (.int (3 : Int32)), .unset, .unset, .unset, .unset, .unset, .unset, .unset] [(.ref q)])
        refine Go.of (T' := T61) (g' := (mkF mM 126 #[.val (.int aa), .val (.int ab), .val (.int ac), .val (.int ad), .val (.int (2 : Int32)), .val (.int cc), .val (.int (3 : Int32)), .unset, .unset, .val (.ref q), .unset, .unset, .unset, .unset] [])) (fun _ k => XS.astore X61.hh X61.hx rfl (hb hby at_124) rfl rfl (l' := #[.val (.int aa), .val (.int ab), .val (.int ac), .val (.int ad), .val (.int (2 : Int32)), .val (.int cc), .val (.int (3 : Int32)), .unset, .unset, .val (.ref q), .unset, .unset, .unset, .unset]) rfl k) ?_
        refine Go.of (T' := T61) (g' := (mkF mM 128 #[.val (.int aa), .val (.int ab), .val (.int ac), .val (.int ad), .val (.int (2 : Int32)), .val (.int cc), .val (.int (3 : Int32)), .unset, .unset, .val (.ref q), .unset, .unset, .unset, .unset] [(.int (2 : Int32))])) (fun _ k => XS.iload X61.hh X61.hx rfl (hb hby at_126) rfl k) ?_
        refine Go.of (T' := T61) (g' := (mkF mM 137 #[.val (.int aa), .val (.int ab), .val (.int ac), .val (.int ad), .val (.int (2 : Int32)), .val (.int cc), .val (.int (3 : Int32)), .unset, .unset, .val (.ref q), .unset, .unset, .unset, .unset] [])) (fun _ k => XS.ifYes X61.hh X61.hx rfl (pc0 := 128) (pc' := 137) rfl (hb hby at_128) rfl ((if0 _ _).trans (feq (by decide)).2) (by decide) (by decide) k) ?_
        refine Go.of (T' := T61) (g' := (mkF mM 139 #[.val (.int aa), .val (.int ab), .val (.int ac), .val (.int ad), .val (.int (2 : Int32)), .val (.int cc), .val (.int (3 : Int32)), .unset, .unset, .val (.ref q), .unset, .unset, .unset, .unset] [(.int (2 : Int32))])) (fun _ k => XS.iload X61.hh X61.hx rfl (hb hby at_137) rfl k) ?_
        refine Go.of (T' := T61) (g' := (mkF mM 140 #[.val (.int aa), .val (.int ab), .val (.int ac), .val (.int ad), .val (.int (2 : Int32)), .val (.int cc), .val (.int (3 : Int32)), .unset, .unset, .val (.ref q), .unset, .unset, .unset, .unset] [(.int (1 : Int32)), (.int (2 : Int32))])) (fun _ k => XS.iconst X61.hh X61.hx rfl (hb hby at_139) k) ?_
        refine Go.of (T' := T61) (g' := (mkF mM 149 #[.val (.int aa), .val (.int ab), .val (.int ac), .val (.int ad), .val (.int (2 : Int32)), .val (.int cc), .val (.int (3 : Int32)), .unset, .unset, .val (.ref q), .unset, .unset, .unset, .unset] [])) (fun _ k => XS.icmpYes X61.hh X61.hx rfl (pc0 := 140) (pc' := 149) rfl (hb hby at_140) rfl (feq (by decide)).2 (by decide) (by decide) k) ?_
        refine X61.getS (host := "") (Or.inl (hw _ (List.mem_of_getElem? (i := 108) rfl))) Via.refl (Sw.ext X61.ext0) (hb hby at_149) ?_
        intro T62 X62
        show Go pP eE bB _ T62 (mkF mM 152 #[.val (.int aa), .val (.int ab), .val (.int ac), .val (.int ad), .val (.int (2 : Int32)), .val (.int cc), .val (.int (3 : Int32)), .unset, .unset, .val (.ref q), .unset, .unset, .unset, .unset] [(.ref o2)])
        refine Go.of (T' := T62) (g' := (mkF mM 154 #[.val (.int aa), .val (.int ab), .val (.int ac), .val (.int ad), .val (.int (2 : Int32)), .val (.int cc), .val (.int (3 : Int32)), .unset, .unset, .val (.ref q), .val (.ref o2), .unset, .unset, .unset] [])) (fun _ k => XS.astore X62.hh X62.hx rfl (hb hby at_152) rfl rfl (l' := #[.val (.int aa), .val (.int ab), .val (.int ac), .val (.int ad), .val (.int (2 : Int32)), .val (.int cc), .val (.int (3 : Int32)), .unset, .unset, .val (.ref q), .val (.ref o2), .unset, .unset, .unset]) rfl k) ?_
        refine Go.of (T' := T62) (g' := (mkF mM 156 #[.val (.int aa), .val (.int ab), .val (.int ac), .val (.int ad), .val (.int (2 : Int32)), .val (.int cc), .val (.int (3 : Int32)), .unset, .unset, .val (.ref q), .val (.ref o2), .unset, .unset, .unset] [(.ref q)])) (fun _ k => XS.aload X62.hh X62.hx rfl (hb hby at_154) rfl rfl k) ?_
        have Sq : Str Z h61 q t_q kb_q W2 := St_q
        refine X62.callVN (W := 0) (argsL := []) (rest := []) (nc := 0) (ns := 0) (ws' := []) (Qn := fun v h' L => v = some (.int (Int32.ofNat W2.length)) ∧ L = [] ∧ h' = h61) (a := q) (C := "java/lang/String") (z := (⟨"java/lang/String", "length", "()I"⟩ : MethodName)) (hw _ (List.mem_of_getElem? (i := 12) rfl)) (hw _ (List.mem_of_getElem? (i := 13) rfl)) (fun _ q => notFace_of_selects (args := #[]) (mvT q (hw _ (List.mem_of_getElem? (i := 15) rfl)))) (hw _ (List.mem_of_getElem? (i := 15) rfl)) (hw _ (List.mem_of_getElem? (i := 14) rfl)) (by decide) (fun vm0 hZ => StrChars.Road.lenW (s := sS.setVm vm0) (W := 0) hZ hln (kI := 4) (hw _ (List.mem_of_getElem? (i := 3) rfl)) Sq.1 Sq.2.1 Sq.2.2.1 Sq.2.2.2.1 (StrChars.Road.codOf rfl fun c hc => (Sq.2.2.2.2.1 c hc).2) Sq.up (Sc.ext X62.ext0) hzc Sq.2.2.2.2.2 (by decide) (by decide)) (fun v h' L q => by obtain ⟨-, rfl, rfl⟩ := q; exact ⟨Fr.nil _, Keep.refl _ _⟩) Sq.1 pd_6 rfl rfl rfl (by rw [hml]; rfl) (by decide) (by decide) (hb hby at_156) all0 all0 all0 ?_
        intro v63 T63 h63 X63 K63 Q63
        obtain ⟨_, rfl, -, e63⟩ := Q63
        rw [e63] at X63
        show Go pP eE bB _ T63 (mkF mM 159 #[.val (.int aa), .val (.int ab), .val (.int ac), .val (.int ad), .val (.int (2 : Int32)), .val (.int cc), .val (.int (3 : Int32)), .unset, .unset, .val (.ref q), .val (.ref o2), .unset, .unset, .unset] [(.int (Int32.ofNat W2.length))])
        refine Go.of (T' := T63) (g' := (mkF mM 161 #[.val (.int aa), .val (.int ab), .val (.int ac), .val (.int ad), .val (.int (2 : Int32)), .val (.int cc), .val (.int (3 : Int32)), .unset, .unset, .val (.ref q), .val (.ref o2), .val (.int (Int32.ofNat W2.length)), .unset, .unset] [])) (fun _ k => XS.istore X63.hh X63.hx rfl (hb hby at_159) rfl (l' := #[.val (.int aa), .val (.int ab), .val (.int ac), .val (.int ad), .val (.int (2 : Int32)), .val (.int cc), .val (.int (3 : Int32)), .unset, .unset, .val (.ref q), .val (.ref o2), .val (.int (Int32.ofNat W2.length)), .unset, .unset]) rfl k) ?_
        refine Go.of (T' := T63) (g' := (mkF mM 163 #[.val (.int aa), .val (.int ab), .val (.int ac), .val (.int ad), .val (.int (2 : Int32)), .val (.int cc), .val (.int (3 : Int32)), .unset, .unset, .val (.ref q), .val (.ref o2), .val (.int (Int32.ofNat W2.length)), .unset, .unset] [(.int (3 : Int32))])) (fun _ k => XS.iload X63.hh X63.hx rfl (hb hby at_161) rfl k) ?_
        refine Go.of (T' := T63) (g' := (mkF mM 177 #[.val (.int aa), .val (.int ab), .val (.int ac), .val (.int ad), .val (.int (2 : Int32)), .val (.int cc), .val (.int (3 : Int32)), .unset, .unset, .val (.ref q), .val (.ref o2), .val (.int (Int32.ofNat W2.length)), .unset, .unset] [])) (fun _ k => XS.ifYes X63.hh X63.hx rfl (pc0 := 163) (pc' := 177) rfl (hb hby at_163) rfl ((if0 _ _).trans (feq (by decide)).2) (by decide) (by decide) k) ?_
        refine Go.of (T' := T63) (g' := (mkF mM 179 #[.val (.int aa), .val (.int ab), .val (.int ac), .val (.int ad), .val (.int (2 : Int32)), .val (.int cc), .val (.int (3 : Int32)), .unset, .unset, .val (.ref q), .val (.ref o2), .val (.int (Int32.ofNat W2.length)), .unset, .unset] [(.int (3 : Int32))])) (fun _ k => XS.iload X63.hh X63.hx rfl (hb hby at_177) rfl k) ?_
        refine Go.of (T' := T63) (g' := (mkF mM 180 #[.val (.int aa), .val (.int ab), .val (.int ac), .val (.int ad), .val (.int (2 : Int32)), .val (.int cc), .val (.int (3 : Int32)), .unset, .unset, .val (.ref q), .val (.ref o2), .val (.int (Int32.ofNat W2.length)), .unset, .unset] [(.int (1 : Int32)), (.int (3 : Int32))])) (fun _ k => XS.iconst X63.hh X63.hx rfl (hb hby at_179) k) ?_
        refine Go.of (T' := T63) (g' := (mkF mM 240 #[.val (.int aa), .val (.int ab), .val (.int ac), .val (.int ad), .val (.int (2 : Int32)), .val (.int cc), .val (.int (3 : Int32)), .unset, .unset, .val (.ref q), .val (.ref o2), .val (.int (Int32.ofNat W2.length)), .unset, .unset] [])) (fun _ k => XS.icmpYes X63.hh X63.hx rfl (pc0 := 180) (pc' := 240) rfl (hb hby at_180) rfl (feq (by decide)).2 (by decide) (by decide) k) ?_
        refine Go.of (T' := T63) (g' := (mkF mM 242 #[.val (.int aa), .val (.int ab), .val (.int ac), .val (.int ad), .val (.int (2 : Int32)), .val (.int cc), .val (.int (3 : Int32)), .unset, .unset, .val (.ref q), .val (.ref o2), .val (.int (Int32.ofNat W2.length)), .unset, .unset] [(.int (3 : Int32))])) (fun _ k => XS.iload X63.hh X63.hx rfl (hb hby at_240) rfl k) ?_
        refine Go.of (T' := T63) (g' := (mkF mM 243 #[.val (.int aa), .val (.int ab), .val (.int ac), .val (.int ad), .val (.int (2 : Int32)), .val (.int cc), .val (.int (3 : Int32)), .unset, .unset, .val (.ref q), .val (.ref o2), .val (.int (Int32.ofNat W2.length)), .unset, .unset] [(.int (2 : Int32)), (.int (3 : Int32))])) (fun _ k => XS.iconst X63.hh X63.hx rfl (hb hby at_242) k) ?_
        refine Go.of (T' := T63) (g' := (mkF mM 268 #[.val (.int aa), .val (.int ab), .val (.int ac), .val (.int ad), .val (.int (2 : Int32)), .val (.int cc), .val (.int (3 : Int32)), .unset, .unset, .val (.ref q), .val (.ref o2), .val (.int (Int32.ofNat W2.length)), .unset, .unset] [])) (fun _ k => XS.icmpYes X63.hh X63.hx rfl (pc0 := 243) (pc' := 268) rfl (hb hby at_243) rfl (feq (by decide)).2 (by decide) (by decide) k) ?_
        refine Go.of (T' := T63) (g' := (mkF mM 270 #[.val (.int aa), .val (.int ab), .val (.int ac), .val (.int ad), .val (.int (2 : Int32)), .val (.int cc), .val (.int (3 : Int32)), .unset, .unset, .val (.ref q), .val (.ref o2), .val (.int (Int32.ofNat W2.length)), .unset, .unset] [(.int (2 : Int32))])) (fun _ k => XS.iload X63.hh X63.hx rfl (hb hby at_268) rfl k) ?_
        refine Go.of (T' := T63) (g' := (mkF mM 278 #[.val (.int aa), .val (.int ab), .val (.int ac), .val (.int ad), .val (.int (2 : Int32)), .val (.int cc), .val (.int (3 : Int32)), .unset, .unset, .val (.ref q), .val (.ref o2), .val (.int (Int32.ofNat W2.length)), .unset, .unset] [])) (fun _ k => XS.ifYes X63.hh X63.hx rfl (pc0 := 270) (pc' := 278) rfl (hb hby at_270) rfl ((if0 _ _).trans (feq (by decide)).2) (by decide) (by decide) k) ?_
        refine Go.of (T' := T63) (g' := (mkF mM 280 #[.val (.int aa), .val (.int ab), .val (.int ac), .val (.int ad), .val (.int (2 : Int32)), .val (.int cc), .val (.int (3 : Int32)), .unset, .unset, .val (.ref q), .val (.ref o2), .val (.int (Int32.ofNat W2.length)), .unset, .unset] [(.int (2 : Int32))])) (fun _ k => XS.iload X63.hh X63.hx rfl (hb hby at_278) rfl k) ?_
        refine Go.of (T' := T63) (g' := (mkF mM 281 #[.val (.int aa), .val (.int ab), .val (.int ac), .val (.int ad), .val (.int (2 : Int32)), .val (.int cc), .val (.int (3 : Int32)), .unset, .unset, .val (.ref q), .val (.ref o2), .val (.int (Int32.ofNat W2.length)), .unset, .unset] [(.int (1 : Int32)), (.int (2 : Int32))])) (fun _ k => XS.iconst X63.hh X63.hx rfl (hb hby at_280) k) ?_
        refine Go.of (T' := T63) (g' := (mkF mM 289 #[.val (.int aa), .val (.int ab), .val (.int ac), .val (.int ad), .val (.int (2 : Int32)), .val (.int cc), .val (.int (3 : Int32)), .unset, .unset, .val (.ref q), .val (.ref o2), .val (.int (Int32.ofNat W2.length)), .unset, .unset] [])) (fun _ k => XS.icmpYes X63.hh X63.hx rfl (pc0 := 281) (pc' := 289) rfl (hb hby at_281) rfl (feq (by decide)).2 (by decide) (by decide) k) ?_
        refine X63.ldcR (n := 56) (z := Int32.ofNat ([45, 45, 119, 101, 97, 107, 45, 112, 97, 115, 115, 119, 111, 114] : List Int32).length) (vs := (([45, 45, 119, 101, 97, 107, 45, 112, 97, 115, 115, 119, 111, 114] : List Int32).map fun c => c.toInt8.toInt32).map Value.int) (hw _ (List.mem_of_getElem? (i := 127) rfl)) hwS (by decide +kernel) (by decide +kernel) (by decide +kernel) (by decide +kernel) (hb hby at_289) (by decide +kernel) (by decide) (by decide) (by decide) ?_
        intro T64 h64 u t_u kb_u X64 E64 A_u C_u V_u B_u N_u
        have z64 : h61.size ≤ h64.size := E64.1
        have l_u : u < h64.size := A_u.lt
        have lt_u : t_u < h64.size := B_u.lt
        have St_u : Str Z h64 u t_u kb_u [45, 45, 119, 101, 97, 107, 45, 112, 97, 115, 115, 119, 111, 114] := ⟨A_u, V_u, C_u, B_u, by decide, by decide⟩
        show Go pP eE bB _ T64 (mkF mM 291 #[.val (.int aa), .val (.int ab), .val (.int ac), .val (.int ad), .val (.int (2 : Int32)), .val (.int cc), .val (.int (3 : Int32)), .unset, .unset, .val (.ref q), .val (.ref o2), .val (.int (Int32.ofNat W2.length)), .unset, .unset] [(.ref u)])
        refine Go.of (T' := T64) (g' := (mkF mM 293 #[.val (.int aa), .val (.int ab), .val (.int ac), .val (.int ad), .val (.int (2 : Int32)), .val (.int cc), .val (.int (3 : Int32)), .val (.ref u), .unset, .val (.ref q), .val (.ref o2), .val (.int (Int32.ofNat W2.length)), .unset, .unset] [])) (fun _ k => XS.astore X64.hh X64.hx rfl (hb hby at_291) rfl rfl (l' := #[.val (.int aa), .val (.int ab), .val (.int ac), .val (.int ad), .val (.int (2 : Int32)), .val (.int cc), .val (.int (3 : Int32)), .val (.ref u), .unset, .val (.ref q), .val (.ref o2), .val (.int (Int32.ofNat W2.length)), .unset, .unset]) rfl k) ?_
        refine Go.of (T' := T64) (g' := (mkF mM 294 #[.val (.int aa), .val (.int ab), .val (.int ac), .val (.int ad), .val (.int (2 : Int32)), .val (.int cc), .val (.int (3 : Int32)), .val (.ref u), .unset, .val (.ref q), .val (.ref o2), .val (.int (Int32.ofNat W2.length)), .unset, .unset] [.null])) (fun _ k => XS.aconstNull X64.hh X64.hx rfl (hb hby at_293) k) ?_
        refine Go.of (T' := T64) (g' := (mkF mM 296 #[.val (.int aa), .val (.int ab), .val (.int ac), .val (.int ad), .val (.int (2 : Int32)), .val (.int cc), .val (.int (3 : Int32)), .val (.ref u), .val .null, .val (.ref q), .val (.ref o2), .val (.int (Int32.ofNat W2.length)), .unset, .unset] [])) (fun _ k => XS.astore X64.hh X64.hx rfl (hb hby at_294) rfl rfl (l' := #[.val (.int aa), .val (.int ab), .val (.int ac), .val (.int ad), .val (.int (2 : Int32)), .val (.int cc), .val (.int (3 : Int32)), .val (.ref u), .val .null, .val (.ref q), .val (.ref o2), .val (.int (Int32.ofNat W2.length)), .unset, .unset]) rfl k) ?_
        exact fin _ _ _ _ _ _ _ _ _ _ _ _ _ _ _ _ _ (X64.mono (by decide) (by decide)) St_u (pick_none (by decide) (by decide) (by decide)).symm
    · rcases r3 with rfl | rfl | rfl | rfl
      · show Go pP eE bB _ T0 (mkF mM 21 #[.val (.int aa), .val (.int ab), .val (.int ac), .val (.int ad), .val (.int (3 : Int32)), .val (.int cc), .val (.int (0 : Int32)), .unset, .unset, .unset, .unset, .unset, .unset, .unset] [])
        refine Go.of (T' := T0) (g' := (mkF mM 23 #[.val (.int aa), .val (.int ab), .val (.int ac), .val (.int ad), .val (.int (3 : Int32)), .val (.int cc), .val (.int (0 : Int32)), .unset, .unset, .unset, .unset, .unset, .unset, .unset] [(.int (3 : Int32))])) (fun _ k => XS.iload X0.hh X0.hx rfl (hb hby at_21) rfl k) ?_
        refine Go.of (T' := T0) (g' := (mkF mM 24 #[.val (.int aa), .val (.int ab), .val (.int ac), .val (.int ad), .val (.int (3 : Int32)), .val (.int cc), .val (.int (0 : Int32)), .unset, .unset, .unset, .unset, .unset, .unset, .unset] [(.int (3 : Int32)), (.int (3 : Int32))])) (fun _ k => XS.iconst X0.hh X0.hx rfl (hb hby at_23) k) ?_
        refine Go.of (T' := T0) (g' := (mkF mM 27 #[.val (.int aa), .val (.int ab), .val (.int ac), .val (.int ad), .val (.int (3 : Int32)), .val (.int cc), .val (.int (0 : Int32)), .unset, .unset, .unset, .unset, .unset, .unset, .unset] [])) (fun _ k => XS.icmpNo X0.hh X0.hx rfl (hb hby at_24) rfl (teq (by decide)).2 k) ?_
        refine Go.of (T' := T0) (g' := (mkF mM 28 #[.val (.int aa), .val (.int ab), .val (.int ac), .val (.int ad), .val (.int (3 : Int32)), .val (.int cc), .val (.int (0 : Int32)), .unset, .unset, .unset, .unset, .unset, .unset, .unset] [.null])) (fun _ k => XS.aconstNull X0.hh X0.hx rfl (hb hby at_27) k) ?_
        refine Go.of (T' := T0) (g' := (mkF mM 30 #[.val (.int aa), .val (.int ab), .val (.int ac), .val (.int ad), .val (.int (3 : Int32)), .val (.int cc), .val (.int (0 : Int32)), .unset, .val .null, .unset, .unset, .unset, .unset, .unset] [])) (fun _ k => XS.astore X0.hh X0.hx rfl (hb hby at_28) rfl rfl (l' := #[.val (.int aa), .val (.int ab), .val (.int ac), .val (.int ad), .val (.int (3 : Int32)), .val (.int cc), .val (.int (0 : Int32)), .unset, .val .null, .unset, .unset, .unset, .unset, .unset]) rfl k) ?_
        refine Go.of (T' := T0) (g' := (mkF mM 32 #[.val (.int aa), .val (.int ab), .val (.int ac), .val (.int ad), .val (.int (3 : Int32)), .val (.int cc), .val (.int (0 : Int32)), .unset, .val .null, .unset, .unset, .unset, .unset, .unset] [(.int (0 : Int32))])) (fun _ k => XS.iload X0.hh X0.hx rfl (hb hby at_30) rfl k) ?_
        refine Go.of (T' := T0) (g' := (mkF mM 35 #[.val (.int aa), .val (.int ab), .val (.int ac), .val (.int ad), .val (.int (3 : Int32)), .val (.int cc), .val (.int (0 : Int32)), .unset, .val .null, .unset, .unset, .unset, .unset, .unset] [])) (fun _ k => XS.ifNo X0.hh X0.hx rfl (hb hby at_32) rfl ((if0 _ _).trans (teq (by decide)).2) k) ?_
        refine X0.ldcR (n := 0) (z := Int32.ofNat ([] : List Int32).length) (vs := (([] : List Int32).map fun c => c.toInt8.toInt32).map Value.int) (hw _ (List.mem_of_getElem? (i := 126) rfl)) hwS (by decide +kernel) (by decide +kernel) (by decide +kernel) (by decide +kernel) (hb hby at_35) (by decide +kernel) (by decide) (by decide) (by decide) ?_
        intro T65 h65 q t_q kb_q X65 E65 A_q C_q V_q B_q N_q
        have z65 : h0.size ≤ h65.size := E65.1
        have l_q : q < h65.size := A_q.lt
        have lt_q : t_q < h65.size := B_q.lt
        have St_q : Str Z h65 q t_q kb_q [] := ⟨A_q, V_q, C_q, B_q, by decide, by decide⟩
        show Go pP eE bB _ T65 (mkF mM 37 #[.val (.int aa), .val (.int ab), .val (.int ac), .val (.int ad), .val (.int (3 : Int32)), .val (.int cc), .val (.int (0 : Int32)), .unset, .val .null, .unset, .unset, .unset, .unset, .unset] [(.ref q)])
        refine Go.of (T' := T65) (g' := (mkF mM 39 #[.val (.int aa), .val (.int ab), .val (.int ac), .val (.int ad), .val (.int (3 : Int32)), .val (.int cc), .val (.int (0 : Int32)), .val (.ref q), .val .null, .unset, .unset, .unset, .unset, .unset] [])) (fun _ k => XS.astore X65.hh X65.hx rfl (hb hby at_37) rfl rfl (l' := #[.val (.int aa), .val (.int ab), .val (.int ac), .val (.int ad), .val (.int (3 : Int32)), .val (.int cc), .val (.int (0 : Int32)), .val (.ref q), .val .null, .unset, .unset, .unset, .unset, .unset]) rfl k) ?_
        refine Go.of (T' := T65) (g' := (mkF mM 296 #[.val (.int aa), .val (.int ab), .val (.int ac), .val (.int ad), .val (.int (3 : Int32)), .val (.int cc), .val (.int (0 : Int32)), .val (.ref q), .val .null, .unset, .unset, .unset, .unset, .unset] [])) (fun _ k => XS.goto X65.hh X65.hx rfl (pc0 := 39) (pc' := 296) rfl (hb hby at_39) (by decide) (by decide) k) ?_
        exact fin _ _ _ _ _ _ _ _ _ _ _ _ _ _ _ _ _ (X65.mono (by decide) (by decide)) St_q (pick_none (by decide) (by decide) (by decide)).symm
      · show Go pP eE bB _ T0 (mkF mM 21 #[.val (.int aa), .val (.int ab), .val (.int ac), .val (.int ad), .val (.int (3 : Int32)), .val (.int cc), .val (.int (1 : Int32)), .unset, .unset, .unset, .unset, .unset, .unset, .unset] [])
        refine Go.of (T' := T0) (g' := (mkF mM 23 #[.val (.int aa), .val (.int ab), .val (.int ac), .val (.int ad), .val (.int (3 : Int32)), .val (.int cc), .val (.int (1 : Int32)), .unset, .unset, .unset, .unset, .unset, .unset, .unset] [(.int (3 : Int32))])) (fun _ k => XS.iload X0.hh X0.hx rfl (hb hby at_21) rfl k) ?_
        refine Go.of (T' := T0) (g' := (mkF mM 24 #[.val (.int aa), .val (.int ab), .val (.int ac), .val (.int ad), .val (.int (3 : Int32)), .val (.int cc), .val (.int (1 : Int32)), .unset, .unset, .unset, .unset, .unset, .unset, .unset] [(.int (3 : Int32)), (.int (3 : Int32))])) (fun _ k => XS.iconst X0.hh X0.hx rfl (hb hby at_23) k) ?_
        refine Go.of (T' := T0) (g' := (mkF mM 27 #[.val (.int aa), .val (.int ab), .val (.int ac), .val (.int ad), .val (.int (3 : Int32)), .val (.int cc), .val (.int (1 : Int32)), .unset, .unset, .unset, .unset, .unset, .unset, .unset] [])) (fun _ k => XS.icmpNo X0.hh X0.hx rfl (hb hby at_24) rfl (teq (by decide)).2 k) ?_
        refine Go.of (T' := T0) (g' := (mkF mM 28 #[.val (.int aa), .val (.int ab), .val (.int ac), .val (.int ad), .val (.int (3 : Int32)), .val (.int cc), .val (.int (1 : Int32)), .unset, .unset, .unset, .unset, .unset, .unset, .unset] [.null])) (fun _ k => XS.aconstNull X0.hh X0.hx rfl (hb hby at_27) k) ?_
        refine Go.of (T' := T0) (g' := (mkF mM 30 #[.val (.int aa), .val (.int ab), .val (.int ac), .val (.int ad), .val (.int (3 : Int32)), .val (.int cc), .val (.int (1 : Int32)), .unset, .val .null, .unset, .unset, .unset, .unset, .unset] [])) (fun _ k => XS.astore X0.hh X0.hx rfl (hb hby at_28) rfl rfl (l' := #[.val (.int aa), .val (.int ab), .val (.int ac), .val (.int ad), .val (.int (3 : Int32)), .val (.int cc), .val (.int (1 : Int32)), .unset, .val .null, .unset, .unset, .unset, .unset, .unset]) rfl k) ?_
        refine Go.of (T' := T0) (g' := (mkF mM 32 #[.val (.int aa), .val (.int ab), .val (.int ac), .val (.int ad), .val (.int (3 : Int32)), .val (.int cc), .val (.int (1 : Int32)), .unset, .val .null, .unset, .unset, .unset, .unset, .unset] [(.int (1 : Int32))])) (fun _ k => XS.iload X0.hh X0.hx rfl (hb hby at_30) rfl k) ?_
        refine Go.of (T' := T0) (g' := (mkF mM 42 #[.val (.int aa), .val (.int ab), .val (.int ac), .val (.int ad), .val (.int (3 : Int32)), .val (.int cc), .val (.int (1 : Int32)), .unset, .val .null, .unset, .unset, .unset, .unset, .unset] [])) (fun _ k => XS.ifYes X0.hh X0.hx rfl (pc0 := 32) (pc' := 42) rfl (hb hby at_32) rfl ((if0 _ _).trans (feq (by decide)).2) (by decide) (by decide) k) ?_
        refine Go.of (T' := T0) (g' := (mkF mM 44 #[.val (.int aa), .val (.int ab), .val (.int ac), .val (.int ad), .val (.int (3 : Int32)), .val (.int cc), .val (.int (1 : Int32)), .unset, .val .null, .unset, .unset, .unset, .unset, .unset] [(.int (1 : Int32))])) (fun _ k => XS.iload X0.hh X0.hx rfl (hb hby at_42) rfl k) ?_
        refine Go.of (T' := T0) (g' := (mkF mM 45 #[.val (.int aa), .val (.int ab), .val (.int ac), .val (.int ad), .val (.int (3 : Int32)), .val (.int cc), .val (.int (1 : Int32)), .unset, .val .null, .unset, .unset, .unset, .unset, .unset] [(.int (1 : Int32)), (.int (1 : Int32))])) (fun _ k => XS.iconst X0.hh X0.hx rfl (hb hby at_44) k) ?_
        refine Go.of (T' := T0) (g' := (mkF mM 48 #[.val (.int aa), .val (.int ab), .val (.int ac), .val (.int ad), .val (.int (3 : Int32)), .val (.int cc), .val (.int (1 : Int32)), .unset, .val .null, .unset, .unset, .unset, .unset, .unset] [])) (fun _ k => XS.icmpNo X0.hh X0.hx rfl (hb hby at_45) rfl (teq (by decide)).2 k) ?_
        refine Go.of (T' := T0) (g' := (mkF mM 50 #[.val (.int aa), .val (.int ab), .val (.int ac), .val (.int ad), .val (.int (3 : Int32)), .val (.int cc), .val (.int (1 : Int32)), .unset, .val .null, .unset, .unset, .unset, .unset, .unset] [(.int cc)])) (fun _ k => XS.iload X0.hh X0.hx rfl (hb hby at_48) rfl k) ?_
        refine X0.callS (W := 0) (argsL := [(.int cc)]) (rest := []) (hw _ (List.mem_of_getElem? (i := 112) rfl)) (hw _ (List.mem_of_getElem? (i := 113) rfl)) (hw _ (List.mem_of_getElem? (i := 2) rfl)) (hw _ (List.mem_of_getElem? (i := 114) rfl)) (by decide) (str_valueOf l Z a0 G _ h0 r2) pd_11 rfl rfl rfl (by rw [hml]; rfl) (by decide) (by decide) (by decide) (by decide) (hb hby at_50) all0 all0 ?_
        intro v66 T66 h66 S66 X66 K66 Q66
        obtain ⟨q, tq, kq, rfl, -, Sq⟩ := Q66
        have X66 := X66 [] all0
        have z66 : h0.size ≤ h66.size := K66.1
        show Go pP eE bB _ T66 (mkF mM 53 #[.val (.int aa), .val (.int ab), .val (.int ac), .val (.int ad), .val (.int (3 : Int32)), .val (.int cc), .val (.int (1 : Int32)), .unset, .val .null, .unset, .unset, .unset, .unset, .unset] [(.ref q)])
        refine Go.of (T' := T66) (g' := (mkF mM 55 #[.val (.int aa), .val (.int ab), .val (.int ac), .val (.int ad), .val (.int (3 : Int32)), .val (.int cc), .val (.int (1 : Int32)), .val (.ref q), .val .null, .unset, .unset, .unset, .unset, .unset] [])) (fun _ k => XS.astore X66.hh X66.hx rfl (hb hby at_53) rfl rfl (l' := #[.val (.int aa), .val (.int ab), .val (.int ac), .val (.int ad), .val (.int (3 : Int32)), .val (.int cc), .val (.int (1 : Int32)), .val (.ref q), .val .null, .unset, .unset, .unset, .unset, .unset]) rfl k) ?_
        refine Go.of (T' := T66) (g' := (mkF mM 296 #[.val (.int aa), .val (.int ab), .val (.int ac), .val (.int ad), .val (.int (3 : Int32)), .val (.int cc), .val (.int (1 : Int32)), .val (.ref q), .val .null, .unset, .unset, .unset, .unset, .unset] [])) (fun _ k => XS.goto X66.hh X66.hx rfl (pc0 := 55) (pc' := 296) rfl (hb hby at_55) (by decide) (by decide) k) ?_
        exact fin _ _ _ _ _ _ _ _ _ _ _ _ _ _ _ _ _ (X66.mono (by decide) (by decide)) Sq (pick_none (by simp) (by simp) (by simp)).symm
      · show Go pP eE bB _ T0 (mkF mM 21 #[.val (.int aa), .val (.int ab), .val (.int ac), .val (.int ad), .val (.int (3 : Int32)), .val (.int cc), .val (.int (2 : Int32)), .unset, .unset, .unset, .unset, .unset, .unset, .unset] [])
        refine Go.of (T' := T0) (g' := (mkF mM 23 #[.val (.int aa), .val (.int ab), .val (.int ac), .val (.int ad), .val (.int (3 : Int32)), .val (.int cc), .val (.int (2 : Int32)), .unset, .unset, .unset, .unset, .unset, .unset, .unset] [(.int (3 : Int32))])) (fun _ k => XS.iload X0.hh X0.hx rfl (hb hby at_21) rfl k) ?_
        refine Go.of (T' := T0) (g' := (mkF mM 24 #[.val (.int aa), .val (.int ab), .val (.int ac), .val (.int ad), .val (.int (3 : Int32)), .val (.int cc), .val (.int (2 : Int32)), .unset, .unset, .unset, .unset, .unset, .unset, .unset] [(.int (3 : Int32)), (.int (3 : Int32))])) (fun _ k => XS.iconst X0.hh X0.hx rfl (hb hby at_23) k) ?_
        refine Go.of (T' := T0) (g' := (mkF mM 27 #[.val (.int aa), .val (.int ab), .val (.int ac), .val (.int ad), .val (.int (3 : Int32)), .val (.int cc), .val (.int (2 : Int32)), .unset, .unset, .unset, .unset, .unset, .unset, .unset] [])) (fun _ k => XS.icmpNo X0.hh X0.hx rfl (hb hby at_24) rfl (teq (by decide)).2 k) ?_
        refine Go.of (T' := T0) (g' := (mkF mM 28 #[.val (.int aa), .val (.int ab), .val (.int ac), .val (.int ad), .val (.int (3 : Int32)), .val (.int cc), .val (.int (2 : Int32)), .unset, .unset, .unset, .unset, .unset, .unset, .unset] [.null])) (fun _ k => XS.aconstNull X0.hh X0.hx rfl (hb hby at_27) k) ?_
        refine Go.of (T' := T0) (g' := (mkF mM 30 #[.val (.int aa), .val (.int ab), .val (.int ac), .val (.int ad), .val (.int (3 : Int32)), .val (.int cc), .val (.int (2 : Int32)), .unset, .val .null, .unset, .unset, .unset, .unset, .unset] [])) (fun _ k => XS.astore X0.hh X0.hx rfl (hb hby at_28) rfl rfl (l' := #[.val (.int aa), .val (.int ab), .val (.int ac), .val (.int ad), .val (.int (3 : Int32)), .val (.int cc), .val (.int (2 : Int32)), .unset, .val .null, .unset, .unset, .unset, .unset, .unset]) rfl k) ?_
        refine Go.of (T' := T0) (g' := (mkF mM 32 #[.val (.int aa), .val (.int ab), .val (.int ac), .val (.int ad), .val (.int (3 : Int32)), .val (.int cc), .val (.int (2 : Int32)), .unset, .val .null, .unset, .unset, .unset, .unset, .unset] [(.int (2 : Int32))])) (fun _ k => XS.iload X0.hh X0.hx rfl (hb hby at_30) rfl k) ?_
        refine Go.of (T' := T0) (g' := (mkF mM 42 #[.val (.int aa), .val (.int ab), .val (.int ac), .val (.int ad), .val (.int (3 : Int32)), .val (.int cc), .val (.int (2 : Int32)), .unset, .val .null, .unset, .unset, .unset, .unset, .unset] [])) (fun _ k => XS.ifYes X0.hh X0.hx rfl (pc0 := 32) (pc' := 42) rfl (hb hby at_32) rfl ((if0 _ _).trans (feq (by decide)).2) (by decide) (by decide) k) ?_
        refine Go.of (T' := T0) (g' := (mkF mM 44 #[.val (.int aa), .val (.int ab), .val (.int ac), .val (.int ad), .val (.int (3 : Int32)), .val (.int cc), .val (.int (2 : Int32)), .unset, .val .null, .unset, .unset, .unset, .unset, .unset] [(.int (2 : Int32))])) (fun _ k => XS.iload X0.hh X0.hx rfl (hb hby at_42) rfl k) ?_
        refine Go.of (T' := T0) (g' := (mkF mM 45 #[.val (.int aa), .val (.int ab), .val (.int ac), .val (.int ad), .val (.int (3 : Int32)), .val (.int cc), .val (.int (2 : Int32)), .unset, .val .null, .unset, .unset, .unset, .unset, .unset] [(.int (1 : Int32)), (.int (2 : Int32))])) (fun _ k => XS.iconst X0.hh X0.hx rfl (hb hby at_44) k) ?_
        refine Go.of (T' := T0) (g' := (mkF mM 58 #[.val (.int aa), .val (.int ab), .val (.int ac), .val (.int ad), .val (.int (3 : Int32)), .val (.int cc), .val (.int (2 : Int32)), .unset, .val .null, .unset, .unset, .unset, .unset, .unset] [])) (fun _ k => XS.icmpYes X0.hh X0.hx rfl (pc0 := 45) (pc' := 58) rfl (hb hby at_45) rfl (feq (by decide)).2 (by decide) (by decide) k) ?_
        refine Go.of (T' := T0) (g' := (mkF mM 60 #[.val (.int aa), .val (.int ab), .val (.int ac), .val (.int ad), .val (.int (3 : Int32)), .val (.int cc), .val (.int (2 : Int32)), .unset, .val .null, .unset, .unset, .unset, .unset, .unset] [(.int (2 : Int32))])) (fun _ k => XS.iload X0.hh X0.hx rfl (hb hby at_58) rfl k) ?_
        refine Go.of (T' := T0) (g' := (mkF mM 61 #[.val (.int aa), .val (.int ab), .val (.int ac), .val (.int ad), .val (.int (3 : Int32)), .val (.int cc), .val (.int (2 : Int32)), .unset, .val .null, .unset, .unset, .unset, .unset, .unset] [(.int (2 : Int32)), (.int (2 : Int32))])) (fun _ k => XS.iconst X0.hh X0.hx rfl (hb hby at_60) k) ?_
        refine Go.of (T' := T0) (g' := (mkF mM 64 #[.val (.int aa), .val (.int ab), .val (.int ac), .val (.int ad), .val (.int (3 : Int32)), .val (.int cc), .val (.int (2 : Int32)), .unset, .val .null, .unset, .unset, .unset, .unset, .unset] [])) (fun _ k => XS.icmpNo X0.hh X0.hx rfl (hb hby at_61) rfl (teq (by decide)).2 k) ?_
        refine X0.newO (hw _ (List.mem_of_getElem? (i := 30) rfl)) (hw _ (List.mem_of_getElem? (i := 3) rfl)) (hw _ (List.mem_of_getElem? (i := 2) rfl)) (hb hby at_64) (by decide) (by decide) ?_
        intro T67 h67 r g_r X67 E67 A_r D_r
        have z67 : h0.size ≤ h67.size := E67.1
        have l_r : r < h67.size := A_r.lt
        have F_value_r : Fld Z h67 r "java/lang/String" "value" "[B" .null := D_r (Or.inr (hw _ (List.mem_of_getElem? (i := 5) rfl))) (ty := (.array .byte)) (by decide)
        have F_coder_r : Fld Z h67 r "java/lang/String" "coder" "B" (.int (0 : Int32)) := D_r (Or.inr (hw _ (List.mem_of_getElem? (i := 6) rfl))) (ty := .byte) (by decide)
        show Go pP eE bB _ T67 (mkF mM 67 #[.val (.int aa), .val (.int ab), .val (.int ac), .val (.int ad), .val (.int (3 : Int32)), .val (.int cc), .val (.int (2 : Int32)), .unset, .val .null, .unset, .unset, .unset, .unset, .unset] [(.ref r)])
        refine Go.of (T' := T67) (g' := (mkF mM 68 #[.val (.int aa), .val (.int ab), .val (.int ac), .val (.int ad), .val (.int (3 : Int32)), .val (.int cc), .val (.int (2 : Int32)), .unset, .val .null, .unset, .unset, .unset, .unset, .unset] [(.ref r), (.ref r)])) (fun _ k => XS.dup X67.hh X67.hx rfl (hb hby at_67) rfl rfl k) ?_
        refine Go.of (T' := T67) (g' := (mkF mM 69 #[.val (.int aa), .val (.int ab), .val (.int ac), .val (.int ad), .val (.int (3 : Int32)), .val (.int cc), .val (.int (2 : Int32)), .unset, .val .null, .unset, .unset, .unset, .unset, .unset] [(.int (3 : Int32)), (.ref r), (.ref r)])) (fun _ k => XS.iconst X67.hh X67.hx rfl (hb hby at_68) k) ?_
        refine X67.newP (cap := 3) (hw _ (List.mem_of_getElem? (i := 29) rfl)) (hb hby at_69) (by decide) (by decide) (by decide) (by decide) (by decide) ?_
        intro T68 h68 b kc_b g_b X68 E68 V_b
        have z68 : h67.size ≤ h68.size := E68.1
        have l_b : b < h68.size := V_b.lt
        have V_b : Arv Z h68 b kc_b .char (3 : Int32) [(.int (0 : Int32)), (.int (0 : Int32)), (.int (0 : Int32))] (.int (0 : Int32)) := Arv.pad V_b (pad_rep [] _ 3)
        show Go pP eE bB _ T68 (mkF mM 71 #[.val (.int aa), .val (.int ab), .val (.int ac), .val (.int ad), .val (.int (3 : Int32)), .val (.int cc), .val (.int (2 : Int32)), .unset, .val .null, .unset, .unset, .unset, .unset, .unset] [(.ref b), (.ref r), (.ref r)])
        refine Go.of (T' := T68) (g' := (mkF mM 72 #[.val (.int aa), .val (.int ab), .val (.int ac), .val (.int ad), .val (.int (3 : Int32)), .val (.int cc), .val (.int (2 : Int32)), .unset, .val .null, .unset, .unset, .unset, .unset, .unset] [(.ref b), (.ref b), (.ref r), (.ref r)])) (fun _ k => XS.dup X68.hh X68.hx rfl (hb hby at_71) rfl rfl k) ?_
        refine Go.of (T' := T68) (g' := (mkF mM 73 #[.val (.int aa), .val (.int ab), .val (.int ac), .val (.int ad), .val (.int (3 : Int32)), .val (.int cc), .val (.int (2 : Int32)), .unset, .val .null, .unset, .unset, .unset, .unset, .unset] [(.int (0 : Int32)), (.ref b), (.ref b), (.ref r), (.ref r)])) (fun _ k => XS.iconst X68.hh X68.hx rfl (hb hby at_72) k) ?_
        refine Go.of (T' := T68) (g' := (mkF mM 75 #[.val (.int aa), .val (.int ab), .val (.int ac), .val (.int ad), .val (.int (3 : Int32)), .val (.int cc), .val (.int (2 : Int32)), .unset, .val .null, .unset, .unset, .unset, .unset, .unset] [(.int (45 : Int32)), (.int (0 : Int32)), (.ref b), (.ref b), (.ref r), (.ref r)])) (fun _ k => XS.bipush X68.hh X68.hx rfl (hb hby at_73) k) ?_
        refine X68.stC 0 V_b (by decide) rfl (Nat.le_of_ble_eq_true rfl) (by omega) (Or.inr (by omega)) (hb hby at_75) ?_
        intro T69 h69 X69 K69 V_b
        have z69 : h68.size ≤ h69.size := K69.1
        have V_b : Arv Z h69 b kc_b .char (3 : Int32) [(.int (45 : Int32)), (.int (0 : Int32)), (.int (0 : Int32))] (.int (0 : Int32)) := by have q := V_b; rw [(by decide : nar .char (45 : Int32) = 45)] at q; exact q
        show Go pP eE bB _ T69 (mkF mM 76 #[.val (.int aa), .val (.int ab), .val (.int ac), .val (.int ad), .val (.int (3 : Int32)), .val (.int cc), .val (.int (2 : Int32)), .unset, .val .null, .unset, .unset, .unset, .unset, .unset] [(.ref b), (.ref r), (.ref r)])
        refine Go.of (T' := T69) (g' := (mkF mM 77 #[.val (.int aa), .val (.int ab), .val (.int ac), .val (.int ad), .val (.int (3 : Int32)), .val (.int cc), .val (.int (2 : Int32)), .unset, .val .null, .unset, .unset, .unset, .unset, .unset] [(.ref b), (.ref b), (.ref r), (.ref r)])) (fun _ k => XS.dup X69.hh X69.hx rfl (hb hby at_76) rfl rfl k) ?_
        refine Go.of (T' := T69) (g' := (mkF mM 78 #[.val (.int aa), .val (.int ab), .val (.int ac), .val (.int ad), .val (.int (3 : Int32)), .val (.int cc), .val (.int (2 : Int32)), .unset, .val .null, .unset, .unset, .unset, .unset, .unset] [(.int (1 : Int32)), (.ref b), (.ref b), (.ref r), (.ref r)])) (fun _ k => XS.iconst X69.hh X69.hx rfl (hb hby at_77) k) ?_
        refine Go.of (T' := T69) (g' := (mkF mM 80 #[.val (.int aa), .val (.int ab), .val (.int ac), .val (.int ad), .val (.int (3 : Int32)), .val (.int cc), .val (.int (2 : Int32)), .unset, .val .null, .unset, .unset, .unset, .unset, .unset] [(.int (45 : Int32)), (.int (1 : Int32)), (.ref b), (.ref b), (.ref r), (.ref r)])) (fun _ k => XS.bipush X69.hh X69.hx rfl (hb hby at_78) k) ?_
        refine X69.stC 1 V_b (by decide) rfl (Nat.le_of_ble_eq_true rfl) (by omega) (Or.inr (by omega)) (hb hby at_80) ?_
        intro T70 h70 X70 K70 V_b
        have z70 : h69.size ≤ h70.size := K70.1
        have V_b : Arv Z h70 b kc_b .char (3 : Int32) [(.int (45 : Int32)), (.int (45 : Int32)), (.int (0 : Int32))] (.int (0 : Int32)) := by have q := V_b; rw [(by decide : nar .char (45 : Int32) = 45)] at q; exact q
        show Go pP eE bB _ T70 (mkF mM 81 #[.val (.int aa), .val (.int ab), .val (.int ac), .val (.int ad), .val (.int (3 : Int32)), .val (.int cc), .val (.int (2 : Int32)), .unset, .val .null, .unset, .unset, .unset, .unset, .unset] [(.ref b), (.ref r), (.ref r)])
        refine Go.of (T' := T70) (g' := (mkF mM 82 #[.val (.int aa), .val (.int ab), .val (.int ac), .val (.int ad), .val (.int (3 : Int32)), .val (.int cc), .val (.int (2 : Int32)), .unset, .val .null, .unset, .unset, .unset, .unset, .unset] [(.ref b), (.ref b), (.ref r), (.ref r)])) (fun _ k => XS.dup X70.hh X70.hx rfl (hb hby at_81) rfl rfl k) ?_
        refine Go.of (T' := T70) (g' := (mkF mM 83 #[.val (.int aa), .val (.int ab), .val (.int ac), .val (.int ad), .val (.int (3 : Int32)), .val (.int cc), .val (.int (2 : Int32)), .unset, .val .null, .unset, .unset, .unset, .unset, .unset] [(.int (2 : Int32)), (.ref b), (.ref b), (.ref r), (.ref r)])) (fun _ k => XS.iconst X70.hh X70.hx rfl (hb hby at_82) k) ?_
        refine Go.of (T' := T70) (g' := (mkF mM 85 #[.val (.int aa), .val (.int ab), .val (.int ac), .val (.int ad), .val (.int (3 : Int32)), .val (.int cc), .val (.int (2 : Int32)), .unset, .val .null, .unset, .unset, .unset, .unset, .unset] [(.int cc), (.int (2 : Int32)), (.ref b), (.ref b), (.ref r), (.ref r)])) (fun _ k => XS.iload X70.hh X70.hx rfl (hb hby at_83) rfl k) ?_
        refine X70.stC 2 V_b (by decide) rfl (Nat.le_of_ble_eq_true rfl) (by omega) (Or.inr (by omega)) (hb hby at_85) ?_
        intro T71 h71 X71 K71 V_b
        have z71 : h70.size ≤ h71.size := K71.1
        have V_b : Arv Z h71 b kc_b .char (3 : Int32) [(.int (45 : Int32)), (.int (45 : Int32)), (.int cc)] (.int (0 : Int32)) := by have q := V_b; rw [nar255 cc r2.1 r2.2] at q; exact q
        show Go pP eE bB _ T71 (mkF mM 86 #[.val (.int aa), .val (.int ab), .val (.int ac), .val (.int ad), .val (.int (3 : Int32)), .val (.int cc), .val (.int (2 : Int32)), .unset, .val .null, .unset, .unset, .unset, .unset, .unset] [(.ref b), (.ref r), (.ref r)])
        have hp : ∀ c ∈ ([(45 : Int32), (45 : Int32), cc] : List Int32), ¬ c < 0 ∧ ¬ (255 : Int32) < c := by
          intro c hc
          simp only [List.mem_cons, List.not_mem_nil, or_false] at hc
          rcases hc with rfl | rfl | rfl
          · decide
          · decide
          · exact r2
        have A_r := ((((A_r.ext E68).keep K69).keep K70).keep K71)
        have F_value_r := ((((F_value_r.ext E68).keep K69 (ninN (by omega) nin0)).keep K70 (ninN (by omega) nin0)).keep K71 (ninN (by omega) nin0))
        have F_coder_r := ((((F_coder_r.ext E68).keep K69 (ninN (by omega) nin0)).keep K70 (ninN (by omega) nin0)).keep K71 (ninN (by omega) nin0))
        refine X71.callCN (W := 1) (argsL := [(.ref b)]) (rest := [(.ref r)]) (nc := 1) (ns := 3) (ws' := [r]) (a := r) rfl (hw _ (List.mem_of_getElem? (i := 31) rfl)) (hw _ (List.mem_of_getElem? (i := 32) rfl)) (hw _ (List.mem_of_getElem? (i := 33) rfl)) (by decide) (fun vm0 hZ => StrChars.Road.backV (s := sS.setVm vm0) (W := 1) hZ hws (kI := 4) (hw _ (List.mem_of_getElem? (i := 3) rfl)) (cs := ([(45 : Int32), (45 : Int32), cc] : List Int32)) (bs := ([(45 : Int32), (45 : Int32), cc] : List Int32).map (fun c => c.toInt8.toInt32)) (n := 3) (n0 := Z.heap.size) (by omega) (by omega) A_r F_value_r F_coder_r V_b (Sc.ext X71.ext0) hzc rfl rfl (by decide) (by decide) hp rfl (by decide) (by decide)) (fun v h' L q => ⟨q.2.1, q.2.2.1⟩) pd_8 rfl rfl rfl (by rw [hml]; rfl) (by decide) (by decide) (hb hby at_86) (allS (by omega) all0) (allS (Or.inr (by omega)) all0) (allS (Sfe.mem (List.mem_of_getElem? (i := 1) rfl)) all0) ?_
        intro v72 T72 h72 X72 K72 Q72
        obtain ⟨_, ⟨rfl, -, -, A_r, C_r, t_r, kb_r, gt_r, gs_r, -, V_r, B_r⟩⟩ := Q72
        have z72 : h71.size ≤ h72.size := K72.1
        show Go pP eE bB _ T72 (mkF mM 89 #[.val (.int aa), .val (.int ab), .val (.int ac), .val (.int ad), .val (.int (3 : Int32)), .val (.int cc), .val (.int (2 : Int32)), .unset, .val .null, .unset, .unset, .unset, .unset, .unset] [(.ref r)])
        have lt_r : t_r < h72.size := B_r.lt
        have St_r : Str Z h72 r t_r kb_r ([(45 : Int32), (45 : Int32), cc] : List Int32) := ⟨A_r, V_r, C_r, B_r, hp, Nat.le_of_ble_eq_true rfl⟩
        refine Go.of (T' := T72) (g' := (mkF mM 91 #[.val (.int aa), .val (.int ab), .val (.int ac), .val (.int ad), .val (.int (3 : Int32)), .val (.int cc), .val (.int (2 : Int32)), .val (.ref r), .val .null, .unset, .unset, .unset, .unset, .unset] [])) (fun _ k => XS.astore X72.hh X72.hx rfl (hb hby at_89) rfl rfl (l' := #[.val (.int aa), .val (.int ab), .val (.int ac), .val (.int ad), .val (.int (3 : Int32)), .val (.int cc), .val (.int (2 : Int32)), .val (.ref r), .val .null, .unset, .unset, .unset, .unset, .unset]) rfl k) ?_
        refine Go.of (T' := T72) (g' := (mkF mM 296 #[.val (.int aa), .val (.int ab), .val (.int ac), .val (.int ad), .val (.int (3 : Int32)), .val (.int cc), .val (.int (2 : Int32)), .val (.ref r), .val .null, .unset, .unset, .unset, .unset, .unset] [])) (fun _ k => XS.goto X72.hh X72.hx rfl (pc0 := 91) (pc' := 296) rfl (hb hby at_91) (by decide) (by decide) k) ?_
        exact fin _ _ _ _ _ _ _ _ _ _ _ _ _ _ _ _ _ (X72.mono (by decide) (by decide)) St_r (pick_none (by simp) (by simp) (by simp)).symm
      · show Go pP eE bB _ T0 (mkF mM 21 #[.val (.int aa), .val (.int ab), .val (.int ac), .val (.int ad), .val (.int (3 : Int32)), .val (.int cc), .val (.int (3 : Int32)), .unset, .unset, .unset, .unset, .unset, .unset, .unset] [])
        refine Go.of (T' := T0) (g' := (mkF mM 23 #[.val (.int aa), .val (.int ab), .val (.int ac), .val (.int ad), .val (.int (3 : Int32)), .val (.int cc), .val (.int (3 : Int32)), .unset, .unset, .unset, .unset, .unset, .unset, .unset] [(.int (3 : Int32))])) (fun _ k => XS.iload X0.hh X0.hx rfl (hb hby at_21) rfl k) ?_
        refine Go.of (T' := T0) (g' := (mkF mM 24 #[.val (.int aa), .val (.int ab), .val (.int ac), .val (.int ad), .val (.int (3 : Int32)), .val (.int cc), .val (.int (3 : Int32)), .unset, .unset, .unset, .unset, .unset, .unset, .unset] [(.int (3 : Int32)), (.int (3 : Int32))])) (fun _ k => XS.iconst X0.hh X0.hx rfl (hb hby at_23) k) ?_
        refine Go.of (T' := T0) (g' := (mkF mM 27 #[.val (.int aa), .val (.int ab), .val (.int ac), .val (.int ad), .val (.int (3 : Int32)), .val (.int cc), .val (.int (3 : Int32)), .unset, .unset, .unset, .unset, .unset, .unset, .unset] [])) (fun _ k => XS.icmpNo X0.hh X0.hx rfl (hb hby at_24) rfl (teq (by decide)).2 k) ?_
        refine Go.of (T' := T0) (g' := (mkF mM 28 #[.val (.int aa), .val (.int ab), .val (.int ac), .val (.int ad), .val (.int (3 : Int32)), .val (.int cc), .val (.int (3 : Int32)), .unset, .unset, .unset, .unset, .unset, .unset, .unset] [.null])) (fun _ k => XS.aconstNull X0.hh X0.hx rfl (hb hby at_27) k) ?_
        refine Go.of (T' := T0) (g' := (mkF mM 30 #[.val (.int aa), .val (.int ab), .val (.int ac), .val (.int ad), .val (.int (3 : Int32)), .val (.int cc), .val (.int (3 : Int32)), .unset, .val .null, .unset, .unset, .unset, .unset, .unset] [])) (fun _ k => XS.astore X0.hh X0.hx rfl (hb hby at_28) rfl rfl (l' := #[.val (.int aa), .val (.int ab), .val (.int ac), .val (.int ad), .val (.int (3 : Int32)), .val (.int cc), .val (.int (3 : Int32)), .unset, .val .null, .unset, .unset, .unset, .unset, .unset]) rfl k) ?_
        refine Go.of (T' := T0) (g' := (mkF mM 32 #[.val (.int aa), .val (.int ab), .val (.int ac), .val (.int ad), .val (.int (3 : Int32)), .val (.int cc), .val (.int (3 : Int32)), .unset, .val .null, .unset, .unset, .unset, .unset, .unset] [(.int (3 : Int32))])) (fun _ k => XS.iload X0.hh X0.hx rfl (hb hby at_30) rfl k) ?_
        refine Go.of (T' := T0) (g' := (mkF mM 42 #[.val (.int aa), .val (.int ab), .val (.int ac), .val (.int ad), .val (.int (3 : Int32)), .val (.int cc), .val (.int (3 : Int32)), .unset, .val .null, .unset, .unset, .unset, .unset, .unset] [])) (fun _ k => XS.ifYes X0.hh X0.hx rfl (pc0 := 32) (pc' := 42) rfl (hb hby at_32) rfl ((if0 _ _).trans (feq (by decide)).2) (by decide) (by decide) k) ?_
        refine Go.of (T' := T0) (g' := (mkF mM 44 #[.val (.int aa), .val (.int ab), .val (.int ac), .val (.int ad), .val (.int (3 : Int32)), .val (.int cc), .val (.int (3 : Int32)), .unset, .val .null, .unset, .unset, .unset, .unset, .unset] [(.int (3 : Int32))])) (fun _ k => XS.iload X0.hh X0.hx rfl (hb hby at_42) rfl k) ?_
        refine Go.of (T' := T0) (g' := (mkF mM 45 #[.val (.int aa), .val (.int ab), .val (.int ac), .val (.int ad), .val (.int (3 : Int32)), .val (.int cc), .val (.int (3 : Int32)), .unset, .val .null, .unset, .unset, .unset, .unset, .unset] [(.int (1 : Int32)), (.int (3 : Int32))])) (fun _ k => XS.iconst X0.hh X0.hx rfl (hb hby at_44) k) ?_
        refine Go.of (T' := T0) (g' := (mkF mM 58 #[.val (.int aa), .val (.int ab), .val (.int ac), .val (.int ad), .val (.int (3 : Int32)), .val (.int cc), .val (.int (3 : Int32)), .unset, .val .null, .unset, .unset, .unset, .unset, .unset] [])) (fun _ k => XS.icmpYes X0.hh X0.hx rfl (pc0 := 45) (pc' := 58) rfl (hb hby at_45) rfl (feq (by decide)).2 (by decide) (by decide) k) ?_
        refine Go.of (T' := T0) (g' := (mkF mM 60 #[.val (.int aa), .val (.int ab), .val (.int ac), .val (.int ad), .val (.int (3 : Int32)), .val (.int cc), .val (.int (3 : Int32)), .unset, .val .null, .unset, .unset, .unset, .unset, .unset] [(.int (3 : Int32))])) (fun _ k => XS.iload X0.hh X0.hx rfl (hb hby at_58) rfl k) ?_
        refine Go.of (T' := T0) (g' := (mkF mM 61 #[.val (.int aa), .val (.int ab), .val (.int ac), .val (.int ad), .val (.int (3 : Int32)), .val (.int cc), .val (.int (3 : Int32)), .unset, .val .null, .unset, .unset, .unset, .unset, .unset] [(.int (2 : Int32)), (.int (3 : Int32))])) (fun _ k => XS.iconst X0.hh X0.hx rfl (hb hby at_60) k) ?_
        refine Go.of (T' := T0) (g' := (mkF mM 94 #[.val (.int aa), .val (.int ab), .val (.int ac), .val (.int ad), .val (.int (3 : Int32)), .val (.int cc), .val (.int (3 : Int32)), .unset, .val .null, .unset, .unset, .unset, .unset, .unset] [])) (fun _ k => XS.icmpYes X0.hh X0.hx rfl (pc0 := 61) (pc' := 94) rfl (hb hby at_61) rfl (feq (by decide)).2 (by decide) (by decide) k) ?_
        refine X0.ldcR (n := 8) (z := Int32.ofNat ([45, 45] : List Int32).length) (vs := (([45, 45] : List Int32).map fun c => c.toInt8.toInt32).map Value.int) (hw _ (List.mem_of_getElem? (i := 111) rfl)) hwS (by decide +kernel) (by decide +kernel) (by decide +kernel) (by decide +kernel) (hb hby at_94) (by decide +kernel) (by decide) (by decide) (by decide) ?_
        intro T73 h73 q t_q kb_q X73 E73 A_q C_q V_q B_q N_q
        have z73 : h0.size ≤ h73.size := E73.1
        have l_q : q < h73.size := A_q.lt
        have lt_q : t_q < h73.size := B_q.lt
        have St_q : Str Z h73 q t_q kb_q [45, 45] := ⟨A_q, V_q, C_q, B_q, by decide, by decide⟩
        show Go pP eE bB _ T73 (mkF mM 96 #[.val (.int aa), .val (.int ab), .val (.int ac), .val (.int ad), .val (.int (3 : Int32)), .val (.int cc), .val (.int (3 : Int32)), .unset, .val .null, .unset, .unset, .unset, .unset, .unset] [(.ref q)])
        refine Go.of (T' := T73) (g' := (mkF mM 98 #[.val (.int aa), .val (.int ab), .val (.int ac), .val (.int ad), .val (.int (3 : Int32)), .val (.int cc), .val (.int (3 : Int32)), .val (.ref q), .val .null, .unset, .unset, .unset, .unset, .unset] [])) (fun _ k => XS.astore X73.hh X73.hx rfl (hb hby at_96) rfl rfl (l' := #[.val (.int aa), .val (.int ab), .val (.int ac), .val (.int ad), .val (.int (3 : Int32)), .val (.int cc), .val (.int (3 : Int32)), .val (.ref q), .val .null, .unset, .unset, .unset, .unset, .unset]) rfl k) ?_
        refine Go.of (T' := T73) (g' := (mkF mM 296 #[.val (.int aa), .val (.int ab), .val (.int ac), .val (.int ad), .val (.int (3 : Int32)), .val (.int cc), .val (.int (3 : Int32)), .val (.ref q), .val .null, .unset, .unset, .unset, .unset, .unset] [])) (fun _ k => XS.goto X73.hh X73.hx rfl (pc0 := 98) (pc' := 296) rfl (hb hby at_98) (by decide) (by decide) k) ?_
        exact fin _ _ _ _ _ _ _ _ _ _ _ _ _ _ _ _ _ (X73.mono (by decide) (by decide)) St_q (pick_none (by decide) (by decide) (by decide)).symm
  exact J0 _ _ _ (rem4 _ (and_nn _ 2147483647 (by decide)).1) (by rw [c255]; exact r255 _) (and3 _)

theorem len_is {Z : State} {args : Array Value} {t : Term} {a : Addr} {cl : Cell} {ty : FieldType} {n : Int32} (ev : t.eval args Z none [] Z = some (.ref a)) (A : Jvm.RoadKit.Arr Z Z.heap a cl ty) (h : (Cond.eq (Term.length t) (Term.int n)).value args Z none Z [] = some true) : cl.slots.size < 2 ^ 31 ∧ cl.slots.size.toInt32 = n := by
  obtain ⟨x, y, h1, h2, h3, h4⟩ := cmp_v (Or.inl h)
  have hat : Z.arrayAt? a = some cl := A.fin (Vm.Alike.refl _)
  have hl : cl.slots.size < 2 ^ 31 := by
    by_cases q : cl.slots.size < 2 ^ 31
    · exact q
    · exfalso
      simp [Term.eval, ev, hat, q] at h1
  refine ⟨hl, ?_⟩
  exact gotT (Cond.eq_ints (len_f ev hat hl) (Term.int_eval n)) h
theorem elem_is {Z : State} {args : Array Value} {t u q : Term} {a : Addr} {cl : Cell} {ty : FieldType} {j : Int32} {v : Value} (ev : t.eval args Z none [] Z = some (.ref a)) (A : Jvm.RoadKit.Arr Z Z.heap a cl ty) (hj : q.eval args Z none [] Z = some (.int j)) (h : (Cond.eq (Term.elem t q) u).value args Z none Z [] = some true) (hv : u.eval args Z none [] Z = some v) (hk : (match v with | .int _ => true | .ref _ => true | _ => false) = true) : cl.slots[j.toNatClampNeg]? = some v := by
  obtain ⟨x, y, h1, h2, h3, h4⟩ := cmp_v (Or.inl h)
  cases h2.symm.trans hv
  have e := elem_in h1 ev hj A.1
  cases v with
  | int n =>
    obtain ⟨z, rfl⟩ := h4
    have := gotT (Cond.eq_ints h1 hv) h
    rw [e.2, this]
  | ref n =>
    have hx : x.isRef = true := h4.2
    have := gotT (eq_R h1 hv hx rfl) h
    rw [e.2, this]
  | _ => cases hk
theorem int_is {Z : State} {args : Array Value} {t : Term} {n : Int32} (h : (Cond.eq t (Term.int n)).value args Z none Z [] = some true) : t.eval args Z none [] Z = some (.int n) := by
  obtain ⟨x, y, h1, h2, h3, h4⟩ := cmp_v (Or.inl h)
  cases h2.symm.trans (Term.int_eval n)
  obtain ⟨z, rfl⟩ := h4
  rw [h1, gotT (Cond.eq_ints h1 (Term.int_eval n)) h]
set_option maxRecDepth 65536 in
set_option maxHeartbeats 40000000 in
theorem comes_1 {Post : Tables → Env → Array Value → State → Outcome → State → Prop} (hpost : ∀ tb e args s v u, (limb_1_1.after args s (.returned v) u = true ∧ limb_1_2.after args s (.returned v) u = true ∧ True) → FramedW s (.returned v) u (Jvm.fieldLocs frame_1_writes args s ++ Jvm.arrayLocs frame_1_arrays args s ++ Jvm.staticLocs frame_1_statics s) 32 8384 → Post tb e args s (.returned v) u) :
    ArmFor flags0 classFile x code maxLocals ret World_1 tables_1 room_1 Calls_1 rest_1 Pre_1 Post := by
  intro l hfl _ _ p e ha hc hk s m args below hf hA hF happ hP
  obtain ⟨hcalls, hrest, hpre⟩ := hP
  obtain ⟨-, -, -, hnamed, -, -, -, hat⟩ := (Spec.applies_iff hf).mp happ
  obtain ⟨hg, hn⟩ := and_e (Cond.before_iff.mp (show (Jvm.Cond.and given_1 narrow_1).before args s = true from hpre))
  obtain ⟨g_n, g_0⟩ := and_e hg
  obtain ⟨k_0, g_1⟩ := and_e g_0
  obtain ⟨k_1, g_2⟩ := and_e g_1
  obtain ⟨k_2, g_3⟩ := and_e g_2
  obtain ⟨w0, w1, w2, w3, rfl⟩ : ∃ w0 w1 w2 w3 : Value, args = #[w0, w1, w2, w3] := by
    have hs : args.size = 4 := by simpa [Cond.value, given_1] using g_n
    obtain ⟨L⟩ := args
    match L, hs with
    | [w0, w1, w2, w3], _ => exact ⟨w0, w1, w2, w3, rfl⟩
  have hw := fun d (hd : d ∈ tables_1) => atoms_spec (ws := Jvm.Cond.code x code maxLocals ret :: tables_1) hat d (List.mem_cons_of_mem _ hd)
  obtain ⟨hsets, hown0⟩ := atoms_of _ (rest_1_c_eq ▸ (show rest_1_c.before _ s = true from hrest))
  have hr0 := Cond.before_iff.mp hown0
  have hfit : Fit s := fun {y c} hc i hi => by
    obtain ⟨ha, rfl⟩ := Array.getElem?_eq_some_iff.mp hc
    have q := List.all_eq_true.mp ((Array.all_eq_true_iff_forall_mem.mp hF) _ (Array.getElem_mem ha)) i (List.mem_range.mpr hi)
    simpa [Array.getElem?_eq_getElem hi] using q
  obtain ⟨i_0, e_0⟩ := is_v k_0
  obtain rfl : w0 = (.int i_0) := Option.some.inj e_0
  obtain ⟨i_1, e_1⟩ := is_v k_1
  obtain rfl : w1 = (.int i_1) := Option.some.inj e_1
  obtain ⟨i_2, e_2⟩ := is_v k_2
  obtain rfl : w2 = (.int i_2) := Option.some.inj e_2
  obtain ⟨i_3, e_3⟩ := is_v g_3
  obtain rfl : w3 = (.int i_3) := Option.some.inj e_3
  have n_z := not_v (Cond.before_iff.mp (hsets _ (List.mem_of_getElem? (i := 2) rfl)))
  obtain ⟨i_z, e_z⟩ := is_v (Cond.before_iff.mp (hsets _ (List.mem_of_getElem? (i := 1) rfl)))
  have S_z : Sta s s.heap "java/lang/String" "COMPACT_STRINGS" "Z" (.int i_z) := Sta.start e_z (Or.inl (hsets _ (List.mem_of_getElem? (i := 0) rfl)))
  have c_z : ¬ (i_z = (0 : Int32)) := gotF (Cond.eq_ints e_z (Term.int_eval (0))) n_z
  obtain ⟨v_f, e_f, r_f⟩ := isR_v (Cond.before_iff.mp (hsets _ (List.mem_of_getElem? (i := 8) rfl)))
  have S_f : Sta s s.heap "jdk/internal/util/Preconditions" "SIOOBE_FORMATTER" "Ljava/util/function/BiFunction;" v_f := Sta.start e_f (Or.inl (hsets _ (List.mem_of_getElem? (i := 7) rfl)))
  obtain ⟨n_0, nr_0⟩ := and_e hn
  obtain ⟨n_1, nr_1⟩ := and_e nr_0
  obtain ⟨n_2, nr_2⟩ := and_e nr_1
  obtain ⟨n_3, nr_3⟩ := and_e nr_2
  obtain ⟨n_4, nr_4⟩ := and_e nr_3
  obtain ⟨n_5, nr_5⟩ := and_e nr_4
  obtain ⟨n_6, nr_6⟩ := and_e nr_5
  obtain ⟨n_7, nr_7⟩ := and_e nr_6
  obtain ⟨n_8, nr_8⟩ := and_e nr_7
  obtain ⟨n_9, nr_9⟩ := and_e nr_8
  obtain ⟨n_10, nr_10⟩ := and_e nr_9
  obtain ⟨n_11, nr_11⟩ := and_e nr_10
  obtain ⟨n_12, nr_12⟩ := and_e nr_11
  obtain ⟨n_13, nr_13⟩ := and_e nr_12
  obtain ⟨n_14, nr_14⟩ := and_e nr_13
  obtain ⟨n_15, nr_15⟩ := and_e nr_14
  obtain ⟨n_16, nr_16⟩ := and_e nr_15
  obtain ⟨n_17, nr_17⟩ := and_e nr_16
  obtain ⟨n_18, nr_18⟩ := and_e nr_17
  obtain ⟨n_19, nr_19⟩ := and_e nr_18
  obtain ⟨n_20, nr_20⟩ := and_e nr_19
  obtain ⟨n_21, nr_21⟩ := and_e nr_20
  obtain ⟨n_22, nr_22⟩ := and_e nr_21
  obtain ⟨n_23, nr_23⟩ := and_e nr_22
  obtain ⟨n_24, nr_24⟩ := and_e nr_23
  obtain ⟨n_25, nr_25⟩ := and_e nr_24
  obtain ⟨n_26, nr_26⟩ := and_e nr_25
  obtain ⟨n_27, nr_27⟩ := and_e nr_26
  obtain ⟨n_28, nr_28⟩ := and_e nr_27
  obtain ⟨n_29, nr_29⟩ := and_e nr_28
  obtain ⟨n_30, nr_30⟩ := and_e nr_29
  obtain ⟨n_31, nr_31⟩ := and_e nr_30
  obtain ⟨n_32, nr_32⟩ := and_e nr_31
  obtain ⟨n_33, nr_33⟩ := and_e nr_32
  obtain ⟨n_34, nr_34⟩ := and_e nr_33
  obtain ⟨n_35, nr_35⟩ := and_e nr_34
  obtain ⟨n_36, nr_36⟩ := and_e nr_35
  obtain ⟨n_37, nr_37⟩ := and_e nr_36
  obtain ⟨n_38, nr_38⟩ := and_e nr_37
  obtain ⟨n_39, nr_39⟩ := and_e nr_38
  obtain ⟨n_40, nr_40⟩ := and_e nr_39
  obtain ⟨n_41, nr_41⟩ := and_e nr_40
  obtain ⟨n_42, nr_42⟩ := and_e nr_41
  obtain ⟨n_43, nr_43⟩ := and_e nr_42
  obtain ⟨n_44, nr_44⟩ := and_e nr_43
  obtain ⟨n_45, nr_45⟩ := and_e nr_44
  obtain ⟨n_46, nr_46⟩ := and_e nr_45
  obtain ⟨n_47, nr_47⟩ := and_e nr_46
  obtain ⟨n_48, nr_48⟩ := and_e nr_47
  obtain ⟨n_49, nr_49⟩ := and_e nr_48
  obtain ⟨n_50, nr_50⟩ := and_e nr_49
  obtain ⟨n_51, nr_51⟩ := and_e nr_50
  obtain ⟨n_52, nr_52⟩ := and_e nr_51
  have n_53 := nr_52
  obtain ⟨va, ev_v⟩ := exa_v n_2
  obtain ⟨o0, ev_0⟩ := exa_v n_0
  obtain ⟨o1, ev_1⟩ := exa_v n_5
  obtain ⟨o2, ev_2⟩ := exa_v n_7
  have S_va : Sta s s.heap "dev/portcullis/cli/HashPasswordCommand$Option" "$VALUES" "[Ldev/portcullis/cli/HashPasswordCommand$Option;" (.ref va) := Sta.start ev_v (Or.inr ⟨(hw _ (List.mem_of_getElem? (i := 10) rfl)), (hw _ (List.mem_of_getElem? (i := 80) rfl))⟩)
  have S_o0 : Sta s s.heap "dev/portcullis/cli/HashPasswordCommand$Option" "ITERATIONS" "Ldev/portcullis/cli/HashPasswordCommand$Option;" (.ref o0) := Sta.start ev_0 (Or.inr ⟨(hw _ (List.mem_of_getElem? (i := 10) rfl)), (hw _ (List.mem_of_getElem? (i := 11) rfl))⟩)
  have S_o1 : Sta s s.heap "dev/portcullis/cli/HashPasswordCommand$Option" "SALT" "Ldev/portcullis/cli/HashPasswordCommand$Option;" (.ref o1) := Sta.start ev_1 (Or.inr ⟨(hw _ (List.mem_of_getElem? (i := 10) rfl)), (hw _ (List.mem_of_getElem? (i := 88) rfl))⟩)
  have S_o2 : Sta s s.heap "dev/portcullis/cli/HashPasswordCommand$Option" "WEAK_PASSWORD" "Ldev/portcullis/cli/HashPasswordCommand$Option;" (.ref o2) := Sta.start ev_2 (Or.inr ⟨(hw _ (List.mem_of_getElem? (i := 10) rfl)), (hw _ (List.mem_of_getElem? (i := 89) rfl))⟩)
  obtain ⟨clv, Avv⟩ := Arr.start ev_v n_1
  have lv := len_is ev_v Avv n_3
  have el_0 : clv.slots[0]? = some (.ref o0) := elem_is ev_v Avv (Term.int_eval (0)) n_4 ev_0 rfl
  have el_1 : clv.slots[1]? = some (.ref o1) := elem_is ev_v Avv (Term.int_eval (1)) n_6 ev_1 rfl
  have el_2 : clv.slots[2]? = some (.ref o2) := elem_is ev_v Avv (Term.int_eval (2)) n_8 ev_2 rfl
  have A_v : Arv s s.heap va clv.cls (.object "dev/portcullis/cli/HashPasswordCommand$Option") (3 : Int32) [.ref o0, .ref o1, .ref o2] .null := Arv.start hfit Avv lv.1 lv.2 (by decide) rfl ⟨el_0, el_1, el_2, trivial⟩
  obtain ⟨w0, ew_0⟩ := exa_v n_9
  have Fw_0 := Fld.start ((fld_at ev_0).symm.trans ew_0)
  obtain ⟨t0, et_0⟩ := arr_v n_11
  have Ft_0 := Fld.start ((fld_at ew_0).symm.trans et_0)
  have Fc_0 := Fld.start ((fld_at ew_0).symm.trans (int_is n_10))
  obtain ⟨cl0, At_0⟩ := Arr.start et_0 n_11
  have lb_0 := len_is et_0 At_0 n_12
  have b_0_0 : cl0.slots[0]? = some (.int (45 : Int32)) := elem_is et_0 At_0 (Term.int_eval (0)) n_21 (Term.int_eval (45)) rfl
  have b_0_1 : cl0.slots[1]? = some (.int (45 : Int32)) := elem_is et_0 At_0 (Term.int_eval (1)) n_22 (Term.int_eval (45)) rfl
  have b_0_2 : cl0.slots[2]? = some (.int (105 : Int32)) := elem_is et_0 At_0 (Term.int_eval (2)) n_23 (Term.int_eval (105)) rfl
  have b_0_3 : cl0.slots[3]? = some (.int (116 : Int32)) := elem_is et_0 At_0 (Term.int_eval (3)) n_24 (Term.int_eval (116)) rfl
  have b_0_4 : cl0.slots[4]? = some (.int (101 : Int32)) := elem_is et_0 At_0 (Term.int_eval (4)) n_25 (Term.int_eval (101)) rfl
  have b_0_5 : cl0.slots[5]? = some (.int (114 : Int32)) := elem_is et_0 At_0 (Term.int_eval (5)) n_26 (Term.int_eval (114)) rfl
  have b_0_6 : cl0.slots[6]? = some (.int (97 : Int32)) := elem_is et_0 At_0 (Term.int_eval (6)) n_27 (Term.int_eval (97)) rfl
  have b_0_7 : cl0.slots[7]? = some (.int (116 : Int32)) := elem_is et_0 At_0 (Term.int_eval (7)) n_28 (Term.int_eval (116)) rfl
  have b_0_8 : cl0.slots[8]? = some (.int (105 : Int32)) := elem_is et_0 At_0 (Term.int_eval (8)) n_29 (Term.int_eval (105)) rfl
  have b_0_9 : cl0.slots[9]? = some (.int (111 : Int32)) := elem_is et_0 At_0 (Term.int_eval (9)) n_30 (Term.int_eval (111)) rfl
  have b_0_10 : cl0.slots[10]? = some (.int (110 : Int32)) := elem_is et_0 At_0 (Term.int_eval (10)) n_31 (Term.int_eval (110)) rfl
  have b_0_11 : cl0.slots[11]? = some (.int (115 : Int32)) := elem_is et_0 At_0 (Term.int_eval (11)) n_32 (Term.int_eval (115)) rfl
  have Ab_0 : Arv s s.heap t0 cl0.cls .byte (12 : Int32) [.int (45 : Int32), .int (45 : Int32), .int (105 : Int32), .int (116 : Int32), .int (101 : Int32), .int (114 : Int32), .int (97 : Int32), .int (116 : Int32), .int (105 : Int32), .int (111 : Int32), .int (110 : Int32), .int (115 : Int32)] (.int 0) := Arv.start hfit At_0 lb_0.1 lb_0.2 (by decide) (by decide) ⟨b_0_0, b_0_1, b_0_2, b_0_3, b_0_4, b_0_5, b_0_6, b_0_7, b_0_8, b_0_9, b_0_10, b_0_11, trivial⟩
  have Sx_0 : Str s s.heap w0 t0 cl0.cls W0 := ⟨Exa.start ew_0 n_9, Ft_0, Fc_0, Ab_0, W0r, by decide⟩
  obtain ⟨w1, ew_1⟩ := exa_v n_13
  have Fw_1 := Fld.start ((fld_at ev_1).symm.trans ew_1)
  obtain ⟨t1, et_1⟩ := arr_v n_15
  have Ft_1 := Fld.start ((fld_at ew_1).symm.trans et_1)
  have Fc_1 := Fld.start ((fld_at ew_1).symm.trans (int_is n_14))
  obtain ⟨cl1, At_1⟩ := Arr.start et_1 n_15
  have lb_1 := len_is et_1 At_1 n_16
  have b_1_0 : cl1.slots[0]? = some (.int (45 : Int32)) := elem_is et_1 At_1 (Term.int_eval (0)) n_33 (Term.int_eval (45)) rfl
  have b_1_1 : cl1.slots[1]? = some (.int (45 : Int32)) := elem_is et_1 At_1 (Term.int_eval (1)) n_34 (Term.int_eval (45)) rfl
  have b_1_2 : cl1.slots[2]? = some (.int (115 : Int32)) := elem_is et_1 At_1 (Term.int_eval (2)) n_35 (Term.int_eval (115)) rfl
  have b_1_3 : cl1.slots[3]? = some (.int (97 : Int32)) := elem_is et_1 At_1 (Term.int_eval (3)) n_36 (Term.int_eval (97)) rfl
  have b_1_4 : cl1.slots[4]? = some (.int (108 : Int32)) := elem_is et_1 At_1 (Term.int_eval (4)) n_37 (Term.int_eval (108)) rfl
  have b_1_5 : cl1.slots[5]? = some (.int (116 : Int32)) := elem_is et_1 At_1 (Term.int_eval (5)) n_38 (Term.int_eval (116)) rfl
  have Ab_1 : Arv s s.heap t1 cl1.cls .byte (6 : Int32) [.int (45 : Int32), .int (45 : Int32), .int (115 : Int32), .int (97 : Int32), .int (108 : Int32), .int (116 : Int32)] (.int 0) := Arv.start hfit At_1 lb_1.1 lb_1.2 (by decide) (by decide) ⟨b_1_0, b_1_1, b_1_2, b_1_3, b_1_4, b_1_5, trivial⟩
  have Sx_1 : Str s s.heap w1 t1 cl1.cls W1 := ⟨Exa.start ew_1 n_13, Ft_1, Fc_1, Ab_1, W1r, by decide⟩
  obtain ⟨w2, ew_2⟩ := exa_v n_17
  have Fw_2 := Fld.start ((fld_at ev_2).symm.trans ew_2)
  obtain ⟨t2, et_2⟩ := arr_v n_19
  have Ft_2 := Fld.start ((fld_at ew_2).symm.trans et_2)
  have Fc_2 := Fld.start ((fld_at ew_2).symm.trans (int_is n_18))
  obtain ⟨cl2, At_2⟩ := Arr.start et_2 n_19
  have lb_2 := len_is et_2 At_2 n_20
  have b_2_0 : cl2.slots[0]? = some (.int (45 : Int32)) := elem_is et_2 At_2 (Term.int_eval (0)) n_39 (Term.int_eval (45)) rfl
  have b_2_1 : cl2.slots[1]? = some (.int (45 : Int32)) := elem_is et_2 At_2 (Term.int_eval (1)) n_40 (Term.int_eval (45)) rfl
  have b_2_2 : cl2.slots[2]? = some (.int (119 : Int32)) := elem_is et_2 At_2 (Term.int_eval (2)) n_41 (Term.int_eval (119)) rfl
  have b_2_3 : cl2.slots[3]? = some (.int (101 : Int32)) := elem_is et_2 At_2 (Term.int_eval (3)) n_42 (Term.int_eval (101)) rfl
  have b_2_4 : cl2.slots[4]? = some (.int (97 : Int32)) := elem_is et_2 At_2 (Term.int_eval (4)) n_43 (Term.int_eval (97)) rfl
  have b_2_5 : cl2.slots[5]? = some (.int (107 : Int32)) := elem_is et_2 At_2 (Term.int_eval (5)) n_44 (Term.int_eval (107)) rfl
  have b_2_6 : cl2.slots[6]? = some (.int (45 : Int32)) := elem_is et_2 At_2 (Term.int_eval (6)) n_45 (Term.int_eval (45)) rfl
  have b_2_7 : cl2.slots[7]? = some (.int (112 : Int32)) := elem_is et_2 At_2 (Term.int_eval (7)) n_46 (Term.int_eval (112)) rfl
  have b_2_8 : cl2.slots[8]? = some (.int (97 : Int32)) := elem_is et_2 At_2 (Term.int_eval (8)) n_47 (Term.int_eval (97)) rfl
  have b_2_9 : cl2.slots[9]? = some (.int (115 : Int32)) := elem_is et_2 At_2 (Term.int_eval (9)) n_48 (Term.int_eval (115)) rfl
  have b_2_10 : cl2.slots[10]? = some (.int (115 : Int32)) := elem_is et_2 At_2 (Term.int_eval (10)) n_49 (Term.int_eval (115)) rfl
  have b_2_11 : cl2.slots[11]? = some (.int (119 : Int32)) := elem_is et_2 At_2 (Term.int_eval (11)) n_50 (Term.int_eval (119)) rfl
  have b_2_12 : cl2.slots[12]? = some (.int (111 : Int32)) := elem_is et_2 At_2 (Term.int_eval (12)) n_51 (Term.int_eval (111)) rfl
  have b_2_13 : cl2.slots[13]? = some (.int (114 : Int32)) := elem_is et_2 At_2 (Term.int_eval (13)) n_52 (Term.int_eval (114)) rfl
  have b_2_14 : cl2.slots[14]? = some (.int (100 : Int32)) := elem_is et_2 At_2 (Term.int_eval (14)) n_53 (Term.int_eval (100)) rfl
  have Ab_2 : Arv s s.heap t2 cl2.cls .byte (15 : Int32) [.int (45 : Int32), .int (45 : Int32), .int (119 : Int32), .int (101 : Int32), .int (97 : Int32), .int (107 : Int32), .int (45 : Int32), .int (112 : Int32), .int (97 : Int32), .int (115 : Int32), .int (115 : Int32), .int (119 : Int32), .int (111 : Int32), .int (114 : Int32), .int (100 : Int32)] (.int 0) := Arv.start hfit At_2 lb_2.1 lb_2.2 (by decide) (by decide) ⟨b_2_0, b_2_1, b_2_2, b_2_3, b_2_4, b_2_5, b_2_6, b_2_7, b_2_8, b_2_9, b_2_10, b_2_11, b_2_12, b_2_13, b_2_14, trivial⟩
  have Sx_2 : Str s s.heap w2 t2 cl2.cls W2 := ⟨Exa.start ew_2 n_17, Ft_2, Fc_2, Ab_2, W2r, by decide⟩
  have hCH : CHv s consts_1 s.vm s.heap := CHv.start (EW.cons (hw _ (List.mem_of_getElem? (i := 126) rfl)) (by decide +kernel) (EW.cons (hw _ (List.mem_of_getElem? (i := 111) rfl)) (by decide +kernel) (EW.cons (hw _ (List.mem_of_getElem? (i := 1) rfl)) (by decide +kernel) (EW.cons (hw _ (List.mem_of_getElem? (i := 109) rfl)) (by decide +kernel) (EW.cons (hw _ (List.mem_of_getElem? (i := 107) rfl)) (by decide +kernel) (EW.cons (hw _ (List.mem_of_getElem? (i := 124) rfl)) (by decide +kernel) (EW.cons (hw _ (List.mem_of_getElem? (i := 125) rfl)) (by decide +kernel) (EW.cons (hw _ (List.mem_of_getElem? (i := 127) rfl)) (by decide +kernel) (EW.nil))))))))) (fun p hp => hcalls.1 p hp) (hsets _ (List.mem_of_getElem? (i := 2) rfl)) (hw _ (List.mem_of_getElem? (i := 4) rfl)) (hw _ (List.mem_of_getElem? (i := 3) rfl))
  have G : Wld s _ := ⟨hw, EW.cons (hw _ (List.mem_of_getElem? (i := 126) rfl)) (by decide +kernel) (EW.cons (hw _ (List.mem_of_getElem? (i := 111) rfl)) (by decide +kernel) (EW.cons (hw _ (List.mem_of_getElem? (i := 1) rfl)) (by decide +kernel) (EW.cons (hw _ (List.mem_of_getElem? (i := 109) rfl)) (by decide +kernel) (EW.cons (hw _ (List.mem_of_getElem? (i := 107) rfl)) (by decide +kernel) (EW.cons (hw _ (List.mem_of_getElem? (i := 124) rfl)) (by decide +kernel) (EW.cons (hw _ (List.mem_of_getElem? (i := 125) rfl)) (by decide +kernel) (EW.cons (hw _ (List.mem_of_getElem? (i := 127) rfl)) (by decide +kernel) (EW.nil)))))))), ⟨i_z, S_z, c_z⟩, ⟨v_f, S_f, r_f⟩, o0, o1, o2, va, w0, w1, w2, t0, t1, t2, clv.cls, cl0.cls, cl1.cls, cl2.cls, ⟨S_o0, S_o1, S_o2, S_va, A_v, Exa.start ev_v n_2, ⟨Exa.start ev_0 n_0, Fw_0, Sx_0⟩, ⟨Exa.start ev_1 n_5, Fw_1, Sx_1⟩, ⟨Exa.start ev_2 n_7, Fw_2, Sx_2⟩⟩⟩
  obtain ⟨n, o, h1, h2, h3, v, L, rfl, ⟨hQ, N, -, -⟩, -, hq⟩ := law_rm l s _ G i_0 i_1 i_2 i_3 s.heap tables_1 p e ha hc hk s m _ below hf ((Spec.applies_iff_loose hf).mp happ).1 ⟨rfl, State.Warmed39.refl s, rfl, hCH, ext_refl _, all0⟩ trivial
  obtain rfl := hQ
  refine ⟨n, _, h1, h2, h3, hpost _ _ _ _ _ _ ⟨Cond.after_iff.mpr rfl, Cond.after_iff.mpr (eq_i res_at (Term.int_eval (1)) rfl), trivial⟩ ⟨hq.1, hq.2.1, hq.2.2.1, (hq.2.2.2.sift fun y hy => Or.inr (N y hy)).mono (by decide) (by decide)⟩⟩
theorem main_1_1 : Claimed_1_1 := comes_1 fun _ _ _ _ _ _ h hF => ⟨h.1, hF⟩
theorem main_1_2 : Claimed_1_2 := comes_1 fun _ _ _ _ _ _ h hF => ⟨h.2.1, hF⟩
end Jvm.Pilot.@@N@@
namespace Jvm.Pilot.@@N@@
open Jvm Jvm.ClassFile Sem Op Lib Jvm.Free Jvm.Stand Jvm.Pilot.@@N@@.Jvm.D
/-! MADE BY PROGRAM (witnessworld.py) out of the Statement's table words and the real class files: 22 classes; the members and pool entries that the words name. The judged class is class 1, her method 3. -/
namespace start1
open Jvm.ClassFile
def u (s : String) : CpInfo := .utf8 (stringToUtf16 s)
/-- a pool by its gaps: so many unusable entries, then the entry; so many at the end -/
def gap : Nat → List CpInfo → List CpInfo
  | 0, r => r
  | n + 1, r => .unusable :: gap n r
def poolList (es : List (Nat × CpInfo)) (last : Nat) : List CpInfo := es.foldr (fun e r => gap e.1 (e.2 :: r)) (gap last [])
def pool (es : List (Nat × CpInfo)) (last : Nat) : Array CpInfo := ⟨poolList es last⟩
def fileOf (pool : Array CpInfo) (this : Nat) (attrs : Array Attribute := #[]) (ms : Array MethodInfo := #[]) (fl : Nat := 33) (sup : Nat := 0) (ifs : Array Nat := #[]) (fds : Array FieldInfo := #[]) : ClassFile where
  minorVersion := 0
  majorVersion := 65
  constantPool := pool
  accessFlags := fl
  thisClass := this
  superClass := sup
  interfaces := ifs
  fields := fds
  methods := ms
  attributes := attrs
def plain (name : String) (sup : Option ClassId) : Class where
  name := name
  kind := .ordinary
  loader := none
  accessFlags := 33
  super := sup
  interfaces := #[]
  cf := none
  fields := #[]
  methods := #[]
  instanceTypes := #[]
  staticTypes := #[]
  resolved := #[]
  callSites := []
  init := .initialized
  statics := none
  mirror := none

def pool0 : Array CpInfo := pool [(5, u "<init>"), (0, u "()V"), (1, .class_ 10), (1, u "java/lang/Object"), (85, u "clone"), (0, u "()Ljava/lang/Object;")] 26

def k0c0 : Code := { maxStack := 0, maxLocals := 1, code := object_method_1_code, exceptionTable := #[], attributes := #[] }
def k0m0 : Method := { name := "<init>", desc := "()V", sig := { parameters := [], returnType := none }, accessFlags := 1, code := some k0c0 }
def k0m1 : Method := { name := "clone", desc := "()Ljava/lang/Object;", sig := { parameters := [], returnType := some (.object "java/lang/Object") }, accessFlags := 260, code := none }
/-- java/lang/Object -/
def k0 : Class := { plain "java/lang/Object" none with
  accessFlags := 33
  interfaces := #[]
  cf := some (fileOf pool0 8 #[] #[{ accessFlags := 1, nameIndex := 5, descriptorIndex := 6, attributes := #[] }, { accessFlags := 260, nameIndex := 96, descriptorIndex := 97, attributes := #[] }] 33 0 #[] #[])
  fields := #[]
  methods := #[k0m0, k0m1]
  instanceTypes := #[]
  staticTypes := #[]
  resolved := Array.replicate 124 none
  statics := none }

def pool1 : Array CpInfo := pool [(2, .class_ 4), (1, u "java/lang/Object"), (0, u "<init>"), (0, u "()V"), (0, .integer 2147483647), (0, .string 9), (0, u ""), (0, .methodref 11 12), (0, .class_ 13), (0, .nameAndType 14 15), (0, u "java/lang/String"), (0, u "valueOf"), (0, u "(C)Ljava/lang/String;"), (0, .methodref 11 17), (0, .nameAndType 5 18), (0, u "([C)V"), (0, .string 20), (0, u "--"), (0, .string 22), (0, u "--iterations"), (0, .string 24), (0, u "--salt"), (0, .string 26), (0, u "--weak-password"), (0, .fieldref 28 29), (0, .class_ 30), (0, .nameAndType 31 32), (0, u "dev/portcullis/cli/HashPasswordCommand$Option"), (0, u "ITERATIONS"), (0, u "Ldev/portcullis/cli/HashPasswordCommand$Option;"), (0, .fieldref 28 34), (0, .nameAndType 35 32), (0, u "SALT"), (0, .fieldref 28 37), (0, .nameAndType 38 32), (0, u "WEAK_PASSWORD"), (0, .methodref 11 40), (0, .nameAndType 41 42), (0, u "length"), (0, u "()I"), (0, .methodref 44 45), (0, .class_ 46), (0, .nameAndType 47 48), (0, u "dev/portcullis/cli/OptionTypedPinLaw"), (0, u "chars"), (0, u "(I)[C"), (0, .methodref 11 50), (0, .nameAndType 51 52), (0, u "charAt"), (0, u "(I)C"), (0, .methodref 44 54), (0, .nameAndType 55 56), (0, u "appended"), (0, u "(IC)[C"), (0, .string 58), (0, u "--iteration"), (0, .string 60), (0, u "--sal"), (0, .string 62), (0, u "--weak-passwor"), (0, .methodref 28 64), (0, .nameAndType 65 66), (0, u "typed"), (0, u "(Ljava/lang/String;)Ldev/portcullis/cli/HashPasswordCommand$Option;"), (3, u "law"), (0, u "(IIII)Z")] 8

def k1m0 : Method := { name := "<init>", desc := "()V", sig := { parameters := [], returnType := none }, accessFlags := 2, code := none }
def k1c1 : Code := { maxStack := 4, maxLocals := 1, code := method_2_code, exceptionTable := #[], attributes := #[] }
def k1m1 : Method := { name := "chars", desc := "(I)[C", sig := { parameters := [.int], returnType := some (.array .char) }, accessFlags := 10, code := some k1c1 }
def k1c2 : Code := { maxStack := 4, maxLocals := 2, code := method_3_code, exceptionTable := #[], attributes := #[] }
def k1m2 : Method := { name := "appended", desc := "(IC)[C", sig := { parameters := [.int, .char], returnType := some (.array .char) }, accessFlags := 10, code := some k1c2 }
def k1c3 : Code := { maxStack := 6, maxLocals := 14, code := code, exceptionTable := #[], attributes := #[] }
def k1m3 : Method := { name := "law", desc := "(IIII)Z", sig := { parameters := [.int, .int, .int, .int], returnType := some .boolean }, accessFlags := 9, code := some k1c3 }
/-- dev/portcullis/cli/OptionTypedPinLaw -/
def k1 : Class := { plain "dev/portcullis/cli/OptionTypedPinLaw" (some 0) with
  accessFlags := 49
  interfaces := #[]
  cf := some (fileOf pool1 44 #[] #[{ accessFlags := 2, nameIndex := 5, descriptorIndex := 6, attributes := #[] }, { accessFlags := 10, nameIndex := 47, descriptorIndex := 48, attributes := #[] }, { accessFlags := 10, nameIndex := 55, descriptorIndex := 56, attributes := #[] }, { accessFlags := 9, nameIndex := 70, descriptorIndex := 71, attributes := #[] }] 49 2 #[] #[])
  fields := #[]
  methods := #[k1m0, k1m1, k1m2, k1m3]
  instanceTypes := #[]
  staticTypes := #[]
  resolved := Array.replicate 80 none
  statics := none }

def pool2 : Array CpInfo := pool [(1, .class_ 2), (0, u "java/io/Serializable"), (0, .class_ 4), (0, u "java/lang/Object")] 2

/-- java/io/Serializable -/
def k2 : Class := { plain "java/io/Serializable" (some 0) with
  accessFlags := 1537
  interfaces := #[]
  cf := some (fileOf pool2 1 #[] #[] 1537 3 #[] #[])
  fields := #[]
  methods := #[]
  instanceTypes := #[]
  staticTypes := #[]
  resolved := Array.replicate 7 none
  statics := none }

def pool3 : Array CpInfo := pool [(1, .class_ 2), (0, u "java/lang/Comparable"), (0, .class_ 4), (0, u "java/lang/Object")] 7

/-- java/lang/Comparable -/
def k3 : Class := { plain "java/lang/Comparable" (some 0) with
  accessFlags := 1537
  interfaces := #[]
  cf := some (fileOf pool3 1 #[] #[] 1537 3 #[] #[])
  fields := #[]
  methods := #[]
  instanceTypes := #[]
  staticTypes := #[]
  resolved := Array.replicate 12 none
  statics := none }

def pool4 : Array CpInfo := pool [(2, .class_ 4), (1, u "java/lang/CharSequence"), (42, .class_ 48), (0, u "java/lang/CharSequence$1CodePointIterator"), (10, .class_ 60), (0, u "java/lang/CharSequence$1CharIterator"), (5, .class_ 67), (0, u "java/lang/Object")] 63

/-- java/lang/CharSequence -/
def k4 : Class := { plain "java/lang/CharSequence" (some 0) with
  accessFlags := 1537
  interfaces := #[]
  cf := some (fileOf pool4 2 #[.nestMembers #[47, 59]] #[] 1537 66 #[] #[])
  fields := #[]
  methods := #[]
  instanceTypes := #[]
  staticTypes := #[]
  resolved := Array.replicate 131 none
  statics := none }

def pool5 : Array CpInfo := pool [(1, .class_ 2), (0, u "java/lang/constant/Constable"), (0, .class_ 4), (0, u "java/lang/Object")] 6

/-- java/lang/constant/Constable -/
def k5 : Class := { plain "java/lang/constant/Constable" (some 0) with
  accessFlags := 1537
  interfaces := #[]
  cf := some (fileOf pool5 1 #[] #[] 1537 3 #[] #[])
  fields := #[]
  methods := #[]
  instanceTypes := #[]
  staticTypes := #[]
  resolved := Array.replicate 11 none
  statics := none }

def pool6 : Array CpInfo := pool [(1, .class_ 2), (0, u "java/lang/constant/ConstantDesc"), (0, .class_ 4), (0, u "java/lang/Object")] 32

/-- java/lang/constant/ConstantDesc -/
def k6 : Class := { plain "java/lang/constant/ConstantDesc" (some 0) with
  accessFlags := 1537
  interfaces := #[]
  cf := some (fileOf pool6 1 #[] #[] 1537 3 #[] #[])
  fields := #[]
  methods := #[]
  instanceTypes := #[]
  staticTypes := #[]
  resolved := Array.replicate 37 none
  statics := none }

def pool7 : Array CpInfo := pool [(1, .methodref 2 3), (0, .class_ 4), (0, .nameAndType 5 6), (0, u "java/lang/Object"), (0, u "<init>"), (0, u "()V"), (2, .fieldref 10 11), (0, .class_ 12), (0, .nameAndType 13 14), (0, u "java/lang/String"), (0, u "value"), (0, u "[B"), (0, .fieldref 10 16), (0, .nameAndType 17 18), (0, u "coder"), (0, u "B"), (2, u "hash"), (0, u "I"), (2, u "hashIsZero"), (0, u "Z"), (0, .methodref 10 28), (0, .nameAndType 5 29), (0, u "([CIILjava/lang/Void;)V"), (8, .fieldref 10 39), (0, .nameAndType 40 26), (0, u "COMPACT_STRINGS"), (1, .class_ 44), (1, u "java/lang/StringUTF16"), (0, u "compress"), (1, .methodref 42 48), (0, .nameAndType 49 50), (0, u "coderFromArrayLen"), (0, u "([BI)B"), (2, u "toBytes"), (53, .class_ 109), (1, u "java/lang/StringLatin1"), (32, u "()Z"), (34, .methodref 42 178), (0, .nameAndType 45 179), (0, u "([CII)[B"), (29, .methodref 10 210), (0, .nameAndType 5 211), (0, u "([BB)V"), (122, u "()I"), (0, .methodref 10 336), (0, .nameAndType 17 337), (0, u "()B"), (25, u "([BI)C"), (5, u "(C)Z"), (21, u "(II)V"), (35, u "(I)C"), (64, .methodref 10 493), (0, .nameAndType 494 142), (0, u "isLatin1"), (0, .methodref 107 496), (0, .nameAndType 497 363), (0, u "charAt"), (3, u "checkIndex"), (5, u "length"), (33, .methodref 107 542), (0, .nameAndType 543 544), (0, u "equals"), (0, u "([B[B)Z"), (28, u "(Ljava/lang/Object;)Z"), (1, .class_ 576), (0, u "java/lang/CharSequence"), (22, u "CASE_INSENSITIVE_ORDER"), (0, u "Ljava/util/Comparator;"), (181, u "valueOf"), (0, u "(C)Ljava/lang/String;"), (226, u "([C)V"), (4, .methodref 107 1016), (0, .nameAndType 1017 369), (0, u "canEncode"), (0, .methodref 107 1019), (0, .nameAndType 53 1020), (0, u "(C)[B"), (32, .fieldref 1054 1055), (0, .class_ 1056), (0, .nameAndType 1057 1058), (0, u "jdk/internal/util/Preconditions"), (0, u "SIOOBE_FORMATTER"), (0, u "Ljava/util/function/BiFunction;"), (0, .methodref 1054 1060), (0, .nameAndType 501 1061), (0, u "(IILjava/util/function/BiFunction;)I"), (39, u "serialPersistentFields"), (0, u "[Ljava/io/ObjectStreamField;"), (0, .class_ 1104), (0, u "java/lang/String$CaseInsensitiveComparator"), (1, .class_ 1107), (0, u "java/io/Serializable"), (0, .class_ 1109), (0, u "java/lang/Comparable"), (0, .class_ 1111), (0, u "java/lang/constant/Constable"), (0, .class_ 1113), (0, u "java/lang/constant/ConstantDesc"), (2, u "serialVersionUID"), (0, u "J"), (3, u "REPL"), (0, u "C"), (2, u "LATIN1"), (1, u "UTF16")] 323

def k7m0 : Method := { name := "<init>", desc := "()V", sig := { parameters := [], returnType := none }, accessFlags := 1, code := none }
def k7c1 : Code := { maxStack := 5, maxLocals := 2, code := jdk_42_method_3_code, exceptionTable := #[], attributes := #[] }
def k7m1 : Method := { name := "<init>", desc := "([C)V", sig := { parameters := [(.array .char)], returnType := none }, accessFlags := 1, code := some k7c1 }
def k7c2 : Code := { maxStack := 2, maxLocals := 1, code := jdk_42_method_54_code, exceptionTable := #[], attributes := #[] }
def k7m2 : Method := { name := "length", desc := "()I", sig := { parameters := [], returnType := some .int }, accessFlags := 1, code := some k7c2 }
def k7c3 : Code := { maxStack := 2, maxLocals := 2, code := jdk_42_method_56_code, exceptionTable := #[], attributes := #[] }
def k7m3 : Method := { name := "charAt", desc := "(I)C", sig := { parameters := [.int], returnType := some .char }, accessFlags := 1, code := some k7c3 }
def k7c4 : Code := { maxStack := 2, maxLocals := 3, code := jdk_42_method_66_code, exceptionTable := #[], attributes := #[] }
def k7m4 : Method := { name := "equals", desc := "(Ljava/lang/Object;)Z", sig := { parameters := [(.object "java/lang/Object")], returnType := some .boolean }, accessFlags := 1, code := some k7c4 }
def k7c5 : Code := { maxStack := 4, maxLocals := 1, code := jdk_42_method_139_code, exceptionTable := #[], attributes := #[] }
def k7m5 : Method := { name := "valueOf", desc := "(C)Ljava/lang/String;", sig := { parameters := [.char], returnType := some (.object "java/lang/String") }, accessFlags := 9, code := some k7c5 }
def k7c6 : Code := { maxStack := 4, maxLocals := 6, code := jdk_42_method_149_code, exceptionTable := #[], attributes := #[] }
def k7m6 : Method := { name := "<init>", desc := "([CIILjava/lang/Void;)V", sig := { parameters := [(.array .char), .int, .int, (.object "java/lang/Void")], returnType := none }, accessFlags := 2, code := some k7c6 }
def k7c7 : Code := { maxStack := 2, maxLocals := 3, code := jdk_42_method_151_code, exceptionTable := #[], attributes := #[] }
def k7m7 : Method := { name := "<init>", desc := "([BB)V", sig := { parameters := [(.array .byte), .byte], returnType := none }, accessFlags := 0, code := some k7c7 }
def k7c8 : Code := { maxStack := 1, maxLocals := 1, code := jdk_42_method_152_code, exceptionTable := #[], attributes := #[] }
def k7m8 : Method := { name := "coder", desc := "()B", sig := { parameters := [], returnType := some .byte }, accessFlags := 0, code := some k7c8 }
def k7c9 : Code := { maxStack := 1, maxLocals := 1, code := jdk_42_method_154_code, exceptionTable := #[], attributes := #[] }
def k7m9 : Method := { name := "isLatin1", desc := "()Z", sig := { parameters := [], returnType := some .boolean }, accessFlags := 0, code := some k7c9 }
def k7c10 : Code := { maxStack := 3, maxLocals := 2, code := jdk_42_method_155_code, exceptionTable := #[], attributes := #[] }
def k7m10 : Method := { name := "checkIndex", desc := "(II)V", sig := { parameters := [.int, .int], returnType := none }, accessFlags := 8, code := some k7c10 }
/-- java/lang/String -/
def k7 : Class := { plain "java/lang/String" (some 0) with
  accessFlags := 49
  interfaces := #[2, 3, 4, 5, 6]
  cf := some (fileOf pool7 10 #[.nestMembers #[1103]] #[{ accessFlags := 1, nameIndex := 5, descriptorIndex := 6, attributes := #[] }, { accessFlags := 1, nameIndex := 5, descriptorIndex := 1010, attributes := #[] }, { accessFlags := 1, nameIndex := 507, descriptorIndex := 334, attributes := #[] }, { accessFlags := 1, nameIndex := 497, descriptorIndex := 427, attributes := #[] }, { accessFlags := 1, nameIndex := 543, descriptorIndex := 573, attributes := #[] }, { accessFlags := 9, nameIndex := 782, descriptorIndex := 783, attributes := #[] }, { accessFlags := 2, nameIndex := 5, descriptorIndex := 29, attributes := #[] }, { accessFlags := 0, nameIndex := 5, descriptorIndex := 211, attributes := #[] }, { accessFlags := 0, nameIndex := 17, descriptorIndex := 337, attributes := #[] }, { accessFlags := 0, nameIndex := 494, descriptorIndex := 142, attributes := #[] }, { accessFlags := 8, nameIndex := 501, descriptorIndex := 391, attributes := #[] }] 49 2 #[1106, 1108, 575, 1110, 1112] #[{ accessFlags := 18, nameIndex := 13, descriptorIndex := 14, attributes := #[] }, { accessFlags := 18, nameIndex := 17, descriptorIndex := 18, attributes := #[] }, { accessFlags := 2, nameIndex := 21, descriptorIndex := 22, attributes := #[] }, { accessFlags := 2, nameIndex := 25, descriptorIndex := 26, attributes := #[] }, { accessFlags := 26, nameIndex := 1116, descriptorIndex := 1117, attributes := #[] }, { accessFlags := 24, nameIndex := 40, descriptorIndex := 26, attributes := #[] }, { accessFlags := 26, nameIndex := 1101, descriptorIndex := 1102, attributes := #[] }, { accessFlags := 26, nameIndex := 1121, descriptorIndex := 1122, attributes := #[] }, { accessFlags := 25, nameIndex := 599, descriptorIndex := 600, attributes := #[] }, { accessFlags := 24, nameIndex := 1125, descriptorIndex := 18, attributes := #[] }, { accessFlags := 24, nameIndex := 1127, descriptorIndex := 18, attributes := #[] }])
  fields := #[{ name := "value", type := (.array .byte), accessFlags := 18, slot := 0, constantValue := 0 }, { name := "coder", type := .byte, accessFlags := 18, slot := 1, constantValue := 0 }, { name := "hash", type := .int, accessFlags := 2, slot := 2, constantValue := 0 }, { name := "hashIsZero", type := .boolean, accessFlags := 2, slot := 3, constantValue := 0 }, { name := "serialVersionUID", type := .long, accessFlags := 26, slot := 0, constantValue := 0 }, { name := "COMPACT_STRINGS", type := .boolean, accessFlags := 24, slot := 1, constantValue := 0 }, { name := "serialPersistentFields", type := (.array (.object "java/io/ObjectStreamField")), accessFlags := 26, slot := 2, constantValue := 0 }, { name := "REPL", type := .char, accessFlags := 26, slot := 3, constantValue := 0 }, { name := "CASE_INSENSITIVE_ORDER", type := (.object "java/util/Comparator"), accessFlags := 25, slot := 4, constantValue := 0 }, { name := "LATIN1", type := .byte, accessFlags := 24, slot := 5, constantValue := 0 }, { name := "UTF16", type := .byte, accessFlags := 24, slot := 6, constantValue := 0 }]
  methods := #[k7m0, k7m1, k7m2, k7m3, k7m4, k7m5, k7m6, k7m7, k7m8, k7m9, k7m10]
  instanceTypes := #[(.array .byte), .byte, .int, .boolean]
  staticTypes := #[.long, .boolean, (.array (.object "java/io/ObjectStreamField")), .char, (.object "java/util/Comparator"), .byte, .byte]
  resolved := Array.replicate 1451 none
  statics := some 0 }

def pool8 : Array CpInfo := pool [(2, .class_ 4), (1, u "java/lang/Enum"), (0, u "name"), (0, u "Ljava/lang/String;"), (2, u "ordinal"), (0, u "I"), (1, .class_ 14), (1, u "java/lang/Object"), (4, u "hash"), (86, .class_ 108), (1, u "java/lang/Enum$EnumDesc"), (2, .class_ 112), (0, u "java/lang/constant/Constable"), (0, .class_ 114), (0, u "java/lang/Comparable"), (0, .class_ 116), (0, u "java/io/Serializable")] 87

/-- java/lang/Enum -/
def k8 : Class := { plain "java/lang/Enum" (some 0) with
  accessFlags := 1057
  interfaces := #[5, 3, 2]
  cf := some (fileOf pool8 2 #[.nestMembers #[106]] #[] 1057 12 #[111, 113, 115] #[{ accessFlags := 18, nameIndex := 5, descriptorIndex := 6, attributes := #[] }, { accessFlags := 18, nameIndex := 9, descriptorIndex := 10, attributes := #[] }, { accessFlags := 2, nameIndex := 19, descriptorIndex := 10, attributes := #[] }])
  fields := #[{ name := "name", type := (.object "java/lang/String"), accessFlags := 18, slot := 0, constantValue := 0 }, { name := "ordinal", type := .int, accessFlags := 18, slot := 1, constantValue := 0 }, { name := "hash", type := .int, accessFlags := 2, slot := 2, constantValue := 0 }]
  methods := #[]
  instanceTypes := #[(.object "java/lang/String"), .int, .int]
  staticTypes := #[]
  resolved := Array.replicate 204 none
  statics := none }

def pool9 : Array CpInfo := pool [(1, .class_ 2), (0, u "dev/portcullis/cli/HashPasswordCommand$Option"), (2, u "ITERATIONS"), (0, u "Ldev/portcullis/cli/HashPasswordCommand$Option;"), (2, u "SALT"), (2, u "WEAK_PASSWORD"), (0, .fieldref 1 14), (0, .nameAndType 15 16), (0, u "$VALUES"), (0, u "[Ldev/portcullis/cli/HashPasswordCommand$Option;"), (0, .methodref 18 19), (0, .class_ 16), (0, .nameAndType 20 21), (0, u "clone"), (0, u "()Ljava/lang/Object;"), (1, .class_ 25), (1, u "java/lang/Enum"), (6, .fieldref 1 33), (0, .nameAndType 34 35), (0, u "word"), (0, u "Ljava/lang/String;"), (2, u "value"), (8, u "description"), (0, u "Ljava/util/List;"), (0, .methodref 1 50), (0, .nameAndType 51 52), (0, u "values"), (0, u "()[Ldev/portcullis/cli/HashPasswordCommand$Option;"), (0, .methodref 54 55), (0, .class_ 56), (0, .nameAndType 57 58), (0, u "java/lang/String"), (0, u "equals"), (0, u "(Ljava/lang/Object;)Z"), (50, u "(Ljava/lang/String;)Ldev/portcullis/cli/HashPasswordCommand$Option;"), (2, u "typed"), (8, .class_ 122), (0, u "dev/portcullis/cli/HashPasswordCommand")] 2

def k9c0 : Code := { maxStack := 1, maxLocals := 0, code := prog_55_method_1_code, exceptionTable := #[], attributes := #[] }
def k9m0 : Method := { name := "values", desc := "()[Ldev/portcullis/cli/HashPasswordCommand$Option;", sig := { parameters := [], returnType := some (.array (.object "dev/portcullis/cli/HashPasswordCommand$Option")) }, accessFlags := 9, code := some k9c0 }
def k9c1 : Code := { maxStack := 2, maxLocals := 5, code := prog_55_method_4_code, exceptionTable := #[], attributes := #[] }
def k9m1 : Method := { name := "typed", desc := "(Ljava/lang/String;)Ldev/portcullis/cli/HashPasswordCommand$Option;", sig := { parameters := [(.object "java/lang/String")], returnType := some (.object "dev/portcullis/cli/HashPasswordCommand$Option") }, accessFlags := 8, code := some k9c1 }
/-- dev/portcullis/cli/HashPasswordCommand$Option -/
def k9 : Class := { plain "dev/portcullis/cli/HashPasswordCommand$Option" (some 8) with
  accessFlags := 16432
  interfaces := #[]
  cf := some (fileOf pool9 1 #[.nestHost 121] #[{ accessFlags := 9, nameIndex := 51, descriptorIndex := 52, attributes := #[] }, { accessFlags := 8, nameIndex := 112, descriptorIndex := 109, attributes := #[] }] 16432 23 #[] #[{ accessFlags := 16409, nameIndex := 5, descriptorIndex := 6, attributes := #[] }, { accessFlags := 16409, nameIndex := 9, descriptorIndex := 6, attributes := #[] }, { accessFlags := 16409, nameIndex := 12, descriptorIndex := 6, attributes := #[] }, { accessFlags := 16, nameIndex := 34, descriptorIndex := 35, attributes := #[] }, { accessFlags := 16, nameIndex := 38, descriptorIndex := 35, attributes := #[] }, { accessFlags := 16, nameIndex := 47, descriptorIndex := 48, attributes := #[] }, { accessFlags := 4122, nameIndex := 15, descriptorIndex := 16, attributes := #[] }])
  fields := #[{ name := "ITERATIONS", type := (.object "dev/portcullis/cli/HashPasswordCommand$Option"), accessFlags := 16409, slot := 0, constantValue := 0 }, { name := "SALT", type := (.object "dev/portcullis/cli/HashPasswordCommand$Option"), accessFlags := 16409, slot := 1, constantValue := 0 }, { name := "WEAK_PASSWORD", type := (.object "dev/portcullis/cli/HashPasswordCommand$Option"), accessFlags := 16409, slot := 2, constantValue := 0 }, { name := "word", type := (.object "java/lang/String"), accessFlags := 16, slot := 3, constantValue := 0 }, { name := "value", type := (.object "java/lang/String"), accessFlags := 16, slot := 4, constantValue := 0 }, { name := "description", type := (.object "java/util/List"), accessFlags := 16, slot := 5, constantValue := 0 }, { name := "$VALUES", type := (.array (.object "dev/portcullis/cli/HashPasswordCommand$Option")), accessFlags := 4122, slot := 3, constantValue := 0 }]
  methods := #[k9m0, k9m1]
  instanceTypes := #[(.object "java/lang/String"), .int, .int, (.object "java/lang/String"), (.object "java/lang/String"), (.object "java/util/List")]
  staticTypes := #[(.object "dev/portcullis/cli/HashPasswordCommand$Option"), (.object "dev/portcullis/cli/HashPasswordCommand$Option"), (.object "dev/portcullis/cli/HashPasswordCommand$Option"), (.array (.object "dev/portcullis/cli/HashPasswordCommand$Option"))]
  resolved := Array.replicate 125 none
  statics := some 1 }

def pool10 : Array CpInfo := pool [(6, .class_ 8), (1, u "java/lang/Object"), (0, u "<init>"), (0, u "()V"), (1, .class_ 14), (1, u "java/lang/StringUTF16"), (31, u "$assertionsDisabled"), (0, u "Z"), (13, u "HI_BYTE_SHIFT"), (0, u "I"), (2, u "LO_BYTE_SHIFT"), (49, .methodref 12 116), (0, .nameAndType 117 118), (0, u "compress"), (0, u "([CI[BII)I"), (3, u "([CII)[B"), (138, u "coderFromArrayLen"), (0, u "([BI)B"), (106, .class_ 371), (1, u "java/lang/StringUTF16$LinesSpliterator"), (58, u "MAX_LENGTH"), (196, .class_ 628), (0, u "java/lang/StringUTF16$CodePointsSpliterator"), (0, .class_ 630), (0, u "java/lang/StringUTF16$CharsSpliterator")] 4

def k10m0 : Method := { name := "<init>", desc := "()V", sig := { parameters := [], returnType := none }, accessFlags := 0, code := none }
def k10c1 : Code := { maxStack := 2, maxLocals := 2, code := jdk_52_method_15_code, exceptionTable := #[], attributes := #[] }
def k10m1 : Method := { name := "coderFromArrayLen", desc := "([BI)B", sig := { parameters := [(.array .byte), .int], returnType := some .byte }, accessFlags := 8, code := some k10c1 }
def k10c2 : Code := { maxStack := 5, maxLocals := 6, code := jdk_52_method_16_code, exceptionTable := #[], attributes := #[] }
def k10m2 : Method := { name := "compress", desc := "([CII)[B", sig := { parameters := [(.array .char), .int, .int], returnType := some (.array .byte) }, accessFlags := 9, code := some k10c2 }
def k10c3 : Code := { maxStack := 3, maxLocals := 7, code := jdk_52_method_21_code, exceptionTable := #[], attributes := #[] }
def k10m3 : Method := { name := "compress", desc := "([CI[BII)I", sig := { parameters := [(.array .char), .int, (.array .byte), .int, .int], returnType := some .int }, accessFlags := 9, code := some k10c3 }
/-- java/lang/StringUTF16 -/
def k10 : Class := { plain "java/lang/StringUTF16" (some 0) with
  accessFlags := 48
  interfaces := #[]
  cf := some (fileOf pool10 12 #[.nestMembers #[627, 629, 369]] #[{ accessFlags := 0, nameIndex := 9, descriptorIndex := 10, attributes := #[] }, { accessFlags := 8, nameIndex := 261, descriptorIndex := 262, attributes := #[] }, { accessFlags := 9, nameIndex := 117, descriptorIndex := 122, attributes := #[] }, { accessFlags := 9, nameIndex := 117, descriptorIndex := 118, attributes := #[] }] 48 6 #[] #[{ accessFlags := 26, nameIndex := 61, descriptorIndex := 62, attributes := #[] }, { accessFlags := 26, nameIndex := 65, descriptorIndex := 62, attributes := #[] }, { accessFlags := 24, nameIndex := 430, descriptorIndex := 62, attributes := #[] }, { accessFlags := 4120, nameIndex := 46, descriptorIndex := 47, attributes := #[] }])
  fields := #[{ name := "HI_BYTE_SHIFT", type := .int, accessFlags := 26, slot := 0, constantValue := 0 }, { name := "LO_BYTE_SHIFT", type := .int, accessFlags := 26, slot := 1, constantValue := 0 }, { name := "MAX_LENGTH", type := .int, accessFlags := 24, slot := 2, constantValue := 0 }, { name := "$assertionsDisabled", type := .boolean, accessFlags := 4120, slot := 3, constantValue := 0 }]
  methods := #[k10m0, k10m1, k10m2, k10m3]
  instanceTypes := #[]
  staticTypes := #[.int, .int, .int, .boolean]
  resolved := Array.replicate 635 none
  statics := none }

def pool11 : Array CpInfo := pool [(1, .class_ 2), (0, u "java/lang/String"), (1, .class_ 6), (1, u "java/lang/Object"), (0, u "<init>"), (0, u "()V"), (0, .methodref 1 10), (0, .nameAndType 11 12), (0, u "checkIndex"), (0, u "(II)V"), (1, .class_ 16), (1, u "java/lang/StringLatin1"), (36, u "([BI)C"), (36, u "canEncode"), (14, u "(C)Z"), (15, u "$assertionsDisabled"), (0, u "Z"), (98, .class_ 223), (1, u "java/lang/StringLatin1$LinesSpliterator"), (28, u "charAt"), (28, u "equals"), (0, u "([B[B)Z"), (97, u "toBytes"), (1, u "(C)[B"), (7, .class_ 391), (0, u "java/lang/StringLatin1$CharsSpliterator")] 3

def k11m0 : Method := { name := "<init>", desc := "()V", sig := { parameters := [], returnType := none }, accessFlags := 0, code := none }
def k11c1 : Code := { maxStack := 2, maxLocals := 2, code := jdk_43_method_2_code, exceptionTable := #[], attributes := #[] }
def k11m1 : Method := { name := "charAt", desc := "([BI)C", sig := { parameters := [(.array .byte), .int], returnType := some .char }, accessFlags := 9, code := some k11c1 }
def k11c2 : Code := { maxStack := 2, maxLocals := 1, code := jdk_43_method_3_code, exceptionTable := #[], attributes := #[] }
def k11m2 : Method := { name := "canEncode", desc := "(C)Z", sig := { parameters := [.char], returnType := some .boolean }, accessFlags := 9, code := some k11c2 }
def k11c3 : Code := { maxStack := 3, maxLocals := 3, code := jdk_43_method_13_code, exceptionTable := #[], attributes := #[] }
def k11m3 : Method := { name := "equals", desc := "([B[B)Z", sig := { parameters := [(.array .byte), (.array .byte)], returnType := some .boolean }, accessFlags := 9, code := some k11c3 }
def k11c4 : Code := { maxStack := 4, maxLocals := 1, code := jdk_43_method_46_code, exceptionTable := #[], attributes := #[] }
def k11m4 : Method := { name := "toBytes", desc := "(C)[B", sig := { parameters := [.char], returnType := some (.array .byte) }, accessFlags := 9, code := some k11c4 }
/-- java/lang/StringLatin1 -/
def k11 : Class := { plain "java/lang/StringLatin1" (some 0) with
  accessFlags := 48
  interfaces := #[]
  cf := some (fileOf pool11 14 #[.nestMembers #[390, 221]] #[{ accessFlags := 0, nameIndex := 7, descriptorIndex := 8, attributes := #[] }, { accessFlags := 9, nameIndex := 252, descriptorIndex := 53, attributes := #[] }, { accessFlags := 9, nameIndex := 90, descriptorIndex := 105, attributes := #[] }, { accessFlags := 9, nameIndex := 281, descriptorIndex := 282, attributes := #[] }, { accessFlags := 9, nameIndex := 380, descriptorIndex := 382, attributes := #[] }] 48 4 #[] #[{ accessFlags := 4120, nameIndex := 121, descriptorIndex := 122, attributes := #[] }])
  fields := #[{ name := "$assertionsDisabled", type := .boolean, accessFlags := 4120, slot := 0, constantValue := 0 }]
  methods := #[k11m0, k11m1, k11m2, k11m3, k11m4]
  instanceTypes := #[]
  staticTypes := #[.boolean]
  resolved := Array.replicate 395 none
  statics := none }

def pool12 : Array CpInfo := pool [(2, .class_ 4), (1, u "java/lang/Object"), (0, u "<init>"), (0, u "()V"), (17, .class_ 26), (1, u "jdk/internal/util/Preconditions"), (6, u "checkIndex"), (21, .class_ 56), (0, u "jdk/internal/util/Preconditions$4"), (57, .class_ 115), (0, u "jdk/internal/util/Preconditions$1"), (7, u "SIOOBE_FORMATTER"), (0, u "Ljava/util/function/BiFunction;"), (0, .class_ 126), (0, u "jdk/internal/util/Preconditions$2"), (3, u "AIOOBE_FORMATTER"), (0, .class_ 132), (0, u "jdk/internal/util/Preconditions$3"), (3, u "IOOBE_FORMATTER"), (41, u "(IILjava/util/function/BiFunction;)I")] 15

def k12m0 : Method := { name := "<init>", desc := "()V", sig := { parameters := [], returnType := none }, accessFlags := 1, code := none }
def k12c1 : Code := { maxStack := 3, maxLocals := 3, code := jdk_41_method_11_code, exceptionTable := #[], attributes := #[] }
def k12m1 : Method := { name := "checkIndex", desc := "(IILjava/util/function/BiFunction;)I", sig := { parameters := [.int, .int, (.object "java/util/function/BiFunction")], returnType := some .int }, accessFlags := 9, code := some k12c1 }
/-- jdk/internal/util/Preconditions -/
def k12 : Class := { plain "jdk/internal/util/Preconditions" (some 0) with
  accessFlags := 33
  interfaces := #[]
  cf := some (fileOf pool12 24 #[.nestMembers #[55, 131, 125, 114]] #[{ accessFlags := 1, nameIndex := 5, descriptorIndex := 6, attributes := #[] }, { accessFlags := 9, nameIndex := 33, descriptorIndex := 178, attributes := #[] }] 33 2 #[] #[{ accessFlags := 25, nameIndex := 123, descriptorIndex := 124, attributes := #[] }, { accessFlags := 25, nameIndex := 130, descriptorIndex := 124, attributes := #[] }, { accessFlags := 25, nameIndex := 136, descriptorIndex := 124, attributes := #[] }])
  fields := #[{ name := "SIOOBE_FORMATTER", type := (.object "java/util/function/BiFunction"), accessFlags := 25, slot := 0, constantValue := 0 }, { name := "AIOOBE_FORMATTER", type := (.object "java/util/function/BiFunction"), accessFlags := 25, slot := 1, constantValue := 0 }, { name := "IOOBE_FORMATTER", type := (.object "java/util/function/BiFunction"), accessFlags := 25, slot := 2, constantValue := 0 }]
  methods := #[k12m0, k12m1]
  instanceTypes := #[]
  staticTypes := #[(.object "java/util/function/BiFunction"), (.object "java/util/function/BiFunction"), (.object "java/util/function/BiFunction")]
  resolved := Array.replicate 194 none
  statics := some 2 }

def pool13 : Array CpInfo := pool [(1, .class_ 2), (0, u "java/lang/Cloneable"), (0, .class_ 4), (0, u "java/lang/Object")] 2

/-- java/lang/Cloneable -/
def k13 : Class := { plain "java/lang/Cloneable" (some 0) with
  accessFlags := 1537
  interfaces := #[]
  cf := some (fileOf pool13 1 #[] #[] 1537 3 #[] #[])
  fields := #[]
  methods := #[]
  instanceTypes := #[]
  staticTypes := #[]
  resolved := Array.replicate 7 none
  statics := none }

def pool14 : Array CpInfo := pool [(9, u "<init>"), (6, .class_ 18), (1, u "java/lang/Object"), (0, u "()V"), (1, .class_ 23), (1, u "jdk/internal/util/ArraysSupport"), (0, u "LOG2_ARRAY_LONG_INDEX_SCALE"), (0, u "I"), (2, u "U"), (0, u "Ljdk/internal/misc/Unsafe;"), (8, u "BIG_ENDIAN"), (0, u "Z"), (8, u "LOG2_BYTE_BIT_SIZE"), (4, u "LOG2_ARRAY_INT_INDEX_SCALE"), (54, u "JLA"), (0, u "Ljdk/internal/access/JavaLangAccess;"), (11, u "LOG2_ARRAY_BOOLEAN_INDEX_SCALE"), (9, u "LOG2_ARRAY_BYTE_INDEX_SCALE"), (5, u "LOG2_ARRAY_CHAR_INDEX_SCALE"), (5, u "LOG2_ARRAY_SHORT_INDEX_SCALE"), (18, u "LOG2_ARRAY_FLOAT_INDEX_SCALE"), (24, u "LOG2_ARRAY_DOUBLE_INDEX_SCALE"), (89, u "T_BOOLEAN"), (2, u "T_CHAR"), (1, u "T_FLOAT"), (1, u "T_DOUBLE"), (1, u "T_BYTE"), (1, u "T_SHORT"), (1, u "T_INT"), (1, u "T_LONG"), (1, u "SOFT_MAX_ARRAY_LENGTH")] 83

def k14m0 : Method := { name := "<init>", desc := "()V", sig := { parameters := [], returnType := none }, accessFlags := 2, code := none }
/-- jdk/internal/util/ArraysSupport -/
def k14 : Class := { plain "jdk/internal/util/ArraysSupport" (some 0) with
  accessFlags := 33
  interfaces := #[]
  cf := some (fileOf pool14 21 #[] #[{ accessFlags := 2, nameIndex := 9, descriptorIndex := 19, attributes := #[] }] 33 16 #[] #[{ accessFlags := 24, nameIndex := 28, descriptorIndex := 29, attributes := #[] }, { accessFlags := 26, nameIndex := 38, descriptorIndex := 39, attributes := #[] }, { accessFlags := 25, nameIndex := 121, descriptorIndex := 25, attributes := #[] }, { accessFlags := 25, nameIndex := 131, descriptorIndex := 25, attributes := #[] }, { accessFlags := 25, nameIndex := 137, descriptorIndex := 25, attributes := #[] }, { accessFlags := 25, nameIndex := 143, descriptorIndex := 25, attributes := #[] }, { accessFlags := 25, nameIndex := 53, descriptorIndex := 25, attributes := #[] }, { accessFlags := 25, nameIndex := 24, descriptorIndex := 25, attributes := #[] }, { accessFlags := 25, nameIndex := 162, descriptorIndex := 25, attributes := #[] }, { accessFlags := 25, nameIndex := 187, descriptorIndex := 25, attributes := #[] }, { accessFlags := 26, nameIndex := 48, descriptorIndex := 25, attributes := #[] }, { accessFlags := 25, nameIndex := 277, descriptorIndex := 25, attributes := #[] }, { accessFlags := 25, nameIndex := 280, descriptorIndex := 25, attributes := #[] }, { accessFlags := 25, nameIndex := 282, descriptorIndex := 25, attributes := #[] }, { accessFlags := 25, nameIndex := 284, descriptorIndex := 25, attributes := #[] }, { accessFlags := 25, nameIndex := 286, descriptorIndex := 25, attributes := #[] }, { accessFlags := 25, nameIndex := 288, descriptorIndex := 25, attributes := #[] }, { accessFlags := 25, nameIndex := 290, descriptorIndex := 25, attributes := #[] }, { accessFlags := 25, nameIndex := 292, descriptorIndex := 25, attributes := #[] }, { accessFlags := 26, nameIndex := 108, descriptorIndex := 109, attributes := #[] }, { accessFlags := 25, nameIndex := 294, descriptorIndex := 25, attributes := #[] }])
  fields := #[{ name := "U", type := (.object "jdk/internal/misc/Unsafe"), accessFlags := 24, slot := 0, constantValue := 0 }, { name := "BIG_ENDIAN", type := .boolean, accessFlags := 26, slot := 1, constantValue := 0 }, { name := "LOG2_ARRAY_BOOLEAN_INDEX_SCALE", type := .int, accessFlags := 25, slot := 2, constantValue := 0 }, { name := "LOG2_ARRAY_BYTE_INDEX_SCALE", type := .int, accessFlags := 25, slot := 3, constantValue := 0 }, { name := "LOG2_ARRAY_CHAR_INDEX_SCALE", type := .int, accessFlags := 25, slot := 4, constantValue := 0 }, { name := "LOG2_ARRAY_SHORT_INDEX_SCALE", type := .int, accessFlags := 25, slot := 5, constantValue := 0 }, { name := "LOG2_ARRAY_INT_INDEX_SCALE", type := .int, accessFlags := 25, slot := 6, constantValue := 0 }, { name := "LOG2_ARRAY_LONG_INDEX_SCALE", type := .int, accessFlags := 25, slot := 7, constantValue := 0 }, { name := "LOG2_ARRAY_FLOAT_INDEX_SCALE", type := .int, accessFlags := 25, slot := 8, constantValue := 0 }, { name := "LOG2_ARRAY_DOUBLE_INDEX_SCALE", type := .int, accessFlags := 25, slot := 9, constantValue := 0 }, { name := "LOG2_BYTE_BIT_SIZE", type := .int, accessFlags := 26, slot := 10, constantValue := 0 }, { name := "T_BOOLEAN", type := .int, accessFlags := 25, slot := 11, constantValue := 0 }, { name := "T_CHAR", type := .int, accessFlags := 25, slot := 12, constantValue := 0 }, { name := "T_FLOAT", type := .int, accessFlags := 25, slot := 13, constantValue := 0 }, { name := "T_DOUBLE", type := .int, accessFlags := 25, slot := 14, constantValue := 0 }, { name := "T_BYTE", type := .int, accessFlags := 25, slot := 15, constantValue := 0 }, { name := "T_SHORT", type := .int, accessFlags := 25, slot := 16, constantValue := 0 }, { name := "T_INT", type := .int, accessFlags := 25, slot := 17, constantValue := 0 }, { name := "T_LONG", type := .int, accessFlags := 25, slot := 18, constantValue := 0 }, { name := "JLA", type := (.object "jdk/internal/access/JavaLangAccess"), accessFlags := 26, slot := 19, constantValue := 0 }, { name := "SOFT_MAX_ARRAY_LENGTH", type := .int, accessFlags := 25, slot := 20, constantValue := 0 }]
  methods := #[k14m0]
  instanceTypes := #[]
  staticTypes := #[(.object "jdk/internal/misc/Unsafe"), .boolean, .int, .int, .int, .int, .int, .int, .int, .int, .int, .int, .int, .int, .int, .int, .int, .int, .int, (.object "jdk/internal/access/JavaLangAccess"), .int]
  resolved := Array.replicate 378 none
  statics := none }

/-- the primitive byte -/
def k15 : Class := { plain "byte" none with kind := .primitive 'B', accessFlags := 0x411 }
/-- [B -/
def k16 : Class := { plain "[B" (some 0) with kind := .array 15 .byte, interfaces := #[13, 2], accessFlags := 1041 }

/-- the primitive char -/
def k17 : Class := { plain "char" none with kind := .primitive 'C', accessFlags := 0x411 }
/-- [C -/
def k18 : Class := { plain "[C" (some 0) with kind := .array 17 .char, interfaces := #[13, 2], accessFlags := 1041 }

/-- the primitive int -/
def k19 : Class := { plain "int" none with kind := .primitive 'I', accessFlags := 0x411 }
/-- [I -/
def k20 : Class := { plain "[I" (some 0) with kind := .array 19 .int, interfaces := #[13, 2], accessFlags := 1041 }

/-- [Ldev/portcullis/cli/HashPasswordCommand$Option; -/
def k21 : Class := { plain "[Ldev/portcullis/cli/HashPasswordCommand$Option;" (some 0) with kind := .array 9 (.object "dev/portcullis/cli/HashPasswordCommand$Option"), interfaces := #[13, 2], accessFlags := 1041 }

def heap : Heap := #[{ cls := 7, slots := #[.long 0, .int 1, .null, .int 0, .null, .int 0, .int 0], vm := .statics 7 },
  { cls := 9, slots := #[.ref 4, .ref 5, .ref 6, .ref 3], vm := .statics 9 },
  { cls := 12, slots := #[.null, .null, .null], vm := .statics 12 },
  { cls := 21, slots := #[.ref 4, .ref 5, .ref 6], vm := .none },
  { cls := 9, slots := #[.null, .int 0, .int 0, .ref 7, .null, .null], vm := .none },
  { cls := 9, slots := #[.null, .int 1, .int 0, .ref 8, .null, .null], vm := .none },
  { cls := 9, slots := #[.null, .int 2, .int 0, .ref 9, .null, .null], vm := .none },
  { cls := 7, slots := #[.ref 10, .int 0, .int 0, .int 0], vm := .none },
  { cls := 7, slots := #[.ref 11, .int 0, .int 0, .int 0], vm := .none },
  { cls := 7, slots := #[.ref 12, .int 0, .int 0, .int 0], vm := .none },
  { cls := 16, slots := #[.int 45, .int 45, .int 105, .int 116, .int 101, .int 114, .int 97, .int 116, .int 105, .int 111, .int 110, .int 115], vm := .none },
  { cls := 16, slots := #[.int 45, .int 45, .int 115, .int 97, .int 108, .int 116], vm := .none },
  { cls := 16, slots := #[.int 45, .int 45, .int 119, .int 101, .int 97, .int 107, .int 45, .int 112, .int 97, .int 115, .int 115, .int 119, .int 111, .int 114, .int 100], vm := .none }]
def classes : Array Class := #[k0, k1, k2, k3, k4, k5, k6, k7, k8, k9, k10, k11, k12, k13, k14, k15, k16, k17, k18, k19, k20, k21]
def interned : List (Array UInt16 × Addr) := []
def slotsUsed : Nat := 80
def theMethod : MethodId := ⟨1, 3⟩
def args0 : Array Value := #[.int 1, .int 2, .int 3, .int 0]
def aboutOver (below : List Frame) : State where
  vm := { classes := classes, interned := interned.toArray }
  heap := heap
  slotsUsed := slotsUsed
  threads := #[{ frames := .invoking theMethod args0 :: below }]
def below0 : List Frame := [.native { method := ⟨0, 0⟩, args := #[] }]
def about1 : State := aboutOver below0
def p0 : Program := .bare "" "" ""
def e0 : Env := launch0.env 0 0 0
theorem w_frames : about1.frames = Frame.invoking theMethod args0 :: below0 := rfl
set_option maxRecDepth 65536 in
theorem w_args : argsFit about1.vm theMethod args0 = true := by decide +kernel
set_option maxRecDepth 65536 in
theorem w_heap : heapFits about1 = true := by decide +kernel
set_option maxRecDepth 65536 in
theorem w_runnable : about1.curStatus? = some .runnable := by decide +kernel
set_option maxRecDepth 65536 in
theorem w_alone : about1.alone = true := by decide +kernel
set_option maxRecDepth 65536 in
theorem w_named : about1.methodNamed? x = some theMethod := by decide +kernel
set_option maxRecDepth 65536 in
theorem w_hears : about1.hears theMethod below0 = true := by decide +kernel
set_option maxRecDepth 65536 in
theorem w_ripe : about1.ripe theMethod args0 below0 = true := by decide +kernel
theorem w_running : about1.status = .running := rfl
set_option maxRecDepth 65536 in
theorem w_room : about1.hasRoom e0.platform room_1 = true :=
  launch0.hasRoom_least _ room_1 (by decide +kernel) (by decide +kernel) (by decide +kernel) (by decide +kernel) (by decide +kernel) (by decide +kernel)
theorem allAtoms_all (ts : List Jvm.Cond) (a : Array Jvm.Value) (st : Jvm.State) : (allAtoms ts).before a st = ts.all (fun c => c.before a st) := by
  induction ts with
  | nil => rfl
  | cons c t ih =>
    show (Jvm.Cond.and c (allAtoms t)).before a st = _
    rw [Jvm.Cond.before_and, ih, List.all_cons]
def words1 : List Jvm.Cond := Jvm.Cond.code x code maxLocals ret :: tables_1
/-- a 'code' word, met by the world's own term for the bytes: nothing is compared byte by byte -/
theorem code_word {y : MethodName} {bytes : ByteArray} {mx : Nat} {rt : Option FieldType} {a : Array Value} {s : State} {m : MethodId} {meth : Method} {c : Code} (h1 : s.methodNamed? y = some m) (h2 : s.vm.method? m = some meth) (h3 : meth.code = some c) (h4 : c.code = bytes)
    (h5 : (c.maxLocals == mx && c.exceptionTable.isEmpty && decide (c.maxStack ≤ mostOperands) && decide (meth.sig.returnType = rt) && !meth.locks && decide (parseMethodDescriptor y.desc = some meth.sig)) = true) : (Jvm.Cond.code y bytes mx rt).before a s = true := by
  simp only [Bool.and_eq_true, beq_iff_eq, Bool.not_eq_true', decide_eq_true_eq] at h5
  obtain ⟨⟨⟨⟨⟨g1, g2⟩, g3⟩, g4⟩, g5⟩, g6⟩ := h5
  simp [Cond.before, Cond.holds, Cond.value, h1, h2, h3, h4, g1, g2, g3, g4, g5, g6]
def isCode : Jvm.Cond → Bool
  | .code _ _ _ _ => true
  | _ => false
theorem all_split {L : List Jvm.Cond} {P : Jvm.Cond → Bool} (h1 : L.all (fun c => isCode c || P c) = true) (h2 : ∀ c ∈ L.filter isCode, P c = true) : L.all P = true := by
  refine List.all_eq_true.mpr fun c hc => ?_
  have h := List.all_eq_true.mp h1 c hc
  rcases Bool.eq_false_or_eq_true (isCode c) with hi | hi
  · exact h2 c (List.mem_filter.mpr ⟨hc, hi⟩)
  · simpa [hi] using h
set_option maxRecDepth 65536 in
theorem w_c0 : (Jvm.Cond.code x code maxLocals ret).before args0 about1 = true := code_word (m := ⟨1, 3⟩) (meth := k1m3) (c := k1c3) (by decide +kernel) rfl rfl rfl (by decide +kernel)
set_option maxRecDepth 65536 in
theorem w_c1 : (Jvm.Cond.code ({ cls := "java/lang/String", name := "length", desc := "()I" } : Jvm.MethodName) jdk_42_method_54_code (1 : Nat) (Option.some Jvm.ClassFile.FieldType.int)).before args0 about1 = true := code_word (m := ⟨7, 2⟩) (meth := k7m2) (c := k7c2) (by decide +kernel) rfl rfl rfl (by decide +kernel)
set_option maxRecDepth 65536 in
theorem w_c2 : (Jvm.Cond.code ({ cls := "java/lang/String", name := "coder", desc := "()B" } : Jvm.MethodName) jdk_42_method_152_code (1 : Nat) (Option.some Jvm.ClassFile.FieldType.byte)).before args0 about1 = true := code_word (m := ⟨7, 8⟩) (meth := k7m8) (c := k7c8) (by decide +kernel) rfl rfl rfl (by decide +kernel)
set_option maxRecDepth 65536 in
theorem w_c3 : (Jvm.Cond.code ({ cls := "dev/portcullis/cli/OptionTypedPinLaw", name := "chars", desc := "(I)[C" } : Jvm.MethodName) method_2_code (1 : Nat) (Option.some (Jvm.ClassFile.FieldType.array Jvm.ClassFile.FieldType.char))).before args0 about1 = true := code_word (m := ⟨1, 1⟩) (meth := k1m1) (c := k1c1) (by decide +kernel) rfl rfl rfl (by decide +kernel)
set_option maxRecDepth 65536 in
theorem w_c4 : (Jvm.Cond.code ({ cls := "java/lang/String", name := "<init>", desc := "([C)V" } : Jvm.MethodName) jdk_42_method_3_code (2 : Nat) (Option.none : Option Jvm.ClassFile.FieldType)).before args0 about1 = true := code_word (m := ⟨7, 1⟩) (meth := k7m1) (c := k7c1) (by decide +kernel) rfl rfl rfl (by decide +kernel)
set_option maxRecDepth 65536 in
theorem w_c5 : (Jvm.Cond.code ({ cls := "java/lang/String", name := "<init>", desc := "([CIILjava/lang/Void;)V" } : Jvm.MethodName) jdk_42_method_149_code (6 : Nat) (Option.none : Option Jvm.ClassFile.FieldType)).before args0 about1 = true := code_word (m := ⟨7, 6⟩) (meth := k7m6) (c := k7c6) (by decide +kernel) rfl rfl rfl (by decide +kernel)
set_option maxRecDepth 65536 in
theorem w_c6 : (Jvm.Cond.code ({ cls := "java/lang/Object", name := "<init>", desc := "()V" } : Jvm.MethodName) object_method_1_code (1 : Nat) (Option.none : Option Jvm.ClassFile.FieldType)).before args0 about1 = true := code_word (m := ⟨0, 0⟩) (meth := k0m0) (c := k0c0) (by decide +kernel) rfl rfl rfl (by decide +kernel)
set_option maxRecDepth 65536 in
theorem w_c7 : (Jvm.Cond.code ({ cls := "java/lang/StringUTF16", name := "compress", desc := "([CII)[B" } : Jvm.MethodName) jdk_52_method_16_code (6 : Nat) (Option.some (Jvm.ClassFile.FieldType.array Jvm.ClassFile.FieldType.byte))).before args0 about1 = true := code_word (m := ⟨10, 2⟩) (meth := k10m2) (c := k10c2) (by decide +kernel) rfl rfl rfl (by decide +kernel)
set_option maxRecDepth 65536 in
theorem w_c8 : (Jvm.Cond.code ({ cls := "java/lang/StringUTF16", name := "compress", desc := "([CI[BII)I" } : Jvm.MethodName) jdk_52_method_21_code (7 : Nat) (Option.some Jvm.ClassFile.FieldType.int)).before args0 about1 = true := code_word (m := ⟨10, 3⟩) (meth := k10m3) (c := k10c3) (by decide +kernel) rfl rfl rfl (by decide +kernel)
set_option maxRecDepth 65536 in
theorem w_c9 : (Jvm.Cond.code ({ cls := "java/lang/StringUTF16", name := "coderFromArrayLen", desc := "([BI)B" } : Jvm.MethodName) jdk_52_method_15_code (2 : Nat) (Option.some Jvm.ClassFile.FieldType.byte)).before args0 about1 = true := code_word (m := ⟨10, 1⟩) (meth := k10m1) (c := k10c1) (by decide +kernel) rfl rfl rfl (by decide +kernel)
set_option maxRecDepth 65536 in
theorem w_c10 : (Jvm.Cond.code ({ cls := "java/lang/String", name := "charAt", desc := "(I)C" } : Jvm.MethodName) jdk_42_method_56_code (2 : Nat) (Option.some Jvm.ClassFile.FieldType.char)).before args0 about1 = true := code_word (m := ⟨7, 3⟩) (meth := k7m3) (c := k7c3) (by decide +kernel) rfl rfl rfl (by decide +kernel)
set_option maxRecDepth 65536 in
theorem w_c11 : (Jvm.Cond.code ({ cls := "java/lang/String", name := "isLatin1", desc := "()Z" } : Jvm.MethodName) jdk_42_method_154_code (1 : Nat) (Option.some Jvm.ClassFile.FieldType.boolean)).before args0 about1 = true := code_word (m := ⟨7, 9⟩) (meth := k7m9) (c := k7c9) (by decide +kernel) rfl rfl rfl (by decide +kernel)
set_option maxRecDepth 65536 in
theorem w_c12 : (Jvm.Cond.code ({ cls := "java/lang/StringLatin1", name := "charAt", desc := "([BI)C" } : Jvm.MethodName) jdk_43_method_2_code (2 : Nat) (Option.some Jvm.ClassFile.FieldType.char)).before args0 about1 = true := code_word (m := ⟨11, 1⟩) (meth := k11m1) (c := k11c1) (by decide +kernel) rfl rfl rfl (by decide +kernel)
set_option maxRecDepth 65536 in
theorem w_c13 : (Jvm.Cond.code ({ cls := "java/lang/String", name := "checkIndex", desc := "(II)V" } : Jvm.MethodName) jdk_42_method_155_code (2 : Nat) (Option.none : Option Jvm.ClassFile.FieldType)).before args0 about1 = true := code_word (m := ⟨7, 10⟩) (meth := k7m10) (c := k7c10) (by decide +kernel) rfl rfl rfl (by decide +kernel)
set_option maxRecDepth 65536 in
theorem w_c14 : (Jvm.Cond.code ({ cls := "jdk/internal/util/Preconditions", name := "checkIndex", desc := "(IILjava/util/function/BiFunction;)I" } : Jvm.MethodName) jdk_41_method_11_code (3 : Nat) (Option.some Jvm.ClassFile.FieldType.int)).before args0 about1 = true := code_word (m := ⟨12, 1⟩) (meth := k12m1) (c := k12c1) (by decide +kernel) rfl rfl rfl (by decide +kernel)
set_option maxRecDepth 65536 in
theorem w_c15 : (Jvm.Cond.code ({ cls := "dev/portcullis/cli/HashPasswordCommand$Option", name := "typed", desc := "(Ljava/lang/String;)Ldev/portcullis/cli/HashPasswordCommand$Option;" } : Jvm.MethodName) prog_55_method_4_code (5 : Nat) (Option.some (Jvm.ClassFile.FieldType.object "dev/portcullis/cli/HashPasswordCommand$Option"))).before args0 about1 = true := code_word (m := ⟨9, 1⟩) (meth := k9m1) (c := k9c1) (by decide +kernel) rfl rfl rfl (by decide +kernel)
set_option maxRecDepth 65536 in
theorem w_c16 : (Jvm.Cond.code ({ cls := "dev/portcullis/cli/HashPasswordCommand$Option", name := "values", desc := "()[Ldev/portcullis/cli/HashPasswordCommand$Option;" } : Jvm.MethodName) prog_55_method_1_code (0 : Nat) (Option.some (Jvm.ClassFile.FieldType.array (Jvm.ClassFile.FieldType.object "dev/portcullis/cli/HashPasswordCommand$Option")))).before args0 about1 = true := code_word (m := ⟨9, 0⟩) (meth := k9m0) (c := k9c0) (by decide +kernel) rfl rfl rfl (by decide +kernel)
set_option maxRecDepth 65536 in
theorem w_c17 : (Jvm.Cond.code ({ cls := "java/lang/String", name := "equals", desc := "(Ljava/lang/Object;)Z" } : Jvm.MethodName) jdk_42_method_66_code (3 : Nat) (Option.some Jvm.ClassFile.FieldType.boolean)).before args0 about1 = true := code_word (m := ⟨7, 4⟩) (meth := k7m4) (c := k7c4) (by decide +kernel) rfl rfl rfl (by decide +kernel)
set_option maxRecDepth 65536 in
theorem w_c18 : (Jvm.Cond.code ({ cls := "java/lang/StringLatin1", name := "equals", desc := "([B[B)Z" } : Jvm.MethodName) jdk_43_method_13_code (3 : Nat) (Option.some Jvm.ClassFile.FieldType.boolean)).before args0 about1 = true := code_word (m := ⟨11, 3⟩) (meth := k11m3) (c := k11c3) (by decide +kernel) rfl rfl rfl (by decide +kernel)
set_option maxRecDepth 65536 in
theorem w_c19 : (Jvm.Cond.code ({ cls := "dev/portcullis/cli/OptionTypedPinLaw", name := "appended", desc := "(IC)[C" } : Jvm.MethodName) method_3_code (2 : Nat) (Option.some (Jvm.ClassFile.FieldType.array Jvm.ClassFile.FieldType.char))).before args0 about1 = true := code_word (m := ⟨1, 2⟩) (meth := k1m2) (c := k1c2) (by decide +kernel) rfl rfl rfl (by decide +kernel)
set_option maxRecDepth 65536 in
theorem w_c20 : (Jvm.Cond.code ({ cls := "java/lang/String", name := "valueOf", desc := "(C)Ljava/lang/String;" } : Jvm.MethodName) jdk_42_method_139_code (1 : Nat) (Option.some (Jvm.ClassFile.FieldType.object "java/lang/String"))).before args0 about1 = true := code_word (m := ⟨7, 5⟩) (meth := k7m5) (c := k7c5) (by decide +kernel) rfl rfl rfl (by decide +kernel)
set_option maxRecDepth 65536 in
theorem w_c21 : (Jvm.Cond.code ({ cls := "java/lang/StringLatin1", name := "canEncode", desc := "(C)Z" } : Jvm.MethodName) jdk_43_method_3_code (1 : Nat) (Option.some Jvm.ClassFile.FieldType.boolean)).before args0 about1 = true := code_word (m := ⟨11, 2⟩) (meth := k11m2) (c := k11c2) (by decide +kernel) rfl rfl rfl (by decide +kernel)
set_option maxRecDepth 65536 in
theorem w_c22 : (Jvm.Cond.code ({ cls := "java/lang/StringLatin1", name := "toBytes", desc := "(C)[B" } : Jvm.MethodName) jdk_43_method_46_code (1 : Nat) (Option.some (Jvm.ClassFile.FieldType.array Jvm.ClassFile.FieldType.byte))).before args0 about1 = true := code_word (m := ⟨11, 4⟩) (meth := k11m4) (c := k11c4) (by decide +kernel) rfl rfl rfl (by decide +kernel)
set_option maxRecDepth 65536 in
theorem w_c23 : (Jvm.Cond.code ({ cls := "java/lang/String", name := "<init>", desc := "([BB)V" } : Jvm.MethodName) jdk_42_method_151_code (3 : Nat) (Option.none : Option Jvm.ClassFile.FieldType)).before args0 about1 = true := code_word (m := ⟨7, 7⟩) (meth := k7m7) (c := k7c7) (by decide +kernel) rfl rfl rfl (by decide +kernel)
def codes1 : List Jvm.Cond := [Jvm.Cond.code x code maxLocals ret, Jvm.Cond.code ({ cls := "java/lang/String", name := "length", desc := "()I" } : Jvm.MethodName) jdk_42_method_54_code (1 : Nat) (Option.some Jvm.ClassFile.FieldType.int), Jvm.Cond.code ({ cls := "java/lang/String", name := "coder", desc := "()B" } : Jvm.MethodName) jdk_42_method_152_code (1 : Nat) (Option.some Jvm.ClassFile.FieldType.byte), Jvm.Cond.code ({ cls := "dev/portcullis/cli/OptionTypedPinLaw", name := "chars", desc := "(I)[C" } : Jvm.MethodName) method_2_code (1 : Nat) (Option.some (Jvm.ClassFile.FieldType.array Jvm.ClassFile.FieldType.char)), Jvm.Cond.code ({ cls := "java/lang/String", name := "<init>", desc := "([C)V" } : Jvm.MethodName) jdk_42_method_3_code (2 : Nat) (Option.none : Option Jvm.ClassFile.FieldType), Jvm.Cond.code ({ cls := "java/lang/String", name := "<init>", desc := "([CIILjava/lang/Void;)V" } : Jvm.MethodName) jdk_42_method_149_code (6 : Nat) (Option.none : Option Jvm.ClassFile.FieldType), Jvm.Cond.code ({ cls := "java/lang/Object", name := "<init>", desc := "()V" } : Jvm.MethodName) object_method_1_code (1 : Nat) (Option.none : Option Jvm.ClassFile.FieldType), Jvm.Cond.code ({ cls := "java/lang/StringUTF16", name := "compress", desc := "([CII)[B" } : Jvm.MethodName) jdk_52_method_16_code (6 : Nat) (Option.some (Jvm.ClassFile.FieldType.array Jvm.ClassFile.FieldType.byte)), Jvm.Cond.code ({ cls := "java/lang/StringUTF16", name := "compress", desc := "([CI[BII)I" } : Jvm.MethodName) jdk_52_method_21_code (7 : Nat) (Option.some Jvm.ClassFile.FieldType.int), Jvm.Cond.code ({ cls := "java/lang/StringUTF16", name := "coderFromArrayLen", desc := "([BI)B" } : Jvm.MethodName) jdk_52_method_15_code (2 : Nat) (Option.some Jvm.ClassFile.FieldType.byte), Jvm.Cond.code ({ cls := "java/lang/String", name := "charAt", desc := "(I)C" } : Jvm.MethodName) jdk_42_method_56_code (2 : Nat) (Option.some Jvm.ClassFile.FieldType.char), Jvm.Cond.code ({ cls := "java/lang/String", name := "isLatin1", desc := "()Z" } : Jvm.MethodName) jdk_42_method_154_code (1 : Nat) (Option.some Jvm.ClassFile.FieldType.boolean), Jvm.Cond.code ({ cls := "java/lang/StringLatin1", name := "charAt", desc := "([BI)C" } : Jvm.MethodName) jdk_43_method_2_code (2 : Nat) (Option.some Jvm.ClassFile.FieldType.char), Jvm.Cond.code ({ cls := "java/lang/String", name := "checkIndex", desc := "(II)V" } : Jvm.MethodName) jdk_42_method_155_code (2 : Nat) (Option.none : Option Jvm.ClassFile.FieldType), Jvm.Cond.code ({ cls := "jdk/internal/util/Preconditions", name := "checkIndex", desc := "(IILjava/util/function/BiFunction;)I" } : Jvm.MethodName) jdk_41_method_11_code (3 : Nat) (Option.some Jvm.ClassFile.FieldType.int), Jvm.Cond.code ({ cls := "dev/portcullis/cli/HashPasswordCommand$Option", name := "typed", desc := "(Ljava/lang/String;)Ldev/portcullis/cli/HashPasswordCommand$Option;" } : Jvm.MethodName) prog_55_method_4_code (5 : Nat) (Option.some (Jvm.ClassFile.FieldType.object "dev/portcullis/cli/HashPasswordCommand$Option")), Jvm.Cond.code ({ cls := "dev/portcullis/cli/HashPasswordCommand$Option", name := "values", desc := "()[Ldev/portcullis/cli/HashPasswordCommand$Option;" } : Jvm.MethodName) prog_55_method_1_code (0 : Nat) (Option.some (Jvm.ClassFile.FieldType.array (Jvm.ClassFile.FieldType.object "dev/portcullis/cli/HashPasswordCommand$Option"))), Jvm.Cond.code ({ cls := "java/lang/String", name := "equals", desc := "(Ljava/lang/Object;)Z" } : Jvm.MethodName) jdk_42_method_66_code (3 : Nat) (Option.some Jvm.ClassFile.FieldType.boolean), Jvm.Cond.code ({ cls := "java/lang/StringLatin1", name := "equals", desc := "([B[B)Z" } : Jvm.MethodName) jdk_43_method_13_code (3 : Nat) (Option.some Jvm.ClassFile.FieldType.boolean), Jvm.Cond.code ({ cls := "dev/portcullis/cli/OptionTypedPinLaw", name := "appended", desc := "(IC)[C" } : Jvm.MethodName) method_3_code (2 : Nat) (Option.some (Jvm.ClassFile.FieldType.array Jvm.ClassFile.FieldType.char)), Jvm.Cond.code ({ cls := "java/lang/String", name := "valueOf", desc := "(C)Ljava/lang/String;" } : Jvm.MethodName) jdk_42_method_139_code (1 : Nat) (Option.some (Jvm.ClassFile.FieldType.object "java/lang/String")), Jvm.Cond.code ({ cls := "java/lang/StringLatin1", name := "canEncode", desc := "(C)Z" } : Jvm.MethodName) jdk_43_method_3_code (1 : Nat) (Option.some Jvm.ClassFile.FieldType.boolean), Jvm.Cond.code ({ cls := "java/lang/StringLatin1", name := "toBytes", desc := "(C)[B" } : Jvm.MethodName) jdk_43_method_46_code (1 : Nat) (Option.some (Jvm.ClassFile.FieldType.array Jvm.ClassFile.FieldType.byte)), Jvm.Cond.code ({ cls := "java/lang/String", name := "<init>", desc := "([BB)V" } : Jvm.MethodName) jdk_42_method_151_code (3 : Nat) (Option.none : Option Jvm.ClassFile.FieldType)]
set_option maxRecDepth 65536 in
theorem codes_eq : words1.filter isCode = codes1 := rfl
theorem w_codes : ∀ c ∈ words1.filter isCode, c.before args0 about1 = true := by
  rw [codes_eq]
  intro c hc
  simp only [codes1, List.mem_cons, List.not_mem_nil, or_false] at hc
  rcases hc with rfl | rfl | rfl | rfl | rfl | rfl | rfl | rfl | rfl | rfl | rfl | rfl | rfl | rfl | rfl | rfl | rfl | rfl | rfl | rfl | rfl | rfl | rfl | rfl
  · exact w_c0
  · exact w_c1
  · exact w_c2
  · exact w_c3
  · exact w_c4
  · exact w_c5
  · exact w_c6
  · exact w_c7
  · exact w_c8
  · exact w_c9
  · exact w_c10
  · exact w_c11
  · exact w_c12
  · exact w_c13
  · exact w_c14
  · exact w_c15
  · exact w_c16
  · exact w_c17
  · exact w_c18
  · exact w_c19
  · exact w_c20
  · exact w_c21
  · exact w_c22
  · exact w_c23
set_option maxRecDepth 65536 in
theorem w_t1 : (words1.take 24).all (fun c => isCode c || c.before args0 about1) = true := by decide +kernel
set_option maxRecDepth 65536 in
theorem w_t2 : ((words1.drop 24).take 24).all (fun c => isCode c || c.before args0 about1) = true := by decide +kernel
set_option maxRecDepth 65536 in
theorem w_t3 : (((words1.drop 24).drop 24).take 24).all (fun c => isCode c || c.before args0 about1) = true := by decide +kernel
set_option maxRecDepth 65536 in
theorem w_t4 : ((((words1.drop 24).drop 24).drop 24).take 24).all (fun c => isCode c || c.before args0 about1) = true := by decide +kernel
set_option maxRecDepth 65536 in
theorem w_t5 : (((((words1.drop 24).drop 24).drop 24).drop 24).take 24).all (fun c => isCode c || c.before args0 about1) = true := by decide +kernel
set_option maxRecDepth 65536 in
theorem w_t6 : (((((words1.drop 24).drop 24).drop 24).drop 24).drop 24).all (fun c => isCode c || c.before args0 about1) = true := by decide +kernel
theorem w_tables : (allAtoms (Jvm.Cond.code x code maxLocals ret :: tables_1)).before args0 about1 = true := by
  rw [allAtoms_all]
  show words1.all (fun c => c.before args0 about1) = true
  refine all_split ?_ w_codes
  rw [← List.take_append_drop 24 words1, List.all_append, w_t1, ← List.take_append_drop 24 (words1.drop 24), List.all_append, w_t2, ← List.take_append_drop 24 ((words1.drop 24).drop 24), List.all_append, w_t3, ← List.take_append_drop 24 (((words1.drop 24).drop 24).drop 24), List.all_append, w_t4, ← List.take_append_drop 24 ((((words1.drop 24).drop 24).drop 24).drop 24), List.all_append, w_t5, w_t6]
  rfl
set_option maxRecDepth 65536 in
theorem w_rest : rest_1_c.before args0 about1 = true := by decide +kernel
set_option maxRecDepth 65536 in
theorem w_case : (Jvm.Cond.and given_1 narrow_1).before args0 about1 = true := by decide +kernel
set_option maxRecDepth 65536 in
theorem w_consts : constsHeld consts_1 about1 := Jvm.Lit.constsHeldB_iff.mp (by decide +kernel)
theorem w_applies : (headSpec (Jvm.Cond.code x code maxLocals ret :: tables_1) room_1).applies x e0.platform about1 = true :=
  (Spec.applies_iff w_frames).mpr ⟨w_running, w_runnable, w_alone, w_named, w_hears, w_ripe, w_room, w_tables⟩
theorem atStart : AtStart classFile x code maxLocals ret World_1 tables_1 room_1 Calls_1 rest_1 Pre_1 launch0 p0 e0 about1 theMethod args0 below0 :=
  ⟨lists_1, trivial, launch0.admits_env _ _ _, launch0.least_env, fairChoices_fair.cas, fairChoices_fair.clock, w_frames, w_args, w_heap, w_applies, ⟨w_consts, trivial⟩, w_rest, w_case⟩
end start1
theorem witness_1 : WitnessClaimed_1 := ⟨start1.p0, start1.e0, start1.about1, start1.theMethod, start1.args0, start1.below0, start1.atStart⟩
end Jvm.Pilot.@@N@@
