import JvmDerived
import JvmDerived.Pilot.@@N@@Statement
import JvmDerived.Pilot.@@N@@Code
set_option linter.unusedVariables false
set_option linter.unusedSimpArgs false
namespace Jvm.Pilot.@@N@@
namespace Own
open Jvm Jvm.ClassFile Sem Op Lib Jvm.Free Jvm.Stand Jvm.LawKit Jvm.RoadKit Bundle
section Base
variable {p : Program} {l : Launch} {e : Env} {R : Room} {s : State} {m : MethodId} {args : Array Value} {below : List Frame} {meth : Method} {c : Code} {Z : State} {a0 : Array Value} {EL : List (String × Nat)} {own : String} {ws : List Addr} {T : State} {h : Heap} {sf : List Addr} {lts : List (Nat × Addr)} {cells slots : Nat} {P : Option Value → State → Prop} {pc : Nat} {Ls : Array Slot} {rest : List Value}

/-- from the frame g the method's invocation comes back, and P holds of what it returns and of the state behind it -/
def Go (p : Program) (e : Env) (below : List Frame) (P : Option Value → State → Prop) (T : State) (g : JFrame) : Prop :=
  ∃ (U : State) (v : Option Value), Steps p.tables e below (T.setTop g) U ∧ U.status = .running ∧ Ended U below (.returned v) ∧ P v U

theorem Go.of {T' : State} {g g' : JFrame} (st : ∀ t, Steps p.tables e below (T'.setTop g') t → Steps p.tables e below (T.setTop g) t) (k : Go p e below P T' g') : Go p e below P T g := by
  obtain ⟨U, v, h1, h2⟩ := k
  exact ⟨U, v, st _ h1, h2⟩

theorem Go.cast {g g' : JFrame} (q : g = g') (k : Go p e below P T g') : Go p e below P T g := q ▸ k

/-- where a walk stands: T with heap h; the tables may have interned since the start (Since), the literals of EL hold what they spell (CHr), nothing is written but in fresh cells (Fr, Ext), nothing of the start's heap but ws (Keep), and the addresses sf are no literal's -/
def Wk (p : Program) (l : Launch) (e : Env) (R : Room) (s : State) (m : MethodId) (args : Array Value) (below : List Frame) (meth : Method) (c : Code) (Z : State) (a0 : Array Value) (EL : List (String × Nat)) (own : String) (ws : List Addr) (T : State) (h : Heap) (sf : List Addr) (lts : List (Nat × Addr)) (cells slots : Nat) : Prop :=
  p.tables.exec = Jvm.exec ∧ EW Z a0 EL ∧ ∃ (vm0 : Vm) (k0 : Nat) (locs : List Loc), Stand p l e R (s.setVm vm0) m args below meth c T locs cells slots ∧ T.heap = h ∧ s.Since vm0 k0 ∧ k0 ≤ h.size ∧ Z.Warmed39 vm0 ∧ vm0.findClass own = some m.cls ∧ CHr Z EL s.vm s.heap vm0 h ∧ Fr Z.heap.size locs ∧ Ext Z.heap h ∧ Keep s.heap h ws ∧ (∀ x ∈ sf, x < h.size ∧ Safe Z EL vm0 h x) ∧ ∀ q ∈ lts, Lit (s.setVm vm0) own q.1 q.2

/-- what is left when the method has come back -/
def Pst (R : Room) (s Z : State) (EL : List (String × Nat)) (ws : List Addr) (Q : Option Value → (Addr → Prop) → Heap → Prop) (v : Option Value) (U : State) : Prop :=
  ∃ L, (Q v (Safe Z EL U.vm U.heap) U.heap ∧ Fr Z.heap.size L ∧ Ext Z.heap U.heap ∧ Keep s.heap U.heap ws) ∧ CHr Z EL s.vm s.heap U.vm U.heap ∧ ReturnedEndW s (.returned v) U L R.cells R.slots

/-- a method's contract -/
def Met (l : Launch) (Z : State) (EL : List (String × Nat)) (y : MethodName) (bytes : ByteArray) (maxL : Nat) (ret : Option FieldType) (rm : Room) (as' : Array Value) (h : Heap) (ws si : List Addr) (Q : Option Value → (Addr → Prop) → Heap → Prop) : Prop :=
  ∀ wsx : List Jvm.Cond, MetFree l y (head1 (Jvm.Cond.code y bytes maxL ret :: wsx) rm)
    (fun a U => a = as' ∧ Z.Warmed39 U.vm ∧ U.heap = h ∧ CHv Z EL U.vm h ∧ Ext Z.heap h ∧ ∀ x ∈ si, x < h.size ∧ Safe Z EL U.vm h x) (fun _ _ _ _ _ => True)
    (fun _ U o U' => ∃ v L, o = .returned v ∧ (Q v (Safe Z EL U'.vm U'.heap) U'.heap ∧ Fr Z.heap.size L ∧ Ext Z.heap U'.heap ∧ Keep U.heap U'.heap ws) ∧ CHr Z EL U.vm U.heap U'.vm U'.heap ∧ ReturnedEndW U o U' L rm.cells rm.slots)

theorem Wk.hh (X : Wk p l e R s m args below meth c Z a0 EL own ws T h sf lts cells slots) : At T m c below := by
  obtain ⟨-, -, _, _, _, X, -⟩ := X
  exact X.here
theorem Wk.hx (X : Wk p l e R s m args below meth c Z a0 EL own ws T h sf lts cells slots) : p.tables.exec = Jvm.exec := X.1
theorem Wk.ext0 (X : Wk p l e R s m args below meth c Z a0 EL own ws T h sf lts cells slots) : Ext Z.heap h := by
  obtain ⟨-, -, _, _, _, -, -, -, -, -, -, -, -, q, -⟩ := X
  exact q
theorem Wk.keep0 (X : Wk p l e R s m args below meth c Z a0 EL own ws T h sf lts cells slots) : Keep s.heap h ws := by
  obtain ⟨-, -, _, _, _, -, -, -, -, -, -, -, -, -, q, -⟩ := X
  exact q
theorem Wk.mono {cells' slots' : Nat} (X : Wk p l e R s m args below meth c Z a0 EL own ws T h sf lts cells slots) (hc : cells ≤ cells') (hs : slots ≤ slots') : Wk p l e R s m args below meth c Z a0 EL own ws T h sf lts cells' slots' := by
  obtain ⟨hx, hEL, vm0, k0, locs, X, q⟩ := X
  exact ⟨hx, hEL, vm0, k0, locs, { X with same := X.same.mono hc hs }, q⟩
theorem Wk.less {sf' : List Addr} (X : Wk p l e R s m args below meth c Z a0 EL own ws T h sf lts cells slots) (q : ∀ x ∈ sf', x ∈ sf) : Wk p l e R s m args below meth c Z a0 EL own ws T h sf' lts cells slots := by
  obtain ⟨hx, hEL, vm0, k0, locs, X, a1, a2, a3, a4, a5, a6, a7, a8, a9, a10, a11⟩ := X
  exact ⟨hx, hEL, vm0, k0, locs, X, a1, a2, a3, a4, a5, a6, a7, a8, a9, fun x hx => a10 x (q x hx), a11⟩

/-- why x is no literal's cell -/
def Sfe (Z : State) (h : Heap) (sf : List Addr) (a : Addr) : Prop := a ∈ sf ∨ (∃ C, Exa Z h a C ∧ C ≠ "java/lang/String" ∧ C ≠ "[B") ∨ ∃ cl ty, Jvm.RoadKit.Arr Z h a cl ty ∧ ty ≠ .byte
theorem Sfe.mem {a : Addr} (q : a ∈ sf) : Sfe Z h sf a := Or.inl q
theorem Sfe.exa {a : Addr} {C : String} (E : Exa Z h a C) (h1 : C ≠ "java/lang/String" := by decide) (h2 : C ≠ "[B" := by decide) : Sfe Z h sf a := Or.inr (Or.inl ⟨C, E, h1, h2⟩)
theorem Sfe.arv {a : Addr} {k : ClassId} {ty : FieldType} {z : Int32} {vs : List Value} {d : Value} (A : Arv Z h a k ty z vs d) (q : ty ≠ .byte := by decide) : Sfe Z h sf a := by
  obtain ⟨cl, A, -⟩ := A
  exact Or.inr (Or.inr ⟨cl, ty, A, q⟩)
theorem Sfe.safe {vm : Vm} {a : Addr} (S : Sfe Z h sf a) (hal : Z.vm.Alike vm) (hsf : ∀ x ∈ sf, x < h.size ∧ Safe Z EL vm h x) : Safe Z EL vm h a := by
  rcases S with q | ⟨C, E, h1, h2⟩ | ⟨cl, ty, A, q⟩
  · exact (hsf _ q).2
  · exact Safe.exa hal E h1 h2
  · exact Safe.arr hal A q
theorem ext_refl (h : Heap) : Ext h h := ⟨Nat.le_refl _, fun _ _ q => q⟩
theorem ext_trans {h1 h2 h3 : Heap} (A : Ext h1 h2) (B : Ext h2 h3) : Ext h1 h3 := ⟨Nat.le_trans A.1 B.1, fun x c q => B.2 x c (A.2 x c q)⟩
theorem ext_keep {h1 h2 h3 : Heap} {ws : List Addr} (A : Ext h1 h2) (K : Keep h2 h3 ws) (q : ∀ x ∈ ws, h1.size ≤ x) : Ext h1 h3 :=
  ⟨Nat.le_trans A.1 K.1, fun x c r => K.2.1 x c (A.2 x c r) fun z => absurd (Array.getElem?_eq_some_iff.mp r).1 (Nat.not_lt.mpr (q x z))⟩
theorem safe_any {vm vm1 : Vm} (A : CHr Z EL vm h vm1 h) {x : Addr} (S : Safe Z EL vm h x) : Safe Z EL vm1 h x := by
  by_cases q : x < h.size
  · exact A.safe q S
  · exact Safe.new (Nat.le_of_not_lt q)

theorem Met.intro {y : MethodName} {bytes : ByteArray} {maxL : Nat} {ret : Option FieldType} {as' : Array Value} {si : List Addr} {Q : Option Value → (Addr → Prop) → Heap → Prop} (hEL : EW Z a0 EL) (hn : plainName y.cls = true)
    (body : ∀ (p : Program) (e : Env) (s : State) (m : MethodId) (below : List Frame) (meth : Method) (c : Code) (T : State), Wk p l e R s m as' below meth c Z a0 EL y.cls ws T h si [] 0 0 → c.maxLocals = maxL → c.code = bytes → meth.sig.returnType = ret → meth.name = y.name → meth.locks = false → s.heap = h → Go p e below (Pst R s Z EL ws Q) T (entryFrame m as' maxL)) :
    Met l Z EL y bytes maxL ret R as' h ws si Q := by
  intro wsx
  refine MetFree.of_bodySF (plainFor_of_name hn) hisR ?_
  intro p e s m args below meth c s₁ Bd hml0 hP hK
  obtain ⟨rfl, hZ, hh, hCH, hO, hsi⟩ := hP
  have X0 : Stand p l e R s m args below meth c s₁ [] 0 0 := Stand.of_body Bd
  have e0 : s₁.heap = h := by rw [← hh, Bd.state]; rfl
  subst hh
  have W0 : Wk p l e R s m args below meth c Z a0 EL y.cls ws s₁ s.heap si [] 0 0 := ⟨Bd.exec, hEL, s.vm, 0, [], X0, e0, (State.WarmedH.refl s).since 0, Nat.zero_le _, hZ, findClass_of_methodNamed Bd.named, CHr.refl hCH, Fr.nil _, hO, Keep.refl _ _, hsi, fun _ q => nomatch q⟩
  obtain ⟨U, v, h1, h2, h3, L, h4, h5, h6⟩ := body p e s m below meth c s₁ W0 hml0 Bd.bytes Bd.returns (name_of_methodNamed Bd.named Bd.method).1 Bd.notSynchronized rfl
  exact ⟨U, .returned v, h1, h2, h3, v, L, rfl, h4, h5, h6⟩

theorem Wk.ret {Q : Option Value → (Addr → Prop) → Heap → Prop} {g : JFrame} {v : Option Value} (X : Wk p l e R s m args below meth c Z a0 EL own ws T h sf lts cells slots) (hv : meth.sig.returnType = none → v = none) (hlk : meth.locks = false) (hc : cells ≤ R.cells) (hs : slots ≤ R.slots)
    (st : ∀ (vm0 : Vm) (locs : List Loc), Stand p l e R (s.setVm vm0) m args below meth c T locs cells slots → ∀ fs : List Frame, (∀ (f : JFrame) (acts : List Action), f.method = m → f.locked = none → f.entered = [] → (doReturn e (T.setTop f) acts v).1 = T.setFrames fs) → Steps p.tables e below (T.setTop g) (T.setFrames fs))
    (hQ : ∀ S : Addr → Prop, (∀ x ∈ sf, S x) → Q v S h) : Go p e below (Pst R s Z EL ws Q) T g := by
  obtain ⟨hx, hEL, vm0, k0, locs, X, eT, hS, hk, hZ, hown, hC, hN, hO, hK, hsf, hlt⟩ := X
  obtain ⟨fs, h1, h2, h3, h4, h5, h6, h7⟩ := X.leaveW hS (by rw [eT]; exact hk) hv hlk
  have hA := CHv.at X hZ hEL hC.1
  have eU : (T.setFrames fs).heap = h := eT
  have eV : (T.setFrames fs).vm = T.vm := rfl
  refine ⟨T.setFrames fs, v, st vm0 locs X fs h1, h2, h3, locs, ?_, ?_, h4, h5, h6, h7.mono hc hs⟩
  · rw [eU, eV]
    exact ⟨hQ _ fun x hx => safe_any hA (hsf x hx).2, hN, hO, hK⟩
  · rw [eU, eV]
    exact hC.trans hA

theorem Wk.iret {Q : Option Value → (Addr → Prop) → Heap → Prop} {z : Int32} (X : Wk p l e R s m args below meth c Z a0 EL own ws T h sf lts cells slots) (hr : meth.sig.returnType = some .int) (hlk : meth.locks = false) (hc : cells ≤ R.cells) (hs : slots ≤ R.slots) (hd : decode c.code pc = .ok (.ireturn, 1))
    (hQ : ∀ S : Addr → Prop, (∀ x ∈ sf, S x) → Q (some (.int z)) S h) : Go p e below (Pst R s Z EL ws Q) T (mkF m pc Ls (.int z :: rest)) :=
  X.ret (fun q => by rw [hr] at q; cases q) hlk hc hs (fun _ _ Y _ hl => retOut Y X.hx hr rfl (Or.inl ⟨rfl, Or.inl rfl, z, rfl⟩) hd hl) hQ
theorem Wk.nret {Q : Option Value → (Addr → Prop) → Heap → Prop} {z : Int32} {t : FieldType} (X : Wk p l e R s m args below meth c Z a0 EL own ws T h sf lts cells slots) (hr : meth.sig.returnType = some t) (ht : t = .boolean ∨ t = .byte ∨ t = .char ∨ t = .short) (hlk : meth.locks = false) (hc : cells ≤ R.cells) (hs : slots ≤ R.slots) (hd : decode c.code pc = .ok (.ireturn, 1))
    (hQ : ∀ S : Addr → Prop, (∀ x ∈ sf, S x) → Q (some (.int (nar t z))) S h) : Go p e below (Pst R s Z EL ws Q) T (mkF m pc Ls (.int z :: rest)) :=
  X.ret (fun q => by rw [hr] at q; cases q) hlk hc hs (fun _ _ Y _ hl => retN Y X.hx hr ht hd hl) hQ
theorem Wk.lret {Q : Option Value → (Addr → Prop) → Heap → Prop} {z : Int64} (X : Wk p l e R s m args below meth c Z a0 EL own ws T h sf lts cells slots) (hr : meth.sig.returnType = some .long) (hlk : meth.locks = false) (hc : cells ≤ R.cells) (hs : slots ≤ R.slots) (hd : decode c.code pc = .ok (.lreturn, 1))
    (hQ : ∀ S : Addr → Prop, (∀ x ∈ sf, S x) → Q (some (.long z)) S h) : Go p e below (Pst R s Z EL ws Q) T (mkF m pc Ls (.long z :: rest)) :=
  X.ret (fun q => by rw [hr] at q; cases q) hlk hc hs (fun _ _ Y _ hl => retOut Y X.hx hr rfl (Or.inr (Or.inl ⟨rfl, rfl, z, rfl⟩)) hd hl) hQ
theorem Wk.aret {Q : Option Value → (Addr → Prop) → Heap → Prop} {v : Value} {t : FieldType} (X : Wk p l e R s m args below meth c Z a0 EL own ws T h sf lts cells slots) (hr : meth.sig.returnType = some t) (ht : t.isReference = true) (hn : narrow t v = v) (hv : v.isRef = true) (hlk : meth.locks = false) (hc : cells ≤ R.cells) (hs : slots ≤ R.slots) (hd : decode c.code pc = .ok (.areturn, 1))
    (hQ : ∀ S : Addr → Prop, (∀ x ∈ sf, S x) → Q (some v) S h) : Go p e below (Pst R s Z EL ws Q) T (mkF m pc Ls (v :: rest)) :=
  X.ret (fun q => by rw [hr] at q; cases q) hlk hc hs (fun _ _ Y _ hl => retOut Y X.hx hr hn (Or.inr (Or.inr (Or.inr (Or.inr ⟨rfl, ht, hv⟩)))) hd hl) hQ
theorem Wk.vret {Q : Option Value → (Addr → Prop) → Heap → Prop} (X : Wk p l e R s m args below meth c Z a0 EL own ws T h sf lts cells slots) (hr : meth.sig.returnType = none) (hlk : meth.locks = false) (hc : cells ≤ R.cells) (hs : slots ≤ R.slots) (hd : decode c.code pc = .ok (.return_, 1))
    (hQ : ∀ S : Addr → Prop, (∀ x ∈ sf, S x) → Q none S h) : Go p e below (Pst R s Z EL ws Q) T (mkF m pc Ls []) :=
  X.ret (fun _ => rfl) hlk hc hs (fun _ _ Y _ hl => Y.returnOut X.hx hr hd hl) hQ

theorem Wk.getF {n d R0 O host : String} {index : Nat} {a : Addr} {v : Value} (X : Wk p l e R s m args below meth c Z a0 EL own ws T h sf lts cells slots) (w : (Cond.fieldLink own index R0 n d).before a0 Z = true ∨ (Cond.fieldLinkNest own index R0 n d host).before a0 Z = true) (via : Via Z R0 O n d) (F : Fld Z h a O n d v) (hd : decode c.code pc = .ok (.getfield index, 3))
    (k : ∀ T', Wk p l e R s m args below meth c Z a0 EL own ws T' h sf lts cells slots → Go p e below P T' (mkF m (pc + 3) Ls (v :: rest))) : Go p e below P T (mkF m pc Ls (.ref a :: rest)) := by
  obtain ⟨hx, hEL, vm0, k0, locs, X, eT, hS, hk, hZ, hown, q⟩ := X
  obtain ⟨T', X', e', st⟩ := Jvm.RoadKit.getF X hx (s := s.setVm vm0) hZ hown w via eT F (g := mkF m pc Ls (.ref a :: rest)) rfl rfl hd
  exact Go.of st (k T' ⟨hx, hEL, vm0, k0, locs, X', e', hS, hk, hZ, hown, q⟩)

theorem Wk.getS {n d R0 O host : String} {index : Nat} {v : Value} {st : List Value} (X : Wk p l e R s m args below meth c Z a0 EL own ws T h sf lts cells slots) (w : (Cond.fieldLink own index R0 n d).before a0 Z = true ∨ (Cond.fieldLinkNest own index R0 n d host).before a0 Z = true) (via : Via Z R0 O n d) (F : Sta Z h O n d v) (hd : decode c.code pc = .ok (.getstatic index, 3))
    (k : ∀ T', Wk p l e R s m args below meth c Z a0 EL own ws T' h sf lts cells slots → Go p e below P T' (mkF m (pc + 3) Ls (v :: st))) : Go p e below P T (mkF m pc Ls st) := by
  obtain ⟨hx, hEL, vm0, k0, locs, X, eT, hS, hk, hZ, hown, q⟩ := X
  obtain ⟨T', X', e', st'⟩ := getS2 X hx (s := s.setVm vm0) hZ hown w via eT F (g := mkF m pc Ls st) rfl hd
  exact Go.of st' (k T' ⟨hx, hEL, vm0, k0, locs, X', e', hS, hk, hZ, hown, q⟩)

theorem Wk.castY {K : String} {index : Nat} {a : Addr} (X : Wk p l e R s m args below meth c Z a0 EL own ws T h sf lts cells slots) (w : (Cond.classLink own index K).before a0 Z = true) (F : Ins Z h a K true) (hd : decode c.code pc = .ok (.checkcast index, 3))
    (k : ∀ T', Wk p l e R s m args below meth c Z a0 EL own ws T' h sf lts cells slots → Go p e below P T' (mkF m (pc + 3) Ls (.ref a :: rest))) : Go p e below P T (mkF m pc Ls (.ref a :: rest)) := by
  obtain ⟨hx, hEL, vm0, k0, locs, X, eT, hS, hk, hZ, hown, q⟩ := X
  obtain ⟨T', X', e', st'⟩ := Jvm.RoadKit.castY X hx (s := s.setVm vm0) hZ hown w eT F (g := mkF m pc Ls (.ref a :: rest)) rfl rfl hd
  exact Go.of st' (k T' ⟨hx, hEL, vm0, k0, locs, X', e', hS, hk, hZ, hown, q⟩)

theorem Wk.instY {K : String} {index : Nat} {a : Addr} (X : Wk p l e R s m args below meth c Z a0 EL own ws T h sf lts cells slots) (w : (Cond.classLink own index K).before a0 Z = true) (F : Ins Z h a K true) (hd : decode c.code pc = .ok (.instanceof index, 3))
    (k : ∀ T', Wk p l e R s m args below meth c Z a0 EL own ws T' h sf lts cells slots → Go p e below P T' (mkF m (pc + 3) Ls (.int 1 :: rest))) : Go p e below P T (mkF m pc Ls (.ref a :: rest)) := by
  obtain ⟨hx, hEL, vm0, k0, locs, X, eT, hS, hk, hZ, hown, q⟩ := X
  obtain ⟨T', X', e', st'⟩ := Jvm.RoadKit.instY X hx (s := s.setVm vm0) hZ hown w eT F (g := mkF m pc Ls (.ref a :: rest)) rfl rfl hd
  exact Go.of st' (k T' ⟨hx, hEL, vm0, k0, locs, X', e', hS, hk, hZ, hown, q⟩)

theorem Wk.initO {idx : Nat} {a : Addr} {W : Nat} (X : Wk p l e R s m args below meth c Z a0 EL own ws T h sf lts cells slots) (w1 : (Cond.methodLink own idx Lib.objectInit).before a0 Z = true) (w2 : (Cond.instanceMethod Lib.objectInit).before a0 Z = true)
    (w3 : (Cond.code Lib.objectInit object_method_1_code 1 none).before a0 Z = true) (hsize : Ls.size = c.maxLocals) (hd : decode c.code pc = .ok (.invokespecial idx, 3)) (hf : 1 ≤ R.frames) (hW : (rest.map fun v => v.category).sum = W) (hl : W + 12 ≤ R.locals)
    (k : ∀ T', Wk p l e R s m args below meth c Z a0 EL own ws T' h sf lts cells slots → Go p e below P T' (mkF m (pc + 3) Ls rest)) : Go p e below P T (mkF m pc Ls (.ref a :: rest)) := by
  obtain ⟨hx, hEL, vm0, k0, locs, X, eT, hS, hk, hZ, hown, q⟩ := X
  obtain ⟨T', X', e', st'⟩ := Jvm.RoadKit.initO X hx (s := s.setVm vm0) hZ hown w1 w2 w3 eT (g := mkF m pc Ls (.ref a :: rest)) rfl hsize rfl hd hf (W := W) (by rw [← hW]; show 2 * 0 + _ ≤ _; omega) hl
  exact Go.of st' (k T' ⟨hx, hEL, vm0, k0, locs, X', e', hS, hk, hZ, hown, q⟩)

theorem Wk.newO {C : String} {index n : Nat} {st : List Value} (X : Wk p l e R s m args below meth c Z a0 EL own ws T h sf lts cells slots) (w : (Cond.classLink own index C).before a0 Z = true) (wi : (Cond.instantiable C n).before a0 Z = true) (wz : (Cond.initialized C).before a0 Z = true) (hd : decode c.code pc = .ok (.new index, 3)) (hc : cells + 1 ≤ R.cells) (hl : slots + n ≤ R.slots)
    (k : ∀ T' h' a, a = h.size → Wk p l e R s m args below meth c Z a0 EL own ws T' h' (a :: sf) lts (cells + 1) (slots + n) → Ext h h' → Exa Z h' a C → (∀ {O nm d : String} {ty : FieldType}, Laid Z a0 C O nm d → parseFieldDescriptor d = some ty → Fld Z h' a O nm d (defaultValue ty)) → Go p e below P T' (mkF m (pc + 3) Ls (.ref a :: st))) : Go p e below P T (mkF m pc Ls st) := by
  obtain ⟨hx, hEL, vm0, k0, locs, X, eT, hS, hk, hZ, hown, hC, hN, hO, hK, hsf, hlt⟩ := X
  obtain ⟨T', h', X', e', E, A, D, -, st'⟩ := Jvm.RoadKit.newO X hx (s := s.setVm vm0) hZ hown w wi wz eT (g := mkF m pc Ls st) rfl hd hc hl
  exact Go.of st' (k T' h' h.size rfl ⟨hx, hEL, vm0, k0, locs, X', e', hS, Nat.le_trans hk E.1, hZ, hown, hC.trans (CHr.ext E hC.1), hN, ext_trans hO E, hK.ext E, fun x hx => by
    rcases List.mem_cons.mp hx with rfl | hx
    · exact ⟨A.lt, (Safe.new (Nat.le_refl _)).ext E hC.1⟩
    · exact ⟨Nat.lt_of_lt_of_le (hsf x hx).1 E.1, (hsf x hx).2.ext E hC.1⟩, hlt⟩ E A D)

theorem Wk.newP {aty : ArrayType} {n : Int32} {cap : Nat} (X : Wk p l e R s m args below meth c Z a0 EL own ws T h sf lts cells slots) (w : (Cond.arrayClass (newarray.typeOf aty)).before a0 Z = true) (hd : decode c.code pc = .ok (.newarray aty, 2)) (hn : ¬ n < 0) (hcap : n.toNatClampNeg ≤ cap) (hb : cap * 8 ≤ 536870912) (hc : cells + 1 ≤ R.cells) (hl : slots + cap ≤ R.slots)
    (k : ∀ T' h' a kc, a = h.size → Wk p l e R s m args below meth c Z a0 EL own ws T' h' (a :: sf) lts (cells + 1) (slots + cap) → Ext h h' → Arv Z h' a kc (newarray.typeOf aty) n [] (defaultValue (newarray.typeOf aty)) → Go p e below P T' (mkF m (pc + 2) Ls (.ref a :: rest))) : Go p e below P T (mkF m pc Ls (.int n :: rest)) := by
  obtain ⟨hx, hEL, vm0, k0, locs, X, eT, hS, hk, hZ, hown, hC, hN, hO, hK, hsf, hlt⟩ := X
  obtain ⟨T', h', kc, X', e', E, A, st'⟩ := Jvm.RoadKit.newP X hx (s := s.setVm vm0) hZ w eT (g := mkF m pc Ls (.int n :: rest)) rfl hd rfl hn hcap hb hc hl
  exact Go.of st' (k T' h' h.size kc rfl ⟨hx, hEL, vm0, k0, locs, X', e', hS, Nat.le_trans hk E.1, hZ, hown, hC.trans (CHr.ext E hC.1), hN, ext_trans hO E, hK.ext E, fun x hx => by
    rcases List.mem_cons.mp hx with rfl | hx
    · exact ⟨A.lt, (Safe.new (Nat.le_refl _)).ext E hC.1⟩
    · exact ⟨Nat.lt_of_lt_of_le (hsf x hx).1 E.1, (hsf x hx).2.ext E hC.1⟩, hlt⟩ E (Arv.new A hn))

theorem Wk.newR {C : String} {index : Nat} {n : Int32} {cap : Nat} (X : Wk p l e R s m args below meth c Z a0 EL own ws T h sf lts cells slots) (w1 : (Cond.classLink own index C).before a0 Z = true) (w2 : (Cond.arrayOver (.object C)).before a0 Z = true) (hd : decode c.code pc = .ok (.anewarray index, 3)) (hn : ¬ n < 0) (hcap : n.toNatClampNeg ≤ cap) (hb : cap * 8 ≤ 536870912) (hc : cells + 1 ≤ R.cells) (hl : slots + cap ≤ R.slots)
    (k : ∀ T' h' a kc, a = h.size → Wk p l e R s m args below meth c Z a0 EL own ws T' h' (a :: sf) lts (cells + 1) (slots + cap) → Ext h h' → Arv Z h' a kc (.object C) n [] .null → Ovr Z kc C → Go p e below P T' (mkF m (pc + 3) Ls (.ref a :: rest))) : Go p e below P T (mkF m pc Ls (.int n :: rest)) := by
  obtain ⟨hx, hEL, vm0, k0, locs, X, eT, hS, hk, hZ, hown, hC, hN, hO, hK, hsf, hlt⟩ := X
  obtain ⟨T', h', kc, X', e', E, A, O, st'⟩ := Jvm.RoadKit.newR X hx (s := s.setVm vm0) hZ hown w1 w2 eT (g := mkF m pc Ls (.int n :: rest)) rfl hd rfl hn hcap hb hc hl
  exact Go.of st' (k T' h' h.size kc rfl ⟨hx, hEL, vm0, k0, locs, X', e', hS, Nat.le_trans hk E.1, hZ, hown, hC.trans (CHr.ext E hC.1), hN, ext_trans hO E, hK.ext E, fun x hx => by
    rcases List.mem_cons.mp hx with rfl | hx
    · exact ⟨A.lt, (Safe.new (Nat.le_refl _)).ext E hC.1⟩
    · exact ⟨Nat.lt_of_lt_of_le (hsf x hx).1 E.1, (hsf x hx).2.ext E hC.1⟩, hlt⟩ E (Arv.new A hn) O)

/-- behind a write of one place of a -/
theorem Wk.wrote {T' : State} {h' : Heap} {a : Addr} {sl : Nat} {v : Value} {vm0 : Vm} {k0 : Nat} {locs : List Loc} (hx : p.tables.exec = Jvm.exec) (hEL : EW Z a0 EL) (X' : Stand p l e R (s.setVm vm0) m args below meth c T' (locs ++ [⟨a, sl⟩]) cells slots) (e' : T'.heap = h') (W : Wr h h' a sl v) (hS : s.Since vm0 k0) (hk : k0 ≤ h.size) (hZ : Z.Warmed39 vm0) (hown : vm0.findClass own = some m.cls) (hC : CHr Z EL s.vm s.heap vm0 h) (hN : Fr Z.heap.size locs) (hO : Ext Z.heap h) (hK : Keep s.heap h ws) (hsf : ∀ x ∈ sf, x < h.size ∧ Safe Z EL vm0 h x) (hlt : ∀ q ∈ lts, Lit (s.setVm vm0) own q.1 q.2)
    (g1 : Z.heap.size ≤ a) (g2 : a ∈ ws ∨ s.heap.size ≤ a) (g3 : Sfe Z h sf a) : Wk p l e R s m args below meth c Z a0 EL own ws T' h' sf lts cells slots :=
  have S := g3.safe hZ.alike hsf
  ⟨hx, hEL, vm0, k0, _, X', e', hS, by rw [W.size]; exact hk, hZ, hown, hC.trans (CHr.wr W S hC.1), hN.app fun y hy => by cases List.mem_singleton.mp hy; exact g1, ext_keep hO (Keep.of_wr W) (allS g1 all0), hK.wr W g2, fun x hx => ⟨by rw [W.size]; exact (hsf x hx).1, Safe.wr W S hC.1 (hsf x hx).2⟩, hlt⟩

theorem Wk.putF {n d R0 O host C : String} {index kk : Nat} {ty : FieldType} {a : Addr} {v old : Value} (X : Wk p l e R s m args below meth c Z a0 EL own ws T h sf lts cells slots) (w : (Cond.fieldLink own index R0 n d).before a0 Z = true ∨ (Cond.fieldLinkNest own index R0 n d host).before a0 Z = true) (via : Via Z R0 O n d)
    (F : Fld Z h a O n d old) (E : Exa Z h a C) (L : (Cond.lays C O n d).before a0 Z = true ∨ ((Cond.laysFinal C O n d).before a0 Z = true ∧ own = O ∧ meth.name = "<init>")) (wi : (Cond.instantiable C kk).before a0 Z = true) (hty : parseFieldDescriptor d = some ty) (hn : narrow ty v = v) (hf : fits ty v = true)
    (g1 : Z.heap.size ≤ a) (g2 : a ∈ ws ∨ s.heap.size ≤ a) (g3 : Sfe Z h sf a) (hd : decode c.code pc = .ok (.putfield index, 3))
    (k : ∀ T' h', Wk p l e R s m args below meth c Z a0 EL own ws T' h' sf lts cells slots → Keep h h' [a] → Wr h h' a (Jvm.RoadKit.slotOf Z O n d) v → Go p e below P T' (mkF m (pc + 3) Ls rest)) : Go p e below P T (mkF m pc Ls (v :: .ref a :: rest)) := by
  obtain ⟨hx, hEL, vm0, k0, locs, X, eT, hS, hk, hZ, hown, hC, hN, hO, hK, hsf, hlt⟩ := X
  obtain ⟨T', h', X', e', W, st'⟩ := Jvm.RoadKit.putF X hx (s := s.setVm vm0) hZ hown w via eT F E L wi hty hn hf (g := mkF m pc Ls (v :: .ref a :: rest)) rfl rfl hd
  exact Go.of st' (k T' h' (Wk.wrote hx hEL X' e' W hS hk hZ hown hC hN hO hK hsf hlt g1 g2 g3) (Keep.of_wr W) W)
theorem Wk.putFN {n d R0 O C : String} {index kk : Nat} {ty : FieldType} {a : Addr} {v v' old : Value} (X : Wk p l e R s m args below meth c Z a0 EL own ws T h sf lts cells slots) (w : (Cond.fieldLink own index R0 n d).before a0 Z = true) (via : Via Z R0 O n d)
    (F : Fld Z h a O n d old) (E : Exa Z h a C) (L : (Cond.lays C O n d).before a0 Z = true ∨ ((Cond.laysFinal C O n d).before a0 Z = true ∧ own = O ∧ meth.name = "<init>")) (wi : (Cond.instantiable C kk).before a0 Z = true) (hty : parseFieldDescriptor d = some ty) (hn : narrow ty v = v') (hf : fits ty v' = true)
    (g1 : Z.heap.size ≤ a) (g2 : a ∈ ws ∨ s.heap.size ≤ a) (g3 : Sfe Z h sf a) (hd : decode c.code pc = .ok (.putfield index, 3))
    (k : ∀ T' h', Wk p l e R s m args below meth c Z a0 EL own ws T' h' sf lts cells slots → Keep h h' [a] → Wr h h' a (Jvm.RoadKit.slotOf Z O n d) v' → Go p e below P T' (mkF m (pc + 3) Ls rest)) : Go p e below P T (mkF m pc Ls (v :: .ref a :: rest)) := by
  obtain ⟨hx, hEL, vm0, k0, locs, X, eT, hS, hk, hZ, hown, hC, hN, hO, hK, hsf, hlt⟩ := X
  obtain ⟨T', h', X', e', W, st'⟩ := Jvm.RoadKit.putFN X hx (s := s.setVm vm0) hZ hown w via eT F E L wi hty hn hf (g := mkF m pc Ls (v :: .ref a :: rest)) rfl rfl hd
  exact Go.of st' (k T' h' (Wk.wrote hx hEL X' e' W hS hk hZ hown hC hN hO hK hsf hlt g1 g2 g3) (Keep.of_wr W) W)

theorem Wk.stC {a : Addr} {kc : ClassId} {z j x : Int32} {vs : List Value} {dv : Value} (i : Nat) (X : Wk p l e R s m args below meth c Z a0 EL own ws T h sf lts cells slots) (A : Arv Z h a kc .char z vs dv) (hj : ¬ j < 0 ∧ j < z) (hi : j.toNatClampNeg = i) (hl : i < vs.length)
    (g1 : Z.heap.size ≤ a) (g2 : a ∈ ws ∨ s.heap.size ≤ a) (hd : decode c.code pc = .ok (.castore, 1))
    (k : ∀ T' h', Wk p l e R s m args below meth c Z a0 EL own ws T' h' sf lts cells slots → Keep h h' [a] → Arv Z h' a kc .char z (vs.set i (.int (nar .char x))) dv → Go p e below P T' (mkF m (pc + 1) Ls rest)) : Go p e below P T (mkF m pc Ls (.int x :: .int j :: .ref a :: rest)) := by
  have g3 : Sfe Z h sf a := Sfe.arv A
  obtain ⟨hx, hEL, vm0, k0, locs, X, eT, hS, hk, hZ, hown, hC, hN, hO, hK, hsf, hlt⟩ := X
  obtain ⟨cl, A1, A2, A3, A4, A5, A6⟩ := A
  obtain ⟨T', h', X', e', W, st'⟩ := Jvm.RoadKit.stC X hx (s := s.setVm vm0) hZ eT A1 (inb_of A3 hj) (g := mkF m pc Ls (.int x :: .int j :: .ref a :: rest)) rfl rfl hd
  exact Go.of st' (k T' h' (Wk.wrote hx hEL X' e' W hS hk hZ hown hC hN hO hK hsf hlt g1 g2 g3) (Keep.of_wr W) (Arv.set A1 A2 A3 A4 A5 A6 (fits_nar_char _) W i hi hl))
theorem Wk.stB {a : Addr} {kc : ClassId} {z j x : Int32} {vs : List Value} {dv : Value} (i : Nat) (X : Wk p l e R s m args below meth c Z a0 EL own ws T h sf lts cells slots) (A : Arv Z h a kc .byte z vs dv) (hj : ¬ j < 0 ∧ j < z) (hi : j.toNatClampNeg = i) (hl : i < vs.length)
    (g1 : Z.heap.size ≤ a) (g2 : a ∈ ws ∨ s.heap.size ≤ a) (g3 : Sfe Z h sf a) (hd : decode c.code pc = .ok (.bastore, 1))
    (k : ∀ T' h', Wk p l e R s m args below meth c Z a0 EL own ws T' h' sf lts cells slots → Keep h h' [a] → Arv Z h' a kc .byte z (vs.set i (.int (nar .byte x))) dv → Go p e below P T' (mkF m (pc + 1) Ls rest)) : Go p e below P T (mkF m pc Ls (.int x :: .int j :: .ref a :: rest)) := by
  obtain ⟨hx, hEL, vm0, k0, locs, X, eT, hS, hk, hZ, hown, hC, hN, hO, hK, hsf, hlt⟩ := X
  obtain ⟨cl, A1, A2, A3, A4, A5, A6⟩ := A
  obtain ⟨T', h', X', e', W, st'⟩ := Jvm.RoadKit.stB X hx (s := s.setVm vm0) hZ eT A1 (inb_of A3 hj) (g := mkF m pc Ls (.int x :: .int j :: .ref a :: rest)) rfl rfl hd
  exact Go.of st' (k T' h' (Wk.wrote hx hEL X' e' W hS hk hZ hown hC hN hO hK hsf hlt g1 g2 g3) (Keep.of_wr W) (Arv.set A1 A2 A3 A4 A5 A6 (fits_nar_byte _) W i hi hl))

theorem Wk.ldC {a : Addr} {kc : ClassId} {z j : Int32} {v : Value} {vs : List Value} {dv : Value} (X : Wk p l e R s m args below meth c Z a0 EL own ws T h sf lts cells slots) (A : Arv Z h a kc .char z vs dv) (hj : ¬ j < 0 ∧ j < z) (hv : vs.getD j.toNatClampNeg dv = v) (hd : decode c.code pc = .ok (.caload, 1))
    (k : Go p e below P T (mkF m (pc + 1) Ls (v :: rest))) : Go p e below P T (mkF m pc Ls (.int j :: .ref a :: rest)) := by
  obtain ⟨hx, hEL, vm0, k0, locs, X, eT, hS, hk, hZ, q⟩ := X
  obtain ⟨cl, A1, A2, A3, A4, A5, A6⟩ := A
  exact Go.of (fun t k => X.caload hx (by rw [eT]; exact A1.1) (State.isArrayOf_alike hZ.alike A1.2.1) A1.2.2 (inb_of A3 hj) (A5.at (inb_of A3 hj) hv) (g := mkF m pc Ls (.int j :: .ref a :: rest)) rfl rfl hd t k) k
theorem Wk.ldB {a : Addr} {kc : ClassId} {z j : Int32} {v : Value} {vs : List Value} {dv : Value} (X : Wk p l e R s m args below meth c Z a0 EL own ws T h sf lts cells slots) (A : Arv Z h a kc .byte z vs dv) (hj : ¬ j < 0 ∧ j < z) (hv : vs.getD j.toNatClampNeg dv = v) (hd : decode c.code pc = .ok (.baload, 1))
    (k : Go p e below P T (mkF m (pc + 1) Ls (v :: rest))) : Go p e below P T (mkF m pc Ls (.int j :: .ref a :: rest)) := by
  obtain ⟨hx, hEL, vm0, k0, locs, X, eT, hS, hk, hZ, q⟩ := X
  obtain ⟨cl, A1, A2, A3, A4, A5, A6⟩ := A
  exact Go.of (fun t k => X.baloadBytes hx (by rw [eT]; exact A1.1) (State.isArrayOf_alike hZ.alike A1.2.1) A1.2.2 (inb_of A3 hj) (A5.at (inb_of A3 hj) hv) (g := mkF m pc Ls (.int j :: .ref a :: rest)) rfl rfl hd t k) k
theorem Wk.ldR {a : Addr} {kc : ClassId} {ty : FieldType} {z j : Int32} {v : Value} {vs : List Value} {dv : Value} (X : Wk p l e R s m args below meth c Z a0 EL own ws T h sf lts cells slots) (A : Arv Z h a kc ty z vs dv) (hty : ty.isReference = true) (hj : ¬ j < 0 ∧ j < z) (hv : vs.getD j.toNatClampNeg dv = v) (hd : decode c.code pc = .ok (.aaload, 1))
    (k : Go p e below P T (mkF m (pc + 1) Ls (v :: rest))) : Go p e below P T (mkF m pc Ls (.int j :: .ref a :: rest)) := by
  obtain ⟨hx, hEL, vm0, k0, locs, X, eT, hS, hk, hZ, q⟩ := X
  obtain ⟨cl, A1, A2, A3, A4, A5, A6⟩ := A
  exact Go.of (fun t k => X.aaload hx (by rw [eT]; exact A1.1) (State.isArrayOf_alike hZ.alike A1.2.1) hty A1.2.2 (inb_of A3 hj) (A5.at (inb_of A3 hj) hv) (g := mkF m pc Ls (.int j :: .ref a :: rest)) rfl rfl hd t k) k
theorem Wk.len {a : Addr} {kc : ClassId} {ty : FieldType} {z : Int32} {vs : List Value} {dv : Value} (X : Wk p l e R s m args below meth c Z a0 EL own ws T h sf lts cells slots) (A : Arv Z h a kc ty z vs dv) (hd : decode c.code pc = .ok (.arraylength, 1))
    (k : Go p e below P T (mkF m (pc + 1) Ls (.int z :: rest))) : Go p e below P T (mkF m pc Ls (.ref a :: rest)) := by
  obtain ⟨hx, hEL, vm0, k0, locs, X, eT, hS, hk, hZ, q⟩ := X
  obtain ⟨cl, A1, A2, A3, A4, A5, A6⟩ := A
  refine Go.of (fun t k => X.arraylength hx (by rw [eT]; exact A1.1) (State.isArrayOf_alike hZ.alike A1.2.1) (g := mkF m pc Ls (.ref a :: rest)) rfl rfl hd t k) ?_
  rw [len_of A3 A4]
  exact k

/-- ldc of a String constant of EL, read -/
theorem Wk.ldcR {index n : Nat} {text : String} {vs : List Value} {z : Int32} {st : List Value} (X : Wk p l e R s m args below meth c Z a0 EL own ws T h sf lts cells slots) (w : (Cond.stringLink own index text).before a0 Z = true) (wS : ∀ a ∈ Bundle.stringAtoms, a.before a0 Z = true) (hmem : (own, index) ∈ EL)
    (ht : (∀ c ∈ text.toList, c.toNat < 256) ∧ text.toList.map (fun c => Value.int (Jvm.Lit.byteI c.toNat.toUInt16)) = vs) (hz : ¬ z < 0) (hl : z.toNatClampNeg = vs.length) (hd : decode c.code pc = .ok (.ldc index, 2)) (hn : 4 * text.toList.length ≤ n) (hbig : n ≤ 536870912) (hc : cells + 2 ≤ R.cells) (hl' : slots + (n + 4) ≤ R.slots)
    (k : ∀ (T' : State) (h' : Heap) (a b : Nat) (kb : ClassId), Wk p l e R s m args below meth c Z a0 EL own ws T' h' sf [(index, a)] (cells + 2) (slots + (n + 4)) → Ext h h' → Exa Z h' a "java/lang/String" → Fld Z h' a "java/lang/String" "coder" "B" (.int 0) → Fld Z h' a "java/lang/String" "value" "[B" (.ref b) → Arv Z h' b kb .byte z vs (.int 0) → (∀ x ∈ sf, x ≠ a ∧ x ≠ b) → Go p e below P T' (mkF m (pc + 2) Ls (.ref a :: st))) : Go p e below P T (mkF m pc Ls st) := by
  obtain ⟨hx, hEL, vm0, k0, locs, X, eT, hS, hk, hZ, hown, hC, hN, hO, hK, hsf, hlt⟩ := X
  obtain ⟨a, T', h', k1, b, kb, X', e', E, hS', hk', hZ', hown', A1, A2, A3, A4, -, -, hC', hL, hne, st'⟩ := ldcCH X hx hZ hown w wS eT hS hk hEL hmem hC.1 ht hz hl (g := mkF m pc Ls st) rfl hd hn hbig hc hl'
  have hls : ∀ x ∈ sf, x < h'.size ∧ Safe Z EL T'.vm h' x := fun x hx => ⟨Nat.lt_of_lt_of_le (hsf x hx).1 E.1, hC'.safe (hsf x hx).1 (hsf x hx).2⟩
  exact Go.of st' (k T' h' a b kb ⟨hx, hEL, T'.vm, k1, locs, X', e', hS', hk', hZ', hown', hC.trans hC', hN, ext_trans hO E, hK.ext E, hls, fun q hq => by rw [List.mem_singleton.mp hq]; exact hL⟩ E A1 A2 A3 A4 fun x hx => hne x (hls x hx).2)
/-- ldc of a String constant, opaque -/
theorem Wk.ldcO {index n : Nat} {text : String} {st : List Value} (X : Wk p l e R s m args below meth c Z a0 EL own ws T h sf lts cells slots) (w : (Cond.stringLink own index text).before a0 Z = true) (wS : ∀ a ∈ Bundle.stringAtoms, a.before a0 Z = true)
    (hd : decode c.code pc = .ok (.ldc index, 2)) (hn : 4 * text.toList.length ≤ n) (hbig : n ≤ 536870912) (hc : cells + 2 ≤ R.cells) (hl' : slots + (n + 4) ≤ R.slots)
    (k : ∀ (T' : State) (h' : Heap) (a : Nat), Wk p l e R s m args below meth c Z a0 EL own ws T' h' sf [(index, a)] (cells + 2) (slots + (n + 4)) → Ext h h' → Go p e below P T' (mkF m (pc + 2) Ls (.ref a :: st))) : Go p e below P T (mkF m pc Ls st) := by
  obtain ⟨hx, hEL, vm0, k0, locs, X, eT, hS, hk, hZ, hown, hC, hN, hO, hK, hsf, hlt⟩ := X
  obtain ⟨a, T', h', k1, X', e', E, hS', hk', hZ', hown', hC', hL, st'⟩ := ldcOH X hx hZ hown w wS eT hS hk hEL hC.1 (g := mkF m pc Ls st) rfl hd hn hbig hc hl'
  exact Go.of st' (k T' h' a ⟨hx, hEL, T'.vm, k1, locs, X', e', hS', hk', hZ', hown', hC.trans hC', hN, ext_trans hO E, hK.ext E, fun x hx => ⟨Nat.lt_of_lt_of_le (hsf x hx).1 E.1, hC'.safe (hsf x hx).1 (hsf x hx).2⟩, fun q hq => by rw [List.mem_singleton.mp hq]; exact hL⟩ E)

/-- ldc of a constant that this method has loaded already -/
theorem Wk.ldcA {index : Nat} {text : String} {a : Addr} {st : List Value} (X : Wk p l e R s m args below meth c Z a0 EL own ws T h sf lts cells slots) (w : (Cond.stringLink own index text).before a0 Z = true) (hq : (index, a) ∈ lts)
    (hd : decode c.code pc = .ok (.ldc index, 2)) (k : Go p e below P T (mkF m (pc + 2) Ls (.ref a :: st))) : Go p e below P T (mkF m pc Ls st) := by
  obtain ⟨hx, hEL, vm0, k0, locs, X, eT, hS, hk, hZ, hown, hC, hN, hO, hK, hsf, hlt⟩ := X
  exact Go.of (ldcAgain X hx hZ hown w (hlt _ hq) (g := mkF m pc Ls st) rfl hd) k

/-- a callee's contract pays the call -/
theorem pay {y : MethodName} {bytes : ByteArray} {maxL : Nat} {ret : Option FieldType} {rm : Room} {len W : Nat} {as' : Array Value} {ws' si : List Addr} {Q : Option Value → (Addr → Prop) → Heap → Prop} {vm0 : Vm}
    (hM : Met l Z EL y bytes maxL ret rm as' h ws' si Q) (hZ : Z.Warmed39 vm0) (wc : (Cond.code y bytes maxL ret).before a0 Z = true) (wz : (Cond.initialized y.cls).before a0 Z = true) (hf : rm.frames + 1 ≤ R.frames) (hl : W + (maxL + 11) + rm.locals ≤ R.locals) (hEL : EW Z a0 EL) (H : CHv Z EL vm0 h) (hO : Ext Z.heap h) (hsi : ∀ x ∈ si, x < h.size ∧ Safe Z EL vm0 h x) :
    BackS l R p e below (s.setVm vm0) args y len W (fun A a => a = as' ∧ A.U.heap = h ∧ A.cells + rm.cells ≤ R.cells ∧ A.slots + rm.slots ≤ R.slots)
      (fun A _ v B => ∃ L, (Q v (Safe Z EL B.U.vm B.U.heap) B.U.heap ∧ Fr Z.heap.size L ∧ Ext Z.heap B.U.heap ∧ Keep h B.U.heap ws') ∧ B.locs = A.locs ++ L ∧ B.cells = A.cells + rm.cells ∧ B.slots = A.slots + rm.slots ∧ CHr Z EL vm0 h B.U.vm B.U.heap) :=
  BackS.of_freeW (bytes := bytes) (maxL := maxL) (ret := ret) (E := fun _ first o t L k n => k = rm.cells ∧ n = rm.slots ∧ (∃ v, o = .returned v ∧ (Q v (Safe Z EL t.vm t.heap) t.heap ∧ Fr Z.heap.size L ∧ Ext Z.heap t.heap ∧ Keep first.heap t.heap ws')) ∧ CHr Z EL first.vm first.heap t.vm t.heap) (hM []) hf hl
    (fun m meth c A a Y hp => have hU : Z.Warmed39 A.U.vm := wtrans (s := s.setVm vm0) hZ Y.warmed
      ⟨by show (Cond.and _ .tt).before a A.U = true; rw [Cond.before_and, mv hU wc]; rfl, mv hU wc, mv hU wz, hp.2.2.1, hp.2.2.2⟩)
    (fun m meth c A a g mk Y hp => ⟨hp.1, wtrans (s := s.setVm vm0) hZ Y.warmed, hp.2.1, (CHv.at Y hZ hEL H).1, hO, fun x hx => ⟨(hsi x hx).1, safe_any (CHv.at Y hZ hEL H) (hsi x hx).2⟩⟩) (fun _ _ _ _ _ _ _ _ _ => trivial)
    (fun _ _ _ _ ⟨v, L, h1, h2, h3, h4⟩ => ⟨L, _, _, h4, rfl, rfl, ⟨v, h1, h2⟩, h3⟩)
    (fun m meth c A a g mk v t L k n Y hp _ _ ⟨e1, e2, ⟨v', e3, e4, e5, e6, e7⟩, e8⟩ => by
      cases e3; subst e1 e2
      have eh : A.U.heap = h := hp.2.1
      refine ⟨L, ⟨e4, e5, e6, ?_⟩, rfl, rfl, rfl, (CHv.at Y hZ hEL H).trans ?_⟩
      · rw [← eh]; exact e7
      · rw [← eh]; exact e8)

/-- behind a call that may have interned -/
theorem Wk.back {T' : State} {ws' : List Addr} {vm0 : Vm} {k0 : Nat} {locs L : List Loc} {cells' slots' : Nat} (hx : p.tables.exec = Jvm.exec) (hEL : EW Z a0 EL) (hS : s.Since vm0 k0) (hk : k0 ≤ h.size) (hZ : Z.Warmed39 vm0) (hown : vm0.findClass own = some m.cls) (hC : CHr Z EL s.vm s.heap vm0 h) (hN : Fr Z.heap.size locs) (hO : Ext Z.heap T'.heap) (hK : Keep s.heap h ws) (hsf : ∀ x ∈ sf, x < h.size ∧ Safe Z EL vm0 h x) (hlt : ∀ q ∈ lts, Lit (s.setVm vm0) own q.1 q.2)
    (X' : Stand p l e R ((s.setVm vm0).setVm T'.vm) m args below meth c T' (locs ++ L) cells' slots') (hS' : (s.setVm vm0).Since T'.vm T'.heap.size) (hL : Fr Z.heap.size L) (hK' : Keep h T'.heap ws') (hC' : CHr Z EL vm0 h T'.vm T'.heap) (hws : ∀ x ∈ ws', x ∈ ws ∨ s.heap.size ≤ x) (sf' : List Addr) (hsf' : ∀ x ∈ sf', x < T'.heap.size ∧ Safe Z EL T'.vm T'.heap x) :
    Wk p l e R s m args below meth c Z a0 EL own ws T' T'.heap (sf' ++ sf) lts cells' slots' := by
  obtain ⟨X2, h2, h3, h4⟩ := rebS hS hk X' hS' hK'.1 hZ hown
  refine ⟨hx, hEL, T'.vm, _, locs ++ L, X2, rfl, h2, Nat.le_refl _, h3, h4, hC.trans hC', hN.app hL, hO, hK.trans hK' hws, fun x hx => ?_, fun q hq => (hlt q hq).stays hS'.1⟩
  rcases List.mem_append.mp hx with q | q
  · exact hsf' x q
  · exact ⟨Nat.lt_of_lt_of_le (hsf x q).1 hK'.1, hC'.safe (hsf x q).1 (hsf x q).2⟩

theorem sfe_all {vm : Vm} {si : List Addr} (hal : Z.vm.Alike vm) (hsf : ∀ x ∈ sf, x < h.size ∧ Safe Z EL vm h x) (q : ∀ x ∈ si, Sfe Z h sf x) : ∀ x ∈ si, x < h.size ∧ Safe Z EL vm h x := fun x hx => ⟨by
  rcases q x hx with r | ⟨C, E, -⟩ | ⟨cl, ty, A, -⟩
  · exact (hsf x r).1
  · exact E.lt
  · exact A.lt, (q x hx).safe hal hsf⟩

theorem Wk.callS {index W maxL : Nat} {y : MethodName} {bytes : ByteArray} {ret : Option FieldType} {rm : Room} {ws' si : List Addr} {Q : Option Value → (Addr → Prop) → Heap → Prop} {argsL stk : List Value} {ps : List FieldType} {r : Option FieldType} (X : Wk p l e R s m args below meth c Z a0 EL own ws T h sf lts cells slots)
    (w1 : (Cond.methodLink own index y).before a0 Z = true) (w2 : (Cond.static y).before a0 Z = true) (w3 : (Cond.initialized y.cls).before a0 Z = true) (w4 : (Cond.code y bytes maxL ret).before a0 Z = true) (hy : y.cls ≠ "java/lang/invoke/MethodHandle" ∧ y.cls ≠ "java/lang/invoke/VarHandle")
    (hM : Met l Z EL y bytes maxL ret rm argsL.toArray h ws' si Q) (hpd : parseMethodDescriptor y.desc = some ⟨ps, r⟩) (hlen : argsL.length = ps.length) (hst : stk = argsL.reverse ++ rest) (hW : (rest.map fun v => v.category).sum = W) (hsize : Ls.size = c.maxLocals) (hf : rm.frames + 1 ≤ R.frames) (hlo : W + (maxL + 11) + rm.locals ≤ R.locals) (hce : cells + rm.cells ≤ R.cells) (hsl : slots + rm.slots ≤ R.slots)
    (hd : decode c.code pc = .ok (.invokestatic index, 3)) (hws : ∀ x ∈ ws', x ∈ ws ∨ s.heap.size ≤ x) (hsi : ∀ x ∈ si, Sfe Z h sf x)
    (k : ∀ v T' h' (S : Addr → Prop), (∀ sf', (∀ x ∈ sf', x < h'.size ∧ S x) → Wk p l e R s m args below meth c Z a0 EL own ws T' h' (sf' ++ sf) lts (cells + rm.cells) (slots + rm.slots)) → Keep h h' ws' → Q v S h' → Go p e below P T' (mkF m (pc + 3) Ls (v.toList ++ rest))) : Go p e below P T (mkF m pc Ls stk) := by
  subst hst
  obtain ⟨hx, hEL, vm0, k0, locs, X, eT, hS, hk, hZ, hown, hC, hN, hO, hK, hsf, hlt⟩ := X
  obtain ⟨v, _, ⟨T', L', k', n'⟩, -, X', hS', -, ⟨L, ⟨hQ, hL, hO', hK'⟩, l1, l2, l3, hC'⟩, st⟩ := callSS X hx (y := y) hown (mvT (s := s.setVm vm0) hZ w1) (mvT (s := s.setVm vm0) hZ w2) (mvT (s := s.setVm vm0) hZ w3) (mvT (s := s.setVm vm0) hZ w4) hy (pay (W := W) hM hZ w4 w3 hf hlo hEL hC.1 hO (sfe_all hZ.alike hsf hsi)) (g := mkF m pc Ls (argsL.reverse ++ rest)) rfl hsize (argsL := argsL) (rest := rest) (lenOf hpd hlen) rfl (by rw [← hW]; show 2 * 0 + _ ≤ _; omega) hd (fun _ _ => ⟨rfl, eT, hce, hsl⟩)
  dsimp only [Pt.U, Pt.locs, Pt.cells, Pt.slots] at X' hS' hQ hO' hK' l1 l2 l3 hC' st
  subst l1 l2 l3
  exact Go.of (fun t q => st.trans q) (k v T' T'.heap _ (fun sf' q => Wk.back hx hEL hS hk hZ hown hC hN hO' hK hsf hlt X' hS' hL hK' hC' hws sf' q) hK' hQ)

theorem Wk.callC {index W maxL : Nat} {y : MethodName} {bytes : ByteArray} {rm : Room} {ws' si : List Addr} {Q : Option Value → (Addr → Prop) → Heap → Prop} {a : Addr} {argsL stk : List Value} {ps : List FieldType} {r : Option FieldType} (X : Wk p l e R s m args below meth c Z a0 EL own ws T h sf lts cells slots) (hy1 : y.name = "<init>")
    (w1 : (Cond.methodLink own index y).before a0 Z = true) (w2 : (Cond.instanceMethod y).before a0 Z = true) (w3 : (Cond.initialized y.cls).before a0 Z = true) (w4 : (Cond.code y bytes maxL none).before a0 Z = true) (hy : y.cls ≠ "java/lang/invoke/MethodHandle" ∧ y.cls ≠ "java/lang/invoke/VarHandle")
    (hM : Met l Z EL y bytes maxL none rm (.ref a :: argsL).toArray h ws' si Q) (hpd : parseMethodDescriptor y.desc = some ⟨ps, r⟩) (hlen : argsL.length = ps.length) (hst : stk = argsL.reverse ++ .ref a :: rest) (hW : (rest.map fun v => v.category).sum = W) (hsize : Ls.size = c.maxLocals) (hf : rm.frames + 1 ≤ R.frames) (hlo : W + (maxL + 11) + rm.locals ≤ R.locals) (hce : cells + rm.cells ≤ R.cells) (hsl : slots + rm.slots ≤ R.slots)
    (hd : decode c.code pc = .ok (.invokespecial index, 3)) (hws : ∀ x ∈ ws', x ∈ ws ∨ s.heap.size ≤ x) (hsi : ∀ x ∈ si, Sfe Z h sf x)
    (k : ∀ v T' h' (S : Addr → Prop), (∀ sf', (∀ x ∈ sf', x < h'.size ∧ S x) → Wk p l e R s m args below meth c Z a0 EL own ws T' h' (sf' ++ sf) lts (cells + rm.cells) (slots + rm.slots)) → Keep h h' ws' → Q v S h' → Go p e below P T' (mkF m (pc + 3) Ls (v.toList ++ rest))) : Go p e below P T (mkF m pc Ls stk) := by
  subst hst
  obtain ⟨hx, hEL, vm0, k0, locs, X, eT, hS, hk, hZ, hown, hC, hN, hO, hK, hsf, hlt⟩ := X
  obtain ⟨v, _, ⟨T', L', k', n'⟩, -, X', hS', -, ⟨L, ⟨hQ, hL, hO', hK'⟩, l1, l2, l3, hC'⟩, st⟩ := X.specialBackS hx (y := y) hy1 hown (mvT (s := s.setVm vm0) hZ w1) (mvT (s := s.setVm vm0) hZ w2) (mvT (s := s.setVm vm0) hZ w4) hy (pay (W := W) hM hZ w4 w3 hf hlo hEL hC.1 hO (sfe_all hZ.alike hsf hsi)) (g := mkF m pc Ls (argsL.reverse ++ .ref a :: rest)) rfl hsize (Steps.refl _) (a := a) (argsL := argsL) (rest := rest) (lenOf hpd hlen) rfl (by rw [← hW]; show 2 * 0 + _ ≤ _; omega) hd (fun _ _ => ⟨rfl, eT, hce, hsl⟩)
  dsimp only [Pt.U, Pt.locs, Pt.cells, Pt.slots] at X' hS' hQ hO' hK' l1 l2 l3 hC' st
  subst l1 l2 l3
  exact Go.of (fun t q => st.trans q) (k v T' T'.heap _ (fun sf' q => Wk.back hx hEL hS hk hZ hown hC hN hO' hK hsf hlt X' hS' hL hK' hC' hws sf' q) hK' hQ)

theorem Wk.callV {index W maxL : Nat} {C : String} {y z : MethodName} {bytes : ByteArray} {ret : Option FieldType} {rm : Room} {ws' si : List Addr} {Q : Option Value → (Addr → Prop) → Heap → Prop} {a : Addr} {argsL stk : List Value} {ps : List FieldType} {r : Option FieldType} (X : Wk p l e R s m args below meth c Z a0 EL own ws T h sf lts cells slots)
    (w1 : (Cond.methodLink own index y).before a0 Z = true) (w2 : (Cond.declares y).before a0 Z = true) (nf : ∀ s' : State, Z.Warmed39 s'.vm → NotFace s' y) (w3 : (Cond.selects C y z).before a0 Z = true) (w4 : (Cond.instanceMethod z).before a0 Z = true) (w5 : (Cond.initialized z.cls).before a0 Z = true) (w6 : (Cond.code z bytes maxL ret).before a0 Z = true) (hy : y.cls ≠ "java/lang/invoke/MethodHandle" ∧ y.cls ≠ "java/lang/invoke/VarHandle")
    (hM : Met l Z EL z bytes maxL ret rm (.ref a :: argsL).toArray h ws' si Q) (E : Exa Z h a C) (hpd : parseMethodDescriptor y.desc = some ⟨ps, r⟩) (hlen : argsL.length = ps.length) (hst : stk = argsL.reverse ++ .ref a :: rest) (hW : (rest.map fun v => v.category).sum = W) (hsize : Ls.size = c.maxLocals) (hf : rm.frames + 1 ≤ R.frames) (hlo : W + (maxL + 11) + rm.locals ≤ R.locals) (hce : cells + rm.cells ≤ R.cells) (hsl : slots + rm.slots ≤ R.slots)
    (hd : decode c.code pc = .ok (.invokevirtual index, 3)) (hws : ∀ x ∈ ws', x ∈ ws ∨ s.heap.size ≤ x) (hsi : ∀ x ∈ si, Sfe Z h sf x)
    (k : ∀ v T' h' (S : Addr → Prop), (∀ sf', (∀ x ∈ sf', x < h'.size ∧ S x) → Wk p l e R s m args below meth c Z a0 EL own ws T' h' (sf' ++ sf) lts (cells + rm.cells) (slots + rm.slots)) → Keep h h' ws' → Q v S h' → Go p e below P T' (mkF m (pc + 3) Ls (v.toList ++ rest))) : Go p e below P T (mkF m pc Ls stk) := by
  subst hst
  obtain ⟨hx, hEL, vm0, k0, locs, X, eT, hS, hk, hZ, hown, hC, hN, hO, hK, hsf, hlt⟩ := X
  obtain ⟨cq, kq, qa, qb, qc⟩ := isOf (s := s.setVm vm0) hZ eT E
  obtain ⟨v, _, ⟨T', L', k', n'⟩, -, X', hS', -, ⟨L, ⟨hQ, hL, hO', hK'⟩, l1, l2, l3, hC'⟩, st⟩ := X.virtualBackS hx (y := y) (z := z) hown (mvT (s := s.setVm vm0) hZ w1) (mvT (s := s.setVm vm0) hZ w2) (nf _ hZ) (mvT (s := s.setVm vm0) hZ w3) (mvT (s := s.setVm vm0) hZ w4) hy (pay (W := W) hM hZ w6 w5 hf hlo hEL hC.1 hO (sfe_all hZ.alike hsf hsi)) qa qc (g := mkF m pc Ls (argsL.reverse ++ .ref a :: rest)) rfl hsize (Steps.refl _) (argsL := argsL) (rest := rest) (lenOf hpd hlen) rfl (by rw [← hW]; show 2 * 0 + _ ≤ _; omega) hd (fun _ _ => ⟨rfl, eT, hce, hsl⟩)
  dsimp only [Pt.U, Pt.locs, Pt.cells, Pt.slots] at X' hS' hQ hO' hK' l1 l2 l3 hC' st
  subst l1 l2 l3
  exact Go.of (fun t q => st.trans q) (k v T' T'.heap _ (fun sf' q => Wk.back hx hEL hS hk hZ hown hC hN hO' hK hsf hlt X' hS' hL hK' hC' hws sf' q) hK' hQ)

theorem Wk.callI {index count W maxL : Nat} {C : String} {y z : MethodName} {bytes : ByteArray} {ret : Option FieldType} {rm : Room} {ws' si : List Addr} {Q : Option Value → (Addr → Prop) → Heap → Prop} {a : Addr} {argsL stk : List Value} {ps : List FieldType} {r : Option FieldType} (X : Wk p l e R s m args below meth c Z a0 EL own ws T h sf lts cells slots)
    (w1 : (Cond.methodLink own index y).before a0 Z = true) (w2 : (Cond.declares y).before a0 Z = true) (w3 : ∀ (s' : State) (args' : Array Value), Z.Warmed39 s'.vm → (Cond.interfaceMethod y.cls y.cls y.name y.desc).before args' s' = true) (w4 : (Cond.selects C y z).before a0 Z = true) (w5 : (Cond.instanceMethod z).before a0 Z = true) (w6 : (Cond.publicMethod z).before a0 Z = true) (w7 : (Cond.unhidden C y.name y.desc).before a0 Z = true) (w8 : (Cond.castable C y.cls).before a0 Z = true) (w9 : (Cond.initialized z.cls).before a0 Z = true) (w10 : (Cond.code z bytes maxL ret).before a0 Z = true) (hy : y.cls ≠ "java/lang/invoke/MethodHandle" ∧ y.cls ≠ "java/lang/invoke/VarHandle")
    (hM : Met l Z EL z bytes maxL ret rm (.ref a :: argsL).toArray h ws' si Q) (E : Exa Z h a C) (hpd : parseMethodDescriptor y.desc = some ⟨ps, r⟩) (hlen : argsL.length = ps.length) (hst : stk = argsL.reverse ++ .ref a :: rest) (hW : (rest.map fun v => v.category).sum = W) (hsize : Ls.size = c.maxLocals) (hf : rm.frames + 1 ≤ R.frames) (hlo : W + (maxL + 11) + rm.locals ≤ R.locals) (hce : cells + rm.cells ≤ R.cells) (hsl : slots + rm.slots ≤ R.slots)
    (hd : decode c.code pc = .ok (.invokeinterface index count, 5)) (hws : ∀ x ∈ ws', x ∈ ws ∨ s.heap.size ≤ x) (hsi : ∀ x ∈ si, Sfe Z h sf x)
    (k : ∀ v T' h' (S : Addr → Prop), (∀ sf', (∀ x ∈ sf', x < h'.size ∧ S x) → Wk p l e R s m args below meth c Z a0 EL own ws T' h' (sf' ++ sf) lts (cells + rm.cells) (slots + rm.slots)) → Keep h h' ws' → Q v S h' → Go p e below P T' (mkF m (pc + 5) Ls (v.toList ++ rest))) : Go p e below P T (mkF m pc Ls stk) := by
  subst hst
  obtain ⟨hx, hEL, vm0, k0, locs, X, eT, hS, hk, hZ, hown, hC, hN, hO, hK, hsf, hlt⟩ := X
  obtain ⟨cq, kq, qa, qb, qc⟩ := isOf (s := s.setVm vm0) hZ eT E
  obtain ⟨v, _, ⟨T', L', k', n'⟩, -, X', hS', -, ⟨L, ⟨hQ, hL, hO', hK'⟩, l1, l2, l3, hC'⟩, st⟩ := X.interfaceBackS hx (xi := y) (y := z) hown (mvT (s := s.setVm vm0) hZ w1) (mvT (s := s.setVm vm0) hZ w2) (w3 _ _ hZ) (mvT (s := s.setVm vm0) hZ w4) (mvT (s := s.setVm vm0) hZ w5) (mvT (s := s.setVm vm0) hZ w6) (mvT (s := s.setVm vm0) hZ w7) (mvT (s := s.setVm vm0) hZ w8) hy (pay (W := W) hM hZ w10 w9 hf hlo hEL hC.1 hO (sfe_all hZ.alike hsf hsi)) qa qb qc (g := mkF m pc Ls (argsL.reverse ++ .ref a :: rest)) rfl hsize (Steps.refl _) (argsL := argsL) (rest := rest) (lenOf hpd hlen) rfl (by rw [← hW]; show 2 * 0 + _ ≤ _; omega) hd (fun _ _ => ⟨rfl, eT, hce, hsl⟩)
  dsimp only [Pt.U, Pt.locs, Pt.cells, Pt.slots] at X' hS' hQ hO' hK' l1 l2 l3 hC' st
  subst l1 l2 l3
  exact Go.of (fun t q => st.trans q) (k v T' T'.heap _ (fun sf' q => Wk.back hx hEL hS hk hZ hown hC hN hO' hK hsf hlt X' hS' hL hK' hC' hws sf' q) hK' hQ)

/-- behind a call that interns nothing -/
theorem Wk.backN {T' : State} {ws' : List Addr} {vm0 : Vm} {k0 : Nat} {locs L : List Loc} {cells' slots' : Nat} (hx : p.tables.exec = Jvm.exec) (hEL : EW Z a0 EL) (hS : s.Since vm0 k0) (hk : k0 ≤ h.size) (hZ : Z.Warmed39 vm0) (hown : vm0.findClass own = some m.cls) (hC : CHr Z EL s.vm s.heap vm0 h) (hN : Fr Z.heap.size locs) (hO : Ext Z.heap h) (hK : Keep s.heap h ws) (hsf : ∀ x ∈ sf, x < h.size ∧ Safe Z EL vm0 h x) (hlt : ∀ q ∈ lts, Lit (s.setVm vm0) own q.1 q.2)
    (X' : Stand p l e R (s.setVm vm0) m args below meth c T' (locs ++ L) cells' slots') (hL : Fr Z.heap.size L) (hK' : Keep h T'.heap ws') (hw0 : ∀ x ∈ ws', Z.heap.size ≤ x) (hws : ∀ x ∈ ws', x ∈ ws ∨ s.heap.size ≤ x) (hsi : ∀ x ∈ ws', Sfe Z h sf x) :
    Wk p l e R s m args below meth c Z a0 EL own ws T' T'.heap sf lts cells' slots' :=
  have S := fun x hx => (hsi x hx).safe hZ.alike hsf
  ⟨hx, hEL, vm0, k0, locs ++ L, X', rfl, hS, Nat.le_trans hk hK'.1, hZ, hown, hC.trans (CHr.keep hK' S hC.1), hN.app hL, ext_keep hO hK' hw0, hK.trans hK' hws, fun x hx => ⟨Nat.lt_of_lt_of_le (hsf x hx).1 hK'.1, (hsf x hx).2.keep hK' S hC.1⟩, hlt⟩

theorem Wk.callCN {index W maxL nc ns : Nat} {y : MethodName} {bytes : ByteArray} {ws' : List Addr} {Qn : Option Value → Heap → List Loc → Prop} {a : Addr} {argsL stk : List Value} {ps : List FieldType} {r : Option FieldType} (X : Wk p l e R s m args below meth c Z a0 EL own ws T h sf lts cells slots) (hy1 : y.name = "<init>")
    (w1 : (Cond.methodLink own index y).before a0 Z = true) (w2 : (Cond.instanceMethod y).before a0 Z = true) (w4 : (Cond.code y bytes maxL none).before a0 Z = true) (hy : y.cls ≠ "java/lang/invoke/MethodHandle" ∧ y.cls ≠ "java/lang/invoke/VarHandle")
    (hB : ∀ vm0 : Vm, Z.Warmed39 vm0 → Back l R p e below (s.setVm vm0) args y 3 W (fun A a' => a' = (.ref a :: argsL).toArray ∧ A.U.heap = h ∧ A.cells + nc ≤ R.cells ∧ A.slots + ns ≤ R.slots) (fun A _ v B => ∃ L, Qn v B.U.heap L ∧ B.locs = A.locs ++ L ∧ B.cells = A.cells + nc ∧ B.slots = A.slots + ns)) (hQn : ∀ v h' L, Qn v h' L → Fr Z.heap.size L ∧ Keep h h' ws') (hpd : parseMethodDescriptor y.desc = some ⟨ps, r⟩) (hlen : argsL.length = ps.length) (hst : stk = argsL.reverse ++ .ref a :: rest) (hW : (rest.map fun v => v.category).sum = W) (hsize : Ls.size = c.maxLocals) (hce : cells + nc ≤ R.cells) (hsl : slots + ns ≤ R.slots)
    (hd : decode c.code pc = .ok (.invokespecial index, 3)) (hw0 : ∀ x ∈ ws', Z.heap.size ≤ x) (hws : ∀ x ∈ ws', x ∈ ws ∨ s.heap.size ≤ x) (hsi : ∀ x ∈ ws', Sfe Z h sf x)
    (k : ∀ v T' h', Wk p l e R s m args below meth c Z a0 EL own ws T' h' sf lts (cells + nc) (slots + ns) → Keep h h' ws' → (∃ L, Qn v h' L) → Go p e below P T' (mkF m (pc + 3) Ls (v.toList ++ rest))) : Go p e below P T (mkF m pc Ls stk) := by
  subst hst
  obtain ⟨hx, hEL, vm0, k0, locs, X, eT, hS, hk, hZ, hown, hC, hN, hO, hK, hsf, hlt⟩ := X
  obtain ⟨v, _, ⟨T', L', k', n'⟩, -, X', ⟨L, hQ, l1, l2, l3⟩, st⟩ := X.specialBack hx (y := y) hy1 hown (mvT (s := s.setVm vm0) hZ w1) (mvT (s := s.setVm vm0) hZ w2) (mvT (s := s.setVm vm0) hZ w4) hy (hB vm0 hZ) (g := mkF m pc Ls (argsL.reverse ++ .ref a :: rest)) rfl hsize (Steps.refl _) (a := a) (argsL := argsL) (rest := rest) (lenOf hpd hlen) rfl (by rw [← hW]; show 2 * 0 + _ ≤ _; omega) hd (fun _ _ => ⟨rfl, eT, hce, hsl⟩)
  dsimp only [Pt.U, Pt.locs, Pt.cells, Pt.slots] at X' hQ l1 l2 l3 st
  subst l1 l2 l3
  have q := hQn _ _ _ hQ
  exact Go.of (fun t q => st.trans q) (k v T' T'.heap (Wk.backN hx hEL hS hk hZ hown hC hN hO hK hsf hlt X' q.1 q.2 hw0 hws hsi) q.2 ⟨L, hQ⟩)

theorem Wk.callVN {index W nc ns : Nat} {C : String} {y z : MethodName} {ws' : List Addr} {Qn : Option Value → Heap → List Loc → Prop} {a : Addr} {argsL stk : List Value} {ps : List FieldType} {r : Option FieldType} (X : Wk p l e R s m args below meth c Z a0 EL own ws T h sf lts cells slots)
    (w1 : (Cond.methodLink own index y).before a0 Z = true) (w2 : (Cond.declares y).before a0 Z = true) (nf : ∀ s' : State, Z.Warmed39 s'.vm → NotFace s' y) (w3 : (Cond.selects C y z).before a0 Z = true) (w4 : (Cond.instanceMethod z).before a0 Z = true) (hy : y.cls ≠ "java/lang/invoke/MethodHandle" ∧ y.cls ≠ "java/lang/invoke/VarHandle")
    (hB : ∀ vm0 : Vm, Z.Warmed39 vm0 → Back l R p e below (s.setVm vm0) args z 3 W (fun A a' => a' = (.ref a :: argsL).toArray ∧ A.U.heap = h ∧ A.cells + nc ≤ R.cells ∧ A.slots + ns ≤ R.slots) (fun A _ v B => ∃ L, Qn v B.U.heap L ∧ B.locs = A.locs ++ L ∧ B.cells = A.cells + nc ∧ B.slots = A.slots + ns)) (hQn : ∀ v h' L, Qn v h' L → Fr Z.heap.size L ∧ Keep h h' ws') (E : Exa Z h a C) (hpd : parseMethodDescriptor y.desc = some ⟨ps, r⟩) (hlen : argsL.length = ps.length) (hst : stk = argsL.reverse ++ .ref a :: rest) (hW : (rest.map fun v => v.category).sum = W) (hsize : Ls.size = c.maxLocals) (hce : cells + nc ≤ R.cells) (hsl : slots + ns ≤ R.slots)
    (hd : decode c.code pc = .ok (.invokevirtual index, 3)) (hw0 : ∀ x ∈ ws', Z.heap.size ≤ x) (hws : ∀ x ∈ ws', x ∈ ws ∨ s.heap.size ≤ x) (hsi : ∀ x ∈ ws', Sfe Z h sf x)
    (k : ∀ v T' h', Wk p l e R s m args below meth c Z a0 EL own ws T' h' sf lts (cells + nc) (slots + ns) → Keep h h' ws' → (∃ L, Qn v h' L) → Go p e below P T' (mkF m (pc + 3) Ls (v.toList ++ rest))) : Go p e below P T (mkF m pc Ls stk) := by
  subst hst
  obtain ⟨hx, hEL, vm0, k0, locs, X, eT, hS, hk, hZ, hown, hC, hN, hO, hK, hsf, hlt⟩ := X
  obtain ⟨cq, kq, qa, qb, qc⟩ := isOf (s := s.setVm vm0) hZ eT E
  obtain ⟨v, _, ⟨T', L', k', n'⟩, -, X', ⟨L, hQ, l1, l2, l3⟩, st⟩ := X.virtualBack hx (y := y) (z := z) hown (mvT (s := s.setVm vm0) hZ w1) (mvT (s := s.setVm vm0) hZ w2) (nf _ hZ) (mvT (s := s.setVm vm0) hZ w3) (mvT (s := s.setVm vm0) hZ w4) hy (hB vm0 hZ) qa qc (g := mkF m pc Ls (argsL.reverse ++ .ref a :: rest)) rfl hsize (Steps.refl _) (argsL := argsL) (rest := rest) (lenOf hpd hlen) rfl (by rw [← hW]; show 2 * 0 + _ ≤ _; omega) hd (fun _ _ => ⟨rfl, eT, hce, hsl⟩)
  dsimp only [Pt.U, Pt.locs, Pt.cells, Pt.slots] at X' hQ l1 l2 l3 st
  subst l1 l2 l3
  have q := hQn _ _ _ hQ
  exact Go.of (fun t q => st.trans q) (k v T' T'.heap (Wk.backN hx hEL hS hk hZ hown hC hN hO hK hsf hlt X' q.1 q.2 hw0 hws hsi) q.2 ⟨L, hQ⟩)

theorem Wk.irem {x y : Int32} (X : Wk p l e R s m args below meth c Z a0 EL own ws T h sf lts cells slots) (hd : decode c.code pc = .ok (.irem, 1)) (hy : y ≠ 0) (k : Go p e below P T (mkF m (pc + 1) Ls (.int (x % y) :: rest))) : Go p e below P T (mkF m pc Ls (.int y :: .int x :: rest)) := by
  obtain ⟨hx, hEL, vm0, k0, locs, X, q⟩ := X
  exact Go.of (fun t k => iremM X hx rfl hd rfl hy k) k

/-- a String of Latin-1 chars cs: its object x, its byte[] t -/
def Str (Z : State) (h : Heap) (x t : Nat) (kb : ClassId) (cs : List Int32) : Prop :=
  Exa Z h x "java/lang/String" ∧ Fld Z h x "java/lang/String" "value" "[B" (.ref t) ∧ Fld Z h x "java/lang/String" "coder" "B" (.int 0) ∧ Arv Z h t kb .byte (Int32.ofNat cs.length) ((cs.map fun c => c.toInt8.toInt32).map Value.int) (.int 0) ∧ (∀ c ∈ cs, ¬ c < 0 ∧ ¬ (255 : Int32) < c) ∧ cs.length ≤ 4000
variable {x t : Nat} {kb : ClassId} {cs : List Int32} {h' : Heap}
theorem Str.ext (F : Str Z h x t kb cs) (E : Ext h h') : Str Z h' x t kb cs := ⟨F.1.ext E, F.2.1.ext E, F.2.2.1.ext E, F.2.2.2.1.ext E, F.2.2.2.2⟩
theorem Str.keep {ws' : List Addr} (F : Str Z h x t kb cs) (K : Keep h h' ws') (q : x ∉ ws') (r : t ∉ ws') : Str Z h' x t kb cs := ⟨F.1.keep K, F.2.1.keep K q, F.2.2.1.keep K q, F.2.2.2.1.keep K r, F.2.2.2.2⟩
theorem Str.lt (F : Str Z h x t kb cs) : x < h.size := F.1.lt
theorem Str.lt' (F : Str Z h x t kb cs) : t < h.size := F.2.2.2.1.lt
theorem Str.up (F : Str Z h x t kb cs) : ∀ c ∈ cs, ¬ c < 0 ∧ ¬ (65535 : Int32) < c := fun c hc => ⟨(F.2.2.2.2.1 c hc).1, fun q => (F.2.2.2.2.1 c hc).2 (by rw [Int32.lt_iff_toInt_lt] at q ⊢; have e1 : (65535 : Int32).toInt = 65535 := rfl; have e2 : (255 : Int32).toInt = 255 := rfl; omega)⟩

theorem and_nn (x m : Int32) (q : 0 ≤ m.toInt) : ¬ (x &&& m) < 0 ∧ (x &&& m).toNatClampNeg ≤ m.toInt.toNat := by
  have r := c_and x m q
  refine ⟨fun z => ?_, ?_⟩
  · rw [Int32.lt_iff_toInt_lt] at z
    have e : (0 : Int32).toInt = 0 := rfl
    omega
  · show (x &&& m).toInt.toNat ≤ _
    omega
theorem b8b8 (c : Int32) : c.toInt8.toInt32.toInt8.toInt32 = c.toInt8.toInt32 := by
  have e : c.toInt8.toInt32.toInt8 = c.toInt8 := by simp
  rw [e]
/-- (char) (c & 255) -/
theorem c255 (x : Int32) : (x &&& (255 : Int32)).toUInt32.toUInt16.toUInt32.toInt32 = x &&& 255 := i2c_mask x
theorem r255 (x : Int32) : ¬ (x &&& 255) < 0 ∧ ¬ (255 : Int32) < (x &&& 255) := by
  have r := c_and x 255 (by decide)
  have e : (0 : Int32).toInt = 0 := rfl
  have e2 : (255 : Int32).toInt = 255 := rfl
  refine ⟨fun z => ?_, fun z => ?_⟩ <;> rw [Int32.lt_iff_toInt_lt] at z <;> omega
theorem nar255 (x : Int32) (h0 : ¬ x < 0) (h1 : ¬ (255 : Int32) < x) : nar .char x = x := by
  show x.toUInt32.toUInt16.toUInt32.toInt32 = x
  have r := c_i2c x
  have e : (0 : Int32).toInt = 0 := rfl
  have e2 : (255 : Int32).toInt = 255 := rfl
  rw [Int32.lt_iff_toInt_lt] at h0 h1
  apply Int32.toInt_inj.mp
  omega

theorem Wk.instNull {index : Nat} (X : Wk p l e R s m args below meth c Z a0 EL own ws T h sf lts cells slots) (hd : decode c.code pc = .ok (.instanceof index, 3)) (k : Go p e below P T (mkF m (pc + 3) Ls (.int 0 :: rest))) : Go p e below P T (mkF m pc Ls (.null :: rest)) := by
  obtain ⟨hx, hEL, vm0, k0, locs, X, q⟩ := X
  exact Go.of (X.instanceofNull hx (g := mkF m pc Ls (.null :: rest)) rfl rfl hd) k
theorem Wk.castNull {index : Nat} (X : Wk p l e R s m args below meth c Z a0 EL own ws T h sf lts cells slots) (hd : decode c.code pc = .ok (.checkcast index, 3)) (k : Go p e below P T (mkF m (pc + 3) Ls (.null :: rest))) : Go p e below P T (mkF m pc Ls (.null :: rest)) := by
  obtain ⟨hx, hEL, vm0, k0, locs, X, q⟩ := X
  exact Go.of (X.checkcastNull hx (g := mkF m pc Ls (.null :: rest)) rfl rfl hd) k
theorem Wk.instNo {K C : String} {index : Nat} {a : Addr} (X : Wk p l e R s m args below meth c Z a0 EL own ws T h sf lts cells slots) (w : (Cond.classLink own index K).before a0 Z = true) (E : Exa Z h a C) (F : ∃ c t, Z.vm.findClass C = some c ∧ Z.vm.findClass K = some t ∧ Z.vm.assignable c t = false) (hd : decode c.code pc = .ok (.instanceof index, 3))
    (k : ∀ T', Wk p l e R s m args below meth c Z a0 EL own ws T' h sf lts cells slots → Go p e below P T' (mkF m (pc + 3) Ls (.int 0 :: rest))) : Go p e below P T (mkF m pc Ls (.ref a :: rest)) := by
  obtain ⟨hx, hEL, vm0, k0, locs, X, eT, hS, hk, hZ, hown, q⟩ := X
  obtain ⟨T', X', e', st'⟩ := Jvm.RoadKit.instNo X hx (s := s.setVm vm0) hZ hown w eT E F (g := mkF m pc Ls (.ref a :: rest)) rfl rfl hd
  exact Go.of st' (k T' ⟨hx, hEL, vm0, k0, locs, X', e', hS, hk, hZ, hown, q⟩)
/-- no object of class C (right below the root) is a K, where K is a plain class -/
theorem no_cast {C S K : String} {n : Nat} (w : (Cond.superclass C S).before a0 Z = true) (wr : (Cond.noSuperclass S).before a0 Z = true) (wi : (Cond.instantiable K n).before a0 Z = true) (h1 : C ≠ K) (h2 : S ≠ K) : ∃ c t, Z.vm.findClass C = some c ∧ Z.vm.findClass K = some t ∧ Z.vm.assignable c t = false := by
  obtain ⟨c, hc⟩ := found_sup w
  obtain ⟨r, k, kr, g1, g2, g3, g4, g5, g6, g7⟩ := Cond.superclass_spec hc w
  obtain ⟨r', k', q1, q2, q3, -, -⟩ := Cond.noSuperclass_spec wr
  obtain ⟨t, kt, f1, f2, f3, f4, -, -⟩ := Cond.instantiable_spec wi
  cases g1.symm.trans q1
  cases g3.symm.trans q2
  have n1 := ids_ne hc f1 h1
  have n2 := ids_ne g1 f1 h2
  have f5 : kt.isInterface = false := by
    rw [Bool.or_eq_false_iff] at f4
    exact f4.1
  have hs : ∀ fuel, Z.vm.isSubclassAux fuel c t = false := fun fuel => by
    cases fuel with
    | zero => rfl
    | succ f => cases f with
      | zero => simp [Vm.isSubclassAux, n1, g2, g4]
      | succ f => simp [Vm.isSubclassAux, n1, n2, g2, g4, g3, q3]
  refine ⟨c, t, hc, f1, ?_⟩
  show Z.vm.assignableAux (255 + 1) c t = false
  simp [Vm.assignableAux, n1, g2, f2, g5, f3, f5, Vm.isSubclass, hs]
theorem nar_i2c (x : Int32) (h0 : ¬ x < 0 ∧ ¬ (255 : Int32) < x) : nar .char (x.toUInt32.toUInt16.toUInt32.toInt32) = x := by
  have q := nar255 x h0.1 h0.2
  have r : x.toUInt32.toUInt16.toUInt32.toInt32 = x := q
  rw [r, q]
theorem i2c255 (x : Int32) (h0 : ¬ x < 0 ∧ ¬ (255 : Int32) < x) : x.toUInt32.toUInt16.toUInt32.toInt32 = x := nar255 x h0.1 h0.2
theorem rem3 (x : Int32) (h0 : ¬ x < 0) : x % 3 = 0 ∨ x % 3 = 1 ∨ x % 3 = 2 := by
  have r := (c_irem x 3 3 rfl).1
  have e : (0 : Int32).toInt = 0 := rfl
  have e1 : (1 : Int32).toInt = 1 := rfl
  have e2 : (2 : Int32).toInt = 2 := rfl
  rw [Int32.lt_iff_toInt_lt] at h0
  have r := r (by omega)
  have q : (x % 3).toInt = 0 ∨ (x % 3).toInt = 1 ∨ (x % 3).toInt = 2 := by omega
  rcases q with q | q | q
  · exact Or.inl (Int32.toInt_inj.mp (q.trans e.symm))
  · exact Or.inr (Or.inl (Int32.toInt_inj.mp (q.trans e1.symm)))
  · exact Or.inr (Or.inr (Int32.toInt_inj.mp (q.trans e2.symm)))
/-- the chars of a String of at most two -/
def chs (n c0 c1 : Int32) : List Int32 := if n = 0 then [] else if n = 1 then [c0] else [c0, c1]
theorem chs_eq {n k c0 c1 d0 d1 : Int32} (hn : n = 0 ∨ n = 1 ∨ n = 2) (hk : k = 0 ∨ k = 1 ∨ k = 2) : chs n c0 c1 = chs k d0 d1 ↔ n = k ∧ (n < 1 ∨ c0 = d0) ∧ (n < 2 ∨ c1 = d1) := by
  rcases hn with rfl | rfl | rfl <;> rcases hk with rfl | rfl | rfl <;> simp [chs]

theorem Wk.acmp {cd : ACond} {x y : Value} {o : Int} {pc' : Nat} {same : Bool} (X : Wk p l e R s m args below meth c Z a0 EL own ws T h sf lts cells slots) (h1 : x.isRef = true) (h2 : y.isRef = true) (hd : decode c.code pc = .ok (.if_acmp cd o, 3)) (hq : decide (x = y) = same) (ho : 0 ≤ (pc : Int) + o) (hp : pc' = if acV cd same = true then ((pc : Int) + o).toNat else pc + 3)
    (k : Go p e below P T (mkF m pc' Ls rest)) : Go p e below P T (mkF m pc Ls (y :: x :: rest)) := by
  obtain ⟨hx, hEL, vm0, k0, locs, X, q⟩ := X
  exact Go.of (fun t k => Jvm.RoadKit.acmp (g := mkF m pc Ls (y :: x :: rest)) X hx rfl h1 h2 rfl hd rfl hq ho hp k) k
theorem allI1 {a : Int32} (h : ¬ a < 0 ∧ ¬ (255 : Int32) < a) : ∀ c ∈ ([a] : List Int32), ¬ c < 0 ∧ ¬ (255 : Int32) < c := fun c hc => by rw [List.mem_singleton.mp hc]; exact h
theorem allI2 {a b : Int32} (h : ¬ a < 0 ∧ ¬ (255 : Int32) < a) (h' : ¬ b < 0 ∧ ¬ (255 : Int32) < b) : ∀ c ∈ ([a, b] : List Int32), ¬ c < 0 ∧ ¬ (255 : Int32) < c := fun c hc => by
  rcases List.mem_cons.mp hc with rfl | hc
  · exact h
  · exact allI1 h' c hc
theorem ushr_nn (x q : Int32) (k : Nat) (hk : q.toBitVec.toNat % 32 = k) (h0 : 0 < k) : ¬ ((x.toUInt32 >>> (q &&& 31).toUInt32).toInt32) < 0 := fun z => by
  have r := c_iushr x q k hk h0
  have e : (0 : Int32).toInt = 0 := rfl
  rw [Int32.lt_iff_toInt_lt, e, r] at z
  have : 0 ≤ x.toInt % 4294967296 / ((2 ^ k : Nat) : Int) := Int.ediv_nonneg (by omega) (Int.natCast_nonneg _)
  omega

theorem ofNat_toInt {i : Nat} (hi : i < 2147483648) : (Int32.ofNat i).toInt = i := Int32.toInt_ofNat_small (by omega)
theorem i32lt {i n : Nat} (hi : i < 2147483648) (hn : n < 2147483648) : Int32.ofNat i < Int32.ofNat n ↔ i < n := by
  rw [Int32.lt_iff_toInt_lt, ofNat_toInt hi, ofNat_toInt hn]; omega
theorem i32inj {i n : Nat} (hi : i < 2147483648) (hn : n < 2147483648) : Int32.ofNat i = Int32.ofNat n ↔ i = n := by
  constructor
  · intro q
    have q := congrArg Int32.toInt q
    rw [ofNat_toInt hi, ofNat_toInt hn] at q; omega
  · rintro rfl; rfl
theorem i32add (i j : Nat) : Int32.ofNat i + Int32.ofNat j = Int32.ofNat (i + j) := (Int32.ofNat_add i j).symm
theorem i32succ (i : Nat) : Int32.ofNat i + 1 = Int32.ofNat (i + 1) := i32add i 1
theorem i32sub {i j : Nat} (q : j ≤ i) : Int32.ofNat i - Int32.ofNat j = Int32.ofNat (i - j) := by
  have r := i32add (i - j) j
  rw [Nat.sub_add_cancel q] at r
  rw [← r]; simp

theorem Wk.ldcI {index : Nat} {v : Int32} {st : List Value} (X : Wk p l e R s m args below meth c Z a0 EL own ws T h sf lts cells slots) (w : (Cond.constant own index v).before a0 Z = true) (hd : decode c.code pc = .ok (.ldc index, 2)) (k : Go p e below P T (mkF m (pc + 2) Ls (.int v :: st))) : Go p e below P T (mkF m pc Ls st) := by
  obtain ⟨hx, hEL, vm0, k0, locs, X, eT, hS, hk, hZ, hown, q⟩ := X
  exact Go.of (X.ldcInt hx (s := s.setVm vm0) hown (mvT (s := s.setVm vm0) hZ w) (g := mkF m pc Ls st) rfl hd) k
/-- clone() of an array -/
theorem Wk.clone {ad : String} {index W cap : Nat} {a : Addr} {kc : ClassId} {ty : FieldType} {z : Int32} {vs : List Value} {dv : Value} (X : Wk p l e R s m args below meth c Z a0 EL own ws T h sf lts cells slots)
    (w1 : (Cond.methodLink own index ⟨ad, "clone", "()Ljava/lang/Object;"⟩).before a0 Z = true) (w2 : (Cond.sameMethod ad "java/lang/Object" "clone" "()Ljava/lang/Object;").before a0 Z = true) (w3 : (Cond.native ⟨"java/lang/Object", "clone", "()Ljava/lang/Object;"⟩).before a0 Z = true)
    (w4 : (Cond.instanceMethod ⟨"java/lang/Object", "clone", "()Ljava/lang/Object;"⟩).before a0 Z = true) (w5 : (Cond.selects ad ⟨ad, "clone", "()Ljava/lang/Object;"⟩ ⟨"java/lang/Object", "clone", "()Ljava/lang/Object;"⟩).before a0 Z = true) (w6 : (Cond.castable ad "java/lang/Cloneable").before a0 Z = true)
    (A : Arv Z h a kc ty z vs dv) (E : Exa Z h a ad) (hsize : Ls.size = c.maxLocals) (hd : decode c.code pc = .ok (.invokevirtual index, 3)) (hf : 1 ≤ R.frames) (hW : (rest.map fun v => v.category).sum = W) (hl : W + 14 ≤ R.locals) (hcap : z.toNatClampNeg ≤ cap) (hc : cells + 1 ≤ R.cells) (hsl : slots + cap ≤ R.slots)
    (k : ∀ T' h' b, b = h.size → Wk p l e R s m args below meth c Z a0 EL own ws T' h' (b :: sf) lts (cells + 1) (slots + cap) → Ext h h' → Arv Z h' b kc ty z vs dv → Exa Z h' b ad → Go p e below P T' (mkF m (pc + 3) Ls (.ref b :: rest))) : Go p e below P T (mkF m pc Ls (.ref a :: rest)) := by
  obtain ⟨hx, hEL, vm0, k0, locs, X, eT, hS, hk, hZ, hown, hC, hN, hO, hK, hsf, hlt⟩ := X
  obtain ⟨T', h', X', e', E', A', B', st'⟩ := cloneH X hx (s := s.setVm vm0) hZ hown w1 w2 w3 w4 w5 w6 eT (hs := []) (show Arh Z h a kc ty z [] vs dv from A) E (g := mkF m pc Ls (.ref a :: rest)) rfl hsize rfl hd hf (W := W) (by rw [← hW]; show 2 * 0 + _ ≤ _; omega) hl hcap hc hsl
  exact Go.of st' (k T' h' h.size rfl ⟨hx, hEL, vm0, k0, locs, X', e', hS, Nat.le_trans hk E'.1, hZ, hown, hC.trans (CHr.ext E' hC.1), hN, ext_trans hO E', hK.ext E', fun x hx => by
    rcases List.mem_cons.mp hx with rfl | hx
    · exact ⟨B'.lt, (Safe.new (Nat.le_refl _)).ext E' hC.1⟩
    · exact ⟨Nat.lt_of_lt_of_le (hsf x hx).1 E'.1, (hsf x hx).2.ext E' hC.1⟩, hlt⟩ E' A' B')
theorem ninN {x y : Nat} {L : List Nat} (q : x ≠ y) (r : x ∉ L) : x ∉ y :: L := ninS q r
theorem lt_snoc {P : Nat → Prop} {i : Nat} (h : ∀ j, j < i → P j) (hi : P i) : ∀ j, j < i + 1 → P j := fun j hj => by
  rcases Nat.lt_or_ge j i with q | q
  · exact h j q
  · obtain rfl : j = i := by omega
    exact hi
theorem ge_snoc {P : Nat → Prop} {f i : Nat} (h : ∀ j, f ≤ j → j < i → P j) (hi : P i) : ∀ j, f ≤ j → j < i + 1 → P j := fun j hf hj => by
  rcases Nat.lt_or_ge j i with q | q
  · exact h j hf q
  · obtain rfl : j = i := by omega
    exact hi
theorem ge_pred {P : Nat → Prop} {i n : Nat} (h : ∀ j, i ≤ j → j < n → P j) (hi : P (i - 1)) : ∀ j, i - 1 ≤ j → j < n → P j := fun j hf hj => by
  rcases Nat.lt_or_ge j i with q | q
  · obtain rfl : j = i - 1 := by omega
    exact hi
  · exact h j q hj
end Base
end Own
end Jvm.Pilot.@@N@@
/- laws to paste: Road.backV, Road.lenW, Road.chN, Road.codOf (cut by pick.py; bodies as the Statement names them) -/
namespace Jvm.Pilot.@@N@@
namespace StrChars
open Jvm Sem ClassFile Op Lib Jvm.Stand Jvm.Free.XT Jvm.Free.ALB Jvm.Free.JM Jvm.Free
open Jvm.Lib.Cold (StaticIs)
/-- a char array whose places are chars -/
def Ch (a : Addr) (A : Cell) (U : State) : Prop := Arr .char a A U ∧ Typed .char A
theorem Ch.mv {a : Addr} {A : Cell} {U U' : State} (h : Ch a A U) (hal : U.vm.Alike U'.vm) (hh : U'.heap = U.heap) : Ch a A U' := ⟨h.1.mv hal hh, h.2⟩
theorem Ch.keep {a : Addr} {A : Cell} {U U' : State} (h : Ch a A U) (hal : U.vm.Alike U'.vm) (hk : U'.heap[a]? = some A) : Ch a A U' := ⟨h.1.keep hal hk, h.2⟩
/-- what place i of a char[]'s cell holds -/
def cv (A : Cell) (i : Nat) : Int32 := match A.slots[i]? with | some (.int x) => x | _ => 0
theorem Ch.get {a : Addr} {A : Cell} {U : State} (h : Ch a A U) {i : Nat} (hi : i < A.slots.size) : A.slots[i]? = some (.int (cv A i)) := by
  have e := Array.getElem?_eq_getElem hi
  have f := h.2 i _ e
  unfold cv; rw [e]
  generalize A.slots[i] = v at f
  cases v <;> simp [fits] at f ⊢
/-- the byte that i2b leaves of a char -/
def lo8 (x : Int32) : Int32 := x.toInt8.toInt32
theorem fits_lo8 (y : Int32) : fits .byte (.int (lo8 y)) = true := by
  have h1 := y.toInt8.le_toInt
  have h2 := y.toInt8.toInt_lt
  simp only [lo8, fits, Bool.and_eq_true, decide_eq_true_eq, Int32.le_iff_toInt_le, Int8.toInt_toInt32, show (-128 : Int32).toInt = -128 from by decide, show (127 : Int32).toInt = 127 from by decide]
  omega
/-- A' is A but that each place j of lo .. hi - 1 holds f j -/
def Laid (A A' : Cell) (lo hi : Nat) (f : Nat → Value) : Prop := A'.cls = A.cls ∧ A'.vm = A.vm ∧ A'.slots.size = A.slots.size ∧ ∀ i, A'.slots[i]? = if lo ≤ i ∧ i < hi then some (f i) else A.slots[i]?
theorem Laid.zero (A : Cell) (lo : Nat) (f : Nat → Value) : Laid A A lo (lo + 0) f := ⟨rfl, rfl, rfl, fun i => by rw [if_neg (by omega)]⟩
theorem Laid.step {A Ak : Cell} {lo k : Nat} {f : Nat → Value} {v : Value} (h : Laid A Ak lo k f) (hlo : lo ≤ k) (hk : k < Ak.slots.size) (hv : v = f k) : Laid A (Ak.setSlot k v) lo (k + 1) f := by
  refine ⟨h.1, h.2.1, by simpa [Cell.setSlot] using h.2.2.1, fun i => ?_⟩
  by_cases e : k = i
  · subst e; rw [Cell.slots_setSlot_self v hk, if_pos (by omega), hv]
  · rw [Cell.slots_setSlot_ne v e, h.2.2.2 i]
    by_cases q : lo ≤ i ∧ i < k
    · rw [if_pos q, if_pos (by omega)]
    · rw [if_neg q, if_neg (by omega)]
def U16 : String := "java/lang/StringUTF16"
namespace Cmp5
def yN : MethodName := ⟨"java/lang/StringUTF16", "compress", "([CI[BII)I"⟩
abbrev yB : ByteArray := jdk_52_method_21_code
theorem d0 : decode yB 0 = .ok (.iconst 0, 1) := by decide +kernel
theorem d1 : decode yB 1 = .ok (.istore 5, 2) := by decide +kernel
theorem d3 : decode yB 3 = .ok (.iload 5, 2) := by decide +kernel
theorem d5 : decode yB 5 = .ok (.iload 4, 2) := by decide +kernel
theorem d7 : decode yB 7 = .ok (.if_icmp (.ge) 37, 3) := by decide +kernel
theorem d10 : decode yB 10 = .ok (.aload_n 0, 1) := by decide +kernel
theorem d11 : decode yB 11 = .ok (.iload_n 1, 1) := by decide +kernel
theorem d12 : decode yB 12 = .ok (.caload, 1) := by decide +kernel
theorem d13 : decode yB 13 = .ok (.istore 6, 2) := by decide +kernel
theorem d15 : decode yB 15 = .ok (.iload 6, 2) := by decide +kernel
theorem d17 : decode yB 17 = .ok (.sipush 255, 3) := by decide +kernel
theorem d20 : decode yB 20 = .ok (.if_icmp (.le) 6, 3) := by decide +kernel
theorem d26 : decode yB 26 = .ok (.aload_n 2, 1) := by decide +kernel
theorem d27 : decode yB 27 = .ok (.iload_n 3, 1) := by decide +kernel
theorem d28 : decode yB 28 = .ok (.iload 6, 2) := by decide +kernel
theorem d30 : decode yB 30 = .ok (.i2b, 1) := by decide +kernel
theorem d31 : decode yB 31 = .ok (.bastore, 1) := by decide +kernel
theorem d32 : decode yB 32 = .ok (.iinc 1 1, 3) := by decide +kernel
theorem d35 : decode yB 35 = .ok (.iinc 3 1, 3) := by decide +kernel
theorem d38 : decode yB 38 = .ok (.iinc 5 1, 3) := by decide +kernel
theorem d41 : decode yB 41 = .ok (.goto (-38), 3) := by decide +kernel
theorem d44 : decode yB 44 = .ok (.iload 4, 2) := by decide +kernel
theorem d46 : decode yB 46 = .ok (.ireturn, 1) := by decide +kernel
def site : List Cond := []
def tab : Cond := tabOf yN yB 7 (some .int) site
def P (b : Addr) (A : Cell) (d : Addr) (B : Cell) (o q len : Nat) (args : Array Value) (s : State) : Prop := args = #[.ref b, .int (Int32.ofNat o), .ref d, .int (Int32.ofNat q), .int (Int32.ofNat len)] ∧ Ch b A s ∧ Arr .byte d B s ∧ b ≠ d ∧ o + len ≤ A.slots.size ∧ q + len ≤ B.slots.size ∧ ∀ i, i < len → ¬ 255 < cv A (o + i)
def E (b : Addr) (A : Cell) (d : Addr) (B : Cell) (o q len : Nat) (r : Option Value) (s u : State) : Prop := r = some (.int (Int32.ofNat len)) ∧ ∃ B', Put d B' s u ∧ Laid B B' q (q + len) (fun j => Value.int (lo8 (cv A (o + (j - q)))))
/-- no char of the range above 255: len; the places written hold each char's low byte -/
theorem law (l : Launch) (b : Addr) (A : Cell) (d : Addr) (B : Cell) (o q len : Nat) : Law l yN 5 5 0 0 yB 7 (some .int) site (P b A d B o q len) (E b A d B o q len) (copyLocs d q len) 0 0 := by
  refine Law.of_walk (plainFor_of_name (by decide +kernel)) (by decide +kernel) (by decide +kernel) (by decide) (fun _ _ h => by rw [h.1]; rfl) (fun _ U U' hal hh h => ⟨h.1, h.2.1.mv hal hh, h.2.2.1.mv hal hh, h.2.2.2⟩) (fun r U U' V V' h1 hal h2 h => ⟨h.1, h.2.elim fun B' q => ⟨B', q.1.mv h1 h2, q.2⟩⟩) ?_
  intro p e s m args below meth c s₁ X0 hexec hbytes hml hret hlk hnm hown hh0 W hP
  obtain ⟨rfl, hA, hB, hne, l1, l2, hp⟩ := hP
  have c1 : Steps p.tables e below (s₁.setTop (entryFrame m #[.ref b, .int (Int32.ofNat o), .ref d, .int (Int32.ofNat q), .int (Int32.ofNat len)] 7)) (s₁.setTop (mkF m 0 #[.val (.ref b), .val (.int (Int32.ofNat o)), .val (.ref d), .val (.int (Int32.ofNat q)), .val (.int (Int32.ofNat len)), .unset, .unset] [])) := entry rfl
  have hA0 := hA.1.mv X0.warmed.alike hh0
  have hB0 := hB.mv X0.warmed.alike hh0
  have a31 := hA.1.2.2.2
  have c2 : Steps p.tables e below (s₁.setTop (entryFrame m #[.ref b, .int (Int32.ofNat o), .ref d, .int (Int32.ofNat q), .int (Int32.ofNat len)] 7)) (s₁.setTop (mkF m 3 #[.val (.ref b), .val (.int (Int32.ofNat o)), .val (.ref d), .val (.int (Int32.ofNat q)), .val (.int (Int32.ofNat len)), .val (.int 0), .unset] [])) := c1.trans (by
    refine iconstV X0.here hexec rfl 0 (hb hbytes d0) (by decide) ?_
    refine XS.istore X0.here hexec rfl (hb hbytes d1) rfl rfl ?_
    exact Steps.refl _)
  have loop : ∀ (r i : Nat), i + r = len → ∀ (z : Slot), (z = .unset ∨ ∃ w, z = .val w ∧ w.category = 1) → ∀ (Tl : State) (Bk : Cell), Stand p l e { frames := 0, locals := 0, cells := 0, slots := 0 } s m #[.ref b, .int (Int32.ofNat o), .ref d, .int (Int32.ofNat q), .int (Int32.ofNat len)] below meth c Tl ([] ++ copyLocs d q i) 0 0 → Put d Bk s₁ Tl → Laid B Bk q (q + i) (fun j => Value.int (lo8 (cv A (o + (j - q))))) →
      Steps p.tables e below (s₁.setTop (entryFrame m #[.ref b, .int (Int32.ofNat o), .ref d, .int (Int32.ofNat q), .int (Int32.ofNat len)] 7)) (Tl.setTop (mkF m 3 #[.val (.ref b), .val (.int (Int32.ofNat (o + i))), .val (.ref d), .val (.int (Int32.ofNat (q + i))), .val (.int (Int32.ofNat len)), .val (.int (Int32.ofNat i)), z] [])) → ∃ (T' : State) (B' : Cell) (z' : Slot), Stand p l e { frames := 0, locals := 0, cells := 0, slots := 0 } s m #[.ref b, .int (Int32.ofNat o), .ref d, .int (Int32.ofNat q), .int (Int32.ofNat len)] below meth c T' ([] ++ copyLocs d q len) 0 0 ∧ Put d B' s₁ T' ∧ Laid B B' q (q + len) (fun j => Value.int (lo8 (cv A (o + (j - q))))) ∧
      Steps p.tables e below (s₁.setTop (entryFrame m #[.ref b, .int (Int32.ofNat o), .ref d, .int (Int32.ofNat q), .int (Int32.ofNat len)] 7)) (T'.setTop (mkF m 3 #[.val (.ref b), .val (.int (Int32.ofNat (o + len))), .val (.ref d), .val (.int (Int32.ofNat (q + len))), .val (.int (Int32.ofNat len)), .val (.int (Int32.ofNat len)), z'] [])) := by
    intro r
    induction r with
    | zero =>
      intro i hi z hz Tl Bk Xl pl fl cl
      have hil : i = len := by omega
      rw [hil] at Xl fl cl
      exact ⟨Tl, Bk, z, Xl, pl, fl, cl⟩
    | succ r ih =>
      intro i hi z hz Tl Bk Xl pl fl cl
      have all := X0.warmed.alike.symm.trans Xl.warmed.alike
      have hAl := hA0.keep all (pl.other hne hA0.1)
      have hBk := hB0.like all pl.1 fl.1 fl.2.1 fl.2.2.1
      have hlt : q + i < Bk.slots.size := by rw [fl.2.2.1]; omega
      have c3 : Steps p.tables e below (s₁.setTop (entryFrame m #[.ref b, .int (Int32.ofNat o), .ref d, .int (Int32.ofNat q), .int (Int32.ofNat len)] 7)) (Tl.setTop (mkF m 12 #[.val (.ref b), .val (.int (Int32.ofNat (o + i))), .val (.ref d), .val (.int (Int32.ofNat (q + i))), .val (.int (Int32.ofNat len)), .val (.int (Int32.ofNat i)), z] [.int (Int32.ofNat (o + i)), .ref b])) := cl.trans (by
        refine XS.iload Xl.here hexec rfl (hb hbytes d3) rfl ?_
        refine XS.iload Xl.here hexec rfl (hb hbytes d5) rfl ?_
        refine XS.icmpNo Xl.here hexec rfl (hb hbytes d7) rfl (ii_ge_f (lt32 (by omega) (by omega))) ?_
        refine XS.aloadN Xl.here hexec rfl (hb hbytes d10) rfl rfl ?_
        refine XS.iloadN Xl.here hexec rfl (hb hbytes d11) rfl ?_
        exact Steps.refl _)
      have c4 : Steps p.tables e below (s₁.setTop (entryFrame m #[.ref b, .int (Int32.ofNat o), .ref d, .int (Int32.ofNat q), .int (Int32.ofNat len)] 7)) (Tl.setTop (mkF m 13 #[.val (.ref b), .val (.int (Int32.ofNat (o + i))), .val (.ref d), .val (.int (Int32.ofNat (q + i))), .val (.int (Int32.ofNat len)), .val (.int (Int32.ofNat i)), z] [.int (cv A (o + i))])) := c3.trans (by
        refine Xl.aget hexec hAl rfl (hA.get (i := o + i) (by omega)) rfl rfl (hb hbytes d12) ?_
        exact Steps.refl _)
      have c5 : Steps p.tables e below (s₁.setTop (entryFrame m #[.ref b, .int (Int32.ofNat o), .ref d, .int (Int32.ofNat q), .int (Int32.ofNat len)] 7)) (Tl.setTop (mkF m 15 #[.val (.ref b), .val (.int (Int32.ofNat (o + i))), .val (.ref d), .val (.int (Int32.ofNat (q + i))), .val (.int (Int32.ofNat len)), .val (.int (Int32.ofNat i)), .val (.int (cv A (o + i)))] [])) := c4.trans (by
        refine XS.istoreS Xl.here hexec rfl (hb hbytes d13) rfl rfl hz ?_
        exact Steps.refl _)
      have c6 : Steps p.tables e below (s₁.setTop (entryFrame m #[.ref b, .int (Int32.ofNat o), .ref d, .int (Int32.ofNat q), .int (Int32.ofNat len)] 7)) (Tl.setTop (mkF m 31 #[.val (.ref b), .val (.int (Int32.ofNat (o + i))), .val (.ref d), .val (.int (Int32.ofNat (q + i))), .val (.int (Int32.ofNat len)), .val (.int (Int32.ofNat i)), .val (.int (cv A (o + i)))] [.int (lo8 (cv A (o + i))), .int (Int32.ofNat (q + i)), .ref d])) := c5.trans (by
        refine XS.iload Xl.here hexec rfl (hb hbytes d15) rfl ?_
        refine sipushV Xl.here hexec rfl 255 (hb hbytes d17) (by decide) ?_
        refine XS.icmpYes Xl.here hexec rfl (pc0 := 20) rfl (hb hbytes d20) rfl (ii_le_t (hp i (by omega))) (by decide) rfl ?_
        refine XS.aloadN Xl.here hexec rfl (hb hbytes d26) rfl rfl ?_
        refine XS.iloadN Xl.here hexec rfl (hb hbytes d27) rfl ?_
        refine XS.iload Xl.here hexec rfl (hb hbytes d28) rfl ?_
        refine i2b Xl.here hexec rfl (hb hbytes d30) rfl ?_
        exact Steps.refl _)
      obtain ⟨T7, X7, p7, st7⟩ := Xl.aput hexec hBk rfl hlt rfl (fits_lo8 (cv A (o + i))) (g := (mkF m 31 #[.val (.ref b), .val (.int (Int32.ofNat (o + i))), .val (.ref d), .val (.int (Int32.ofNat (q + i))), .val (.int (Int32.ofNat len)), .val (.int (Int32.ofNat i)), .val (.int (cv A (o + i)))] [.int (lo8 (cv A (o + i))), .int (Int32.ofNat (q + i)), .ref d])) rfl (rest := []) rfl (hb hbytes d31)
      have c8 : Steps p.tables e below (s₁.setTop (entryFrame m #[.ref b, .int (Int32.ofNat o), .ref d, .int (Int32.ofNat q), .int (Int32.ofNat len)] 7)) (T7.setTop (mkF m 32 #[.val (.ref b), .val (.int (Int32.ofNat (o + i))), .val (.ref d), .val (.int (Int32.ofNat (q + i))), .val (.int (Int32.ofNat len)), .val (.int (Int32.ofNat i)), .val (.int (cv A (o + i)))] [])) := c6.trans (st7 _ (Steps.refl _))
      have c9 : Steps p.tables e below (s₁.setTop (entryFrame m #[.ref b, .int (Int32.ofNat o), .ref d, .int (Int32.ofNat q), .int (Int32.ofNat len)] 7)) (T7.setTop (mkF m 3 #[.val (.ref b), .val (.int (Int32.ofNat (o + i) + 1)), .val (.ref d), .val (.int (Int32.ofNat (q + i) + 1)), .val (.int (Int32.ofNat len)), .val (.int (Int32.ofNat i + 1)), .val (.int (cv A (o + i)))] [])) := c8.trans (by
        refine iincV X7.here hexec rfl 1 (hb hbytes d32) (by decide) rfl rfl ?_
        refine iincV X7.here hexec rfl 1 (hb hbytes d35) (by decide) rfl rfl ?_
        refine iincV X7.here hexec rfl 1 (hb hbytes d38) (by decide) rfl rfl ?_
        refine XS.goto X7.here hexec rfl (pc0 := 41) rfl (hb hbytes d41) (by decide) rfl ?_
        exact Steps.refl _)
      have c10 : Steps p.tables e below (s₁.setTop (entryFrame m #[.ref b, .int (Int32.ofNat o), .ref d, .int (Int32.ofNat q), .int (Int32.ofNat len)] 7)) (T7.setTop (mkF m 3 #[.val (.ref b), .val (.int (Int32.ofNat (o + (i + 1)))), .val (.ref d), .val (.int (Int32.ofNat (q + (i + 1)))), .val (.int (Int32.ofNat len)), .val (.int (Int32.ofNat (i + 1))), .val (.int (cv A (o + i)))] [])) := by
        have := c9
        rw [succ32, succ32, succ32] at this
        exact this
      exact ih (i + 1) (by omega) _ (Or.inr ⟨_, rfl, rfl⟩) T7 _ (by rw [copyLocs_step, ← List.append_assoc]; exact X7) (pl.trans p7) (fl.step (by omega) hlt (by simp)) c10
  obtain ⟨T9, B9, z9, X9, p9, f9, g9⟩ := loop len 0 (by omega) .unset (Or.inl rfl) s₁ B (by simpa [copyLocs] using X0) ⟨hB0.1, fun _ _ => rfl, rfl⟩ (Laid.zero _ _ _) c2
  have c11 : Steps p.tables e below (s₁.setTop (entryFrame m #[.ref b, .int (Int32.ofNat o), .ref d, .int (Int32.ofNat q), .int (Int32.ofNat len)] 7)) (T9.setTop (mkF m 46 #[.val (.ref b), .val (.int (Int32.ofNat (o + len))), .val (.ref d), .val (.int (Int32.ofNat (q + len))), .val (.int (Int32.ofNat len)), .val (.int (Int32.ofNat len)), z9] [.int (Int32.ofNat len)])) := g9.trans (by
    refine XS.iload X9.here hexec rfl (hb hbytes d3) rfl ?_
    refine XS.iload X9.here hexec rfl (hb hbytes d5) rfl ?_
    refine XS.icmpYes X9.here hexec rfl (pc0 := 7) rfl (hb hbytes d7) rfl (ii_ge_t (nlt32 (by omega) (Nat.le_refl _))) (by decide) rfl ?_
    refine XS.iload X9.here hexec rfl (hb hbytes d44) rfl ?_
    exact Steps.refl _)
  exact ⟨T9, some (.int (Int32.ofNat len)), _, _, _, X9, by simp, rfl, rfl, (fun h => by cases h), ⟨rfl, B9, p9.from hh0, f9⟩, fun fs hl => c11.trans (X9.ireturnOut hexec hret rfl (Or.inl rfl) (hb hbytes d46) hl)⟩
end Cmp5
namespace Cmp3
def yN : MethodName := ⟨"java/lang/StringUTF16", "compress", "([CII)[B"⟩
abbrev yB : ByteArray := jdk_52_method_16_code
theorem d0 : decode yB 0 = .ok (.iload_n 2, 1) := by decide +kernel
theorem d1 : decode yB 1 = .ok (.newarray .byte, 2) := by decide +kernel
theorem d3 : decode yB 3 = .ok (.astore_n 3, 1) := by decide +kernel
theorem d4 : decode yB 4 = .ok (.aload_n 0, 1) := by decide +kernel
theorem d5 : decode yB 5 = .ok (.iload_n 1, 1) := by decide +kernel
theorem d6 : decode yB 6 = .ok (.aload_n 3, 1) := by decide +kernel
theorem d7 : decode yB 7 = .ok (.iconst 0, 1) := by decide +kernel
theorem d8 : decode yB 8 = .ok (.iload_n 2, 1) := by decide +kernel
theorem d9 : decode yB 9 = .ok (.invokestatic 115, 3) := by decide +kernel
theorem d12 : decode yB 12 = .ok (.istore 4, 2) := by decide +kernel
theorem d14 : decode yB 14 = .ok (.iload 4, 2) := by decide +kernel
theorem d16 : decode yB 16 = .ok (.iload_n 2, 1) := by decide +kernel
theorem d17 : decode yB 17 = .ok (.if_icmp (.eq) 40, 3) := by decide +kernel
theorem d57 : decode yB 57 = .ok (.aload_n 3, 1) := by decide +kernel
theorem d58 : decode yB 58 = .ok (.areturn, 1) := by decide +kernel
def site : List Cond := [.arrayClass .byte, Cmp5.tab] ++ staticW U16 115 Cmp5.yN
def tab : Cond := tabOf yN yB 6 (some (.array .byte)) site
def P (b : Addr) (A : Cell) (o len : Nat) (args : Array Value) (s : State) : Prop := args = #[.ref b, .int (Int32.ofNat o), .int (Int32.ofNat len)] ∧ Ch b A s ∧ o + len ≤ A.slots.size ∧ len ≤ 536870912 ∧ ∀ i, i < len → ¬ 255 < cv A (o + i)
def E (b : Addr) (A : Cell) (o len : Nat) (r : Option Value) (s u : State) : Prop := NewArr .byte "[B" len (fun j => .int (lo8 (cv A (o + j)))) r s u ∧ u.heap.size = s.heap.size + 1
/-- no char of the range above 255: a new byte[] of their low bytes -/
theorem law (l : Launch) (b : Addr) (A : Cell) (o len : Nat) : Law l yN 3 3 1 18 yB 6 (some (.array .byte)) site (P b A o len) (E b A o len) [] 1 len := by
  refine Law.of_walk (plainFor_of_name (by decide +kernel)) (by decide +kernel) (by decide +kernel) (by decide) (fun _ _ h => by rw [h.1]; rfl) (fun _ U U' hal hh h => ⟨h.1, h.2.1.mv hal hh, h.2.2⟩) (fun r U U' V V' h1 hal h2 h => ⟨NewArr.mv r U U' V V' h1 hal h2 h.1, by rw [h1, h2]; exact h.2⟩) ?_
  intro p e s m args below meth c s₁ X0 hexec hbytes hml hret hlk hnm hown hh0 W hP
  obtain ⟨rfl, hA, l1, l2, hp⟩ := hP
  have a31 := hA.1.2.2.2
  have c1 : Steps p.tables e below (s₁.setTop (entryFrame m #[.ref b, .int (Int32.ofNat o), .int (Int32.ofNat len)] 6)) (s₁.setTop (mkF m 0 #[.val (.ref b), .val (.int (Int32.ofNat o)), .val (.int (Int32.ofNat len)), .unset, .unset, .unset] [])) := entry rfl
  have c2 : Steps p.tables e below (s₁.setTop (entryFrame m #[.ref b, .int (Int32.ofNat o), .int (Int32.ofNat len)] 6)) (s₁.setTop (mkF m 1 #[.val (.ref b), .val (.int (Int32.ofNat o)), .val (.int (Int32.ofNat len)), .unset, .unset, .unset] [.int (Int32.ofNat len)])) := c1.trans (by
    refine XS.iloadN X0.here hexec rfl (hb hbytes d0) rfl ?_
    exact Steps.refl _)
  obtain ⟨T3, B3, X3, ba3, bs3, bv3, bh3, bf3, st3⟩ := X0.anew hexec (atype := .byte) (wk W (.arrayClass .byte)) rfl (by show len * 1 ≤ _; omega) (by omega) (g := (mkF m 1 #[.val (.ref b), .val (.int (Int32.ofNat o)), .val (.int (Int32.ofNat len)), .unset, .unset, .unset] [.int (Int32.ofNat len)])) rfl (hb hbytes d1) (rest := []) rfl (Nat.le_refl _) (by show 0 + len ≤ len; omega)
  rw [hh0] at ba3 st3
  have kp3 : XT.Kept s T3 := (XT.Kept.of_eq hh0).push bh3
  have hA3 := hA.keep X3.warmed.alike (kp3 _ _ hA.1.1)
  have hne : b ≠ s.heap.size := hA.1.ne
  have c4 : Steps p.tables e below (s₁.setTop (entryFrame m #[.ref b, .int (Int32.ofNat o), .int (Int32.ofNat len)] 6)) (T3.setTop (mkF m 3 #[.val (.ref b), .val (.int (Int32.ofNat o)), .val (.int (Int32.ofNat len)), .unset, .unset, .unset] [.ref s.heap.size])) := c2.trans (st3 _ (Steps.refl _))
  have c5 : Steps p.tables e below (s₁.setTop (entryFrame m #[.ref b, .int (Int32.ofNat o), .int (Int32.ofNat len)] 6)) (T3.setTop (mkF m 9 #[.val (.ref b), .val (.int (Int32.ofNat o)), .val (.int (Int32.ofNat len)), .val (.ref s.heap.size), .unset, .unset] [.int (Int32.ofNat len), .int 0, .ref s.heap.size, .int (Int32.ofNat o), .ref b])) := c4.trans (by
    refine XS.astoreN X3.here hexec rfl (hb hbytes d3) rfl rfl rfl ?_
    refine XS.aloadN X3.here hexec rfl (hb hbytes d4) rfl rfl ?_
    refine XS.iloadN X3.here hexec rfl (hb hbytes d5) rfl ?_
    refine XS.aloadN X3.here hexec rfl (hb hbytes d6) rfl rfl ?_
    refine iconstV X3.here hexec rfl 0 (hb hbytes d7) (by decide) ?_
    refine XS.iloadN X3.here hexec rfl (hb hbytes d8) rfl ?_
    exact Steps.refl _)
  obtain ⟨v6, T6, X6, E6, g6⟩ := X3.callS hexec (Cmp5.law l b A s.heap.size B3 o 0 len) hown (wks W (staticW U16 115 Cmp5.yN)) (wk W Cmp5.tab) (W := 0) (Nat.le_of_ble_eq_true rfl) (Nat.le_of_ble_eq_true rfl) (Nat.le_refl _) (by show 0 + len + 0 ≤ len; omega) (g := (mkF m 9 #[.val (.ref b), .val (.int (Int32.ofNat o)), .val (.int (Int32.ofNat len)), .val (.ref s.heap.size), .unset, .unset] [.int (Int32.ofNat len), .int (Int32.ofNat 0), .ref s.heap.size, .int (Int32.ofNat o), .ref b])) rfl (by rw [hml]; rfl) c5 (argsL := [.ref b, .int (Int32.ofNat o), .ref s.heap.size, .int (Int32.ofNat 0), .int (Int32.ofNat len)]) (rest := []) rfl rfl (by show 2 * 0 + 0 ≤ _; decide) (hb hbytes d9) (⟨rfl, hA3, ba3, hne, l1, by rw [bs3]; simp, hp⟩)
  obtain ⟨rfl, B6, p6, f6⟩ := E6
  have c7 : Steps p.tables e below (s₁.setTop (entryFrame m #[.ref b, .int (Int32.ofNat o), .int (Int32.ofNat len)] 6)) (T6.setTop (mkF m 12 #[.val (.ref b), .val (.int (Int32.ofNat o)), .val (.int (Int32.ofNat len)), .val (.ref s.heap.size), .unset, .unset] [.int (Int32.ofNat len)])) := g6
  have c8 : Steps p.tables e below (s₁.setTop (entryFrame m #[.ref b, .int (Int32.ofNat o), .int (Int32.ofNat len)] 6)) (T6.setTop (mkF m 58 #[.val (.ref b), .val (.int (Int32.ofNat o)), .val (.int (Int32.ofNat len)), .val (.ref s.heap.size), .val (.int (Int32.ofNat len)), .unset] [.ref s.heap.size])) := c7.trans (by
    refine XS.istore X6.here hexec rfl (hb hbytes d12) rfl rfl ?_
    refine XS.iload X6.here hexec rfl (hb hbytes d14) rfl ?_
    refine XS.iloadN X6.here hexec rfl (hb hbytes d16) rfl ?_
    refine XS.icmpYes X6.here hexec rfl (pc0 := 17) rfl (hb hbytes d17) rfl (ii_eq_t rfl) (by decide) rfl ?_
    refine XS.aloadN X6.here hexec rfl (hb hbytes d57) rfl rfl ?_
    exact Steps.refl _)
  have X8 := X6.wide (L' := []) (cells' := 1) (slots' := len) (fun x hx hlt => by
    simp only [List.nil_append, copyLocs, List.mem_map, List.mem_range] at hx
    obtain ⟨i, -, rfl⟩ := hx
    exact absurd hlt (Nat.lt_irrefl _)) (Nat.le_refl _) (by omega)
  exact ⟨T6, some (.ref s.heap.size), _, _, _, X8, rfl, rfl, rfl, (fun h => by cases h), ⟨⟨rfl, B6, ba3.like (X3.warmed.alike.symm.trans X6.warmed.alike) p6.1 f6.1 f6.2.1 f6.2.2.1, f6.2.1.trans bv3, by rw [X6.warmed.alike.findClass, f6.1]; exact bf3, by rw [f6.2.2.1, bs3]; simp, fun j hj => by rw [f6.2.2.2 j, if_pos (by omega)]; rfl, kp3.put p6 (Nat.le_refl _)⟩, by rw [p6.2.2, bh3, hh0]; simp⟩, fun fs hl => c8.trans (X8.areturnOut hexec rfl hret rfl (hb hbytes d58) hl)⟩
end Cmp3
namespace CodL
def yN : MethodName := ⟨"java/lang/StringUTF16", "coderFromArrayLen", "([BI)B"⟩
abbrev yB : ByteArray := jdk_52_method_15_code
theorem d0 : decode yB 0 = .ok (.iload_n 1, 1) := by decide +kernel
theorem d1 : decode yB 1 = .ok (.aload_n 0, 1) := by decide +kernel
theorem d2 : decode yB 2 = .ok (.arraylength, 1) := by decide +kernel
theorem d3 : decode yB 3 = .ok (.isub, 1) := by decide +kernel
theorem d4 : decode yB 4 = .ok (.bipush 31, 2) := by decide +kernel
theorem d6 : decode yB 6 = .ok (.iushr, 1) := by decide +kernel
theorem d7 : decode yB 7 = .ok (.i2b, 1) := by decide +kernel
theorem d8 : decode yB 8 = .ok (.ireturn, 1) := by decide +kernel
def site : List Cond := []
def tab : Cond := tabOf yN yB 2 (some .byte) site
def P (d : Addr) (B : Cell) (args : Array Value) (s : State) : Prop := args = #[.ref d, .int (Int32.ofNat B.slots.size)] ∧ Arr .byte d B s
def E (r : Option Value) (s u : State) : Prop := XT.PureE (some (.int 0)) r s u
/-- an array as long as the number of chars: LATIN1 -/
theorem law (l : Launch) (d : Addr) (B : Cell) : Law l yN 2 2 0 0 yB 2 (some .byte) site (P d B) E [] 0 0 := by
  refine Law.of_walk (plainFor_of_name (by decide +kernel)) (by decide +kernel) (by decide +kernel) (by decide) (fun _ _ h => by rw [h.1]; rfl) (fun _ U U' hal hh h => ⟨h.1, h.2.mv hal hh⟩) (fun r U U' V V' h1 hal h2 h => XT.PureE.mv r U U' V V' h1 hal h2 h) ?_
  intro p e s m args below meth c s₁ X0 hexec hbytes hml hret hlk hnm hown hh0 W hP
  obtain ⟨rfl, hB⟩ := hP
  have hB0 := hB.mv X0.warmed.alike hh0
  have c1 : Steps p.tables e below (s₁.setTop (entryFrame m #[.ref d, .int (Int32.ofNat B.slots.size)] 2)) (s₁.setTop (mkF m 0 #[.val (.ref d), .val (.int (Int32.ofNat B.slots.size))] [])) := entry rfl
  have c2 : Steps p.tables e below (s₁.setTop (entryFrame m #[.ref d, .int (Int32.ofNat B.slots.size)] 2)) (s₁.setTop (mkF m 2 #[.val (.ref d), .val (.int (Int32.ofNat B.slots.size))] [.ref d, .int (Int32.ofNat B.slots.size)])) := c1.trans (by
    refine XS.iloadN X0.here hexec rfl (hb hbytes d0) rfl ?_
    refine XS.aloadN X0.here hexec rfl (hb hbytes d1) rfl rfl ?_
    exact Steps.refl _)
  have c3 : Steps p.tables e below (s₁.setTop (entryFrame m #[.ref d, .int (Int32.ofNat B.slots.size)] 2)) (s₁.setTop (mkF m 8 #[.val (.ref d), .val (.int (Int32.ofNat B.slots.size))] [.int (lo8 (ushr (Int32.ofNat B.slots.size - Int32.ofNat B.slots.size) 31))])) := c2.trans (by
    refine X0.alen hexec hB0 rfl rfl (hb hbytes d2) ?_
    refine XS.isub X0.here hexec rfl (hb hbytes d3) rfl ?_
    refine bipushV X0.here hexec rfl 31 (hb hbytes d4) (by decide) ?_
    refine iushr X0.here hexec rfl (hb hbytes d6) rfl ?_
    refine i2b X0.here hexec rfl (hb hbytes d7) rfl ?_
    exact Steps.refl _)
  have e0 : lo8 (ushr (Int32.ofNat B.slots.size - Int32.ofNat B.slots.size) 31) = 0 := by rw [Int32.sub_self]; decide
  rw [e0] at c3
  exact ⟨s₁, some (.int 0), _, _, _, X0, rfl, rfl, rfl, (fun h => by cases h), ⟨rfl, hh0⟩, fun fs hl => c3.trans (X0.ireturnOut hexec hret rfl (Or.inr (Or.inr (Or.inl rfl))) (hb hbytes d8) hl)⟩
end CodL
/-- the String at a is Latin-1 over a new byte[] (the heap's one new cell): the low bytes of the len chars of A from o on; every cell but a is kept -/
def Got (a : Addr) (D : Cell) (fV fC : Field) (A : Cell) (o len : Nat) (r : Option Value) (s u : State) : Prop := r = none ∧ ∃ D' V : Cell, Blank "java/lang/String" a D' u ∧ Same D D' [fV.slot, fC.slot] ∧ D'.slots[fV.slot]? = some (.ref s.heap.size) ∧ D'.slots[fC.slot]? = some (.int 0) ∧ Arr .byte s.heap.size V u ∧ V.vm = .none ∧ u.vm.findClass "[B" = some V.cls ∧ V.slots.size = len ∧ (∀ j, j < len → V.slots[j]? = some (.int (lo8 (cv A (o + j))))) ∧ (∀ (y : Addr) (c : Cell), y ≠ a → s.heap[y]? = some c → u.heap[y]? = some c) ∧ u.heap.size = s.heap.size + 1
theorem Got.mv {a : Addr} {D A : Cell} {fV fC : Field} {o len : Nat} : ∀ r (U U' V V' : State), U'.heap = U.heap → V.vm.Alike V'.vm → V'.heap = V.heap → Got a D fV fC A o len r U V → Got a D fV fC A o len r U' V' :=
  fun r U U' V V' h1 hal h2 ⟨e0, D', X, a1, a2, a3, a4, a5, a6, a7, a8, a9, a10, a11⟩ => ⟨e0, D', X, a1.mv hal h2, a2, by rw [h1]; exact a3, a4, by rw [h1]; exact a5.mv hal h2, a6, by rw [hal.findClass]; exact a7, a8, a9, by rw [h1, h2]; exact a10, by rw [h1, h2]; exact a11⟩
namespace New4
def yN : MethodName := ⟨"java/lang/String", "<init>", "([CIILjava/lang/Void;)V"⟩
abbrev yB : ByteArray := jdk_42_method_149_code
theorem d0 : decode yB 0 = .ok (.aload_n 0, 1) := by decide +kernel
theorem d1 : decode yB 1 = .ok (.invokespecial 1, 3) := by decide +kernel
theorem d4 : decode yB 4 = .ok (.iload_n 3, 1) := by decide +kernel
theorem d5 : decode yB 5 = .ok (.ifCond (.ne) 22, 3) := by decide +kernel
theorem d27 : decode yB 27 = .ok (.getstatic 38, 3) := by decide +kernel
theorem d30 : decode yB 30 = .ok (.ifCond (.eq) 28, 3) := by decide +kernel
theorem d33 : decode yB 33 = .ok (.aload_n 1, 1) := by decide +kernel
theorem d34 : decode yB 34 = .ok (.iload_n 2, 1) := by decide +kernel
theorem d35 : decode yB 35 = .ok (.iload_n 3, 1) := by decide +kernel
theorem d36 : decode yB 36 = .ok (.invokestatic 177, 3) := by decide +kernel
theorem d39 : decode yB 39 = .ok (.astore 5, 2) := by decide +kernel
theorem d41 : decode yB 41 = .ok (.aload_n 0, 1) := by decide +kernel
theorem d42 : decode yB 42 = .ok (.aload 5, 2) := by decide +kernel
theorem d44 : decode yB 44 = .ok (.iload_n 3, 1) := by decide +kernel
theorem d45 : decode yB 45 = .ok (.invokestatic 47, 3) := by decide +kernel
theorem d48 : decode yB 48 = .ok (.putfield 15, 3) := by decide +kernel
theorem d51 : decode yB 51 = .ok (.aload_n 0, 1) := by decide +kernel
theorem d52 : decode yB 52 = .ok (.aload 5, 2) := by decide +kernel
theorem d54 : decode yB 54 = .ok (.putfield 9, 3) := by decide +kernel
theorem d57 : decode yB 57 = .ok (.return_, 1) := by decide +kernel
def site : List Cond := [.fieldLink "java/lang/String" 38 "java/lang/String" "COMPACT_STRINGS" "Z", Cmp3.tab, CodL.tab, .laysFinal "java/lang/String" "java/lang/String" "value" "[B", .fieldLink "java/lang/String" 9 "java/lang/String" "value" "[B", .laysFinal "java/lang/String" "java/lang/String" "coder" "B", .fieldLink "java/lang/String" 15 "java/lang/String" "coder" "B"] ++ objW "java/lang/String" 1 ++ staticW "java/lang/String" 177 Cmp3.yN ++ staticW "java/lang/String" 47 CodL.yN
def tab : Cond := tabOf yN yB 6 none site
def P (a : Addr) (D : Cell) (fV fC : Field) (b : Addr) (A : Cell) (z : Int32) (o len : Nat) (args : Array Value) (s : State) : Prop := args = #[.ref a, .ref b, .int (Int32.ofNat o), .int (Int32.ofNat len), .null] ∧ Blank "java/lang/String" a D s ∧ Found "java/lang/String" "value" "[B" fV s ∧ Found "java/lang/String" "coder" "B" fC s ∧ Ch b A s ∧ StaticIs s "java/lang/String" "COMPACT_STRINGS" "Z" (.int z) ∧ ¬ z = 0 ∧ 0 < len ∧ o + len ≤ A.slots.size ∧ len ≤ 536870912 ∧ ∀ i, i < len → ¬ 255 < cv A (o + i)
def E (a : Addr) (D : Cell) (fV fC : Field) (A : Cell) (o len : Nat) (r : Option Value) (s u : State) : Prop := Got a D fV fC A o len r s u
/-- len > 0, no char of the range above 255: a Latin-1 String of their low bytes -/
theorem law (l : Launch) (a : Addr) (D : Cell) (fV fC : Field) (b : Addr) (A : Cell) (z : Int32) (o len : Nat) : Law l yN 5 4 2 35 yB 6 none site (P a D fV fC b A z o len) (E a D fV fC A o len) [⟨a, fC.slot⟩, ⟨a, fV.slot⟩] 1 len := by
  refine Law.of_walk (plainFor_of_name (by decide +kernel)) (by decide +kernel) (by decide +kernel) (by decide) (fun _ _ h => by rw [h.1]; rfl) (fun _ U U' hal hh h => ⟨h.1, h.2.1.mv hal hh, h.2.2.1.al hal, h.2.2.2.1.al hal, h.2.2.2.2.1.mv hal hh, h.2.2.2.2.2.1.there hal hh, h.2.2.2.2.2.2⟩) (fun r U U' V V' h1 hal h2 h => Got.mv r U U' V V' h1 hal h2 h) ?_
  intro p e s m args below meth c s₁ X0 hexec hbytes hml hret hlk hnm hown hh0 W hP
  obtain ⟨rfl, hB, f1, f2, hA, s1, hz, l0, l1, l2, hp⟩ := hP
  have a31 := hA.1.2.2.2
  have c1 : Steps p.tables e below (s₁.setTop (entryFrame m #[.ref a, .ref b, .int (Int32.ofNat o), .int (Int32.ofNat len), .null] 6)) (s₁.setTop (mkF m 0 #[.val (.ref a), .val (.ref b), .val (.int (Int32.ofNat o)), .val (.int (Int32.ofNat len)), .val .null, .unset] [])) := entry rfl
  have c2 : Steps p.tables e below (s₁.setTop (entryFrame m #[.ref a, .ref b, .int (Int32.ofNat o), .int (Int32.ofNat len), .null] 6)) (s₁.setTop (mkF m 1 #[.val (.ref a), .val (.ref b), .val (.int (Int32.ofNat o)), .val (.int (Int32.ofNat len)), .val .null, .unset] [.ref a])) := c1.trans (by
    refine XS.aloadN X0.here hexec rfl (hb hbytes d0) rfl rfl ?_
    exact Steps.refl _)
  obtain ⟨T3, X3, q3, st3⟩ := X0.oinit hexec hown (wks W (objW "java/lang/String" 1)) (g := (mkF m 1 #[.val (.ref a), .val (.ref b), .val (.int (Int32.ofNat o)), .val (.int (Int32.ofNat len)), .val .null, .unset] [.ref a])) rfl (by rw [hml]; rfl) (rest := []) rfl (hb hbytes d1) (W := 0) (by show 2 * 0 + 0 ≤ _; decide) (Nat.le_of_ble_eq_true rfl) (Nat.le_of_ble_eq_true rfl)
  have hh3 := q3.trans hh0
  have c4 : Steps p.tables e below (s₁.setTop (entryFrame m #[.ref a, .ref b, .int (Int32.ofNat o), .int (Int32.ofNat len), .null] 6)) (T3.setTop (mkF m 27 #[.val (.ref a), .val (.ref b), .val (.int (Int32.ofNat o)), .val (.int (Int32.ofNat len)), .val .null, .unset] [])) := (c2.trans (st3 _ (Steps.refl _))).trans (by
    refine XS.iloadN X3.here hexec rfl (hb hbytes d4) rfl ?_
    refine XS.ifYes X3.here hexec rfl (pc0 := 5) rfl (hb hbytes d5) rfl (i0_ne_t (nz32 (by omega) l0)) (by decide) rfl ?_
    exact Steps.refl _)
  obtain ⟨T5, X5, q5, st5⟩ := X3.sget hexec hown (wk W (.fieldLink "java/lang/String" 38 "java/lang/String" "COMPACT_STRINGS" "Z")) s1 (fun _ _ h => by rw [hh3]; exact h) (g := (mkF m 27 #[.val (.ref a), .val (.ref b), .val (.int (Int32.ofNat o)), .val (.int (Int32.ofNat len)), .val .null, .unset] [])) rfl (hb hbytes d27)
  have hh5 := q5.trans hh3
  have c6 : Steps p.tables e below (s₁.setTop (entryFrame m #[.ref a, .ref b, .int (Int32.ofNat o), .int (Int32.ofNat len), .null] 6)) (T5.setTop (mkF m 30 #[.val (.ref a), .val (.ref b), .val (.int (Int32.ofNat o)), .val (.int (Int32.ofNat len)), .val .null, .unset] [.int z])) := c4.trans (st5 _ (Steps.refl _))
  have c7 : Steps p.tables e below (s₁.setTop (entryFrame m #[.ref a, .ref b, .int (Int32.ofNat o), .int (Int32.ofNat len), .null] 6)) (T5.setTop (mkF m 36 #[.val (.ref a), .val (.ref b), .val (.int (Int32.ofNat o)), .val (.int (Int32.ofNat len)), .val .null, .unset] [.int (Int32.ofNat len), .int (Int32.ofNat o), .ref b])) := c6.trans (by
    refine XS.ifNo X5.here hexec rfl (hb hbytes d30) rfl (i0_eq_f hz) ?_
    refine XS.aloadN X5.here hexec rfl (hb hbytes d33) rfl rfl ?_
    refine XS.iloadN X5.here hexec rfl (hb hbytes d34) rfl ?_
    refine XS.iloadN X5.here hexec rfl (hb hbytes d35) rfl ?_
    exact Steps.refl _)
  obtain ⟨v8, T8, X8, E8, g8⟩ := X5.callS hexec (Cmp3.law l b A o len) hown (wks W (staticW "java/lang/String" 177 Cmp3.yN)) (wk W Cmp3.tab) (W := 0) (Nat.le_of_ble_eq_true rfl) (Nat.le_of_ble_eq_true rfl) (Nat.le_refl _) (by show 0 + len ≤ len; omega) (g := (mkF m 36 #[.val (.ref a), .val (.ref b), .val (.int (Int32.ofNat o)), .val (.int (Int32.ofNat len)), .val .null, .unset] [.int (Int32.ofNat len), .int (Int32.ofNat o), .ref b])) rfl (by rw [hml]; rfl) c7 (argsL := [.ref b, .int (Int32.ofNat o), .int (Int32.ofNat len)]) (rest := []) rfl rfl (by show 2 * 0 + 0 ≤ _; decide) (hb hbytes d36) (⟨rfl, hA.mv X5.warmed.alike hh5, l1, l2, hp⟩)
  obtain ⟨e8, z8⟩ := E8
  obtain ⟨rfl, N, n1, n2, n3, n4, n5, n6⟩ := NewArr.mv _ T5 s _ _ hh5.symm (Vm.Alike.refl _) rfl e8
  rw [hh5] at z8
  have hB1 := hB.keep X8.warmed.alike (n6 _ _ hB.1)
  have hne : s.heap.size ≠ a := (Nat.ne_of_lt (Array.getElem?_eq_some_iff.mp hB.1).1).symm
  have c9 : Steps p.tables e below (s₁.setTop (entryFrame m #[.ref a, .ref b, .int (Int32.ofNat o), .int (Int32.ofNat len), .null] 6)) (T8.setTop (mkF m 39 #[.val (.ref a), .val (.ref b), .val (.int (Int32.ofNat o)), .val (.int (Int32.ofNat len)), .val .null, .unset] [.ref s.heap.size])) := g8
  have c10 : Steps p.tables e below (s₁.setTop (entryFrame m #[.ref a, .ref b, .int (Int32.ofNat o), .int (Int32.ofNat len), .null] 6)) (T8.setTop (mkF m 45 #[.val (.ref a), .val (.ref b), .val (.int (Int32.ofNat o)), .val (.int (Int32.ofNat len)), .val .null, .val (.ref s.heap.size)] [.int (Int32.ofNat N.slots.size), .ref s.heap.size, .ref a])) := by
    have hc : Steps p.tables e below (s₁.setTop (entryFrame m #[.ref a, .ref b, .int (Int32.ofNat o), .int (Int32.ofNat len), .null] 6)) (T8.setTop (mkF m 45 #[.val (.ref a), .val (.ref b), .val (.int (Int32.ofNat o)), .val (.int (Int32.ofNat len)), .val .null, .val (.ref s.heap.size)] [.int (Int32.ofNat len), .ref s.heap.size, .ref a])) := c9.trans (by
      refine XS.astore X8.here hexec rfl (hb hbytes d39) rfl rfl rfl ?_
      refine XS.aloadN X8.here hexec rfl (hb hbytes d41) rfl rfl ?_
      refine XS.aload X8.here hexec rfl (hb hbytes d42) rfl rfl ?_
      refine XS.iloadN X8.here hexec rfl (hb hbytes d44) rfl ?_
      exact Steps.refl _)
    rw [n4]; exact hc
  obtain ⟨v11, T11, X11, E11, g11⟩ := X8.callS hexec (CodL.law l s.heap.size N) hown (wks W (staticW "java/lang/String" 47 CodL.yN)) (wk W CodL.tab) (W := 1) (Nat.le_of_ble_eq_true rfl) (Nat.le_of_ble_eq_true rfl) (Nat.le_refl _) (by show 0 + len + 0 ≤ len; omega) (g := (mkF m 45 #[.val (.ref a), .val (.ref b), .val (.int (Int32.ofNat o)), .val (.int (Int32.ofNat len)), .val .null, .val (.ref s.heap.size)] [.int (Int32.ofNat N.slots.size), .ref s.heap.size, .ref a])) rfl (by rw [hml]; rfl) c10 (argsL := [.ref s.heap.size, .int (Int32.ofNat N.slots.size)]) (rest := [.ref a]) rfl rfl (by show 2 * 0 + (1 + 0) ≤ _; decide) (hb hbytes d45) (⟨rfl, n1⟩)
  obtain ⟨rfl, q11⟩ := E11
  have hB11 := hB1.mv (X8.warmed.alike.symm.trans X11.warmed.alike) q11
  have c12 : Steps p.tables e below (s₁.setTop (entryFrame m #[.ref a, .ref b, .int (Int32.ofNat o), .int (Int32.ofNat len), .null] 6)) (T11.setTop (mkF m 48 #[.val (.ref a), .val (.ref b), .val (.int (Int32.ofNat o)), .val (.int (Int32.ofNat len)), .val .null, .val (.ref s.heap.size)] [.int 0, .ref a])) := g11
  obtain ⟨T13, X13, p13, bl13, sl13, st13⟩ := X11.finit hexec hown (wk W (.fieldLink "java/lang/String" 15 "java/lang/String" "coder" "B")) (Or.inr ⟨_, (wk W (.laysFinal "java/lang/String" "java/lang/String" "coder" "B"))⟩) (Or.inl ⟨rfl, hnm⟩) f2 (Or.inl rfl) hB11 (t := .byte) (by decide +kernel) rfl (g := (mkF m 48 #[.val (.ref a), .val (.ref b), .val (.int (Int32.ofNat o)), .val (.int (Int32.ofNat len)), .val .null, .val (.ref s.heap.size)] [.int 0, .ref a])) rfl (rest := []) rfl (hb hbytes d48)
  have c14 : Steps p.tables e below (s₁.setTop (entryFrame m #[.ref a, .ref b, .int (Int32.ofNat o), .int (Int32.ofNat len), .null] 6)) (T13.setTop (mkF m 54 #[.val (.ref a), .val (.ref b), .val (.int (Int32.ofNat o)), .val (.int (Int32.ofNat len)), .val .null, .val (.ref s.heap.size)] [.ref s.heap.size, .ref a])) := (c12.trans (st13 _ (Steps.refl _))).trans (by
    refine XS.aloadN X13.here hexec rfl (hb hbytes d51) rfl rfl ?_
    refine XS.aload X13.here hexec rfl (hb hbytes d52) rfl rfl ?_
    exact Steps.refl _)
  obtain ⟨T15, X15, p15, bl15, sl15, st15⟩ := X13.finit hexec hown (wk W (.fieldLink "java/lang/String" 9 "java/lang/String" "value" "[B")) (Or.inr ⟨_, (wk W (.laysFinal "java/lang/String" "java/lang/String" "value" "[B"))⟩) (Or.inl ⟨rfl, hnm⟩) f1 (Or.inl rfl) bl13 (t := (.array .byte)) (by decide +kernel) rfl (g := (mkF m 54 #[.val (.ref a), .val (.ref b), .val (.int (Int32.ofNat o)), .val (.int (Int32.ofNat len)), .val .null, .val (.ref s.heap.size)] [.ref s.heap.size, .ref a])) rfl (rest := []) rfl (hb hbytes d54)
  have c16 : Steps p.tables e below (s₁.setTop (entryFrame m #[.ref a, .ref b, .int (Int32.ofNat o), .int (Int32.ofNat len), .null] 6)) (T15.setTop (mkF m 57 #[.val (.ref a), .val (.ref b), .val (.int (Int32.ofNat o)), .val (.int (Int32.ofNat len)), .val .null, .val (.ref s.heap.size)] [])) := c14.trans (st15 _ (Steps.refl _))
  have ap := apart (Or.inr ⟨_, (wk W (.laysFinal "java/lang/String" "java/lang/String" "value" "[B"))⟩) (Or.inr ⟨_, (wk W (.laysFinal "java/lang/String" "java/lang/String" "coder" "B"))⟩) f1 f2 (t₁ := .array .byte) (t₂ := .byte) (by decide +kernel) (by decide +kernel) (by decide)
  have al := X8.warmed.alike.symm.trans X15.warmed.alike
  have n7 : T11.heap[s.heap.size]? = some N := by rw [q11]; exact n1.1
  exact ⟨T15, none, _, _, _, X15, by simp, rfl, by omega, (fun _ => rfl), ⟨rfl, _, N, bl15, ((Same.refl D _).set _ (by simp)).set _ (by simp), sl15, (Cell.slots_setSlot_ne _ ap).trans sl13, n1.keep al (p15.other hne (p13.other hne n7)), n2, by rw [al.findClass]; exact n3, n4, n5, fun y c h1 h2 => p15.other h1 (p13.other h1 (by rw [q11]; exact n6 y c h2)), by rw [p15.2.2, p13.2.2, q11]; exact z8⟩, fun fs hl => c16.trans (X15.returnOut hexec hret (hb hbytes d57) hl)⟩
end New4
namespace New1
def yN : MethodName := ⟨"java/lang/String", "<init>", "([C)V"⟩
abbrev yB : ByteArray := jdk_42_method_3_code
theorem d0 : decode yB 0 = .ok (.aload_n 0, 1) := by decide +kernel
theorem d1 : decode yB 1 = .ok (.aload_n 1, 1) := by decide +kernel
theorem d2 : decode yB 2 = .ok (.iconst 0, 1) := by decide +kernel
theorem d3 : decode yB 3 = .ok (.aload_n 1, 1) := by decide +kernel
theorem d4 : decode yB 4 = .ok (.arraylength, 1) := by decide +kernel
theorem d5 : decode yB 5 = .ok (.aconst_null, 1) := by decide +kernel
theorem d6 : decode yB 6 = .ok (.invokespecial 27, 3) := by decide +kernel
theorem d9 : decode yB 9 = .ok (.return_, 1) := by decide +kernel
def site : List Cond := [New4.tab] ++ initW "java/lang/String" 27 New4.yN
def tab : Cond := tabOf yN yB 2 none site
def P (a : Addr) (D : Cell) (fV fC : Field) (b : Addr) (A : Cell) (z : Int32) (args : Array Value) (s : State) : Prop := args = #[.ref a, .ref b] ∧ Blank "java/lang/String" a D s ∧ Found "java/lang/String" "value" "[B" fV s ∧ Found "java/lang/String" "coder" "B" fC s ∧ Ch b A s ∧ StaticIs s "java/lang/String" "COMPACT_STRINGS" "Z" (.int z) ∧ ¬ z = 0 ∧ 0 < A.slots.size ∧ A.slots.size ≤ 536870912 ∧ ∀ i, i < A.slots.size → ¬ 255 < cv A i
def E (a : Addr) (D : Cell) (fV fC : Field) (A : Cell) (r : Option Value) (s u : State) : Prop := Got a D fV fC A 0 A.slots.size r s u
/-- new String(chars), not empty, no char above 255: a Latin-1 String of their low bytes -/
theorem law (l : Launch) (a : Addr) (D : Cell) (fV fC : Field) (b : Addr) (A : Cell) (z : Int32) : Law l yN 2 1 3 52 yB 2 none site (P a D fV fC b A z) (E a D fV fC A) [⟨a, fC.slot⟩, ⟨a, fV.slot⟩] 1 A.slots.size := by
  refine Law.of_walk (plainFor_of_name (by decide +kernel)) (by decide +kernel) (by decide +kernel) (by decide) (fun _ _ h => by rw [h.1]; rfl) (fun _ U U' hal hh h => ⟨h.1, h.2.1.mv hal hh, h.2.2.1.al hal, h.2.2.2.1.al hal, h.2.2.2.2.1.mv hal hh, h.2.2.2.2.2.1.there hal hh, h.2.2.2.2.2.2⟩) (fun r U U' V V' h1 hal h2 h => Got.mv r U U' V V' h1 hal h2 h) ?_
  intro p e s m args below meth c s₁ X0 hexec hbytes hml hret hlk hnm hown hh0 W hP
  obtain ⟨rfl, hB, f1, f2, hA, s1, hz, l0, l2, hp⟩ := hP
  have c1 : Steps p.tables e below (s₁.setTop (entryFrame m #[.ref a, .ref b] 2)) (s₁.setTop (mkF m 0 #[.val (.ref a), .val (.ref b)] [])) := entry rfl
  have c2 : Steps p.tables e below (s₁.setTop (entryFrame m #[.ref a, .ref b] 2)) (s₁.setTop (mkF m 6 #[.val (.ref a), .val (.ref b)] [.null, .int (Int32.ofNat A.slots.size), .int 0, .ref b, .ref a])) := c1.trans (by
    refine XS.aloadN X0.here hexec rfl (hb hbytes d0) rfl rfl ?_
    refine XS.aloadN X0.here hexec rfl (hb hbytes d1) rfl rfl ?_
    refine iconstV X0.here hexec rfl 0 (hb hbytes d2) (by decide) ?_
    refine XS.aloadN X0.here hexec rfl (hb hbytes d3) rfl rfl ?_
    refine X0.alen hexec (hA.1.mv X0.warmed.alike hh0) rfl rfl (hb hbytes d4) ?_
    refine XS.aconstNull X0.here hexec rfl (hb hbytes d5) ?_
    exact Steps.refl _)
  obtain ⟨v3, T3, X3, E3, g3⟩ := X0.callN hexec (New4.law l a D fV fC b A z 0 A.slots.size) rfl hown (wks W (initW "java/lang/String" 27 New4.yN)) (W New4.tab (by simp only [site, List.mem_cons, List.mem_append, true_or, or_true])) (W := 0) (Nat.le_of_ble_eq_true rfl) (Nat.le_of_ble_eq_true rfl) (Nat.le_refl _) (by show 0 + A.slots.size ≤ A.slots.size; omega) (g := (mkF m 6 #[.val (.ref a), .val (.ref b)] [.null, .int (Int32.ofNat A.slots.size), .int (Int32.ofNat 0), .ref b, .ref a])) rfl (by rw [hml]; rfl) c2 (argsL := [.ref b, .int (Int32.ofNat 0), .int (Int32.ofNat A.slots.size), .null]) (rest := []) rfl rfl (by show 2 * 0 + 0 ≤ _; decide) (hb hbytes d6) (⟨rfl, hB.mv X0.warmed.alike hh0, f1.al X0.warmed.alike, f2.al X0.warmed.alike, hA.mv X0.warmed.alike hh0, s1.there X0.warmed.alike hh0, hz, l0, by omega, l2, fun i hi => by rw [Nat.zero_add]; exact hp i hi⟩)
  have e0 := Got.mv _ s₁ s _ _ hh0.symm (Vm.Alike.refl _) rfl E3
  obtain rfl := e0.1
  have c4 : Steps p.tables e below (s₁.setTop (entryFrame m #[.ref a, .ref b] 2)) (T3.setTop (mkF m 9 #[.val (.ref a), .val (.ref b)] [])) := g3
  exact ⟨T3, none, _, _, _, X3, by simp, rfl, by omega, (fun _ => rfl), e0, fun fs hl => c4.trans (X3.returnOut hexec hret (hb hbytes d9) hl)⟩
theorem pays {l : Launch} {R : Room} {p : Program} {e : Env} {below : List Frame} {s : State} {sargs : Array Value} {len W : Nat} (a : Addr) (D : Cell) (fV fC : Field) (b : Addr) (A : Cell) (z : Int32) (htab : tab.before sargs s = true) (hfr : 4 ≤ R.frames) (hlo : W + 65 ≤ R.locals) :
    Back l R p e below s sargs yN len W (fun A₁ a₁ => A₁.cells + 1 ≤ R.cells ∧ A₁.slots + A.slots.size ≤ R.slots ∧ P a D fV fC b A z a₁ A₁.U) (fun A₁ _ v₁ B₁ => E a D fV fC A v₁ A₁.U B₁.U ∧ B₁.locs = A₁.locs ++ [⟨a, fC.slot⟩, ⟨a, fV.slot⟩] ∧ B₁.cells = A₁.cells + 1 ∧ B₁.slots = A₁.slots + A.slots.size) :=
  (law l a D fV fC b A z).pays htab hfr (by omega)
end New1
/-- the byte, read back as charAt reads it, is the char -/
theorem lo8_mask {x : Int32} (h0 : ¬ x < 0) (h1 : ¬ 255 < x) : lo8 x &&& 255 = x := by
  have t : ∀ k : Fin 256, lo8 (Int32.ofNat k.val) &&& 255 = Int32.ofNat k.val := by decide +kernel
  rw [Int32.lt_iff_toInt_lt] at h0 h1
  have e0 : (0 : Int32).toInt = 0 := rfl
  have e1 : (255 : Int32).toInt = 255 := rfl
  obtain ⟨k, hk⟩ : ∃ k : Nat, x.toInt = k := ⟨x.toInt.toNat, by omega⟩
  have hx : x = Int32.ofNat k := Int32.toInt_inj.mp (by rw [hk, Int32.toInt_ofNat_small (by omega)])
  rw [hx]
  exact t ⟨k, by omega⟩
end StrChars
namespace StrChars.Road
open Jvm Sem ClassFile Op Lib Jvm.Stand Jvm.Free Jvm.Free.XT
open Jvm.Lib.Cold (StaticIs)
abbrev ST : String := "java/lang/String"
/-- every table word that New1's law asks, flat -/
abbrev words : List Jvm.Cond := [.code New1.yN New1.yB 2 none, .initialized ST, .methodLink ST 27 New4.yN, .instanceMethod New4.yN,
  .code New4.yN New4.yB 6 none, .fieldLink ST 38 ST "COMPACT_STRINGS" "Z", .laysFinal ST ST "value" "[B", .fieldLink ST 9 ST "value" "[B", .laysFinal ST ST "coder" "B", .fieldLink ST 15 ST "coder" "B",
  .methodLink ST 1 Lib.objectInit, .instanceMethod Lib.objectInit, .code Lib.objectInit ⟨#[0xb1]⟩ 1 none, .methodLink ST 177 Cmp3.yN, .static Cmp3.yN, .methodLink ST 47 CodL.yN, .static CodL.yN,
  .code Cmp3.yN Cmp3.yB 6 (some (.array .byte)), .initialized U16, .arrayClass .byte, .methodLink U16 115 Cmp5.yN, .static Cmp5.yN, .code Cmp5.yN Cmp5.yB 7 (some .int), .code CodL.yN CodL.yB 2 (some .byte)]
theorem tab_of {a : Array Value} {s : State} (h : ∀ w ∈ words, w.before a s = true) : New1.tab.before a s = true := by
  have h5 : Cmp5.tab.before a s = true := unparts (wk h (.code Cmp5.yN Cmp5.yB 7 (some .int))) (wks h (.initialized Cmp5.yN.cls :: Cmp5.site))
  have hc : CodL.tab.before a s = true := unparts (wk h (.code CodL.yN CodL.yB 2 (some .byte))) (wks h (.initialized CodL.yN.cls :: CodL.site))
  have q5 : ∀ w ∈ Cmp5.tab :: words, w.before a s = true := fun w hw => (List.mem_cons.mp hw).elim (fun e => e ▸ h5) (h w)
  have h3 : Cmp3.tab.before a s = true := unparts (wk q5 (.code Cmp3.yN Cmp3.yB 6 (some (.array .byte)))) (wks q5 (.initialized Cmp3.yN.cls :: Cmp3.site))
  have q3 : ∀ w ∈ Cmp3.tab :: CodL.tab :: words, w.before a s = true := fun w hw => (List.mem_cons.mp hw).elim (fun e => e ▸ h3) fun hw => (List.mem_cons.mp hw).elim (fun e => e ▸ hc) (h w)
  have h4 : New4.tab.before a s = true := unparts (wk q3 (.code New4.yN New4.yB 6 none)) (wks q3 (.initialized New4.yN.cls :: New4.site))
  have q4 : ∀ w ∈ New4.tab :: words, w.before a s = true := fun w hw => (List.mem_cons.mp hw).elim (fun e => e ▸ h4) (h w)
  exact unparts (wk q4 (.code New1.yN New1.yB 2 none)) (wks q4 (.initialized New1.yN.cls :: New1.site))
/-- the words ride from the start Z to the walk's own state -/
theorem moved {Z s : State} {a0 args : Array Value} (hZ : Z.Warmed39 s.vm) (hw : ∀ d ∈ words, d.before a0 Z = true) : ∀ d ∈ words, d.before args s = true := fun d hd => by
  have q := hw d hd
  have t : ∀ d ∈ words, d = .arrayClass .byte ∨ (d.onTables && d.keepsFace) = true := by decide +kernel
  rcases t d hd with rfl | t
  · exact RoadKit.mvA hZ q
  · exact RoadKit.mv hZ q t
/-- WHAT COMES BACK, over the tables of the start Z: h the heap at the call, h' behind it -/
def Q (Z : State) (x : Addr) (A : Cell) (h : Heap) (v : Option Value) (h' : Heap) (L : List Loc) : Prop := v = none ∧ (∀ y ∈ L, y.base = x) ∧ RoadKit.Keep h h' [x] ∧ h'.size = h.size + 1 ∧ RoadKit.Exa Z h' x ST ∧ RoadKit.Fld Z h' x ST "value" "[B" (.ref h.size) ∧ RoadKit.Fld Z h' x ST "coder" "B" (.int 0) ∧
  (∃ V : Cell, RoadKit.Arr Z h' h.size V .byte ∧ V.vm = .none ∧ Z.vm.findClass "[B" = some V.cls ∧ V.slots.size = A.slots.size ∧ ∀ j, j < A.slots.size → V.slots[j]? = some (.int (lo8 (cv A j)))) ∧
  ∀ (O n d : String) (w : Value), RoadKit.Fld Z h x O n d w → RoadKit.slotOf Z O n d ≠ RoadKit.slotOf Z ST "value" "[B" → RoadKit.slotOf Z O n d ≠ RoadKit.slotOf Z ST "coder" "B" → RoadKit.Fld Z h' x O n d w
/-- **new String(chars) AT A CALL, IN THE ROAD'S FORM**: for specialBack behind newO: x the fresh String, b the char[] with the cell A -/
theorem back {p : Program} {l : Launch} {e : Env} {R : Room} {s : State} {args : Array Value} {below : List Frame} {len W : Nat} {Z : State} {a0 : Array Value} {h : Heap} (hZ : Z.Warmed39 s.vm) (hw : ∀ d ∈ words, d.before a0 Z = true) {kI : Nat} (wi : (Jvm.Cond.instantiable ST kI).before a0 Z = true)
    {x b : Addr} {A : Cell} {z : Int32} {v0 c0 : Value} (E : RoadKit.Exa Z h x ST) (V : RoadKit.Fld Z h x ST "value" "[B" v0) (C : RoadKit.Fld Z h x ST "coder" "B" c0) (K : RoadKit.Arr Z h b A .char) (hty : Typed .char A) (S : RoadKit.Sta Z h ST "COMPACT_STRINGS" "Z" (.int z)) (hz : ¬ z = 0)
    (l0 : 0 < A.slots.size) (l2 : A.slots.size ≤ 536870912) (hp : ∀ i, i < A.slots.size → ¬ 255 < cv A i) (hfr : 4 ≤ R.frames) (hlo : W + 65 ≤ R.locals) :
    Back l R p e below s args New1.yN len W (fun P a => a = #[.ref x, .ref b] ∧ P.U.heap = h ∧ P.cells + 1 ≤ R.cells ∧ P.slots + A.slots.size ≤ R.slots)
      (fun P _ v B => ∃ L, Q Z x A h v B.U.heap L ∧ B.locs = P.locs ++ L ∧ B.cells = P.cells + 1 ∧ B.slots = P.slots + A.slots.size) := by
  intro m meth c P g ig mk a X hg hsize hdg hW hn hp'
  obtain ⟨rfl, rfl, r1, r2⟩ := hp'
  have al : Z.vm.Alike P.U.vm := hZ.alike.trans X.warmed.alike
  obtain ⟨D, cfV, kV, iV, fV, hD, gV, stV, knV, obV, asV, slV⟩ := id V
  obtain ⟨D', cfC, kC, iC, fC, hD', gC, stC, -, -, asC, slC⟩ := id C
  cases hD.symm.trans hD'
  obtain ⟨D2, kD, e1, e2, e3, e4, e5⟩ := id E
  cases hD.symm.trans e1
  obtain ⟨c2, k2, i1, i2, i3, -⟩ := Cond.instantiable_spec wi
  cases e2.symm.trans i1
  cases e3.symm.trans i2
  obtain ⟨kU, u1, u2⟩ := al.2.2 _ _ e3
  have hB : Blank ST x D P.U := ⟨hD, ⟨knV, fun q hq => by rw [hq] at obV; cases obV⟩, by rw [al.findClass]; exact e2, kU, u1, by rw [u2]; exact i3, by rw [u2]; exact e5 i3⟩
  have F1 : Found ST "value" "[B" fV P.U := ⟨SBG.found_only al ⟨cfV, kV, iV, gV⟩, stV⟩
  have F2 : Found ST "coder" "B" fC P.U := ⟨SBG.found_only al ⟨cfC, kC, iC, gC⟩, stC⟩
  have hA : Ch b A P.U := ⟨⟨K.1, State.isArrayOf_alike al K.2.1, K.2.2, by omega⟩, hty⟩
  have hS : StaticIs P.U ST "COMPACT_STRINGS" "Z" (.int z) := by
    obtain ⟨cfS, iS, kS, fS, st, cS, t1, t2, t3, t4, t5, t6, t7⟩ := S
    exact StaticIs.there (s := { Z with heap := P.U.heap }) ⟨cfS, iS, kS, fS, st, cS, t1, t2, t3, t4, t5, (fun q => by rw [q] at t6; cases t6), t7⟩ al rfl
  obtain ⟨v, B, X', ⟨⟨hv, E', V', q1, q2, q3, q4, q5, q6, q7, q8, q9, q10, q11⟩, hl, hc, hs⟩, st⟩ := New1.pays x D fV fC b A z (tab_of (moved hZ hw)) hfr hlo m meth c P g ig mk _ X hg hsize hdg hW hn ⟨r1, r2, rfl, hB, F1, F2, hA, hS, hz, l0, l2, hp⟩
  have al' : Z.vm.Alike B.U.vm := hZ.alike.trans X'.warmed.alike
  have hsz : E'.slots.size = D.slots.size := by
    obtain ⟨-, -, -, kB, w1, w2, w3⟩ := q1
    obtain ⟨kB', y1, y2⟩ := al'.2.2 _ _ e3
    rw [q2.2.1] at w1
    cases w1.symm.trans y1
    rw [w3, e5 i3, y2]
  refine ⟨v, B, X', ⟨_, ⟨hv, ?_, ⟨by omega, fun y cy hy hn' => q10 y cy (by simpa using hn') hy, fun y cy hy => ?_⟩, q11, ⟨E', _, q1.1, by rw [q2.2.1]; exact e2, by rw [q2.2.1]; exact e3, by rw [q2.1]; exact obV, fun _ => by rw [hsz]; exact e5 i3⟩,
    ⟨E', cfV, kV, iV, fV, q1.1, gV, stV, by rw [q2.1]; exact knV, by rw [q2.1]; exact obV, by rw [q2.2.1]; exact asV, q3⟩, ⟨E', cfC, kC, iC, fC, q1.1, gC, stC, by rw [q2.1]; exact knV, by rw [q2.1]; exact obV, by rw [q2.2.1]; exact asC, q4⟩,
    ⟨V', ⟨q5.1, State.isArrayOf_alike al'.symm q5.2.1, q5.2.2.1⟩, q6, by rw [← al'.findClass]; exact q7, q8, fun j hj => by have := q9 j hj; rwa [Nat.zero_add] at this⟩, fun O n d w F n1 n2 => ?_⟩, hl, hc, hs⟩, st⟩
  · intro y hy
    simp only [List.mem_cons, List.not_mem_nil, or_false] at hy
    rcases hy with rfl | rfl <;> rfl
  · by_cases q : y = x
    · subst q
      cases hD.symm.trans hy
      exact ⟨E', q1.1, q2.2.1, q2.1, hsz⟩
    · exact ⟨cy, q10 y cy q hy, rfl, rfl, rfl⟩
  · obtain ⟨D3, cf, k, i, f, g1, g2, g3, g4, g5, g6, g7⟩ := F
    cases hD.symm.trans g1
    simp only [RoadKit.slotOf, g2, gV, gC, Option.map_some, Option.getD_some] at n1 n2
    exact ⟨E', cf, k, i, f, q1.1, g2, g3, by rw [q2.1]; exact g4, by rw [q2.1]; exact g5, by rw [q2.2.1]; exact g6, by rw [q2.2.2 f.slot (by simp [n1, n2])]; exact g7⟩
end StrChars.Road
namespace StrChars.Road
open Jvm Sem ClassFile Op Lib Jvm.Stand Jvm.Free Jvm.Free.XT
/-- WHAT COMES BACK, the byte[] as a list of values -/
def QA (Z : State) (x : Addr) (zn : Int32) (cs : List Int32) (h : Heap) (v : Option Value) (h' : Heap) (L : List Loc) : Prop := v = none ∧ (∀ y ∈ L, y.base = x) ∧ RoadKit.Keep h h' [x] ∧ h'.size = h.size + 1 ∧ RoadKit.Exa Z h' x ST ∧ RoadKit.Fld Z h' x ST "value" "[B" (.ref h.size) ∧ RoadKit.Fld Z h' x ST "coder" "B" (.int 0) ∧
  (∃ kb, Z.vm.findClass "[B" = some kb ∧ RoadKit.Arv Z h' h.size kb .byte zn (cs.map fun c => .int (lo8 c)) (.int 0)) ∧
  ∀ (O n d : String) (w : Value), RoadKit.Fld Z h x O n d w → RoadKit.slotOf Z O n d ≠ RoadKit.slotOf Z ST "value" "[B" → RoadKit.slotOf Z O n d ≠ RoadKit.slotOf Z ST "coder" "B" → RoadKit.Fld Z h' x O n d w
/-- **new String(chars) AT A CALL, THE ARRAYS AS LISTS**: the char[] at b holds cs, not empty, no char above 255 -/
theorem backArv {p : Program} {l : Launch} {e : Env} {R : Room} {s : State} {args : Array Value} {below : List Frame} {len W : Nat} {Z : State} {a0 : Array Value} {h : Heap} (hZ : Z.Warmed39 s.vm) (hw : ∀ d ∈ words, d.before a0 Z = true) {kI : Nat} (wi : (Jvm.Cond.instantiable ST kI).before a0 Z = true)
    {x b : Addr} {k : ClassId} {zn z : Int32} {cs : List Int32} {dv v0 c0 : Value} (E : RoadKit.Exa Z h x ST) (V : RoadKit.Fld Z h x ST "value" "[B" v0) (C : RoadKit.Fld Z h x ST "coder" "B" c0) (K : RoadKit.Arv Z h b k .char zn (cs.map Value.int) dv) (S : RoadKit.Sta Z h ST "COMPACT_STRINGS" "Z" (.int z)) (hz : ¬ z = 0)
    (hlen : zn.toNatClampNeg = cs.length) (h0 : 0 < cs.length) (hbig : cs.length ≤ 536870912) (hall : ∀ c ∈ cs, ¬ 255 < c) (hfr : 4 ≤ R.frames) (hlo : W + 65 ≤ R.locals) :
    Back l R p e below s args New1.yN len W (fun P a => a = #[.ref x, .ref b] ∧ P.U.heap = h ∧ P.cells + 1 ≤ R.cells ∧ P.slots + cs.length ≤ R.slots)
      (fun P _ v B => ∃ L, QA Z x zn cs h v B.U.heap L ∧ B.locs = P.locs ++ L ∧ B.cells = P.cells + 1 ∧ B.slots = P.slots + cs.length) := by
  obtain ⟨A, K1, K2, K3, K4, K5, K6⟩ := K
  have e : A.slots.size = cs.length := K3.trans hlen
  have hat : ∀ (i : Nat) (hi : i < cs.length), A.slots[i]? = some (.int cs[i]) := fun i hi => by rw [K5 i (by omega)]; simp [List.getD_eq_getElem?_getD, hi]
  have hcv : ∀ (i : Nat) (hi : i < cs.length), cv A i = cs[i] := fun i hi => by unfold cv; rw [hat i hi]
  have hty : Typed .char A := fun i v hv => by
    have hi : i < A.slots.size := (Array.getElem?_eq_some_iff.mp hv).1
    have q := K5 i hi
    rw [hv] at q
    rw [Option.some.inj q]
    exact K6 i hi
  refine Back.mono (back hZ hw wi E V C K1 hty S hz (by omega) (by omega) (fun i hi => by rw [hcv i (by omega)]; exact hall _ (List.getElem_mem _)) hfr hlo) (fun P a hp => ⟨hp.1, hp.2.1, hp.2.2.1, by rw [e]; exact hp.2.2.2⟩) (fun P a v B hp hq => ?_)
  obtain ⟨L, ⟨q1, q2, q3, q4, q5, q6, q7, ⟨V', v1, v2, v3, v4, v5⟩, q9⟩, hl, hc, hs⟩ := hq
  refine ⟨L, ⟨q1, q2, q3, q4, q5, q6, q7, ⟨V'.cls, v3, V', v1, rfl, by rw [v4, e, hlen], K4, fun i hi => ?_, fun i hi => ?_⟩, q9⟩, hl, hc, by rw [hs, e]⟩
  · have hi' : i < cs.length := by omega
    rw [v5 i (by omega), hcv i hi']; simp [List.getD_eq_getElem?_getD, hi']
  · have hi' : i < cs.length := by omega
    simp only [List.getD_eq_getElem?_getD, List.getElem?_map, List.getElem?_eq_getElem hi', Option.map_some, Option.getD_some]
    exact fits_lo8 _
end StrChars.Road
namespace StrChars.Road
open Jvm Sem ClassFile Op Lib Jvm.Stand Jvm.Free Jvm.Free.XT
/-- WHAT COMES BACK, in the writer's own shape -/
def QV (Z : State) (x : Addr) (N : Int32) (bs : List Int32) (h : Heap) (n0 : Nat) (v : Option Value) (h' : Heap) (L : List Loc) : Prop := v = none ∧ RoadKit.Fr n0 L ∧ RoadKit.Keep h h' [x] ∧ RoadKit.Exa Z h' x ST ∧ RoadKit.Fld Z h' x ST "coder" "B" (.int 0) ∧
  ∃ (t : Addr) (kb : ClassId), n0 ≤ t ∧ h.size ≤ t ∧ ¬ t = x ∧ RoadKit.Fld Z h' x ST "value" "[B" (.ref t) ∧ RoadKit.Arv Z h' t kb .byte N (bs.map Value.int) (.int 0)
/-- **new String(chars) AT A CALL, FOR THE WRITER**: a char[] of n known ints, each 0 to 255 -/
theorem backV {p : Program} {l : Launch} {e : Env} {R : Room} {s : State} {args : Array Value} {below : List Frame} {len W : Nat} {Z : State} {a0 : Array Value} {h : Heap} (hZ : Z.Warmed39 s.vm) (hw : ∀ d ∈ words, d.before a0 Z = true) {kI : Nat} (wi : (Jvm.Cond.instantiable ST kI).before a0 Z = true)
    {x b : Addr} {kC : ClassId} {cs bs : List Int32} {d v0 c0 : Value} {z N : Int32} {n n0 : Nat} (hx0 : n0 ≤ x) (hh0 : n0 ≤ h.size) (E : RoadKit.Exa Z h x ST) (V : RoadKit.Fld Z h x ST "value" "[B" v0) (C : RoadKit.Fld Z h x ST "coder" "B" c0) (K : RoadKit.Arv Z h b kC .char N (cs.map Value.int) d) (S : RoadKit.Sta Z h ST "COMPACT_STRINGS" "Z" (.int z)) (hz : ¬ z = 0)
    (hn : cs.length = n) (hN : N = Int32.ofNat n) (l0 : 0 < n) (l2 : n ≤ 4000) (hp : ∀ c ∈ cs, ¬ c < 0 ∧ ¬ (255 : Int32) < c) (hb : bs = cs.map (fun c => c.toInt8.toInt32)) (hfr : 4 ≤ R.frames) (hlo : W + 65 ≤ R.locals) :
    Back l R p e below s args (⟨"java/lang/String", "<init>", "([C)V"⟩ : MethodName) len W (fun P a => a = #[.ref x, .ref b] ∧ P.U.heap = h ∧ P.cells + 1 ≤ R.cells ∧ P.slots + n ≤ R.slots)
      (fun P _ v B => ∃ L, QV Z x N bs h n0 v B.U.heap L ∧ B.locs = P.locs ++ L ∧ B.cells = P.cells + 1 ∧ B.slots = P.slots + n) := by
  subst hn hN hb
  refine Back.mono (backArv hZ hw wi E V C K S hz (n32 (by omega)) l0 (by omega) (fun c hc => (hp c hc).2) hfr hlo) (fun P a hp => hp) (fun P a v B hp hq => ?_)
  obtain ⟨L, ⟨q1, q2, q3, q4, q5, q6, q7, ⟨kb, v1, v2⟩, q9⟩, hl, hc, hs⟩ := hq
  exact ⟨L, ⟨q1, fun y hy => by rw [q2 y hy]; exact hx0, q3, q5, q7, h.size, kb, hh0, Nat.le_refl _, Nat.ne_of_gt E.lt, q6, by rw [List.map_map]; exact v2⟩, hl, hc, hs⟩
end StrChars.Road
namespace StrChars
open Jvm Sem ClassFile Op Lib Jvm.Stand Jvm.Free.XT Jvm.Free.ALB Jvm.Free.JM Jvm.Free
open Jvm.Lib.Cold (StaticIs)
def hi8 (x : Int32) : Int32 := lo8 (x >>> ((8 : Int32) &&& 31))
/-- what StringUTF16.getChar makes of two bytes -/
def pairCh (u v : Int32) : Int32 := (((u &&& 255) <<< ((0 : Int32) &&& 31)) ||| ((v &&& 255) <<< ((8 : Int32) &&& 31))).toUInt32.toUInt16.toUInt32.toInt32
theorem shr0 (c : Int32) : c >>> ((0 : Int32) &&& 31) = c := by
  have e : ((0 : Int32) &&& 31) = 0 := by decide
  rw [e]
  apply Int32.toBitVec_inj.mp
  rw [Int32.toBitVec_shiftRight]
  have e1 : ((0 : Int32).toBitVec.smod 32) = 0#32 := by decide
  rw [e1, BitVec.sshiftRight_eq']
  exact BitVec.sshiftRight_zero
theorem lo8_and (x : Int32) : (lo8 x &&& 255).toBitVec.toNat = x.toBitVec.toNat % 256 := by
  have h : (lo8 x).toBitVec = (x.toBitVec.signExtend 8).signExtend 32 := by rw [lo8, Int8.toBitVec_toInt32, Int32.toBitVec_toInt8]
  rw [Int32.toBitVec_and, BitVec.toNat_and, h]
  have e : ((x.toBitVec.signExtend 8).signExtend 32).toNat % 256 = x.toBitVec.toNat % 256 := by
    rw [BitVec.toNat_signExtend]
    have hlt := x.toBitVec.isLt
    simp only [BitVec.toNat_setWidth, BitVec.toNat_signExtend]
    split <;> split <;> omega
  rw [← e]
  exact Nat.and_two_pow_sub_one_eq_mod _ 8
theorem pair_says {c : Int32} (h0 : ¬ c < 0) (h1 : ¬ 65535 < c) : pairCh (lo8 c) (hi8 c) = c := by
  rw [Int32.lt_iff_toInt_lt] at h0 h1
  have e0 : (0 : Int32).toInt = 0 := rfl
  have e1 : (65535 : Int32).toInt = 65535 := rfl
  have hc : c.toInt = c.toBitVec.toNat := by
    have := c.toBitVec.isLt
    have e : c.toInt = c.toBitVec.toInt := rfl
    rw [e] at h0 h1
    rw [e]
    rw [BitVec.toInt_eq_toNat_cond] at h0 h1 ⊢
    split at h0 <;> split <;> omega
  have hn : c.toBitVec.toNat < 65536 := by omega
  have a1 := lo8_and c
  have a2 : (hi8 c &&& 255).toBitVec.toNat = c.toBitVec.toNat / 256 := by
    rw [hi8, lo8_and]
    have e : ((8 : Int32) &&& 31) = 8 := by decide
    rw [e, Int32.toBitVec_shiftRight]
    have e2 : ((8 : Int32).toBitVec.smod 32) = 8#32 := by decide
    rw [e2, BitVec.sshiftRight_eq', BitVec.toNat_sshiftRight_of_msb_false (by rw [BitVec.msb_eq_false_iff_two_mul_lt]; omega)]
    show c.toBitVec.toNat >>> 8 % 256 = _
    rw [Nat.shiftRight_eq_div_pow]
    omega
  unfold pairCh
  apply Int32.toBitVec_inj.mp
  apply BitVec.eq_of_toNat_eq
  have f0 : ((0 : Int32) &&& 31) = 0 := by decide
  have f8 : ((8 : Int32) &&& 31) = 8 := by decide
  rw [f0, f8]
  have g : (((lo8 c &&& 255) <<< (0 : Int32)) ||| ((hi8 c &&& 255) <<< (8 : Int32))).toBitVec.toNat = c.toBitVec.toNat := by
    rw [Int32.toBitVec_or, Int32.toBitVec_shiftLeft, Int32.toBitVec_shiftLeft]
    have s0 : ((0 : Int32).toBitVec.smod 32) = 0#32 := by decide
    have s8 : ((8 : Int32).toBitVec.smod 32) = 8#32 := by decide
    rw [s0, s8, BitVec.toNat_or]
    simp only [BitVec.shiftLeft_eq', BitVec.toNat_shiftLeft, a1, a2]
    show (c.toBitVec.toNat % 256) <<< 0 % 2 ^ 32 ||| (c.toBitVec.toNat / 256) <<< 8 % 2 ^ 32 = _
    rw [Nat.shiftLeft_zero, Nat.mod_eq_of_lt (show c.toBitVec.toNat % 256 < 2 ^ 32 by omega), Nat.mod_eq_of_lt (show (c.toBitVec.toNat / 256) <<< 8 < 2 ^ 32 by rw [Nat.shiftLeft_eq]; omega), Nat.or_comm, ← Nat.shiftLeft_add_eq_or_of_lt (by omega), Nat.shiftLeft_eq]
    omega
  show BitVec.toNat (((((lo8 c &&& 255) <<< (0 : Int32)) ||| ((hi8 c &&& 255) <<< (8 : Int32))).toBitVec.setWidth 16).setWidth 32) = _
  rw [BitVec.toNat_setWidth, BitVec.toNat_setWidth, g]
  omega
end StrChars
namespace StrChars
open Jvm Sem ClassFile Op Lib Jvm.Stand Jvm.Free.XT Jvm.Free.ALB Jvm.Free.JM Jvm.Free
open Jvm.Lib.Cold (StaticIs)
theorem shr1 {n : Nat} (h : 2 * n < 2 ^ 31) : Int32.ofNat (2 * n) >>> ((1 : Int32) &&& 31) = Int32.ofNat n := by
  have e : ((1 : Int32) &&& 31) = 1 := by decide
  rw [e]
  apply Int32.toBitVec_inj.mp
  rw [Int32.toBitVec_shiftRight]
  have e1 : ((1 : Int32).toBitVec.smod 32) = 1#32 := by decide
  have hm : (BitVec.ofNat 32 (2 * n)).toNat = 2 * n := by rw [BitVec.toNat_ofNat, Nat.mod_eq_of_lt (by omega)]
  rw [e1, BitVec.sshiftRight_eq']
  apply BitVec.eq_of_toNat_eq
  show ((BitVec.ofNat 32 (2 * n)).sshiftRight 1).toNat = (BitVec.ofNat 32 n).toNat
  rw [BitVec.toNat_sshiftRight_of_msb_false (by rw [BitVec.msb_eq_false_iff_two_mul_lt, hm]; omega), hm, BitVec.toNat_ofNat, Nat.shiftRight_eq_div_pow]
  omega
/-- charAt's cast of a byte read back -/
def chr8 (u : Int32) : Int32 := (u &&& 255).toUInt32.toUInt16.toUInt32.toInt32
theorem chr8_lo8 {c : Int32} (h0 : ¬ c < 0) (h1 : ¬ 255 < c) : chr8 (lo8 c) = c := by
  have t : ∀ k : Fin 256, (Int32.ofNat k.val).toUInt32.toUInt16.toUInt32.toInt32 = Int32.ofNat k.val := by decide +kernel
  unfold chr8
  rw [lo8_mask h0 h1]
  rw [Int32.lt_iff_toInt_lt] at h0 h1
  have e0 : (0 : Int32).toInt = 0 := rfl
  have e1 : (255 : Int32).toInt = 255 := rfl
  obtain ⟨k, hk⟩ : ∃ k : Nat, c.toInt = k := ⟨c.toInt.toNat, by omega⟩
  have hx : c = Int32.ofNat k := Int32.toInt_inj.mp (by rw [hk, Int32.toInt_ofNat_small (by omega)])
  rw [hx]
  exact t ⟨k, by omega⟩
theorem narrow_ch {c : Int32} (h0 : ¬ c < 0) (h1 : ¬ 65535 < c) : narrow .char (.int c) = .int c := by
  have q : narrow .char (.int (pairCh (lo8 c) (hi8 c))) = .int (pairCh (lo8 c) (hi8 c)) := narrow_c _
  rwa [pair_says h0 h1] at q
/-- the array's cell V codes the n chars f 0 .. f (n - 1) by the coder cd, as the JDK does: coder 1 just where some char is above 255 -/
def Cod (cd : Int32) (n : Nat) (f : Nat → Int32) (V : Cell) : Prop := (cd = 0 ∧ V.slots.size = n ∧ ∀ j, j < n → V.slots[j]? = some (.int (lo8 (f j))) ∧ ¬ 255 < f j) ∨ (cd = 1 ∧ V.slots.size = 2 * n ∧ (∀ j, j < n → V.slots[2 * j]? = some (.int (lo8 (f j))) ∧ V.slots[2 * j + 1]? = some (.int (hi8 (f j)))) ∧ ∃ j, j < n ∧ 255 < f j)
theorem Cod.cd {cd : Int32} {n : Nat} {f : Nat → Int32} {V : Cell} (h : Cod cd n f V) : cd = 0 ∨ cd = 1 := h.imp (fun q => q.1) fun q => q.1
theorem Cod.len {cd : Int32} {n : Nat} {f : Nat → Int32} {V : Cell} (h : Cod cd n f V) (hs : V.slots.size < 2 ^ 31) : Int32.ofNat V.slots.size >>> (cd &&& 31) = Int32.ofNat n := by
  rcases h with ⟨rfl, h, -⟩ | ⟨rfl, h, -⟩
  · rw [shr0, h]
  · rw [h, shr1 (by omega)]
/-- **x is a String of the n chars f 0 .. f (n - 1)**, Latin-1 or UTF-16; its array at t has the cell V -/
def Txt (x t : Addr) (V : Cell) (cd : Int32) (n : Nat) (f : Nat → Int32) (U : State) : Prop := Exact "java/lang/String" x U ∧ Has x "java/lang/String" "value" "[B" (.ref t) U ∧ Has x "java/lang/String" "coder" "B" (.int cd) U ∧ XT.Arr .byte t V U ∧ Cod cd n f V ∧ ∀ j, j < n → ¬ f j < 0 ∧ ¬ 65535 < f j
theorem Txt.mv {x t : Addr} {V : Cell} {cd : Int32} {n : Nat} {f : Nat → Int32} {U U' : State} (h : Txt x t V cd n f U) (hal : U.vm.Alike U'.vm) (hh : U'.heap = U.heap) : Txt x t V cd n f U' := ⟨h.1.mv hal hh, h.2.1.mv hal hh, h.2.2.1.mv hal hh, h.2.2.2.1.mv hal hh, h.2.2.2.2⟩
namespace Cdr
def yN : MethodName := ⟨"java/lang/String", "coder", "()B"⟩
abbrev yB : ByteArray := jdk_42_method_152_code
theorem d0 : decode yB 0 = .ok (.getstatic 38, 3) := by decide +kernel
theorem d3 : decode yB 3 = .ok (.ifCond (.eq) 10, 3) := by decide +kernel
theorem d6 : decode yB 6 = .ok (.aload_n 0, 1) := by decide +kernel
theorem d7 : decode yB 7 = .ok (.getfield 15, 3) := by decide +kernel
theorem d10 : decode yB 10 = .ok (.goto 4, 3) := by decide +kernel
theorem d14 : decode yB 14 = .ok (.ireturn, 1) := by decide +kernel
def site : List Cond := [.fieldLink "java/lang/String" 38 "java/lang/String" "COMPACT_STRINGS" "Z", .fieldLink "java/lang/String" 15 "java/lang/String" "coder" "B"]
def tab : Cond := tabOf yN yB 1 (some .byte) site
def P (x : Addr) (cd z : Int32) (args : Array Value) (s : State) : Prop := args = #[.ref x] ∧ Has x "java/lang/String" "coder" "B" (.int cd) s ∧ (cd = 0 ∨ cd = 1) ∧ StaticIs s "java/lang/String" "COMPACT_STRINGS" "Z" (.int z) ∧ ¬ z = 0
def E (cd : Int32) (r : Option Value) (s u : State) : Prop := XT.PureE (some (.int cd)) r s u
theorem law (l : Launch) (x : Addr) (cd z : Int32) : Law l yN 1 0 0 0 yB 1 (some .byte) site (P x cd z) (E cd) [] 0 0 := by
  refine Law.of_walk (plainFor_of_name (by decide +kernel)) (by decide +kernel) (by decide +kernel) (by decide) (fun _ _ h => by rw [h.1]; rfl) (fun _ U U' hal hh h => ⟨h.1, h.2.1.mv hal hh, h.2.2.1, h.2.2.2.1.there hal hh, h.2.2.2.2⟩) (fun r U U' V V' h1 hal h2 h => XT.PureE.mv r U U' V V' h1 hal h2 h) ?_
  intro p e s m args below meth c s₁ X0 hexec hbytes hml hret hlk hnm hown hh0 W hP
  obtain ⟨rfl, hx, hc, s1, hz⟩ := hP
  have c1 : Steps p.tables e below (s₁.setTop (entryFrame m #[.ref x] 1)) (s₁.setTop (mkF m 0 #[.val (.ref x)] [])) := entry rfl
  obtain ⟨T2, X2, q2, st2⟩ := X0.sget hexec hown (wk W (.fieldLink "java/lang/String" 38 "java/lang/String" "COMPACT_STRINGS" "Z")) s1 (fun _ _ h => by rw [hh0]; exact h) (g := (mkF m 0 #[.val (.ref x)] [])) rfl (hb hbytes d0)
  have hh2 := q2.trans hh0
  have c3 : Steps p.tables e below (s₁.setTop (entryFrame m #[.ref x] 1)) (T2.setTop (mkF m 7 #[.val (.ref x)] [.ref x])) := (c1.trans (st2 _ (Steps.refl _))).trans (by
    refine XS.ifNo X2.here hexec rfl (hb hbytes d3) rfl (i0_eq_f hz) ?_
    refine XS.aloadN X2.here hexec rfl (hb hbytes d6) rfl rfl ?_
    exact Steps.refl _)
  obtain ⟨T4, X4, q4, st4⟩ := X2.hget hexec hown (wk W (.fieldLink "java/lang/String" 15 "java/lang/String" "coder" "B")) (hx.mv X2.warmed.alike hh2) (g := (mkF m 7 #[.val (.ref x)] [.ref x])) rfl (rest := []) rfl (hb hbytes d7)
  have c5 : Steps p.tables e below (s₁.setTop (entryFrame m #[.ref x] 1)) (T4.setTop (mkF m 14 #[.val (.ref x)] [.int cd])) := (c3.trans (st4 _ (Steps.refl _))).trans (by
    refine XS.goto X4.here hexec rfl (pc0 := 10) rfl (hb hbytes d10) (by decide) rfl ?_
    exact Steps.refl _)
  exact ⟨T4, some (.int cd), _, _, _, X4, rfl, rfl, rfl, (fun h => by cases h), ⟨rfl, q4.trans hh2⟩, fun fs hl => c5.trans (X4.ireturnOut hexec hret (by rcases hc with rfl | rfl <;> rfl) (Or.inr (Or.inr (Or.inl rfl))) (hb hbytes d14) hl)⟩
end Cdr
namespace Len
def yN : MethodName := ⟨"java/lang/String", "length", "()I"⟩
abbrev yB : ByteArray := jdk_42_method_54_code
theorem d0 : decode yB 0 = .ok (.aload_n 0, 1) := by decide +kernel
theorem d1 : decode yB 1 = .ok (.getfield 9, 3) := by decide +kernel
theorem d4 : decode yB 4 = .ok (.arraylength, 1) := by decide +kernel
theorem d5 : decode yB 5 = .ok (.aload_n 0, 1) := by decide +kernel
theorem d6 : decode yB 6 = .ok (.invokevirtual 335, 3) := by decide +kernel
theorem d9 : decode yB 9 = .ok (.ishr, 1) := by decide +kernel
theorem d10 : decode yB 10 = .ok (.ireturn, 1) := by decide +kernel
def site : List Cond := [.fieldLink "java/lang/String" 9 "java/lang/String" "value" "[B", Cdr.tab] ++ virtW "java/lang/String" 335 "java/lang/String" Cdr.yN Cdr.yN
def tab : Cond := tabOf yN yB 1 (some .int) site
def P (x t : Addr) (V : Cell) (cd : Int32) (n : Nat) (f : Nat → Int32) (z : Int32) (args : Array Value) (s : State) : Prop := args = #[.ref x] ∧ Txt x t V cd n f s ∧ StaticIs s "java/lang/String" "COMPACT_STRINGS" "Z" (.int z) ∧ ¬ z = 0
def E (n : Nat) (r : Option Value) (s u : State) : Prop := XT.PureE (some (.int (Int32.ofNat n))) r s u
/-- length() of a String of n chars, in either coding -/
theorem law (l : Launch) (x t : Addr) (V : Cell) (cd : Int32) (n : Nat) (f : Nat → Int32) (z : Int32) : Law l yN 1 0 1 13 yB 1 (some .int) site (P x t V cd n f z) (E n) [] 0 0 := by
  refine Law.of_walk (plainFor_of_name (by decide +kernel)) (by decide +kernel) (by decide +kernel) (by decide) (fun _ _ h => by rw [h.1]; rfl) (fun _ U U' hal hh h => ⟨h.1, h.2.1.mv hal hh, h.2.2.1.there hal hh, h.2.2.2⟩) (fun r U U' V V' h1 hal h2 h => XT.PureE.mv r U U' V V' h1 hal h2 h) ?_
  intro p e s m args below meth c s₁ X0 hexec hbytes hml hret hlk hnm hown hh0 W hP
  obtain ⟨rfl, hx, s1, hz⟩ := hP
  have v31 := hx.2.2.2.1.2.2.2
  have c1 : Steps p.tables e below (s₁.setTop (entryFrame m #[.ref x] 1)) (s₁.setTop (mkF m 1 #[.val (.ref x)] [.ref x])) := Steps.trans (entry rfl) (by
    show Steps p.tables e below (s₁.setTop (mkF m 0 #[.val (.ref x)] [])) _
    refine XS.aloadN X0.here hexec rfl (hb hbytes d0) rfl rfl ?_
    exact Steps.refl _)
  obtain ⟨T2, X2, q2, st2⟩ := X0.hget hexec hown (wk W (.fieldLink "java/lang/String" 9 "java/lang/String" "value" "[B")) (hx.mv X0.warmed.alike hh0).2.1 (g := (mkF m 1 #[.val (.ref x)] [.ref x])) rfl (rest := []) rfl (hb hbytes d1)
  have hh2 := q2.trans hh0
  have hx2 := hx.mv X2.warmed.alike hh2
  have c3 : Steps p.tables e below (s₁.setTop (entryFrame m #[.ref x] 1)) (T2.setTop (mkF m 6 #[.val (.ref x)] [.ref x, .int (Int32.ofNat V.slots.size)])) := (c1.trans (st2 _ (Steps.refl _))).trans (by
    refine X2.alen hexec hx2.2.2.2.1 rfl rfl (hb hbytes d4) ?_
    refine XS.aloadN X2.here hexec rfl (hb hbytes d5) rfl rfl ?_
    exact Steps.refl _)
  obtain ⟨v4, T4, X4, E4, g4⟩ := X2.callV hexec (Cdr.law l x cd z) hown (wks W (virtW "java/lang/String" 335 "java/lang/String" Cdr.yN Cdr.yN)) rfl (by decide) (wk W Cdr.tab) (W := 1) (Nat.le_of_ble_eq_true rfl) (Nat.le_of_ble_eq_true rfl) (Nat.le_refl _) (Nat.le_refl _) (hx2.1.fc X2.warmed.alike) hx2.1.is (g := (mkF m 6 #[.val (.ref x)] [.ref x, .int (Int32.ofNat V.slots.size)])) rfl (by rw [hml]; rfl) c3 (argsL := []) (rest := [.int (Int32.ofNat V.slots.size)]) rfl rfl (by show 2 * 0 + (1 + 0) ≤ _; decide) (hb hbytes d6) (⟨rfl, hx2.2.2.1, hx.2.2.2.2.1.cd, s1.there X2.warmed.alike hh2, hz⟩)
  obtain ⟨rfl, q4⟩ := E4
  have c5 : Steps p.tables e below (s₁.setTop (entryFrame m #[.ref x] 1)) (T4.setTop (mkF m 10 #[.val (.ref x)] [.int (Int32.ofNat V.slots.size >>> (cd &&& 31))])) := Steps.trans g4 (by
    refine ishr X4.here hexec rfl (hb hbytes d9) rfl ?_
    exact Steps.refl _)
  rw [hx.2.2.2.2.1.len v31] at c5
  exact ⟨T4, some (.int (Int32.ofNat n)), _, _, _, X4, rfl, rfl, rfl, (fun h => by cases h), ⟨rfl, q4.trans hh2⟩, fun fs hl => c5.trans (X4.ireturnOut hexec hret rfl (Or.inl rfl) (hb hbytes d10) hl)⟩
theorem pays {l : Launch} {R : Room} {p : Program} {e : Env} {below : List Frame} {s : State} {sargs : Array Value} {len W : Nat} (x t : Addr) (V : Cell) (cd : Int32) (n : Nat) (f : Nat → Int32) (z : Int32) (htab : tab.before sargs s = true) (hfr : 2 ≤ R.frames) (hlo : W + 25 ≤ R.locals) :
    Back l R p e below s sargs yN len W (fun A₁ a₁ => A₁.cells + 0 ≤ R.cells ∧ A₁.slots + 0 ≤ R.slots ∧ P x t V cd n f z a₁ A₁.U) (fun A₁ _ v₁ B₁ => E n v₁ A₁.U B₁.U ∧ B₁.locs = A₁.locs ++ [] ∧ B₁.cells = A₁.cells + 0 ∧ B₁.slots = A₁.slots + 0) :=
  (law l x t V cd n f z).pays htab hfr (by omega)
end Len
namespace IsL
def yN : MethodName := ⟨"java/lang/String", "isLatin1", "()Z"⟩
abbrev yB : ByteArray := jdk_42_method_154_code
theorem d0 : decode yB 0 = .ok (.getstatic 38, 3) := by decide +kernel
theorem d3 : decode yB 3 = .ok (.ifCond (.eq) 14, 3) := by decide +kernel
theorem d6 : decode yB 6 = .ok (.aload_n 0, 1) := by decide +kernel
theorem d7 : decode yB 7 = .ok (.getfield 15, 3) := by decide +kernel
theorem d10 : decode yB 10 = .ok (.ifCond (.ne) 7, 3) := by decide +kernel
theorem d13 : decode yB 13 = .ok (.iconst 1, 1) := by decide +kernel
theorem d14 : decode yB 14 = .ok (.goto 4, 3) := by decide +kernel
theorem d17 : decode yB 17 = .ok (.iconst 0, 1) := by decide +kernel
theorem d18 : decode yB 18 = .ok (.ireturn, 1) := by decide +kernel
def site : List Cond := [.fieldLink "java/lang/String" 38 "java/lang/String" "COMPACT_STRINGS" "Z", .fieldLink "java/lang/String" 15 "java/lang/String" "coder" "B"]
def tab : Cond := tabOf yN yB 1 (some .boolean) site
def P (x : Addr) (cd z : Int32) (args : Array Value) (s : State) : Prop := args = #[.ref x] ∧ Has x "java/lang/String" "coder" "B" (.int cd) s ∧ (cd = 0 ∨ cd = 1) ∧ StaticIs s "java/lang/String" "COMPACT_STRINGS" "Z" (.int z) ∧ ¬ z = 0
def E (cd : Int32) (r : Option Value) (s u : State) : Prop := XT.PureE (some (.int (1 - cd))) r s u
theorem law (l : Launch) (x : Addr) (cd z : Int32) : Law l yN 1 0 0 0 yB 1 (some .boolean) site (P x cd z) (E cd) [] 0 0 := by
  refine Law.of_walk (plainFor_of_name (by decide +kernel)) (by decide +kernel) (by decide +kernel) (by decide) (fun _ _ h => by rw [h.1]; rfl) (fun _ U U' hal hh h => ⟨h.1, h.2.1.mv hal hh, h.2.2.1, h.2.2.2.1.there hal hh, h.2.2.2.2⟩) (fun r U U' V V' h1 hal h2 h => XT.PureE.mv r U U' V V' h1 hal h2 h) ?_
  intro p e s m args below meth c s₁ X0 hexec hbytes hml hret hlk hnm hown hh0 W hP
  obtain ⟨rfl, hx, hc, s1, hz⟩ := hP
  have c1 : Steps p.tables e below (s₁.setTop (entryFrame m #[.ref x] 1)) (s₁.setTop (mkF m 0 #[.val (.ref x)] [])) := entry rfl
  obtain ⟨T2, X2, q2, st2⟩ := X0.sget hexec hown (wk W (.fieldLink "java/lang/String" 38 "java/lang/String" "COMPACT_STRINGS" "Z")) s1 (fun _ _ h => by rw [hh0]; exact h) (g := (mkF m 0 #[.val (.ref x)] [])) rfl (hb hbytes d0)
  have hh2 := q2.trans hh0
  have c3 : Steps p.tables e below (s₁.setTop (entryFrame m #[.ref x] 1)) (T2.setTop (mkF m 7 #[.val (.ref x)] [.ref x])) := (c1.trans (st2 _ (Steps.refl _))).trans (by
    refine XS.ifNo X2.here hexec rfl (hb hbytes d3) rfl (i0_eq_f hz) ?_
    refine XS.aloadN X2.here hexec rfl (hb hbytes d6) rfl rfl ?_
    exact Steps.refl _)
  obtain ⟨T4, X4, q4, st4⟩ := X2.hget hexec hown (wk W (.fieldLink "java/lang/String" 15 "java/lang/String" "coder" "B")) (hx.mv X2.warmed.alike hh2) (g := (mkF m 7 #[.val (.ref x)] [.ref x])) rfl (rest := []) rfl (hb hbytes d7)
  have c5 : Steps p.tables e below (s₁.setTop (entryFrame m #[.ref x] 1)) (T4.setTop (mkF m 10 #[.val (.ref x)] [.int cd])) := c3.trans (st4 _ (Steps.refl _))
  have c6 : Steps p.tables e below (s₁.setTop (entryFrame m #[.ref x] 1)) (T4.setTop (mkF m 18 #[.val (.ref x)] [.int (1 - cd)])) := by
    rcases hc with rfl | rfl
    · exact c5.trans (by
        refine XS.ifNo X4.here hexec rfl (hb hbytes d10) rfl (i0_ne_f rfl) ?_
        refine iconstV X4.here hexec rfl 1 (hb hbytes d13) (by decide) ?_
        refine XS.goto X4.here hexec rfl (pc0 := 14) rfl (hb hbytes d14) (by decide) rfl ?_
        exact Steps.refl _)
    · exact c5.trans (by
        refine XS.ifYes X4.here hexec rfl (pc0 := 10) rfl (hb hbytes d10) rfl (i0_ne_t (by decide)) (by decide) rfl ?_
        refine iconstV X4.here hexec rfl 0 (hb hbytes d17) (by decide) ?_
        exact Steps.refl _)
  exact ⟨T4, some (.int (1 - cd)), _, _, _, X4, rfl, rfl, rfl, (fun h => by cases h), ⟨rfl, q4.trans hh2⟩, fun fs hl => c6.trans (X4.ireturnOut hexec hret (by rcases hc with rfl | rfl <;> rfl) (Or.inr (Or.inl rfl)) (hb hbytes d18) hl)⟩
end IsL
namespace LChA
def yN : MethodName := ⟨"java/lang/StringLatin1", "charAt", "([BI)C"⟩
abbrev yB : ByteArray := jdk_43_method_2_code
theorem d0 : decode yB 0 = .ok (.iload_n 1, 1) := by decide +kernel
theorem d1 : decode yB 1 = .ok (.aload_n 0, 1) := by decide +kernel
theorem d2 : decode yB 2 = .ok (.arraylength, 1) := by decide +kernel
theorem d3 : decode yB 3 = .ok (.invokestatic 9, 3) := by decide +kernel
theorem d6 : decode yB 6 = .ok (.aload_n 0, 1) := by decide +kernel
theorem d7 : decode yB 7 = .ok (.iload_n 1, 1) := by decide +kernel
theorem d8 : decode yB 8 = .ok (.baload, 1) := by decide +kernel
theorem d9 : decode yB 9 = .ok (.sipush 255, 3) := by decide +kernel
theorem d12 : decode yB 12 = .ok (.iand, 1) := by decide +kernel
theorem d13 : decode yB 13 = .ok (.i2c, 1) := by decide +kernel
theorem d14 : decode yB 14 = .ok (.ireturn, 1) := by decide +kernel
def site : List Cond := [JO.Str_checkIndex.tab] ++ staticW "java/lang/StringLatin1" 9 JO.Str_checkIndex.yN
def tab : Cond := tabOf yN yB 2 (some .char) site
def P (t : Addr) (V : Cell) (i : Nat) (u : Int32) (fm : Value) (args : Array Value) (s : State) : Prop := args = #[.ref t, .int (Int32.ofNat i)] ∧ XT.Arr .byte t V s ∧ V.slots[i]? = some (.int u) ∧ (StaticIs s "jdk/internal/util/Preconditions" "SIOOBE_FORMATTER" "Ljava/util/function/BiFunction;" fm ∧ fm.isRef = true)
def E (u : Int32) (r : Option Value) (s w : State) : Prop := XT.PureE (some (.int (chr8 u))) r s w
theorem law (l : Launch) (t : Addr) (V : Cell) (i : Nat) (u : Int32) (fm : Value) : Law l yN 2 2 2 27 yB 2 (some .char) site (P t V i u fm) (E u) [] 0 0 := by
  refine Law.of_walk (plainFor_of_name (by decide +kernel)) (by decide +kernel) (by decide +kernel) (by decide) (fun _ _ h => by rw [h.1]; rfl) (fun _ U U' hal hh h => ⟨h.1, h.2.1.mv hal hh, h.2.2.1, h.2.2.2.1.there hal hh, h.2.2.2.2⟩) (fun r U U' V V' h1 hal h2 h => XT.PureE.mv r U U' V V' h1 hal h2 h) ?_
  intro p e s m args below meth c s₁ X0 hexec hbytes hml hret hlk hnm hown hh0 W hP
  obtain ⟨rfl, hV, hu, s1, rf⟩ := hP
  have v31 := hV.2.2.2
  have hi : i < V.slots.size := (Array.getElem?_eq_some_iff.mp hu).1
  have c1 : Steps p.tables e below (s₁.setTop (entryFrame m #[.ref t, .int (Int32.ofNat i)] 2)) (s₁.setTop (mkF m 0 #[.val (.ref t), .val (.int (Int32.ofNat i))] [])) := entry rfl
  have c2 : Steps p.tables e below (s₁.setTop (entryFrame m #[.ref t, .int (Int32.ofNat i)] 2)) (s₁.setTop (mkF m 3 #[.val (.ref t), .val (.int (Int32.ofNat i))] [.int (Int32.ofNat V.slots.size), .int (Int32.ofNat i)])) := c1.trans (by
    refine XS.iloadN X0.here hexec rfl (hb hbytes d0) rfl ?_
    refine XS.aloadN X0.here hexec rfl (hb hbytes d1) rfl rfl ?_
    refine X0.alen hexec (hV.mv X0.warmed.alike hh0) rfl rfl (hb hbytes d2) ?_
    exact Steps.refl _)
  obtain ⟨v3, T3, X3, E3, g3⟩ := X0.callS hexec (JO.Str_checkIndex.law l (Int32.ofNat i) (Int32.ofNat V.slots.size) fm) hown (wks W (staticW "java/lang/StringLatin1" 9 JO.Str_checkIndex.yN)) (wk W JO.Str_checkIndex.tab) (W := 0) (Nat.le_of_ble_eq_true rfl) (Nat.le_of_ble_eq_true rfl) (Nat.le_refl _) (Nat.le_refl _) (g := (mkF m 3 #[.val (.ref t), .val (.int (Int32.ofNat i))] [.int (Int32.ofNat V.slots.size), .int (Int32.ofNat i)])) rfl (by rw [hml]; rfl) c2 (argsL := [.int (Int32.ofNat i), .int (Int32.ofNat V.slots.size)]) (rest := []) rfl rfl (by show 2 * 0 + 0 ≤ _; decide) (hb hbytes d3) (⟨rfl, rf, s1.there X0.warmed.alike hh0, Int32.ofNat_not_neg (by omega), lt32 v31 hi⟩)
  obtain ⟨rfl, q3⟩ := E3
  have hh3 := q3.trans hh0
  have c4 : Steps p.tables e below (s₁.setTop (entryFrame m #[.ref t, .int (Int32.ofNat i)] 2)) (T3.setTop (mkF m 14 #[.val (.ref t), .val (.int (Int32.ofNat i))] [.int (chr8 u)])) := Steps.trans g3 (by
    refine XS.aloadN X3.here hexec rfl (hb hbytes d6) rfl rfl ?_
    refine XS.iloadN X3.here hexec rfl (hb hbytes d7) rfl ?_
    refine X3.aget hexec (hV.mv X3.warmed.alike hh3) rfl hu rfl rfl (hb hbytes d8) ?_
    refine sipushV X3.here hexec rfl 255 (hb hbytes d9) (by decide) ?_
    refine XS.iand X3.here hexec rfl (hb hbytes d12) rfl ?_
    refine i2c X3.here hexec rfl (hb hbytes d13) rfl ?_
    exact Steps.refl _)
  exact ⟨T3, some (.int (chr8 u)), _, _, _, X3, rfl, rfl, rfl, (fun h => by cases h), ⟨rfl, hh3⟩, fun fs hl => c4.trans (X3.ireturnOut hexec hret (narrow_c _) (Or.inr (Or.inr (Or.inr (Or.inl rfl)))) (hb hbytes d14) hl)⟩
end LChA
end StrChars
namespace StrChars.Road
open Jvm Sem ClassFile Op Lib Jvm.Stand Jvm.Free Jvm.Free.XT
open Jvm.Lib.Cold (StaticIs)
theorem consq {a : Array Value} {s : State} {c : Jvm.Cond} {L : List Jvm.Cond} (h0 : c.before a s = true) (h : ∀ w ∈ L, w.before a s = true) : ∀ w ∈ c :: L, w.before a s = true := fun w hw => (List.mem_cons.mp hw).elim (fun e => e ▸ h0) (h w)
/-- the words of String.length(), either coding -/
abbrev wordsLen : List Jvm.Cond := [.code Len.yN Len.yB 1 (some .int), .initialized ST, .fieldLink ST 9 ST "value" "[B", .fieldLink ST 38 ST "COMPACT_STRINGS" "Z", .fieldLink ST 15 ST "coder" "B", .code Cdr.yN Cdr.yB 1 (some .byte), .methodLink ST 335 Cdr.yN, .declares Cdr.yN, .selects ST Cdr.yN Cdr.yN, .instanceMethod Cdr.yN]
theorem tabLen_of {a : Array Value} {s : State} (h : ∀ w ∈ wordsLen, w.before a s = true) : Len.tab.before a s = true := by
  have hc : Cdr.tab.before a s = true := unparts (wk h (.code Cdr.yN Cdr.yB 1 (some .byte))) (wks h (.initialized Cdr.yN.cls :: Cdr.site))
  have q := consq hc h
  exact unparts (wk q (.code Len.yN Len.yB 1 (some .int))) (wks q (.initialized Len.yN.cls :: Len.site))
theorem movedLen {Z s : State} {a0 args : Array Value} (hZ : Z.Warmed39 s.vm) (hw : ∀ d ∈ wordsLen, d.before a0 Z = true) : ∀ d ∈ wordsLen, d.before args s = true := fun d hd => by
  have q := hw d hd
  have t : ∀ d ∈ wordsLen, d = .arrayClass .byte ∨ (d.onTables && d.keepsFace) = true := by decide +kernel
  rcases t d hd with rfl | t
  · exact RoadKit.mvA hZ q
  · exact RoadKit.mv hZ q t
/-- the bytes of the chars cs, low before high -/
def wideBytes : List Int32 → List Value
  | [] => []
  | c :: cs => .int (lo8 c) :: .int (hi8 c) :: wideBytes cs
theorem wide_lo (d : Value) : ∀ (cs : List Int32) (j : Nat), j < cs.length → (wideBytes cs).getD (2 * j) d = .int (lo8 (cs.getD j 0))
  | [], j, h => absurd h (Nat.not_lt_zero j)
  | c :: cs, 0, _ => rfl
  | c :: cs, j + 1, h => by
    have q := wide_lo d cs j (by simpa using h)
    rw [show 2 * (j + 1) = 2 * j + 1 + 1 from by omega]
    simpa [wideBytes] using q
theorem wide_hi (d : Value) : ∀ (cs : List Int32) (j : Nat), j < cs.length → (wideBytes cs).getD (2 * j + 1) d = .int (hi8 (cs.getD j 0))
  | [], j, h => absurd h (Nat.not_lt_zero j)
  | c :: cs, 0, _ => rfl
  | c :: cs, j + 1, h => by
    have q := wide_hi d cs j (by simpa using h)
    rw [show 2 * (j + 1) + 1 = 2 * j + 1 + 1 + 1 from by omega]
    simpa [wideBytes] using q
theorem low_at (d : Value) (cs : List Int32) (j : Nat) (h : j < cs.length) : (cs.map fun c => Value.int (lo8 c)).getD j d = .int (lo8 (cs.getD j 0)) := by
  simp [List.getD_eq_getElem?_getD, h]
/-- an array of N2 bytes vs codes the chars cs by the coder cd -/
def CodA (cs : List Int32) (cd N2 : Int32) (vs : List Value) : Prop := (cd = 0 ∧ N2 = Int32.ofNat cs.length ∧ vs = (cs.map fun c => Value.int (lo8 c)) ∧ ∀ c ∈ cs, ¬ 255 < c) ∨ (cd = 1 ∧ N2 = Int32.ofNat (2 * cs.length) ∧ vs = wideBytes cs ∧ ∃ c ∈ cs, 255 < c)
theorem CodA.cod {cs : List Int32} {cd N2 : Int32} {vs : List Value} {V : Cell} (h : CodA cs cd N2 vs) (hn : 2 * cs.length < 2 ^ 31) (hs : V.slots.size = N2.toNatClampNeg) (hv : RoadKit.Has V vs (.int 0)) : Cod cd cs.length (fun j => cs.getD j 0) V := by
  rcases h with ⟨rfl, rfl, rfl, h⟩ | ⟨rfl, rfl, rfl, c, hc, hw⟩
  · rw [n32 (by omega)] at hs
    exact Or.inl ⟨rfl, hs, fun j hj => ⟨by rw [hv j (by omega), low_at _ _ _ hj], by
      have e : cs.getD j 0 = cs[j] := by simp [List.getD_eq_getElem?_getD, hj]
      show ¬ 255 < cs.getD j 0
      rw [e]; exact h _ (List.getElem_mem _)⟩⟩
  · rw [n32 (by omega)] at hs
    obtain ⟨j, hj, rfl⟩ := List.getElem_of_mem hc
    exact Or.inr ⟨rfl, hs, fun j hj => ⟨by rw [hv _ (by omega), wide_lo _ _ _ hj], by rw [hv _ (by omega), wide_hi _ _ _ hj]⟩, j, hj, by
      have e : cs.getD j 0 = cs[j] := by simp [List.getD_eq_getElem?_getD, hj]
      show 255 < cs.getD j 0
      rw [e]; exact hw⟩
/-- an object of exactly java/lang/String, its two fields found: as the laws ask it -/
theorem strObj {Z U : State} {a0 : Array Value} {kI : Nat} (wi : (Jvm.Cond.instantiable ST kI).before a0 Z = true) (al : Z.vm.Alike U.vm) {x : Addr} {v0 c0 : Value} (E : RoadKit.Exa Z U.heap x ST) (V : RoadKit.Fld Z U.heap x ST "value" "[B" v0) (C : RoadKit.Fld Z U.heap x ST "coder" "B" c0) :
    ∃ (D : Cell) (fV fC : Field), Blank ST x D U ∧ Found ST "value" "[B" fV U ∧ Found ST "coder" "B" fC U ∧ D.slots[fV.slot]? = some v0 ∧ D.slots[fC.slot]? = some c0 ∧ RoadKit.slotOf Z ST "value" "[B" = fV.slot ∧ RoadKit.slotOf Z ST "coder" "B" = fC.slot := by
  obtain ⟨D, cfV, kV, iV, fV, hD, gV, stV, knV, obV, asV, slV⟩ := V
  obtain ⟨D', cfC, kC, iC, fC, hD', gC, stC, -, -, asC, slC⟩ := C
  cases hD.symm.trans hD'
  obtain ⟨D2, kD, e1, e2, e3, e4, e5⟩ := E
  cases hD.symm.trans e1
  obtain ⟨c2, k2, i1, i2, i3, -⟩ := Cond.instantiable_spec wi
  cases e2.symm.trans i1
  cases e3.symm.trans i2
  obtain ⟨kU, u1, u2⟩ := al.2.2 _ _ e3
  exact ⟨D, fV, fC, ⟨hD, ⟨knV, fun q hq => by rw [hq] at obV; cases obV⟩, by rw [al.findClass]; exact e2, kU, u1, by rw [u2]; exact i3, by rw [u2]; exact e5 i3⟩, ⟨SBG.found_only al ⟨cfV, kV, iV, gV⟩, stV⟩, ⟨SBG.found_only al ⟨cfC, kC, iC, gC⟩, stC⟩, slV, slC, by simp [RoadKit.slotOf, gV], by simp [RoadKit.slotOf, gC]⟩
theorem sta_is {Z U : State} (al : Z.vm.Alike U.vm) {C n d : String} {v : Value} (S : RoadKit.Sta Z U.heap C n d v) : StaticIs U C n d v := by
  obtain ⟨cfS, iS, kS, fS, st, cS, t1, t2, t3, t4, t5, t6, t7⟩ := S
  exact StaticIs.there (s := { Z with heap := U.heap }) ⟨cfS, iS, kS, fS, st, cS, t1, t2, t3, t4, t5, (fun q => by rw [q] at t6; cases t6), t7⟩ al rfl
/-- **length() OF SUCH A STRING** -/
theorem lenW {p : Program} {l : Launch} {e : Env} {R : Room} {s : State} {args : Array Value} {below : List Frame} {len W : Nat} {Z : State} {a0 : Array Value} {h : Heap} (hZ : Z.Warmed39 s.vm) (hw : ∀ d ∈ wordsLen, d.before a0 Z = true) {kI : Nat} (wi : (Jvm.Cond.instantiable ST kI).before a0 Z = true)
    {x t : Addr} {kb : ClassId} {cs : List Int32} {cd N2 z : Int32} {vs : List Value} (E : RoadKit.Exa Z h x ST) (V : RoadKit.Fld Z h x ST "value" "[B" (.ref t)) (C : RoadKit.Fld Z h x ST "coder" "B" (.int cd)) (K : RoadKit.Arv Z h t kb .byte N2 vs (.int 0)) (hc : CodA cs cd N2 vs) (hb : ∀ c ∈ cs, ¬ c < 0 ∧ ¬ (65535 : Int32) < c)
    (S : RoadKit.Sta Z h ST "COMPACT_STRINGS" "Z" (.int z)) (hz : ¬ z = 0) (l2 : cs.length ≤ 4000) (hfr : 2 ≤ R.frames) (hlo : W + 25 ≤ R.locals) :
    Back l R p e below s args (⟨"java/lang/String", "length", "()I"⟩ : MethodName) len W (fun P a => a = #[.ref x] ∧ P.U.heap = h ∧ P.cells + 0 ≤ R.cells ∧ P.slots + 0 ≤ R.slots)
      (fun P _ v B => ∃ L, (v = some (.int (Int32.ofNat cs.length)) ∧ L = [] ∧ B.U.heap = h) ∧ B.locs = P.locs ++ L ∧ B.cells = P.cells + 0 ∧ B.slots = P.slots + 0) := by
  obtain ⟨A, K1, K2, K3, K4, K5, K6⟩ := K
  have hcod := hc.cod (by omega) K3 K5
  intro m meth c P g ig mk a X hg hsize hdg hW hn hp'
  obtain ⟨rfl, rfl, r1, r2⟩ := hp'
  have al : Z.vm.Alike P.U.vm := hZ.alike.trans X.warmed.alike
  obtain ⟨D, fV, fC, hB, F1, F2, g1, g2, -, -⟩ := strObj wi al E V C
  have hx : Txt x t A cd cs.length (fun j => cs.getD j 0) P.U := ⟨⟨_, hB.2.2.1, D, hB.1, rfl, by cases q : D.vm <;> first | rfl | exact absurd q (hB.2.1.2 _)⟩, Has.of hB F1 g1, Has.of hB F2 g2, ⟨K1.1, State.isArrayOf_alike al K1.2.1, K1.2.2, by rcases hcod with ⟨-, q, -⟩ | ⟨-, q, -⟩ <;> omega⟩, hcod, fun j hj => by
    have e : cs.getD j 0 = cs[j] := by simp [List.getD_eq_getElem?_getD, hj]
    show ¬ cs.getD j 0 < 0 ∧ ¬ 65535 < cs.getD j 0
    rw [e]; exact hb _ (List.getElem_mem _)⟩
  obtain ⟨v, B, X', ⟨⟨hv, hh⟩, hl, hk, hs⟩, st⟩ := Len.pays x t A cd cs.length (fun j => cs.getD j 0) z (tabLen_of (movedLen hZ hw)) hfr hlo m meth c P g ig mk _ X hg hsize hdg hW hn ⟨r1, r2, rfl, hx, sta_is al S, hz⟩
  exact ⟨v, B, X', ⟨[], ⟨hv, rfl, hh⟩, hl, hk, hs⟩, st⟩
end StrChars.Road
namespace StrChars.Road
open Jvm Sem ClassFile Op Lib Jvm.Stand Jvm.Free Jvm.Free.XT
open Jvm.Lib.Cold (StaticIs)
/-- the road's facts of a String, as the laws ask it -/
theorem txt_of {Z U : State} {a0 : Array Value} {kI : Nat} (wi : (Jvm.Cond.instantiable ST kI).before a0 Z = true) (al : Z.vm.Alike U.vm) {x t : Addr} {kb : ClassId} {cs : List Int32} {cd N2 : Int32} {vs : List Value} (E : RoadKit.Exa Z U.heap x ST) (V : RoadKit.Fld Z U.heap x ST "value" "[B" (.ref t)) (C : RoadKit.Fld Z U.heap x ST "coder" "B" (.int cd)) (K : RoadKit.Arv Z U.heap t kb .byte N2 vs (.int 0)) (hc : CodA cs cd N2 vs) (hb : ∀ c ∈ cs, ¬ c < 0 ∧ ¬ (65535 : Int32) < c) (l2 : cs.length ≤ 4000) :
    ∃ A, Txt x t A cd cs.length (fun j => cs.getD j 0) U := by
  obtain ⟨A, K1, K2, K3, K4, K5, K6⟩ := K
  have hcod := hc.cod (by omega) K3 K5
  obtain ⟨D, fV, fC, hB, F1, F2, g1, g2, -, -⟩ := strObj wi al E V C
  exact ⟨A, ⟨_, hB.2.2.1, D, hB.1, rfl, by cases q : D.vm <;> first | rfl | exact absurd q (hB.2.1.2 _)⟩, Has.of hB F1 g1, Has.of hB F2 g2, ⟨K1.1, State.isArrayOf_alike al K1.2.1, K1.2.2, by rcases hcod with ⟨-, q, -⟩ | ⟨-, q, -⟩ <;> omega⟩, hcod, fun j hj => by
    have e : cs.getD j 0 = cs[j] := by simp [List.getD_eq_getElem?_getD, hj]
    show ¬ cs.getD j 0 < 0 ∧ ¬ 65535 < cs.getD j 0
    rw [e]; exact hb _ (List.getElem_mem _)⟩
end StrChars.Road
namespace StrChars
open Jvm Sem ClassFile Op Lib Jvm.Stand Jvm.Free.XT Jvm.Free.ALB Jvm.Free.JM Jvm.Free
open Jvm.Lib.Cold (StaticIs)
namespace ChN
def yN : MethodName := ⟨"java/lang/String", "charAt", "(I)C"⟩
abbrev yB : ByteArray := jdk_42_method_56_code
theorem d0 : decode yB 0 = .ok (.aload_n 0, 1) := by decide +kernel
theorem d1 : decode yB 1 = .ok (.invokevirtual 492, 3) := by decide +kernel
theorem d4 : decode yB 4 = .ok (.ifCond (.eq) 12, 3) := by decide +kernel
theorem d7 : decode yB 7 = .ok (.aload_n 0, 1) := by decide +kernel
theorem d8 : decode yB 8 = .ok (.getfield 9, 3) := by decide +kernel
theorem d11 : decode yB 11 = .ok (.iload_n 1, 1) := by decide +kernel
theorem d12 : decode yB 12 = .ok (.invokestatic 495, 3) := by decide +kernel
theorem d15 : decode yB 15 = .ok (.ireturn, 1) := by decide +kernel
def site : List Cond := [.fieldLink "java/lang/String" 9 "java/lang/String" "value" "[B", IsL.tab, LChA.tab] ++ virtW "java/lang/String" 492 "java/lang/String" IsL.yN IsL.yN ++ staticW "java/lang/String" 495 LChA.yN
def tab : Cond := tabOf yN yB 2 (some .char) site
def P (x t : Addr) (V : Cell) (n : Nat) (f : Nat → Int32) (z : Int32) (fm : Value) (i : Nat) (args : Array Value) (s : State) : Prop := args = #[.ref x, .int (Int32.ofNat i)] ∧ Txt x t V 0 n f s ∧ i < n ∧ StaticIs s "java/lang/String" "COMPACT_STRINGS" "Z" (.int z) ∧ ¬ z = 0 ∧ StaticIs s "jdk/internal/util/Preconditions" "SIOOBE_FORMATTER" "Ljava/util/function/BiFunction;" fm ∧ fm.isRef = true
def E (f : Nat → Int32) (i : Nat) (r : Option Value) (s u : State) : Prop := XT.PureE (some (.int (f i))) r s u
/-- charAt(i) of a Latin-1 String of n chars, i < n: f i -/
theorem law (l : Launch) (x t : Addr) (V : Cell) (n : Nat) (f : Nat → Int32) (z : Int32) (fm : Value) (i : Nat) : Law l yN 2 1 3 40 yB 2 (some .char) site (P x t V n f z fm i) (E f i) [] 0 0 := by
  refine Law.of_walk (plainFor_of_name (by decide +kernel)) (by decide +kernel) (by decide +kernel) (by decide) (fun _ _ h => by rw [h.1]; rfl) (fun _ U U' hal hh h => ⟨h.1, h.2.1.mv hal hh, h.2.2.1, h.2.2.2.1.there hal hh, h.2.2.2.2.1, h.2.2.2.2.2.1.there hal hh, h.2.2.2.2.2.2⟩) (fun r U U' V V' h1 hal h2 h => XT.PureE.mv r U U' V V' h1 hal h2 h) ?_
  intro p e s m args below meth c s₁ X0 hexec hbytes hml hret hlk hnm hown hh0 W hP
  obtain ⟨rfl, hx, hi, s1, hz, s3, rf⟩ := hP
  have v31 := hx.2.2.2.1.2.2.2
  have hr := hx.2.2.2.2.2 i hi
  have hx0 := hx.mv X0.warmed.alike hh0
  have c1 : Steps p.tables e below (s₁.setTop (entryFrame m #[.ref x, .int (Int32.ofNat i)] 2)) (s₁.setTop (mkF m 1 #[.val (.ref x), .val (.int (Int32.ofNat i))] [.ref x])) := Steps.trans (entry rfl) (by
    show Steps p.tables e below (s₁.setTop (mkF m 0 #[.val (.ref x), .val (.int (Int32.ofNat i))] [])) _
    refine XS.aloadN X0.here hexec rfl (hb hbytes d0) rfl rfl ?_
    exact Steps.refl _)
  obtain ⟨v2, T2, X2, E2, g2⟩ := X0.callV hexec (IsL.law l x 0 z) hown (wks W (virtW "java/lang/String" 492 "java/lang/String" IsL.yN IsL.yN)) rfl (by decide) (wk W IsL.tab) (W := 0) (Nat.le_of_ble_eq_true rfl) (Nat.le_of_ble_eq_true rfl) (Nat.le_refl _) (Nat.le_refl _) (hx0.1.fc X0.warmed.alike) hx0.1.is (g := (mkF m 1 #[.val (.ref x), .val (.int (Int32.ofNat i))] [.ref x])) rfl (by rw [hml]; rfl) c1 (argsL := []) (rest := []) rfl rfl (by show 2 * 0 + 0 ≤ _; decide) (hb hbytes d1) (⟨rfl, hx0.2.2.1, hx.2.2.2.2.1.cd, s1.there X0.warmed.alike hh0, hz⟩)
  obtain ⟨rfl, q2⟩ := E2
  have hh2 := q2.trans hh0
  have hx2 := hx.mv X2.warmed.alike hh2
  obtain ⟨-, k1, k2⟩ | ⟨k0, -⟩ := hx.2.2.2.2.1
  · have c3 : Steps p.tables e below (s₁.setTop (entryFrame m #[.ref x, .int (Int32.ofNat i)] 2)) (T2.setTop (mkF m 8 #[.val (.ref x), .val (.int (Int32.ofNat i))] [.ref x])) := Steps.trans g2 (by
      refine XS.ifNo X2.here hexec rfl (hb hbytes d4) rfl (i0_eq_f (by decide)) ?_
      refine XS.aloadN X2.here hexec rfl (hb hbytes d7) rfl rfl ?_
      exact Steps.refl _)
    obtain ⟨T4, X4, q4, st4⟩ := X2.hget hexec hown (wk W (.fieldLink "java/lang/String" 9 "java/lang/String" "value" "[B")) hx2.2.1 (g := (mkF m 8 #[.val (.ref x), .val (.int (Int32.ofNat i))] [.ref x])) rfl (rest := []) rfl (hb hbytes d8)
    have hh4 := q4.trans hh2
    have c5 : Steps p.tables e below (s₁.setTop (entryFrame m #[.ref x, .int (Int32.ofNat i)] 2)) (T4.setTop (mkF m 12 #[.val (.ref x), .val (.int (Int32.ofNat i))] [.int (Int32.ofNat i), .ref t])) := (c3.trans (st4 _ (Steps.refl _))).trans (by
      refine XS.iloadN X4.here hexec rfl (hb hbytes d11) rfl ?_
      exact Steps.refl _)
    obtain ⟨v6, T6, X6, E6, g6⟩ := X4.callS hexec (LChA.law l t V i (lo8 (f i)) fm) hown (wks W (staticW "java/lang/String" 495 LChA.yN)) (wk W LChA.tab) (W := 0) (Nat.le_of_ble_eq_true rfl) (Nat.le_of_ble_eq_true rfl) (Nat.le_refl _) (Nat.le_refl _) (g := (mkF m 12 #[.val (.ref x), .val (.int (Int32.ofNat i))] [.int (Int32.ofNat i), .ref t])) rfl (by rw [hml]; rfl) c5 (argsL := [.ref t, .int (Int32.ofNat i)]) (rest := []) rfl rfl (by show 2 * 0 + 0 ≤ _; decide) (hb hbytes d12) (⟨rfl, hx.2.2.2.1.mv X4.warmed.alike hh4, (k2 i hi).1, s3.there X4.warmed.alike hh4, rf⟩)
    obtain ⟨rfl, q6⟩ := E6
    rw [chr8_lo8 hr.1 (k2 i hi).2] at g6
    exact ⟨T6, some (.int (f i)), _, _, _, X6, rfl, rfl, rfl, (fun h => by cases h), ⟨rfl, q6.trans hh4⟩, fun fs hl => Steps.trans g6 (X6.ireturnOut hexec hret (narrow_ch hr.1 hr.2) (Or.inr (Or.inr (Or.inr (Or.inl rfl)))) (hb hbytes d15) hl)⟩
  · exact absurd k0 (by decide)
theorem pays {l : Launch} {R : Room} {p : Program} {e : Env} {below : List Frame} {s : State} {sargs : Array Value} {len W : Nat} (x t : Addr) (V : Cell) (n : Nat) (f : Nat → Int32) (z : Int32) (fm : Value) (i : Nat) (htab : tab.before sargs s = true) (hfr : 4 ≤ R.frames) (hlo : W + 53 ≤ R.locals) :
    Back l R p e below s sargs yN len W (fun A₁ a₁ => A₁.cells + 0 ≤ R.cells ∧ A₁.slots + 0 ≤ R.slots ∧ P x t V n f z fm i a₁ A₁.U) (fun A₁ _ v₁ B₁ => E f i v₁ A₁.U B₁.U ∧ B₁.locs = A₁.locs ++ [] ∧ B₁.cells = A₁.cells + 0 ∧ B₁.slots = A₁.slots + 0) :=
  (law l x t V n f z fm i).pays htab hfr (by omega)
end ChN
end StrChars
namespace StrChars.Road
open Jvm Sem ClassFile Op Lib Jvm.Stand Jvm.Free Jvm.Free.XT
open Jvm.Lib.Cold (StaticIs)
/-- the words of String.charAt(int), the Latin-1 road alone -/
abbrev wordsChN : List Jvm.Cond := [.code ChN.yN ChN.yB 2 (some .char), .initialized ST, .fieldLink ST 9 ST "value" "[B", .fieldLink ST 38 ST "COMPACT_STRINGS" "Z", .fieldLink ST 15 ST "coder" "B", .code IsL.yN IsL.yB 1 (some .boolean), .methodLink ST 492 IsL.yN, .declares IsL.yN, .selects ST IsL.yN IsL.yN, .instanceMethod IsL.yN,
  .methodLink ST 495 LChA.yN, .static LChA.yN, .code LChA.yN LChA.yB 2 (some .char), .initialized "java/lang/StringLatin1", .methodLink "java/lang/StringLatin1" 9 JO.Str_checkIndex.yN, .static JO.Str_checkIndex.yN, .code JO.Str_checkIndex.yN JO.Str_checkIndex.yB 2 none,
  .fieldLink ST 1053 "jdk/internal/util/Preconditions" "SIOOBE_FORMATTER" "Ljava/util/function/BiFunction;", .methodLink ST 1059 JC.PreCheck.yN, .static JC.PreCheck.yN, .code JC.PreCheck.yN JC.PreCheck.yB 3 (some .int), .initialized "jdk/internal/util/Preconditions"]
theorem tabChN_of {a : Array Value} {s : State} (h : ∀ w ∈ wordsChN, w.before a s = true) : ChN.tab.before a s = true := by
  have hp : JC.PreCheck.tab.before a s = true := unparts (wk h (.code JC.PreCheck.yN JC.PreCheck.yB 3 (some .int))) (wks h (.initialized JC.PreCheck.yN.cls :: JC.PreCheck.site))
  have qk := consq hp h
  have hk : JO.Str_checkIndex.tab.before a s = true := unparts (wk qk (.code JO.Str_checkIndex.yN JO.Str_checkIndex.yB 2 none)) (wks qk (.initialized JO.Str_checkIndex.yN.cls :: JO.Str_checkIndex.site))
  have ql := consq hk h
  have hl : LChA.tab.before a s = true := unparts (wk ql (.code LChA.yN LChA.yB 2 (some .char))) (wks ql (.initialized LChA.yN.cls :: LChA.site))
  have hi : IsL.tab.before a s = true := unparts (wk h (.code IsL.yN IsL.yB 1 (some .boolean))) (wks h (.initialized IsL.yN.cls :: IsL.site))
  have q := consq hi (consq hl h)
  exact unparts (wk q (.code ChN.yN ChN.yB 2 (some .char))) (wks q (.initialized ChN.yN.cls :: ChN.site))
theorem movedChN {Z s : State} {a0 args : Array Value} (hZ : Z.Warmed39 s.vm) (hw : ∀ d ∈ wordsChN, d.before a0 Z = true) : ∀ d ∈ wordsChN, d.before args s = true := fun d hd => by
  have t : ∀ d ∈ wordsChN, (d.onTables && d.keepsFace) = true := by decide +kernel
  exact RoadKit.mv hZ (hw d hd) (t d hd)
/-- **charAt(i) OF A LATIN-1 STRING**, i < n: the char -/
theorem chN {p : Program} {l : Launch} {e : Env} {R : Room} {s : State} {args : Array Value} {below : List Frame} {len W : Nat} {Z : State} {a0 : Array Value} {h : Heap} (hZ : Z.Warmed39 s.vm) (hw : ∀ d ∈ wordsChN, d.before a0 Z = true) {kI : Nat} (wi : (Jvm.Cond.instantiable ST kI).before a0 Z = true)
    {x t : Addr} {kb : ClassId} {cs : List Int32} {N2 z : Int32} {vs : List Value} {fm : Value} {i : Nat} {j : Int32} (E : RoadKit.Exa Z h x ST) (V : RoadKit.Fld Z h x ST "value" "[B" (.ref t)) (C : RoadKit.Fld Z h x ST "coder" "B" (.int 0)) (K : RoadKit.Arv Z h t kb .byte N2 vs (.int 0)) (hc : CodA cs 0 N2 vs) (hb : ∀ c ∈ cs, ¬ c < 0 ∧ ¬ (65535 : Int32) < c)
    (S : RoadKit.Sta Z h ST "COMPACT_STRINGS" "Z" (.int z)) (hz : ¬ z = 0) (F : RoadKit.Sta Z h "jdk/internal/util/Preconditions" "SIOOBE_FORMATTER" "Ljava/util/function/BiFunction;" fm) (rf : fm.isRef = true) (l2 : cs.length ≤ 4000) (hi : i < cs.length) (hj : j = Int32.ofNat i) (hfr : 4 ≤ R.frames) (hlo : W + 53 ≤ R.locals) :
    Back l R p e below s args (⟨"java/lang/String", "charAt", "(I)C"⟩ : MethodName) len W (fun P a => a = #[.ref x, .int j] ∧ P.U.heap = h ∧ P.cells + 0 ≤ R.cells ∧ P.slots + 0 ≤ R.slots)
      (fun P _ v B => ∃ L, (v = some (.int (cs.getD i 0)) ∧ L = [] ∧ B.U.heap = h) ∧ B.locs = P.locs ++ L ∧ B.cells = P.cells + 0 ∧ B.slots = P.slots + 0) := by
  subst hj
  intro m meth c P g ig mk a X hg hsize hdg hW hn hp'
  obtain ⟨rfl, rfl, r1, r2⟩ := hp'
  have al : Z.vm.Alike P.U.vm := hZ.alike.trans X.warmed.alike
  obtain ⟨A, hx⟩ := txt_of wi al E V C K hc hb l2
  obtain ⟨v, B, X', ⟨⟨hv, hh⟩, hl, hk, hs⟩, st⟩ := ChN.pays x t A cs.length (fun j => cs.getD j 0) z fm i (tabChN_of (movedChN hZ hw)) hfr hlo m meth c P g ig mk _ X hg hsize hdg hW hn ⟨r1, r2, rfl, hx, hi, sta_is al S, hz, sta_is al F, rf⟩
  exact ⟨v, B, X', ⟨[], ⟨hv, rfl, hh⟩, hl, hk, hs⟩, st⟩
/-- what backV says of its String, as the contracts of this text ask it: cs's low bytes, coder 0 -/
theorem codOf {cs : List Int32} {n : Nat} (hn : cs.length = n) (hb : ∀ c ∈ cs, ¬ 255 < c) : CodA cs 0 (Int32.ofNat n) ((cs.map lo8).map Value.int) := Or.inl ⟨rfl, by rw [hn], by simp [List.map_map, Function.comp_def], hb⟩
end StrChars.Road
end Jvm.Pilot.@@N@@
namespace Jvm.Pilot.@@N@@
open Jvm Jvm.ClassFile Sem Op Lib Jvm.Free Jvm.Stand Jvm.LawKit Jvm.RoadKit Bundle Jvm.Pilot.@@N@@.Jvm.D Own

def Wld (Z : State) (a0 : Array Value) : Prop := (∀ d ∈ tables_1, d.before a0 Z = true) ∧ EW Z a0 consts_1 ∧ (∃ z : Int32, Sta Z Z.heap "java/lang/String" "COMPACT_STRINGS" "Z" (.int z) ∧ ¬ z = 0) ∧ (∃ fm : Value, Sta Z Z.heap "jdk/internal/util/Preconditions" "SIOOBE_FORMATTER" "Ljava/util/function/BiFunction;" fm ∧ fm.isRef = true)
theorem Wld.atoms {Z : State} {a0 : Array Value} (G : Wld Z a0) : ∀ d ∈ Bundle.stringAtoms, d.before a0 Z = true := fun d hd => G.1 d ((by decide +kernel : ∀ d ∈ Bundle.stringAtoms, d ∈ tables_1) d hd)
theorem d0_0 : decode method_3_code 0 = .ok (.iload_n 0, 1) := by decide +kernel
theorem d0_1 : decode method_3_code 1 = .ok (.bipush 15, 2) := by decide +kernel
theorem d0_3 : decode method_3_code 3 = .ok (.iand, 1) := by decide +kernel
theorem d0_4 : decode method_3_code 4 = .ok (.istore_n 1, 1) := by decide +kernel
theorem d0_5 : decode method_3_code 5 = .ok (.bipush 8, 2) := by decide +kernel
theorem d0_7 : decode method_3_code 7 = .ok (.newarray .char, 2) := by decide +kernel
theorem d0_9 : decode method_3_code 9 = .ok (.dup, 1) := by decide +kernel
theorem d0_10 : decode method_3_code 10 = .ok (.iconst 0, 1) := by decide +kernel
theorem d0_11 : decode method_3_code 11 = .ok (.bipush 63, 2) := by decide +kernel
theorem d0_13 : decode method_3_code 13 = .ok (.castore, 1) := by decide +kernel
theorem d0_14 : decode method_3_code 14 = .ok (.dup, 1) := by decide +kernel
theorem d0_15 : decode method_3_code 15 = .ok (.iconst 1, 1) := by decide +kernel
theorem d0_16 : decode method_3_code 16 = .ok (.bipush 35, 2) := by decide +kernel
theorem d0_18 : decode method_3_code 18 = .ok (.castore, 1) := by decide +kernel
theorem d0_19 : decode method_3_code 19 = .ok (.dup, 1) := by decide +kernel
theorem d0_20 : decode method_3_code 20 = .ok (.iconst 2, 1) := by decide +kernel
theorem d0_21 : decode method_3_code 21 = .ok (.bipush 32, 2) := by decide +kernel
theorem d0_23 : decode method_3_code 23 = .ok (.castore, 1) := by decide +kernel
theorem d0_24 : decode method_3_code 24 = .ok (.dup, 1) := by decide +kernel
theorem d0_25 : decode method_3_code 25 = .ok (.iconst 3, 1) := by decide +kernel
theorem d0_26 : decode method_3_code 26 = .ok (.bipush 97, 2) := by decide +kernel
theorem d0_28 : decode method_3_code 28 = .ok (.castore, 1) := by decide +kernel
theorem d0_29 : decode method_3_code 29 = .ok (.dup, 1) := by decide +kernel
theorem d0_30 : decode method_3_code 30 = .ok (.iconst 4, 1) := by decide +kernel
theorem d0_31 : decode method_3_code 31 = .ok (.bipush 9, 2) := by decide +kernel
theorem d0_33 : decode method_3_code 33 = .ok (.castore, 1) := by decide +kernel
theorem d0_34 : decode method_3_code 34 = .ok (.dup, 1) := by decide +kernel
theorem d0_35 : decode method_3_code 35 = .ok (.iconst 5, 1) := by decide +kernel
theorem d0_36 : decode method_3_code 36 = .ok (.bipush 38, 2) := by decide +kernel
theorem d0_38 : decode method_3_code 38 = .ok (.castore, 1) := by decide +kernel
theorem d0_39 : decode method_3_code 39 = .ok (.dup, 1) := by decide +kernel
theorem d0_40 : decode method_3_code 40 = .ok (.bipush 6, 2) := by decide +kernel
theorem d0_42 : decode method_3_code 42 = .ok (.bipush 13, 2) := by decide +kernel
theorem d0_44 : decode method_3_code 44 = .ok (.castore, 1) := by decide +kernel
theorem d0_45 : decode method_3_code 45 = .ok (.dup, 1) := by decide +kernel
theorem d0_46 : decode method_3_code 46 = .ok (.bipush 7, 2) := by decide +kernel
theorem d0_48 : decode method_3_code 48 = .ok (.bipush 10, 2) := by decide +kernel
theorem d0_50 : decode method_3_code 50 = .ok (.castore, 1) := by decide +kernel
theorem d0_51 : decode method_3_code 51 = .ok (.astore_n 2, 1) := by decide +kernel
theorem d0_52 : decode method_3_code 52 = .ok (.iload_n 1, 1) := by decide +kernel
theorem d0_53 : decode method_3_code 53 = .ok (.bipush 8, 2) := by decide +kernel
theorem d0_55 : decode method_3_code 55 = .ok (.if_icmp .ge 7, 3) := by decide +kernel
theorem d0_58 : decode method_3_code 58 = .ok (.aload_n 2, 1) := by decide +kernel
theorem d0_59 : decode method_3_code 59 = .ok (.iload_n 1, 1) := by decide +kernel
theorem d0_60 : decode method_3_code 60 = .ok (.caload, 1) := by decide +kernel
theorem d0_61 : decode method_3_code 61 = .ok (.ireturn, 1) := by decide +kernel
theorem d0_62 : decode method_3_code 62 = .ok (.iload_n 0, 1) := by decide +kernel
theorem d0_63 : decode method_3_code 63 = .ok (.iconst 4, 1) := by decide +kernel
theorem d0_64 : decode method_3_code 64 = .ok (.iushr, 1) := by decide +kernel
theorem d0_65 : decode method_3_code 65 = .ok (.sipush 255, 3) := by decide +kernel
theorem d0_68 : decode method_3_code 68 = .ok (.iand, 1) := by decide +kernel
theorem d0_69 : decode method_3_code 69 = .ok (.i2c, 1) := by decide +kernel
theorem d0_70 : decode method_3_code 70 = .ok (.ireturn, 1) := by decide +kernel
theorem d1_0 : decode method_4_code 0 = .ok (.iload_n 0, 1) := by decide +kernel
theorem d1_1 : decode method_4_code 1 = .ok (.ifCond .ne 6, 3) := by decide +kernel
theorem d1_4 : decode method_4_code 4 = .ok (.bipush 32, 2) := by decide +kernel
theorem d1_6 : decode method_4_code 6 = .ok (.ireturn, 1) := by decide +kernel
theorem d1_7 : decode method_4_code 7 = .ok (.iload_n 0, 1) := by decide +kernel
theorem d1_8 : decode method_4_code 8 = .ok (.iconst 1, 1) := by decide +kernel
theorem d1_9 : decode method_4_code 9 = .ok (.if_icmp .ne 6, 3) := by decide +kernel
theorem d1_12 : decode method_4_code 12 = .ok (.bipush 9, 2) := by decide +kernel
theorem d1_14 : decode method_4_code 14 = .ok (.ireturn, 1) := by decide +kernel
theorem d1_15 : decode method_4_code 15 = .ok (.iload_n 0, 1) := by decide +kernel
theorem d1_16 : decode method_4_code 16 = .ok (.iconst 2, 1) := by decide +kernel
theorem d1_17 : decode method_4_code 17 = .ok (.if_icmp .ne 6, 3) := by decide +kernel
theorem d1_20 : decode method_4_code 20 = .ok (.bipush 13, 2) := by decide +kernel
theorem d1_22 : decode method_4_code 22 = .ok (.ireturn, 1) := by decide +kernel
theorem d1_23 : decode method_4_code 23 = .ok (.bipush 10, 2) := by decide +kernel
theorem d1_25 : decode method_4_code 25 = .ok (.ireturn, 1) := by decide +kernel
theorem d2_0 : decode method_5_code 0 = .ok (.iload_n 1, 1) := by decide +kernel
theorem d2_1 : decode method_5_code 1 = .ok (.iload_n 2, 1) := by decide +kernel
theorem d2_2 : decode method_5_code 2 = .ok (.iushr, 1) := by decide +kernel
theorem d2_3 : decode method_5_code 3 = .ok (.iconst 1, 1) := by decide +kernel
theorem d2_4 : decode method_5_code 4 = .ok (.iand, 1) := by decide +kernel
theorem d2_5 : decode method_5_code 5 = .ok (.ifCond .eq 9, 3) := by decide +kernel
theorem d2_8 : decode method_5_code 8 = .ok (.iload_n 0, 1) := by decide +kernel
theorem d2_9 : decode method_5_code 9 = .ok (.bipush 32, 2) := by decide +kernel
theorem d2_11 : decode method_5_code 11 = .ok (.isub, 1) := by decide +kernel
theorem d2_12 : decode method_5_code 12 = .ok (.i2c, 1) := by decide +kernel
theorem d2_13 : decode method_5_code 13 = .ok (.ireturn, 1) := by decide +kernel
theorem d2_14 : decode method_5_code 14 = .ok (.iload_n 0, 1) := by decide +kernel
theorem d2_15 : decode method_5_code 15 = .ok (.ireturn, 1) := by decide +kernel
theorem d9_0 : decode prog_23_method_1_code 0 = .ok (.aload_n 0, 1) := by decide +kernel
theorem d9_1 : decode prog_23_method_1_code 1 = .ok (.invokespecial 1, 3) := by decide +kernel
theorem d9_4 : decode prog_23_method_1_code 4 = .ok (.aload_n 1, 1) := by decide +kernel
theorem d9_5 : decode prog_23_method_1_code 5 = .ok (.invokestatic 7, 3) := by decide +kernel
theorem d9_8 : decode prog_23_method_1_code 8 = .ok (.ifCond .ne 13, 3) := by decide +kernel
theorem d9_21 : decode prog_23_method_1_code 21 = .ok (.aload_n 1, 1) := by decide +kernel
theorem d9_22 : decode prog_23_method_1_code 22 = .ok (.invokevirtual 20, 3) := by decide +kernel
theorem d9_25 : decode prog_23_method_1_code 25 = .ok (.istore_n 2, 1) := by decide +kernel
theorem d9_26 : decode prog_23_method_1_code 26 = .ok (.aload_n 1, 1) := by decide +kernel
theorem d9_27 : decode prog_23_method_1_code 27 = .ok (.iload_n 2, 1) := by decide +kernel
theorem d9_28 : decode prog_23_method_1_code 28 = .ok (.iconst 1, 1) := by decide +kernel
theorem d9_29 : decode prog_23_method_1_code 29 = .ok (.isub, 1) := by decide +kernel
theorem d9_30 : decode prog_23_method_1_code 30 = .ok (.invokevirtual 26, 3) := by decide +kernel
theorem d9_33 : decode prog_23_method_1_code 33 = .ok (.invokestatic 30, 3) := by decide +kernel
theorem d9_36 : decode prog_23_method_1_code 36 = .ok (.ifCond .eq 9, 3) := by decide +kernel
theorem d9_39 : decode prog_23_method_1_code 39 = .ok (.iinc 2 (-1), 3) := by decide +kernel
theorem d9_42 : decode prog_23_method_1_code 42 = .ok (.goto (-16), 3) := by decide +kernel
theorem d9_45 : decode prog_23_method_1_code 45 = .ok (.aload_n 0, 1) := by decide +kernel
theorem d9_46 : decode prog_23_method_1_code 46 = .ok (.aload_n 1, 1) := by decide +kernel
theorem d9_47 : decode prog_23_method_1_code 47 = .ok (.putfield 34, 3) := by decide +kernel
theorem d9_50 : decode prog_23_method_1_code 50 = .ok (.aload_n 0, 1) := by decide +kernel
theorem d9_51 : decode prog_23_method_1_code 51 = .ok (.aload_n 1, 1) := by decide +kernel
theorem d9_52 : decode prog_23_method_1_code 52 = .ok (.invokestatic 38, 3) := by decide +kernel
theorem d9_55 : decode prog_23_method_1_code 55 = .ok (.ldc 42, 2) := by decide +kernel
theorem d9_57 : decode prog_23_method_1_code 57 = .ok (.invokevirtual 20, 3) := by decide +kernel
theorem d9_60 : decode prog_23_method_1_code 60 = .ok (.iadd, 1) := by decide +kernel
theorem d9_61 : decode prog_23_method_1_code 61 = .ok (.putfield 44, 3) := by decide +kernel
theorem d9_64 : decode prog_23_method_1_code 64 = .ok (.aload_n 0, 1) := by decide +kernel
theorem d9_65 : decode prog_23_method_1_code 65 = .ok (.iload_n 2, 1) := by decide +kernel
theorem d9_66 : decode prog_23_method_1_code 66 = .ok (.putfield 48, 3) := by decide +kernel
theorem d9_69 : decode prog_23_method_1_code 69 = .ok (.aload_n 0, 1) := by decide +kernel
theorem d9_70 : decode prog_23_method_1_code 70 = .ok (.aload_n 1, 1) := by decide +kernel
theorem d9_71 : decode prog_23_method_1_code 71 = .ok (.bipush 35, 2) := by decide +kernel
theorem d9_73 : decode prog_23_method_1_code 73 = .ok (.aload_n 0, 1) := by decide +kernel
theorem d9_74 : decode prog_23_method_1_code 74 = .ok (.getfield 44, 3) := by decide +kernel
theorem d9_77 : decode prog_23_method_1_code 77 = .ok (.iload_n 2, 1) := by decide +kernel
theorem d9_78 : decode prog_23_method_1_code 78 = .ok (.invokestatic 51, 3) := by decide +kernel
theorem d9_81 : decode prog_23_method_1_code 81 = .ok (.putfield 55, 3) := by decide +kernel
theorem d9_84 : decode prog_23_method_1_code 84 = .ok (.aload_n 0, 1) := by decide +kernel
theorem d9_85 : decode prog_23_method_1_code 85 = .ok (.aload_n 1, 1) := by decide +kernel
theorem d9_86 : decode prog_23_method_1_code 86 = .ok (.bipush 63, 2) := by decide +kernel
theorem d9_88 : decode prog_23_method_1_code 88 = .ok (.aload_n 0, 1) := by decide +kernel
theorem d9_89 : decode prog_23_method_1_code 89 = .ok (.getfield 44, 3) := by decide +kernel
theorem d9_92 : decode prog_23_method_1_code 92 = .ok (.aload_n 0, 1) := by decide +kernel
theorem d9_93 : decode prog_23_method_1_code 93 = .ok (.getfield 55, 3) := by decide +kernel
theorem d9_96 : decode prog_23_method_1_code 96 = .ok (.invokestatic 51, 3) := by decide +kernel
theorem d9_99 : decode prog_23_method_1_code 99 = .ok (.putfield 58, 3) := by decide +kernel
theorem d9_102 : decode prog_23_method_1_code 102 = .ok (.return_, 1) := by decide +kernel
theorem d10_0 : decode prog_23_method_2_code 0 = .ok (.aload_n 0, 1) := by decide +kernel
theorem d10_1 : decode prog_23_method_2_code 1 = .ok (.aload_n 0, 1) := by decide +kernel
theorem d10_2 : decode prog_23_method_2_code 2 = .ok (.invokestatic 38, 3) := by decide +kernel
theorem d10_5 : decode prog_23_method_2_code 5 = .ok (.invokestatic 61, 3) := by decide +kernel
theorem d10_8 : decode prog_23_method_2_code 8 = .ok (.ireturn, 1) := by decide +kernel
theorem d11_0 : decode prog_23_method_12_code 0 = .ok (.iconst 0, 1) := by decide +kernel
theorem d11_1 : decode prog_23_method_12_code 1 = .ok (.istore_n 1, 1) := by decide +kernel
theorem d11_2 : decode prog_23_method_12_code 2 = .ok (.iload_n 1, 1) := by decide +kernel
theorem d11_3 : decode prog_23_method_12_code 3 = .ok (.aload_n 0, 1) := by decide +kernel
theorem d11_4 : decode prog_23_method_12_code 4 = .ok (.invokevirtual 20, 3) := by decide +kernel
theorem d11_7 : decode prog_23_method_12_code 7 = .ok (.if_icmp .ge 20, 3) := by decide +kernel
theorem d11_10 : decode prog_23_method_12_code 10 = .ok (.aload_n 0, 1) := by decide +kernel
theorem d11_11 : decode prog_23_method_12_code 11 = .ok (.iload_n 1, 1) := by decide +kernel
theorem d11_12 : decode prog_23_method_12_code 12 = .ok (.invokevirtual 26, 3) := by decide +kernel
theorem d11_15 : decode prog_23_method_12_code 15 = .ok (.invokestatic 30, 3) := by decide +kernel
theorem d11_18 : decode prog_23_method_12_code 18 = .ok (.ifCond .eq 9, 3) := by decide +kernel
theorem d11_21 : decode prog_23_method_12_code 21 = .ok (.iinc 1 1, 3) := by decide +kernel
theorem d11_24 : decode prog_23_method_12_code 24 = .ok (.goto (-22), 3) := by decide +kernel
theorem d11_27 : decode prog_23_method_12_code 27 = .ok (.iload_n 1, 1) := by decide +kernel
theorem d11_28 : decode prog_23_method_12_code 28 = .ok (.ireturn, 1) := by decide +kernel
theorem d19_0 : decode prog_23_method_13_code 0 = .ok (.iload_n 0, 1) := by decide +kernel
theorem d19_1 : decode prog_23_method_13_code 1 = .ok (.bipush 32, 2) := by decide +kernel
theorem d19_3 : decode prog_23_method_13_code 3 = .ok (.if_icmp .eq 21, 3) := by decide +kernel
theorem d19_6 : decode prog_23_method_13_code 6 = .ok (.iload_n 0, 1) := by decide +kernel
theorem d19_7 : decode prog_23_method_13_code 7 = .ok (.bipush 9, 2) := by decide +kernel
theorem d19_9 : decode prog_23_method_13_code 9 = .ok (.if_icmp .eq 15, 3) := by decide +kernel
theorem d19_12 : decode prog_23_method_13_code 12 = .ok (.iload_n 0, 1) := by decide +kernel
theorem d19_13 : decode prog_23_method_13_code 13 = .ok (.bipush 13, 2) := by decide +kernel
theorem d19_15 : decode prog_23_method_13_code 15 = .ok (.if_icmp .eq 9, 3) := by decide +kernel
theorem d19_18 : decode prog_23_method_13_code 18 = .ok (.iload_n 0, 1) := by decide +kernel
theorem d19_19 : decode prog_23_method_13_code 19 = .ok (.bipush 10, 2) := by decide +kernel
theorem d19_21 : decode prog_23_method_13_code 21 = .ok (.if_icmp .ne 7, 3) := by decide +kernel
theorem d19_24 : decode prog_23_method_13_code 24 = .ok (.iconst 1, 1) := by decide +kernel
theorem d19_25 : decode prog_23_method_13_code 25 = .ok (.goto 4, 3) := by decide +kernel
theorem d19_28 : decode prog_23_method_13_code 28 = .ok (.iconst 0, 1) := by decide +kernel
theorem d19_29 : decode prog_23_method_13_code 29 = .ok (.ireturn, 1) := by decide +kernel
theorem d20_0 : decode prog_23_method_3_code 0 = .ok (.aload_n 0, 1) := by decide +kernel
theorem d20_1 : decode prog_23_method_3_code 1 = .ok (.invokevirtual 20, 3) := by decide +kernel
theorem d20_4 : decode prog_23_method_3_code 4 = .ok (.iload_n 1, 1) := by decide +kernel
theorem d20_5 : decode prog_23_method_3_code 5 = .ok (.isub, 1) := by decide +kernel
theorem d20_6 : decode prog_23_method_3_code 6 = .ok (.ldc 42, 2) := by decide +kernel
theorem d20_8 : decode prog_23_method_3_code 8 = .ok (.invokevirtual 20, 3) := by decide +kernel
theorem d20_11 : decode prog_23_method_3_code 11 = .ok (.if_icmp .ge 5, 3) := by decide +kernel
theorem d20_16 : decode prog_23_method_3_code 16 = .ok (.iconst 0, 1) := by decide +kernel
theorem d20_17 : decode prog_23_method_3_code 17 = .ok (.istore_n 2, 1) := by decide +kernel
theorem d20_18 : decode prog_23_method_3_code 18 = .ok (.iload_n 2, 1) := by decide +kernel
theorem d20_19 : decode prog_23_method_3_code 19 = .ok (.ldc 42, 2) := by decide +kernel
theorem d20_21 : decode prog_23_method_3_code 21 = .ok (.invokevirtual 20, 3) := by decide +kernel
theorem d20_24 : decode prog_23_method_3_code 24 = .ok (.if_icmp .ge 53, 3) := by decide +kernel
theorem d20_27 : decode prog_23_method_3_code 27 = .ok (.aload_n 0, 1) := by decide +kernel
theorem d20_28 : decode prog_23_method_3_code 28 = .ok (.iload_n 1, 1) := by decide +kernel
theorem d20_29 : decode prog_23_method_3_code 29 = .ok (.iload_n 2, 1) := by decide +kernel
theorem d20_30 : decode prog_23_method_3_code 30 = .ok (.iadd, 1) := by decide +kernel
theorem d20_31 : decode prog_23_method_3_code 31 = .ok (.invokevirtual 26, 3) := by decide +kernel
theorem d20_34 : decode prog_23_method_3_code 34 = .ok (.istore_n 3, 1) := by decide +kernel
theorem d20_35 : decode prog_23_method_3_code 35 = .ok (.iload_n 3, 1) := by decide +kernel
theorem d20_36 : decode prog_23_method_3_code 36 = .ok (.bipush 65, 2) := by decide +kernel
theorem d20_38 : decode prog_23_method_3_code 38 = .ok (.if_icmp .lt 17, 3) := by decide +kernel
theorem d20_41 : decode prog_23_method_3_code 41 = .ok (.iload_n 3, 1) := by decide +kernel
theorem d20_42 : decode prog_23_method_3_code 42 = .ok (.bipush 90, 2) := by decide +kernel
theorem d20_44 : decode prog_23_method_3_code 44 = .ok (.if_icmp .gt 11, 3) := by decide +kernel
theorem d20_47 : decode prog_23_method_3_code 47 = .ok (.iload_n 3, 1) := by decide +kernel
theorem d20_48 : decode prog_23_method_3_code 48 = .ok (.bipush 32, 2) := by decide +kernel
theorem d20_50 : decode prog_23_method_3_code 50 = .ok (.iadd, 1) := by decide +kernel
theorem d20_51 : decode prog_23_method_3_code 51 = .ok (.i2c, 1) := by decide +kernel
theorem d20_52 : decode prog_23_method_3_code 52 = .ok (.goto 4, 3) := by decide +kernel
theorem d20_55 : decode prog_23_method_3_code 55 = .ok (.iload_n 3, 1) := by decide +kernel
theorem d20_56 : decode prog_23_method_3_code 56 = .ok (.istore 4, 2) := by decide +kernel
theorem d20_58 : decode prog_23_method_3_code 58 = .ok (.iload 4, 2) := by decide +kernel
theorem d20_60 : decode prog_23_method_3_code 60 = .ok (.ldc 42, 2) := by decide +kernel
theorem d20_62 : decode prog_23_method_3_code 62 = .ok (.iload_n 2, 1) := by decide +kernel
theorem d20_63 : decode prog_23_method_3_code 63 = .ok (.invokevirtual 26, 3) := by decide +kernel
theorem d20_66 : decode prog_23_method_3_code 66 = .ok (.if_icmp .eq 5, 3) := by decide +kernel
theorem d20_71 : decode prog_23_method_3_code 71 = .ok (.iinc 2 1, 3) := by decide +kernel
theorem d20_74 : decode prog_23_method_3_code 74 = .ok (.goto (-56), 3) := by decide +kernel
theorem d20_77 : decode prog_23_method_3_code 77 = .ok (.iconst 1, 1) := by decide +kernel
theorem d20_78 : decode prog_23_method_3_code 78 = .ok (.ireturn, 1) := by decide +kernel
theorem d21_0 : decode prog_23_method_11_code 0 = .ok (.iload_n 2, 1) := by decide +kernel
theorem d21_1 : decode prog_23_method_11_code 1 = .ok (.istore 4, 2) := by decide +kernel
theorem d21_3 : decode prog_23_method_11_code 3 = .ok (.iload 4, 2) := by decide +kernel
theorem d21_5 : decode prog_23_method_11_code 5 = .ok (.iload_n 3, 1) := by decide +kernel
theorem d21_6 : decode prog_23_method_11_code 6 = .ok (.if_icmp .ge 22, 3) := by decide +kernel
theorem d21_9 : decode prog_23_method_11_code 9 = .ok (.aload_n 0, 1) := by decide +kernel
theorem d21_10 : decode prog_23_method_11_code 10 = .ok (.iload 4, 2) := by decide +kernel
theorem d21_12 : decode prog_23_method_11_code 12 = .ok (.invokevirtual 26, 3) := by decide +kernel
theorem d21_15 : decode prog_23_method_11_code 15 = .ok (.iload_n 1, 1) := by decide +kernel
theorem d21_16 : decode prog_23_method_11_code 16 = .ok (.if_icmp .ne 6, 3) := by decide +kernel
theorem d21_19 : decode prog_23_method_11_code 19 = .ok (.iload 4, 2) := by decide +kernel
theorem d21_21 : decode prog_23_method_11_code 21 = .ok (.ireturn, 1) := by decide +kernel
theorem d21_22 : decode prog_23_method_11_code 22 = .ok (.iinc 4 1, 3) := by decide +kernel
theorem d21_25 : decode prog_23_method_11_code 25 = .ok (.goto (-22), 3) := by decide +kernel
theorem d21_28 : decode prog_23_method_11_code 28 = .ok (.iload_n 3, 1) := by decide +kernel
theorem d21_29 : decode prog_23_method_11_code 29 = .ok (.ireturn, 1) := by decide +kernel
theorem d22_0 : decode prog_23_method_8_code 0 = .ok (.aload_n 0, 1) := by decide +kernel
theorem d22_1 : decode prog_23_method_8_code 1 = .ok (.getfield 58, 3) := by decide +kernel
theorem d22_4 : decode prog_23_method_8_code 4 = .ok (.aload_n 0, 1) := by decide +kernel
theorem d22_5 : decode prog_23_method_8_code 5 = .ok (.getfield 55, 3) := by decide +kernel
theorem d22_8 : decode prog_23_method_8_code 8 = .ok (.if_icmp .ge 7, 3) := by decide +kernel
theorem d22_11 : decode prog_23_method_8_code 11 = .ok (.iconst 1, 1) := by decide +kernel
theorem d22_12 : decode prog_23_method_8_code 12 = .ok (.goto 4, 3) := by decide +kernel
theorem d22_15 : decode prog_23_method_8_code 15 = .ok (.iconst 0, 1) := by decide +kernel
theorem d22_16 : decode prog_23_method_8_code 16 = .ok (.ireturn, 1) := by decide +kernel
theorem pd_0 : parseMethodDescriptor "()I" = some ⟨[], some .int⟩ := by decide +kernel
theorem pd_1 : parseMethodDescriptor "(I)C" = some ⟨[.int], some .char⟩ := by decide +kernel
theorem pd_2 : parseMethodDescriptor "(C)Z" = some ⟨[.char], some .boolean⟩ := by decide +kernel
theorem pd_3 : parseMethodDescriptor "(Ljava/lang/String;)I" = some ⟨[(.object "java/lang/String")], some .int⟩ := by decide +kernel
theorem pd_4 : parseMethodDescriptor "(Ljava/lang/String;I)Z" = some ⟨[(.object "java/lang/String"), .int], some .boolean⟩ := by decide +kernel
theorem pd_5 : parseMethodDescriptor "(Ljava/lang/String;)Z" = some ⟨[(.object "java/lang/String")], some .boolean⟩ := by decide +kernel
theorem pd_6 : parseMethodDescriptor "(Ljava/lang/String;CII)I" = some ⟨[(.object "java/lang/String"), .char, .int, .int], some .int⟩ := by decide +kernel
theorem pd_7 : parseMethodDescriptor "(CII)C" = some ⟨[.char, .int, .int], some .char⟩ := by decide +kernel
theorem pd_8 : parseMethodDescriptor "([C)V" = some ⟨[(.array .char)], none⟩ := by decide +kernel
theorem pd_9 : parseMethodDescriptor "(Ljava/lang/String;)V" = some ⟨[(.object "java/lang/String")], none⟩ := by decide +kernel
theorem pd_10 : parseMethodDescriptor "()Z" = some ⟨[], some .boolean⟩ := by decide +kernel
theorem pn_0 : plainName "com/example/hfields/hfields/LinkCut" = true := by first | (simp [plainName, overriddenIn]; done) | decide +kernel
theorem pn_1 : plainName "com/example/hfields/hfields/LinkCutHasFieldsPinLaw" = true := by first | (simp [plainName, overriddenIn]; done) | decide +kernel

def blk (c : Int32) : Prop := c = 32 ∨ c = 9 ∨ c = 13 ∨ c = 10
theorem nblk {c : Int32} (h1 : ¬ c = 32) (h2 : ¬ c = 9) (h3 : ¬ c = 13) (h4 : ¬ c = 10) : ¬ blk c := fun q => by rcases q with q | q | q | q <;> contradiction
def low (c : Int32) : Int32 := if c < 65 then c else if 90 < c then c else c + 32
def mto : List Int32 := [109, 97, 105, 108, 116, 111, 58]
theorem i2c_up {c : Int32} (h0 : ¬ c < 65) (h1 : ¬ 90 < c) : (c + 32).toUInt32.toUInt16.toUInt32.toInt32 = c + 32 := by
  have e1 : (65 : Int32).toInt = 65 := rfl
  have e2 : (90 : Int32).toInt = 90 := rfl
  have e3 : (32 : Int32).toInt = 32 := rfl
  have e4 : (0 : Int32).toInt = 0 := rfl
  have e5 : (255 : Int32).toInt = 255 := rfl
  rw [Int32.lt_iff_toInt_lt] at h0 h1
  have r := c_iadd c 32
  have q := rng32 (c + 32)
  refine nar255 _ ?_ ?_ <;> rw [Int32.lt_iff_toInt_lt] <;> omega

def Q_is_blank (Z : State) (c : Int32) (h0 : Heap) : Option Value → (Addr → Prop) → Heap → Prop := fun v _ h => ((v = some (.int 1) ∧ blk c) ∨ (v = some (.int 0) ∧ ¬ blk c)) ∧ h = h0
theorem ef_is_blank (m : MethodId) (c : Int32) : entryFrame m #[(.int c)] 1 = mkF m 0 #[.val (.int c)] [] := by first | (simp [entryFrame, mkF, argsToLocals, Value.category]; done) | rfl
set_option maxRecDepth 65536 in
set_option maxHeartbeats 40000000 in
theorem is_blank (l : Launch) (Z : State) (a0 : Array Value) (G : Wld Z a0) (c : Int32) (h0 : Heap)  :
    Met l Z consts_1 (⟨"com/example/hfields/hfields/LinkCut", "isBlank", "(C)Z"⟩ : MethodName) prog_23_method_13_code 1 (some .boolean) ({ frames := 0, cells := 0, slots := 0, locals := 0 } : Room) #[(.int c)] h0 [] [] (Q_is_blank Z c h0) := by
  have hw := G.1
  have hEL := G.2.1
  refine Met.intro (a0 := a0) hEL pn_0 ?_
  intro pP eE sS mM bB mE cC T0 X0 hml hby hret hnm hlk hs0
  have hz0 : sS.heap.size = h0.size := by rw [hs0]
  have n0 : Z.heap.size ≤ h0.size := X0.ext0.1
  refine Go.cast (ef_is_blank mM c) ?_
  refine Go.of (T' := T0) (g' := (mkF mM 1 #[.val (.int c)] [(.int c)])) (fun _ k => XS.iloadN X0.hh X0.hx rfl (hb hby d19_0) rfl k) ?_
  refine Go.of (T' := T0) (g' := (mkF mM 3 #[.val (.int c)] [(.int (32 : Int32)), (.int c)])) (fun _ k => XS.bipush X0.hh X0.hx rfl (hb hby d19_1) k) ?_
  by_cases hc3 : c = (32 : Int32)
  · refine Go.of (T' := T0) (g' := (mkF mM 24 #[.val (.int c)] [])) (fun _ k => XS.icmpYes X0.hh X0.hx rfl (pc0 := 3) (pc' := 24) rfl (hb hby d19_3) rfl (teq hc3).1 (by decide) (by decide) k) ?_
    refine Go.of (T' := T0) (g' := (mkF mM 25 #[.val (.int c)] [(.int (1 : Int32))])) (fun _ k => XS.iconst X0.hh X0.hx rfl (hb hby d19_24) k) ?_
    refine Go.of (T' := T0) (g' := (mkF mM 29 #[.val (.int c)] [(.int (1 : Int32))])) (fun _ k => XS.goto X0.hh X0.hx rfl (pc0 := 25) (pc' := 29) rfl (hb hby d19_25) (by decide) (by decide) k) ?_
    exact X0.nret (t := .boolean) hret (by simp) hlk (by decide) (by decide) (hb hby d19_29) (fun S hS => ⟨Or.inl ⟨rfl, Or.inl hc3⟩, rfl⟩)
  · refine Go.of (T' := T0) (g' := (mkF mM 6 #[.val (.int c)] [])) (fun _ k => XS.icmpNo X0.hh X0.hx rfl (hb hby d19_3) rfl (feq hc3).1 k) ?_
    refine Go.of (T' := T0) (g' := (mkF mM 7 #[.val (.int c)] [(.int c)])) (fun _ k => XS.iloadN X0.hh X0.hx rfl (hb hby d19_6) rfl k) ?_
    refine Go.of (T' := T0) (g' := (mkF mM 9 #[.val (.int c)] [(.int (9 : Int32)), (.int c)])) (fun _ k => XS.bipush X0.hh X0.hx rfl (hb hby d19_7) k) ?_
    by_cases hc9 : c = (9 : Int32)
    · refine Go.of (T' := T0) (g' := (mkF mM 24 #[.val (.int c)] [])) (fun _ k => XS.icmpYes X0.hh X0.hx rfl (pc0 := 9) (pc' := 24) rfl (hb hby d19_9) rfl (teq hc9).1 (by decide) (by decide) k) ?_
      refine Go.of (T' := T0) (g' := (mkF mM 25 #[.val (.int c)] [(.int (1 : Int32))])) (fun _ k => XS.iconst X0.hh X0.hx rfl (hb hby d19_24) k) ?_
      refine Go.of (T' := T0) (g' := (mkF mM 29 #[.val (.int c)] [(.int (1 : Int32))])) (fun _ k => XS.goto X0.hh X0.hx rfl (pc0 := 25) (pc' := 29) rfl (hb hby d19_25) (by decide) (by decide) k) ?_
      exact X0.nret (t := .boolean) hret (by simp) hlk (by decide) (by decide) (hb hby d19_29) (fun S hS => ⟨Or.inl ⟨rfl, Or.inr (Or.inl hc9)⟩, rfl⟩)
    · refine Go.of (T' := T0) (g' := (mkF mM 12 #[.val (.int c)] [])) (fun _ k => XS.icmpNo X0.hh X0.hx rfl (hb hby d19_9) rfl (feq hc9).1 k) ?_
      refine Go.of (T' := T0) (g' := (mkF mM 13 #[.val (.int c)] [(.int c)])) (fun _ k => XS.iloadN X0.hh X0.hx rfl (hb hby d19_12) rfl k) ?_
      refine Go.of (T' := T0) (g' := (mkF mM 15 #[.val (.int c)] [(.int (13 : Int32)), (.int c)])) (fun _ k => XS.bipush X0.hh X0.hx rfl (hb hby d19_13) k) ?_
      by_cases hc15 : c = (13 : Int32)
      · refine Go.of (T' := T0) (g' := (mkF mM 24 #[.val (.int c)] [])) (fun _ k => XS.icmpYes X0.hh X0.hx rfl (pc0 := 15) (pc' := 24) rfl (hb hby d19_15) rfl (teq hc15).1 (by decide) (by decide) k) ?_
        refine Go.of (T' := T0) (g' := (mkF mM 25 #[.val (.int c)] [(.int (1 : Int32))])) (fun _ k => XS.iconst X0.hh X0.hx rfl (hb hby d19_24) k) ?_
        refine Go.of (T' := T0) (g' := (mkF mM 29 #[.val (.int c)] [(.int (1 : Int32))])) (fun _ k => XS.goto X0.hh X0.hx rfl (pc0 := 25) (pc' := 29) rfl (hb hby d19_25) (by decide) (by decide) k) ?_
        exact X0.nret (t := .boolean) hret (by simp) hlk (by decide) (by decide) (hb hby d19_29) (fun S hS => ⟨Or.inl ⟨rfl, Or.inr (Or.inr (Or.inl hc15))⟩, rfl⟩)
      · refine Go.of (T' := T0) (g' := (mkF mM 18 #[.val (.int c)] [])) (fun _ k => XS.icmpNo X0.hh X0.hx rfl (hb hby d19_15) rfl (feq hc15).1 k) ?_
        refine Go.of (T' := T0) (g' := (mkF mM 19 #[.val (.int c)] [(.int c)])) (fun _ k => XS.iloadN X0.hh X0.hx rfl (hb hby d19_18) rfl k) ?_
        refine Go.of (T' := T0) (g' := (mkF mM 21 #[.val (.int c)] [(.int (10 : Int32)), (.int c)])) (fun _ k => XS.bipush X0.hh X0.hx rfl (hb hby d19_19) k) ?_
        by_cases hc21 : c = (10 : Int32)
        · refine Go.of (T' := T0) (g' := (mkF mM 24 #[.val (.int c)] [])) (fun _ k => XS.icmpNo X0.hh X0.hx rfl (hb hby d19_21) rfl (teq hc21).2 k) ?_
          refine Go.of (T' := T0) (g' := (mkF mM 25 #[.val (.int c)] [(.int (1 : Int32))])) (fun _ k => XS.iconst X0.hh X0.hx rfl (hb hby d19_24) k) ?_
          refine Go.of (T' := T0) (g' := (mkF mM 29 #[.val (.int c)] [(.int (1 : Int32))])) (fun _ k => XS.goto X0.hh X0.hx rfl (pc0 := 25) (pc' := 29) rfl (hb hby d19_25) (by decide) (by decide) k) ?_
          exact X0.nret (t := .boolean) hret (by simp) hlk (by decide) (by decide) (hb hby d19_29) (fun S hS => ⟨Or.inl ⟨rfl, Or.inr (Or.inr (Or.inr hc21))⟩, rfl⟩)
        · refine Go.of (T' := T0) (g' := (mkF mM 28 #[.val (.int c)] [])) (fun _ k => XS.icmpYes X0.hh X0.hx rfl (pc0 := 21) (pc' := 28) rfl (hb hby d19_21) rfl (feq hc21).2 (by decide) (by decide) k) ?_
          refine Go.of (T' := T0) (g' := (mkF mM 29 #[.val (.int c)] [(.int (0 : Int32))])) (fun _ k => XS.iconst X0.hh X0.hx rfl (hb hby d19_28) k) ?_
          exact X0.nret (t := .boolean) hret (by simp) hlk (by decide) (by decide) (hb hby d19_29) (fun S hS => ⟨Or.inr ⟨rfl, fun q => by rcases q with q | q | q | q <;> contradiction⟩, rfl⟩)
def Q_skip_blanks (Z : State) (x t : Nat) (kb : ClassId) (cs : List Int32) (h0 : Heap) : Option Value → (Addr → Prop) → Heap → Prop := fun v _ h => ∃ r : Nat, v = some (.int (Int32.ofNat r)) ∧ r ≤ cs.length ∧ (∀ j, j < r → blk (cs.getD j 0)) ∧ (r < cs.length → ¬ blk (cs.getD r 0)) ∧ h = h0
theorem ef_skip_blanks (m : MethodId) (x t : Nat) (kb : ClassId) (cs : List Int32) : entryFrame m #[(.ref x)] 2 = mkF m 0 #[.val (.ref x), .unset] [] := by first | (simp [entryFrame, mkF, argsToLocals, Value.category]; done) | rfl
set_option maxRecDepth 65536 in
set_option maxHeartbeats 40000000 in
theorem skip_blanks (l : Launch) (Z : State) (a0 : Array Value) (G : Wld Z a0) (x t : Nat) (kb : ClassId) (cs : List Int32) (h0 : Heap) (S : Str Z h0 x t kb cs) :
    Met l Z consts_1 (⟨"com/example/hfields/hfields/LinkCut", "skipBlanks", "(Ljava/lang/String;)I"⟩ : MethodName) prog_23_method_12_code 2 (some .int) ({ frames := 4, cells := 0, slots := 0, locals := 53 } : Room) #[(.ref x)] h0 [] [] (Q_skip_blanks Z x t kb cs h0) := by
  have hw := G.1
  have hEL := G.2.1
  refine Met.intro (a0 := a0) hEL pn_0 ?_
  intro pP eE sS mM bB mE cC T0 X0 hml hby hret hnm hlk hs0
  have hz0 : sS.heap.size = h0.size := by rw [hs0]
  have n0 : Z.heap.size ≤ h0.size := X0.ext0.1
  refine Go.cast (ef_skip_blanks mM x t kb cs) ?_
  obtain ⟨zc, Sc, hzc⟩ := G.2.2.1
  obtain ⟨fm, Sf, rfm⟩ := G.2.2.2
  have hln : ∀ d ∈ StrChars.Road.wordsLen, d.before a0 Z = true := fun d hd => hw d ((by decide +kernel : ∀ d ∈ StrChars.Road.wordsLen, d ∈ tables_1) d hd)
  have hch : ∀ d ∈ StrChars.Road.wordsChN, d.before a0 Z = true := fun d hd => hw d ((by decide +kernel : ∀ d ∈ StrChars.Road.wordsChN, d ∈ tables_1) d hd)
  have hsz : cs.length ≤ 4000 := S.2.2.2.2.2
  refine Go.of (T' := T0) (g' := (mkF mM 1 #[.val (.ref x), .unset] [(.int (0 : Int32))])) (fun _ k => XS.iconst X0.hh X0.hx rfl (hb hby d11_0) k) ?_
  refine Go.of (T' := T0) (g' := (mkF mM 2 #[.val (.ref x), .val (.int (0 : Int32))] [])) (fun _ k => XS.istoreN X0.hh X0.hx rfl (hb hby d11_1) rfl (l' := #[.val (.ref x), .val (.int (0 : Int32))]) rfl k) ?_
  have loop : ∀ (k i : Nat) (z : Int32) (T9 : State), z = Int32.ofNat i → cs.length - i = k → i ≤ cs.length → (∀ j, j < i → blk (cs.getD j 0)) → Wk pP l eE ({ frames := 4, cells := 0, slots := 0, locals := 53 } : Room) sS mM #[(.ref x)] bB mE cC Z a0 consts_1 "com/example/hfields/hfields/LinkCut" [] T9 h0 [] [] 0 0 → Go pP eE bB (Pst ({ frames := 4, cells := 0, slots := 0, locals := 53 } : Room) sS Z consts_1 [] (Q_skip_blanks Z x t kb cs h0)) T9 (mkF mM 2 #[.val (.ref x), .val (.int z)] []) := by
    intro k
    induction k using Nat.strongRecOn with
    | _ k ih =>
      intro i z T9 hz hk hle hB X9
      refine Go.of (T' := T9) (g' := (mkF mM 3 #[.val (.ref x), .val (.int z)] [(.int z)])) (fun _ k => XS.iloadN X9.hh X9.hx rfl (hb hby d11_2) rfl k) ?_
      refine Go.of (T' := T9) (g' := (mkF mM 4 #[.val (.ref x), .val (.int z)] [(.ref x), (.int z)])) (fun _ k => XS.aloadN X9.hh X9.hx rfl (hb hby d11_3) rfl rfl k) ?_
      refine X9.callVN (W := 1) (argsL := []) (rest := [(.int z)]) (nc := 0) (ns := 0) (ws' := []) (Qn := fun v h' L => v = some (.int (Int32.ofNat cs.length)) ∧ L = [] ∧ h' = h0) (a := x) (C := "java/lang/String") (z := (⟨"java/lang/String", "length", "()I"⟩ : MethodName)) (hw _ (List.mem_of_getElem? (i := 53) rfl)) (hw _ (List.mem_of_getElem? (i := 54) rfl)) (fun _ q => notFace_of_selects (args := #[]) (mvT q (hw _ (List.mem_of_getElem? (i := 56) rfl)))) (hw _ (List.mem_of_getElem? (i := 56) rfl)) (hw _ (List.mem_of_getElem? (i := 55) rfl)) (by decide) (fun vm0 hZ => StrChars.Road.lenW (s := sS.setVm vm0) (W := 1) hZ hln (kI := 4) (hw _ (List.mem_of_getElem? (i := 15) rfl)) S.1 S.2.1 S.2.2.1 S.2.2.2.1 (StrChars.Road.codOf rfl fun c hc => (S.2.2.2.2.1 c hc).2) S.up (Sc.ext X9.ext0) hzc S.2.2.2.2.2 (by decide) (by decide)) (fun v h' L q => by obtain ⟨-, rfl, rfl⟩ := q; exact ⟨Fr.nil _, Keep.refl _ _⟩) S.1 pd_0 rfl rfl rfl (by rw [hml]; rfl) (by decide) (by decide) (hb hby d11_4) all0 all0 all0 ?_
      intro v1 T1 h1 X1 K1 Q1
      obtain ⟨_, rfl, -, e1⟩ := Q1
      rw [e1] at X1
      show Go pP eE bB _ T1 (mkF mM 7 #[.val (.ref x), .val (.int z)] [(.int (Int32.ofNat cs.length)), (.int z)])
      by_cases hi : i < cs.length
      · have hlt : z < Int32.ofNat cs.length := by rw [hz]; exact (i32lt (by omega) (by omega)).mpr hi
        refine Go.of (T' := T1) (g' := (mkF mM 10 #[.val (.ref x), .val (.int z)] [])) (fun _ k => XS.icmpNo X1.hh X1.hx rfl (hb hby d11_7) rfl (tlt hlt).2.1 k) ?_
        refine Go.of (T' := T1) (g' := (mkF mM 11 #[.val (.ref x), .val (.int z)] [(.ref x)])) (fun _ k => XS.aloadN X1.hh X1.hx rfl (hb hby d11_10) rfl rfl k) ?_
        refine Go.of (T' := T1) (g' := (mkF mM 12 #[.val (.ref x), .val (.int z)] [(.int z), (.ref x)])) (fun _ k => XS.iloadN X1.hh X1.hx rfl (hb hby d11_11) rfl k) ?_
        refine X1.callVN (W := 0) (argsL := [(.int z)]) (rest := []) (nc := 0) (ns := 0) (ws' := []) (Qn := fun v h' L => v = some (.int (cs.getD i 0)) ∧ L = [] ∧ h' = h0) (a := x) (C := "java/lang/String") (z := (⟨"java/lang/String", "charAt", "(I)C"⟩ : MethodName)) (hw _ (List.mem_of_getElem? (i := 63) rfl)) (hw _ (List.mem_of_getElem? (i := 64) rfl)) (fun _ q => notFace_of_selects (args := #[]) (mvT q (hw _ (List.mem_of_getElem? (i := 66) rfl)))) (hw _ (List.mem_of_getElem? (i := 66) rfl)) (hw _ (List.mem_of_getElem? (i := 65) rfl)) (by decide) (fun vm0 hZ => StrChars.Road.chN (s := sS.setVm vm0) (W := 0) hZ hch (kI := 4) (hw _ (List.mem_of_getElem? (i := 15) rfl)) S.1 S.2.1 S.2.2.1 S.2.2.2.1 (StrChars.Road.codOf rfl fun c hc => (S.2.2.2.2.1 c hc).2) S.up (Sc.ext X1.ext0) hzc (Sf.ext X1.ext0) rfm S.2.2.2.2.2 (i := i) hi (j := z) hz (by decide) (by decide)) (fun v h' L q => by obtain ⟨-, rfl, rfl⟩ := q; exact ⟨Fr.nil _, Keep.refl _ _⟩) S.1 pd_1 rfl rfl rfl (by rw [hml]; rfl) (by decide) (by decide) (hb hby d11_12) all0 all0 all0 ?_
        intro v2 T2 h2 X2 K2 Q2
        obtain ⟨_, rfl, -, e2⟩ := Q2
        rw [e2] at X2
        show Go pP eE bB _ T2 (mkF mM 15 #[.val (.ref x), .val (.int z)] [(.int (cs.getD i 0))])
        refine X2.callS (W := 0) (argsL := [(.int (cs.getD i 0))]) (rest := []) (hw _ (List.mem_of_getElem? (i := 85) rfl)) (hw _ (List.mem_of_getElem? (i := 86) rfl)) (hw _ (List.mem_of_getElem? (i := 13) rfl)) (hw _ (List.mem_of_getElem? (i := 87) rfl)) (by decide) (is_blank l Z a0 G _ h0) pd_2 rfl rfl rfl (by rw [hml]; rfl) (by decide) (by decide) (by decide) (by decide) (hb hby d11_15) all0 all0 ?_
        intro v3 T3 h3 S3 X3 K3 Q3
        have X3 := X3 [] all0
        obtain ⟨hv3, e3⟩ := Q3
        rw [e3] at X3
        rcases hv3 with ⟨rfl, hbl⟩ | ⟨rfl, hbl⟩
        · show Go pP eE bB _ T3 (mkF mM 18 #[.val (.ref x), .val (.int z)] [(.int (1 : Int32))])
          refine Go.of (T' := T3) (g' := (mkF mM 21 #[.val (.ref x), .val (.int z)] [])) (fun _ k => XS.ifNo X3.hh X3.hx rfl (hb hby d11_18) rfl ((if0 _ _).trans (feq (by decide)).1) k) ?_
          refine Go.of (T' := T3) (g' := (mkF mM 24 #[.val (.ref x), .val (.int (z + (1 : Int32)))] [])) (fun _ k => XS.iinc X3.hh X3.hx rfl (hb hby d11_21) rfl (l' := #[.val (.ref x), .val (.int (z + (1 : Int32)))]) rfl k) ?_
          refine Go.of (T' := T3) (g' := (mkF mM 2 #[.val (.ref x), .val (.int (z + (1 : Int32)))] [])) (fun _ k => XS.goto X3.hh X3.hx rfl (pc0 := 24) (pc' := 2) rfl (hb hby d11_24) (by decide) (by decide) k) ?_
          exact ih (k - 1) (by omega) (i + 1) _ _ (by rw [hz]; exact i32succ i) (by omega) (by omega) (lt_snoc hB hbl) X3
        · show Go pP eE bB _ T3 (mkF mM 18 #[.val (.ref x), .val (.int z)] [(.int (0 : Int32))])
          refine Go.of (T' := T3) (g' := (mkF mM 27 #[.val (.ref x), .val (.int z)] [])) (fun _ k => XS.ifYes X3.hh X3.hx rfl (pc0 := 18) (pc' := 27) rfl (hb hby d11_18) rfl ((if0 _ _).trans (teq rfl).1) (by decide) (by decide) k) ?_
          refine Go.of (T' := T3) (g' := (mkF mM 28 #[.val (.ref x), .val (.int z)] [(.int z)])) (fun _ k => XS.iloadN X3.hh X3.hx rfl (hb hby d11_27) rfl k) ?_
          exact X3.iret hret hlk (by decide) (by decide) (hb hby d11_28) (fun S hS => ⟨i, by rw [hz], hle, hB, fun _ => hbl, rfl⟩)
      · have hge : ¬ z < Int32.ofNat cs.length := by rw [hz]; exact fun q => hi ((i32lt (by omega) (by omega)).mp q)
        refine Go.of (T' := T1) (g' := (mkF mM 27 #[.val (.ref x), .val (.int z)] [])) (fun _ k => XS.icmpYes X1.hh X1.hx rfl (pc0 := 7) (pc' := 27) rfl (hb hby d11_7) rfl (flt hge).2.1 (by decide) (by decide) k) ?_
        refine Go.of (T' := T1) (g' := (mkF mM 28 #[.val (.ref x), .val (.int z)] [(.int z)])) (fun _ k => XS.iloadN X1.hh X1.hx rfl (hb hby d11_27) rfl k) ?_
        exact X1.iret hret hlk (by decide) (by decide) (hb hby d11_28) (fun S hS => ⟨i, by rw [hz], hle, hB, fun q => absurd q hi, rfl⟩)
  exact loop _ 0 _ _ rfl rfl (Nat.zero_le _) (fun j hj => absurd hj (Nat.not_lt_zero _)) X0
def Q_index_of (Z : State) (x t : Nat) (kb : ClassId) (cs : List Int32) (ch : Int32) (fr to : Nat) (h0 : Heap) : Option Value → (Addr → Prop) → Heap → Prop := fun v _ h => ∃ r : Nat, v = some (.int (Int32.ofNat r)) ∧ fr ≤ r ∧ r ≤ to ∧ (∀ j, fr ≤ j → j < r → ¬ cs.getD j 0 = ch) ∧ (r < to → cs.getD r 0 = ch) ∧ h = h0
theorem ef_index_of (m : MethodId) (x t : Nat) (kb : ClassId) (cs : List Int32) (ch : Int32) (fr to : Nat) : entryFrame m #[(.ref x), (.int ch), (.int (Int32.ofNat fr)), (.int (Int32.ofNat to))] 5 = mkF m 0 #[.val (.ref x), .val (.int ch), .val (.int (Int32.ofNat fr)), .val (.int (Int32.ofNat to)), .unset] [] := by first | (simp [entryFrame, mkF, argsToLocals, Value.category]; done) | rfl
set_option maxRecDepth 65536 in
set_option maxHeartbeats 40000000 in
theorem index_of (l : Launch) (Z : State) (a0 : Array Value) (G : Wld Z a0) (x t : Nat) (kb : ClassId) (cs : List Int32) (ch : Int32) (fr to : Nat) (h0 : Heap) (S : Str Z h0 x t kb cs) (hft : fr ≤ to) (hto : to ≤ cs.length) :
    Met l Z consts_1 (⟨"com/example/hfields/hfields/LinkCut", "indexOf", "(Ljava/lang/String;CII)I"⟩ : MethodName) prog_23_method_11_code 5 (some .int) ({ frames := 4, cells := 0, slots := 0, locals := 53 } : Room) #[(.ref x), (.int ch), (.int (Int32.ofNat fr)), (.int (Int32.ofNat to))] h0 [] [] (Q_index_of Z x t kb cs ch fr to h0) := by
  have hw := G.1
  have hEL := G.2.1
  refine Met.intro (a0 := a0) hEL pn_0 ?_
  intro pP eE sS mM bB mE cC T0 X0 hml hby hret hnm hlk hs0
  have hz0 : sS.heap.size = h0.size := by rw [hs0]
  have n0 : Z.heap.size ≤ h0.size := X0.ext0.1
  refine Go.cast (ef_index_of mM x t kb cs ch fr to) ?_
  obtain ⟨zc, Sc, hzc⟩ := G.2.2.1
  obtain ⟨fm, Sf, rfm⟩ := G.2.2.2
  have hln : ∀ d ∈ StrChars.Road.wordsLen, d.before a0 Z = true := fun d hd => hw d ((by decide +kernel : ∀ d ∈ StrChars.Road.wordsLen, d ∈ tables_1) d hd)
  have hch : ∀ d ∈ StrChars.Road.wordsChN, d.before a0 Z = true := fun d hd => hw d ((by decide +kernel : ∀ d ∈ StrChars.Road.wordsChN, d ∈ tables_1) d hd)
  have hsz : cs.length ≤ 4000 := S.2.2.2.2.2
  refine Go.of (T' := T0) (g' := (mkF mM 1 #[.val (.ref x), .val (.int ch), .val (.int (Int32.ofNat fr)), .val (.int (Int32.ofNat to)), .unset] [(.int (Int32.ofNat fr))])) (fun _ k => XS.iloadN X0.hh X0.hx rfl (hb hby d21_0) rfl k) ?_
  refine Go.of (T' := T0) (g' := (mkF mM 3 #[.val (.ref x), .val (.int ch), .val (.int (Int32.ofNat fr)), .val (.int (Int32.ofNat to)), .val (.int (Int32.ofNat fr))] [])) (fun _ k => XS.istore X0.hh X0.hx rfl (hb hby d21_1) rfl (l' := #[.val (.ref x), .val (.int ch), .val (.int (Int32.ofNat fr)), .val (.int (Int32.ofNat to)), .val (.int (Int32.ofNat fr))]) rfl k) ?_
  have loop : ∀ (k i : Nat) (z : Int32) (T9 : State), z = Int32.ofNat i → to - i = k → fr ≤ i → i ≤ to → (∀ j, fr ≤ j → j < i → ¬ cs.getD j 0 = ch) → Wk pP l eE ({ frames := 4, cells := 0, slots := 0, locals := 53 } : Room) sS mM #[(.ref x), (.int ch), (.int (Int32.ofNat fr)), (.int (Int32.ofNat to))] bB mE cC Z a0 consts_1 "com/example/hfields/hfields/LinkCut" [] T9 h0 [] [] 0 0 → Go pP eE bB (Pst ({ frames := 4, cells := 0, slots := 0, locals := 53 } : Room) sS Z consts_1 [] (Q_index_of Z x t kb cs ch fr to h0)) T9 (mkF mM 3 #[.val (.ref x), .val (.int ch), .val (.int (Int32.ofNat fr)), .val (.int (Int32.ofNat to)), .val (.int z)] []) := by
    intro k
    induction k using Nat.strongRecOn with
    | _ k ih =>
      intro i z T9 hz hk hge hle hB X9
      refine Go.of (T' := T9) (g' := (mkF mM 5 #[.val (.ref x), .val (.int ch), .val (.int (Int32.ofNat fr)), .val (.int (Int32.ofNat to)), .val (.int z)] [(.int z)])) (fun _ k => XS.iload X9.hh X9.hx rfl (hb hby d21_3) rfl k) ?_
      refine Go.of (T' := T9) (g' := (mkF mM 6 #[.val (.ref x), .val (.int ch), .val (.int (Int32.ofNat fr)), .val (.int (Int32.ofNat to)), .val (.int z)] [(.int (Int32.ofNat to)), (.int z)])) (fun _ k => XS.iloadN X9.hh X9.hx rfl (hb hby d21_5) rfl k) ?_
      by_cases hi : i < to
      · have hlt : z < Int32.ofNat to := by rw [hz]; exact (i32lt (by omega) (by omega)).mpr hi
        refine Go.of (T' := T9) (g' := (mkF mM 9 #[.val (.ref x), .val (.int ch), .val (.int (Int32.ofNat fr)), .val (.int (Int32.ofNat to)), .val (.int z)] [])) (fun _ k => XS.icmpNo X9.hh X9.hx rfl (hb hby d21_6) rfl (tlt hlt).2.1 k) ?_
        refine Go.of (T' := T9) (g' := (mkF mM 10 #[.val (.ref x), .val (.int ch), .val (.int (Int32.ofNat fr)), .val (.int (Int32.ofNat to)), .val (.int z)] [(.ref x)])) (fun _ k => XS.aloadN X9.hh X9.hx rfl (hb hby d21_9) rfl rfl k) ?_
        refine Go.of (T' := T9) (g' := (mkF mM 12 #[.val (.ref x), .val (.int ch), .val (.int (Int32.ofNat fr)), .val (.int (Int32.ofNat to)), .val (.int z)] [(.int z), (.ref x)])) (fun _ k => XS.iload X9.hh X9.hx rfl (hb hby d21_10) rfl k) ?_
        refine X9.callVN (W := 0) (argsL := [(.int z)]) (rest := []) (nc := 0) (ns := 0) (ws' := []) (Qn := fun v h' L => v = some (.int (cs.getD i 0)) ∧ L = [] ∧ h' = h0) (a := x) (C := "java/lang/String") (z := (⟨"java/lang/String", "charAt", "(I)C"⟩ : MethodName)) (hw _ (List.mem_of_getElem? (i := 63) rfl)) (hw _ (List.mem_of_getElem? (i := 64) rfl)) (fun _ q => notFace_of_selects (args := #[]) (mvT q (hw _ (List.mem_of_getElem? (i := 66) rfl)))) (hw _ (List.mem_of_getElem? (i := 66) rfl)) (hw _ (List.mem_of_getElem? (i := 65) rfl)) (by decide) (fun vm0 hZ => StrChars.Road.chN (s := sS.setVm vm0) (W := 0) hZ hch (kI := 4) (hw _ (List.mem_of_getElem? (i := 15) rfl)) S.1 S.2.1 S.2.2.1 S.2.2.2.1 (StrChars.Road.codOf rfl fun c hc => (S.2.2.2.2.1 c hc).2) S.up (Sc.ext X9.ext0) hzc (Sf.ext X9.ext0) rfm S.2.2.2.2.2 (i := i) (by omega) (j := z) hz (by decide) (by decide)) (fun v h' L q => by obtain ⟨-, rfl, rfl⟩ := q; exact ⟨Fr.nil _, Keep.refl _ _⟩) S.1 pd_1 rfl rfl rfl (by rw [hml]; rfl) (by decide) (by decide) (hb hby d21_12) all0 all0 all0 ?_
        intro v1 T1 h1 X1 K1 Q1
        obtain ⟨_, rfl, -, e1⟩ := Q1
        rw [e1] at X1
        show Go pP eE bB _ T1 (mkF mM 15 #[.val (.ref x), .val (.int ch), .val (.int (Int32.ofNat fr)), .val (.int (Int32.ofNat to)), .val (.int z)] [(.int (cs.getD i 0))])
        refine Go.of (T' := T1) (g' := (mkF mM 16 #[.val (.ref x), .val (.int ch), .val (.int (Int32.ofNat fr)), .val (.int (Int32.ofNat to)), .val (.int z)] [(.int ch), (.int (cs.getD i 0))])) (fun _ k => XS.iloadN X1.hh X1.hx rfl (hb hby d21_15) rfl k) ?_
        by_cases hc16 : (cs.getD i 0) = ch
        · refine Go.of (T' := T1) (g' := (mkF mM 19 #[.val (.ref x), .val (.int ch), .val (.int (Int32.ofNat fr)), .val (.int (Int32.ofNat to)), .val (.int z)] [])) (fun _ k => XS.icmpNo X1.hh X1.hx rfl (hb hby d21_16) rfl (teq hc16).2 k) ?_
          refine Go.of (T' := T1) (g' := (mkF mM 21 #[.val (.ref x), .val (.int ch), .val (.int (Int32.ofNat fr)), .val (.int (Int32.ofNat to)), .val (.int z)] [(.int z)])) (fun _ k => XS.iload X1.hh X1.hx rfl (hb hby d21_19) rfl k) ?_
          exact X1.iret hret hlk (by decide) (by decide) (hb hby d21_21) (fun S hS => ⟨i, by rw [hz], hge, hle, hB, fun _ => hc16, rfl⟩)
        · refine Go.of (T' := T1) (g' := (mkF mM 22 #[.val (.ref x), .val (.int ch), .val (.int (Int32.ofNat fr)), .val (.int (Int32.ofNat to)), .val (.int z)] [])) (fun _ k => XS.icmpYes X1.hh X1.hx rfl (pc0 := 16) (pc' := 22) rfl (hb hby d21_16) rfl (feq hc16).2 (by decide) (by decide) k) ?_
          refine Go.of (T' := T1) (g' := (mkF mM 25 #[.val (.ref x), .val (.int ch), .val (.int (Int32.ofNat fr)), .val (.int (Int32.ofNat to)), .val (.int (z + (1 : Int32)))] [])) (fun _ k => XS.iinc X1.hh X1.hx rfl (hb hby d21_22) rfl (l' := #[.val (.ref x), .val (.int ch), .val (.int (Int32.ofNat fr)), .val (.int (Int32.ofNat to)), .val (.int (z + (1 : Int32)))]) rfl k) ?_
          refine Go.of (T' := T1) (g' := (mkF mM 3 #[.val (.ref x), .val (.int ch), .val (.int (Int32.ofNat fr)), .val (.int (Int32.ofNat to)), .val (.int (z + (1 : Int32)))] [])) (fun _ k => XS.goto X1.hh X1.hx rfl (pc0 := 25) (pc' := 3) rfl (hb hby d21_25) (by decide) (by decide) k) ?_
          exact ih (k - 1) (by omega) (i + 1) _ _ (by rw [hz]; exact i32succ i) (by omega) (by omega) (by omega) (ge_snoc hB hc16) X1
      · have hge' : ¬ z < Int32.ofNat to := by rw [hz]; exact fun q => hi ((i32lt (by omega) (by omega)).mp q)
        refine Go.of (T' := T9) (g' := (mkF mM 28 #[.val (.ref x), .val (.int ch), .val (.int (Int32.ofNat fr)), .val (.int (Int32.ofNat to)), .val (.int z)] [])) (fun _ k => XS.icmpYes X9.hh X9.hx rfl (pc0 := 6) (pc' := 28) rfl (hb hby d21_6) rfl (flt hge').2.1 (by decide) (by decide) k) ?_
        refine Go.of (T' := T9) (g' := (mkF mM 29 #[.val (.ref x), .val (.int ch), .val (.int (Int32.ofNat fr)), .val (.int (Int32.ofNat to)), .val (.int z)] [(.int (Int32.ofNat to))])) (fun _ k => XS.iloadN X9.hh X9.hx rfl (hb hby d21_28) rfl k) ?_
        exact X9.iret hret hlk (by decide) (by decide) (hb hby d21_29) (fun S hS => ⟨to, rfl, by omega, Nat.le_refl _, (fun j hj hj' => hB j hj (by omega)), (fun q => absurd q (Nat.lt_irrefl _)), rfl⟩)
  exact loop _ fr _ _ rfl rfl (Nat.le_refl _) hft (fun j hj hj' => absurd hj (by omega)) X0
def Q_has_scheme (Z : State) (x t : Nat) (kb : ClassId) (cs : List Int32) (fr : Nat) (h0 : Heap) : Option Value → (Addr → Prop) → Heap → Prop := fun v _ h => v = some (.int 1)
theorem ef_has_scheme (m : MethodId) (x t : Nat) (kb : ClassId) (cs : List Int32) (fr : Nat) : entryFrame m #[(.ref x), (.int (Int32.ofNat fr))] 5 = mkF m 0 #[.val (.ref x), .val (.int (Int32.ofNat fr)), .unset, .unset, .unset] [] := by first | (simp [entryFrame, mkF, argsToLocals, Value.category]; done) | rfl
set_option maxRecDepth 65536 in
set_option maxHeartbeats 40000000 in
theorem has_scheme (l : Launch) (Z : State) (a0 : Array Value) (G : Wld Z a0) (x t : Nat) (kb : ClassId) (cs : List Int32) (fr : Nat) (h0 : Heap) (S : Str Z h0 x t kb cs) (hfr : fr + 7 ≤ cs.length) (hall : ∀ i, i < 7 → low (cs.getD (fr + i) 0) = mto.getD i 0) :
    Met l Z consts_1 (⟨"com/example/hfields/hfields/LinkCut", "hasSchemeAt", "(Ljava/lang/String;I)Z"⟩ : MethodName) prog_23_method_3_code 5 (some .boolean) ({ frames := 4, cells := 2, slots := 32, locals := 54 } : Room) #[(.ref x), (.int (Int32.ofNat fr))] h0 [] [] (Q_has_scheme Z x t kb cs fr h0) := by
  have hw := G.1
  have hEL := G.2.1
  refine Met.intro (a0 := a0) hEL pn_0 ?_
  intro pP eE sS mM bB mE cC T0 X0 hml hby hret hnm hlk hs0
  have hz0 : sS.heap.size = h0.size := by rw [hs0]
  have n0 : Z.heap.size ≤ h0.size := X0.ext0.1
  refine Go.cast (ef_has_scheme mM x t kb cs fr) ?_
  obtain ⟨zc, Sc, hzc⟩ := G.2.2.1
  obtain ⟨fm, Sf, rfm⟩ := G.2.2.2
  have hln : ∀ d ∈ StrChars.Road.wordsLen, d.before a0 Z = true := fun d hd => hw d ((by decide +kernel : ∀ d ∈ StrChars.Road.wordsLen, d ∈ tables_1) d hd)
  have hch : ∀ d ∈ StrChars.Road.wordsChN, d.before a0 Z = true := fun d hd => hw d ((by decide +kernel : ∀ d ∈ StrChars.Road.wordsChN, d ∈ tables_1) d hd)
  have hsz : cs.length ≤ 4000 := S.2.2.2.2.2
  have hwS : ∀ d ∈ Bundle.stringAtoms, d.before a0 Z = true := G.atoms
  refine Go.of (T' := T0) (g' := (mkF mM 1 #[.val (.ref x), .val (.int (Int32.ofNat fr)), .unset, .unset, .unset] [(.ref x)])) (fun _ k => XS.aloadN X0.hh X0.hx rfl (hb hby d20_0) rfl rfl k) ?_
  refine X0.callVN (W := 0) (argsL := []) (rest := []) (nc := 0) (ns := 0) (ws' := []) (Qn := fun v h' L => v = some (.int (Int32.ofNat cs.length)) ∧ L = [] ∧ h' = h0) (a := x) (C := "java/lang/String") (z := (⟨"java/lang/String", "length", "()I"⟩ : MethodName)) (hw _ (List.mem_of_getElem? (i := 53) rfl)) (hw _ (List.mem_of_getElem? (i := 54) rfl)) (fun _ q => notFace_of_selects (args := #[]) (mvT q (hw _ (List.mem_of_getElem? (i := 56) rfl)))) (hw _ (List.mem_of_getElem? (i := 56) rfl)) (hw _ (List.mem_of_getElem? (i := 55) rfl)) (by decide) (fun vm0 hZ => StrChars.Road.lenW (s := sS.setVm vm0) (W := 0) hZ hln (kI := 4) (hw _ (List.mem_of_getElem? (i := 15) rfl)) S.1 S.2.1 S.2.2.1 S.2.2.2.1 (StrChars.Road.codOf rfl fun c hc => (S.2.2.2.2.1 c hc).2) S.up (Sc.ext X0.ext0) hzc S.2.2.2.2.2 (by decide) (by decide)) (fun v h' L q => by obtain ⟨-, rfl, rfl⟩ := q; exact ⟨Fr.nil _, Keep.refl _ _⟩) S.1 pd_0 rfl rfl rfl (by rw [hml]; rfl) (by decide) (by decide) (hb hby d20_1) all0 all0 all0 ?_
  intro v1 T1 h1 X1 K1 Q1
  obtain ⟨_, rfl, -, e1⟩ := Q1
  rw [e1] at X1
  show Go pP eE bB _ T1 (mkF mM 4 #[.val (.ref x), .val (.int (Int32.ofNat fr)), .unset, .unset, .unset] [(.int (Int32.ofNat cs.length))])
  refine Go.of (T' := T1) (g' := (mkF mM 5 #[.val (.ref x), .val (.int (Int32.ofNat fr)), .unset, .unset, .unset] [(.int (Int32.ofNat fr)), (.int (Int32.ofNat cs.length))])) (fun _ k => XS.iloadN X1.hh X1.hx rfl (hb hby d20_4) rfl k) ?_
  refine Go.of (T' := T1) (g' := (mkF mM 6 #[.val (.ref x), .val (.int (Int32.ofNat fr)), .unset, .unset, .unset] [(.int ((Int32.ofNat cs.length) - (Int32.ofNat fr)))])) (fun _ k => XS.isub X1.hh X1.hx rfl (hb hby d20_5) rfl k) ?_
  refine X1.ldcR (n := 28) (z := Int32.ofNat ([109, 97, 105, 108, 116, 111, 58] : List Int32).length) (vs := (([109, 97, 105, 108, 116, 111, 58] : List Int32).map fun c => c.toInt8.toInt32).map Value.int) (hw _ (List.mem_of_getElem? (i := 91) rfl)) hwS (by decide +kernel) (by decide +kernel) (by decide +kernel) (by decide +kernel) (hb hby d20_6) (by decide +kernel) (by decide) (by decide) (by decide) ?_
  intro T2 h2 q t_q kb_q X2 E2 A_q C_q V_q B_q N_q
  have z2 : h0.size ≤ h2.size := E2.1
  have l_q : q < h2.size := A_q.lt
  have lt_q : t_q < h2.size := B_q.lt
  have St_q : Str Z h2 q t_q kb_q [109, 97, 105, 108, 116, 111, 58] := ⟨A_q, V_q, C_q, B_q, by decide, by decide⟩
  show Go pP eE bB _ T2 (mkF mM 8 #[.val (.ref x), .val (.int (Int32.ofNat fr)), .unset, .unset, .unset] [(.ref q), (.int ((Int32.ofNat cs.length) - (Int32.ofNat fr)))])
  have Sq : Str Z h2 q t_q kb_q mto := St_q
  refine X2.callVN (W := 1) (argsL := []) (rest := [(.int ((Int32.ofNat cs.length) - (Int32.ofNat fr)))]) (nc := 0) (ns := 0) (ws' := []) (Qn := fun v h' L => v = some (.int (Int32.ofNat mto.length)) ∧ L = [] ∧ h' = h2) (a := q) (C := "java/lang/String") (z := (⟨"java/lang/String", "length", "()I"⟩ : MethodName)) (hw _ (List.mem_of_getElem? (i := 53) rfl)) (hw _ (List.mem_of_getElem? (i := 54) rfl)) (fun _ q => notFace_of_selects (args := #[]) (mvT q (hw _ (List.mem_of_getElem? (i := 56) rfl)))) (hw _ (List.mem_of_getElem? (i := 56) rfl)) (hw _ (List.mem_of_getElem? (i := 55) rfl)) (by decide) (fun vm0 hZ => StrChars.Road.lenW (s := sS.setVm vm0) (W := 1) hZ hln (kI := 4) (hw _ (List.mem_of_getElem? (i := 15) rfl)) Sq.1 Sq.2.1 Sq.2.2.1 Sq.2.2.2.1 (StrChars.Road.codOf rfl fun c hc => (Sq.2.2.2.2.1 c hc).2) Sq.up (Sc.ext X2.ext0) hzc Sq.2.2.2.2.2 (by decide) (by decide)) (fun v h' L q => by obtain ⟨-, rfl, rfl⟩ := q; exact ⟨Fr.nil _, Keep.refl _ _⟩) Sq.1 pd_0 rfl rfl rfl (by rw [hml]; rfl) (by decide) (by decide) (hb hby d20_8) all0 all0 all0 ?_
  intro v3 T3 h3 X3 K3 Q3
  obtain ⟨_, rfl, -, e3⟩ := Q3
  rw [e3] at X3
  show Go pP eE bB _ T3 (mkF mM 11 #[.val (.ref x), .val (.int (Int32.ofNat fr)), .unset, .unset, .unset] [(.int (Int32.ofNat mto.length)), (.int ((Int32.ofNat cs.length) - (Int32.ofNat fr)))])
  have h7 : ¬ (Int32.ofNat cs.length - Int32.ofNat fr) < Int32.ofNat mto.length := by rw [i32sub (by omega)]; exact fun q => absurd ((i32lt (by omega) (by decide)).mp q) (by show ¬ _ < 7; omega)
  refine Go.of (T' := T3) (g' := (mkF mM 16 #[.val (.ref x), .val (.int (Int32.ofNat fr)), .unset, .unset, .unset] [])) (fun _ k => XS.icmpYes X3.hh X3.hx rfl (pc0 := 11) (pc' := 16) rfl (hb hby d20_11) rfl (flt h7).2.1 (by decide) (by decide) k) ?_
  refine Go.of (T' := T3) (g' := (mkF mM 17 #[.val (.ref x), .val (.int (Int32.ofNat fr)), .unset, .unset, .unset] [(.int (0 : Int32))])) (fun _ k => XS.iconst X3.hh X3.hx rfl (hb hby d20_16) k) ?_
  refine Go.of (T' := T3) (g' := (mkF mM 18 #[.val (.ref x), .val (.int (Int32.ofNat fr)), .val (.int (0 : Int32)), .unset, .unset] [])) (fun _ k => XS.istoreN X3.hh X3.hx rfl (hb hby d20_17) rfl (l' := #[.val (.ref x), .val (.int (Int32.ofNat fr)), .val (.int (0 : Int32)), .unset, .unset]) rfl k) ?_
  have S := (S.ext E2)
  have loop : ∀ (k i : Nat) (z : Int32) (T9 : State) (o3 o4 : Slot), z = Int32.ofNat i → 7 - i = k → i ≤ 7 → One o3 → One o4 → Wk pP l eE ({ frames := 4, cells := 2, slots := 32, locals := 54 } : Room) sS mM #[(.ref x), (.int (Int32.ofNat fr))] bB mE cC Z a0 consts_1 "com/example/hfields/hfields/LinkCut" [] T9 h2 [] [(42, q)] 2 32 → Go pP eE bB (Pst ({ frames := 4, cells := 2, slots := 32, locals := 54 } : Room) sS Z consts_1 [] (Q_has_scheme Z x t kb cs fr h0)) T9 (mkF mM 18 #[.val (.ref x), .val (.int (Int32.ofNat fr)), .val (.int z), o3, o4] []) := by
    intro k
    induction k using Nat.strongRecOn with
    | _ k ih =>
      intro i z T9 o3 o4 hz hk hle O3 O4 X9
      refine Go.of (T' := T9) (g' := (mkF mM 19 #[.val (.ref x), .val (.int (Int32.ofNat fr)), .val (.int z), o3, o4] [(.int z)])) (fun _ k => XS.iloadN X9.hh X9.hx rfl (hb hby d20_18) rfl k) ?_
      refine X9.ldcA (hw _ (List.mem_of_getElem? (i := 91) rfl)) (List.mem_of_getElem? (i := 0) rfl) (hb hby d20_19) ?_
      show Go pP eE bB _ T9 (mkF mM 21 #[.val (.ref x), .val (.int (Int32.ofNat fr)), .val (.int z), o3, o4] [(.ref q), (.int z)])
      refine X9.callVN (W := 1) (argsL := []) (rest := [(.int z)]) (nc := 0) (ns := 0) (ws' := []) (Qn := fun v h' L => v = some (.int (Int32.ofNat mto.length)) ∧ L = [] ∧ h' = h2) (a := q) (C := "java/lang/String") (z := (⟨"java/lang/String", "length", "()I"⟩ : MethodName)) (hw _ (List.mem_of_getElem? (i := 53) rfl)) (hw _ (List.mem_of_getElem? (i := 54) rfl)) (fun _ q => notFace_of_selects (args := #[]) (mvT q (hw _ (List.mem_of_getElem? (i := 56) rfl)))) (hw _ (List.mem_of_getElem? (i := 56) rfl)) (hw _ (List.mem_of_getElem? (i := 55) rfl)) (by decide) (fun vm0 hZ => StrChars.Road.lenW (s := sS.setVm vm0) (W := 1) hZ hln (kI := 4) (hw _ (List.mem_of_getElem? (i := 15) rfl)) Sq.1 Sq.2.1 Sq.2.2.1 Sq.2.2.2.1 (StrChars.Road.codOf rfl fun c hc => (Sq.2.2.2.2.1 c hc).2) Sq.up (Sc.ext X9.ext0) hzc Sq.2.2.2.2.2 (by decide) (by decide)) (fun v h' L q => by obtain ⟨-, rfl, rfl⟩ := q; exact ⟨Fr.nil _, Keep.refl _ _⟩) Sq.1 pd_0 rfl rfl rfl (by rw [hml]; rfl) (by decide) (by decide) (hb hby d20_21) all0 all0 all0 ?_
      intro v4 T4 h4 X4 K4 Q4
      obtain ⟨_, rfl, -, e4⟩ := Q4
      rw [e4] at X4
      show Go pP eE bB _ T4 (mkF mM 24 #[.val (.ref x), .val (.int (Int32.ofNat fr)), .val (.int z), o3, o4] [(.int (Int32.ofNat mto.length)), (.int z)])
      by_cases hi : i < 7
      · have hlt : z < Int32.ofNat mto.length := by rw [hz]; exact (i32lt (by omega) (by decide)).mpr hi
        refine Go.of (T' := T4) (g' := (mkF mM 27 #[.val (.ref x), .val (.int (Int32.ofNat fr)), .val (.int z), o3, o4] [])) (fun _ k => XS.icmpNo X4.hh X4.hx rfl (hb hby d20_24) rfl (tlt hlt).2.1 k) ?_
        refine Go.of (T' := T4) (g' := (mkF mM 28 #[.val (.ref x), .val (.int (Int32.ofNat fr)), .val (.int z), o3, o4] [(.ref x)])) (fun _ k => XS.aloadN X4.hh X4.hx rfl (hb hby d20_27) rfl rfl k) ?_
        refine Go.of (T' := T4) (g' := (mkF mM 29 #[.val (.ref x), .val (.int (Int32.ofNat fr)), .val (.int z), o3, o4] [(.int (Int32.ofNat fr)), (.ref x)])) (fun _ k => XS.iloadN X4.hh X4.hx rfl (hb hby d20_28) rfl k) ?_
        refine Go.of (T' := T4) (g' := (mkF mM 30 #[.val (.ref x), .val (.int (Int32.ofNat fr)), .val (.int z), o3, o4] [(.int z), (.int (Int32.ofNat fr)), (.ref x)])) (fun _ k => XS.iloadN X4.hh X4.hx rfl (hb hby d20_29) rfl k) ?_
        refine Go.of (T' := T4) (g' := (mkF mM 31 #[.val (.ref x), .val (.int (Int32.ofNat fr)), .val (.int z), o3, o4] [(.int ((Int32.ofNat fr) + z)), (.ref x)])) (fun _ k => XS.iadd X4.hh X4.hx rfl (hb hby d20_30) rfl k) ?_
        refine X4.callVN (W := 0) (argsL := [(.int ((Int32.ofNat fr) + z))]) (rest := []) (nc := 0) (ns := 0) (ws' := []) (Qn := fun v h' L => v = some (.int (cs.getD (fr + i) 0)) ∧ L = [] ∧ h' = h2) (a := x) (C := "java/lang/String") (z := (⟨"java/lang/String", "charAt", "(I)C"⟩ : MethodName)) (hw _ (List.mem_of_getElem? (i := 63) rfl)) (hw _ (List.mem_of_getElem? (i := 64) rfl)) (fun _ q => notFace_of_selects (args := #[]) (mvT q (hw _ (List.mem_of_getElem? (i := 66) rfl)))) (hw _ (List.mem_of_getElem? (i := 66) rfl)) (hw _ (List.mem_of_getElem? (i := 65) rfl)) (by decide) (fun vm0 hZ => StrChars.Road.chN (s := sS.setVm vm0) (W := 0) hZ hch (kI := 4) (hw _ (List.mem_of_getElem? (i := 15) rfl)) S.1 S.2.1 S.2.2.1 S.2.2.2.1 (StrChars.Road.codOf rfl fun c hc => (S.2.2.2.2.1 c hc).2) S.up (Sc.ext X4.ext0) hzc (Sf.ext X4.ext0) rfm S.2.2.2.2.2 (i := (fr + i)) (by omega) (j := ((Int32.ofNat fr) + z)) (by rw [hz]; exact i32add fr i) (by decide) (by decide)) (fun v h' L q => by obtain ⟨-, rfl, rfl⟩ := q; exact ⟨Fr.nil _, Keep.refl _ _⟩) S.1 pd_1 rfl rfl rfl (by rw [hml]; rfl) (by decide) (by decide) (hb hby d20_31) all0 all0 all0 ?_
        intro v5 T5 h5 X5 K5 Q5
        obtain ⟨_, rfl, -, e5⟩ := Q5
        rw [e5] at X5
        show Go pP eE bB _ T5 (mkF mM 34 #[.val (.ref x), .val (.int (Int32.ofNat fr)), .val (.int z), o3, o4] [(.int (cs.getD (fr + i) 0))])
        obtain ⟨ch, hch'⟩ : ∃ ch : Int32, ch = (cs.getD (fr + i) 0) := ⟨_, rfl⟩
        rw [← hch']
        show Go pP eE bB _ T5 (mkF mM 34 #[.val (.ref x), .val (.int (Int32.ofNat fr)), .val (.int z), o3, o4] [(.int ch)])
        refine Go.of (T' := T5) (g' := (mkF mM 35 #[.val (.ref x), .val (.int (Int32.ofNat fr)), .val (.int z), .val (.int ch), o4] [])) (fun _ k => XS.istoreNS X5.hh X5.hx rfl (hb hby d20_34) rfl (o := o3) rfl O3 k) ?_
        refine Go.of (T' := T5) (g' := (mkF mM 36 #[.val (.ref x), .val (.int (Int32.ofNat fr)), .val (.int z), .val (.int ch), o4] [(.int ch)])) (fun _ k => XS.iloadN X5.hh X5.hx rfl (hb hby d20_35) rfl k) ?_
        refine Go.of (T' := T5) (g' := (mkF mM 38 #[.val (.ref x), .val (.int (Int32.ofNat fr)), .val (.int z), .val (.int ch), o4] [(.int (65 : Int32)), (.int ch)])) (fun _ k => XS.bipush X5.hh X5.hx rfl (hb hby d20_36) k) ?_
        have J : ∀ (d4 : Int32), d4 = low ch → Go pP eE bB (Pst ({ frames := 4, cells := 2, slots := 32, locals := 54 } : Room) sS Z consts_1 [] (Q_has_scheme Z x t kb cs fr h0)) T5 (mkF mM 56 #[.val (.ref x), .val (.int (Int32.ofNat fr)), .val (.int z), .val (.int ch), o4] [(.int d4)]) := by
          intro d4 hd4
          refine Go.of (T' := T5) (g' := (mkF mM 58 #[.val (.ref x), .val (.int (Int32.ofNat fr)), .val (.int z), .val (.int ch), .val (.int d4)] [])) (fun _ k => XS.istoreS X5.hh X5.hx rfl (hb hby d20_56) rfl (o := o4) rfl O4 k) ?_
          refine Go.of (T' := T5) (g' := (mkF mM 60 #[.val (.ref x), .val (.int (Int32.ofNat fr)), .val (.int z), .val (.int ch), .val (.int d4)] [(.int d4)])) (fun _ k => XS.iload X5.hh X5.hx rfl (hb hby d20_58) rfl k) ?_
          refine X5.ldcA (hw _ (List.mem_of_getElem? (i := 91) rfl)) (List.mem_of_getElem? (i := 0) rfl) (hb hby d20_60) ?_
          show Go pP eE bB _ T5 (mkF mM 62 #[.val (.ref x), .val (.int (Int32.ofNat fr)), .val (.int z), .val (.int ch), .val (.int d4)] [(.ref q), (.int d4)])
          refine Go.of (T' := T5) (g' := (mkF mM 63 #[.val (.ref x), .val (.int (Int32.ofNat fr)), .val (.int z), .val (.int ch), .val (.int d4)] [(.int z), (.ref q), (.int d4)])) (fun _ k => XS.iloadN X5.hh X5.hx rfl (hb hby d20_62) rfl k) ?_
          refine X5.callVN (W := 1) (argsL := [(.int z)]) (rest := [(.int d4)]) (nc := 0) (ns := 0) (ws' := []) (Qn := fun v h' L => v = some (.int (mto.getD i 0)) ∧ L = [] ∧ h' = h2) (a := q) (C := "java/lang/String") (z := (⟨"java/lang/String", "charAt", "(I)C"⟩ : MethodName)) (hw _ (List.mem_of_getElem? (i := 63) rfl)) (hw _ (List.mem_of_getElem? (i := 64) rfl)) (fun _ q => notFace_of_selects (args := #[]) (mvT q (hw _ (List.mem_of_getElem? (i := 66) rfl)))) (hw _ (List.mem_of_getElem? (i := 66) rfl)) (hw _ (List.mem_of_getElem? (i := 65) rfl)) (by decide) (fun vm0 hZ => StrChars.Road.chN (s := sS.setVm vm0) (W := 1) hZ hch (kI := 4) (hw _ (List.mem_of_getElem? (i := 15) rfl)) Sq.1 Sq.2.1 Sq.2.2.1 Sq.2.2.2.1 (StrChars.Road.codOf rfl fun c hc => (Sq.2.2.2.2.1 c hc).2) Sq.up (Sc.ext X5.ext0) hzc (Sf.ext X5.ext0) rfm Sq.2.2.2.2.2 (i := i) hi (j := z) hz (by decide) (by decide)) (fun v h' L q => by obtain ⟨-, rfl, rfl⟩ := q; exact ⟨Fr.nil _, Keep.refl _ _⟩) Sq.1 pd_1 rfl rfl rfl (by rw [hml]; rfl) (by decide) (by decide) (hb hby d20_63) all0 all0 all0 ?_
          intro v6 T6 h6 X6 K6 Q6
          obtain ⟨_, rfl, -, e6⟩ := Q6
          rw [e6] at X6
          show Go pP eE bB _ T6 (mkF mM 66 #[.val (.ref x), .val (.int (Int32.ofNat fr)), .val (.int z), .val (.int ch), .val (.int d4)] [(.int (mto.getD i 0)), (.int d4)])
          have heq' : d4 = mto.getD i 0 := by rw [hd4, hch']; exact hall i hi
          refine Go.of (T' := T6) (g' := (mkF mM 71 #[.val (.ref x), .val (.int (Int32.ofNat fr)), .val (.int z), .val (.int ch), .val (.int d4)] [])) (fun _ k => XS.icmpYes X6.hh X6.hx rfl (pc0 := 66) (pc' := 71) rfl (hb hby d20_66) rfl (teq heq').1 (by decide) (by decide) k) ?_
          refine Go.of (T' := T6) (g' := (mkF mM 74 #[.val (.ref x), .val (.int (Int32.ofNat fr)), .val (.int (z + (1 : Int32))), .val (.int ch), .val (.int d4)] [])) (fun _ k => XS.iinc X6.hh X6.hx rfl (hb hby d20_71) rfl (l' := #[.val (.ref x), .val (.int (Int32.ofNat fr)), .val (.int (z + (1 : Int32))), .val (.int ch), .val (.int d4)]) rfl k) ?_
          refine Go.of (T' := T6) (g' := (mkF mM 18 #[.val (.ref x), .val (.int (Int32.ofNat fr)), .val (.int (z + (1 : Int32))), .val (.int ch), .val (.int d4)] [])) (fun _ k => XS.goto X6.hh X6.hx rfl (pc0 := 74) (pc' := 18) rfl (hb hby d20_74) (by decide) (by decide) k) ?_
          exact ih (k - 1) (by omega) (i + 1) _ _ _ _ (by rw [hz]; exact i32succ i) (by omega) (by omega) (One.val rfl) (One.val rfl) X6
        by_cases hc38 : ch < (65 : Int32)
        · refine Go.of (T' := T5) (g' := (mkF mM 55 #[.val (.ref x), .val (.int (Int32.ofNat fr)), .val (.int z), .val (.int ch), o4] [])) (fun _ k => XS.icmpYes X5.hh X5.hx rfl (pc0 := 38) (pc' := 55) rfl (hb hby d20_38) rfl (tlt hc38).1 (by decide) (by decide) k) ?_
          refine Go.of (T' := T5) (g' := (mkF mM 56 #[.val (.ref x), .val (.int (Int32.ofNat fr)), .val (.int z), .val (.int ch), o4] [(.int ch)])) (fun _ k => XS.iloadN X5.hh X5.hx rfl (hb hby d20_55) rfl k) ?_
          exact J _ (by simp only [low, if_pos hc38])
        · refine Go.of (T' := T5) (g' := (mkF mM 41 #[.val (.ref x), .val (.int (Int32.ofNat fr)), .val (.int z), .val (.int ch), o4] [])) (fun _ k => XS.icmpNo X5.hh X5.hx rfl (hb hby d20_38) rfl (flt hc38).1 k) ?_
          refine Go.of (T' := T5) (g' := (mkF mM 42 #[.val (.ref x), .val (.int (Int32.ofNat fr)), .val (.int z), .val (.int ch), o4] [(.int ch)])) (fun _ k => XS.iloadN X5.hh X5.hx rfl (hb hby d20_41) rfl k) ?_
          refine Go.of (T' := T5) (g' := (mkF mM 44 #[.val (.ref x), .val (.int (Int32.ofNat fr)), .val (.int z), .val (.int ch), o4] [(.int (90 : Int32)), (.int ch)])) (fun _ k => XS.bipush X5.hh X5.hx rfl (hb hby d20_42) k) ?_
          by_cases hc44 : (90 : Int32) < ch
          · refine Go.of (T' := T5) (g' := (mkF mM 55 #[.val (.ref x), .val (.int (Int32.ofNat fr)), .val (.int z), .val (.int ch), o4] [])) (fun _ k => XS.icmpYes X5.hh X5.hx rfl (pc0 := 44) (pc' := 55) rfl (hb hby d20_44) rfl (tlt hc44).2.2.1 (by decide) (by decide) k) ?_
            refine Go.of (T' := T5) (g' := (mkF mM 56 #[.val (.ref x), .val (.int (Int32.ofNat fr)), .val (.int z), .val (.int ch), o4] [(.int ch)])) (fun _ k => XS.iloadN X5.hh X5.hx rfl (hb hby d20_55) rfl k) ?_
            exact J _ (by simp only [low, if_neg hc38, if_pos hc44])
          · refine Go.of (T' := T5) (g' := (mkF mM 47 #[.val (.ref x), .val (.int (Int32.ofNat fr)), .val (.int z), .val (.int ch), o4] [])) (fun _ k => XS.icmpNo X5.hh X5.hx rfl (hb hby d20_44) rfl (flt hc44).2.2.1 k) ?_
            refine Go.of (T' := T5) (g' := (mkF mM 48 #[.val (.ref x), .val (.int (Int32.ofNat fr)), .val (.int z), .val (.int ch), o4] [(.int ch)])) (fun _ k => XS.iloadN X5.hh X5.hx rfl (hb hby d20_47) rfl k) ?_
            refine Go.of (T' := T5) (g' := (mkF mM 50 #[.val (.ref x), .val (.int (Int32.ofNat fr)), .val (.int z), .val (.int ch), o4] [(.int (32 : Int32)), (.int ch)])) (fun _ k => XS.bipush X5.hh X5.hx rfl (hb hby d20_48) k) ?_
            refine Go.of (T' := T5) (g' := (mkF mM 51 #[.val (.ref x), .val (.int (Int32.ofNat fr)), .val (.int z), .val (.int ch), o4] [(.int (ch + (32 : Int32)))])) (fun _ k => XS.iadd X5.hh X5.hx rfl (hb hby d20_50) rfl k) ?_
            refine Go.of (T' := T5) (g' := (mkF mM 52 #[.val (.ref x), .val (.int (Int32.ofNat fr)), .val (.int z), .val (.int ch), o4] [(.int ((ch + (32 : Int32)).toUInt32.toUInt16.toUInt32.toInt32))])) (fun _ k => XS.i2c X5.hh X5.hx rfl (hb hby d20_51) rfl k) ?_
            refine Go.of (T' := T5) (g' := (mkF mM 56 #[.val (.ref x), .val (.int (Int32.ofNat fr)), .val (.int z), .val (.int ch), o4] [(.int ((ch + (32 : Int32)).toUInt32.toUInt16.toUInt32.toInt32))])) (fun _ k => XS.goto X5.hh X5.hx rfl (pc0 := 52) (pc' := 56) rfl (hb hby d20_52) (by decide) (by decide) k) ?_
            exact J _ (by rw [i2c_up hc38 hc44]; simp only [low, if_neg hc38, if_neg hc44])
      · have hge' : ¬ z < Int32.ofNat mto.length := by rw [hz]; exact fun q => hi ((i32lt (by omega) (by decide)).mp q)
        refine Go.of (T' := T4) (g' := (mkF mM 77 #[.val (.ref x), .val (.int (Int32.ofNat fr)), .val (.int z), o3, o4] [])) (fun _ k => XS.icmpYes X4.hh X4.hx rfl (pc0 := 24) (pc' := 77) rfl (hb hby d20_24) rfl (flt hge').2.1 (by decide) (by decide) k) ?_
        refine Go.of (T' := T4) (g' := (mkF mM 78 #[.val (.ref x), .val (.int (Int32.ofNat fr)), .val (.int z), o3, o4] [(.int (1 : Int32))])) (fun _ k => XS.iconst X4.hh X4.hx rfl (hb hby d20_77) k) ?_
        exact X4.nret (t := .boolean) hret (by simp) hlk (by decide) (by decide) (hb hby d20_78) (fun S hS => rfl)
  exact loop _ 0 _ _ _ _ rfl rfl (Nat.zero_le _) One.u One.u X3
theorem skip_fr {cs : List Int32} {r fr : Nat} (h1 : r ≤ cs.length) (h2 : ∀ j, j < r → blk (cs.getD j 0)) (h3 : r < cs.length → ¬ blk (cs.getD r 0)) (hfr : fr + 7 ≤ cs.length) (hb0 : ∀ j, j < fr → blk (cs.getD j 0)) (hb1 : ¬ blk (cs.getD fr 0)) : r = fr := by
  rcases Nat.lt_trichotomy r fr with q | q | q
  · exact absurd (hb0 r q) (h3 (by omega))
  · exact q
  · exact absurd (h2 fr q) hb1
def Q_is_mailto (Z : State) (x t : Nat) (kb : ClassId) (cs : List Int32) (fr : Nat) (h0 : Heap) : Option Value → (Addr → Prop) → Heap → Prop := fun v _ h => v = some (.int 1)
theorem ef_is_mailto (m : MethodId) (x t : Nat) (kb : ClassId) (cs : List Int32) (fr : Nat) : entryFrame m #[(.ref x)] 1 = mkF m 0 #[.val (.ref x)] [] := by first | (simp [entryFrame, mkF, argsToLocals, Value.category]; done) | rfl
set_option maxRecDepth 65536 in
set_option maxHeartbeats 40000000 in
theorem is_mailto (l : Launch) (Z : State) (a0 : Array Value) (G : Wld Z a0) (x t : Nat) (kb : ClassId) (cs : List Int32) (fr : Nat) (h0 : Heap) (S : Str Z h0 x t kb cs) (hfr : fr + 7 ≤ cs.length) (hall : ∀ i, i < 7 → low (cs.getD (fr + i) 0) = mto.getD i 0) (hb0 : ∀ j, j < fr → blk (cs.getD j 0)) (hb1 : ¬ blk (cs.getD fr 0)) :
    Met l Z consts_1 (⟨"com/example/hfields/hfields/LinkCut", "isMailto", "(Ljava/lang/String;)Z"⟩ : MethodName) prog_23_method_2_code 1 (some .boolean) ({ frames := 5, cells := 2, slots := 32, locals := 70 } : Room) #[(.ref x)] h0 [] [] (Q_is_mailto Z x t kb cs fr h0) := by
  have hw := G.1
  have hEL := G.2.1
  refine Met.intro (a0 := a0) hEL pn_0 ?_
  intro pP eE sS mM bB mE cC T0 X0 hml hby hret hnm hlk hs0
  have hz0 : sS.heap.size = h0.size := by rw [hs0]
  have n0 : Z.heap.size ≤ h0.size := X0.ext0.1
  refine Go.cast (ef_is_mailto mM x t kb cs fr) ?_
  refine Go.of (T' := T0) (g' := (mkF mM 1 #[.val (.ref x)] [(.ref x)])) (fun _ k => XS.aloadN X0.hh X0.hx rfl (hb hby d10_0) rfl rfl k) ?_
  refine Go.of (T' := T0) (g' := (mkF mM 2 #[.val (.ref x)] [(.ref x), (.ref x)])) (fun _ k => XS.aloadN X0.hh X0.hx rfl (hb hby d10_1) rfl rfl k) ?_
  refine X0.callS (W := 1) (argsL := [(.ref x)]) (rest := [(.ref x)]) (hw _ (List.mem_of_getElem? (i := 50) rfl)) (hw _ (List.mem_of_getElem? (i := 51) rfl)) (hw _ (List.mem_of_getElem? (i := 13) rfl)) (hw _ (List.mem_of_getElem? (i := 52) rfl)) (by decide) (skip_blanks l Z a0 G x t kb cs h0 S) pd_3 rfl rfl rfl (by rw [hml]; rfl) (by decide) (by decide) (by decide) (by decide) (hb hby d10_2) all0 all0 ?_
  intro v1 T1 h1 S1 X1 K1 Q1
  have X1 := X1 [] all0
  obtain ⟨r, rfl, hr1, hr2, hr3, e1⟩ := Q1
  rw [e1] at X1
  obtain rfl : r = fr := skip_fr hr1 hr2 hr3 hfr hb0 hb1
  show Go pP eE bB _ T1 (mkF mM 5 #[.val (.ref x)] [(.int (Int32.ofNat r)), (.ref x)])
  refine X1.callS (W := 0) (argsL := [(.ref x), (.int (Int32.ofNat r))]) (rest := []) (hw _ (List.mem_of_getElem? (i := 88) rfl)) (hw _ (List.mem_of_getElem? (i := 89) rfl)) (hw _ (List.mem_of_getElem? (i := 13) rfl)) (hw _ (List.mem_of_getElem? (i := 90) rfl)) (by decide) (has_scheme l Z a0 G x t kb cs r h0 S hfr hall) pd_4 rfl rfl rfl (by rw [hml]; rfl) (by decide) (by decide) (by decide) (by decide) (hb hby d10_5) all0 all0 ?_
  intro v2 T2 h2 S2 X2 K2 Q2
  obtain rfl := Q2
  have X2 := X2 [] all0
  have z2 : h0.size ≤ h2.size := K2.1
  show Go pP eE bB _ T2 (mkF mM 8 #[.val (.ref x)] [(.int (1 : Int32))])
  exact X2.nret (t := .boolean) hret (by simp) hlk (by decide) (by decide) (hb hby d10_8) (fun S hS => rfl)

def Hf (cs : List Int32) (st : Nat) : Prop := ∃ j, st ≤ j ∧ j < cs.length ∧ cs.getD j 0 = 63 ∧ ∀ i, st ≤ i → i ≤ j → ¬ cs.getD i 0 = 35
theorem trim_pos {cs : List Int32} {i fr : Nat} (h : fr < i) (hb1 : ¬ blk (cs.getD fr 0)) (hbl : blk (cs.getD (i - 1) 0)) : fr < i - 1 := by
  rcases Nat.lt_or_ge fr (i - 1) with q | q
  · exact q
  · have : fr = i - 1 := by omega
    rw [this] at hb1
    exact absurd hbl hb1
theorem low_blk {c : Int32} (h : blk c) : ¬ low c = 58 := by
  rcases h with rfl | rfl | rfl | rfl <;> decide
theorem trim_7 {cs : List Int32} {i r : Nat} (hb : ∀ j, i ≤ j → j < cs.length → blk (cs.getD j 0)) (hall : ∀ i, i < 7 → low (cs.getD (r + i) 0) = mto.getD i 0) (hfr : r + 7 ≤ cs.length) (hle : i ≤ cs.length) : r + 7 ≤ i := by
  rcases Nat.lt_or_ge i (r + 7) with q | q
  · exact absurd (hall 6 (by decide)) (low_blk (hb (r + 6) (by omega) (by omega)))
  · exact q
theorem hf_iff {cs : List Int32} {st i ee ae : Nat} (hi7 : st ≤ i) (hle : i ≤ cs.length) (hb : ∀ j, i ≤ j → j < cs.length → blk (cs.getD j 0)) (he1 : st ≤ ee) (he2 : ee ≤ i) (he3 : ∀ j, st ≤ j → j < ee → ¬ cs.getD j 0 = 35) (he4 : ee < i → cs.getD ee 0 = 35) (ha1 : st ≤ ae) (ha2 : ae ≤ ee) (ha3 : ∀ j, st ≤ j → j < ae → ¬ cs.getD j 0 = 63) (ha4 : ae < ee → cs.getD ae 0 = 63) : ae < ee ↔ Hf cs st := by
  constructor
  · intro q
    exact ⟨ae, ha1, by omega, ha4 q, fun j h1 h2 => he3 j h1 (by omega)⟩
  · rintro ⟨j, h1, h2, h3, h4⟩
    have hji : j < i := by
      rcases Nat.lt_or_ge j i with q | q
      · exact q
      · have := hb j q h2
        rw [h3] at this
        exact absurd this (nblk (by decide) (by decide) (by decide) (by decide))
    have hje : j < ee := by
      rcases Nat.lt_or_ge j ee with q | q
      · exact q
      · exact absurd (he4 (by omega)) (h4 ee he1 q)
    rcases Nat.lt_or_ge ae ee with q | q
    · exact q
    · exact absurd h3 (ha3 j h1 (by omega))

def Q_lc_init (Z : State) (a : Nat) (x t : Nat) (kb : ClassId) (cs : List Int32) (fr : Nat) (h0 : Heap) : Option Value → (Addr → Prop) → Heap → Prop := fun v _ h => v = none ∧ ∃ ee ae : Nat, Exa Z h a "com/example/hfields/hfields/LinkCut" ∧ Fld Z h a "com/example/hfields/hfields/LinkCut" "end" "I" (.int (Int32.ofNat ee)) ∧ Fld Z h a "com/example/hfields/hfields/LinkCut" "addressEnd" "I" (.int (Int32.ofNat ae)) ∧ ee ≤ 4000 ∧ ae ≤ 4000 ∧ (ae < ee ↔ Hf cs (fr + 7))
theorem ef_lc_init (m : MethodId) (a : Nat) (x t : Nat) (kb : ClassId) (cs : List Int32) (fr : Nat) : entryFrame m #[(.ref a), (.ref x)] 3 = mkF m 0 #[.val (.ref a), .val (.ref x), .unset] [] := by first | (simp [entryFrame, mkF, argsToLocals, Value.category]; done) | rfl
set_option maxRecDepth 65536 in
set_option maxHeartbeats 40000000 in
theorem lc_init (l : Launch) (Z : State) (a0 : Array Value) (G : Wld Z a0) (a : Nat) (x t : Nat) (kb : ClassId) (cs : List Int32) (fr : Nat) (h0 : Heap) (E : Exa Z h0 a "com/example/hfields/hfields/LinkCut") (F_link : Fld Z h0 a "com/example/hfields/hfields/LinkCut" "link" "Ljava/lang/String;" .null) (F_addressStart : Fld Z h0 a "com/example/hfields/hfields/LinkCut" "addressStart" "I" (.int (0 : Int32))) (F_trimmedEnd : Fld Z h0 a "com/example/hfields/hfields/LinkCut" "trimmedEnd" "I" (.int (0 : Int32))) (F_end : Fld Z h0 a "com/example/hfields/hfields/LinkCut" "end" "I" (.int (0 : Int32))) (F_addressEnd : Fld Z h0 a "com/example/hfields/hfields/LinkCut" "addressEnd" "I" (.int (0 : Int32))) (ga : Z.heap.size ≤ a) (hax : @Ne Nat a x) (hat : @Ne Nat a t) (S : Str Z h0 x t kb cs) (hfr : fr + 7 ≤ cs.length) (hall : ∀ i, i < 7 → low (cs.getD (fr + i) 0) = mto.getD i 0) (hb0 : ∀ j, j < fr → blk (cs.getD j 0)) (hb1 : ¬ blk (cs.getD fr 0)) :
    Met l Z consts_1 (⟨"com/example/hfields/hfields/LinkCut", "<init>", "(Ljava/lang/String;)V"⟩ : MethodName) prog_23_method_1_code 3 none ({ frames := 6, cells := 4, slots := 64, locals := 82 } : Room) #[(.ref a), (.ref x)] h0 [a] [] (Q_lc_init Z a x t kb cs fr h0) := by
  have hw := G.1
  have hEL := G.2.1
  refine Met.intro (a0 := a0) hEL pn_0 ?_
  intro pP eE sS mM bB mE cC T0 X0 hml hby hret hnm hlk hs0
  have hz0 : sS.heap.size = h0.size := by rw [hs0]
  have n0 : Z.heap.size ≤ h0.size := X0.ext0.1
  refine Go.cast (ef_lc_init mM a x t kb cs fr) ?_
  obtain ⟨zc, Sc, hzc⟩ := G.2.2.1
  obtain ⟨fm, Sf, rfm⟩ := G.2.2.2
  have hln : ∀ d ∈ StrChars.Road.wordsLen, d.before a0 Z = true := fun d hd => hw d ((by decide +kernel : ∀ d ∈ StrChars.Road.wordsLen, d ∈ tables_1) d hd)
  have hch : ∀ d ∈ StrChars.Road.wordsChN, d.before a0 Z = true := fun d hd => hw d ((by decide +kernel : ∀ d ∈ StrChars.Road.wordsChN, d ∈ tables_1) d hd)
  have hsz : cs.length ≤ 4000 := S.2.2.2.2.2
  have hwS : ∀ d ∈ Bundle.stringAtoms, d.before a0 Z = true := G.atoms
  have l_a : a < h0.size := E.lt
  have l_x : x < h0.size := S.lt
  have l_t : t < h0.size := S.lt'
  refine Go.of (T' := T0) (g' := (mkF mM 1 #[.val (.ref a), .val (.ref x), .unset] [(.ref a)])) (fun _ k => XS.aloadN X0.hh X0.hx rfl (hb hby d9_0) rfl rfl k) ?_
  refine X0.initO (W := 0) (hw _ (List.mem_of_getElem? (i := 46) rfl)) (hw _ (List.mem_of_getElem? (i := 25) rfl)) (hw _ (List.mem_of_getElem? (i := 26) rfl)) (by rw [hml]; rfl) (hb hby d9_1) (by decide) rfl (by decide) ?_
  intro T1 X1
  show Go pP eE bB _ T1 (mkF mM 4 #[.val (.ref a), .val (.ref x), .unset] [])
  refine Go.of (T' := T1) (g' := (mkF mM 5 #[.val (.ref a), .val (.ref x), .unset] [(.ref x)])) (fun _ k => XS.aloadN X1.hh X1.hx rfl (hb hby d9_4) rfl rfl k) ?_
  refine X1.callS (W := 0) (argsL := [(.ref x)]) (rest := []) (hw _ (List.mem_of_getElem? (i := 47) rfl)) (hw _ (List.mem_of_getElem? (i := 48) rfl)) (hw _ (List.mem_of_getElem? (i := 13) rfl)) (hw _ (List.mem_of_getElem? (i := 49) rfl)) (by decide) (is_mailto l Z a0 G x t kb cs fr h0 S hfr hall hb0 hb1) pd_5 rfl rfl rfl (by rw [hml]; rfl) (by decide) (by decide) (by decide) (by decide) (hb hby d9_5) all0 all0 ?_
  intro v2 T2 h2 S2 X2 K2 Q2
  obtain rfl := Q2
  have X2 := X2 [] all0
  have z2 : h0.size ≤ h2.size := K2.1
  show Go pP eE bB _ T2 (mkF mM 8 #[.val (.ref a), .val (.ref x), .unset] [(.int (1 : Int32))])
  refine Go.of (T' := T2) (g' := (mkF mM 21 #[.val (.ref a), .val (.ref x), .unset] [])) (fun _ k => XS.ifYes X2.hh X2.hx rfl (pc0 := 8) (pc' := 21) rfl (hb hby d9_8) rfl ((if0 _ _).trans (feq (by decide)).2) (by decide) (by decide) k) ?_
  refine Go.of (T' := T2) (g' := (mkF mM 22 #[.val (.ref a), .val (.ref x), .unset] [(.ref x)])) (fun _ k => XS.aloadN X2.hh X2.hx rfl (hb hby d9_21) rfl rfl k) ?_
  have S := (S.keep K2 nin0 nin0)
  refine X2.callVN (W := 0) (argsL := []) (rest := []) (nc := 0) (ns := 0) (ws' := []) (Qn := fun v h' L => v = some (.int (Int32.ofNat cs.length)) ∧ L = [] ∧ h' = h2) (a := x) (C := "java/lang/String") (z := (⟨"java/lang/String", "length", "()I"⟩ : MethodName)) (hw _ (List.mem_of_getElem? (i := 53) rfl)) (hw _ (List.mem_of_getElem? (i := 54) rfl)) (fun _ q => notFace_of_selects (args := #[]) (mvT q (hw _ (List.mem_of_getElem? (i := 56) rfl)))) (hw _ (List.mem_of_getElem? (i := 56) rfl)) (hw _ (List.mem_of_getElem? (i := 55) rfl)) (by decide) (fun vm0 hZ => StrChars.Road.lenW (s := sS.setVm vm0) (W := 0) hZ hln (kI := 4) (hw _ (List.mem_of_getElem? (i := 15) rfl)) S.1 S.2.1 S.2.2.1 S.2.2.2.1 (StrChars.Road.codOf rfl fun c hc => (S.2.2.2.2.1 c hc).2) S.up (Sc.ext X2.ext0) hzc S.2.2.2.2.2 (by decide) (by decide)) (fun v h' L q => by obtain ⟨-, rfl, rfl⟩ := q; exact ⟨Fr.nil _, Keep.refl _ _⟩) S.1 pd_0 rfl rfl rfl (by rw [hml]; rfl) (by decide) (by decide) (hb hby d9_22) all0 all0 all0 ?_
  intro v3 T3 h3 X3 K3 Q3
  obtain ⟨_, rfl, -, e3⟩ := Q3
  rw [e3] at X3
  show Go pP eE bB _ T3 (mkF mM 25 #[.val (.ref a), .val (.ref x), .unset] [(.int (Int32.ofNat cs.length))])
  refine Go.of (T' := T3) (g' := (mkF mM 26 #[.val (.ref a), .val (.ref x), .val (.int (Int32.ofNat cs.length))] [])) (fun _ k => XS.istoreN X3.hh X3.hx rfl (hb hby d9_25) rfl (l' := #[.val (.ref a), .val (.ref x), .val (.int (Int32.ofNat cs.length))]) rfl k) ?_
  have E := (E.keep K2)
  have F_link := (F_link.keep K2 nin0)
  have F_addressStart := (F_addressStart.keep K2 nin0)
  have F_trimmedEnd := (F_trimmedEnd.keep K2 nin0)
  have F_end := (F_end.keep K2 nin0)
  have F_addressEnd := (F_addressEnd.keep K2 nin0)
  have loop : ∀ (k i : Nat) (z : Int32) (T9 : State), z = Int32.ofNat i → i = k → fr < i → i ≤ cs.length → (∀ j, i ≤ j → j < cs.length → blk (cs.getD j 0)) → Wk pP l eE ({ frames := 6, cells := 4, slots := 64, locals := 82 } : Room) sS mM #[(.ref a), (.ref x)] bB mE cC Z a0 consts_1 "com/example/hfields/hfields/LinkCut" [a] T9 h2 [] [] 2 32 → Go pP eE bB (Pst ({ frames := 6, cells := 4, slots := 64, locals := 82 } : Room) sS Z consts_1 [a] (Q_lc_init Z a x t kb cs fr h0)) T9 (mkF mM 26 #[.val (.ref a), .val (.ref x), .val (.int z)] []) := by
    intro k
    induction k using Nat.strongRecOn with
    | _ k ih =>
      intro i z T9 hz hk hpos hle hB X9
      refine Go.of (T' := T9) (g' := (mkF mM 27 #[.val (.ref a), .val (.ref x), .val (.int z)] [(.ref x)])) (fun _ k => XS.aloadN X9.hh X9.hx rfl (hb hby d9_26) rfl rfl k) ?_
      refine Go.of (T' := T9) (g' := (mkF mM 28 #[.val (.ref a), .val (.ref x), .val (.int z)] [(.int z), (.ref x)])) (fun _ k => XS.iloadN X9.hh X9.hx rfl (hb hby d9_27) rfl k) ?_
      refine Go.of (T' := T9) (g' := (mkF mM 29 #[.val (.ref a), .val (.ref x), .val (.int z)] [(.int (1 : Int32)), (.int z), (.ref x)])) (fun _ k => XS.iconst X9.hh X9.hx rfl (hb hby d9_28) k) ?_
      refine Go.of (T' := T9) (g' := (mkF mM 30 #[.val (.ref a), .val (.ref x), .val (.int z)] [(.int (z - (1 : Int32))), (.ref x)])) (fun _ k => XS.isub X9.hh X9.hx rfl (hb hby d9_29) rfl k) ?_
      have hz1 : z - 1 = Int32.ofNat (i - 1) := by rw [hz]; exact i32sub (j := 1) (by omega)
      refine X9.callVN (W := 0) (argsL := [(.int (z - (1 : Int32)))]) (rest := []) (nc := 0) (ns := 0) (ws' := []) (Qn := fun v h' L => v = some (.int (cs.getD (i - 1) 0)) ∧ L = [] ∧ h' = h2) (a := x) (C := "java/lang/String") (z := (⟨"java/lang/String", "charAt", "(I)C"⟩ : MethodName)) (hw _ (List.mem_of_getElem? (i := 63) rfl)) (hw _ (List.mem_of_getElem? (i := 64) rfl)) (fun _ q => notFace_of_selects (args := #[]) (mvT q (hw _ (List.mem_of_getElem? (i := 66) rfl)))) (hw _ (List.mem_of_getElem? (i := 66) rfl)) (hw _ (List.mem_of_getElem? (i := 65) rfl)) (by decide) (fun vm0 hZ => StrChars.Road.chN (s := sS.setVm vm0) (W := 0) hZ hch (kI := 4) (hw _ (List.mem_of_getElem? (i := 15) rfl)) S.1 S.2.1 S.2.2.1 S.2.2.2.1 (StrChars.Road.codOf rfl fun c hc => (S.2.2.2.2.1 c hc).2) S.up (Sc.ext X9.ext0) hzc (Sf.ext X9.ext0) rfm S.2.2.2.2.2 (i := (i - 1)) (by omega) (j := (z - (1 : Int32))) hz1 (by decide) (by decide)) (fun v h' L q => by obtain ⟨-, rfl, rfl⟩ := q; exact ⟨Fr.nil _, Keep.refl _ _⟩) S.1 pd_1 rfl rfl rfl (by rw [hml]; rfl) (by decide) (by decide) (hb hby d9_30) all0 all0 all0 ?_
      intro v4 T4 h4 X4 K4 Q4
      obtain ⟨_, rfl, -, e4⟩ := Q4
      rw [e4] at X4
      show Go pP eE bB _ T4 (mkF mM 33 #[.val (.ref a), .val (.ref x), .val (.int z)] [(.int (cs.getD (i - 1) 0))])
      refine X4.callS (W := 0) (argsL := [(.int (cs.getD (i - 1) 0))]) (rest := []) (hw _ (List.mem_of_getElem? (i := 85) rfl)) (hw _ (List.mem_of_getElem? (i := 86) rfl)) (hw _ (List.mem_of_getElem? (i := 13) rfl)) (hw _ (List.mem_of_getElem? (i := 87) rfl)) (by decide) (is_blank l Z a0 G _ h2) pd_2 rfl rfl rfl (by rw [hml]; rfl) (by decide) (by decide) (by decide) (by decide) (hb hby d9_33) all0 all0 ?_
      intro v5 T5 h5 S5 X5 K5 Q5
      have X5 := X5 [] all0
      obtain ⟨hv5, e5⟩ := Q5
      rw [e5] at X5
      rcases hv5 with ⟨rfl, hbl⟩ | ⟨rfl, hbl⟩
      · show Go pP eE bB _ T5 (mkF mM 36 #[.val (.ref a), .val (.ref x), .val (.int z)] [(.int (1 : Int32))])
        refine Go.of (T' := T5) (g' := (mkF mM 39 #[.val (.ref a), .val (.ref x), .val (.int z)] [])) (fun _ k => XS.ifNo X5.hh X5.hx rfl (hb hby d9_36) rfl ((if0 _ _).trans (feq (by decide)).1) k) ?_
        refine Go.of (T' := T5) (g' := (mkF mM 42 #[.val (.ref a), .val (.ref x), .val (.int (z + (-1 : Int32)))] [])) (fun _ k => XS.iinc X5.hh X5.hx rfl (hb hby d9_39) rfl (l' := #[.val (.ref a), .val (.ref x), .val (.int (z + (-1 : Int32)))]) rfl k) ?_
        refine Go.of (T' := T5) (g' := (mkF mM 26 #[.val (.ref a), .val (.ref x), .val (.int (z + (-1 : Int32)))] [])) (fun _ k => XS.goto X5.hh X5.hx rfl (pc0 := 42) (pc' := 26) rfl (hb hby d9_42) (by decide) (by decide) k) ?_
        exact ih (k - 1) (by omega) (i - 1) _ _ (by rw [← hz1]; exact (Int32.sub_eq_add_neg z 1).symm) (by omega) (trim_pos hpos hb1 hbl) (by omega) (ge_pred hB hbl) X5
      · show Go pP eE bB _ T5 (mkF mM 36 #[.val (.ref a), .val (.ref x), .val (.int z)] [(.int (0 : Int32))])
        refine Go.of (T' := T5) (g' := (mkF mM 45 #[.val (.ref a), .val (.ref x), .val (.int z)] [])) (fun _ k => XS.ifYes X5.hh X5.hx rfl (pc0 := 36) (pc' := 45) rfl (hb hby d9_36) rfl ((if0 _ _).trans (teq rfl).1) (by decide) (by decide) k) ?_
        refine Go.of (T' := T5) (g' := (mkF mM 46 #[.val (.ref a), .val (.ref x), .val (.int z)] [(.ref a)])) (fun _ k => XS.aloadN X5.hh X5.hx rfl (hb hby d9_45) rfl rfl k) ?_
        refine Go.of (T' := T5) (g' := (mkF mM 47 #[.val (.ref a), .val (.ref x), .val (.int z)] [(.ref x), (.ref a)])) (fun _ k => XS.aloadN X5.hh X5.hx rfl (hb hby d9_46) rfl rfl k) ?_
        refine X5.putF (host := "") (Or.inl (hw _ (List.mem_of_getElem? (i := 94) rfl))) Via.refl F_link E (Or.inr ⟨(hw _ (List.mem_of_getElem? (i := 95) rfl)), rfl, hnm⟩) (hw _ (List.mem_of_getElem? (i := 12) rfl)) (ty := (.object "java/lang/String")) (by decide) rfl rfl (by omega) (Or.inl (List.mem_of_getElem? (i := 0) rfl)) (Sfe.exa E) (hb hby d9_47) ?_
        intro T6 h6 X6 K6 W6
        have z6 : h2.size ≤ h6.size := K6.1
        have F_link_a := F_link.same W6
        show Go pP eE bB _ T6 (mkF mM 50 #[.val (.ref a), .val (.ref x), .val (.int z)] [])
        refine Go.of (T' := T6) (g' := (mkF mM 51 #[.val (.ref a), .val (.ref x), .val (.int z)] [(.ref a)])) (fun _ k => XS.aloadN X6.hh X6.hx rfl (hb hby d9_50) rfl rfl k) ?_
        refine Go.of (T' := T6) (g' := (mkF mM 52 #[.val (.ref a), .val (.ref x), .val (.int z)] [(.ref x), (.ref a)])) (fun _ k => XS.aloadN X6.hh X6.hx rfl (hb hby d9_51) rfl rfl k) ?_
        have S := (S.keep K6 (ninN (by omega) nin0) (ninN (by omega) nin0))
        refine X6.callS (W := 1) (argsL := [(.ref x)]) (rest := [(.ref a)]) (hw _ (List.mem_of_getElem? (i := 50) rfl)) (hw _ (List.mem_of_getElem? (i := 51) rfl)) (hw _ (List.mem_of_getElem? (i := 13) rfl)) (hw _ (List.mem_of_getElem? (i := 52) rfl)) (by decide) (skip_blanks l Z a0 G x t kb cs h6 S) pd_3 rfl rfl rfl (by rw [hml]; rfl) (by decide) (by decide) (by decide) (by decide) (hb hby d9_52) all0 all0 ?_
        intro v7 T7 h7 S7 X7 K7 Q7
        have X7 := X7 [] all0
        obtain ⟨r, rfl, hr1, hr2, hr3, e7⟩ := Q7
        rw [e7] at X7
        obtain rfl : r = fr := skip_fr hr1 hr2 hr3 hfr hb0 hb1
        show Go pP eE bB _ T7 (mkF mM 55 #[.val (.ref a), .val (.ref x), .val (.int z)] [(.int (Int32.ofNat r)), (.ref a)])
        refine X7.ldcR (n := 28) (z := Int32.ofNat ([109, 97, 105, 108, 116, 111, 58] : List Int32).length) (vs := (([109, 97, 105, 108, 116, 111, 58] : List Int32).map fun c => c.toInt8.toInt32).map Value.int) (hw _ (List.mem_of_getElem? (i := 91) rfl)) hwS (by decide +kernel) (by decide +kernel) (by decide +kernel) (by decide +kernel) (hb hby d9_55) (by decide +kernel) (by decide) (by decide) (by decide) ?_
        intro T8 h8 q t_q kb_q X8 E8 A_q C_q V_q B_q N_q
        have z8 : h6.size ≤ h8.size := E8.1
        have l_q : q < h8.size := A_q.lt
        have lt_q : t_q < h8.size := B_q.lt
        have St_q : Str Z h8 q t_q kb_q [109, 97, 105, 108, 116, 111, 58] := ⟨A_q, V_q, C_q, B_q, by decide, by decide⟩
        show Go pP eE bB _ T8 (mkF mM 57 #[.val (.ref a), .val (.ref x), .val (.int z)] [(.ref q), (.int (Int32.ofNat r)), (.ref a)])
        have Sq : Str Z h8 q t_q kb_q mto := St_q
        refine X8.callVN (W := 2) (argsL := []) (rest := [(.int (Int32.ofNat r)), (.ref a)]) (nc := 0) (ns := 0) (ws' := []) (Qn := fun v h' L => v = some (.int (Int32.ofNat mto.length)) ∧ L = [] ∧ h' = h8) (a := q) (C := "java/lang/String") (z := (⟨"java/lang/String", "length", "()I"⟩ : MethodName)) (hw _ (List.mem_of_getElem? (i := 53) rfl)) (hw _ (List.mem_of_getElem? (i := 54) rfl)) (fun _ q => notFace_of_selects (args := #[]) (mvT q (hw _ (List.mem_of_getElem? (i := 56) rfl)))) (hw _ (List.mem_of_getElem? (i := 56) rfl)) (hw _ (List.mem_of_getElem? (i := 55) rfl)) (by decide) (fun vm0 hZ => StrChars.Road.lenW (s := sS.setVm vm0) (W := 2) hZ hln (kI := 4) (hw _ (List.mem_of_getElem? (i := 15) rfl)) Sq.1 Sq.2.1 Sq.2.2.1 Sq.2.2.2.1 (StrChars.Road.codOf rfl fun c hc => (Sq.2.2.2.2.1 c hc).2) Sq.up (Sc.ext X8.ext0) hzc Sq.2.2.2.2.2 (by decide) (by decide)) (fun v h' L q => by obtain ⟨-, rfl, rfl⟩ := q; exact ⟨Fr.nil _, Keep.refl _ _⟩) Sq.1 pd_0 rfl rfl rfl (by rw [hml]; rfl) (by decide) (by decide) (hb hby d9_57) all0 all0 all0 ?_
        intro v9 T9 h9 X9 K9 Q9
        obtain ⟨_, rfl, -, e9⟩ := Q9
        rw [e9] at X9
        show Go pP eE bB _ T9 (mkF mM 60 #[.val (.ref a), .val (.ref x), .val (.int z)] [(.int (Int32.ofNat mto.length)), (.int (Int32.ofNat r)), (.ref a)])
        refine Go.of (T' := T9) (g' := (mkF mM 61 #[.val (.ref a), .val (.ref x), .val (.int z)] [(.int ((Int32.ofNat r) + (Int32.ofNat mto.length))), (.ref a)])) (fun _ k => XS.iadd X9.hh X9.hx rfl (hb hby d9_60) rfl k) ?_
        have hst : Int32.ofNat r + Int32.ofNat mto.length = Int32.ofNat (r + 7) := i32add r 7
        rw [hst]
        show Go pP eE bB _ T9 (mkF mM 61 #[.val (.ref a), .val (.ref x), .val (.int z)] [(.int (Int32.ofNat (r + 7))), (.ref a)])
        have F_addressStart := ((F_addressStart.other W6 (Or.inr (slot_ne (a0 := a0) (Or.inr (hw _ (List.mem_of_getElem? (i := 97) rfl))) (Or.inr (hw _ (List.mem_of_getElem? (i := 95) rfl))) (by decide) (t := .int) (t' := (.object "java/lang/String")) (by decide) (by decide)))).ext E8)
        have E := ((E.keep K6).ext E8)
        refine X9.putF (host := "") (Or.inl (hw _ (List.mem_of_getElem? (i := 96) rfl))) Via.refl F_addressStart E (Or.inr ⟨(hw _ (List.mem_of_getElem? (i := 97) rfl)), rfl, hnm⟩) (hw _ (List.mem_of_getElem? (i := 12) rfl)) (ty := .int) (by decide) rfl rfl (by omega) (Or.inl (List.mem_of_getElem? (i := 0) rfl)) (Sfe.exa E) (hb hby d9_61) ?_
        intro T10 h10 X10 K10 W10
        have z10 : h8.size ≤ h10.size := K10.1
        have F_addressStart_a := F_addressStart.same W10
        show Go pP eE bB _ T10 (mkF mM 64 #[.val (.ref a), .val (.ref x), .val (.int z)] [])
        refine Go.of (T' := T10) (g' := (mkF mM 65 #[.val (.ref a), .val (.ref x), .val (.int z)] [(.ref a)])) (fun _ k => XS.aloadN X10.hh X10.hx rfl (hb hby d9_64) rfl rfl k) ?_
        refine Go.of (T' := T10) (g' := (mkF mM 66 #[.val (.ref a), .val (.ref x), .val (.int z)] [(.int z), (.ref a)])) (fun _ k => XS.iloadN X10.hh X10.hx rfl (hb hby d9_65) rfl k) ?_
        have F_trimmedEnd := (((F_trimmedEnd.other W6 (Or.inr (slot_ne (a0 := a0) (Or.inr (hw _ (List.mem_of_getElem? (i := 99) rfl))) (Or.inr (hw _ (List.mem_of_getElem? (i := 95) rfl))) (by decide) (t := .int) (t' := (.object "java/lang/String")) (by decide) (by decide)))).ext E8).other W10 (Or.inr (slot_ne (a0 := a0) (Or.inr (hw _ (List.mem_of_getElem? (i := 99) rfl))) (Or.inr (hw _ (List.mem_of_getElem? (i := 97) rfl))) (by decide) (t := .int) (t' := .int) (by decide) (by decide))))
        have E := (E.keep K10)
        refine X10.putF (host := "") (Or.inl (hw _ (List.mem_of_getElem? (i := 98) rfl))) Via.refl F_trimmedEnd E (Or.inr ⟨(hw _ (List.mem_of_getElem? (i := 99) rfl)), rfl, hnm⟩) (hw _ (List.mem_of_getElem? (i := 12) rfl)) (ty := .int) (by decide) rfl rfl (by omega) (Or.inl (List.mem_of_getElem? (i := 0) rfl)) (Sfe.exa E) (hb hby d9_66) ?_
        intro T11 h11 X11 K11 W11
        have z11 : h10.size ≤ h11.size := K11.1
        have F_trimmedEnd_a := F_trimmedEnd.same W11
        show Go pP eE bB _ T11 (mkF mM 69 #[.val (.ref a), .val (.ref x), .val (.int z)] [])
        refine Go.of (T' := T11) (g' := (mkF mM 70 #[.val (.ref a), .val (.ref x), .val (.int z)] [(.ref a)])) (fun _ k => XS.aloadN X11.hh X11.hx rfl (hb hby d9_69) rfl rfl k) ?_
        refine Go.of (T' := T11) (g' := (mkF mM 71 #[.val (.ref a), .val (.ref x), .val (.int z)] [(.ref x), (.ref a)])) (fun _ k => XS.aloadN X11.hh X11.hx rfl (hb hby d9_70) rfl rfl k) ?_
        refine Go.of (T' := T11) (g' := (mkF mM 73 #[.val (.ref a), .val (.ref x), .val (.int z)] [(.int (35 : Int32)), (.ref x), (.ref a)])) (fun _ k => XS.bipush X11.hh X11.hx rfl (hb hby d9_71) k) ?_
        refine Go.of (T' := T11) (g' := (mkF mM 74 #[.val (.ref a), .val (.ref x), .val (.int z)] [(.ref a), (.int (35 : Int32)), (.ref x), (.ref a)])) (fun _ k => XS.aloadN X11.hh X11.hx rfl (hb hby d9_73) rfl rfl k) ?_
        have F_addressStart_a := (F_addressStart_a.other W11 (Or.inr (slot_ne (a0 := a0) (Or.inr (hw _ (List.mem_of_getElem? (i := 97) rfl))) (Or.inr (hw _ (List.mem_of_getElem? (i := 99) rfl))) (by decide) (t := .int) (t' := .int) (by decide) (by decide))))
        refine X11.getF (host := "") (Or.inl (hw _ (List.mem_of_getElem? (i := 96) rfl))) Via.refl F_addressStart_a (hb hby d9_74) ?_
        intro T12 X12
        show Go pP eE bB _ T12 (mkF mM 77 #[.val (.ref a), .val (.ref x), .val (.int z)] [(.int (Int32.ofNat (r + 7))), (.int (35 : Int32)), (.ref x), (.ref a)])
        refine Go.of (T' := T12) (g' := (mkF mM 78 #[.val (.ref a), .val (.ref x), .val (.int z)] [(.int z), (.int (Int32.ofNat (r + 7))), (.int (35 : Int32)), (.ref x), (.ref a)])) (fun _ k => XS.iloadN X12.hh X12.hx rfl (hb hby d9_77) rfl k) ?_
        have hi7 : r + 7 ≤ i := trim_7 hB hall hfr hle
        have S := (((S.ext E8).keep K10 (ninN (by omega) nin0) (ninN (by omega) nin0)).keep K11 (ninN (by omega) nin0) (ninN (by omega) nin0))
        rw [hz]
        show Go pP eE bB _ T12 (mkF mM 78 #[.val (.ref a), .val (.ref x), .val (.int (Int32.ofNat i))] [(.int (Int32.ofNat i)), (.int (Int32.ofNat (r + 7))), (.int (35 : Int32)), (.ref x), (.ref a)])
        refine X12.callS (W := 1) (argsL := [(.ref x), (.int (35 : Int32)), (.int (Int32.ofNat (r + 7))), (.int (Int32.ofNat i))]) (rest := [(.ref a)]) (hw _ (List.mem_of_getElem? (i := 100) rfl)) (hw _ (List.mem_of_getElem? (i := 101) rfl)) (hw _ (List.mem_of_getElem? (i := 13) rfl)) (hw _ (List.mem_of_getElem? (i := 102) rfl)) (by decide) (index_of l Z a0 G x t kb cs 35 (r + 7) i h11 S hi7 hle) pd_6 rfl rfl rfl (by rw [hml]; rfl) (by decide) (by decide) (by decide) (by decide) (hb hby d9_78) all0 all0 ?_
        intro v13 T13 h13 S13 X13 K13 Q13
        have X13 := X13 [] all0
        obtain ⟨ee, rfl, he1, he2, he3, he4, e13⟩ := Q13
        rw [e13] at X13
        show Go pP eE bB _ T13 (mkF mM 81 #[.val (.ref a), .val (.ref x), .val (.int (Int32.ofNat i))] [(.int (Int32.ofNat ee)), (.ref a)])
        have F_end := ((((F_end.other W6 (Or.inr (slot_ne (a0 := a0) (Or.inr (hw _ (List.mem_of_getElem? (i := 104) rfl))) (Or.inr (hw _ (List.mem_of_getElem? (i := 95) rfl))) (by decide) (t := .int) (t' := (.object "java/lang/String")) (by decide) (by decide)))).ext E8).other W10 (Or.inr (slot_ne (a0 := a0) (Or.inr (hw _ (List.mem_of_getElem? (i := 104) rfl))) (Or.inr (hw _ (List.mem_of_getElem? (i := 97) rfl))) (by decide) (t := .int) (t' := .int) (by decide) (by decide)))).other W11 (Or.inr (slot_ne (a0 := a0) (Or.inr (hw _ (List.mem_of_getElem? (i := 104) rfl))) (Or.inr (hw _ (List.mem_of_getElem? (i := 99) rfl))) (by decide) (t := .int) (t' := .int) (by decide) (by decide))))
        have E := (E.keep K11)
        refine X13.putF (host := "") (Or.inl (hw _ (List.mem_of_getElem? (i := 103) rfl))) Via.refl F_end E (Or.inr ⟨(hw _ (List.mem_of_getElem? (i := 104) rfl)), rfl, hnm⟩) (hw _ (List.mem_of_getElem? (i := 12) rfl)) (ty := .int) (by decide) rfl rfl (by omega) (Or.inl (List.mem_of_getElem? (i := 0) rfl)) (Sfe.exa E) (hb hby d9_81) ?_
        intro T14 h14 X14 K14 W14
        have z14 : h11.size ≤ h14.size := K14.1
        have F_end_a := F_end.same W14
        show Go pP eE bB _ T14 (mkF mM 84 #[.val (.ref a), .val (.ref x), .val (.int (Int32.ofNat i))] [])
        refine Go.of (T' := T14) (g' := (mkF mM 85 #[.val (.ref a), .val (.ref x), .val (.int (Int32.ofNat i))] [(.ref a)])) (fun _ k => XS.aloadN X14.hh X14.hx rfl (hb hby d9_84) rfl rfl k) ?_
        refine Go.of (T' := T14) (g' := (mkF mM 86 #[.val (.ref a), .val (.ref x), .val (.int (Int32.ofNat i))] [(.ref x), (.ref a)])) (fun _ k => XS.aloadN X14.hh X14.hx rfl (hb hby d9_85) rfl rfl k) ?_
        refine Go.of (T' := T14) (g' := (mkF mM 88 #[.val (.ref a), .val (.ref x), .val (.int (Int32.ofNat i))] [(.int (63 : Int32)), (.ref x), (.ref a)])) (fun _ k => XS.bipush X14.hh X14.hx rfl (hb hby d9_86) k) ?_
        refine Go.of (T' := T14) (g' := (mkF mM 89 #[.val (.ref a), .val (.ref x), .val (.int (Int32.ofNat i))] [(.ref a), (.int (63 : Int32)), (.ref x), (.ref a)])) (fun _ k => XS.aloadN X14.hh X14.hx rfl (hb hby d9_88) rfl rfl k) ?_
        have F_addressStart_a := (F_addressStart_a.other W14 (Or.inr (slot_ne (a0 := a0) (Or.inr (hw _ (List.mem_of_getElem? (i := 97) rfl))) (Or.inr (hw _ (List.mem_of_getElem? (i := 104) rfl))) (by decide) (t := .int) (t' := .int) (by decide) (by decide))))
        refine X14.getF (host := "") (Or.inl (hw _ (List.mem_of_getElem? (i := 96) rfl))) Via.refl F_addressStart_a (hb hby d9_89) ?_
        intro T15 X15
        show Go pP eE bB _ T15 (mkF mM 92 #[.val (.ref a), .val (.ref x), .val (.int (Int32.ofNat i))] [(.int (Int32.ofNat (r + 7))), (.int (63 : Int32)), (.ref x), (.ref a)])
        refine Go.of (T' := T15) (g' := (mkF mM 93 #[.val (.ref a), .val (.ref x), .val (.int (Int32.ofNat i))] [(.ref a), (.int (Int32.ofNat (r + 7))), (.int (63 : Int32)), (.ref x), (.ref a)])) (fun _ k => XS.aloadN X15.hh X15.hx rfl (hb hby d9_92) rfl rfl k) ?_
        refine X15.getF (host := "") (Or.inl (hw _ (List.mem_of_getElem? (i := 103) rfl))) Via.refl F_end_a (hb hby d9_93) ?_
        intro T16 X16
        show Go pP eE bB _ T16 (mkF mM 96 #[.val (.ref a), .val (.ref x), .val (.int (Int32.ofNat i))] [(.int (Int32.ofNat ee)), (.int (Int32.ofNat (r + 7))), (.int (63 : Int32)), (.ref x), (.ref a)])
        have S := (S.keep K14 (ninN (by omega) nin0) (ninN (by omega) nin0))
        refine X16.callS (W := 1) (argsL := [(.ref x), (.int (63 : Int32)), (.int (Int32.ofNat (r + 7))), (.int (Int32.ofNat ee))]) (rest := [(.ref a)]) (hw _ (List.mem_of_getElem? (i := 100) rfl)) (hw _ (List.mem_of_getElem? (i := 101) rfl)) (hw _ (List.mem_of_getElem? (i := 13) rfl)) (hw _ (List.mem_of_getElem? (i := 102) rfl)) (by decide) (index_of l Z a0 G x t kb cs 63 (r + 7) ee h14 S he1 (by omega)) pd_6 rfl rfl rfl (by rw [hml]; rfl) (by decide) (by decide) (by decide) (by decide) (hb hby d9_96) all0 all0 ?_
        intro v17 T17 h17 S17 X17 K17 Q17
        have X17 := X17 [] all0
        obtain ⟨ae, rfl, ha1, ha2, ha3, ha4, e17⟩ := Q17
        rw [e17] at X17
        show Go pP eE bB _ T17 (mkF mM 99 #[.val (.ref a), .val (.ref x), .val (.int (Int32.ofNat i))] [(.int (Int32.ofNat ae)), (.ref a)])
        have F_addressEnd := (((((F_addressEnd.other W6 (Or.inr (slot_ne (a0 := a0) (Or.inr (hw _ (List.mem_of_getElem? (i := 106) rfl))) (Or.inr (hw _ (List.mem_of_getElem? (i := 95) rfl))) (by decide) (t := .int) (t' := (.object "java/lang/String")) (by decide) (by decide)))).ext E8).other W10 (Or.inr (slot_ne (a0 := a0) (Or.inr (hw _ (List.mem_of_getElem? (i := 106) rfl))) (Or.inr (hw _ (List.mem_of_getElem? (i := 97) rfl))) (by decide) (t := .int) (t' := .int) (by decide) (by decide)))).other W11 (Or.inr (slot_ne (a0 := a0) (Or.inr (hw _ (List.mem_of_getElem? (i := 106) rfl))) (Or.inr (hw _ (List.mem_of_getElem? (i := 99) rfl))) (by decide) (t := .int) (t' := .int) (by decide) (by decide)))).other W14 (Or.inr (slot_ne (a0 := a0) (Or.inr (hw _ (List.mem_of_getElem? (i := 106) rfl))) (Or.inr (hw _ (List.mem_of_getElem? (i := 104) rfl))) (by decide) (t := .int) (t' := .int) (by decide) (by decide))))
        have E := (E.keep K14)
        refine X17.putF (host := "") (Or.inl (hw _ (List.mem_of_getElem? (i := 105) rfl))) Via.refl F_addressEnd E (Or.inr ⟨(hw _ (List.mem_of_getElem? (i := 106) rfl)), rfl, hnm⟩) (hw _ (List.mem_of_getElem? (i := 12) rfl)) (ty := .int) (by decide) rfl rfl (by omega) (Or.inl (List.mem_of_getElem? (i := 0) rfl)) (Sfe.exa E) (hb hby d9_99) ?_
        intro T18 h18 X18 K18 W18
        have z18 : h14.size ≤ h18.size := K18.1
        have F_addressEnd_a := F_addressEnd.same W18
        show Go pP eE bB _ T18 (mkF mM 102 #[.val (.ref a), .val (.ref x), .val (.int (Int32.ofNat i))] [])
        have E := (E.keep K18)
        have F_end_a := (F_end_a.other W18 (Or.inr (slot_ne (a0 := a0) (Or.inr (hw _ (List.mem_of_getElem? (i := 104) rfl))) (Or.inr (hw _ (List.mem_of_getElem? (i := 106) rfl))) (by decide) (t := .int) (t' := .int) (by decide) (by decide))))
        exact X18.vret hret hlk (by decide) (by decide) (hb hby d9_102) (fun S hS => ⟨rfl, ee, ae, E, F_end_a, F_addressEnd_a, by omega, by omega, hf_iff hi7 hle hB he1 he2 he3 he4 ha1 ha2 ha3 ha4⟩)
  exact loop _ cs.length _ _ rfl rfl (by omega) (Nat.le_refl _) (fun j hj hj' => absurd hj (by omega)) X3
def Q_has_fields (Z : State) (a : Nat) (ee ae : Nat) (h0 : Heap) : Option Value → (Addr → Prop) → Heap → Prop := fun v _ h => ((v = some (.int 1) ∧ ae < ee) ∨ (v = some (.int 0) ∧ ¬ ae < ee)) ∧ h = h0
theorem ef_has_fields (m : MethodId) (a : Nat) (ee ae : Nat) : entryFrame m #[(.ref a)] 1 = mkF m 0 #[.val (.ref a)] [] := by first | (simp [entryFrame, mkF, argsToLocals, Value.category]; done) | rfl
set_option maxRecDepth 65536 in
set_option maxHeartbeats 40000000 in
theorem has_fields (l : Launch) (Z : State) (a0 : Array Value) (G : Wld Z a0) (a : Nat) (ee ae : Nat) (h0 : Heap) (Fe : Fld Z h0 a "com/example/hfields/hfields/LinkCut" "end" "I" (.int (Int32.ofNat ee))) (Fa : Fld Z h0 a "com/example/hfields/hfields/LinkCut" "addressEnd" "I" (.int (Int32.ofNat ae))) (h1 : ee ≤ 4000) (h2 : ae ≤ 4000) :
    Met l Z consts_1 (⟨"com/example/hfields/hfields/LinkCut", "hasFields", "()Z"⟩ : MethodName) prog_23_method_8_code 1 (some .boolean) ({ frames := 0, cells := 0, slots := 0, locals := 0 } : Room) #[(.ref a)] h0 [] [] (Q_has_fields Z a ee ae h0) := by
  have hw := G.1
  have hEL := G.2.1
  refine Met.intro (a0 := a0) hEL pn_0 ?_
  intro pP eE sS mM bB mE cC T0 X0 hml hby hret hnm hlk hs0
  have hz0 : sS.heap.size = h0.size := by rw [hs0]
  have n0 : Z.heap.size ≤ h0.size := X0.ext0.1
  refine Go.cast (ef_has_fields mM a ee ae) ?_
  refine Go.of (T' := T0) (g' := (mkF mM 1 #[.val (.ref a)] [(.ref a)])) (fun _ k => XS.aloadN X0.hh X0.hx rfl (hb hby d22_0) rfl rfl k) ?_
  refine X0.getF (host := "") (Or.inl (hw _ (List.mem_of_getElem? (i := 105) rfl))) Via.refl Fa (hb hby d22_1) ?_
  intro T1 X1
  show Go pP eE bB _ T1 (mkF mM 4 #[.val (.ref a)] [(.int (Int32.ofNat ae))])
  refine Go.of (T' := T1) (g' := (mkF mM 5 #[.val (.ref a)] [(.ref a), (.int (Int32.ofNat ae))])) (fun _ k => XS.aloadN X1.hh X1.hx rfl (hb hby d22_4) rfl rfl k) ?_
  refine X1.getF (host := "") (Or.inl (hw _ (List.mem_of_getElem? (i := 103) rfl))) Via.refl Fe (hb hby d22_5) ?_
  intro T2 X2
  show Go pP eE bB _ T2 (mkF mM 8 #[.val (.ref a)] [(.int (Int32.ofNat ee)), (.int (Int32.ofNat ae))])
  by_cases hc8 : (Int32.ofNat ae) < (Int32.ofNat ee)
  · refine Go.of (T' := T2) (g' := (mkF mM 11 #[.val (.ref a)] [])) (fun _ k => XS.icmpNo X2.hh X2.hx rfl (hb hby d22_8) rfl (tlt hc8).2.1 k) ?_
    refine Go.of (T' := T2) (g' := (mkF mM 12 #[.val (.ref a)] [(.int (1 : Int32))])) (fun _ k => XS.iconst X2.hh X2.hx rfl (hb hby d22_11) k) ?_
    refine Go.of (T' := T2) (g' := (mkF mM 16 #[.val (.ref a)] [(.int (1 : Int32))])) (fun _ k => XS.goto X2.hh X2.hx rfl (pc0 := 12) (pc' := 16) rfl (hb hby d22_12) (by decide) (by decide) k) ?_
    exact X2.nret (t := .boolean) hret (by simp) hlk (by decide) (by decide) (hb hby d22_16) (fun S hS => ⟨Or.inl ⟨rfl, (i32lt (by omega) (by omega)).mp hc8⟩, rfl⟩)
  · refine Go.of (T' := T2) (g' := (mkF mM 15 #[.val (.ref a)] [])) (fun _ k => XS.icmpYes X2.hh X2.hx rfl (pc0 := 8) (pc' := 15) rfl (hb hby d22_8) rfl (flt hc8).2.1 (by decide) (by decide) k) ?_
    refine Go.of (T' := T2) (g' := (mkF mM 16 #[.val (.ref a)] [(.int (0 : Int32))])) (fun _ k => XS.iconst X2.hh X2.hx rfl (hb hby d22_15) k) ?_
    exact X2.nret (t := .boolean) hret (by simp) hlk (by decide) (by decide) (hb hby d22_16) (fun S hS => ⟨Or.inr ⟨rfl, fun q => hc8 ((i32lt (by omega) (by omega)).mpr q)⟩, rfl⟩)

theorem tab8 {x : Int32} (h0 : ¬ x < 0) (h1 : x < 8) : x.toNatClampNeg < 8 := by
  have e : (0 : Int32).toInt = 0 := rfl
  have e8 : (8 : Int32).toInt = 8 := rfl
  rw [Int32.lt_iff_toInt_lt] at h0 h1
  show x.toInt.toNat < 8
  omega
theorem tabv (k : Nat) (h : k < 8) : ∃ d : Int32, ([.int 63, .int 35, .int 32, .int 97, .int 9, .int 38, .int 13, .int 10] : List Value).getD k (.int 0) = .int d ∧ ¬ d < 0 ∧ ¬ (255 : Int32) < d := by
  match k, h with
  | 0, _ => exact ⟨63, rfl, by decide, by decide⟩
  | 1, _ => exact ⟨35, rfl, by decide, by decide⟩
  | 2, _ => exact ⟨32, rfl, by decide, by decide⟩
  | 3, _ => exact ⟨97, rfl, by decide, by decide⟩
  | 4, _ => exact ⟨9, rfl, by decide, by decide⟩
  | 5, _ => exact ⟨38, rfl, by decide, by decide⟩
  | 6, _ => exact ⟨13, rfl, by decide, by decide⟩
  | 7, _ => exact ⟨10, rfl, by decide, by decide⟩
  | k + 8, h => exact absurd h (by omega)

def Q_pick_rm (Z : State) (vv : Int32) (h0 : Heap) : Option Value → (Addr → Prop) → Heap → Prop := fun v _ h => ∃ d : Int32, v = some (.int d) ∧ ¬ d < 0 ∧ ¬ (255 : Int32) < d
theorem ef_pick_rm (m : MethodId) (vv : Int32) : entryFrame m #[(.int vv)] 3 = mkF m 0 #[.val (.int vv), .unset, .unset] [] := by first | (simp [entryFrame, mkF, argsToLocals, Value.category]; done) | rfl
set_option maxRecDepth 65536 in
set_option maxHeartbeats 40000000 in
theorem pick_rm (l : Launch) (Z : State) (a0 : Array Value) (G : Wld Z a0) (vv : Int32) (h0 : Heap)  :
    Met l Z consts_1 (⟨"com/example/hfields/hfields/LinkCutHasFieldsPinLaw", "pick", "(I)C"⟩ : MethodName) method_3_code 3 (some .char) ({ frames := 0, cells := 1, slots := 8, locals := 0 } : Room) #[(.int vv)] h0 [] [] (Q_pick_rm Z vv h0) := by
  have hw := G.1
  have hEL := G.2.1
  refine Met.intro (a0 := a0) hEL pn_1 ?_
  intro pP eE sS mM bB mE cC T0 X0 hml hby hret hnm hlk hs0
  have hz0 : sS.heap.size = h0.size := by rw [hs0]
  have n0 : Z.heap.size ≤ h0.size := X0.ext0.1
  refine Go.cast (ef_pick_rm mM vv) ?_
  refine Go.of (T' := T0) (g' := (mkF mM 1 #[.val (.int vv), .unset, .unset] [(.int vv)])) (fun _ k => XS.iloadN X0.hh X0.hx rfl (hb hby d0_0) rfl k) ?_
  refine Go.of (T' := T0) (g' := (mkF mM 3 #[.val (.int vv), .unset, .unset] [(.int (15 : Int32)), (.int vv)])) (fun _ k => XS.bipush X0.hh X0.hx rfl (hb hby d0_1) k) ?_
  refine Go.of (T' := T0) (g' := (mkF mM 4 #[.val (.int vv), .unset, .unset] [(.int (vv &&& (15 : Int32)))])) (fun _ k => XS.iand X0.hh X0.hx rfl (hb hby d0_3) rfl k) ?_
  refine Go.of (T' := T0) (g' := (mkF mM 5 #[.val (.int vv), .val (.int (vv &&& (15 : Int32))), .unset] [])) (fun _ k => XS.istoreN X0.hh X0.hx rfl (hb hby d0_4) rfl (l' := #[.val (.int vv), .val (.int (vv &&& (15 : Int32))), .unset]) rfl k) ?_
  refine Go.of (T' := T0) (g' := (mkF mM 7 #[.val (.int vv), .val (.int (vv &&& (15 : Int32))), .unset] [(.int (8 : Int32))])) (fun _ k => XS.bipush X0.hh X0.hx rfl (hb hby d0_5) k) ?_
  refine X0.newP (cap := 8) (hw _ (List.mem_of_getElem? (i := 4) rfl)) (hb hby d0_7) (by decide) (by decide) (by decide) (by decide) (by decide) ?_
  intro T1 h1 b kc_b g_b X1 E1 V_b
  have z1 : h0.size ≤ h1.size := E1.1
  have l_b : b < h1.size := V_b.lt
  have V_b : Arv Z h1 b kc_b .char (8 : Int32) [(.int (0 : Int32)), (.int (0 : Int32)), (.int (0 : Int32)), (.int (0 : Int32)), (.int (0 : Int32)), (.int (0 : Int32)), (.int (0 : Int32)), (.int (0 : Int32))] (.int (0 : Int32)) := Arv.pad V_b (pad_rep [] _ 8)
  show Go pP eE bB _ T1 (mkF mM 9 #[.val (.int vv), .val (.int (vv &&& (15 : Int32))), .unset] [(.ref b)])
  refine Go.of (T' := T1) (g' := (mkF mM 10 #[.val (.int vv), .val (.int (vv &&& (15 : Int32))), .unset] [(.ref b), (.ref b)])) (fun _ k => XS.dup X1.hh X1.hx rfl (hb hby d0_9) rfl rfl k) ?_
  refine Go.of (T' := T1) (g' := (mkF mM 11 #[.val (.int vv), .val (.int (vv &&& (15 : Int32))), .unset] [(.int (0 : Int32)), (.ref b), (.ref b)])) (fun _ k => XS.iconst X1.hh X1.hx rfl (hb hby d0_10) k) ?_
  refine Go.of (T' := T1) (g' := (mkF mM 13 #[.val (.int vv), .val (.int (vv &&& (15 : Int32))), .unset] [(.int (63 : Int32)), (.int (0 : Int32)), (.ref b), (.ref b)])) (fun _ k => XS.bipush X1.hh X1.hx rfl (hb hby d0_11) k) ?_
  refine X1.stC 0 V_b (by decide) rfl (Nat.le_of_ble_eq_true rfl) (by omega) (Or.inr (by omega)) (hb hby d0_13) ?_
  intro T2 h2 X2 K2 V_b
  have z2 : h1.size ≤ h2.size := K2.1
  have V_b : Arv Z h2 b kc_b .char (8 : Int32) [(.int (63 : Int32)), (.int (0 : Int32)), (.int (0 : Int32)), (.int (0 : Int32)), (.int (0 : Int32)), (.int (0 : Int32)), (.int (0 : Int32)), (.int (0 : Int32))] (.int (0 : Int32)) := by have q := V_b; rw [(by decide : nar .char (63 : Int32) = 63)] at q; exact q
  show Go pP eE bB _ T2 (mkF mM 14 #[.val (.int vv), .val (.int (vv &&& (15 : Int32))), .unset] [(.ref b)])
  refine Go.of (T' := T2) (g' := (mkF mM 15 #[.val (.int vv), .val (.int (vv &&& (15 : Int32))), .unset] [(.ref b), (.ref b)])) (fun _ k => XS.dup X2.hh X2.hx rfl (hb hby d0_14) rfl rfl k) ?_
  refine Go.of (T' := T2) (g' := (mkF mM 16 #[.val (.int vv), .val (.int (vv &&& (15 : Int32))), .unset] [(.int (1 : Int32)), (.ref b), (.ref b)])) (fun _ k => XS.iconst X2.hh X2.hx rfl (hb hby d0_15) k) ?_
  refine Go.of (T' := T2) (g' := (mkF mM 18 #[.val (.int vv), .val (.int (vv &&& (15 : Int32))), .unset] [(.int (35 : Int32)), (.int (1 : Int32)), (.ref b), (.ref b)])) (fun _ k => XS.bipush X2.hh X2.hx rfl (hb hby d0_16) k) ?_
  refine X2.stC 1 V_b (by decide) rfl (Nat.le_of_ble_eq_true rfl) (by omega) (Or.inr (by omega)) (hb hby d0_18) ?_
  intro T3 h3 X3 K3 V_b
  have z3 : h2.size ≤ h3.size := K3.1
  have V_b : Arv Z h3 b kc_b .char (8 : Int32) [(.int (63 : Int32)), (.int (35 : Int32)), (.int (0 : Int32)), (.int (0 : Int32)), (.int (0 : Int32)), (.int (0 : Int32)), (.int (0 : Int32)), (.int (0 : Int32))] (.int (0 : Int32)) := by have q := V_b; rw [(by decide : nar .char (35 : Int32) = 35)] at q; exact q
  show Go pP eE bB _ T3 (mkF mM 19 #[.val (.int vv), .val (.int (vv &&& (15 : Int32))), .unset] [(.ref b)])
  refine Go.of (T' := T3) (g' := (mkF mM 20 #[.val (.int vv), .val (.int (vv &&& (15 : Int32))), .unset] [(.ref b), (.ref b)])) (fun _ k => XS.dup X3.hh X3.hx rfl (hb hby d0_19) rfl rfl k) ?_
  refine Go.of (T' := T3) (g' := (mkF mM 21 #[.val (.int vv), .val (.int (vv &&& (15 : Int32))), .unset] [(.int (2 : Int32)), (.ref b), (.ref b)])) (fun _ k => XS.iconst X3.hh X3.hx rfl (hb hby d0_20) k) ?_
  refine Go.of (T' := T3) (g' := (mkF mM 23 #[.val (.int vv), .val (.int (vv &&& (15 : Int32))), .unset] [(.int (32 : Int32)), (.int (2 : Int32)), (.ref b), (.ref b)])) (fun _ k => XS.bipush X3.hh X3.hx rfl (hb hby d0_21) k) ?_
  refine X3.stC 2 V_b (by decide) rfl (Nat.le_of_ble_eq_true rfl) (by omega) (Or.inr (by omega)) (hb hby d0_23) ?_
  intro T4 h4 X4 K4 V_b
  have z4 : h3.size ≤ h4.size := K4.1
  have V_b : Arv Z h4 b kc_b .char (8 : Int32) [(.int (63 : Int32)), (.int (35 : Int32)), (.int (32 : Int32)), (.int (0 : Int32)), (.int (0 : Int32)), (.int (0 : Int32)), (.int (0 : Int32)), (.int (0 : Int32))] (.int (0 : Int32)) := by have q := V_b; rw [(by decide : nar .char (32 : Int32) = 32)] at q; exact q
  show Go pP eE bB _ T4 (mkF mM 24 #[.val (.int vv), .val (.int (vv &&& (15 : Int32))), .unset] [(.ref b)])
  refine Go.of (T' := T4) (g' := (mkF mM 25 #[.val (.int vv), .val (.int (vv &&& (15 : Int32))), .unset] [(.ref b), (.ref b)])) (fun _ k => XS.dup X4.hh X4.hx rfl (hb hby d0_24) rfl rfl k) ?_
  refine Go.of (T' := T4) (g' := (mkF mM 26 #[.val (.int vv), .val (.int (vv &&& (15 : Int32))), .unset] [(.int (3 : Int32)), (.ref b), (.ref b)])) (fun _ k => XS.iconst X4.hh X4.hx rfl (hb hby d0_25) k) ?_
  refine Go.of (T' := T4) (g' := (mkF mM 28 #[.val (.int vv), .val (.int (vv &&& (15 : Int32))), .unset] [(.int (97 : Int32)), (.int (3 : Int32)), (.ref b), (.ref b)])) (fun _ k => XS.bipush X4.hh X4.hx rfl (hb hby d0_26) k) ?_
  refine X4.stC 3 V_b (by decide) rfl (Nat.le_of_ble_eq_true rfl) (by omega) (Or.inr (by omega)) (hb hby d0_28) ?_
  intro T5 h5 X5 K5 V_b
  have z5 : h4.size ≤ h5.size := K5.1
  have V_b : Arv Z h5 b kc_b .char (8 : Int32) [(.int (63 : Int32)), (.int (35 : Int32)), (.int (32 : Int32)), (.int (97 : Int32)), (.int (0 : Int32)), (.int (0 : Int32)), (.int (0 : Int32)), (.int (0 : Int32))] (.int (0 : Int32)) := by have q := V_b; rw [(by decide : nar .char (97 : Int32) = 97)] at q; exact q
  show Go pP eE bB _ T5 (mkF mM 29 #[.val (.int vv), .val (.int (vv &&& (15 : Int32))), .unset] [(.ref b)])
  refine Go.of (T' := T5) (g' := (mkF mM 30 #[.val (.int vv), .val (.int (vv &&& (15 : Int32))), .unset] [(.ref b), (.ref b)])) (fun _ k => XS.dup X5.hh X5.hx rfl (hb hby d0_29) rfl rfl k) ?_
  refine Go.of (T' := T5) (g' := (mkF mM 31 #[.val (.int vv), .val (.int (vv &&& (15 : Int32))), .unset] [(.int (4 : Int32)), (.ref b), (.ref b)])) (fun _ k => XS.iconst X5.hh X5.hx rfl (hb hby d0_30) k) ?_
  refine Go.of (T' := T5) (g' := (mkF mM 33 #[.val (.int vv), .val (.int (vv &&& (15 : Int32))), .unset] [(.int (9 : Int32)), (.int (4 : Int32)), (.ref b), (.ref b)])) (fun _ k => XS.bipush X5.hh X5.hx rfl (hb hby d0_31) k) ?_
  refine X5.stC 4 V_b (by decide) rfl (Nat.le_of_ble_eq_true rfl) (by omega) (Or.inr (by omega)) (hb hby d0_33) ?_
  intro T6 h6 X6 K6 V_b
  have z6 : h5.size ≤ h6.size := K6.1
  have V_b : Arv Z h6 b kc_b .char (8 : Int32) [(.int (63 : Int32)), (.int (35 : Int32)), (.int (32 : Int32)), (.int (97 : Int32)), (.int (9 : Int32)), (.int (0 : Int32)), (.int (0 : Int32)), (.int (0 : Int32))] (.int (0 : Int32)) := by have q := V_b; rw [(by decide : nar .char (9 : Int32) = 9)] at q; exact q
  show Go pP eE bB _ T6 (mkF mM 34 #[.val (.int vv), .val (.int (vv &&& (15 : Int32))), .unset] [(.ref b)])
  refine Go.of (T' := T6) (g' := (mkF mM 35 #[.val (.int vv), .val (.int (vv &&& (15 : Int32))), .unset] [(.ref b), (.ref b)])) (fun _ k => XS.dup X6.hh X6.hx rfl (hb hby d0_34) rfl rfl k) ?_
  refine Go.of (T' := T6) (g' := (mkF mM 36 #[.val (.int vv), .val (.int (vv &&& (15 : Int32))), .unset] [(.int (5 : Int32)), (.ref b), (.ref b)])) (fun _ k => XS.iconst X6.hh X6.hx rfl (hb hby d0_35) k) ?_
  refine Go.of (T' := T6) (g' := (mkF mM 38 #[.val (.int vv), .val (.int (vv &&& (15 : Int32))), .unset] [(.int (38 : Int32)), (.int (5 : Int32)), (.ref b), (.ref b)])) (fun _ k => XS.bipush X6.hh X6.hx rfl (hb hby d0_36) k) ?_
  refine X6.stC 5 V_b (by decide) rfl (Nat.le_of_ble_eq_true rfl) (by omega) (Or.inr (by omega)) (hb hby d0_38) ?_
  intro T7 h7 X7 K7 V_b
  have z7 : h6.size ≤ h7.size := K7.1
  have V_b : Arv Z h7 b kc_b .char (8 : Int32) [(.int (63 : Int32)), (.int (35 : Int32)), (.int (32 : Int32)), (.int (97 : Int32)), (.int (9 : Int32)), (.int (38 : Int32)), (.int (0 : Int32)), (.int (0 : Int32))] (.int (0 : Int32)) := by have q := V_b; rw [(by decide : nar .char (38 : Int32) = 38)] at q; exact q
  show Go pP eE bB _ T7 (mkF mM 39 #[.val (.int vv), .val (.int (vv &&& (15 : Int32))), .unset] [(.ref b)])
  refine Go.of (T' := T7) (g' := (mkF mM 40 #[.val (.int vv), .val (.int (vv &&& (15 : Int32))), .unset] [(.ref b), (.ref b)])) (fun _ k => XS.dup X7.hh X7.hx rfl (hb hby d0_39) rfl rfl k) ?_
  refine Go.of (T' := T7) (g' := (mkF mM 42 #[.val (.int vv), .val (.int (vv &&& (15 : Int32))), .unset] [(.int (6 : Int32)), (.ref b), (.ref b)])) (fun _ k => XS.bipush X7.hh X7.hx rfl (hb hby d0_40) k) ?_
  refine Go.of (T' := T7) (g' := (mkF mM 44 #[.val (.int vv), .val (.int (vv &&& (15 : Int32))), .unset] [(.int (13 : Int32)), (.int (6 : Int32)), (.ref b), (.ref b)])) (fun _ k => XS.bipush X7.hh X7.hx rfl (hb hby d0_42) k) ?_
  refine X7.stC 6 V_b (by decide) rfl (Nat.le_of_ble_eq_true rfl) (by omega) (Or.inr (by omega)) (hb hby d0_44) ?_
  intro T8 h8 X8 K8 V_b
  have z8 : h7.size ≤ h8.size := K8.1
  have V_b : Arv Z h8 b kc_b .char (8 : Int32) [(.int (63 : Int32)), (.int (35 : Int32)), (.int (32 : Int32)), (.int (97 : Int32)), (.int (9 : Int32)), (.int (38 : Int32)), (.int (13 : Int32)), (.int (0 : Int32))] (.int (0 : Int32)) := by have q := V_b; rw [(by decide : nar .char (13 : Int32) = 13)] at q; exact q
  show Go pP eE bB _ T8 (mkF mM 45 #[.val (.int vv), .val (.int (vv &&& (15 : Int32))), .unset] [(.ref b)])
  refine Go.of (T' := T8) (g' := (mkF mM 46 #[.val (.int vv), .val (.int (vv &&& (15 : Int32))), .unset] [(.ref b), (.ref b)])) (fun _ k => XS.dup X8.hh X8.hx rfl (hb hby d0_45) rfl rfl k) ?_
  refine Go.of (T' := T8) (g' := (mkF mM 48 #[.val (.int vv), .val (.int (vv &&& (15 : Int32))), .unset] [(.int (7 : Int32)), (.ref b), (.ref b)])) (fun _ k => XS.bipush X8.hh X8.hx rfl (hb hby d0_46) k) ?_
  refine Go.of (T' := T8) (g' := (mkF mM 50 #[.val (.int vv), .val (.int (vv &&& (15 : Int32))), .unset] [(.int (10 : Int32)), (.int (7 : Int32)), (.ref b), (.ref b)])) (fun _ k => XS.bipush X8.hh X8.hx rfl (hb hby d0_48) k) ?_
  refine X8.stC 7 V_b (by decide) rfl (Nat.le_of_ble_eq_true rfl) (by omega) (Or.inr (by omega)) (hb hby d0_50) ?_
  intro T9 h9 X9 K9 V_b
  have z9 : h8.size ≤ h9.size := K9.1
  have V_b : Arv Z h9 b kc_b .char (8 : Int32) [(.int (63 : Int32)), (.int (35 : Int32)), (.int (32 : Int32)), (.int (97 : Int32)), (.int (9 : Int32)), (.int (38 : Int32)), (.int (13 : Int32)), (.int (10 : Int32))] (.int (0 : Int32)) := by have q := V_b; rw [(by decide : nar .char (10 : Int32) = 10)] at q; exact q
  show Go pP eE bB _ T9 (mkF mM 51 #[.val (.int vv), .val (.int (vv &&& (15 : Int32))), .unset] [(.ref b)])
  refine Go.of (T' := T9) (g' := (mkF mM 52 #[.val (.int vv), .val (.int (vv &&& (15 : Int32))), .val (.ref b)] [])) (fun _ k => XS.astoreN X9.hh X9.hx rfl (hb hby d0_51) rfl rfl (l' := #[.val (.int vv), .val (.int (vv &&& (15 : Int32))), .val (.ref b)]) rfl k) ?_
  refine Go.of (T' := T9) (g' := (mkF mM 53 #[.val (.int vv), .val (.int (vv &&& (15 : Int32))), .val (.ref b)] [(.int (vv &&& (15 : Int32)))])) (fun _ k => XS.iloadN X9.hh X9.hx rfl (hb hby d0_52) rfl k) ?_
  refine Go.of (T' := T9) (g' := (mkF mM 55 #[.val (.int vv), .val (.int (vv &&& (15 : Int32))), .val (.ref b)] [(.int (8 : Int32)), (.int (vv &&& (15 : Int32)))])) (fun _ k => XS.bipush X9.hh X9.hx rfl (hb hby d0_53) k) ?_
  have h15 := and_nn vv 15 (by decide)
  by_cases hc55 : (vv &&& (15 : Int32)) < (8 : Int32)
  · refine Go.of (T' := T9) (g' := (mkF mM 58 #[.val (.int vv), .val (.int (vv &&& (15 : Int32))), .val (.ref b)] [])) (fun _ k => XS.icmpNo X9.hh X9.hx rfl (hb hby d0_55) rfl (tlt hc55).2.1 k) ?_
    refine Go.of (T' := T9) (g' := (mkF mM 59 #[.val (.int vv), .val (.int (vv &&& (15 : Int32))), .val (.ref b)] [(.ref b)])) (fun _ k => XS.aloadN X9.hh X9.hx rfl (hb hby d0_58) rfl rfl k) ?_
    refine Go.of (T' := T9) (g' := (mkF mM 60 #[.val (.int vv), .val (.int (vv &&& (15 : Int32))), .val (.ref b)] [(.int (vv &&& (15 : Int32))), (.ref b)])) (fun _ k => XS.iloadN X9.hh X9.hx rfl (hb hby d0_59) rfl k) ?_
    have h8 : (vv &&& 15).toNatClampNeg < 8 := tab8 h15.1 hc55
    obtain ⟨d, hd, hr⟩ := tabv _ h8
    refine X9.ldC V_b ⟨h15.1, hc55⟩ hd (hb hby d0_60) ?_
    show Go pP eE bB _ T9 (mkF mM 61 #[.val (.int vv), .val (.int (vv &&& (15 : Int32))), .val (.ref b)] [(.int d)])
    exact X9.nret (t := .char) hret (by simp) hlk (by decide) (by decide) (hb hby d0_61) (fun S hS => ⟨d, by rw [nar255 d hr.1 hr.2], hr⟩)
  · refine Go.of (T' := T9) (g' := (mkF mM 62 #[.val (.int vv), .val (.int (vv &&& (15 : Int32))), .val (.ref b)] [])) (fun _ k => XS.icmpYes X9.hh X9.hx rfl (pc0 := 55) (pc' := 62) rfl (hb hby d0_55) rfl (flt hc55).2.1 (by decide) (by decide) k) ?_
    refine Go.of (T' := T9) (g' := (mkF mM 63 #[.val (.int vv), .val (.int (vv &&& (15 : Int32))), .val (.ref b)] [(.int vv)])) (fun _ k => XS.iloadN X9.hh X9.hx rfl (hb hby d0_62) rfl k) ?_
    refine Go.of (T' := T9) (g' := (mkF mM 64 #[.val (.int vv), .val (.int (vv &&& (15 : Int32))), .val (.ref b)] [(.int (4 : Int32)), (.int vv)])) (fun _ k => XS.iconst X9.hh X9.hx rfl (hb hby d0_63) k) ?_
    refine Go.of (T' := T9) (g' := (mkF mM 65 #[.val (.int vv), .val (.int (vv &&& (15 : Int32))), .val (.ref b)] [(.int ((vv.toUInt32 >>> ((4 : Int32) &&& 31).toUInt32).toInt32))])) (fun _ k => XS.iushr X9.hh X9.hx rfl (hb hby d0_64) rfl k) ?_
    refine Go.of (T' := T9) (g' := (mkF mM 68 #[.val (.int vv), .val (.int (vv &&& (15 : Int32))), .val (.ref b)] [(.int (255 : Int32)), (.int ((vv.toUInt32 >>> ((4 : Int32) &&& 31).toUInt32).toInt32))])) (fun _ k => XS.sipush X9.hh X9.hx rfl (hb hby d0_65) k) ?_
    refine Go.of (T' := T9) (g' := (mkF mM 69 #[.val (.int vv), .val (.int (vv &&& (15 : Int32))), .val (.ref b)] [(.int (((vv.toUInt32 >>> ((4 : Int32) &&& 31).toUInt32).toInt32) &&& (255 : Int32)))])) (fun _ k => XS.iand X9.hh X9.hx rfl (hb hby d0_68) rfl k) ?_
    refine Go.of (T' := T9) (g' := (mkF mM 70 #[.val (.int vv), .val (.int (vv &&& (15 : Int32))), .val (.ref b)] [(.int ((((vv.toUInt32 >>> ((4 : Int32) &&& 31).toUInt32).toInt32) &&& (255 : Int32)).toUInt32.toUInt16.toUInt32.toInt32))])) (fun _ k => XS.i2c X9.hh X9.hx rfl (hb hby d0_69) rfl k) ?_
    exact X9.nret (t := .char) hret (by simp) hlk (by decide) (by decide) (hb hby d0_70) (fun S hS => ⟨_, rfl, by rw [c255, nar255 _ (r255 _).1 (r255 _).2]; exact r255 _⟩)
def Q_blank_of (Z : State) (i : Int32) (h0 : Heap) : Option Value → (Addr → Prop) → Heap → Prop := fun v _ h => ∃ b : Int32, v = some (.int b) ∧ blk b ∧ ¬ b < 0 ∧ ¬ (255 : Int32) < b ∧ h = h0
theorem ef_blank_of (m : MethodId) (i : Int32) : entryFrame m #[(.int i)] 1 = mkF m 0 #[.val (.int i)] [] := by first | (simp [entryFrame, mkF, argsToLocals, Value.category]; done) | rfl
set_option maxRecDepth 65536 in
set_option maxHeartbeats 40000000 in
theorem blank_of (l : Launch) (Z : State) (a0 : Array Value) (G : Wld Z a0) (i : Int32) (h0 : Heap)  :
    Met l Z consts_1 (⟨"com/example/hfields/hfields/LinkCutHasFieldsPinLaw", "blankOf", "(I)C"⟩ : MethodName) method_4_code 1 (some .char) ({ frames := 0, cells := 0, slots := 0, locals := 0 } : Room) #[(.int i)] h0 [] [] (Q_blank_of Z i h0) := by
  have hw := G.1
  have hEL := G.2.1
  refine Met.intro (a0 := a0) hEL pn_1 ?_
  intro pP eE sS mM bB mE cC T0 X0 hml hby hret hnm hlk hs0
  have hz0 : sS.heap.size = h0.size := by rw [hs0]
  have n0 : Z.heap.size ≤ h0.size := X0.ext0.1
  refine Go.cast (ef_blank_of mM i) ?_
  refine Go.of (T' := T0) (g' := (mkF mM 1 #[.val (.int i)] [(.int i)])) (fun _ k => XS.iloadN X0.hh X0.hx rfl (hb hby d1_0) rfl k) ?_
  by_cases hc1 : i = (0 : Int32)
  · refine Go.of (T' := T0) (g' := (mkF mM 4 #[.val (.int i)] [])) (fun _ k => XS.ifNo X0.hh X0.hx rfl (hb hby d1_1) rfl ((if0 _ _).trans (teq hc1).2) k) ?_
    refine Go.of (T' := T0) (g' := (mkF mM 6 #[.val (.int i)] [(.int (32 : Int32))])) (fun _ k => XS.bipush X0.hh X0.hx rfl (hb hby d1_4) k) ?_
    exact X0.nret (t := .char) hret (by simp) hlk (by decide) (by decide) (hb hby d1_6) (fun S hS => ⟨32, rfl, Or.inl rfl, by decide, by decide, rfl⟩)
  · refine Go.of (T' := T0) (g' := (mkF mM 7 #[.val (.int i)] [])) (fun _ k => XS.ifYes X0.hh X0.hx rfl (pc0 := 1) (pc' := 7) rfl (hb hby d1_1) rfl ((if0 _ _).trans (feq hc1).2) (by decide) (by decide) k) ?_
    refine Go.of (T' := T0) (g' := (mkF mM 8 #[.val (.int i)] [(.int i)])) (fun _ k => XS.iloadN X0.hh X0.hx rfl (hb hby d1_7) rfl k) ?_
    refine Go.of (T' := T0) (g' := (mkF mM 9 #[.val (.int i)] [(.int (1 : Int32)), (.int i)])) (fun _ k => XS.iconst X0.hh X0.hx rfl (hb hby d1_8) k) ?_
    by_cases hc9 : i = (1 : Int32)
    · refine Go.of (T' := T0) (g' := (mkF mM 12 #[.val (.int i)] [])) (fun _ k => XS.icmpNo X0.hh X0.hx rfl (hb hby d1_9) rfl (teq hc9).2 k) ?_
      refine Go.of (T' := T0) (g' := (mkF mM 14 #[.val (.int i)] [(.int (9 : Int32))])) (fun _ k => XS.bipush X0.hh X0.hx rfl (hb hby d1_12) k) ?_
      exact X0.nret (t := .char) hret (by simp) hlk (by decide) (by decide) (hb hby d1_14) (fun S hS => ⟨9, rfl, Or.inr (Or.inl rfl), by decide, by decide, rfl⟩)
    · refine Go.of (T' := T0) (g' := (mkF mM 15 #[.val (.int i)] [])) (fun _ k => XS.icmpYes X0.hh X0.hx rfl (pc0 := 9) (pc' := 15) rfl (hb hby d1_9) rfl (feq hc9).2 (by decide) (by decide) k) ?_
      refine Go.of (T' := T0) (g' := (mkF mM 16 #[.val (.int i)] [(.int i)])) (fun _ k => XS.iloadN X0.hh X0.hx rfl (hb hby d1_15) rfl k) ?_
      refine Go.of (T' := T0) (g' := (mkF mM 17 #[.val (.int i)] [(.int (2 : Int32)), (.int i)])) (fun _ k => XS.iconst X0.hh X0.hx rfl (hb hby d1_16) k) ?_
      by_cases hc17 : i = (2 : Int32)
      · refine Go.of (T' := T0) (g' := (mkF mM 20 #[.val (.int i)] [])) (fun _ k => XS.icmpNo X0.hh X0.hx rfl (hb hby d1_17) rfl (teq hc17).2 k) ?_
        refine Go.of (T' := T0) (g' := (mkF mM 22 #[.val (.int i)] [(.int (13 : Int32))])) (fun _ k => XS.bipush X0.hh X0.hx rfl (hb hby d1_20) k) ?_
        exact X0.nret (t := .char) hret (by simp) hlk (by decide) (by decide) (hb hby d1_22) (fun S hS => ⟨13, rfl, Or.inr (Or.inr (Or.inl rfl)), by decide, by decide, rfl⟩)
      · refine Go.of (T' := T0) (g' := (mkF mM 23 #[.val (.int i)] [])) (fun _ k => XS.icmpYes X0.hh X0.hx rfl (pc0 := 17) (pc' := 23) rfl (hb hby d1_17) rfl (feq hc17).2 (by decide) (by decide) k) ?_
        refine Go.of (T' := T0) (g' := (mkF mM 25 #[.val (.int i)] [(.int (10 : Int32))])) (fun _ k => XS.bipush X0.hh X0.hx rfl (hb hby d1_23) k) ?_
        exact X0.nret (t := .char) hret (by simp) hlk (by decide) (by decide) (hb hby d1_25) (fun S hS => ⟨10, rfl, Or.inr (Or.inr (Or.inr rfl)), by decide, by decide, rfl⟩)
def Q_letter_rm (Z : State) (cc k b : Int32) (h0 : Heap) : Option Value → (Addr → Prop) → Heap → Prop := fun v _ h => ∃ d : Int32, v = some (.int d) ∧ (d = cc ∨ d = cc - 32) ∧ h = h0
theorem ef_letter_rm (m : MethodId) (cc k b : Int32) : entryFrame m #[(.int cc), (.int k), (.int b)] 3 = mkF m 0 #[.val (.int cc), .val (.int k), .val (.int b)] [] := by first | (simp [entryFrame, mkF, argsToLocals, Value.category]; done) | rfl
set_option maxRecDepth 65536 in
set_option maxHeartbeats 40000000 in
theorem letter_rm (l : Launch) (Z : State) (a0 : Array Value) (G : Wld Z a0) (cc k b : Int32) (h0 : Heap) (h1 : nar .char cc = cc) (h2 : nar .char ((cc - 32).toUInt32.toUInt16.toUInt32.toInt32) = cc - 32) :
    Met l Z consts_1 (⟨"com/example/hfields/hfields/LinkCutHasFieldsPinLaw", "letter", "(CII)C"⟩ : MethodName) method_5_code 3 (some .char) ({ frames := 0, cells := 0, slots := 0, locals := 0 } : Room) #[(.int cc), (.int k), (.int b)] h0 [] [] (Q_letter_rm Z cc k b h0) := by
  have hw := G.1
  have hEL := G.2.1
  refine Met.intro (a0 := a0) hEL pn_1 ?_
  intro pP eE sS mM bB mE cC T0 X0 hml hby hret hnm hlk hs0
  have hz0 : sS.heap.size = h0.size := by rw [hs0]
  have n0 : Z.heap.size ≤ h0.size := X0.ext0.1
  refine Go.cast (ef_letter_rm mM cc k b) ?_
  refine Go.of (T' := T0) (g' := (mkF mM 1 #[.val (.int cc), .val (.int k), .val (.int b)] [(.int k)])) (fun _ k => XS.iloadN X0.hh X0.hx rfl (hb hby d2_0) rfl k) ?_
  refine Go.of (T' := T0) (g' := (mkF mM 2 #[.val (.int cc), .val (.int k), .val (.int b)] [(.int b), (.int k)])) (fun _ k => XS.iloadN X0.hh X0.hx rfl (hb hby d2_1) rfl k) ?_
  refine Go.of (T' := T0) (g' := (mkF mM 3 #[.val (.int cc), .val (.int k), .val (.int b)] [(.int ((k.toUInt32 >>> (b &&& 31).toUInt32).toInt32))])) (fun _ k => XS.iushr X0.hh X0.hx rfl (hb hby d2_2) rfl k) ?_
  refine Go.of (T' := T0) (g' := (mkF mM 4 #[.val (.int cc), .val (.int k), .val (.int b)] [(.int (1 : Int32)), (.int ((k.toUInt32 >>> (b &&& 31).toUInt32).toInt32))])) (fun _ k => XS.iconst X0.hh X0.hx rfl (hb hby d2_3) k) ?_
  refine Go.of (T' := T0) (g' := (mkF mM 5 #[.val (.int cc), .val (.int k), .val (.int b)] [(.int (((k.toUInt32 >>> (b &&& 31).toUInt32).toInt32) &&& (1 : Int32)))])) (fun _ k => XS.iand X0.hh X0.hx rfl (hb hby d2_4) rfl k) ?_
  by_cases hc5 : (((k.toUInt32 >>> (b &&& 31).toUInt32).toInt32) &&& (1 : Int32)) = (0 : Int32)
  · refine Go.of (T' := T0) (g' := (mkF mM 14 #[.val (.int cc), .val (.int k), .val (.int b)] [])) (fun _ k => XS.ifYes X0.hh X0.hx rfl (pc0 := 5) (pc' := 14) rfl (hb hby d2_5) rfl ((if0 _ _).trans (teq hc5).1) (by decide) (by decide) k) ?_
    refine Go.of (T' := T0) (g' := (mkF mM 15 #[.val (.int cc), .val (.int k), .val (.int b)] [(.int cc)])) (fun _ k => XS.iloadN X0.hh X0.hx rfl (hb hby d2_14) rfl k) ?_
    exact X0.nret (t := .char) hret (by simp) hlk (by decide) (by decide) (hb hby d2_15) (fun S hS => ⟨cc, by rw [h1], Or.inl rfl, rfl⟩)
  · refine Go.of (T' := T0) (g' := (mkF mM 8 #[.val (.int cc), .val (.int k), .val (.int b)] [])) (fun _ k => XS.ifNo X0.hh X0.hx rfl (hb hby d2_5) rfl ((if0 _ _).trans (feq hc5).1) k) ?_
    refine Go.of (T' := T0) (g' := (mkF mM 9 #[.val (.int cc), .val (.int k), .val (.int b)] [(.int cc)])) (fun _ k => XS.iloadN X0.hh X0.hx rfl (hb hby d2_8) rfl k) ?_
    refine Go.of (T' := T0) (g' := (mkF mM 11 #[.val (.int cc), .val (.int k), .val (.int b)] [(.int (32 : Int32)), (.int cc)])) (fun _ k => XS.bipush X0.hh X0.hx rfl (hb hby d2_9) k) ?_
    refine Go.of (T' := T0) (g' := (mkF mM 12 #[.val (.int cc), .val (.int k), .val (.int b)] [(.int (cc - (32 : Int32)))])) (fun _ k => XS.isub X0.hh X0.hx rfl (hb hby d2_11) rfl k) ?_
    refine Go.of (T' := T0) (g' := (mkF mM 13 #[.val (.int cc), .val (.int k), .val (.int b)] [(.int ((cc - (32 : Int32)).toUInt32.toUInt16.toUInt32.toInt32))])) (fun _ k => XS.i2c X0.hh X0.hx rfl (hb hby d2_12) rfl k) ?_
    exact X0.nret (t := .char) hret (by simp) hlk (by decide) (by decide) (hb hby d2_13) (fun S hS => ⟨cc - 32, by rw [h2], Or.inr rfl, rfl⟩)

theorem hf_four {cs : List Int32} {st : Nat} {d1 d2 d3 d4 : Int32} (hl : cs.length = st + 4) (e1 : cs.getD st 0 = d1) (e2 : cs.getD (st + 1) 0 = d2) (e3 : cs.getD (st + 2) 0 = d3) (e4 : cs.getD (st + 3) 0 = d4) : Hf cs st ↔ (d1 = 63 ∨ (¬ d1 = 35 ∧ (d2 = 63 ∨ (¬ d2 = 35 ∧ (d3 = 63 ∨ (¬ d3 = 35 ∧ d4 = 63)))))) := by
  have n1 : ¬ (63 : Int32) = 35 := by decide
  constructor
  · rintro ⟨j, h1, h2, h3, h4⟩
    have q : j = st ∨ j = st + 1 ∨ j = st + 2 ∨ j = st + 3 := by omega
    rcases q with rfl | rfl | rfl | rfl
    · exact Or.inl (e1 ▸ h3)
    · exact Or.inr ⟨e1 ▸ h4 st (by omega) (by omega), Or.inl (e2 ▸ h3)⟩
    · exact Or.inr ⟨e1 ▸ h4 st (by omega) (by omega), Or.inr ⟨e2 ▸ h4 (st + 1) (by omega) (by omega), Or.inl (e3 ▸ h3)⟩⟩
    · exact Or.inr ⟨e1 ▸ h4 st (by omega) (by omega), Or.inr ⟨e2 ▸ h4 (st + 1) (by omega) (by omega), Or.inr ⟨e3 ▸ h4 (st + 2) (by omega) (by omega), e4 ▸ h3⟩⟩⟩
  · intro q
    have A : ∀ n, (∀ i, i ≤ n → ¬ cs.getD (st + i) 0 = 35) → cs.getD (st + n) 0 = 63 → n < 4 → Hf cs st := fun n h1 h2 h3 => ⟨st + n, by omega, by omega, h2, fun i a b => by
      have := h1 (i - st) (by omega)
      rwa [show st + (i - st) = i by omega] at this⟩
    rcases q with q | ⟨q1, q | ⟨q2, q | ⟨q3, q⟩⟩⟩
    · refine A 0 (fun i hi => ?_) (e1.trans q) (by decide)
      obtain rfl : i = 0 := by omega
      rw [Nat.add_zero, e1, q]; exact n1
    · refine A 1 (fun i hi => ?_) (e2.trans q) (by decide)
      have : i = 0 ∨ i = 1 := by omega
      rcases this with rfl | rfl
      · rw [Nat.add_zero, e1]; exact q1
      · rw [e2, q]; exact n1
    · refine A 2 (fun i hi => ?_) (e3.trans q) (by decide)
      have : i = 0 ∨ i = 1 ∨ i = 2 := by omega
      rcases this with rfl | rfl | rfl
      · rw [Nat.add_zero, e1]; exact q1
      · rw [e2]; exact q2
      · rw [e3, q]; exact n1
    · refine A 3 (fun i hi => ?_) (e4.trans q) (by decide)
      have : i = 0 ∨ i = 1 ∨ i = 2 ∨ i = 3 := by omega
      rcases this with rfl | rfl | rfl | rfl
      · rw [Nat.add_zero, e1]; exact q1
      · rw [e2]; exact q2
      · rw [e3]; exact q3
      · rw [e4, q]; exact n1

def Q_law_rm  : Option Value → (Addr → Prop) → Heap → Prop := fun v _ h => v = some (.int 1)
theorem ef_law_rm (m : MethodId) (aa ab ac : Int32) : entryFrame m #[(.int aa), (.int ab), (.int ac)] 16 = mkF m 0 #[.val (.int aa), .val (.int ab), .val (.int ac), .unset, .unset, .unset, .unset, .unset, .unset, .unset, .unset, .unset, .unset, .unset, .unset, .unset] [] := by first | (simp [entryFrame, mkF, argsToLocals, Value.category]; done) | rfl
set_option maxRecDepth 65536 in
set_option maxHeartbeats 40000000 in
theorem law_rm (l : Launch) (Z : State) (a0 : Array Value) (G : Wld Z a0) (aa ab ac : Int32) (h0 : Heap)  :
    Met l Z consts_1 x code maxLocals ret room_1 #[(.int aa), (.int ab), (.int ac)] h0 [] [] (Q_law_rm ) := by
  have hw := G.1
  have hEL := G.2.1
  refine Met.intro (a0 := a0) hEL pn_1 ?_
  intro pP eE sS mM bB mE cC T0 X0 hml hby hret hnm hlk hs0
  have hz0 : sS.heap.size = h0.size := by rw [hs0]
  have n0 : Z.heap.size ≤ h0.size := X0.ext0.1
  refine Go.cast (ef_law_rm mM aa ab ac) ?_
  obtain ⟨zc, Sc, hzc⟩ := G.2.2.1
  obtain ⟨fm, Sf, rfm⟩ := G.2.2.2
  have hln : ∀ d ∈ StrChars.Road.wordsLen, d.before a0 Z = true := fun d hd => hw d ((by decide +kernel : ∀ d ∈ StrChars.Road.wordsLen, d ∈ tables_1) d hd)
  have hch : ∀ d ∈ StrChars.Road.wordsChN, d.before a0 Z = true := fun d hd => hw d ((by decide +kernel : ∀ d ∈ StrChars.Road.wordsChN, d ∈ tables_1) d hd)
  have hws : ∀ d ∈ StrChars.Road.words, d.before a0 Z = true := fun d hd => hw d ((by decide +kernel : ∀ d ∈ StrChars.Road.words, d ∈ tables_1) d hd)
  refine Go.of (T' := T0) (g' := (mkF mM 1 #[.val (.int aa), .val (.int ab), .val (.int ac), .unset, .unset, .unset, .unset, .unset, .unset, .unset, .unset, .unset, .unset, .unset, .unset, .unset] [(.int aa)])) (fun _ k => XS.iloadN X0.hh X0.hx rfl (hb hby at_0) rfl k) ?_
  refine X0.callS (W := 0) (argsL := [(.int aa)]) (rest := []) (hw _ (List.mem_of_getElem? (i := 0) rfl)) (hw _ (List.mem_of_getElem? (i := 1) rfl)) (hw _ (List.mem_of_getElem? (i := 2) rfl)) (hw _ (List.mem_of_getElem? (i := 3) rfl)) (by decide) (pick_rm l Z a0 G _ h0) pd_1 rfl rfl rfl (by rw [hml]; rfl) (by decide) (by decide) (by decide) (by decide) (hb hby at_1) all0 all0 ?_
  intro v1 T1 h1 S1 X1 K1 Q1
  obtain ⟨d1, rfl, r1⟩ := Q1
  have X1 := X1 [] all0
  have z1 : h0.size ≤ h1.size := K1.1
  show Go pP eE bB _ T1 (mkF mM 4 #[.val (.int aa), .val (.int ab), .val (.int ac), .unset, .unset, .unset, .unset, .unset, .unset, .unset, .unset, .unset, .unset, .unset, .unset, .unset] [(.int d1)])
  refine Go.of (T' := T1) (g' := (mkF mM 5 #[.val (.int aa), .val (.int ab), .val (.int ac), .val (.int d1), .unset, .unset, .unset, .unset, .unset, .unset, .unset, .unset, .unset, .unset, .unset, .unset] [])) (fun _ k => XS.istoreN X1.hh X1.hx rfl (hb hby at_4) rfl (l' := #[.val (.int aa), .val (.int ab), .val (.int ac), .val (.int d1), .unset, .unset, .unset, .unset, .unset, .unset, .unset, .unset, .unset, .unset, .unset, .unset]) rfl k) ?_
  refine Go.of (T' := T1) (g' := (mkF mM 6 #[.val (.int aa), .val (.int ab), .val (.int ac), .val (.int d1), .unset, .unset, .unset, .unset, .unset, .unset, .unset, .unset, .unset, .unset, .unset, .unset] [(.int aa)])) (fun _ k => XS.iloadN X1.hh X1.hx rfl (hb hby at_5) rfl k) ?_
  refine Go.of (T' := T1) (g' := (mkF mM 8 #[.val (.int aa), .val (.int ab), .val (.int ac), .val (.int d1), .unset, .unset, .unset, .unset, .unset, .unset, .unset, .unset, .unset, .unset, .unset, .unset] [(.int (12 : Int32)), (.int aa)])) (fun _ k => XS.bipush X1.hh X1.hx rfl (hb hby at_6) k) ?_
  refine Go.of (T' := T1) (g' := (mkF mM 9 #[.val (.int aa), .val (.int ab), .val (.int ac), .val (.int d1), .unset, .unset, .unset, .unset, .unset, .unset, .unset, .unset, .unset, .unset, .unset, .unset] [(.int ((aa.toUInt32 >>> ((12 : Int32) &&& 31).toUInt32).toInt32))])) (fun _ k => XS.iushr X1.hh X1.hx rfl (hb hby at_8) rfl k) ?_
  refine X1.callS (W := 0) (argsL := [(.int ((aa.toUInt32 >>> ((12 : Int32) &&& 31).toUInt32).toInt32))]) (rest := []) (hw _ (List.mem_of_getElem? (i := 0) rfl)) (hw _ (List.mem_of_getElem? (i := 1) rfl)) (hw _ (List.mem_of_getElem? (i := 2) rfl)) (hw _ (List.mem_of_getElem? (i := 3) rfl)) (by decide) (pick_rm l Z a0 G _ h1) pd_1 rfl rfl rfl (by rw [hml]; rfl) (by decide) (by decide) (by decide) (by decide) (hb hby at_9) all0 all0 ?_
  intro v2 T2 h2 S2 X2 K2 Q2
  obtain ⟨d2, rfl, r2⟩ := Q2
  have X2 := X2 [] all0
  have z2 : h1.size ≤ h2.size := K2.1
  show Go pP eE bB _ T2 (mkF mM 12 #[.val (.int aa), .val (.int ab), .val (.int ac), .val (.int d1), .unset, .unset, .unset, .unset, .unset, .unset, .unset, .unset, .unset, .unset, .unset, .unset] [(.int d2)])
  refine Go.of (T' := T2) (g' := (mkF mM 14 #[.val (.int aa), .val (.int ab), .val (.int ac), .val (.int d1), .val (.int d2), .unset, .unset, .unset, .unset, .unset, .unset, .unset, .unset, .unset, .unset, .unset] [])) (fun _ k => XS.istore X2.hh X2.hx rfl (hb hby at_12) rfl (l' := #[.val (.int aa), .val (.int ab), .val (.int ac), .val (.int d1), .val (.int d2), .unset, .unset, .unset, .unset, .unset, .unset, .unset, .unset, .unset, .unset, .unset]) rfl k) ?_
  refine Go.of (T' := T2) (g' := (mkF mM 15 #[.val (.int aa), .val (.int ab), .val (.int ac), .val (.int d1), .val (.int d2), .unset, .unset, .unset, .unset, .unset, .unset, .unset, .unset, .unset, .unset, .unset] [(.int ab)])) (fun _ k => XS.iloadN X2.hh X2.hx rfl (hb hby at_14) rfl k) ?_
  refine X2.callS (W := 0) (argsL := [(.int ab)]) (rest := []) (hw _ (List.mem_of_getElem? (i := 0) rfl)) (hw _ (List.mem_of_getElem? (i := 1) rfl)) (hw _ (List.mem_of_getElem? (i := 2) rfl)) (hw _ (List.mem_of_getElem? (i := 3) rfl)) (by decide) (pick_rm l Z a0 G _ h2) pd_1 rfl rfl rfl (by rw [hml]; rfl) (by decide) (by decide) (by decide) (by decide) (hb hby at_15) all0 all0 ?_
  intro v3 T3 h3 S3 X3 K3 Q3
  obtain ⟨d3, rfl, r3⟩ := Q3
  have X3 := X3 [] all0
  have z3 : h2.size ≤ h3.size := K3.1
  show Go pP eE bB _ T3 (mkF mM 18 #[.val (.int aa), .val (.int ab), .val (.int ac), .val (.int d1), .val (.int d2), .unset, .unset, .unset, .unset, .unset, .unset, .unset, .unset, .unset, .unset, .unset] [(.int d3)])
  refine Go.of (T' := T3) (g' := (mkF mM 20 #[.val (.int aa), .val (.int ab), .val (.int ac), .val (.int d1), .val (.int d2), .val (.int d3), .unset, .unset, .unset, .unset, .unset, .unset, .unset, .unset, .unset, .unset] [])) (fun _ k => XS.istore X3.hh X3.hx rfl (hb hby at_18) rfl (l' := #[.val (.int aa), .val (.int ab), .val (.int ac), .val (.int d1), .val (.int d2), .val (.int d3), .unset, .unset, .unset, .unset, .unset, .unset, .unset, .unset, .unset, .unset]) rfl k) ?_
  refine Go.of (T' := T3) (g' := (mkF mM 21 #[.val (.int aa), .val (.int ab), .val (.int ac), .val (.int d1), .val (.int d2), .val (.int d3), .unset, .unset, .unset, .unset, .unset, .unset, .unset, .unset, .unset, .unset] [(.int ab)])) (fun _ k => XS.iloadN X3.hh X3.hx rfl (hb hby at_20) rfl k) ?_
  refine Go.of (T' := T3) (g' := (mkF mM 23 #[.val (.int aa), .val (.int ab), .val (.int ac), .val (.int d1), .val (.int d2), .val (.int d3), .unset, .unset, .unset, .unset, .unset, .unset, .unset, .unset, .unset, .unset] [(.int (12 : Int32)), (.int ab)])) (fun _ k => XS.bipush X3.hh X3.hx rfl (hb hby at_21) k) ?_
  refine Go.of (T' := T3) (g' := (mkF mM 24 #[.val (.int aa), .val (.int ab), .val (.int ac), .val (.int d1), .val (.int d2), .val (.int d3), .unset, .unset, .unset, .unset, .unset, .unset, .unset, .unset, .unset, .unset] [(.int ((ab.toUInt32 >>> ((12 : Int32) &&& 31).toUInt32).toInt32))])) (fun _ k => XS.iushr X3.hh X3.hx rfl (hb hby at_23) rfl k) ?_
  refine X3.callS (W := 0) (argsL := [(.int ((ab.toUInt32 >>> ((12 : Int32) &&& 31).toUInt32).toInt32))]) (rest := []) (hw _ (List.mem_of_getElem? (i := 0) rfl)) (hw _ (List.mem_of_getElem? (i := 1) rfl)) (hw _ (List.mem_of_getElem? (i := 2) rfl)) (hw _ (List.mem_of_getElem? (i := 3) rfl)) (by decide) (pick_rm l Z a0 G _ h3) pd_1 rfl rfl rfl (by rw [hml]; rfl) (by decide) (by decide) (by decide) (by decide) (hb hby at_24) all0 all0 ?_
  intro v4 T4 h4 S4 X4 K4 Q4
  obtain ⟨d4, rfl, r4⟩ := Q4
  have X4 := X4 [] all0
  have z4 : h3.size ≤ h4.size := K4.1
  show Go pP eE bB _ T4 (mkF mM 27 #[.val (.int aa), .val (.int ab), .val (.int ac), .val (.int d1), .val (.int d2), .val (.int d3), .unset, .unset, .unset, .unset, .unset, .unset, .unset, .unset, .unset, .unset] [(.int d4)])
  refine Go.of (T' := T4) (g' := (mkF mM 29 #[.val (.int aa), .val (.int ab), .val (.int ac), .val (.int d1), .val (.int d2), .val (.int d3), .val (.int d4), .unset, .unset, .unset, .unset, .unset, .unset, .unset, .unset, .unset] [])) (fun _ k => XS.istore X4.hh X4.hx rfl (hb hby at_27) rfl (l' := #[.val (.int aa), .val (.int ab), .val (.int ac), .val (.int d1), .val (.int d2), .val (.int d3), .val (.int d4), .unset, .unset, .unset, .unset, .unset, .unset, .unset, .unset, .unset]) rfl k) ?_
  refine Go.of (T' := T4) (g' := (mkF mM 30 #[.val (.int aa), .val (.int ab), .val (.int ac), .val (.int d1), .val (.int d2), .val (.int d3), .val (.int d4), .unset, .unset, .unset, .unset, .unset, .unset, .unset, .unset, .unset] [(.int ac)])) (fun _ k => XS.iloadN X4.hh X4.hx rfl (hb hby at_29) rfl k) ?_
  refine Go.of (T' := T4) (g' := (mkF mM 31 #[.val (.int aa), .val (.int ab), .val (.int ac), .val (.int d1), .val (.int d2), .val (.int d3), .val (.int d4), .unset, .unset, .unset, .unset, .unset, .unset, .unset, .unset, .unset] [(.int (1 : Int32)), (.int ac)])) (fun _ k => XS.iconst X4.hh X4.hx rfl (hb hby at_30) k) ?_
  refine Go.of (T' := T4) (g' := (mkF mM 32 #[.val (.int aa), .val (.int ab), .val (.int ac), .val (.int d1), .val (.int d2), .val (.int d3), .val (.int d4), .unset, .unset, .unset, .unset, .unset, .unset, .unset, .unset, .unset] [(.int (ac &&& (1 : Int32)))])) (fun _ k => XS.iand X4.hh X4.hx rfl (hb hby at_31) rfl k) ?_
  by_cases hc32 : (ac &&& (1 : Int32)) = (0 : Int32)
  · refine Go.of (T' := T4) (g' := (mkF mM 39 #[.val (.int aa), .val (.int ab), .val (.int ac), .val (.int d1), .val (.int d2), .val (.int d3), .val (.int d4), .unset, .unset, .unset, .unset, .unset, .unset, .unset, .unset, .unset] [])) (fun _ k => XS.ifYes X4.hh X4.hx rfl (pc0 := 32) (pc' := 39) rfl (hb hby at_32) rfl ((if0 _ _).trans (teq hc32).1) (by decide) (by decide) k) ?_
    refine Go.of (T' := T4) (g' := (mkF mM 40 #[.val (.int aa), .val (.int ab), .val (.int ac), .val (.int d1), .val (.int d2), .val (.int d3), .val (.int d4), .unset, .unset, .unset, .unset, .unset, .unset, .unset, .unset, .unset] [(.int (0 : Int32))])) (fun _ k => XS.iconst X4.hh X4.hx rfl (hb hby at_39) k) ?_
    refine Go.of (T' := T4) (g' := (mkF mM 42 #[.val (.int aa), .val (.int ab), .val (.int ac), .val (.int d1), .val (.int d2), .val (.int d3), .val (.int d4), .val (.int (0 : Int32)), .unset, .unset, .unset, .unset, .unset, .unset, .unset, .unset] [])) (fun _ k => XS.istore X4.hh X4.hx rfl (hb hby at_40) rfl (l' := #[.val (.int aa), .val (.int ab), .val (.int ac), .val (.int d1), .val (.int d2), .val (.int d3), .val (.int d4), .val (.int (0 : Int32)), .unset, .unset, .unset, .unset, .unset, .unset, .unset, .unset]) rfl k) ?_
    refine Go.of (T' := T4) (g' := (mkF mM 43 #[.val (.int aa), .val (.int ab), .val (.int ac), .val (.int d1), .val (.int d2), .val (.int d3), .val (.int d4), .val (.int (0 : Int32)), .unset, .unset, .unset, .unset, .unset, .unset, .unset, .unset] [(.int ac)])) (fun _ k => XS.iloadN X4.hh X4.hx rfl (hb hby at_42) rfl k) ?_
    refine Go.of (T' := T4) (g' := (mkF mM 44 #[.val (.int aa), .val (.int ab), .val (.int ac), .val (.int d1), .val (.int d2), .val (.int d3), .val (.int d4), .val (.int (0 : Int32)), .unset, .unset, .unset, .unset, .unset, .unset, .unset, .unset] [(.int (1 : Int32)), (.int ac)])) (fun _ k => XS.iconst X4.hh X4.hx rfl (hb hby at_43) k) ?_
    refine Go.of (T' := T4) (g' := (mkF mM 45 #[.val (.int aa), .val (.int ab), .val (.int ac), .val (.int d1), .val (.int d2), .val (.int d3), .val (.int d4), .val (.int (0 : Int32)), .unset, .unset, .unset, .unset, .unset, .unset, .unset, .unset] [(.int ((ac.toUInt32 >>> ((1 : Int32) &&& 31).toUInt32).toInt32))])) (fun _ k => XS.iushr X4.hh X4.hx rfl (hb hby at_44) rfl k) ?_
    refine Go.of (T' := T4) (g' := (mkF mM 46 #[.val (.int aa), .val (.int ab), .val (.int ac), .val (.int d1), .val (.int d2), .val (.int d3), .val (.int d4), .val (.int (0 : Int32)), .unset, .unset, .unset, .unset, .unset, .unset, .unset, .unset] [(.int (3 : Int32)), (.int ((ac.toUInt32 >>> ((1 : Int32) &&& 31).toUInt32).toInt32))])) (fun _ k => XS.iconst X4.hh X4.hx rfl (hb hby at_45) k) ?_
    refine Go.of (T' := T4) (g' := (mkF mM 47 #[.val (.int aa), .val (.int ab), .val (.int ac), .val (.int d1), .val (.int d2), .val (.int d3), .val (.int d4), .val (.int (0 : Int32)), .unset, .unset, .unset, .unset, .unset, .unset, .unset, .unset] [(.int (((ac.toUInt32 >>> ((1 : Int32) &&& 31).toUInt32).toInt32) &&& (3 : Int32)))])) (fun _ k => XS.iand X4.hh X4.hx rfl (hb hby at_46) rfl k) ?_
    refine X4.callS (W := 0) (argsL := [(.int (((ac.toUInt32 >>> ((1 : Int32) &&& 31).toUInt32).toInt32) &&& (3 : Int32)))]) (rest := []) (hw _ (List.mem_of_getElem? (i := 5) rfl)) (hw _ (List.mem_of_getElem? (i := 6) rfl)) (hw _ (List.mem_of_getElem? (i := 2) rfl)) (hw _ (List.mem_of_getElem? (i := 7) rfl)) (by decide) (blank_of l Z a0 G _ h4) pd_1 rfl rfl rfl (by rw [hml]; rfl) (by decide) (by decide) (by decide) (by decide) (hb hby at_47) all0 all0 ?_
    intro v5 T5 h5 S5 X5 K5 Q5
    have X5 := X5 [] all0
    obtain ⟨bb, rfl, hbb, rb1, rb2, e5⟩ := Q5
    rw [e5] at X5
    show Go pP eE bB _ T5 (mkF mM 50 #[.val (.int aa), .val (.int ab), .val (.int ac), .val (.int d1), .val (.int d2), .val (.int d3), .val (.int d4), .val (.int (0 : Int32)), .unset, .unset, .unset, .unset, .unset, .unset, .unset, .unset] [(.int bb)])
    refine Go.of (T' := T5) (g' := (mkF mM 52 #[.val (.int aa), .val (.int ab), .val (.int ac), .val (.int d1), .val (.int d2), .val (.int d3), .val (.int d4), .val (.int (0 : Int32)), .val (.int bb), .unset, .unset, .unset, .unset, .unset, .unset, .unset] [])) (fun _ k => XS.istore X5.hh X5.hx rfl (hb hby at_50) rfl (l' := #[.val (.int aa), .val (.int ab), .val (.int ac), .val (.int d1), .val (.int d2), .val (.int d3), .val (.int d4), .val (.int (0 : Int32)), .val (.int bb), .unset, .unset, .unset, .unset, .unset, .unset, .unset]) rfl k) ?_
    refine Go.of (T' := T5) (g' := (mkF mM 53 #[.val (.int aa), .val (.int ab), .val (.int ac), .val (.int d1), .val (.int d2), .val (.int d3), .val (.int d4), .val (.int (0 : Int32)), .val (.int bb), .unset, .unset, .unset, .unset, .unset, .unset, .unset] [(.int ac)])) (fun _ k => XS.iloadN X5.hh X5.hx rfl (hb hby at_52) rfl k) ?_
    refine Go.of (T' := T5) (g' := (mkF mM 54 #[.val (.int aa), .val (.int ab), .val (.int ac), .val (.int d1), .val (.int d2), .val (.int d3), .val (.int d4), .val (.int (0 : Int32)), .val (.int bb), .unset, .unset, .unset, .unset, .unset, .unset, .unset] [(.int (3 : Int32)), (.int ac)])) (fun _ k => XS.iconst X5.hh X5.hx rfl (hb hby at_53) k) ?_
    refine Go.of (T' := T5) (g' := (mkF mM 55 #[.val (.int aa), .val (.int ab), .val (.int ac), .val (.int d1), .val (.int d2), .val (.int d3), .val (.int d4), .val (.int (0 : Int32)), .val (.int bb), .unset, .unset, .unset, .unset, .unset, .unset, .unset] [(.int ((ac.toUInt32 >>> ((3 : Int32) &&& 31).toUInt32).toInt32))])) (fun _ k => XS.iushr X5.hh X5.hx rfl (hb hby at_54) rfl k) ?_
    refine Go.of (T' := T5) (g' := (mkF mM 57 #[.val (.int aa), .val (.int ab), .val (.int ac), .val (.int d1), .val (.int d2), .val (.int d3), .val (.int d4), .val (.int (0 : Int32)), .val (.int bb), .val (.int ((ac.toUInt32 >>> ((3 : Int32) &&& 31).toUInt32).toInt32)), .unset, .unset, .unset, .unset, .unset, .unset] [])) (fun _ k => XS.istore X5.hh X5.hx rfl (hb hby at_55) rfl (l' := #[.val (.int aa), .val (.int ab), .val (.int ac), .val (.int d1), .val (.int d2), .val (.int d3), .val (.int d4), .val (.int (0 : Int32)), .val (.int bb), .val (.int ((ac.toUInt32 >>> ((3 : Int32) &&& 31).toUInt32).toInt32)), .unset, .unset, .unset, .unset, .unset, .unset]) rfl k) ?_
    refine Go.of (T' := T5) (g' := (mkF mM 59 #[.val (.int aa), .val (.int ab), .val (.int ac), .val (.int d1), .val (.int d2), .val (.int d3), .val (.int d4), .val (.int (0 : Int32)), .val (.int bb), .val (.int ((ac.toUInt32 >>> ((3 : Int32) &&& 31).toUInt32).toInt32)), .unset, .unset, .unset, .unset, .unset, .unset] [(.int (12 : Int32))])) (fun _ k => XS.bipush X5.hh X5.hx rfl (hb hby at_57) k) ?_
    refine X5.newP (cap := 12) (hw _ (List.mem_of_getElem? (i := 4) rfl)) (hb hby at_59) (by decide) (by decide) (by decide) (by decide) (by decide) ?_
    intro T6 h6 wi kc_wi g_wi X6 E6 V_wi
    have z6 : h4.size ≤ h6.size := E6.1
    have l_wi : wi < h6.size := V_wi.lt
    have V_wi : Arv Z h6 wi kc_wi .char (12 : Int32) [(.int (0 : Int32)), (.int (0 : Int32)), (.int (0 : Int32)), (.int (0 : Int32)), (.int (0 : Int32)), (.int (0 : Int32)), (.int (0 : Int32)), (.int (0 : Int32)), (.int (0 : Int32)), (.int (0 : Int32)), (.int (0 : Int32)), (.int (0 : Int32))] (.int (0 : Int32)) := Arv.pad V_wi (pad_rep [] _ 12)
    show Go pP eE bB _ T6 (mkF mM 61 #[.val (.int aa), .val (.int ab), .val (.int ac), .val (.int d1), .val (.int d2), .val (.int d3), .val (.int d4), .val (.int (0 : Int32)), .val (.int bb), .val (.int ((ac.toUInt32 >>> ((3 : Int32) &&& 31).toUInt32).toInt32)), .unset, .unset, .unset, .unset, .unset, .unset] [(.ref wi)])
    refine Go.of (T' := T6) (g' := (mkF mM 63 #[.val (.int aa), .val (.int ab), .val (.int ac), .val (.int d1), .val (.int d2), .val (.int d3), .val (.int d4), .val (.int (0 : Int32)), .val (.int bb), .val (.int ((ac.toUInt32 >>> ((3 : Int32) &&& 31).toUInt32).toInt32)), .val (.ref wi), .unset, .unset, .unset, .unset, .unset] [])) (fun _ k => XS.astore X6.hh X6.hx rfl (hb hby at_61) rfl rfl (l' := #[.val (.int aa), .val (.int ab), .val (.int ac), .val (.int d1), .val (.int d2), .val (.int d3), .val (.int d4), .val (.int (0 : Int32)), .val (.int bb), .val (.int ((ac.toUInt32 >>> ((3 : Int32) &&& 31).toUInt32).toInt32)), .val (.ref wi), .unset, .unset, .unset, .unset, .unset]) rfl k) ?_
    refine Go.of (T' := T6) (g' := (mkF mM 65 #[.val (.int aa), .val (.int ab), .val (.int ac), .val (.int d1), .val (.int d2), .val (.int d3), .val (.int d4), .val (.int (0 : Int32)), .val (.int bb), .val (.int ((ac.toUInt32 >>> ((3 : Int32) &&& 31).toUInt32).toInt32)), .val (.ref wi), .unset, .unset, .unset, .unset, .unset] [(.int (11 : Int32))])) (fun _ k => XS.bipush X6.hh X6.hx rfl (hb hby at_63) k) ?_
    refine X6.newP (cap := 11) (hw _ (List.mem_of_getElem? (i := 4) rfl)) (hb hby at_65) (by decide) (by decide) (by decide) (by decide) (by decide) ?_
    intro T7 h7 wo kc_wo g_wo X7 E7 V_wo
    have z7 : h6.size ≤ h7.size := E7.1
    have l_wo : wo < h7.size := V_wo.lt
    have V_wo : Arv Z h7 wo kc_wo .char (11 : Int32) [(.int (0 : Int32)), (.int (0 : Int32)), (.int (0 : Int32)), (.int (0 : Int32)), (.int (0 : Int32)), (.int (0 : Int32)), (.int (0 : Int32)), (.int (0 : Int32)), (.int (0 : Int32)), (.int (0 : Int32)), (.int (0 : Int32))] (.int (0 : Int32)) := Arv.pad V_wo (pad_rep [] _ 11)
    show Go pP eE bB _ T7 (mkF mM 67 #[.val (.int aa), .val (.int ab), .val (.int ac), .val (.int d1), .val (.int d2), .val (.int d3), .val (.int d4), .val (.int (0 : Int32)), .val (.int bb), .val (.int ((ac.toUInt32 >>> ((3 : Int32) &&& 31).toUInt32).toInt32)), .val (.ref wi), .unset, .unset, .unset, .unset, .unset] [(.ref wo)])
    refine Go.of (T' := T7) (g' := (mkF mM 69 #[.val (.int aa), .val (.int ab), .val (.int ac), .val (.int d1), .val (.int d2), .val (.int d3), .val (.int d4), .val (.int (0 : Int32)), .val (.int bb), .val (.int ((ac.toUInt32 >>> ((3 : Int32) &&& 31).toUInt32).toInt32)), .val (.ref wi), .val (.ref wo), .unset, .unset, .unset, .unset] [])) (fun _ k => XS.astore X7.hh X7.hx rfl (hb hby at_67) rfl rfl (l' := #[.val (.int aa), .val (.int ab), .val (.int ac), .val (.int d1), .val (.int d2), .val (.int d3), .val (.int d4), .val (.int (0 : Int32)), .val (.int bb), .val (.int ((ac.toUInt32 >>> ((3 : Int32) &&& 31).toUInt32).toInt32)), .val (.ref wi), .val (.ref wo), .unset, .unset, .unset, .unset]) rfl k) ?_
    refine Go.of (T' := T7) (g' := (mkF mM 71 #[.val (.int aa), .val (.int ab), .val (.int ac), .val (.int d1), .val (.int d2), .val (.int d3), .val (.int d4), .val (.int (0 : Int32)), .val (.int bb), .val (.int ((ac.toUInt32 >>> ((3 : Int32) &&& 31).toUInt32).toInt32)), .val (.ref wi), .val (.ref wo), .unset, .unset, .unset, .unset] [(.int (0 : Int32))])) (fun _ k => XS.iload X7.hh X7.hx rfl (hb hby at_69) rfl k) ?_
    refine Go.of (T' := T7) (g' := (mkF mM 79 #[.val (.int aa), .val (.int ab), .val (.int ac), .val (.int d1), .val (.int d2), .val (.int d3), .val (.int d4), .val (.int (0 : Int32)), .val (.int bb), .val (.int ((ac.toUInt32 >>> ((3 : Int32) &&& 31).toUInt32).toInt32)), .val (.ref wi), .val (.ref wo), .unset, .unset, .unset, .unset] [])) (fun _ k => XS.ifYes X7.hh X7.hx rfl (pc0 := 71) (pc' := 79) rfl (hb hby at_71) rfl ((if0 _ _).trans (teq rfl).1) (by decide) (by decide) k) ?_
    refine Go.of (T' := T7) (g' := (mkF mM 81 #[.val (.int aa), .val (.int ab), .val (.int ac), .val (.int d1), .val (.int d2), .val (.int d3), .val (.int d4), .val (.int (0 : Int32)), .val (.int bb), .val (.int ((ac.toUInt32 >>> ((3 : Int32) &&& 31).toUInt32).toInt32)), .val (.ref wi), .val (.ref wo), .unset, .unset, .unset, .unset] [(.ref wo)])) (fun _ k => XS.aload X7.hh X7.hx rfl (hb hby at_79) rfl rfl k) ?_
    refine Go.of (T' := T7) (g' := (mkF mM 83 #[.val (.int aa), .val (.int ab), .val (.int ac), .val (.int d1), .val (.int d2), .val (.int d3), .val (.int d4), .val (.int (0 : Int32)), .val (.int bb), .val (.int ((ac.toUInt32 >>> ((3 : Int32) &&& 31).toUInt32).toInt32)), .val (.ref wi), .val (.ref wo), .val (.ref wo), .unset, .unset, .unset] [])) (fun _ k => XS.astore X7.hh X7.hx rfl (hb hby at_81) rfl rfl (l' := #[.val (.int aa), .val (.int ab), .val (.int ac), .val (.int d1), .val (.int d2), .val (.int d3), .val (.int d4), .val (.int (0 : Int32)), .val (.int bb), .val (.int ((ac.toUInt32 >>> ((3 : Int32) &&& 31).toUInt32).toInt32)), .val (.ref wi), .val (.ref wo), .val (.ref wo), .unset, .unset, .unset]) rfl k) ?_
    refine Go.of (T' := T7) (g' := (mkF mM 85 #[.val (.int aa), .val (.int ab), .val (.int ac), .val (.int d1), .val (.int d2), .val (.int d3), .val (.int d4), .val (.int (0 : Int32)), .val (.int bb), .val (.int ((ac.toUInt32 >>> ((3 : Int32) &&& 31).toUInt32).toInt32)), .val (.ref wi), .val (.ref wo), .val (.ref wo), .unset, .unset, .unset] [(.int (0 : Int32))])) (fun _ k => XS.iload X7.hh X7.hx rfl (hb hby at_83) rfl k) ?_
    refine Go.of (T' := T7) (g' := (mkF mM 92 #[.val (.int aa), .val (.int ab), .val (.int ac), .val (.int d1), .val (.int d2), .val (.int d3), .val (.int d4), .val (.int (0 : Int32)), .val (.int bb), .val (.int ((ac.toUInt32 >>> ((3 : Int32) &&& 31).toUInt32).toInt32)), .val (.ref wi), .val (.ref wo), .val (.ref wo), .unset, .unset, .unset] [])) (fun _ k => XS.ifYes X7.hh X7.hx rfl (pc0 := 85) (pc' := 92) rfl (hb hby at_85) rfl ((if0 _ _).trans (teq rfl).1) (by decide) (by decide) k) ?_
    refine Go.of (T' := T7) (g' := (mkF mM 93 #[.val (.int aa), .val (.int ab), .val (.int ac), .val (.int d1), .val (.int d2), .val (.int d3), .val (.int d4), .val (.int (0 : Int32)), .val (.int bb), .val (.int ((ac.toUInt32 >>> ((3 : Int32) &&& 31).toUInt32).toInt32)), .val (.ref wi), .val (.ref wo), .val (.ref wo), .unset, .unset, .unset] [(.int (0 : Int32))])) (fun _ k => XS.iconst X7.hh X7.hx rfl (hb hby at_92) k) ?_
    refine Go.of (T' := T7) (g' := (mkF mM 95 #[.val (.int aa), .val (.int ab), .val (.int ac), .val (.int d1), .val (.int d2), .val (.int d3), .val (.int d4), .val (.int (0 : Int32)), .val (.int bb), .val (.int ((ac.toUInt32 >>> ((3 : Int32) &&& 31).toUInt32).toInt32)), .val (.ref wi), .val (.ref wo), .val (.ref wo), .val (.int (0 : Int32)), .unset, .unset] [])) (fun _ k => XS.istore X7.hh X7.hx rfl (hb hby at_93) rfl (l' := #[.val (.int aa), .val (.int ab), .val (.int ac), .val (.int d1), .val (.int d2), .val (.int d3), .val (.int d4), .val (.int (0 : Int32)), .val (.int bb), .val (.int ((ac.toUInt32 >>> ((3 : Int32) &&& 31).toUInt32).toInt32)), .val (.ref wi), .val (.ref wo), .val (.ref wo), .val (.int (0 : Int32)), .unset, .unset]) rfl k) ?_
    refine Go.of (T' := T7) (g' := (mkF mM 97 #[.val (.int aa), .val (.int ab), .val (.int ac), .val (.int d1), .val (.int d2), .val (.int d3), .val (.int d4), .val (.int (0 : Int32)), .val (.int bb), .val (.int ((ac.toUInt32 >>> ((3 : Int32) &&& 31).toUInt32).toInt32)), .val (.ref wi), .val (.ref wo), .val (.ref wo), .val (.int (0 : Int32)), .unset, .unset] [(.int (0 : Int32))])) (fun _ k => XS.iload X7.hh X7.hx rfl (hb hby at_95) rfl k) ?_
    refine Go.of (T' := T7) (g' := (mkF mM 106 #[.val (.int aa), .val (.int ab), .val (.int ac), .val (.int d1), .val (.int d2), .val (.int d3), .val (.int d4), .val (.int (0 : Int32)), .val (.int bb), .val (.int ((ac.toUInt32 >>> ((3 : Int32) &&& 31).toUInt32).toInt32)), .val (.ref wi), .val (.ref wo), .val (.ref wo), .val (.int (0 : Int32)), .unset, .unset] [])) (fun _ k => XS.ifYes X7.hh X7.hx rfl (pc0 := 97) (pc' := 106) rfl (hb hby at_97) rfl ((if0 _ _).trans (teq rfl).1) (by decide) (by decide) k) ?_
    refine Go.of (T' := T7) (g' := (mkF mM 108 #[.val (.int aa), .val (.int ab), .val (.int ac), .val (.int d1), .val (.int d2), .val (.int d3), .val (.int d4), .val (.int (0 : Int32)), .val (.int bb), .val (.int ((ac.toUInt32 >>> ((3 : Int32) &&& 31).toUInt32).toInt32)), .val (.ref wi), .val (.ref wo), .val (.ref wo), .val (.int (0 : Int32)), .unset, .unset] [(.ref wo)])) (fun _ k => XS.aload X7.hh X7.hx rfl (hb hby at_106) rfl rfl k) ?_
    refine Go.of (T' := T7) (g' := (mkF mM 110 #[.val (.int aa), .val (.int ab), .val (.int ac), .val (.int d1), .val (.int d2), .val (.int d3), .val (.int d4), .val (.int (0 : Int32)), .val (.int bb), .val (.int ((ac.toUInt32 >>> ((3 : Int32) &&& 31).toUInt32).toInt32)), .val (.ref wi), .val (.ref wo), .val (.ref wo), .val (.int (0 : Int32)), .unset, .unset] [(.int (0 : Int32)), (.ref wo)])) (fun _ k => XS.iload X7.hh X7.hx rfl (hb hby at_108) rfl k) ?_
    refine Go.of (T' := T7) (g' := (mkF mM 112 #[.val (.int aa), .val (.int ab), .val (.int ac), .val (.int d1), .val (.int d2), .val (.int d3), .val (.int d4), .val (.int (0 : Int32)), .val (.int bb), .val (.int ((ac.toUInt32 >>> ((3 : Int32) &&& 31).toUInt32).toInt32)), .val (.ref wi), .val (.ref wo), .val (.ref wo), .val (.int (0 : Int32)), .unset, .unset] [(.int (109 : Int32)), (.int (0 : Int32)), (.ref wo)])) (fun _ k => XS.bipush X7.hh X7.hx rfl (hb hby at_110) k) ?_
    refine Go.of (T' := T7) (g' := (mkF mM 114 #[.val (.int aa), .val (.int ab), .val (.int ac), .val (.int d1), .val (.int d2), .val (.int d3), .val (.int d4), .val (.int (0 : Int32)), .val (.int bb), .val (.int ((ac.toUInt32 >>> ((3 : Int32) &&& 31).toUInt32).toInt32)), .val (.ref wi), .val (.ref wo), .val (.ref wo), .val (.int (0 : Int32)), .unset, .unset] [(.int ((ac.toUInt32 >>> ((3 : Int32) &&& 31).toUInt32).toInt32)), (.int (109 : Int32)), (.int (0 : Int32)), (.ref wo)])) (fun _ k => XS.iload X7.hh X7.hx rfl (hb hby at_112) rfl k) ?_
    refine Go.of (T' := T7) (g' := (mkF mM 115 #[.val (.int aa), .val (.int ab), .val (.int ac), .val (.int d1), .val (.int d2), .val (.int d3), .val (.int d4), .val (.int (0 : Int32)), .val (.int bb), .val (.int ((ac.toUInt32 >>> ((3 : Int32) &&& 31).toUInt32).toInt32)), .val (.ref wi), .val (.ref wo), .val (.ref wo), .val (.int (0 : Int32)), .unset, .unset] [(.int (0 : Int32)), (.int ((ac.toUInt32 >>> ((3 : Int32) &&& 31).toUInt32).toInt32)), (.int (109 : Int32)), (.int (0 : Int32)), (.ref wo)])) (fun _ k => XS.iconst X7.hh X7.hx rfl (hb hby at_114) k) ?_
    refine X7.callS (W := 2) (argsL := [(.int (109 : Int32)), (.int ((ac.toUInt32 >>> ((3 : Int32) &&& 31).toUInt32).toInt32)), (.int (0 : Int32))]) (rest := [(.int (0 : Int32)), (.ref wo)]) (hw _ (List.mem_of_getElem? (i := 8) rfl)) (hw _ (List.mem_of_getElem? (i := 9) rfl)) (hw _ (List.mem_of_getElem? (i := 2) rfl)) (hw _ (List.mem_of_getElem? (i := 10) rfl)) (by decide) (letter_rm l Z a0 G (109 : Int32) _ _ h7 (by decide) (by decide)) pd_7 rfl rfl rfl (by rw [hml]; rfl) (by decide) (by decide) (by decide) (by decide) (hb hby at_115) all0 all0 ?_
    intro v8 T8 h8 S8 X8 K8 Q8
    have X8 := X8 [] all0
    obtain ⟨m0, rfl, hm0, e8⟩ := Q8
    rw [e8] at X8
    have rm0 : ¬ m0 < 0 ∧ ¬ (255 : Int32) < m0 := by rcases hm0 with rfl | rfl <;> decide
    show Go pP eE bB _ T8 (mkF mM 118 #[.val (.int aa), .val (.int ab), .val (.int ac), .val (.int d1), .val (.int d2), .val (.int d3), .val (.int d4), .val (.int (0 : Int32)), .val (.int bb), .val (.int ((ac.toUInt32 >>> ((3 : Int32) &&& 31).toUInt32).toInt32)), .val (.ref wi), .val (.ref wo), .val (.ref wo), .val (.int (0 : Int32)), .unset, .unset] [(.int m0), (.int (0 : Int32)), (.ref wo)])
    refine X8.stC 0 V_wo (by decide) (by decide) (Nat.le_of_ble_eq_true rfl) (by omega) (Or.inr (by omega)) (hb hby at_118) ?_
    intro T9 h9 X9 K9 V_wo
    have z9 : h7.size ≤ h9.size := K9.1
    have V_wo : Arv Z h9 wo kc_wo .char (11 : Int32) [(.int m0), (.int (0 : Int32)), (.int (0 : Int32)), (.int (0 : Int32)), (.int (0 : Int32)), (.int (0 : Int32)), (.int (0 : Int32)), (.int (0 : Int32)), (.int (0 : Int32)), (.int (0 : Int32)), (.int (0 : Int32))] (.int (0 : Int32)) := by have q := V_wo; rw [nar255 m0 rm0.1 rm0.2] at q; exact q
    show Go pP eE bB _ T9 (mkF mM 119 #[.val (.int aa), .val (.int ab), .val (.int ac), .val (.int d1), .val (.int d2), .val (.int d3), .val (.int d4), .val (.int (0 : Int32)), .val (.int bb), .val (.int ((ac.toUInt32 >>> ((3 : Int32) &&& 31).toUInt32).toInt32)), .val (.ref wi), .val (.ref wo), .val (.ref wo), .val (.int (0 : Int32)), .unset, .unset] [])
    refine Go.of (T' := T9) (g' := (mkF mM 121 #[.val (.int aa), .val (.int ab), .val (.int ac), .val (.int d1), .val (.int d2), .val (.int d3), .val (.int d4), .val (.int (0 : Int32)), .val (.int bb), .val (.int ((ac.toUInt32 >>> ((3 : Int32) &&& 31).toUInt32).toInt32)), .val (.ref wi), .val (.ref wo), .val (.ref wo), .val (.int (0 : Int32)), .unset, .unset] [(.ref wo)])) (fun _ k => XS.aload X9.hh X9.hx rfl (hb hby at_119) rfl rfl k) ?_
    refine Go.of (T' := T9) (g' := (mkF mM 123 #[.val (.int aa), .val (.int ab), .val (.int ac), .val (.int d1), .val (.int d2), .val (.int d3), .val (.int d4), .val (.int (0 : Int32)), .val (.int bb), .val (.int ((ac.toUInt32 >>> ((3 : Int32) &&& 31).toUInt32).toInt32)), .val (.ref wi), .val (.ref wo), .val (.ref wo), .val (.int (0 : Int32)), .unset, .unset] [(.int (0 : Int32)), (.ref wo)])) (fun _ k => XS.iload X9.hh X9.hx rfl (hb hby at_121) rfl k) ?_
    refine Go.of (T' := T9) (g' := (mkF mM 124 #[.val (.int aa), .val (.int ab), .val (.int ac), .val (.int d1), .val (.int d2), .val (.int d3), .val (.int d4), .val (.int (0 : Int32)), .val (.int bb), .val (.int ((ac.toUInt32 >>> ((3 : Int32) &&& 31).toUInt32).toInt32)), .val (.ref wi), .val (.ref wo), .val (.ref wo), .val (.int (0 : Int32)), .unset, .unset] [(.int (1 : Int32)), (.int (0 : Int32)), (.ref wo)])) (fun _ k => XS.iconst X9.hh X9.hx rfl (hb hby at_123) k) ?_
    refine Go.of (T' := T9) (g' := (mkF mM 125 #[.val (.int aa), .val (.int ab), .val (.int ac), .val (.int d1), .val (.int d2), .val (.int d3), .val (.int d4), .val (.int (0 : Int32)), .val (.int bb), .val (.int ((ac.toUInt32 >>> ((3 : Int32) &&& 31).toUInt32).toInt32)), .val (.ref wi), .val (.ref wo), .val (.ref wo), .val (.int (0 : Int32)), .unset, .unset] [(.int ((0 : Int32) + (1 : Int32))), (.ref wo)])) (fun _ k => XS.iadd X9.hh X9.hx rfl (hb hby at_124) rfl k) ?_
    refine Go.of (T' := T9) (g' := (mkF mM 127 #[.val (.int aa), .val (.int ab), .val (.int ac), .val (.int d1), .val (.int d2), .val (.int d3), .val (.int d4), .val (.int (0 : Int32)), .val (.int bb), .val (.int ((ac.toUInt32 >>> ((3 : Int32) &&& 31).toUInt32).toInt32)), .val (.ref wi), .val (.ref wo), .val (.ref wo), .val (.int (0 : Int32)), .unset, .unset] [(.int (97 : Int32)), (.int ((0 : Int32) + (1 : Int32))), (.ref wo)])) (fun _ k => XS.bipush X9.hh X9.hx rfl (hb hby at_125) k) ?_
    refine Go.of (T' := T9) (g' := (mkF mM 129 #[.val (.int aa), .val (.int ab), .val (.int ac), .val (.int d1), .val (.int d2), .val (.int d3), .val (.int d4), .val (.int (0 : Int32)), .val (.int bb), .val (.int ((ac.toUInt32 >>> ((3 : Int32) &&& 31).toUInt32).toInt32)), .val (.ref wi), .val (.ref wo), .val (.ref wo), .val (.int (0 : Int32)), .unset, .unset] [(.int ((ac.toUInt32 >>> ((3 : Int32) &&& 31).toUInt32).toInt32)), (.int (97 : Int32)), (.int ((0 : Int32) + (1 : Int32))), (.ref wo)])) (fun _ k => XS.iload X9.hh X9.hx rfl (hb hby at_127) rfl k) ?_
    refine Go.of (T' := T9) (g' := (mkF mM 130 #[.val (.int aa), .val (.int ab), .val (.int ac), .val (.int d1), .val (.int d2), .val (.int d3), .val (.int d4), .val (.int (0 : Int32)), .val (.int bb), .val (.int ((ac.toUInt32 >>> ((3 : Int32) &&& 31).toUInt32).toInt32)), .val (.ref wi), .val (.ref wo), .val (.ref wo), .val (.int (0 : Int32)), .unset, .unset] [(.int (1 : Int32)), (.int ((ac.toUInt32 >>> ((3 : Int32) &&& 31).toUInt32).toInt32)), (.int (97 : Int32)), (.int ((0 : Int32) + (1 : Int32))), (.ref wo)])) (fun _ k => XS.iconst X9.hh X9.hx rfl (hb hby at_129) k) ?_
    refine X9.callS (W := 2) (argsL := [(.int (97 : Int32)), (.int ((ac.toUInt32 >>> ((3 : Int32) &&& 31).toUInt32).toInt32)), (.int (1 : Int32))]) (rest := [(.int ((0 : Int32) + (1 : Int32))), (.ref wo)]) (hw _ (List.mem_of_getElem? (i := 8) rfl)) (hw _ (List.mem_of_getElem? (i := 9) rfl)) (hw _ (List.mem_of_getElem? (i := 2) rfl)) (hw _ (List.mem_of_getElem? (i := 10) rfl)) (by decide) (letter_rm l Z a0 G (97 : Int32) _ _ h9 (by decide) (by decide)) pd_7 rfl rfl rfl (by rw [hml]; rfl) (by decide) (by decide) (by decide) (by decide) (hb hby at_130) all0 all0 ?_
    intro v10 T10 h10 S10 X10 K10 Q10
    have X10 := X10 [] all0
    obtain ⟨m1, rfl, hm1, e10⟩ := Q10
    rw [e10] at X10
    have rm1 : ¬ m1 < 0 ∧ ¬ (255 : Int32) < m1 := by rcases hm1 with rfl | rfl <;> decide
    show Go pP eE bB _ T10 (mkF mM 133 #[.val (.int aa), .val (.int ab), .val (.int ac), .val (.int d1), .val (.int d2), .val (.int d3), .val (.int d4), .val (.int (0 : Int32)), .val (.int bb), .val (.int ((ac.toUInt32 >>> ((3 : Int32) &&& 31).toUInt32).toInt32)), .val (.ref wi), .val (.ref wo), .val (.ref wo), .val (.int (0 : Int32)), .unset, .unset] [(.int m1), (.int ((0 : Int32) + (1 : Int32))), (.ref wo)])
    refine X10.stC 1 V_wo (by decide) (by decide) (Nat.le_of_ble_eq_true rfl) (by omega) (Or.inr (by omega)) (hb hby at_133) ?_
    intro T11 h11 X11 K11 V_wo
    have z11 : h9.size ≤ h11.size := K11.1
    have V_wo : Arv Z h11 wo kc_wo .char (11 : Int32) [(.int m0), (.int m1), (.int (0 : Int32)), (.int (0 : Int32)), (.int (0 : Int32)), (.int (0 : Int32)), (.int (0 : Int32)), (.int (0 : Int32)), (.int (0 : Int32)), (.int (0 : Int32)), (.int (0 : Int32))] (.int (0 : Int32)) := by have q := V_wo; rw [nar255 m1 rm1.1 rm1.2] at q; exact q
    show Go pP eE bB _ T11 (mkF mM 134 #[.val (.int aa), .val (.int ab), .val (.int ac), .val (.int d1), .val (.int d2), .val (.int d3), .val (.int d4), .val (.int (0 : Int32)), .val (.int bb), .val (.int ((ac.toUInt32 >>> ((3 : Int32) &&& 31).toUInt32).toInt32)), .val (.ref wi), .val (.ref wo), .val (.ref wo), .val (.int (0 : Int32)), .unset, .unset] [])
    refine Go.of (T' := T11) (g' := (mkF mM 136 #[.val (.int aa), .val (.int ab), .val (.int ac), .val (.int d1), .val (.int d2), .val (.int d3), .val (.int d4), .val (.int (0 : Int32)), .val (.int bb), .val (.int ((ac.toUInt32 >>> ((3 : Int32) &&& 31).toUInt32).toInt32)), .val (.ref wi), .val (.ref wo), .val (.ref wo), .val (.int (0 : Int32)), .unset, .unset] [(.ref wo)])) (fun _ k => XS.aload X11.hh X11.hx rfl (hb hby at_134) rfl rfl k) ?_
    refine Go.of (T' := T11) (g' := (mkF mM 138 #[.val (.int aa), .val (.int ab), .val (.int ac), .val (.int d1), .val (.int d2), .val (.int d3), .val (.int d4), .val (.int (0 : Int32)), .val (.int bb), .val (.int ((ac.toUInt32 >>> ((3 : Int32) &&& 31).toUInt32).toInt32)), .val (.ref wi), .val (.ref wo), .val (.ref wo), .val (.int (0 : Int32)), .unset, .unset] [(.int (0 : Int32)), (.ref wo)])) (fun _ k => XS.iload X11.hh X11.hx rfl (hb hby at_136) rfl k) ?_
    refine Go.of (T' := T11) (g' := (mkF mM 139 #[.val (.int aa), .val (.int ab), .val (.int ac), .val (.int d1), .val (.int d2), .val (.int d3), .val (.int d4), .val (.int (0 : Int32)), .val (.int bb), .val (.int ((ac.toUInt32 >>> ((3 : Int32) &&& 31).toUInt32).toInt32)), .val (.ref wi), .val (.ref wo), .val (.ref wo), .val (.int (0 : Int32)), .unset, .unset] [(.int (2 : Int32)), (.int (0 : Int32)), (.ref wo)])) (fun _ k => XS.iconst X11.hh X11.hx rfl (hb hby at_138) k) ?_
    refine Go.of (T' := T11) (g' := (mkF mM 140 #[.val (.int aa), .val (.int ab), .val (.int ac), .val (.int d1), .val (.int d2), .val (.int d3), .val (.int d4), .val (.int (0 : Int32)), .val (.int bb), .val (.int ((ac.toUInt32 >>> ((3 : Int32) &&& 31).toUInt32).toInt32)), .val (.ref wi), .val (.ref wo), .val (.ref wo), .val (.int (0 : Int32)), .unset, .unset] [(.int ((0 : Int32) + (2 : Int32))), (.ref wo)])) (fun _ k => XS.iadd X11.hh X11.hx rfl (hb hby at_139) rfl k) ?_
    refine Go.of (T' := T11) (g' := (mkF mM 142 #[.val (.int aa), .val (.int ab), .val (.int ac), .val (.int d1), .val (.int d2), .val (.int d3), .val (.int d4), .val (.int (0 : Int32)), .val (.int bb), .val (.int ((ac.toUInt32 >>> ((3 : Int32) &&& 31).toUInt32).toInt32)), .val (.ref wi), .val (.ref wo), .val (.ref wo), .val (.int (0 : Int32)), .unset, .unset] [(.int (105 : Int32)), (.int ((0 : Int32) + (2 : Int32))), (.ref wo)])) (fun _ k => XS.bipush X11.hh X11.hx rfl (hb hby at_140) k) ?_
    refine Go.of (T' := T11) (g' := (mkF mM 144 #[.val (.int aa), .val (.int ab), .val (.int ac), .val (.int d1), .val (.int d2), .val (.int d3), .val (.int d4), .val (.int (0 : Int32)), .val (.int bb), .val (.int ((ac.toUInt32 >>> ((3 : Int32) &&& 31).toUInt32).toInt32)), .val (.ref wi), .val (.ref wo), .val (.ref wo), .val (.int (0 : Int32)), .unset, .unset] [(.int ((ac.toUInt32 >>> ((3 : Int32) &&& 31).toUInt32).toInt32)), (.int (105 : Int32)), (.int ((0 : Int32) + (2 : Int32))), (.ref wo)])) (fun _ k => XS.iload X11.hh X11.hx rfl (hb hby at_142) rfl k) ?_
    refine Go.of (T' := T11) (g' := (mkF mM 145 #[.val (.int aa), .val (.int ab), .val (.int ac), .val (.int d1), .val (.int d2), .val (.int d3), .val (.int d4), .val (.int (0 : Int32)), .val (.int bb), .val (.int ((ac.toUInt32 >>> ((3 : Int32) &&& 31).toUInt32).toInt32)), .val (.ref wi), .val (.ref wo), .val (.ref wo), .val (.int (0 : Int32)), .unset, .unset] [(.int (2 : Int32)), (.int ((ac.toUInt32 >>> ((3 : Int32) &&& 31).toUInt32).toInt32)), (.int (105 : Int32)), (.int ((0 : Int32) + (2 : Int32))), (.ref wo)])) (fun _ k => XS.iconst X11.hh X11.hx rfl (hb hby at_144) k) ?_
    refine X11.callS (W := 2) (argsL := [(.int (105 : Int32)), (.int ((ac.toUInt32 >>> ((3 : Int32) &&& 31).toUInt32).toInt32)), (.int (2 : Int32))]) (rest := [(.int ((0 : Int32) + (2 : Int32))), (.ref wo)]) (hw _ (List.mem_of_getElem? (i := 8) rfl)) (hw _ (List.mem_of_getElem? (i := 9) rfl)) (hw _ (List.mem_of_getElem? (i := 2) rfl)) (hw _ (List.mem_of_getElem? (i := 10) rfl)) (by decide) (letter_rm l Z a0 G (105 : Int32) _ _ h11 (by decide) (by decide)) pd_7 rfl rfl rfl (by rw [hml]; rfl) (by decide) (by decide) (by decide) (by decide) (hb hby at_145) all0 all0 ?_
    intro v12 T12 h12 S12 X12 K12 Q12
    have X12 := X12 [] all0
    obtain ⟨m2, rfl, hm2, e12⟩ := Q12
    rw [e12] at X12
    have rm2 : ¬ m2 < 0 ∧ ¬ (255 : Int32) < m2 := by rcases hm2 with rfl | rfl <;> decide
    show Go pP eE bB _ T12 (mkF mM 148 #[.val (.int aa), .val (.int ab), .val (.int ac), .val (.int d1), .val (.int d2), .val (.int d3), .val (.int d4), .val (.int (0 : Int32)), .val (.int bb), .val (.int ((ac.toUInt32 >>> ((3 : Int32) &&& 31).toUInt32).toInt32)), .val (.ref wi), .val (.ref wo), .val (.ref wo), .val (.int (0 : Int32)), .unset, .unset] [(.int m2), (.int ((0 : Int32) + (2 : Int32))), (.ref wo)])
    refine X12.stC 2 V_wo (by decide) (by decide) (Nat.le_of_ble_eq_true rfl) (by omega) (Or.inr (by omega)) (hb hby at_148) ?_
    intro T13 h13 X13 K13 V_wo
    have z13 : h11.size ≤ h13.size := K13.1
    have V_wo : Arv Z h13 wo kc_wo .char (11 : Int32) [(.int m0), (.int m1), (.int m2), (.int (0 : Int32)), (.int (0 : Int32)), (.int (0 : Int32)), (.int (0 : Int32)), (.int (0 : Int32)), (.int (0 : Int32)), (.int (0 : Int32)), (.int (0 : Int32))] (.int (0 : Int32)) := by have q := V_wo; rw [nar255 m2 rm2.1 rm2.2] at q; exact q
    show Go pP eE bB _ T13 (mkF mM 149 #[.val (.int aa), .val (.int ab), .val (.int ac), .val (.int d1), .val (.int d2), .val (.int d3), .val (.int d4), .val (.int (0 : Int32)), .val (.int bb), .val (.int ((ac.toUInt32 >>> ((3 : Int32) &&& 31).toUInt32).toInt32)), .val (.ref wi), .val (.ref wo), .val (.ref wo), .val (.int (0 : Int32)), .unset, .unset] [])
    refine Go.of (T' := T13) (g' := (mkF mM 151 #[.val (.int aa), .val (.int ab), .val (.int ac), .val (.int d1), .val (.int d2), .val (.int d3), .val (.int d4), .val (.int (0 : Int32)), .val (.int bb), .val (.int ((ac.toUInt32 >>> ((3 : Int32) &&& 31).toUInt32).toInt32)), .val (.ref wi), .val (.ref wo), .val (.ref wo), .val (.int (0 : Int32)), .unset, .unset] [(.ref wo)])) (fun _ k => XS.aload X13.hh X13.hx rfl (hb hby at_149) rfl rfl k) ?_
    refine Go.of (T' := T13) (g' := (mkF mM 153 #[.val (.int aa), .val (.int ab), .val (.int ac), .val (.int d1), .val (.int d2), .val (.int d3), .val (.int d4), .val (.int (0 : Int32)), .val (.int bb), .val (.int ((ac.toUInt32 >>> ((3 : Int32) &&& 31).toUInt32).toInt32)), .val (.ref wi), .val (.ref wo), .val (.ref wo), .val (.int (0 : Int32)), .unset, .unset] [(.int (0 : Int32)), (.ref wo)])) (fun _ k => XS.iload X13.hh X13.hx rfl (hb hby at_151) rfl k) ?_
    refine Go.of (T' := T13) (g' := (mkF mM 154 #[.val (.int aa), .val (.int ab), .val (.int ac), .val (.int d1), .val (.int d2), .val (.int d3), .val (.int d4), .val (.int (0 : Int32)), .val (.int bb), .val (.int ((ac.toUInt32 >>> ((3 : Int32) &&& 31).toUInt32).toInt32)), .val (.ref wi), .val (.ref wo), .val (.ref wo), .val (.int (0 : Int32)), .unset, .unset] [(.int (3 : Int32)), (.int (0 : Int32)), (.ref wo)])) (fun _ k => XS.iconst X13.hh X13.hx rfl (hb hby at_153) k) ?_
    refine Go.of (T' := T13) (g' := (mkF mM 155 #[.val (.int aa), .val (.int ab), .val (.int ac), .val (.int d1), .val (.int d2), .val (.int d3), .val (.int d4), .val (.int (0 : Int32)), .val (.int bb), .val (.int ((ac.toUInt32 >>> ((3 : Int32) &&& 31).toUInt32).toInt32)), .val (.ref wi), .val (.ref wo), .val (.ref wo), .val (.int (0 : Int32)), .unset, .unset] [(.int ((0 : Int32) + (3 : Int32))), (.ref wo)])) (fun _ k => XS.iadd X13.hh X13.hx rfl (hb hby at_154) rfl k) ?_
    refine Go.of (T' := T13) (g' := (mkF mM 157 #[.val (.int aa), .val (.int ab), .val (.int ac), .val (.int d1), .val (.int d2), .val (.int d3), .val (.int d4), .val (.int (0 : Int32)), .val (.int bb), .val (.int ((ac.toUInt32 >>> ((3 : Int32) &&& 31).toUInt32).toInt32)), .val (.ref wi), .val (.ref wo), .val (.ref wo), .val (.int (0 : Int32)), .unset, .unset] [(.int (108 : Int32)), (.int ((0 : Int32) + (3 : Int32))), (.ref wo)])) (fun _ k => XS.bipush X13.hh X13.hx rfl (hb hby at_155) k) ?_
    refine Go.of (T' := T13) (g' := (mkF mM 159 #[.val (.int aa), .val (.int ab), .val (.int ac), .val (.int d1), .val (.int d2), .val (.int d3), .val (.int d4), .val (.int (0 : Int32)), .val (.int bb), .val (.int ((ac.toUInt32 >>> ((3 : Int32) &&& 31).toUInt32).toInt32)), .val (.ref wi), .val (.ref wo), .val (.ref wo), .val (.int (0 : Int32)), .unset, .unset] [(.int ((ac.toUInt32 >>> ((3 : Int32) &&& 31).toUInt32).toInt32)), (.int (108 : Int32)), (.int ((0 : Int32) + (3 : Int32))), (.ref wo)])) (fun _ k => XS.iload X13.hh X13.hx rfl (hb hby at_157) rfl k) ?_
    refine Go.of (T' := T13) (g' := (mkF mM 160 #[.val (.int aa), .val (.int ab), .val (.int ac), .val (.int d1), .val (.int d2), .val (.int d3), .val (.int d4), .val (.int (0 : Int32)), .val (.int bb), .val (.int ((ac.toUInt32 >>> ((3 : Int32) &&& 31).toUInt32).toInt32)), .val (.ref wi), .val (.ref wo), .val (.ref wo), .val (.int (0 : Int32)), .unset, .unset] [(.int (3 : Int32)), (.int ((ac.toUInt32 >>> ((3 : Int32) &&& 31).toUInt32).toInt32)), (.int (108 : Int32)), (.int ((0 : Int32) + (3 : Int32))), (.ref wo)])) (fun _ k => XS.iconst X13.hh X13.hx rfl (hb hby at_159) k) ?_
    refine X13.callS (W := 2) (argsL := [(.int (108 : Int32)), (.int ((ac.toUInt32 >>> ((3 : Int32) &&& 31).toUInt32).toInt32)), (.int (3 : Int32))]) (rest := [(.int ((0 : Int32) + (3 : Int32))), (.ref wo)]) (hw _ (List.mem_of_getElem? (i := 8) rfl)) (hw _ (List.mem_of_getElem? (i := 9) rfl)) (hw _ (List.mem_of_getElem? (i := 2) rfl)) (hw _ (List.mem_of_getElem? (i := 10) rfl)) (by decide) (letter_rm l Z a0 G (108 : Int32) _ _ h13 (by decide) (by decide)) pd_7 rfl rfl rfl (by rw [hml]; rfl) (by decide) (by decide) (by decide) (by decide) (hb hby at_160) all0 all0 ?_
    intro v14 T14 h14 S14 X14 K14 Q14
    have X14 := X14 [] all0
    obtain ⟨m3, rfl, hm3, e14⟩ := Q14
    rw [e14] at X14
    have rm3 : ¬ m3 < 0 ∧ ¬ (255 : Int32) < m3 := by rcases hm3 with rfl | rfl <;> decide
    show Go pP eE bB _ T14 (mkF mM 163 #[.val (.int aa), .val (.int ab), .val (.int ac), .val (.int d1), .val (.int d2), .val (.int d3), .val (.int d4), .val (.int (0 : Int32)), .val (.int bb), .val (.int ((ac.toUInt32 >>> ((3 : Int32) &&& 31).toUInt32).toInt32)), .val (.ref wi), .val (.ref wo), .val (.ref wo), .val (.int (0 : Int32)), .unset, .unset] [(.int m3), (.int ((0 : Int32) + (3 : Int32))), (.ref wo)])
    refine X14.stC 3 V_wo (by decide) (by decide) (Nat.le_of_ble_eq_true rfl) (by omega) (Or.inr (by omega)) (hb hby at_163) ?_
    intro T15 h15 X15 K15 V_wo
    have z15 : h13.size ≤ h15.size := K15.1
    have V_wo : Arv Z h15 wo kc_wo .char (11 : Int32) [(.int m0), (.int m1), (.int m2), (.int m3), (.int (0 : Int32)), (.int (0 : Int32)), (.int (0 : Int32)), (.int (0 : Int32)), (.int (0 : Int32)), (.int (0 : Int32)), (.int (0 : Int32))] (.int (0 : Int32)) := by have q := V_wo; rw [nar255 m3 rm3.1 rm3.2] at q; exact q
    show Go pP eE bB _ T15 (mkF mM 164 #[.val (.int aa), .val (.int ab), .val (.int ac), .val (.int d1), .val (.int d2), .val (.int d3), .val (.int d4), .val (.int (0 : Int32)), .val (.int bb), .val (.int ((ac.toUInt32 >>> ((3 : Int32) &&& 31).toUInt32).toInt32)), .val (.ref wi), .val (.ref wo), .val (.ref wo), .val (.int (0 : Int32)), .unset, .unset] [])
    refine Go.of (T' := T15) (g' := (mkF mM 166 #[.val (.int aa), .val (.int ab), .val (.int ac), .val (.int d1), .val (.int d2), .val (.int d3), .val (.int d4), .val (.int (0 : Int32)), .val (.int bb), .val (.int ((ac.toUInt32 >>> ((3 : Int32) &&& 31).toUInt32).toInt32)), .val (.ref wi), .val (.ref wo), .val (.ref wo), .val (.int (0 : Int32)), .unset, .unset] [(.ref wo)])) (fun _ k => XS.aload X15.hh X15.hx rfl (hb hby at_164) rfl rfl k) ?_
    refine Go.of (T' := T15) (g' := (mkF mM 168 #[.val (.int aa), .val (.int ab), .val (.int ac), .val (.int d1), .val (.int d2), .val (.int d3), .val (.int d4), .val (.int (0 : Int32)), .val (.int bb), .val (.int ((ac.toUInt32 >>> ((3 : Int32) &&& 31).toUInt32).toInt32)), .val (.ref wi), .val (.ref wo), .val (.ref wo), .val (.int (0 : Int32)), .unset, .unset] [(.int (0 : Int32)), (.ref wo)])) (fun _ k => XS.iload X15.hh X15.hx rfl (hb hby at_166) rfl k) ?_
    refine Go.of (T' := T15) (g' := (mkF mM 169 #[.val (.int aa), .val (.int ab), .val (.int ac), .val (.int d1), .val (.int d2), .val (.int d3), .val (.int d4), .val (.int (0 : Int32)), .val (.int bb), .val (.int ((ac.toUInt32 >>> ((3 : Int32) &&& 31).toUInt32).toInt32)), .val (.ref wi), .val (.ref wo), .val (.ref wo), .val (.int (0 : Int32)), .unset, .unset] [(.int (4 : Int32)), (.int (0 : Int32)), (.ref wo)])) (fun _ k => XS.iconst X15.hh X15.hx rfl (hb hby at_168) k) ?_
    refine Go.of (T' := T15) (g' := (mkF mM 170 #[.val (.int aa), .val (.int ab), .val (.int ac), .val (.int d1), .val (.int d2), .val (.int d3), .val (.int d4), .val (.int (0 : Int32)), .val (.int bb), .val (.int ((ac.toUInt32 >>> ((3 : Int32) &&& 31).toUInt32).toInt32)), .val (.ref wi), .val (.ref wo), .val (.ref wo), .val (.int (0 : Int32)), .unset, .unset] [(.int ((0 : Int32) + (4 : Int32))), (.ref wo)])) (fun _ k => XS.iadd X15.hh X15.hx rfl (hb hby at_169) rfl k) ?_
    refine Go.of (T' := T15) (g' := (mkF mM 172 #[.val (.int aa), .val (.int ab), .val (.int ac), .val (.int d1), .val (.int d2), .val (.int d3), .val (.int d4), .val (.int (0 : Int32)), .val (.int bb), .val (.int ((ac.toUInt32 >>> ((3 : Int32) &&& 31).toUInt32).toInt32)), .val (.ref wi), .val (.ref wo), .val (.ref wo), .val (.int (0 : Int32)), .unset, .unset] [(.int (116 : Int32)), (.int ((0 : Int32) + (4 : Int32))), (.ref wo)])) (fun _ k => XS.bipush X15.hh X15.hx rfl (hb hby at_170) k) ?_
    refine Go.of (T' := T15) (g' := (mkF mM 174 #[.val (.int aa), .val (.int ab), .val (.int ac), .val (.int d1), .val (.int d2), .val (.int d3), .val (.int d4), .val (.int (0 : Int32)), .val (.int bb), .val (.int ((ac.toUInt32 >>> ((3 : Int32) &&& 31).toUInt32).toInt32)), .val (.ref wi), .val (.ref wo), .val (.ref wo), .val (.int (0 : Int32)), .unset, .unset] [(.int ((ac.toUInt32 >>> ((3 : Int32) &&& 31).toUInt32).toInt32)), (.int (116 : Int32)), (.int ((0 : Int32) + (4 : Int32))), (.ref wo)])) (fun _ k => XS.iload X15.hh X15.hx rfl (hb hby at_172) rfl k) ?_
    refine Go.of (T' := T15) (g' := (mkF mM 175 #[.val (.int aa), .val (.int ab), .val (.int ac), .val (.int d1), .val (.int d2), .val (.int d3), .val (.int d4), .val (.int (0 : Int32)), .val (.int bb), .val (.int ((ac.toUInt32 >>> ((3 : Int32) &&& 31).toUInt32).toInt32)), .val (.ref wi), .val (.ref wo), .val (.ref wo), .val (.int (0 : Int32)), .unset, .unset] [(.int (4 : Int32)), (.int ((ac.toUInt32 >>> ((3 : Int32) &&& 31).toUInt32).toInt32)), (.int (116 : Int32)), (.int ((0 : Int32) + (4 : Int32))), (.ref wo)])) (fun _ k => XS.iconst X15.hh X15.hx rfl (hb hby at_174) k) ?_
    refine X15.callS (W := 2) (argsL := [(.int (116 : Int32)), (.int ((ac.toUInt32 >>> ((3 : Int32) &&& 31).toUInt32).toInt32)), (.int (4 : Int32))]) (rest := [(.int ((0 : Int32) + (4 : Int32))), (.ref wo)]) (hw _ (List.mem_of_getElem? (i := 8) rfl)) (hw _ (List.mem_of_getElem? (i := 9) rfl)) (hw _ (List.mem_of_getElem? (i := 2) rfl)) (hw _ (List.mem_of_getElem? (i := 10) rfl)) (by decide) (letter_rm l Z a0 G (116 : Int32) _ _ h15 (by decide) (by decide)) pd_7 rfl rfl rfl (by rw [hml]; rfl) (by decide) (by decide) (by decide) (by decide) (hb hby at_175) all0 all0 ?_
    intro v16 T16 h16 S16 X16 K16 Q16
    have X16 := X16 [] all0
    obtain ⟨m4, rfl, hm4, e16⟩ := Q16
    rw [e16] at X16
    have rm4 : ¬ m4 < 0 ∧ ¬ (255 : Int32) < m4 := by rcases hm4 with rfl | rfl <;> decide
    show Go pP eE bB _ T16 (mkF mM 178 #[.val (.int aa), .val (.int ab), .val (.int ac), .val (.int d1), .val (.int d2), .val (.int d3), .val (.int d4), .val (.int (0 : Int32)), .val (.int bb), .val (.int ((ac.toUInt32 >>> ((3 : Int32) &&& 31).toUInt32).toInt32)), .val (.ref wi), .val (.ref wo), .val (.ref wo), .val (.int (0 : Int32)), .unset, .unset] [(.int m4), (.int ((0 : Int32) + (4 : Int32))), (.ref wo)])
    refine X16.stC 4 V_wo (by decide) (by decide) (Nat.le_of_ble_eq_true rfl) (by omega) (Or.inr (by omega)) (hb hby at_178) ?_
    intro T17 h17 X17 K17 V_wo
    have z17 : h15.size ≤ h17.size := K17.1
    have V_wo : Arv Z h17 wo kc_wo .char (11 : Int32) [(.int m0), (.int m1), (.int m2), (.int m3), (.int m4), (.int (0 : Int32)), (.int (0 : Int32)), (.int (0 : Int32)), (.int (0 : Int32)), (.int (0 : Int32)), (.int (0 : Int32))] (.int (0 : Int32)) := by have q := V_wo; rw [nar255 m4 rm4.1 rm4.2] at q; exact q
    show Go pP eE bB _ T17 (mkF mM 179 #[.val (.int aa), .val (.int ab), .val (.int ac), .val (.int d1), .val (.int d2), .val (.int d3), .val (.int d4), .val (.int (0 : Int32)), .val (.int bb), .val (.int ((ac.toUInt32 >>> ((3 : Int32) &&& 31).toUInt32).toInt32)), .val (.ref wi), .val (.ref wo), .val (.ref wo), .val (.int (0 : Int32)), .unset, .unset] [])
    refine Go.of (T' := T17) (g' := (mkF mM 181 #[.val (.int aa), .val (.int ab), .val (.int ac), .val (.int d1), .val (.int d2), .val (.int d3), .val (.int d4), .val (.int (0 : Int32)), .val (.int bb), .val (.int ((ac.toUInt32 >>> ((3 : Int32) &&& 31).toUInt32).toInt32)), .val (.ref wi), .val (.ref wo), .val (.ref wo), .val (.int (0 : Int32)), .unset, .unset] [(.ref wo)])) (fun _ k => XS.aload X17.hh X17.hx rfl (hb hby at_179) rfl rfl k) ?_
    refine Go.of (T' := T17) (g' := (mkF mM 183 #[.val (.int aa), .val (.int ab), .val (.int ac), .val (.int d1), .val (.int d2), .val (.int d3), .val (.int d4), .val (.int (0 : Int32)), .val (.int bb), .val (.int ((ac.toUInt32 >>> ((3 : Int32) &&& 31).toUInt32).toInt32)), .val (.ref wi), .val (.ref wo), .val (.ref wo), .val (.int (0 : Int32)), .unset, .unset] [(.int (0 : Int32)), (.ref wo)])) (fun _ k => XS.iload X17.hh X17.hx rfl (hb hby at_181) rfl k) ?_
    refine Go.of (T' := T17) (g' := (mkF mM 184 #[.val (.int aa), .val (.int ab), .val (.int ac), .val (.int d1), .val (.int d2), .val (.int d3), .val (.int d4), .val (.int (0 : Int32)), .val (.int bb), .val (.int ((ac.toUInt32 >>> ((3 : Int32) &&& 31).toUInt32).toInt32)), .val (.ref wi), .val (.ref wo), .val (.ref wo), .val (.int (0 : Int32)), .unset, .unset] [(.int (5 : Int32)), (.int (0 : Int32)), (.ref wo)])) (fun _ k => XS.iconst X17.hh X17.hx rfl (hb hby at_183) k) ?_
    refine Go.of (T' := T17) (g' := (mkF mM 185 #[.val (.int aa), .val (.int ab), .val (.int ac), .val (.int d1), .val (.int d2), .val (.int d3), .val (.int d4), .val (.int (0 : Int32)), .val (.int bb), .val (.int ((ac.toUInt32 >>> ((3 : Int32) &&& 31).toUInt32).toInt32)), .val (.ref wi), .val (.ref wo), .val (.ref wo), .val (.int (0 : Int32)), .unset, .unset] [(.int ((0 : Int32) + (5 : Int32))), (.ref wo)])) (fun _ k => XS.iadd X17.hh X17.hx rfl (hb hby at_184) rfl k) ?_
    refine Go.of (T' := T17) (g' := (mkF mM 187 #[.val (.int aa), .val (.int ab), .val (.int ac), .val (.int d1), .val (.int d2), .val (.int d3), .val (.int d4), .val (.int (0 : Int32)), .val (.int bb), .val (.int ((ac.toUInt32 >>> ((3 : Int32) &&& 31).toUInt32).toInt32)), .val (.ref wi), .val (.ref wo), .val (.ref wo), .val (.int (0 : Int32)), .unset, .unset] [(.int (111 : Int32)), (.int ((0 : Int32) + (5 : Int32))), (.ref wo)])) (fun _ k => XS.bipush X17.hh X17.hx rfl (hb hby at_185) k) ?_
    refine Go.of (T' := T17) (g' := (mkF mM 189 #[.val (.int aa), .val (.int ab), .val (.int ac), .val (.int d1), .val (.int d2), .val (.int d3), .val (.int d4), .val (.int (0 : Int32)), .val (.int bb), .val (.int ((ac.toUInt32 >>> ((3 : Int32) &&& 31).toUInt32).toInt32)), .val (.ref wi), .val (.ref wo), .val (.ref wo), .val (.int (0 : Int32)), .unset, .unset] [(.int ((ac.toUInt32 >>> ((3 : Int32) &&& 31).toUInt32).toInt32)), (.int (111 : Int32)), (.int ((0 : Int32) + (5 : Int32))), (.ref wo)])) (fun _ k => XS.iload X17.hh X17.hx rfl (hb hby at_187) rfl k) ?_
    refine Go.of (T' := T17) (g' := (mkF mM 190 #[.val (.int aa), .val (.int ab), .val (.int ac), .val (.int d1), .val (.int d2), .val (.int d3), .val (.int d4), .val (.int (0 : Int32)), .val (.int bb), .val (.int ((ac.toUInt32 >>> ((3 : Int32) &&& 31).toUInt32).toInt32)), .val (.ref wi), .val (.ref wo), .val (.ref wo), .val (.int (0 : Int32)), .unset, .unset] [(.int (5 : Int32)), (.int ((ac.toUInt32 >>> ((3 : Int32) &&& 31).toUInt32).toInt32)), (.int (111 : Int32)), (.int ((0 : Int32) + (5 : Int32))), (.ref wo)])) (fun _ k => XS.iconst X17.hh X17.hx rfl (hb hby at_189) k) ?_
    refine X17.callS (W := 2) (argsL := [(.int (111 : Int32)), (.int ((ac.toUInt32 >>> ((3 : Int32) &&& 31).toUInt32).toInt32)), (.int (5 : Int32))]) (rest := [(.int ((0 : Int32) + (5 : Int32))), (.ref wo)]) (hw _ (List.mem_of_getElem? (i := 8) rfl)) (hw _ (List.mem_of_getElem? (i := 9) rfl)) (hw _ (List.mem_of_getElem? (i := 2) rfl)) (hw _ (List.mem_of_getElem? (i := 10) rfl)) (by decide) (letter_rm l Z a0 G (111 : Int32) _ _ h17 (by decide) (by decide)) pd_7 rfl rfl rfl (by rw [hml]; rfl) (by decide) (by decide) (by decide) (by decide) (hb hby at_190) all0 all0 ?_
    intro v18 T18 h18 S18 X18 K18 Q18
    have X18 := X18 [] all0
    obtain ⟨m5, rfl, hm5, e18⟩ := Q18
    rw [e18] at X18
    have rm5 : ¬ m5 < 0 ∧ ¬ (255 : Int32) < m5 := by rcases hm5 with rfl | rfl <;> decide
    show Go pP eE bB _ T18 (mkF mM 193 #[.val (.int aa), .val (.int ab), .val (.int ac), .val (.int d1), .val (.int d2), .val (.int d3), .val (.int d4), .val (.int (0 : Int32)), .val (.int bb), .val (.int ((ac.toUInt32 >>> ((3 : Int32) &&& 31).toUInt32).toInt32)), .val (.ref wi), .val (.ref wo), .val (.ref wo), .val (.int (0 : Int32)), .unset, .unset] [(.int m5), (.int ((0 : Int32) + (5 : Int32))), (.ref wo)])
    refine X18.stC 5 V_wo (by decide) (by decide) (Nat.le_of_ble_eq_true rfl) (by omega) (Or.inr (by omega)) (hb hby at_193) ?_
    intro T19 h19 X19 K19 V_wo
    have z19 : h17.size ≤ h19.size := K19.1
    have V_wo : Arv Z h19 wo kc_wo .char (11 : Int32) [(.int m0), (.int m1), (.int m2), (.int m3), (.int m4), (.int m5), (.int (0 : Int32)), (.int (0 : Int32)), (.int (0 : Int32)), (.int (0 : Int32)), (.int (0 : Int32))] (.int (0 : Int32)) := by have q := V_wo; rw [nar255 m5 rm5.1 rm5.2] at q; exact q
    show Go pP eE bB _ T19 (mkF mM 194 #[.val (.int aa), .val (.int ab), .val (.int ac), .val (.int d1), .val (.int d2), .val (.int d3), .val (.int d4), .val (.int (0 : Int32)), .val (.int bb), .val (.int ((ac.toUInt32 >>> ((3 : Int32) &&& 31).toUInt32).toInt32)), .val (.ref wi), .val (.ref wo), .val (.ref wo), .val (.int (0 : Int32)), .unset, .unset] [])
    refine Go.of (T' := T19) (g' := (mkF mM 196 #[.val (.int aa), .val (.int ab), .val (.int ac), .val (.int d1), .val (.int d2), .val (.int d3), .val (.int d4), .val (.int (0 : Int32)), .val (.int bb), .val (.int ((ac.toUInt32 >>> ((3 : Int32) &&& 31).toUInt32).toInt32)), .val (.ref wi), .val (.ref wo), .val (.ref wo), .val (.int (0 : Int32)), .unset, .unset] [(.ref wo)])) (fun _ k => XS.aload X19.hh X19.hx rfl (hb hby at_194) rfl rfl k) ?_
    refine Go.of (T' := T19) (g' := (mkF mM 198 #[.val (.int aa), .val (.int ab), .val (.int ac), .val (.int d1), .val (.int d2), .val (.int d3), .val (.int d4), .val (.int (0 : Int32)), .val (.int bb), .val (.int ((ac.toUInt32 >>> ((3 : Int32) &&& 31).toUInt32).toInt32)), .val (.ref wi), .val (.ref wo), .val (.ref wo), .val (.int (0 : Int32)), .unset, .unset] [(.int (0 : Int32)), (.ref wo)])) (fun _ k => XS.iload X19.hh X19.hx rfl (hb hby at_196) rfl k) ?_
    refine Go.of (T' := T19) (g' := (mkF mM 200 #[.val (.int aa), .val (.int ab), .val (.int ac), .val (.int d1), .val (.int d2), .val (.int d3), .val (.int d4), .val (.int (0 : Int32)), .val (.int bb), .val (.int ((ac.toUInt32 >>> ((3 : Int32) &&& 31).toUInt32).toInt32)), .val (.ref wi), .val (.ref wo), .val (.ref wo), .val (.int (0 : Int32)), .unset, .unset] [(.int (6 : Int32)), (.int (0 : Int32)), (.ref wo)])) (fun _ k => XS.bipush X19.hh X19.hx rfl (hb hby at_198) k) ?_
    refine Go.of (T' := T19) (g' := (mkF mM 201 #[.val (.int aa), .val (.int ab), .val (.int ac), .val (.int d1), .val (.int d2), .val (.int d3), .val (.int d4), .val (.int (0 : Int32)), .val (.int bb), .val (.int ((ac.toUInt32 >>> ((3 : Int32) &&& 31).toUInt32).toInt32)), .val (.ref wi), .val (.ref wo), .val (.ref wo), .val (.int (0 : Int32)), .unset, .unset] [(.int ((0 : Int32) + (6 : Int32))), (.ref wo)])) (fun _ k => XS.iadd X19.hh X19.hx rfl (hb hby at_200) rfl k) ?_
    refine Go.of (T' := T19) (g' := (mkF mM 203 #[.val (.int aa), .val (.int ab), .val (.int ac), .val (.int d1), .val (.int d2), .val (.int d3), .val (.int d4), .val (.int (0 : Int32)), .val (.int bb), .val (.int ((ac.toUInt32 >>> ((3 : Int32) &&& 31).toUInt32).toInt32)), .val (.ref wi), .val (.ref wo), .val (.ref wo), .val (.int (0 : Int32)), .unset, .unset] [(.int (58 : Int32)), (.int ((0 : Int32) + (6 : Int32))), (.ref wo)])) (fun _ k => XS.bipush X19.hh X19.hx rfl (hb hby at_201) k) ?_
    refine X19.stC 6 V_wo (by decide) (by decide) (Nat.le_of_ble_eq_true rfl) (by omega) (Or.inr (by omega)) (hb hby at_203) ?_
    intro T20 h20 X20 K20 V_wo
    have z20 : h19.size ≤ h20.size := K20.1
    have V_wo : Arv Z h20 wo kc_wo .char (11 : Int32) [(.int m0), (.int m1), (.int m2), (.int m3), (.int m4), (.int m5), (.int (58 : Int32)), (.int (0 : Int32)), (.int (0 : Int32)), (.int (0 : Int32)), (.int (0 : Int32))] (.int (0 : Int32)) := by have q := V_wo; rw [(by decide : nar .char (58 : Int32) = 58)] at q; exact q
    show Go pP eE bB _ T20 (mkF mM 204 #[.val (.int aa), .val (.int ab), .val (.int ac), .val (.int d1), .val (.int d2), .val (.int d3), .val (.int d4), .val (.int (0 : Int32)), .val (.int bb), .val (.int ((ac.toUInt32 >>> ((3 : Int32) &&& 31).toUInt32).toInt32)), .val (.ref wi), .val (.ref wo), .val (.ref wo), .val (.int (0 : Int32)), .unset, .unset] [])
    refine Go.of (T' := T20) (g' := (mkF mM 206 #[.val (.int aa), .val (.int ab), .val (.int ac), .val (.int d1), .val (.int d2), .val (.int d3), .val (.int d4), .val (.int (0 : Int32)), .val (.int bb), .val (.int ((ac.toUInt32 >>> ((3 : Int32) &&& 31).toUInt32).toInt32)), .val (.ref wi), .val (.ref wo), .val (.ref wo), .val (.int (0 : Int32)), .unset, .unset] [(.ref wo)])) (fun _ k => XS.aload X20.hh X20.hx rfl (hb hby at_204) rfl rfl k) ?_
    refine Go.of (T' := T20) (g' := (mkF mM 208 #[.val (.int aa), .val (.int ab), .val (.int ac), .val (.int d1), .val (.int d2), .val (.int d3), .val (.int d4), .val (.int (0 : Int32)), .val (.int bb), .val (.int ((ac.toUInt32 >>> ((3 : Int32) &&& 31).toUInt32).toInt32)), .val (.ref wi), .val (.ref wo), .val (.ref wo), .val (.int (0 : Int32)), .unset, .unset] [(.int (0 : Int32)), (.ref wo)])) (fun _ k => XS.iload X20.hh X20.hx rfl (hb hby at_206) rfl k) ?_
    refine Go.of (T' := T20) (g' := (mkF mM 210 #[.val (.int aa), .val (.int ab), .val (.int ac), .val (.int d1), .val (.int d2), .val (.int d3), .val (.int d4), .val (.int (0 : Int32)), .val (.int bb), .val (.int ((ac.toUInt32 >>> ((3 : Int32) &&& 31).toUInt32).toInt32)), .val (.ref wi), .val (.ref wo), .val (.ref wo), .val (.int (0 : Int32)), .unset, .unset] [(.int (7 : Int32)), (.int (0 : Int32)), (.ref wo)])) (fun _ k => XS.bipush X20.hh X20.hx rfl (hb hby at_208) k) ?_
    refine Go.of (T' := T20) (g' := (mkF mM 211 #[.val (.int aa), .val (.int ab), .val (.int ac), .val (.int d1), .val (.int d2), .val (.int d3), .val (.int d4), .val (.int (0 : Int32)), .val (.int bb), .val (.int ((ac.toUInt32 >>> ((3 : Int32) &&& 31).toUInt32).toInt32)), .val (.ref wi), .val (.ref wo), .val (.ref wo), .val (.int (0 : Int32)), .unset, .unset] [(.int ((0 : Int32) + (7 : Int32))), (.ref wo)])) (fun _ k => XS.iadd X20.hh X20.hx rfl (hb hby at_210) rfl k) ?_
    refine Go.of (T' := T20) (g' := (mkF mM 212 #[.val (.int aa), .val (.int ab), .val (.int ac), .val (.int d1), .val (.int d2), .val (.int d3), .val (.int d4), .val (.int (0 : Int32)), .val (.int bb), .val (.int ((ac.toUInt32 >>> ((3 : Int32) &&& 31).toUInt32).toInt32)), .val (.ref wi), .val (.ref wo), .val (.ref wo), .val (.int (0 : Int32)), .unset, .unset] [(.int d1), (.int ((0 : Int32) + (7 : Int32))), (.ref wo)])) (fun _ k => XS.iloadN X20.hh X20.hx rfl (hb hby at_211) rfl k) ?_
    refine X20.stC 7 V_wo (by decide) (by decide) (Nat.le_of_ble_eq_true rfl) (by omega) (Or.inr (by omega)) (hb hby at_212) ?_
    intro T21 h21 X21 K21 V_wo
    have z21 : h20.size ≤ h21.size := K21.1
    have V_wo : Arv Z h21 wo kc_wo .char (11 : Int32) [(.int m0), (.int m1), (.int m2), (.int m3), (.int m4), (.int m5), (.int (58 : Int32)), (.int d1), (.int (0 : Int32)), (.int (0 : Int32)), (.int (0 : Int32))] (.int (0 : Int32)) := by have q := V_wo; rw [nar255 d1 r1.1 r1.2] at q; exact q
    show Go pP eE bB _ T21 (mkF mM 213 #[.val (.int aa), .val (.int ab), .val (.int ac), .val (.int d1), .val (.int d2), .val (.int d3), .val (.int d4), .val (.int (0 : Int32)), .val (.int bb), .val (.int ((ac.toUInt32 >>> ((3 : Int32) &&& 31).toUInt32).toInt32)), .val (.ref wi), .val (.ref wo), .val (.ref wo), .val (.int (0 : Int32)), .unset, .unset] [])
    refine Go.of (T' := T21) (g' := (mkF mM 215 #[.val (.int aa), .val (.int ab), .val (.int ac), .val (.int d1), .val (.int d2), .val (.int d3), .val (.int d4), .val (.int (0 : Int32)), .val (.int bb), .val (.int ((ac.toUInt32 >>> ((3 : Int32) &&& 31).toUInt32).toInt32)), .val (.ref wi), .val (.ref wo), .val (.ref wo), .val (.int (0 : Int32)), .unset, .unset] [(.ref wo)])) (fun _ k => XS.aload X21.hh X21.hx rfl (hb hby at_213) rfl rfl k) ?_
    refine Go.of (T' := T21) (g' := (mkF mM 217 #[.val (.int aa), .val (.int ab), .val (.int ac), .val (.int d1), .val (.int d2), .val (.int d3), .val (.int d4), .val (.int (0 : Int32)), .val (.int bb), .val (.int ((ac.toUInt32 >>> ((3 : Int32) &&& 31).toUInt32).toInt32)), .val (.ref wi), .val (.ref wo), .val (.ref wo), .val (.int (0 : Int32)), .unset, .unset] [(.int (0 : Int32)), (.ref wo)])) (fun _ k => XS.iload X21.hh X21.hx rfl (hb hby at_215) rfl k) ?_
    refine Go.of (T' := T21) (g' := (mkF mM 219 #[.val (.int aa), .val (.int ab), .val (.int ac), .val (.int d1), .val (.int d2), .val (.int d3), .val (.int d4), .val (.int (0 : Int32)), .val (.int bb), .val (.int ((ac.toUInt32 >>> ((3 : Int32) &&& 31).toUInt32).toInt32)), .val (.ref wi), .val (.ref wo), .val (.ref wo), .val (.int (0 : Int32)), .unset, .unset] [(.int (8 : Int32)), (.int (0 : Int32)), (.ref wo)])) (fun _ k => XS.bipush X21.hh X21.hx rfl (hb hby at_217) k) ?_
    refine Go.of (T' := T21) (g' := (mkF mM 220 #[.val (.int aa), .val (.int ab), .val (.int ac), .val (.int d1), .val (.int d2), .val (.int d3), .val (.int d4), .val (.int (0 : Int32)), .val (.int bb), .val (.int ((ac.toUInt32 >>> ((3 : Int32) &&& 31).toUInt32).toInt32)), .val (.ref wi), .val (.ref wo), .val (.ref wo), .val (.int (0 : Int32)), .unset, .unset] [(.int ((0 : Int32) + (8 : Int32))), (.ref wo)])) (fun _ k => XS.iadd X21.hh X21.hx rfl (hb hby at_219) rfl k) ?_
    refine Go.of (T' := T21) (g' := (mkF mM 222 #[.val (.int aa), .val (.int ab), .val (.int ac), .val (.int d1), .val (.int d2), .val (.int d3), .val (.int d4), .val (.int (0 : Int32)), .val (.int bb), .val (.int ((ac.toUInt32 >>> ((3 : Int32) &&& 31).toUInt32).toInt32)), .val (.ref wi), .val (.ref wo), .val (.ref wo), .val (.int (0 : Int32)), .unset, .unset] [(.int d2), (.int ((0 : Int32) + (8 : Int32))), (.ref wo)])) (fun _ k => XS.iload X21.hh X21.hx rfl (hb hby at_220) rfl k) ?_
    refine X21.stC 8 V_wo (by decide) (by decide) (Nat.le_of_ble_eq_true rfl) (by omega) (Or.inr (by omega)) (hb hby at_222) ?_
    intro T22 h22 X22 K22 V_wo
    have z22 : h21.size ≤ h22.size := K22.1
    have V_wo : Arv Z h22 wo kc_wo .char (11 : Int32) [(.int m0), (.int m1), (.int m2), (.int m3), (.int m4), (.int m5), (.int (58 : Int32)), (.int d1), (.int d2), (.int (0 : Int32)), (.int (0 : Int32))] (.int (0 : Int32)) := by have q := V_wo; rw [nar255 d2 r2.1 r2.2] at q; exact q
    show Go pP eE bB _ T22 (mkF mM 223 #[.val (.int aa), .val (.int ab), .val (.int ac), .val (.int d1), .val (.int d2), .val (.int d3), .val (.int d4), .val (.int (0 : Int32)), .val (.int bb), .val (.int ((ac.toUInt32 >>> ((3 : Int32) &&& 31).toUInt32).toInt32)), .val (.ref wi), .val (.ref wo), .val (.ref wo), .val (.int (0 : Int32)), .unset, .unset] [])
    refine Go.of (T' := T22) (g' := (mkF mM 225 #[.val (.int aa), .val (.int ab), .val (.int ac), .val (.int d1), .val (.int d2), .val (.int d3), .val (.int d4), .val (.int (0 : Int32)), .val (.int bb), .val (.int ((ac.toUInt32 >>> ((3 : Int32) &&& 31).toUInt32).toInt32)), .val (.ref wi), .val (.ref wo), .val (.ref wo), .val (.int (0 : Int32)), .unset, .unset] [(.ref wo)])) (fun _ k => XS.aload X22.hh X22.hx rfl (hb hby at_223) rfl rfl k) ?_
    refine Go.of (T' := T22) (g' := (mkF mM 227 #[.val (.int aa), .val (.int ab), .val (.int ac), .val (.int d1), .val (.int d2), .val (.int d3), .val (.int d4), .val (.int (0 : Int32)), .val (.int bb), .val (.int ((ac.toUInt32 >>> ((3 : Int32) &&& 31).toUInt32).toInt32)), .val (.ref wi), .val (.ref wo), .val (.ref wo), .val (.int (0 : Int32)), .unset, .unset] [(.int (0 : Int32)), (.ref wo)])) (fun _ k => XS.iload X22.hh X22.hx rfl (hb hby at_225) rfl k) ?_
    refine Go.of (T' := T22) (g' := (mkF mM 229 #[.val (.int aa), .val (.int ab), .val (.int ac), .val (.int d1), .val (.int d2), .val (.int d3), .val (.int d4), .val (.int (0 : Int32)), .val (.int bb), .val (.int ((ac.toUInt32 >>> ((3 : Int32) &&& 31).toUInt32).toInt32)), .val (.ref wi), .val (.ref wo), .val (.ref wo), .val (.int (0 : Int32)), .unset, .unset] [(.int (9 : Int32)), (.int (0 : Int32)), (.ref wo)])) (fun _ k => XS.bipush X22.hh X22.hx rfl (hb hby at_227) k) ?_
    refine Go.of (T' := T22) (g' := (mkF mM 230 #[.val (.int aa), .val (.int ab), .val (.int ac), .val (.int d1), .val (.int d2), .val (.int d3), .val (.int d4), .val (.int (0 : Int32)), .val (.int bb), .val (.int ((ac.toUInt32 >>> ((3 : Int32) &&& 31).toUInt32).toInt32)), .val (.ref wi), .val (.ref wo), .val (.ref wo), .val (.int (0 : Int32)), .unset, .unset] [(.int ((0 : Int32) + (9 : Int32))), (.ref wo)])) (fun _ k => XS.iadd X22.hh X22.hx rfl (hb hby at_229) rfl k) ?_
    refine Go.of (T' := T22) (g' := (mkF mM 232 #[.val (.int aa), .val (.int ab), .val (.int ac), .val (.int d1), .val (.int d2), .val (.int d3), .val (.int d4), .val (.int (0 : Int32)), .val (.int bb), .val (.int ((ac.toUInt32 >>> ((3 : Int32) &&& 31).toUInt32).toInt32)), .val (.ref wi), .val (.ref wo), .val (.ref wo), .val (.int (0 : Int32)), .unset, .unset] [(.int d3), (.int ((0 : Int32) + (9 : Int32))), (.ref wo)])) (fun _ k => XS.iload X22.hh X22.hx rfl (hb hby at_230) rfl k) ?_
    refine X22.stC 9 V_wo (by decide) (by decide) (Nat.le_of_ble_eq_true rfl) (by omega) (Or.inr (by omega)) (hb hby at_232) ?_
    intro T23 h23 X23 K23 V_wo
    have z23 : h22.size ≤ h23.size := K23.1
    have V_wo : Arv Z h23 wo kc_wo .char (11 : Int32) [(.int m0), (.int m1), (.int m2), (.int m3), (.int m4), (.int m5), (.int (58 : Int32)), (.int d1), (.int d2), (.int d3), (.int (0 : Int32))] (.int (0 : Int32)) := by have q := V_wo; rw [nar255 d3 r3.1 r3.2] at q; exact q
    show Go pP eE bB _ T23 (mkF mM 233 #[.val (.int aa), .val (.int ab), .val (.int ac), .val (.int d1), .val (.int d2), .val (.int d3), .val (.int d4), .val (.int (0 : Int32)), .val (.int bb), .val (.int ((ac.toUInt32 >>> ((3 : Int32) &&& 31).toUInt32).toInt32)), .val (.ref wi), .val (.ref wo), .val (.ref wo), .val (.int (0 : Int32)), .unset, .unset] [])
    refine Go.of (T' := T23) (g' := (mkF mM 235 #[.val (.int aa), .val (.int ab), .val (.int ac), .val (.int d1), .val (.int d2), .val (.int d3), .val (.int d4), .val (.int (0 : Int32)), .val (.int bb), .val (.int ((ac.toUInt32 >>> ((3 : Int32) &&& 31).toUInt32).toInt32)), .val (.ref wi), .val (.ref wo), .val (.ref wo), .val (.int (0 : Int32)), .unset, .unset] [(.ref wo)])) (fun _ k => XS.aload X23.hh X23.hx rfl (hb hby at_233) rfl rfl k) ?_
    refine Go.of (T' := T23) (g' := (mkF mM 237 #[.val (.int aa), .val (.int ab), .val (.int ac), .val (.int d1), .val (.int d2), .val (.int d3), .val (.int d4), .val (.int (0 : Int32)), .val (.int bb), .val (.int ((ac.toUInt32 >>> ((3 : Int32) &&& 31).toUInt32).toInt32)), .val (.ref wi), .val (.ref wo), .val (.ref wo), .val (.int (0 : Int32)), .unset, .unset] [(.int (0 : Int32)), (.ref wo)])) (fun _ k => XS.iload X23.hh X23.hx rfl (hb hby at_235) rfl k) ?_
    refine Go.of (T' := T23) (g' := (mkF mM 239 #[.val (.int aa), .val (.int ab), .val (.int ac), .val (.int d1), .val (.int d2), .val (.int d3), .val (.int d4), .val (.int (0 : Int32)), .val (.int bb), .val (.int ((ac.toUInt32 >>> ((3 : Int32) &&& 31).toUInt32).toInt32)), .val (.ref wi), .val (.ref wo), .val (.ref wo), .val (.int (0 : Int32)), .unset, .unset] [(.int (10 : Int32)), (.int (0 : Int32)), (.ref wo)])) (fun _ k => XS.bipush X23.hh X23.hx rfl (hb hby at_237) k) ?_
    refine Go.of (T' := T23) (g' := (mkF mM 240 #[.val (.int aa), .val (.int ab), .val (.int ac), .val (.int d1), .val (.int d2), .val (.int d3), .val (.int d4), .val (.int (0 : Int32)), .val (.int bb), .val (.int ((ac.toUInt32 >>> ((3 : Int32) &&& 31).toUInt32).toInt32)), .val (.ref wi), .val (.ref wo), .val (.ref wo), .val (.int (0 : Int32)), .unset, .unset] [(.int ((0 : Int32) + (10 : Int32))), (.ref wo)])) (fun _ k => XS.iadd X23.hh X23.hx rfl (hb hby at_239) rfl k) ?_
    refine Go.of (T' := T23) (g' := (mkF mM 242 #[.val (.int aa), .val (.int ab), .val (.int ac), .val (.int d1), .val (.int d2), .val (.int d3), .val (.int d4), .val (.int (0 : Int32)), .val (.int bb), .val (.int ((ac.toUInt32 >>> ((3 : Int32) &&& 31).toUInt32).toInt32)), .val (.ref wi), .val (.ref wo), .val (.ref wo), .val (.int (0 : Int32)), .unset, .unset] [(.int d4), (.int ((0 : Int32) + (10 : Int32))), (.ref wo)])) (fun _ k => XS.iload X23.hh X23.hx rfl (hb hby at_240) rfl k) ?_
    refine X23.stC 10 V_wo (by decide) (by decide) (Nat.le_of_ble_eq_true rfl) (by omega) (Or.inr (by omega)) (hb hby at_242) ?_
    intro T24 h24 X24 K24 V_wo
    have z24 : h23.size ≤ h24.size := K24.1
    have V_wo : Arv Z h24 wo kc_wo .char (11 : Int32) [(.int m0), (.int m1), (.int m2), (.int m3), (.int m4), (.int m5), (.int (58 : Int32)), (.int d1), (.int d2), (.int d3), (.int d4)] (.int (0 : Int32)) := by have q := V_wo; rw [nar255 d4 r4.1 r4.2] at q; exact q
    show Go pP eE bB _ T24 (mkF mM 243 #[.val (.int aa), .val (.int ab), .val (.int ac), .val (.int d1), .val (.int d2), .val (.int d3), .val (.int d4), .val (.int (0 : Int32)), .val (.int bb), .val (.int ((ac.toUInt32 >>> ((3 : Int32) &&& 31).toUInt32).toInt32)), .val (.ref wi), .val (.ref wo), .val (.ref wo), .val (.int (0 : Int32)), .unset, .unset] [])
    refine X24.newO (hw _ (List.mem_of_getElem? (i := 11) rfl)) (hw _ (List.mem_of_getElem? (i := 12) rfl)) (hw _ (List.mem_of_getElem? (i := 13) rfl)) (hb hby at_243) (by decide) (by decide) ?_
    intro T25 h25 lc g_lc X25 E25 A_lc D_lc
    have z25 : h24.size ≤ h25.size := E25.1
    have l_lc : lc < h25.size := A_lc.lt
    have F_link_lc : Fld Z h25 lc "com/example/hfields/hfields/LinkCut" "link" "Ljava/lang/String;" .null := D_lc (Or.inr (hw _ (List.mem_of_getElem? (i := 95) rfl))) (ty := (.object "java/lang/String")) (by decide)
    have F_addressStart_lc : Fld Z h25 lc "com/example/hfields/hfields/LinkCut" "addressStart" "I" (.int (0 : Int32)) := D_lc (Or.inr (hw _ (List.mem_of_getElem? (i := 97) rfl))) (ty := .int) (by decide)
    have F_trimmedEnd_lc : Fld Z h25 lc "com/example/hfields/hfields/LinkCut" "trimmedEnd" "I" (.int (0 : Int32)) := D_lc (Or.inr (hw _ (List.mem_of_getElem? (i := 99) rfl))) (ty := .int) (by decide)
    have F_end_lc : Fld Z h25 lc "com/example/hfields/hfields/LinkCut" "end" "I" (.int (0 : Int32)) := D_lc (Or.inr (hw _ (List.mem_of_getElem? (i := 104) rfl))) (ty := .int) (by decide)
    have F_addressEnd_lc : Fld Z h25 lc "com/example/hfields/hfields/LinkCut" "addressEnd" "I" (.int (0 : Int32)) := D_lc (Or.inr (hw _ (List.mem_of_getElem? (i := 106) rfl))) (ty := .int) (by decide)
    show Go pP eE bB _ T25 (mkF mM 246 #[.val (.int aa), .val (.int ab), .val (.int ac), .val (.int d1), .val (.int d2), .val (.int d3), .val (.int d4), .val (.int (0 : Int32)), .val (.int bb), .val (.int ((ac.toUInt32 >>> ((3 : Int32) &&& 31).toUInt32).toInt32)), .val (.ref wi), .val (.ref wo), .val (.ref wo), .val (.int (0 : Int32)), .unset, .unset] [(.ref lc)])
    refine Go.of (T' := T25) (g' := (mkF mM 247 #[.val (.int aa), .val (.int ab), .val (.int ac), .val (.int d1), .val (.int d2), .val (.int d3), .val (.int d4), .val (.int (0 : Int32)), .val (.int bb), .val (.int ((ac.toUInt32 >>> ((3 : Int32) &&& 31).toUInt32).toInt32)), .val (.ref wi), .val (.ref wo), .val (.ref wo), .val (.int (0 : Int32)), .unset, .unset] [(.ref lc), (.ref lc)])) (fun _ k => XS.dup X25.hh X25.hx rfl (hb hby at_246) rfl rfl k) ?_
    refine X25.newO (hw _ (List.mem_of_getElem? (i := 14) rfl)) (hw _ (List.mem_of_getElem? (i := 15) rfl)) (hw _ (List.mem_of_getElem? (i := 16) rfl)) (hb hby at_247) (by decide) (by decide) ?_
    intro T26 h26 r g_r X26 E26 A_r D_r
    have z26 : h25.size ≤ h26.size := E26.1
    have l_r : r < h26.size := A_r.lt
    have F_coder_r : Fld Z h26 r "java/lang/String" "coder" "B" (.int (0 : Int32)) := D_r (Or.inr (hw _ (List.mem_of_getElem? (i := 40) rfl))) (ty := .byte) (by decide)
    have F_value_r : Fld Z h26 r "java/lang/String" "value" "[B" .null := D_r (Or.inr (hw _ (List.mem_of_getElem? (i := 42) rfl))) (ty := (.array .byte)) (by decide)
    show Go pP eE bB _ T26 (mkF mM 250 #[.val (.int aa), .val (.int ab), .val (.int ac), .val (.int d1), .val (.int d2), .val (.int d3), .val (.int d4), .val (.int (0 : Int32)), .val (.int bb), .val (.int ((ac.toUInt32 >>> ((3 : Int32) &&& 31).toUInt32).toInt32)), .val (.ref wi), .val (.ref wo), .val (.ref wo), .val (.int (0 : Int32)), .unset, .unset] [(.ref r), (.ref lc), (.ref lc)])
    refine Go.of (T' := T26) (g' := (mkF mM 251 #[.val (.int aa), .val (.int ab), .val (.int ac), .val (.int d1), .val (.int d2), .val (.int d3), .val (.int d4), .val (.int (0 : Int32)), .val (.int bb), .val (.int ((ac.toUInt32 >>> ((3 : Int32) &&& 31).toUInt32).toInt32)), .val (.ref wi), .val (.ref wo), .val (.ref wo), .val (.int (0 : Int32)), .unset, .unset] [(.ref r), (.ref r), (.ref lc), (.ref lc)])) (fun _ k => XS.dup X26.hh X26.hx rfl (hb hby at_250) rfl rfl k) ?_
    refine Go.of (T' := T26) (g' := (mkF mM 253 #[.val (.int aa), .val (.int ab), .val (.int ac), .val (.int d1), .val (.int d2), .val (.int d3), .val (.int d4), .val (.int (0 : Int32)), .val (.int bb), .val (.int ((ac.toUInt32 >>> ((3 : Int32) &&& 31).toUInt32).toInt32)), .val (.ref wi), .val (.ref wo), .val (.ref wo), .val (.int (0 : Int32)), .unset, .unset] [(.ref wo), (.ref r), (.ref r), (.ref lc), (.ref lc)])) (fun _ k => XS.aload X26.hh X26.hx rfl (hb hby at_251) rfl rfl k) ?_
    have hp : ∀ c ∈ ([m0, m1, m2, m3, m4, m5, (58 : Int32), d1, d2, d3, d4] : List Int32), ¬ c < 0 ∧ ¬ (255 : Int32) < c := by
      intro c hc
      simp only [List.mem_cons, List.not_mem_nil, or_false] at hc
      rcases hc with rfl | rfl | rfl | rfl | rfl | rfl | rfl | rfl | rfl | rfl | rfl
      · exact rm0
      · exact rm1
      · exact rm2
      · exact rm3
      · exact rm4
      · exact rm5
      · exact ⟨by decide, by decide⟩
      · exact r1
      · exact r2
      · exact r3
      · exact r4
    have V_wo := ((V_wo.ext E25).ext E26)
    refine X26.callCN (W := 3) (argsL := [(.ref wo)]) (rest := [(.ref r), (.ref lc), (.ref lc)]) (nc := 1) (ns := 11) (ws' := [r]) (a := r) rfl (hw _ (List.mem_of_getElem? (i := 17) rfl)) (hw _ (List.mem_of_getElem? (i := 18) rfl)) (hw _ (List.mem_of_getElem? (i := 19) rfl)) (by decide) (fun vm0 hZ => StrChars.Road.backV (s := sS.setVm vm0) (W := 3) hZ hws (kI := 4) (hw _ (List.mem_of_getElem? (i := 15) rfl)) (cs := ([m0, m1, m2, m3, m4, m5, (58 : Int32), d1, d2, d3, d4] : List Int32)) (bs := ([m0, m1, m2, m3, m4, m5, (58 : Int32), d1, d2, d3, d4] : List Int32).map (fun c => c.toInt8.toInt32)) (n := 11) (n0 := Z.heap.size) (by omega) (by omega) A_r F_value_r F_coder_r V_wo (Sc.ext X26.ext0) hzc rfl rfl (by decide) (by decide) hp rfl (by decide) (by decide)) (fun v h' L q => ⟨q.2.1, q.2.2.1⟩) pd_8 rfl rfl rfl (by rw [hml]; rfl) (by decide) (by decide) (hb hby at_253) (allS (by omega) all0) (allS (Or.inr (by omega)) all0) (allS (Sfe.mem (List.mem_of_getElem? (i := 0) rfl)) all0) ?_
    intro v27 T27 h27 X27 K27 Q27
    obtain ⟨_, ⟨rfl, -, -, A_r, C_r, t_r, kb_r, gt_r, gs_r, -, V_r, B_r⟩⟩ := Q27
    have z27 : h26.size ≤ h27.size := K27.1
    show Go pP eE bB _ T27 (mkF mM 256 #[.val (.int aa), .val (.int ab), .val (.int ac), .val (.int d1), .val (.int d2), .val (.int d3), .val (.int d4), .val (.int (0 : Int32)), .val (.int bb), .val (.int ((ac.toUInt32 >>> ((3 : Int32) &&& 31).toUInt32).toInt32)), .val (.ref wi), .val (.ref wo), .val (.ref wo), .val (.int (0 : Int32)), .unset, .unset] [(.ref r), (.ref lc), (.ref lc)])
    have lt_r : t_r < h27.size := B_r.lt
    have St_r : Str Z h27 r t_r kb_r ([m0, m1, m2, m3, m4, m5, (58 : Int32), d1, d2, d3, d4] : List Int32) := ⟨A_r, V_r, C_r, B_r, hp, Nat.le_of_ble_eq_true rfl⟩
    have hall : ∀ i, i < 7 → low (([m0, m1, m2, m3, m4, m5, (58 : Int32), d1, d2, d3, d4] : List Int32).getD (0 + i) 0) = mto.getD i 0 := by
      intro i hi
      match i, hi with
      | 0, _ => (show low m0 = (109 : Int32); rcases hm0 with rfl | rfl <;> decide)
      | 1, _ => (show low m1 = (97 : Int32); rcases hm1 with rfl | rfl <;> decide)
      | 2, _ => (show low m2 = (105 : Int32); rcases hm2 with rfl | rfl <;> decide)
      | 3, _ => (show low m3 = (108 : Int32); rcases hm3 with rfl | rfl <;> decide)
      | 4, _ => (show low m4 = (116 : Int32); rcases hm4 with rfl | rfl <;> decide)
      | 5, _ => (show low m5 = (111 : Int32); rcases hm5 with rfl | rfl <;> decide)
      | 6, _ => (show low (58 : Int32) = 58; decide)
      | i + 7, hi => exact absurd hi (by omega)
    have hb1 : ¬ blk (([m0, m1, m2, m3, m4, m5, (58 : Int32), d1, d2, d3, d4] : List Int32).getD 0 0) := by
      show ¬ blk m0
      rcases hm0 with rfl | rfl <;> exact nblk (by decide) (by decide) (by decide) (by decide)
    have hb0 : ∀ j, j < 0 → blk (([m0, m1, m2, m3, m4, m5, (58 : Int32), d1, d2, d3, d4] : List Int32).getD j 0) := fun j hj => absurd hj (Nat.not_lt_zero _)
    have A_lc := ((A_lc.ext E26).keep K27)
    have F_link_lc := ((F_link_lc.ext E26).keep K27 (ninN (by omega) nin0))
    have F_addressStart_lc := ((F_addressStart_lc.ext E26).keep K27 (ninN (by omega) nin0))
    have F_trimmedEnd_lc := ((F_trimmedEnd_lc.ext E26).keep K27 (ninN (by omega) nin0))
    have F_end_lc := ((F_end_lc.ext E26).keep K27 (ninN (by omega) nin0))
    have F_addressEnd_lc := ((F_addressEnd_lc.ext E26).keep K27 (ninN (by omega) nin0))
    refine X27.callC (W := 1) (argsL := [(.ref r)]) (rest := [(.ref lc)]) (a := lc) rfl (hw _ (List.mem_of_getElem? (i := 43) rfl)) (hw _ (List.mem_of_getElem? (i := 44) rfl)) (hw _ (List.mem_of_getElem? (i := 13) rfl)) (hw _ (List.mem_of_getElem? (i := 45) rfl)) (by decide) (lc_init l Z a0 G lc r t_r kb_r ([m0, m1, m2, m3, m4, m5, (58 : Int32), d1, d2, d3, d4] : List Int32) 0 h27 A_lc F_link_lc F_addressStart_lc F_trimmedEnd_lc F_end_lc F_addressEnd_lc (by omega) (by omega) (by omega) St_r (Nat.le_of_ble_eq_true rfl) hall hb0 hb1) pd_9 rfl rfl rfl (by rw [hml]; rfl) (by decide) (by decide) (by decide) (by decide) (hb hby at_256) (allS (Or.inr (by omega)) all0) all0 ?_
    intro v28 T28 h28 S28 X28 K28 Q28
    obtain ⟨rfl, ee, ae, E1, E2, E3, h4, h5, hif⟩ := Q28
    have X28 := X28 [] all0
    have z28 : h27.size ≤ h28.size := K28.1
    show Go pP eE bB _ T28 (mkF mM 259 #[.val (.int aa), .val (.int ab), .val (.int ac), .val (.int d1), .val (.int d2), .val (.int d3), .val (.int d4), .val (.int (0 : Int32)), .val (.int bb), .val (.int ((ac.toUInt32 >>> ((3 : Int32) &&& 31).toUInt32).toInt32)), .val (.ref wi), .val (.ref wo), .val (.ref wo), .val (.int (0 : Int32)), .unset, .unset] [(.ref lc)])
    refine Go.of (T' := T28) (g' := (mkF mM 261 #[.val (.int aa), .val (.int ab), .val (.int ac), .val (.int d1), .val (.int d2), .val (.int d3), .val (.int d4), .val (.int (0 : Int32)), .val (.int bb), .val (.int ((ac.toUInt32 >>> ((3 : Int32) &&& 31).toUInt32).toInt32)), .val (.ref wi), .val (.ref wo), .val (.ref wo), .val (.int (0 : Int32)), .val (.ref lc), .unset] [])) (fun _ k => XS.astore X28.hh X28.hx rfl (hb hby at_259) rfl rfl (l' := #[.val (.int aa), .val (.int ab), .val (.int ac), .val (.int d1), .val (.int d2), .val (.int d3), .val (.int d4), .val (.int (0 : Int32)), .val (.int bb), .val (.int ((ac.toUInt32 >>> ((3 : Int32) &&& 31).toUInt32).toInt32)), .val (.ref wi), .val (.ref wo), .val (.ref wo), .val (.int (0 : Int32)), .val (.ref lc), .unset]) rfl k) ?_
    refine Go.of (T' := T28) (g' := (mkF mM 262 #[.val (.int aa), .val (.int ab), .val (.int ac), .val (.int d1), .val (.int d2), .val (.int d3), .val (.int d4), .val (.int (0 : Int32)), .val (.int bb), .val (.int ((ac.toUInt32 >>> ((3 : Int32) &&& 31).toUInt32).toInt32)), .val (.ref wi), .val (.ref wo), .val (.ref wo), .val (.int (0 : Int32)), .val (.ref lc), .unset] [(.int d1)])) (fun _ k => XS.iloadN X28.hh X28.hx rfl (hb hby at_261) rfl k) ?_
    refine Go.of (T' := T28) (g' := (mkF mM 264 #[.val (.int aa), .val (.int ab), .val (.int ac), .val (.int d1), .val (.int d2), .val (.int d3), .val (.int d4), .val (.int (0 : Int32)), .val (.int bb), .val (.int ((ac.toUInt32 >>> ((3 : Int32) &&& 31).toUInt32).toInt32)), .val (.ref wi), .val (.ref wo), .val (.ref wo), .val (.int (0 : Int32)), .val (.ref lc), .unset] [(.int (63 : Int32)), (.int d1)])) (fun _ k => XS.bipush X28.hh X28.hx rfl (hb hby at_262) k) ?_
    have hx : Hf ([m0, m1, m2, m3, m4, m5, (58 : Int32), d1, d2, d3, d4] : List Int32) 7 ↔ (d1 = 63 ∨ (¬ d1 = 35 ∧ (d2 = 63 ∨ (¬ d2 = 35 ∧ (d3 = 63 ∨ (¬ d3 = 35 ∧ d4 = 63)))))) := hf_four rfl rfl rfl rfl rfl
    rw [hx] at hif
    have J : ∀ (xx : Int32), ((xx = 1 ∧ (d1 = 63 ∨ (¬ d1 = 35 ∧ (d2 = 63 ∨ (¬ d2 = 35 ∧ (d3 = 63 ∨ (¬ d3 = 35 ∧ d4 = 63))))))) ∨ (xx = 0 ∧ ¬ (d1 = 63 ∨ (¬ d1 = 35 ∧ (d2 = 63 ∨ (¬ d2 = 35 ∧ (d3 = 63 ∨ (¬ d3 = 35 ∧ d4 = 63)))))))) → Go pP eE bB (Pst room_1 sS Z consts_1 [] (Q_law_rm )) T28 (mkF mM 353 #[.val (.int aa), .val (.int ab), .val (.int ac), .val (.int d1), .val (.int d2), .val (.int d3), .val (.int d4), .val (.int (0 : Int32)), .val (.int bb), .val (.int ((ac.toUInt32 >>> ((3 : Int32) &&& 31).toUInt32).toInt32)), .val (.ref wi), .val (.ref wo), .val (.ref wo), .val (.int (0 : Int32)), .val (.ref lc), .val (.int xx)] []) := by
      intro xx hee
      refine Go.of (T' := T28) (g' := (mkF mM 355 #[.val (.int aa), .val (.int ab), .val (.int ac), .val (.int d1), .val (.int d2), .val (.int d3), .val (.int d4), .val (.int (0 : Int32)), .val (.int bb), .val (.int ((ac.toUInt32 >>> ((3 : Int32) &&& 31).toUInt32).toInt32)), .val (.ref wi), .val (.ref wo), .val (.ref wo), .val (.int (0 : Int32)), .val (.ref lc), .val (.int xx)] [(.ref lc)])) (fun _ k => XS.aload X28.hh X28.hx rfl (hb hby at_353) rfl rfl k) ?_
      rcases hee with ⟨rfl, hee⟩ | ⟨rfl, hee⟩
      · refine X28.callV (W := 0) (argsL := []) (rest := []) (a := lc) (C := "com/example/hfields/hfields/LinkCut") (z := (⟨"com/example/hfields/hfields/LinkCut", "hasFields", "()Z"⟩ : MethodName)) (hw _ (List.mem_of_getElem? (i := 107) rfl)) (hw _ (List.mem_of_getElem? (i := 108) rfl)) (fun _ q => notFace_of_selects (args := #[]) (mvT q (hw _ (List.mem_of_getElem? (i := 110) rfl)))) (hw _ (List.mem_of_getElem? (i := 110) rfl)) (hw _ (List.mem_of_getElem? (i := 109) rfl)) (hw _ (List.mem_of_getElem? (i := 13) rfl)) (hw _ (List.mem_of_getElem? (i := 111) rfl)) (by decide) (has_fields l Z a0 G lc ee ae h28 E2 E3 h4 h5) E1 pd_10 rfl rfl rfl (by rw [hml]; rfl) (by decide) (by decide) (by decide) (by decide) (hb hby at_355) all0 all0 ?_
        intro v29 T29 h29 S29 X29 K29 Q29
        have X29 := X29 [] all0
        obtain ⟨hv29, e29⟩ := Q29
        rw [e29] at X29
        rcases hv29 with ⟨rfl, hlt⟩ | ⟨rfl, hlt⟩
        · show Go pP eE bB _ T29 (mkF mM 358 #[.val (.int aa), .val (.int ab), .val (.int ac), .val (.int d1), .val (.int d2), .val (.int d3), .val (.int d4), .val (.int (0 : Int32)), .val (.int bb), .val (.int ((ac.toUInt32 >>> ((3 : Int32) &&& 31).toUInt32).toInt32)), .val (.ref wi), .val (.ref wo), .val (.ref wo), .val (.int (0 : Int32)), .val (.ref lc), .val (.int (1 : Int32))] [(.int (1 : Int32))])
          refine Go.of (T' := T29) (g' := (mkF mM 360 #[.val (.int aa), .val (.int ab), .val (.int ac), .val (.int d1), .val (.int d2), .val (.int d3), .val (.int d4), .val (.int (0 : Int32)), .val (.int bb), .val (.int ((ac.toUInt32 >>> ((3 : Int32) &&& 31).toUInt32).toInt32)), .val (.ref wi), .val (.ref wo), .val (.ref wo), .val (.int (0 : Int32)), .val (.ref lc), .val (.int (1 : Int32))] [(.int (1 : Int32)), (.int (1 : Int32))])) (fun _ k => XS.iload X29.hh X29.hx rfl (hb hby at_358) rfl k) ?_
          refine Go.of (T' := T29) (g' := (mkF mM 363 #[.val (.int aa), .val (.int ab), .val (.int ac), .val (.int d1), .val (.int d2), .val (.int d3), .val (.int d4), .val (.int (0 : Int32)), .val (.int bb), .val (.int ((ac.toUInt32 >>> ((3 : Int32) &&& 31).toUInt32).toInt32)), .val (.ref wi), .val (.ref wo), .val (.ref wo), .val (.int (0 : Int32)), .val (.ref lc), .val (.int (1 : Int32))] [])) (fun _ k => XS.icmpNo X29.hh X29.hx rfl (hb hby at_360) rfl (teq rfl).2 k) ?_
          refine Go.of (T' := T29) (g' := (mkF mM 364 #[.val (.int aa), .val (.int ab), .val (.int ac), .val (.int d1), .val (.int d2), .val (.int d3), .val (.int d4), .val (.int (0 : Int32)), .val (.int bb), .val (.int ((ac.toUInt32 >>> ((3 : Int32) &&& 31).toUInt32).toInt32)), .val (.ref wi), .val (.ref wo), .val (.ref wo), .val (.int (0 : Int32)), .val (.ref lc), .val (.int (1 : Int32))] [(.int (1 : Int32))])) (fun _ k => XS.iconst X29.hh X29.hx rfl (hb hby at_363) k) ?_
          refine Go.of (T' := T29) (g' := (mkF mM 368 #[.val (.int aa), .val (.int ab), .val (.int ac), .val (.int d1), .val (.int d2), .val (.int d3), .val (.int d4), .val (.int (0 : Int32)), .val (.int bb), .val (.int ((ac.toUInt32 >>> ((3 : Int32) &&& 31).toUInt32).toInt32)), .val (.ref wi), .val (.ref wo), .val (.ref wo), .val (.int (0 : Int32)), .val (.ref lc), .val (.int (1 : Int32))] [(.int (1 : Int32))])) (fun _ k => XS.goto X29.hh X29.hx rfl (pc0 := 364) (pc' := 368) rfl (hb hby at_364) (by decide) (by decide) k) ?_
          exact X29.nret (t := .boolean) hret (by simp) hlk (by decide) (by decide) (hb hby at_368) (fun S hS => rfl)
        · show Go pP eE bB _ T29 (mkF mM 358 #[.val (.int aa), .val (.int ab), .val (.int ac), .val (.int d1), .val (.int d2), .val (.int d3), .val (.int d4), .val (.int (0 : Int32)), .val (.int bb), .val (.int ((ac.toUInt32 >>> ((3 : Int32) &&& 31).toUInt32).toInt32)), .val (.ref wi), .val (.ref wo), .val (.ref wo), .val (.int (0 : Int32)), .val (.ref lc), .val (.int (1 : Int32))] [(.int (0 : Int32))])
          refine Go.of (T' := T29) (g' := (mkF mM 360 #[.val (.int aa), .val (.int ab), .val (.int ac), .val (.int d1), .val (.int d2), .val (.int d3), .val (.int d4), .val (.int (0 : Int32)), .val (.int bb), .val (.int ((ac.toUInt32 >>> ((3 : Int32) &&& 31).toUInt32).toInt32)), .val (.ref wi), .val (.ref wo), .val (.ref wo), .val (.int (0 : Int32)), .val (.ref lc), .val (.int (1 : Int32))] [(.int (1 : Int32)), (.int (0 : Int32))])) (fun _ k => XS.iload X29.hh X29.hx rfl (hb hby at_358) rfl k) ?_
          exact absurd (hif.mpr hee) hlt
      · refine X28.callV (W := 0) (argsL := []) (rest := []) (a := lc) (C := "com/example/hfields/hfields/LinkCut") (z := (⟨"com/example/hfields/hfields/LinkCut", "hasFields", "()Z"⟩ : MethodName)) (hw _ (List.mem_of_getElem? (i := 107) rfl)) (hw _ (List.mem_of_getElem? (i := 108) rfl)) (fun _ q => notFace_of_selects (args := #[]) (mvT q (hw _ (List.mem_of_getElem? (i := 110) rfl)))) (hw _ (List.mem_of_getElem? (i := 110) rfl)) (hw _ (List.mem_of_getElem? (i := 109) rfl)) (hw _ (List.mem_of_getElem? (i := 13) rfl)) (hw _ (List.mem_of_getElem? (i := 111) rfl)) (by decide) (has_fields l Z a0 G lc ee ae h28 E2 E3 h4 h5) E1 pd_10 rfl rfl rfl (by rw [hml]; rfl) (by decide) (by decide) (by decide) (by decide) (hb hby at_355) all0 all0 ?_
        intro v30 T30 h30 S30 X30 K30 Q30
        have X30 := X30 [] all0
        obtain ⟨hv30, e30⟩ := Q30
        rw [e30] at X30
        rcases hv30 with ⟨rfl, hlt⟩ | ⟨rfl, hlt⟩
        · show Go pP eE bB _ T30 (mkF mM 358 #[.val (.int aa), .val (.int ab), .val (.int ac), .val (.int d1), .val (.int d2), .val (.int d3), .val (.int d4), .val (.int (0 : Int32)), .val (.int bb), .val (.int ((ac.toUInt32 >>> ((3 : Int32) &&& 31).toUInt32).toInt32)), .val (.ref wi), .val (.ref wo), .val (.ref wo), .val (.int (0 : Int32)), .val (.ref lc), .val (.int (0 : Int32))] [(.int (1 : Int32))])
          refine Go.of (T' := T30) (g' := (mkF mM 360 #[.val (.int aa), .val (.int ab), .val (.int ac), .val (.int d1), .val (.int d2), .val (.int d3), .val (.int d4), .val (.int (0 : Int32)), .val (.int bb), .val (.int ((ac.toUInt32 >>> ((3 : Int32) &&& 31).toUInt32).toInt32)), .val (.ref wi), .val (.ref wo), .val (.ref wo), .val (.int (0 : Int32)), .val (.ref lc), .val (.int (0 : Int32))] [(.int (0 : Int32)), (.int (1 : Int32))])) (fun _ k => XS.iload X30.hh X30.hx rfl (hb hby at_358) rfl k) ?_
          exact absurd (hif.mp hlt) hee
        · show Go pP eE bB _ T30 (mkF mM 358 #[.val (.int aa), .val (.int ab), .val (.int ac), .val (.int d1), .val (.int d2), .val (.int d3), .val (.int d4), .val (.int (0 : Int32)), .val (.int bb), .val (.int ((ac.toUInt32 >>> ((3 : Int32) &&& 31).toUInt32).toInt32)), .val (.ref wi), .val (.ref wo), .val (.ref wo), .val (.int (0 : Int32)), .val (.ref lc), .val (.int (0 : Int32))] [(.int (0 : Int32))])
          refine Go.of (T' := T30) (g' := (mkF mM 360 #[.val (.int aa), .val (.int ab), .val (.int ac), .val (.int d1), .val (.int d2), .val (.int d3), .val (.int d4), .val (.int (0 : Int32)), .val (.int bb), .val (.int ((ac.toUInt32 >>> ((3 : Int32) &&& 31).toUInt32).toInt32)), .val (.ref wi), .val (.ref wo), .val (.ref wo), .val (.int (0 : Int32)), .val (.ref lc), .val (.int (0 : Int32))] [(.int (0 : Int32)), (.int (0 : Int32))])) (fun _ k => XS.iload X30.hh X30.hx rfl (hb hby at_358) rfl k) ?_
          refine Go.of (T' := T30) (g' := (mkF mM 363 #[.val (.int aa), .val (.int ab), .val (.int ac), .val (.int d1), .val (.int d2), .val (.int d3), .val (.int d4), .val (.int (0 : Int32)), .val (.int bb), .val (.int ((ac.toUInt32 >>> ((3 : Int32) &&& 31).toUInt32).toInt32)), .val (.ref wi), .val (.ref wo), .val (.ref wo), .val (.int (0 : Int32)), .val (.ref lc), .val (.int (0 : Int32))] [])) (fun _ k => XS.icmpNo X30.hh X30.hx rfl (hb hby at_360) rfl (teq rfl).2 k) ?_
          refine Go.of (T' := T30) (g' := (mkF mM 364 #[.val (.int aa), .val (.int ab), .val (.int ac), .val (.int d1), .val (.int d2), .val (.int d3), .val (.int d4), .val (.int (0 : Int32)), .val (.int bb), .val (.int ((ac.toUInt32 >>> ((3 : Int32) &&& 31).toUInt32).toInt32)), .val (.ref wi), .val (.ref wo), .val (.ref wo), .val (.int (0 : Int32)), .val (.ref lc), .val (.int (0 : Int32))] [(.int (1 : Int32))])) (fun _ k => XS.iconst X30.hh X30.hx rfl (hb hby at_363) k) ?_
          refine Go.of (T' := T30) (g' := (mkF mM 368 #[.val (.int aa), .val (.int ab), .val (.int ac), .val (.int d1), .val (.int d2), .val (.int d3), .val (.int d4), .val (.int (0 : Int32)), .val (.int bb), .val (.int ((ac.toUInt32 >>> ((3 : Int32) &&& 31).toUInt32).toInt32)), .val (.ref wi), .val (.ref wo), .val (.ref wo), .val (.int (0 : Int32)), .val (.ref lc), .val (.int (0 : Int32))] [(.int (1 : Int32))])) (fun _ k => XS.goto X30.hh X30.hx rfl (pc0 := 364) (pc' := 368) rfl (hb hby at_364) (by decide) (by decide) k) ?_
          exact X30.nret (t := .boolean) hret (by simp) hlk (by decide) (by decide) (hb hby at_368) (fun S hS => rfl)
    by_cases hc264 : d1 = (63 : Int32)
    · refine Go.of (T' := T28) (g' := (mkF mM 267 #[.val (.int aa), .val (.int ab), .val (.int ac), .val (.int d1), .val (.int d2), .val (.int d3), .val (.int d4), .val (.int (0 : Int32)), .val (.int bb), .val (.int ((ac.toUInt32 >>> ((3 : Int32) &&& 31).toUInt32).toInt32)), .val (.ref wi), .val (.ref wo), .val (.ref wo), .val (.int (0 : Int32)), .val (.ref lc), .unset] [])) (fun _ k => XS.icmpNo X28.hh X28.hx rfl (hb hby at_264) rfl (teq hc264).2 k) ?_
      refine Go.of (T' := T28) (g' := (mkF mM 268 #[.val (.int aa), .val (.int ab), .val (.int ac), .val (.int d1), .val (.int d2), .val (.int d3), .val (.int d4), .val (.int (0 : Int32)), .val (.int bb), .val (.int ((ac.toUInt32 >>> ((3 : Int32) &&& 31).toUInt32).toInt32)), .val (.ref wi), .val (.ref wo), .val (.ref wo), .val (.int (0 : Int32)), .val (.ref lc), .unset] [(.int (1 : Int32))])) (fun _ k => XS.iconst X28.hh X28.hx rfl (hb hby at_267) k) ?_
      refine Go.of (T' := T28) (g' := (mkF mM 270 #[.val (.int aa), .val (.int ab), .val (.int ac), .val (.int d1), .val (.int d2), .val (.int d3), .val (.int d4), .val (.int (0 : Int32)), .val (.int bb), .val (.int ((ac.toUInt32 >>> ((3 : Int32) &&& 31).toUInt32).toInt32)), .val (.ref wi), .val (.ref wo), .val (.ref wo), .val (.int (0 : Int32)), .val (.ref lc), .val (.int (1 : Int32))] [])) (fun _ k => XS.istore X28.hh X28.hx rfl (hb hby at_268) rfl (l' := #[.val (.int aa), .val (.int ab), .val (.int ac), .val (.int d1), .val (.int d2), .val (.int d3), .val (.int d4), .val (.int (0 : Int32)), .val (.int bb), .val (.int ((ac.toUInt32 >>> ((3 : Int32) &&& 31).toUInt32).toInt32)), .val (.ref wi), .val (.ref wo), .val (.ref wo), .val (.int (0 : Int32)), .val (.ref lc), .val (.int (1 : Int32))]) rfl k) ?_
      refine Go.of (T' := T28) (g' := (mkF mM 353 #[.val (.int aa), .val (.int ab), .val (.int ac), .val (.int d1), .val (.int d2), .val (.int d3), .val (.int d4), .val (.int (0 : Int32)), .val (.int bb), .val (.int ((ac.toUInt32 >>> ((3 : Int32) &&& 31).toUInt32).toInt32)), .val (.ref wi), .val (.ref wo), .val (.ref wo), .val (.int (0 : Int32)), .val (.ref lc), .val (.int (1 : Int32))] [])) (fun _ k => XS.goto X28.hh X28.hx rfl (pc0 := 270) (pc' := 353) rfl (hb hby at_270) (by decide) (by decide) k) ?_
      exact J _ (Or.inl ⟨rfl, Or.inl hc264⟩)
    · refine Go.of (T' := T28) (g' := (mkF mM 273 #[.val (.int aa), .val (.int ab), .val (.int ac), .val (.int d1), .val (.int d2), .val (.int d3), .val (.int d4), .val (.int (0 : Int32)), .val (.int bb), .val (.int ((ac.toUInt32 >>> ((3 : Int32) &&& 31).toUInt32).toInt32)), .val (.ref wi), .val (.ref wo), .val (.ref wo), .val (.int (0 : Int32)), .val (.ref lc), .unset] [])) (fun _ k => XS.icmpYes X28.hh X28.hx rfl (pc0 := 264) (pc' := 273) rfl (hb hby at_264) rfl (feq hc264).2 (by decide) (by decide) k) ?_
      refine Go.of (T' := T28) (g' := (mkF mM 274 #[.val (.int aa), .val (.int ab), .val (.int ac), .val (.int d1), .val (.int d2), .val (.int d3), .val (.int d4), .val (.int (0 : Int32)), .val (.int bb), .val (.int ((ac.toUInt32 >>> ((3 : Int32) &&& 31).toUInt32).toInt32)), .val (.ref wi), .val (.ref wo), .val (.ref wo), .val (.int (0 : Int32)), .val (.ref lc), .unset] [(.int d1)])) (fun _ k => XS.iloadN X28.hh X28.hx rfl (hb hby at_273) rfl k) ?_
      refine Go.of (T' := T28) (g' := (mkF mM 276 #[.val (.int aa), .val (.int ab), .val (.int ac), .val (.int d1), .val (.int d2), .val (.int d3), .val (.int d4), .val (.int (0 : Int32)), .val (.int bb), .val (.int ((ac.toUInt32 >>> ((3 : Int32) &&& 31).toUInt32).toInt32)), .val (.ref wi), .val (.ref wo), .val (.ref wo), .val (.int (0 : Int32)), .val (.ref lc), .unset] [(.int (35 : Int32)), (.int d1)])) (fun _ k => XS.bipush X28.hh X28.hx rfl (hb hby at_274) k) ?_
      by_cases hc276 : d1 = (35 : Int32)
      · refine Go.of (T' := T28) (g' := (mkF mM 279 #[.val (.int aa), .val (.int ab), .val (.int ac), .val (.int d1), .val (.int d2), .val (.int d3), .val (.int d4), .val (.int (0 : Int32)), .val (.int bb), .val (.int ((ac.toUInt32 >>> ((3 : Int32) &&& 31).toUInt32).toInt32)), .val (.ref wi), .val (.ref wo), .val (.ref wo), .val (.int (0 : Int32)), .val (.ref lc), .unset] [])) (fun _ k => XS.icmpNo X28.hh X28.hx rfl (hb hby at_276) rfl (teq hc276).2 k) ?_
        refine Go.of (T' := T28) (g' := (mkF mM 280 #[.val (.int aa), .val (.int ab), .val (.int ac), .val (.int d1), .val (.int d2), .val (.int d3), .val (.int d4), .val (.int (0 : Int32)), .val (.int bb), .val (.int ((ac.toUInt32 >>> ((3 : Int32) &&& 31).toUInt32).toInt32)), .val (.ref wi), .val (.ref wo), .val (.ref wo), .val (.int (0 : Int32)), .val (.ref lc), .unset] [(.int (0 : Int32))])) (fun _ k => XS.iconst X28.hh X28.hx rfl (hb hby at_279) k) ?_
        refine Go.of (T' := T28) (g' := (mkF mM 282 #[.val (.int aa), .val (.int ab), .val (.int ac), .val (.int d1), .val (.int d2), .val (.int d3), .val (.int d4), .val (.int (0 : Int32)), .val (.int bb), .val (.int ((ac.toUInt32 >>> ((3 : Int32) &&& 31).toUInt32).toInt32)), .val (.ref wi), .val (.ref wo), .val (.ref wo), .val (.int (0 : Int32)), .val (.ref lc), .val (.int (0 : Int32))] [])) (fun _ k => XS.istore X28.hh X28.hx rfl (hb hby at_280) rfl (l' := #[.val (.int aa), .val (.int ab), .val (.int ac), .val (.int d1), .val (.int d2), .val (.int d3), .val (.int d4), .val (.int (0 : Int32)), .val (.int bb), .val (.int ((ac.toUInt32 >>> ((3 : Int32) &&& 31).toUInt32).toInt32)), .val (.ref wi), .val (.ref wo), .val (.ref wo), .val (.int (0 : Int32)), .val (.ref lc), .val (.int (0 : Int32))]) rfl k) ?_
        refine Go.of (T' := T28) (g' := (mkF mM 353 #[.val (.int aa), .val (.int ab), .val (.int ac), .val (.int d1), .val (.int d2), .val (.int d3), .val (.int d4), .val (.int (0 : Int32)), .val (.int bb), .val (.int ((ac.toUInt32 >>> ((3 : Int32) &&& 31).toUInt32).toInt32)), .val (.ref wi), .val (.ref wo), .val (.ref wo), .val (.int (0 : Int32)), .val (.ref lc), .val (.int (0 : Int32))] [])) (fun _ k => XS.goto X28.hh X28.hx rfl (pc0 := 282) (pc' := 353) rfl (hb hby at_282) (by decide) (by decide) k) ?_
        exact J _ (Or.inr ⟨rfl, by simp [*]⟩)
      · refine Go.of (T' := T28) (g' := (mkF mM 285 #[.val (.int aa), .val (.int ab), .val (.int ac), .val (.int d1), .val (.int d2), .val (.int d3), .val (.int d4), .val (.int (0 : Int32)), .val (.int bb), .val (.int ((ac.toUInt32 >>> ((3 : Int32) &&& 31).toUInt32).toInt32)), .val (.ref wi), .val (.ref wo), .val (.ref wo), .val (.int (0 : Int32)), .val (.ref lc), .unset] [])) (fun _ k => XS.icmpYes X28.hh X28.hx rfl (pc0 := 276) (pc' := 285) rfl (hb hby at_276) rfl (feq hc276).2 (by decide) (by decide) k) ?_
        refine Go.of (T' := T28) (g' := (mkF mM 287 #[.val (.int aa), .val (.int ab), .val (.int ac), .val (.int d1), .val (.int d2), .val (.int d3), .val (.int d4), .val (.int (0 : Int32)), .val (.int bb), .val (.int ((ac.toUInt32 >>> ((3 : Int32) &&& 31).toUInt32).toInt32)), .val (.ref wi), .val (.ref wo), .val (.ref wo), .val (.int (0 : Int32)), .val (.ref lc), .unset] [(.int d2)])) (fun _ k => XS.iload X28.hh X28.hx rfl (hb hby at_285) rfl k) ?_
        refine Go.of (T' := T28) (g' := (mkF mM 289 #[.val (.int aa), .val (.int ab), .val (.int ac), .val (.int d1), .val (.int d2), .val (.int d3), .val (.int d4), .val (.int (0 : Int32)), .val (.int bb), .val (.int ((ac.toUInt32 >>> ((3 : Int32) &&& 31).toUInt32).toInt32)), .val (.ref wi), .val (.ref wo), .val (.ref wo), .val (.int (0 : Int32)), .val (.ref lc), .unset] [(.int (63 : Int32)), (.int d2)])) (fun _ k => XS.bipush X28.hh X28.hx rfl (hb hby at_287) k) ?_
        by_cases hc289 : d2 = (63 : Int32)
        · refine Go.of (T' := T28) (g' := (mkF mM 292 #[.val (.int aa), .val (.int ab), .val (.int ac), .val (.int d1), .val (.int d2), .val (.int d3), .val (.int d4), .val (.int (0 : Int32)), .val (.int bb), .val (.int ((ac.toUInt32 >>> ((3 : Int32) &&& 31).toUInt32).toInt32)), .val (.ref wi), .val (.ref wo), .val (.ref wo), .val (.int (0 : Int32)), .val (.ref lc), .unset] [])) (fun _ k => XS.icmpNo X28.hh X28.hx rfl (hb hby at_289) rfl (teq hc289).2 k) ?_
          refine Go.of (T' := T28) (g' := (mkF mM 293 #[.val (.int aa), .val (.int ab), .val (.int ac), .val (.int d1), .val (.int d2), .val (.int d3), .val (.int d4), .val (.int (0 : Int32)), .val (.int bb), .val (.int ((ac.toUInt32 >>> ((3 : Int32) &&& 31).toUInt32).toInt32)), .val (.ref wi), .val (.ref wo), .val (.ref wo), .val (.int (0 : Int32)), .val (.ref lc), .unset] [(.int (1 : Int32))])) (fun _ k => XS.iconst X28.hh X28.hx rfl (hb hby at_292) k) ?_
          refine Go.of (T' := T28) (g' := (mkF mM 295 #[.val (.int aa), .val (.int ab), .val (.int ac), .val (.int d1), .val (.int d2), .val (.int d3), .val (.int d4), .val (.int (0 : Int32)), .val (.int bb), .val (.int ((ac.toUInt32 >>> ((3 : Int32) &&& 31).toUInt32).toInt32)), .val (.ref wi), .val (.ref wo), .val (.ref wo), .val (.int (0 : Int32)), .val (.ref lc), .val (.int (1 : Int32))] [])) (fun _ k => XS.istore X28.hh X28.hx rfl (hb hby at_293) rfl (l' := #[.val (.int aa), .val (.int ab), .val (.int ac), .val (.int d1), .val (.int d2), .val (.int d3), .val (.int d4), .val (.int (0 : Int32)), .val (.int bb), .val (.int ((ac.toUInt32 >>> ((3 : Int32) &&& 31).toUInt32).toInt32)), .val (.ref wi), .val (.ref wo), .val (.ref wo), .val (.int (0 : Int32)), .val (.ref lc), .val (.int (1 : Int32))]) rfl k) ?_
          refine Go.of (T' := T28) (g' := (mkF mM 353 #[.val (.int aa), .val (.int ab), .val (.int ac), .val (.int d1), .val (.int d2), .val (.int d3), .val (.int d4), .val (.int (0 : Int32)), .val (.int bb), .val (.int ((ac.toUInt32 >>> ((3 : Int32) &&& 31).toUInt32).toInt32)), .val (.ref wi), .val (.ref wo), .val (.ref wo), .val (.int (0 : Int32)), .val (.ref lc), .val (.int (1 : Int32))] [])) (fun _ k => XS.goto X28.hh X28.hx rfl (pc0 := 295) (pc' := 353) rfl (hb hby at_295) (by decide) (by decide) k) ?_
          exact J _ (Or.inl ⟨rfl, Or.inr ⟨hc276, Or.inl hc289⟩⟩)
        · refine Go.of (T' := T28) (g' := (mkF mM 298 #[.val (.int aa), .val (.int ab), .val (.int ac), .val (.int d1), .val (.int d2), .val (.int d3), .val (.int d4), .val (.int (0 : Int32)), .val (.int bb), .val (.int ((ac.toUInt32 >>> ((3 : Int32) &&& 31).toUInt32).toInt32)), .val (.ref wi), .val (.ref wo), .val (.ref wo), .val (.int (0 : Int32)), .val (.ref lc), .unset] [])) (fun _ k => XS.icmpYes X28.hh X28.hx rfl (pc0 := 289) (pc' := 298) rfl (hb hby at_289) rfl (feq hc289).2 (by decide) (by decide) k) ?_
          refine Go.of (T' := T28) (g' := (mkF mM 300 #[.val (.int aa), .val (.int ab), .val (.int ac), .val (.int d1), .val (.int d2), .val (.int d3), .val (.int d4), .val (.int (0 : Int32)), .val (.int bb), .val (.int ((ac.toUInt32 >>> ((3 : Int32) &&& 31).toUInt32).toInt32)), .val (.ref wi), .val (.ref wo), .val (.ref wo), .val (.int (0 : Int32)), .val (.ref lc), .unset] [(.int d2)])) (fun _ k => XS.iload X28.hh X28.hx rfl (hb hby at_298) rfl k) ?_
          refine Go.of (T' := T28) (g' := (mkF mM 302 #[.val (.int aa), .val (.int ab), .val (.int ac), .val (.int d1), .val (.int d2), .val (.int d3), .val (.int d4), .val (.int (0 : Int32)), .val (.int bb), .val (.int ((ac.toUInt32 >>> ((3 : Int32) &&& 31).toUInt32).toInt32)), .val (.ref wi), .val (.ref wo), .val (.ref wo), .val (.int (0 : Int32)), .val (.ref lc), .unset] [(.int (35 : Int32)), (.int d2)])) (fun _ k => XS.bipush X28.hh X28.hx rfl (hb hby at_300) k) ?_
          by_cases hc302 : d2 = (35 : Int32)
          · refine Go.of (T' := T28) (g' := (mkF mM 305 #[.val (.int aa), .val (.int ab), .val (.int ac), .val (.int d1), .val (.int d2), .val (.int d3), .val (.int d4), .val (.int (0 : Int32)), .val (.int bb), .val (.int ((ac.toUInt32 >>> ((3 : Int32) &&& 31).toUInt32).toInt32)), .val (.ref wi), .val (.ref wo), .val (.ref wo), .val (.int (0 : Int32)), .val (.ref lc), .unset] [])) (fun _ k => XS.icmpNo X28.hh X28.hx rfl (hb hby at_302) rfl (teq hc302).2 k) ?_
            refine Go.of (T' := T28) (g' := (mkF mM 306 #[.val (.int aa), .val (.int ab), .val (.int ac), .val (.int d1), .val (.int d2), .val (.int d3), .val (.int d4), .val (.int (0 : Int32)), .val (.int bb), .val (.int ((ac.toUInt32 >>> ((3 : Int32) &&& 31).toUInt32).toInt32)), .val (.ref wi), .val (.ref wo), .val (.ref wo), .val (.int (0 : Int32)), .val (.ref lc), .unset] [(.int (0 : Int32))])) (fun _ k => XS.iconst X28.hh X28.hx rfl (hb hby at_305) k) ?_
            refine Go.of (T' := T28) (g' := (mkF mM 308 #[.val (.int aa), .val (.int ab), .val (.int ac), .val (.int d1), .val (.int d2), .val (.int d3), .val (.int d4), .val (.int (0 : Int32)), .val (.int bb), .val (.int ((ac.toUInt32 >>> ((3 : Int32) &&& 31).toUInt32).toInt32)), .val (.ref wi), .val (.ref wo), .val (.ref wo), .val (.int (0 : Int32)), .val (.ref lc), .val (.int (0 : Int32))] [])) (fun _ k => XS.istore X28.hh X28.hx rfl (hb hby at_306) rfl (l' := #[.val (.int aa), .val (.int ab), .val (.int ac), .val (.int d1), .val (.int d2), .val (.int d3), .val (.int d4), .val (.int (0 : Int32)), .val (.int bb), .val (.int ((ac.toUInt32 >>> ((3 : Int32) &&& 31).toUInt32).toInt32)), .val (.ref wi), .val (.ref wo), .val (.ref wo), .val (.int (0 : Int32)), .val (.ref lc), .val (.int (0 : Int32))]) rfl k) ?_
            refine Go.of (T' := T28) (g' := (mkF mM 353 #[.val (.int aa), .val (.int ab), .val (.int ac), .val (.int d1), .val (.int d2), .val (.int d3), .val (.int d4), .val (.int (0 : Int32)), .val (.int bb), .val (.int ((ac.toUInt32 >>> ((3 : Int32) &&& 31).toUInt32).toInt32)), .val (.ref wi), .val (.ref wo), .val (.ref wo), .val (.int (0 : Int32)), .val (.ref lc), .val (.int (0 : Int32))] [])) (fun _ k => XS.goto X28.hh X28.hx rfl (pc0 := 308) (pc' := 353) rfl (hb hby at_308) (by decide) (by decide) k) ?_
            exact J _ (Or.inr ⟨rfl, by simp [*]⟩)
          · refine Go.of (T' := T28) (g' := (mkF mM 311 #[.val (.int aa), .val (.int ab), .val (.int ac), .val (.int d1), .val (.int d2), .val (.int d3), .val (.int d4), .val (.int (0 : Int32)), .val (.int bb), .val (.int ((ac.toUInt32 >>> ((3 : Int32) &&& 31).toUInt32).toInt32)), .val (.ref wi), .val (.ref wo), .val (.ref wo), .val (.int (0 : Int32)), .val (.ref lc), .unset] [])) (fun _ k => XS.icmpYes X28.hh X28.hx rfl (pc0 := 302) (pc' := 311) rfl (hb hby at_302) rfl (feq hc302).2 (by decide) (by decide) k) ?_
            refine Go.of (T' := T28) (g' := (mkF mM 313 #[.val (.int aa), .val (.int ab), .val (.int ac), .val (.int d1), .val (.int d2), .val (.int d3), .val (.int d4), .val (.int (0 : Int32)), .val (.int bb), .val (.int ((ac.toUInt32 >>> ((3 : Int32) &&& 31).toUInt32).toInt32)), .val (.ref wi), .val (.ref wo), .val (.ref wo), .val (.int (0 : Int32)), .val (.ref lc), .unset] [(.int d3)])) (fun _ k => XS.iload X28.hh X28.hx rfl (hb hby at_311) rfl k) ?_
            refine Go.of (T' := T28) (g' := (mkF mM 315 #[.val (.int aa), .val (.int ab), .val (.int ac), .val (.int d1), .val (.int d2), .val (.int d3), .val (.int d4), .val (.int (0 : Int32)), .val (.int bb), .val (.int ((ac.toUInt32 >>> ((3 : Int32) &&& 31).toUInt32).toInt32)), .val (.ref wi), .val (.ref wo), .val (.ref wo), .val (.int (0 : Int32)), .val (.ref lc), .unset] [(.int (63 : Int32)), (.int d3)])) (fun _ k => XS.bipush X28.hh X28.hx rfl (hb hby at_313) k) ?_
            by_cases hc315 : d3 = (63 : Int32)
            · refine Go.of (T' := T28) (g' := (mkF mM 318 #[.val (.int aa), .val (.int ab), .val (.int ac), .val (.int d1), .val (.int d2), .val (.int d3), .val (.int d4), .val (.int (0 : Int32)), .val (.int bb), .val (.int ((ac.toUInt32 >>> ((3 : Int32) &&& 31).toUInt32).toInt32)), .val (.ref wi), .val (.ref wo), .val (.ref wo), .val (.int (0 : Int32)), .val (.ref lc), .unset] [])) (fun _ k => XS.icmpNo X28.hh X28.hx rfl (hb hby at_315) rfl (teq hc315).2 k) ?_
              refine Go.of (T' := T28) (g' := (mkF mM 319 #[.val (.int aa), .val (.int ab), .val (.int ac), .val (.int d1), .val (.int d2), .val (.int d3), .val (.int d4), .val (.int (0 : Int32)), .val (.int bb), .val (.int ((ac.toUInt32 >>> ((3 : Int32) &&& 31).toUInt32).toInt32)), .val (.ref wi), .val (.ref wo), .val (.ref wo), .val (.int (0 : Int32)), .val (.ref lc), .unset] [(.int (1 : Int32))])) (fun _ k => XS.iconst X28.hh X28.hx rfl (hb hby at_318) k) ?_
              refine Go.of (T' := T28) (g' := (mkF mM 321 #[.val (.int aa), .val (.int ab), .val (.int ac), .val (.int d1), .val (.int d2), .val (.int d3), .val (.int d4), .val (.int (0 : Int32)), .val (.int bb), .val (.int ((ac.toUInt32 >>> ((3 : Int32) &&& 31).toUInt32).toInt32)), .val (.ref wi), .val (.ref wo), .val (.ref wo), .val (.int (0 : Int32)), .val (.ref lc), .val (.int (1 : Int32))] [])) (fun _ k => XS.istore X28.hh X28.hx rfl (hb hby at_319) rfl (l' := #[.val (.int aa), .val (.int ab), .val (.int ac), .val (.int d1), .val (.int d2), .val (.int d3), .val (.int d4), .val (.int (0 : Int32)), .val (.int bb), .val (.int ((ac.toUInt32 >>> ((3 : Int32) &&& 31).toUInt32).toInt32)), .val (.ref wi), .val (.ref wo), .val (.ref wo), .val (.int (0 : Int32)), .val (.ref lc), .val (.int (1 : Int32))]) rfl k) ?_
              refine Go.of (T' := T28) (g' := (mkF mM 353 #[.val (.int aa), .val (.int ab), .val (.int ac), .val (.int d1), .val (.int d2), .val (.int d3), .val (.int d4), .val (.int (0 : Int32)), .val (.int bb), .val (.int ((ac.toUInt32 >>> ((3 : Int32) &&& 31).toUInt32).toInt32)), .val (.ref wi), .val (.ref wo), .val (.ref wo), .val (.int (0 : Int32)), .val (.ref lc), .val (.int (1 : Int32))] [])) (fun _ k => XS.goto X28.hh X28.hx rfl (pc0 := 321) (pc' := 353) rfl (hb hby at_321) (by decide) (by decide) k) ?_
              exact J _ (Or.inl ⟨rfl, Or.inr ⟨hc276, Or.inr ⟨hc302, Or.inl hc315⟩⟩⟩)
            · refine Go.of (T' := T28) (g' := (mkF mM 324 #[.val (.int aa), .val (.int ab), .val (.int ac), .val (.int d1), .val (.int d2), .val (.int d3), .val (.int d4), .val (.int (0 : Int32)), .val (.int bb), .val (.int ((ac.toUInt32 >>> ((3 : Int32) &&& 31).toUInt32).toInt32)), .val (.ref wi), .val (.ref wo), .val (.ref wo), .val (.int (0 : Int32)), .val (.ref lc), .unset] [])) (fun _ k => XS.icmpYes X28.hh X28.hx rfl (pc0 := 315) (pc' := 324) rfl (hb hby at_315) rfl (feq hc315).2 (by decide) (by decide) k) ?_
              refine Go.of (T' := T28) (g' := (mkF mM 326 #[.val (.int aa), .val (.int ab), .val (.int ac), .val (.int d1), .val (.int d2), .val (.int d3), .val (.int d4), .val (.int (0 : Int32)), .val (.int bb), .val (.int ((ac.toUInt32 >>> ((3 : Int32) &&& 31).toUInt32).toInt32)), .val (.ref wi), .val (.ref wo), .val (.ref wo), .val (.int (0 : Int32)), .val (.ref lc), .unset] [(.int d3)])) (fun _ k => XS.iload X28.hh X28.hx rfl (hb hby at_324) rfl k) ?_
              refine Go.of (T' := T28) (g' := (mkF mM 328 #[.val (.int aa), .val (.int ab), .val (.int ac), .val (.int d1), .val (.int d2), .val (.int d3), .val (.int d4), .val (.int (0 : Int32)), .val (.int bb), .val (.int ((ac.toUInt32 >>> ((3 : Int32) &&& 31).toUInt32).toInt32)), .val (.ref wi), .val (.ref wo), .val (.ref wo), .val (.int (0 : Int32)), .val (.ref lc), .unset] [(.int (35 : Int32)), (.int d3)])) (fun _ k => XS.bipush X28.hh X28.hx rfl (hb hby at_326) k) ?_
              by_cases hc328 : d3 = (35 : Int32)
              · refine Go.of (T' := T28) (g' := (mkF mM 331 #[.val (.int aa), .val (.int ab), .val (.int ac), .val (.int d1), .val (.int d2), .val (.int d3), .val (.int d4), .val (.int (0 : Int32)), .val (.int bb), .val (.int ((ac.toUInt32 >>> ((3 : Int32) &&& 31).toUInt32).toInt32)), .val (.ref wi), .val (.ref wo), .val (.ref wo), .val (.int (0 : Int32)), .val (.ref lc), .unset] [])) (fun _ k => XS.icmpNo X28.hh X28.hx rfl (hb hby at_328) rfl (teq hc328).2 k) ?_
                refine Go.of (T' := T28) (g' := (mkF mM 332 #[.val (.int aa), .val (.int ab), .val (.int ac), .val (.int d1), .val (.int d2), .val (.int d3), .val (.int d4), .val (.int (0 : Int32)), .val (.int bb), .val (.int ((ac.toUInt32 >>> ((3 : Int32) &&& 31).toUInt32).toInt32)), .val (.ref wi), .val (.ref wo), .val (.ref wo), .val (.int (0 : Int32)), .val (.ref lc), .unset] [(.int (0 : Int32))])) (fun _ k => XS.iconst X28.hh X28.hx rfl (hb hby at_331) k) ?_
                refine Go.of (T' := T28) (g' := (mkF mM 334 #[.val (.int aa), .val (.int ab), .val (.int ac), .val (.int d1), .val (.int d2), .val (.int d3), .val (.int d4), .val (.int (0 : Int32)), .val (.int bb), .val (.int ((ac.toUInt32 >>> ((3 : Int32) &&& 31).toUInt32).toInt32)), .val (.ref wi), .val (.ref wo), .val (.ref wo), .val (.int (0 : Int32)), .val (.ref lc), .val (.int (0 : Int32))] [])) (fun _ k => XS.istore X28.hh X28.hx rfl (hb hby at_332) rfl (l' := #[.val (.int aa), .val (.int ab), .val (.int ac), .val (.int d1), .val (.int d2), .val (.int d3), .val (.int d4), .val (.int (0 : Int32)), .val (.int bb), .val (.int ((ac.toUInt32 >>> ((3 : Int32) &&& 31).toUInt32).toInt32)), .val (.ref wi), .val (.ref wo), .val (.ref wo), .val (.int (0 : Int32)), .val (.ref lc), .val (.int (0 : Int32))]) rfl k) ?_
                refine Go.of (T' := T28) (g' := (mkF mM 353 #[.val (.int aa), .val (.int ab), .val (.int ac), .val (.int d1), .val (.int d2), .val (.int d3), .val (.int d4), .val (.int (0 : Int32)), .val (.int bb), .val (.int ((ac.toUInt32 >>> ((3 : Int32) &&& 31).toUInt32).toInt32)), .val (.ref wi), .val (.ref wo), .val (.ref wo), .val (.int (0 : Int32)), .val (.ref lc), .val (.int (0 : Int32))] [])) (fun _ k => XS.goto X28.hh X28.hx rfl (pc0 := 334) (pc' := 353) rfl (hb hby at_334) (by decide) (by decide) k) ?_
                exact J _ (Or.inr ⟨rfl, by simp [*]⟩)
              · refine Go.of (T' := T28) (g' := (mkF mM 337 #[.val (.int aa), .val (.int ab), .val (.int ac), .val (.int d1), .val (.int d2), .val (.int d3), .val (.int d4), .val (.int (0 : Int32)), .val (.int bb), .val (.int ((ac.toUInt32 >>> ((3 : Int32) &&& 31).toUInt32).toInt32)), .val (.ref wi), .val (.ref wo), .val (.ref wo), .val (.int (0 : Int32)), .val (.ref lc), .unset] [])) (fun _ k => XS.icmpYes X28.hh X28.hx rfl (pc0 := 328) (pc' := 337) rfl (hb hby at_328) rfl (feq hc328).2 (by decide) (by decide) k) ?_
                refine Go.of (T' := T28) (g' := (mkF mM 339 #[.val (.int aa), .val (.int ab), .val (.int ac), .val (.int d1), .val (.int d2), .val (.int d3), .val (.int d4), .val (.int (0 : Int32)), .val (.int bb), .val (.int ((ac.toUInt32 >>> ((3 : Int32) &&& 31).toUInt32).toInt32)), .val (.ref wi), .val (.ref wo), .val (.ref wo), .val (.int (0 : Int32)), .val (.ref lc), .unset] [(.int d4)])) (fun _ k => XS.iload X28.hh X28.hx rfl (hb hby at_337) rfl k) ?_
                refine Go.of (T' := T28) (g' := (mkF mM 341 #[.val (.int aa), .val (.int ab), .val (.int ac), .val (.int d1), .val (.int d2), .val (.int d3), .val (.int d4), .val (.int (0 : Int32)), .val (.int bb), .val (.int ((ac.toUInt32 >>> ((3 : Int32) &&& 31).toUInt32).toInt32)), .val (.ref wi), .val (.ref wo), .val (.ref wo), .val (.int (0 : Int32)), .val (.ref lc), .unset] [(.int (63 : Int32)), (.int d4)])) (fun _ k => XS.bipush X28.hh X28.hx rfl (hb hby at_339) k) ?_
                by_cases hc341 : d4 = (63 : Int32)
                · refine Go.of (T' := T28) (g' := (mkF mM 344 #[.val (.int aa), .val (.int ab), .val (.int ac), .val (.int d1), .val (.int d2), .val (.int d3), .val (.int d4), .val (.int (0 : Int32)), .val (.int bb), .val (.int ((ac.toUInt32 >>> ((3 : Int32) &&& 31).toUInt32).toInt32)), .val (.ref wi), .val (.ref wo), .val (.ref wo), .val (.int (0 : Int32)), .val (.ref lc), .unset] [])) (fun _ k => XS.icmpNo X28.hh X28.hx rfl (hb hby at_341) rfl (teq hc341).2 k) ?_
                  refine Go.of (T' := T28) (g' := (mkF mM 345 #[.val (.int aa), .val (.int ab), .val (.int ac), .val (.int d1), .val (.int d2), .val (.int d3), .val (.int d4), .val (.int (0 : Int32)), .val (.int bb), .val (.int ((ac.toUInt32 >>> ((3 : Int32) &&& 31).toUInt32).toInt32)), .val (.ref wi), .val (.ref wo), .val (.ref wo), .val (.int (0 : Int32)), .val (.ref lc), .unset] [(.int (1 : Int32))])) (fun _ k => XS.iconst X28.hh X28.hx rfl (hb hby at_344) k) ?_
                  refine Go.of (T' := T28) (g' := (mkF mM 347 #[.val (.int aa), .val (.int ab), .val (.int ac), .val (.int d1), .val (.int d2), .val (.int d3), .val (.int d4), .val (.int (0 : Int32)), .val (.int bb), .val (.int ((ac.toUInt32 >>> ((3 : Int32) &&& 31).toUInt32).toInt32)), .val (.ref wi), .val (.ref wo), .val (.ref wo), .val (.int (0 : Int32)), .val (.ref lc), .val (.int (1 : Int32))] [])) (fun _ k => XS.istore X28.hh X28.hx rfl (hb hby at_345) rfl (l' := #[.val (.int aa), .val (.int ab), .val (.int ac), .val (.int d1), .val (.int d2), .val (.int d3), .val (.int d4), .val (.int (0 : Int32)), .val (.int bb), .val (.int ((ac.toUInt32 >>> ((3 : Int32) &&& 31).toUInt32).toInt32)), .val (.ref wi), .val (.ref wo), .val (.ref wo), .val (.int (0 : Int32)), .val (.ref lc), .val (.int (1 : Int32))]) rfl k) ?_
                  refine Go.of (T' := T28) (g' := (mkF mM 353 #[.val (.int aa), .val (.int ab), .val (.int ac), .val (.int d1), .val (.int d2), .val (.int d3), .val (.int d4), .val (.int (0 : Int32)), .val (.int bb), .val (.int ((ac.toUInt32 >>> ((3 : Int32) &&& 31).toUInt32).toInt32)), .val (.ref wi), .val (.ref wo), .val (.ref wo), .val (.int (0 : Int32)), .val (.ref lc), .val (.int (1 : Int32))] [])) (fun _ k => XS.goto X28.hh X28.hx rfl (pc0 := 347) (pc' := 353) rfl (hb hby at_347) (by decide) (by decide) k) ?_
                  exact J _ (Or.inl ⟨rfl, Or.inr ⟨hc276, Or.inr ⟨hc302, Or.inr ⟨hc328, hc341⟩⟩⟩⟩)
                · refine Go.of (T' := T28) (g' := (mkF mM 350 #[.val (.int aa), .val (.int ab), .val (.int ac), .val (.int d1), .val (.int d2), .val (.int d3), .val (.int d4), .val (.int (0 : Int32)), .val (.int bb), .val (.int ((ac.toUInt32 >>> ((3 : Int32) &&& 31).toUInt32).toInt32)), .val (.ref wi), .val (.ref wo), .val (.ref wo), .val (.int (0 : Int32)), .val (.ref lc), .unset] [])) (fun _ k => XS.icmpYes X28.hh X28.hx rfl (pc0 := 341) (pc' := 350) rfl (hb hby at_341) rfl (feq hc341).2 (by decide) (by decide) k) ?_
                  refine Go.of (T' := T28) (g' := (mkF mM 351 #[.val (.int aa), .val (.int ab), .val (.int ac), .val (.int d1), .val (.int d2), .val (.int d3), .val (.int d4), .val (.int (0 : Int32)), .val (.int bb), .val (.int ((ac.toUInt32 >>> ((3 : Int32) &&& 31).toUInt32).toInt32)), .val (.ref wi), .val (.ref wo), .val (.ref wo), .val (.int (0 : Int32)), .val (.ref lc), .unset] [(.int (0 : Int32))])) (fun _ k => XS.iconst X28.hh X28.hx rfl (hb hby at_350) k) ?_
                  refine Go.of (T' := T28) (g' := (mkF mM 353 #[.val (.int aa), .val (.int ab), .val (.int ac), .val (.int d1), .val (.int d2), .val (.int d3), .val (.int d4), .val (.int (0 : Int32)), .val (.int bb), .val (.int ((ac.toUInt32 >>> ((3 : Int32) &&& 31).toUInt32).toInt32)), .val (.ref wi), .val (.ref wo), .val (.ref wo), .val (.int (0 : Int32)), .val (.ref lc), .val (.int (0 : Int32))] [])) (fun _ k => XS.istore X28.hh X28.hx rfl (hb hby at_351) rfl (l' := #[.val (.int aa), .val (.int ab), .val (.int ac), .val (.int d1), .val (.int d2), .val (.int d3), .val (.int d4), .val (.int (0 : Int32)), .val (.int bb), .val (.int ((ac.toUInt32 >>> ((3 : Int32) &&& 31).toUInt32).toInt32)), .val (.ref wi), .val (.ref wo), .val (.ref wo), .val (.int (0 : Int32)), .val (.ref lc), .val (.int (0 : Int32))]) rfl k) ?_
                  exact J _ (Or.inr ⟨rfl, by simp [*]⟩)
  · refine Go.of (T' := T4) (g' := (mkF mM 35 #[.val (.int aa), .val (.int ab), .val (.int ac), .val (.int d1), .val (.int d2), .val (.int d3), .val (.int d4), .unset, .unset, .unset, .unset, .unset, .unset, .unset, .unset, .unset] [])) (fun _ k => XS.ifNo X4.hh X4.hx rfl (hb hby at_32) rfl ((if0 _ _).trans (feq hc32).1) k) ?_
    refine Go.of (T' := T4) (g' := (mkF mM 36 #[.val (.int aa), .val (.int ab), .val (.int ac), .val (.int d1), .val (.int d2), .val (.int d3), .val (.int d4), .unset, .unset, .unset, .unset, .unset, .unset, .unset, .unset, .unset] [(.int (1 : Int32))])) (fun _ k => XS.iconst X4.hh X4.hx rfl (hb hby at_35) k) ?_
    refine Go.of (T' := T4) (g' := (mkF mM 40 #[.val (.int aa), .val (.int ab), .val (.int ac), .val (.int d1), .val (.int d2), .val (.int d3), .val (.int d4), .unset, .unset, .unset, .unset, .unset, .unset, .unset, .unset, .unset] [(.int (1 : Int32))])) (fun _ k => XS.goto X4.hh X4.hx rfl (pc0 := 36) (pc' := 40) rfl (hb hby at_36) (by decide) (by decide) k) ?_
    refine Go.of (T' := T4) (g' := (mkF mM 42 #[.val (.int aa), .val (.int ab), .val (.int ac), .val (.int d1), .val (.int d2), .val (.int d3), .val (.int d4), .val (.int (1 : Int32)), .unset, .unset, .unset, .unset, .unset, .unset, .unset, .unset] [])) (fun _ k => XS.istore X4.hh X4.hx rfl (hb hby at_40) rfl (l' := #[.val (.int aa), .val (.int ab), .val (.int ac), .val (.int d1), .val (.int d2), .val (.int d3), .val (.int d4), .val (.int (1 : Int32)), .unset, .unset, .unset, .unset, .unset, .unset, .unset, .unset]) rfl k) ?_
    refine Go.of (T' := T4) (g' := (mkF mM 43 #[.val (.int aa), .val (.int ab), .val (.int ac), .val (.int d1), .val (.int d2), .val (.int d3), .val (.int d4), .val (.int (1 : Int32)), .unset, .unset, .unset, .unset, .unset, .unset, .unset, .unset] [(.int ac)])) (fun _ k => XS.iloadN X4.hh X4.hx rfl (hb hby at_42) rfl k) ?_
    refine Go.of (T' := T4) (g' := (mkF mM 44 #[.val (.int aa), .val (.int ab), .val (.int ac), .val (.int d1), .val (.int d2), .val (.int d3), .val (.int d4), .val (.int (1 : Int32)), .unset, .unset, .unset, .unset, .unset, .unset, .unset, .unset] [(.int (1 : Int32)), (.int ac)])) (fun _ k => XS.iconst X4.hh X4.hx rfl (hb hby at_43) k) ?_
    refine Go.of (T' := T4) (g' := (mkF mM 45 #[.val (.int aa), .val (.int ab), .val (.int ac), .val (.int d1), .val (.int d2), .val (.int d3), .val (.int d4), .val (.int (1 : Int32)), .unset, .unset, .unset, .unset, .unset, .unset, .unset, .unset] [(.int ((ac.toUInt32 >>> ((1 : Int32) &&& 31).toUInt32).toInt32))])) (fun _ k => XS.iushr X4.hh X4.hx rfl (hb hby at_44) rfl k) ?_
    refine Go.of (T' := T4) (g' := (mkF mM 46 #[.val (.int aa), .val (.int ab), .val (.int ac), .val (.int d1), .val (.int d2), .val (.int d3), .val (.int d4), .val (.int (1 : Int32)), .unset, .unset, .unset, .unset, .unset, .unset, .unset, .unset] [(.int (3 : Int32)), (.int ((ac.toUInt32 >>> ((1 : Int32) &&& 31).toUInt32).toInt32))])) (fun _ k => XS.iconst X4.hh X4.hx rfl (hb hby at_45) k) ?_
    refine Go.of (T' := T4) (g' := (mkF mM 47 #[.val (.int aa), .val (.int ab), .val (.int ac), .val (.int d1), .val (.int d2), .val (.int d3), .val (.int d4), .val (.int (1 : Int32)), .unset, .unset, .unset, .unset, .unset, .unset, .unset, .unset] [(.int (((ac.toUInt32 >>> ((1 : Int32) &&& 31).toUInt32).toInt32) &&& (3 : Int32)))])) (fun _ k => XS.iand X4.hh X4.hx rfl (hb hby at_46) rfl k) ?_
    refine X4.callS (W := 0) (argsL := [(.int (((ac.toUInt32 >>> ((1 : Int32) &&& 31).toUInt32).toInt32) &&& (3 : Int32)))]) (rest := []) (hw _ (List.mem_of_getElem? (i := 5) rfl)) (hw _ (List.mem_of_getElem? (i := 6) rfl)) (hw _ (List.mem_of_getElem? (i := 2) rfl)) (hw _ (List.mem_of_getElem? (i := 7) rfl)) (by decide) (blank_of l Z a0 G _ h4) pd_1 rfl rfl rfl (by rw [hml]; rfl) (by decide) (by decide) (by decide) (by decide) (hb hby at_47) all0 all0 ?_
    intro v31 T31 h31 S31 X31 K31 Q31
    have X31 := X31 [] all0
    obtain ⟨bb, rfl, hbb, rb1, rb2, e31⟩ := Q31
    rw [e31] at X31
    show Go pP eE bB _ T31 (mkF mM 50 #[.val (.int aa), .val (.int ab), .val (.int ac), .val (.int d1), .val (.int d2), .val (.int d3), .val (.int d4), .val (.int (1 : Int32)), .unset, .unset, .unset, .unset, .unset, .unset, .unset, .unset] [(.int bb)])
    refine Go.of (T' := T31) (g' := (mkF mM 52 #[.val (.int aa), .val (.int ab), .val (.int ac), .val (.int d1), .val (.int d2), .val (.int d3), .val (.int d4), .val (.int (1 : Int32)), .val (.int bb), .unset, .unset, .unset, .unset, .unset, .unset, .unset] [])) (fun _ k => XS.istore X31.hh X31.hx rfl (hb hby at_50) rfl (l' := #[.val (.int aa), .val (.int ab), .val (.int ac), .val (.int d1), .val (.int d2), .val (.int d3), .val (.int d4), .val (.int (1 : Int32)), .val (.int bb), .unset, .unset, .unset, .unset, .unset, .unset, .unset]) rfl k) ?_
    refine Go.of (T' := T31) (g' := (mkF mM 53 #[.val (.int aa), .val (.int ab), .val (.int ac), .val (.int d1), .val (.int d2), .val (.int d3), .val (.int d4), .val (.int (1 : Int32)), .val (.int bb), .unset, .unset, .unset, .unset, .unset, .unset, .unset] [(.int ac)])) (fun _ k => XS.iloadN X31.hh X31.hx rfl (hb hby at_52) rfl k) ?_
    refine Go.of (T' := T31) (g' := (mkF mM 54 #[.val (.int aa), .val (.int ab), .val (.int ac), .val (.int d1), .val (.int d2), .val (.int d3), .val (.int d4), .val (.int (1 : Int32)), .val (.int bb), .unset, .unset, .unset, .unset, .unset, .unset, .unset] [(.int (3 : Int32)), (.int ac)])) (fun _ k => XS.iconst X31.hh X31.hx rfl (hb hby at_53) k) ?_
    refine Go.of (T' := T31) (g' := (mkF mM 55 #[.val (.int aa), .val (.int ab), .val (.int ac), .val (.int d1), .val (.int d2), .val (.int d3), .val (.int d4), .val (.int (1 : Int32)), .val (.int bb), .unset, .unset, .unset, .unset, .unset, .unset, .unset] [(.int ((ac.toUInt32 >>> ((3 : Int32) &&& 31).toUInt32).toInt32))])) (fun _ k => XS.iushr X31.hh X31.hx rfl (hb hby at_54) rfl k) ?_
    refine Go.of (T' := T31) (g' := (mkF mM 57 #[.val (.int aa), .val (.int ab), .val (.int ac), .val (.int d1), .val (.int d2), .val (.int d3), .val (.int d4), .val (.int (1 : Int32)), .val (.int bb), .val (.int ((ac.toUInt32 >>> ((3 : Int32) &&& 31).toUInt32).toInt32)), .unset, .unset, .unset, .unset, .unset, .unset] [])) (fun _ k => XS.istore X31.hh X31.hx rfl (hb hby at_55) rfl (l' := #[.val (.int aa), .val (.int ab), .val (.int ac), .val (.int d1), .val (.int d2), .val (.int d3), .val (.int d4), .val (.int (1 : Int32)), .val (.int bb), .val (.int ((ac.toUInt32 >>> ((3 : Int32) &&& 31).toUInt32).toInt32)), .unset, .unset, .unset, .unset, .unset, .unset]) rfl k) ?_
    refine Go.of (T' := T31) (g' := (mkF mM 59 #[.val (.int aa), .val (.int ab), .val (.int ac), .val (.int d1), .val (.int d2), .val (.int d3), .val (.int d4), .val (.int (1 : Int32)), .val (.int bb), .val (.int ((ac.toUInt32 >>> ((3 : Int32) &&& 31).toUInt32).toInt32)), .unset, .unset, .unset, .unset, .unset, .unset] [(.int (12 : Int32))])) (fun _ k => XS.bipush X31.hh X31.hx rfl (hb hby at_57) k) ?_
    refine X31.newP (cap := 12) (hw _ (List.mem_of_getElem? (i := 4) rfl)) (hb hby at_59) (by decide) (by decide) (by decide) (by decide) (by decide) ?_
    intro T32 h32 wi kc_wi g_wi X32 E32 V_wi
    have z32 : h4.size ≤ h32.size := E32.1
    have l_wi : wi < h32.size := V_wi.lt
    have V_wi : Arv Z h32 wi kc_wi .char (12 : Int32) [(.int (0 : Int32)), (.int (0 : Int32)), (.int (0 : Int32)), (.int (0 : Int32)), (.int (0 : Int32)), (.int (0 : Int32)), (.int (0 : Int32)), (.int (0 : Int32)), (.int (0 : Int32)), (.int (0 : Int32)), (.int (0 : Int32)), (.int (0 : Int32))] (.int (0 : Int32)) := Arv.pad V_wi (pad_rep [] _ 12)
    show Go pP eE bB _ T32 (mkF mM 61 #[.val (.int aa), .val (.int ab), .val (.int ac), .val (.int d1), .val (.int d2), .val (.int d3), .val (.int d4), .val (.int (1 : Int32)), .val (.int bb), .val (.int ((ac.toUInt32 >>> ((3 : Int32) &&& 31).toUInt32).toInt32)), .unset, .unset, .unset, .unset, .unset, .unset] [(.ref wi)])
    refine Go.of (T' := T32) (g' := (mkF mM 63 #[.val (.int aa), .val (.int ab), .val (.int ac), .val (.int d1), .val (.int d2), .val (.int d3), .val (.int d4), .val (.int (1 : Int32)), .val (.int bb), .val (.int ((ac.toUInt32 >>> ((3 : Int32) &&& 31).toUInt32).toInt32)), .val (.ref wi), .unset, .unset, .unset, .unset, .unset] [])) (fun _ k => XS.astore X32.hh X32.hx rfl (hb hby at_61) rfl rfl (l' := #[.val (.int aa), .val (.int ab), .val (.int ac), .val (.int d1), .val (.int d2), .val (.int d3), .val (.int d4), .val (.int (1 : Int32)), .val (.int bb), .val (.int ((ac.toUInt32 >>> ((3 : Int32) &&& 31).toUInt32).toInt32)), .val (.ref wi), .unset, .unset, .unset, .unset, .unset]) rfl k) ?_
    refine Go.of (T' := T32) (g' := (mkF mM 65 #[.val (.int aa), .val (.int ab), .val (.int ac), .val (.int d1), .val (.int d2), .val (.int d3), .val (.int d4), .val (.int (1 : Int32)), .val (.int bb), .val (.int ((ac.toUInt32 >>> ((3 : Int32) &&& 31).toUInt32).toInt32)), .val (.ref wi), .unset, .unset, .unset, .unset, .unset] [(.int (11 : Int32))])) (fun _ k => XS.bipush X32.hh X32.hx rfl (hb hby at_63) k) ?_
    refine X32.newP (cap := 11) (hw _ (List.mem_of_getElem? (i := 4) rfl)) (hb hby at_65) (by decide) (by decide) (by decide) (by decide) (by decide) ?_
    intro T33 h33 wo kc_wo g_wo X33 E33 V_wo
    have z33 : h32.size ≤ h33.size := E33.1
    have l_wo : wo < h33.size := V_wo.lt
    have V_wo : Arv Z h33 wo kc_wo .char (11 : Int32) [(.int (0 : Int32)), (.int (0 : Int32)), (.int (0 : Int32)), (.int (0 : Int32)), (.int (0 : Int32)), (.int (0 : Int32)), (.int (0 : Int32)), (.int (0 : Int32)), (.int (0 : Int32)), (.int (0 : Int32)), (.int (0 : Int32))] (.int (0 : Int32)) := Arv.pad V_wo (pad_rep [] _ 11)
    show Go pP eE bB _ T33 (mkF mM 67 #[.val (.int aa), .val (.int ab), .val (.int ac), .val (.int d1), .val (.int d2), .val (.int d3), .val (.int d4), .val (.int (1 : Int32)), .val (.int bb), .val (.int ((ac.toUInt32 >>> ((3 : Int32) &&& 31).toUInt32).toInt32)), .val (.ref wi), .unset, .unset, .unset, .unset, .unset] [(.ref wo)])
    refine Go.of (T' := T33) (g' := (mkF mM 69 #[.val (.int aa), .val (.int ab), .val (.int ac), .val (.int d1), .val (.int d2), .val (.int d3), .val (.int d4), .val (.int (1 : Int32)), .val (.int bb), .val (.int ((ac.toUInt32 >>> ((3 : Int32) &&& 31).toUInt32).toInt32)), .val (.ref wi), .val (.ref wo), .unset, .unset, .unset, .unset] [])) (fun _ k => XS.astore X33.hh X33.hx rfl (hb hby at_67) rfl rfl (l' := #[.val (.int aa), .val (.int ab), .val (.int ac), .val (.int d1), .val (.int d2), .val (.int d3), .val (.int d4), .val (.int (1 : Int32)), .val (.int bb), .val (.int ((ac.toUInt32 >>> ((3 : Int32) &&& 31).toUInt32).toInt32)), .val (.ref wi), .val (.ref wo), .unset, .unset, .unset, .unset]) rfl k) ?_
    refine Go.of (T' := T33) (g' := (mkF mM 71 #[.val (.int aa), .val (.int ab), .val (.int ac), .val (.int d1), .val (.int d2), .val (.int d3), .val (.int d4), .val (.int (1 : Int32)), .val (.int bb), .val (.int ((ac.toUInt32 >>> ((3 : Int32) &&& 31).toUInt32).toInt32)), .val (.ref wi), .val (.ref wo), .unset, .unset, .unset, .unset] [(.int (1 : Int32))])) (fun _ k => XS.iload X33.hh X33.hx rfl (hb hby at_69) rfl k) ?_
    refine Go.of (T' := T33) (g' := (mkF mM 74 #[.val (.int aa), .val (.int ab), .val (.int ac), .val (.int d1), .val (.int d2), .val (.int d3), .val (.int d4), .val (.int (1 : Int32)), .val (.int bb), .val (.int ((ac.toUInt32 >>> ((3 : Int32) &&& 31).toUInt32).toInt32)), .val (.ref wi), .val (.ref wo), .unset, .unset, .unset, .unset] [])) (fun _ k => XS.ifNo X33.hh X33.hx rfl (hb hby at_71) rfl ((if0 _ _).trans (feq (by decide)).1) k) ?_
    refine Go.of (T' := T33) (g' := (mkF mM 76 #[.val (.int aa), .val (.int ab), .val (.int ac), .val (.int d1), .val (.int d2), .val (.int d3), .val (.int d4), .val (.int (1 : Int32)), .val (.int bb), .val (.int ((ac.toUInt32 >>> ((3 : Int32) &&& 31).toUInt32).toInt32)), .val (.ref wi), .val (.ref wo), .unset, .unset, .unset, .unset] [(.ref wi)])) (fun _ k => XS.aload X33.hh X33.hx rfl (hb hby at_74) rfl rfl k) ?_
    refine Go.of (T' := T33) (g' := (mkF mM 81 #[.val (.int aa), .val (.int ab), .val (.int ac), .val (.int d1), .val (.int d2), .val (.int d3), .val (.int d4), .val (.int (1 : Int32)), .val (.int bb), .val (.int ((ac.toUInt32 >>> ((3 : Int32) &&& 31).toUInt32).toInt32)), .val (.ref wi), .val (.ref wo), .unset, .unset, .unset, .unset] [(.ref wi)])) (fun _ k => XS.goto X33.hh X33.hx rfl (pc0 := 76) (pc' := 81) rfl (hb hby at_76) (by decide) (by decide) k) ?_
    refine Go.of (T' := T33) (g' := (mkF mM 83 #[.val (.int aa), .val (.int ab), .val (.int ac), .val (.int d1), .val (.int d2), .val (.int d3), .val (.int d4), .val (.int (1 : Int32)), .val (.int bb), .val (.int ((ac.toUInt32 >>> ((3 : Int32) &&& 31).toUInt32).toInt32)), .val (.ref wi), .val (.ref wo), .val (.ref wi), .unset, .unset, .unset] [])) (fun _ k => XS.astore X33.hh X33.hx rfl (hb hby at_81) rfl rfl (l' := #[.val (.int aa), .val (.int ab), .val (.int ac), .val (.int d1), .val (.int d2), .val (.int d3), .val (.int d4), .val (.int (1 : Int32)), .val (.int bb), .val (.int ((ac.toUInt32 >>> ((3 : Int32) &&& 31).toUInt32).toInt32)), .val (.ref wi), .val (.ref wo), .val (.ref wi), .unset, .unset, .unset]) rfl k) ?_
    refine Go.of (T' := T33) (g' := (mkF mM 85 #[.val (.int aa), .val (.int ab), .val (.int ac), .val (.int d1), .val (.int d2), .val (.int d3), .val (.int d4), .val (.int (1 : Int32)), .val (.int bb), .val (.int ((ac.toUInt32 >>> ((3 : Int32) &&& 31).toUInt32).toInt32)), .val (.ref wi), .val (.ref wo), .val (.ref wi), .unset, .unset, .unset] [(.int (1 : Int32))])) (fun _ k => XS.iload X33.hh X33.hx rfl (hb hby at_83) rfl k) ?_
    refine Go.of (T' := T33) (g' := (mkF mM 88 #[.val (.int aa), .val (.int ab), .val (.int ac), .val (.int d1), .val (.int d2), .val (.int d3), .val (.int d4), .val (.int (1 : Int32)), .val (.int bb), .val (.int ((ac.toUInt32 >>> ((3 : Int32) &&& 31).toUInt32).toInt32)), .val (.ref wi), .val (.ref wo), .val (.ref wi), .unset, .unset, .unset] [])) (fun _ k => XS.ifNo X33.hh X33.hx rfl (hb hby at_85) rfl ((if0 _ _).trans (feq (by decide)).1) k) ?_
    refine Go.of (T' := T33) (g' := (mkF mM 89 #[.val (.int aa), .val (.int ab), .val (.int ac), .val (.int d1), .val (.int d2), .val (.int d3), .val (.int d4), .val (.int (1 : Int32)), .val (.int bb), .val (.int ((ac.toUInt32 >>> ((3 : Int32) &&& 31).toUInt32).toInt32)), .val (.ref wi), .val (.ref wo), .val (.ref wi), .unset, .unset, .unset] [(.int (1 : Int32))])) (fun _ k => XS.iconst X33.hh X33.hx rfl (hb hby at_88) k) ?_
    refine Go.of (T' := T33) (g' := (mkF mM 93 #[.val (.int aa), .val (.int ab), .val (.int ac), .val (.int d1), .val (.int d2), .val (.int d3), .val (.int d4), .val (.int (1 : Int32)), .val (.int bb), .val (.int ((ac.toUInt32 >>> ((3 : Int32) &&& 31).toUInt32).toInt32)), .val (.ref wi), .val (.ref wo), .val (.ref wi), .unset, .unset, .unset] [(.int (1 : Int32))])) (fun _ k => XS.goto X33.hh X33.hx rfl (pc0 := 89) (pc' := 93) rfl (hb hby at_89) (by decide) (by decide) k) ?_
    refine Go.of (T' := T33) (g' := (mkF mM 95 #[.val (.int aa), .val (.int ab), .val (.int ac), .val (.int d1), .val (.int d2), .val (.int d3), .val (.int d4), .val (.int (1 : Int32)), .val (.int bb), .val (.int ((ac.toUInt32 >>> ((3 : Int32) &&& 31).toUInt32).toInt32)), .val (.ref wi), .val (.ref wo), .val (.ref wi), .val (.int (1 : Int32)), .unset, .unset] [])) (fun _ k => XS.istore X33.hh X33.hx rfl (hb hby at_93) rfl (l' := #[.val (.int aa), .val (.int ab), .val (.int ac), .val (.int d1), .val (.int d2), .val (.int d3), .val (.int d4), .val (.int (1 : Int32)), .val (.int bb), .val (.int ((ac.toUInt32 >>> ((3 : Int32) &&& 31).toUInt32).toInt32)), .val (.ref wi), .val (.ref wo), .val (.ref wi), .val (.int (1 : Int32)), .unset, .unset]) rfl k) ?_
    refine Go.of (T' := T33) (g' := (mkF mM 97 #[.val (.int aa), .val (.int ab), .val (.int ac), .val (.int d1), .val (.int d2), .val (.int d3), .val (.int d4), .val (.int (1 : Int32)), .val (.int bb), .val (.int ((ac.toUInt32 >>> ((3 : Int32) &&& 31).toUInt32).toInt32)), .val (.ref wi), .val (.ref wo), .val (.ref wi), .val (.int (1 : Int32)), .unset, .unset] [(.int (1 : Int32))])) (fun _ k => XS.iload X33.hh X33.hx rfl (hb hby at_95) rfl k) ?_
    refine Go.of (T' := T33) (g' := (mkF mM 100 #[.val (.int aa), .val (.int ab), .val (.int ac), .val (.int d1), .val (.int d2), .val (.int d3), .val (.int d4), .val (.int (1 : Int32)), .val (.int bb), .val (.int ((ac.toUInt32 >>> ((3 : Int32) &&& 31).toUInt32).toInt32)), .val (.ref wi), .val (.ref wo), .val (.ref wi), .val (.int (1 : Int32)), .unset, .unset] [])) (fun _ k => XS.ifNo X33.hh X33.hx rfl (hb hby at_97) rfl ((if0 _ _).trans (feq (by decide)).1) k) ?_
    refine Go.of (T' := T33) (g' := (mkF mM 102 #[.val (.int aa), .val (.int ab), .val (.int ac), .val (.int d1), .val (.int d2), .val (.int d3), .val (.int d4), .val (.int (1 : Int32)), .val (.int bb), .val (.int ((ac.toUInt32 >>> ((3 : Int32) &&& 31).toUInt32).toInt32)), .val (.ref wi), .val (.ref wo), .val (.ref wi), .val (.int (1 : Int32)), .unset, .unset] [(.ref wi)])) (fun _ k => XS.aload X33.hh X33.hx rfl (hb hby at_100) rfl rfl k) ?_
    refine Go.of (T' := T33) (g' := (mkF mM 103 #[.val (.int aa), .val (.int ab), .val (.int ac), .val (.int d1), .val (.int d2), .val (.int d3), .val (.int d4), .val (.int (1 : Int32)), .val (.int bb), .val (.int ((ac.toUInt32 >>> ((3 : Int32) &&& 31).toUInt32).toInt32)), .val (.ref wi), .val (.ref wo), .val (.ref wi), .val (.int (1 : Int32)), .unset, .unset] [(.int (0 : Int32)), (.ref wi)])) (fun _ k => XS.iconst X33.hh X33.hx rfl (hb hby at_102) k) ?_
    refine Go.of (T' := T33) (g' := (mkF mM 105 #[.val (.int aa), .val (.int ab), .val (.int ac), .val (.int d1), .val (.int d2), .val (.int d3), .val (.int d4), .val (.int (1 : Int32)), .val (.int bb), .val (.int ((ac.toUInt32 >>> ((3 : Int32) &&& 31).toUInt32).toInt32)), .val (.ref wi), .val (.ref wo), .val (.ref wi), .val (.int (1 : Int32)), .unset, .unset] [(.int bb), (.int (0 : Int32)), (.ref wi)])) (fun _ k => XS.iload X33.hh X33.hx rfl (hb hby at_103) rfl k) ?_
    have V_wi := (V_wi.ext E33)
    refine X33.stC 0 V_wi (by decide) rfl (Nat.le_of_ble_eq_true rfl) (by omega) (Or.inr (by omega)) (hb hby at_105) ?_
    intro T34 h34 X34 K34 V_wi
    have z34 : h33.size ≤ h34.size := K34.1
    have V_wi : Arv Z h34 wi kc_wi .char (12 : Int32) [(.int bb), (.int (0 : Int32)), (.int (0 : Int32)), (.int (0 : Int32)), (.int (0 : Int32)), (.int (0 : Int32)), (.int (0 : Int32)), (.int (0 : Int32)), (.int (0 : Int32)), (.int (0 : Int32)), (.int (0 : Int32)), (.int (0 : Int32))] (.int (0 : Int32)) := by have q := V_wi; rw [nar255 bb rb1 rb2] at q; exact q
    show Go pP eE bB _ T34 (mkF mM 106 #[.val (.int aa), .val (.int ab), .val (.int ac), .val (.int d1), .val (.int d2), .val (.int d3), .val (.int d4), .val (.int (1 : Int32)), .val (.int bb), .val (.int ((ac.toUInt32 >>> ((3 : Int32) &&& 31).toUInt32).toInt32)), .val (.ref wi), .val (.ref wo), .val (.ref wi), .val (.int (1 : Int32)), .unset, .unset] [])
    refine Go.of (T' := T34) (g' := (mkF mM 108 #[.val (.int aa), .val (.int ab), .val (.int ac), .val (.int d1), .val (.int d2), .val (.int d3), .val (.int d4), .val (.int (1 : Int32)), .val (.int bb), .val (.int ((ac.toUInt32 >>> ((3 : Int32) &&& 31).toUInt32).toInt32)), .val (.ref wi), .val (.ref wo), .val (.ref wi), .val (.int (1 : Int32)), .unset, .unset] [(.ref wi)])) (fun _ k => XS.aload X34.hh X34.hx rfl (hb hby at_106) rfl rfl k) ?_
    refine Go.of (T' := T34) (g' := (mkF mM 110 #[.val (.int aa), .val (.int ab), .val (.int ac), .val (.int d1), .val (.int d2), .val (.int d3), .val (.int d4), .val (.int (1 : Int32)), .val (.int bb), .val (.int ((ac.toUInt32 >>> ((3 : Int32) &&& 31).toUInt32).toInt32)), .val (.ref wi), .val (.ref wo), .val (.ref wi), .val (.int (1 : Int32)), .unset, .unset] [(.int (1 : Int32)), (.ref wi)])) (fun _ k => XS.iload X34.hh X34.hx rfl (hb hby at_108) rfl k) ?_
    refine Go.of (T' := T34) (g' := (mkF mM 112 #[.val (.int aa), .val (.int ab), .val (.int ac), .val (.int d1), .val (.int d2), .val (.int d3), .val (.int d4), .val (.int (1 : Int32)), .val (.int bb), .val (.int ((ac.toUInt32 >>> ((3 : Int32) &&& 31).toUInt32).toInt32)), .val (.ref wi), .val (.ref wo), .val (.ref wi), .val (.int (1 : Int32)), .unset, .unset] [(.int (109 : Int32)), (.int (1 : Int32)), (.ref wi)])) (fun _ k => XS.bipush X34.hh X34.hx rfl (hb hby at_110) k) ?_
    refine Go.of (T' := T34) (g' := (mkF mM 114 #[.val (.int aa), .val (.int ab), .val (.int ac), .val (.int d1), .val (.int d2), .val (.int d3), .val (.int d4), .val (.int (1 : Int32)), .val (.int bb), .val (.int ((ac.toUInt32 >>> ((3 : Int32) &&& 31).toUInt32).toInt32)), .val (.ref wi), .val (.ref wo), .val (.ref wi), .val (.int (1 : Int32)), .unset, .unset] [(.int ((ac.toUInt32 >>> ((3 : Int32) &&& 31).toUInt32).toInt32)), (.int (109 : Int32)), (.int (1 : Int32)), (.ref wi)])) (fun _ k => XS.iload X34.hh X34.hx rfl (hb hby at_112) rfl k) ?_
    refine Go.of (T' := T34) (g' := (mkF mM 115 #[.val (.int aa), .val (.int ab), .val (.int ac), .val (.int d1), .val (.int d2), .val (.int d3), .val (.int d4), .val (.int (1 : Int32)), .val (.int bb), .val (.int ((ac.toUInt32 >>> ((3 : Int32) &&& 31).toUInt32).toInt32)), .val (.ref wi), .val (.ref wo), .val (.ref wi), .val (.int (1 : Int32)), .unset, .unset] [(.int (0 : Int32)), (.int ((ac.toUInt32 >>> ((3 : Int32) &&& 31).toUInt32).toInt32)), (.int (109 : Int32)), (.int (1 : Int32)), (.ref wi)])) (fun _ k => XS.iconst X34.hh X34.hx rfl (hb hby at_114) k) ?_
    refine X34.callS (W := 2) (argsL := [(.int (109 : Int32)), (.int ((ac.toUInt32 >>> ((3 : Int32) &&& 31).toUInt32).toInt32)), (.int (0 : Int32))]) (rest := [(.int (1 : Int32)), (.ref wi)]) (hw _ (List.mem_of_getElem? (i := 8) rfl)) (hw _ (List.mem_of_getElem? (i := 9) rfl)) (hw _ (List.mem_of_getElem? (i := 2) rfl)) (hw _ (List.mem_of_getElem? (i := 10) rfl)) (by decide) (letter_rm l Z a0 G (109 : Int32) _ _ h34 (by decide) (by decide)) pd_7 rfl rfl rfl (by rw [hml]; rfl) (by decide) (by decide) (by decide) (by decide) (hb hby at_115) all0 all0 ?_
    intro v35 T35 h35 S35 X35 K35 Q35
    have X35 := X35 [] all0
    obtain ⟨m0, rfl, hm0, e35⟩ := Q35
    rw [e35] at X35
    have rm0 : ¬ m0 < 0 ∧ ¬ (255 : Int32) < m0 := by rcases hm0 with rfl | rfl <;> decide
    show Go pP eE bB _ T35 (mkF mM 118 #[.val (.int aa), .val (.int ab), .val (.int ac), .val (.int d1), .val (.int d2), .val (.int d3), .val (.int d4), .val (.int (1 : Int32)), .val (.int bb), .val (.int ((ac.toUInt32 >>> ((3 : Int32) &&& 31).toUInt32).toInt32)), .val (.ref wi), .val (.ref wo), .val (.ref wi), .val (.int (1 : Int32)), .unset, .unset] [(.int m0), (.int (1 : Int32)), (.ref wi)])
    refine X35.stC 1 V_wi (by decide) (by decide) (Nat.le_of_ble_eq_true rfl) (by omega) (Or.inr (by omega)) (hb hby at_118) ?_
    intro T36 h36 X36 K36 V_wi
    have z36 : h34.size ≤ h36.size := K36.1
    have V_wi : Arv Z h36 wi kc_wi .char (12 : Int32) [(.int bb), (.int m0), (.int (0 : Int32)), (.int (0 : Int32)), (.int (0 : Int32)), (.int (0 : Int32)), (.int (0 : Int32)), (.int (0 : Int32)), (.int (0 : Int32)), (.int (0 : Int32)), (.int (0 : Int32)), (.int (0 : Int32))] (.int (0 : Int32)) := by have q := V_wi; rw [nar255 m0 rm0.1 rm0.2] at q; exact q
    show Go pP eE bB _ T36 (mkF mM 119 #[.val (.int aa), .val (.int ab), .val (.int ac), .val (.int d1), .val (.int d2), .val (.int d3), .val (.int d4), .val (.int (1 : Int32)), .val (.int bb), .val (.int ((ac.toUInt32 >>> ((3 : Int32) &&& 31).toUInt32).toInt32)), .val (.ref wi), .val (.ref wo), .val (.ref wi), .val (.int (1 : Int32)), .unset, .unset] [])
    refine Go.of (T' := T36) (g' := (mkF mM 121 #[.val (.int aa), .val (.int ab), .val (.int ac), .val (.int d1), .val (.int d2), .val (.int d3), .val (.int d4), .val (.int (1 : Int32)), .val (.int bb), .val (.int ((ac.toUInt32 >>> ((3 : Int32) &&& 31).toUInt32).toInt32)), .val (.ref wi), .val (.ref wo), .val (.ref wi), .val (.int (1 : Int32)), .unset, .unset] [(.ref wi)])) (fun _ k => XS.aload X36.hh X36.hx rfl (hb hby at_119) rfl rfl k) ?_
    refine Go.of (T' := T36) (g' := (mkF mM 123 #[.val (.int aa), .val (.int ab), .val (.int ac), .val (.int d1), .val (.int d2), .val (.int d3), .val (.int d4), .val (.int (1 : Int32)), .val (.int bb), .val (.int ((ac.toUInt32 >>> ((3 : Int32) &&& 31).toUInt32).toInt32)), .val (.ref wi), .val (.ref wo), .val (.ref wi), .val (.int (1 : Int32)), .unset, .unset] [(.int (1 : Int32)), (.ref wi)])) (fun _ k => XS.iload X36.hh X36.hx rfl (hb hby at_121) rfl k) ?_
    refine Go.of (T' := T36) (g' := (mkF mM 124 #[.val (.int aa), .val (.int ab), .val (.int ac), .val (.int d1), .val (.int d2), .val (.int d3), .val (.int d4), .val (.int (1 : Int32)), .val (.int bb), .val (.int ((ac.toUInt32 >>> ((3 : Int32) &&& 31).toUInt32).toInt32)), .val (.ref wi), .val (.ref wo), .val (.ref wi), .val (.int (1 : Int32)), .unset, .unset] [(.int (1 : Int32)), (.int (1 : Int32)), (.ref wi)])) (fun _ k => XS.iconst X36.hh X36.hx rfl (hb hby at_123) k) ?_
    refine Go.of (T' := T36) (g' := (mkF mM 125 #[.val (.int aa), .val (.int ab), .val (.int ac), .val (.int d1), .val (.int d2), .val (.int d3), .val (.int d4), .val (.int (1 : Int32)), .val (.int bb), .val (.int ((ac.toUInt32 >>> ((3 : Int32) &&& 31).toUInt32).toInt32)), .val (.ref wi), .val (.ref wo), .val (.ref wi), .val (.int (1 : Int32)), .unset, .unset] [(.int ((1 : Int32) + (1 : Int32))), (.ref wi)])) (fun _ k => XS.iadd X36.hh X36.hx rfl (hb hby at_124) rfl k) ?_
    refine Go.of (T' := T36) (g' := (mkF mM 127 #[.val (.int aa), .val (.int ab), .val (.int ac), .val (.int d1), .val (.int d2), .val (.int d3), .val (.int d4), .val (.int (1 : Int32)), .val (.int bb), .val (.int ((ac.toUInt32 >>> ((3 : Int32) &&& 31).toUInt32).toInt32)), .val (.ref wi), .val (.ref wo), .val (.ref wi), .val (.int (1 : Int32)), .unset, .unset] [(.int (97 : Int32)), (.int ((1 : Int32) + (1 : Int32))), (.ref wi)])) (fun _ k => XS.bipush X36.hh X36.hx rfl (hb hby at_125) k) ?_
    refine Go.of (T' := T36) (g' := (mkF mM 129 #[.val (.int aa), .val (.int ab), .val (.int ac), .val (.int d1), .val (.int d2), .val (.int d3), .val (.int d4), .val (.int (1 : Int32)), .val (.int bb), .val (.int ((ac.toUInt32 >>> ((3 : Int32) &&& 31).toUInt32).toInt32)), .val (.ref wi), .val (.ref wo), .val (.ref wi), .val (.int (1 : Int32)), .unset, .unset] [(.int ((ac.toUInt32 >>> ((3 : Int32) &&& 31).toUInt32).toInt32)), (.int (97 : Int32)), (.int ((1 : Int32) + (1 : Int32))), (.ref wi)])) (fun _ k => XS.iload X36.hh X36.hx rfl (hb hby at_127) rfl k) ?_
    refine Go.of (T' := T36) (g' := (mkF mM 130 #[.val (.int aa), .val (.int ab), .val (.int ac), .val (.int d1), .val (.int d2), .val (.int d3), .val (.int d4), .val (.int (1 : Int32)), .val (.int bb), .val (.int ((ac.toUInt32 >>> ((3 : Int32) &&& 31).toUInt32).toInt32)), .val (.ref wi), .val (.ref wo), .val (.ref wi), .val (.int (1 : Int32)), .unset, .unset] [(.int (1 : Int32)), (.int ((ac.toUInt32 >>> ((3 : Int32) &&& 31).toUInt32).toInt32)), (.int (97 : Int32)), (.int ((1 : Int32) + (1 : Int32))), (.ref wi)])) (fun _ k => XS.iconst X36.hh X36.hx rfl (hb hby at_129) k) ?_
    refine X36.callS (W := 2) (argsL := [(.int (97 : Int32)), (.int ((ac.toUInt32 >>> ((3 : Int32) &&& 31).toUInt32).toInt32)), (.int (1 : Int32))]) (rest := [(.int ((1 : Int32) + (1 : Int32))), (.ref wi)]) (hw _ (List.mem_of_getElem? (i := 8) rfl)) (hw _ (List.mem_of_getElem? (i := 9) rfl)) (hw _ (List.mem_of_getElem? (i := 2) rfl)) (hw _ (List.mem_of_getElem? (i := 10) rfl)) (by decide) (letter_rm l Z a0 G (97 : Int32) _ _ h36 (by decide) (by decide)) pd_7 rfl rfl rfl (by rw [hml]; rfl) (by decide) (by decide) (by decide) (by decide) (hb hby at_130) all0 all0 ?_
    intro v37 T37 h37 S37 X37 K37 Q37
    have X37 := X37 [] all0
    obtain ⟨m1, rfl, hm1, e37⟩ := Q37
    rw [e37] at X37
    have rm1 : ¬ m1 < 0 ∧ ¬ (255 : Int32) < m1 := by rcases hm1 with rfl | rfl <;> decide
    show Go pP eE bB _ T37 (mkF mM 133 #[.val (.int aa), .val (.int ab), .val (.int ac), .val (.int d1), .val (.int d2), .val (.int d3), .val (.int d4), .val (.int (1 : Int32)), .val (.int bb), .val (.int ((ac.toUInt32 >>> ((3 : Int32) &&& 31).toUInt32).toInt32)), .val (.ref wi), .val (.ref wo), .val (.ref wi), .val (.int (1 : Int32)), .unset, .unset] [(.int m1), (.int ((1 : Int32) + (1 : Int32))), (.ref wi)])
    refine X37.stC 2 V_wi (by decide) (by decide) (Nat.le_of_ble_eq_true rfl) (by omega) (Or.inr (by omega)) (hb hby at_133) ?_
    intro T38 h38 X38 K38 V_wi
    have z38 : h36.size ≤ h38.size := K38.1
    have V_wi : Arv Z h38 wi kc_wi .char (12 : Int32) [(.int bb), (.int m0), (.int m1), (.int (0 : Int32)), (.int (0 : Int32)), (.int (0 : Int32)), (.int (0 : Int32)), (.int (0 : Int32)), (.int (0 : Int32)), (.int (0 : Int32)), (.int (0 : Int32)), (.int (0 : Int32))] (.int (0 : Int32)) := by have q := V_wi; rw [nar255 m1 rm1.1 rm1.2] at q; exact q
    show Go pP eE bB _ T38 (mkF mM 134 #[.val (.int aa), .val (.int ab), .val (.int ac), .val (.int d1), .val (.int d2), .val (.int d3), .val (.int d4), .val (.int (1 : Int32)), .val (.int bb), .val (.int ((ac.toUInt32 >>> ((3 : Int32) &&& 31).toUInt32).toInt32)), .val (.ref wi), .val (.ref wo), .val (.ref wi), .val (.int (1 : Int32)), .unset, .unset] [])
    refine Go.of (T' := T38) (g' := (mkF mM 136 #[.val (.int aa), .val (.int ab), .val (.int ac), .val (.int d1), .val (.int d2), .val (.int d3), .val (.int d4), .val (.int (1 : Int32)), .val (.int bb), .val (.int ((ac.toUInt32 >>> ((3 : Int32) &&& 31).toUInt32).toInt32)), .val (.ref wi), .val (.ref wo), .val (.ref wi), .val (.int (1 : Int32)), .unset, .unset] [(.ref wi)])) (fun _ k => XS.aload X38.hh X38.hx rfl (hb hby at_134) rfl rfl k) ?_
    refine Go.of (T' := T38) (g' := (mkF mM 138 #[.val (.int aa), .val (.int ab), .val (.int ac), .val (.int d1), .val (.int d2), .val (.int d3), .val (.int d4), .val (.int (1 : Int32)), .val (.int bb), .val (.int ((ac.toUInt32 >>> ((3 : Int32) &&& 31).toUInt32).toInt32)), .val (.ref wi), .val (.ref wo), .val (.ref wi), .val (.int (1 : Int32)), .unset, .unset] [(.int (1 : Int32)), (.ref wi)])) (fun _ k => XS.iload X38.hh X38.hx rfl (hb hby at_136) rfl k) ?_
    refine Go.of (T' := T38) (g' := (mkF mM 139 #[.val (.int aa), .val (.int ab), .val (.int ac), .val (.int d1), .val (.int d2), .val (.int d3), .val (.int d4), .val (.int (1 : Int32)), .val (.int bb), .val (.int ((ac.toUInt32 >>> ((3 : Int32) &&& 31).toUInt32).toInt32)), .val (.ref wi), .val (.ref wo), .val (.ref wi), .val (.int (1 : Int32)), .unset, .unset] [(.int (2 : Int32)), (.int (1 : Int32)), (.ref wi)])) (fun _ k => XS.iconst X38.hh X38.hx rfl (hb hby at_138) k) ?_
    refine Go.of (T' := T38) (g' := (mkF mM 140 #[.val (.int aa), .val (.int ab), .val (.int ac), .val (.int d1), .val (.int d2), .val (.int d3), .val (.int d4), .val (.int (1 : Int32)), .val (.int bb), .val (.int ((ac.toUInt32 >>> ((3 : Int32) &&& 31).toUInt32).toInt32)), .val (.ref wi), .val (.ref wo), .val (.ref wi), .val (.int (1 : Int32)), .unset, .unset] [(.int ((1 : Int32) + (2 : Int32))), (.ref wi)])) (fun _ k => XS.iadd X38.hh X38.hx rfl (hb hby at_139) rfl k) ?_
    refine Go.of (T' := T38) (g' := (mkF mM 142 #[.val (.int aa), .val (.int ab), .val (.int ac), .val (.int d1), .val (.int d2), .val (.int d3), .val (.int d4), .val (.int (1 : Int32)), .val (.int bb), .val (.int ((ac.toUInt32 >>> ((3 : Int32) &&& 31).toUInt32).toInt32)), .val (.ref wi), .val (.ref wo), .val (.ref wi), .val (.int (1 : Int32)), .unset, .unset] [(.int (105 : Int32)), (.int ((1 : Int32) + (2 : Int32))), (.ref wi)])) (fun _ k => XS.bipush X38.hh X38.hx rfl (hb hby at_140) k) ?_
    refine Go.of (T' := T38) (g' := (mkF mM 144 #[.val (.int aa), .val (.int ab), .val (.int ac), .val (.int d1), .val (.int d2), .val (.int d3), .val (.int d4), .val (.int (1 : Int32)), .val (.int bb), .val (.int ((ac.toUInt32 >>> ((3 : Int32) &&& 31).toUInt32).toInt32)), .val (.ref wi), .val (.ref wo), .val (.ref wi), .val (.int (1 : Int32)), .unset, .unset] [(.int ((ac.toUInt32 >>> ((3 : Int32) &&& 31).toUInt32).toInt32)), (.int (105 : Int32)), (.int ((1 : Int32) + (2 : Int32))), (.ref wi)])) (fun _ k => XS.iload X38.hh X38.hx rfl (hb hby at_142) rfl k) ?_
    refine Go.of (T' := T38) (g' := (mkF mM 145 #[.val (.int aa), .val (.int ab), .val (.int ac), .val (.int d1), .val (.int d2), .val (.int d3), .val (.int d4), .val (.int (1 : Int32)), .val (.int bb), .val (.int ((ac.toUInt32 >>> ((3 : Int32) &&& 31).toUInt32).toInt32)), .val (.ref wi), .val (.ref wo), .val (.ref wi), .val (.int (1 : Int32)), .unset, .unset] [(.int (2 : Int32)), (.int ((ac.toUInt32 >>> ((3 : Int32) &&& 31).toUInt32).toInt32)), (.int (105 : Int32)), (.int ((1 : Int32) + (2 : Int32))), (.ref wi)])) (fun _ k => XS.iconst X38.hh X38.hx rfl (hb hby at_144) k) ?_
    refine X38.callS (W := 2) (argsL := [(.int (105 : Int32)), (.int ((ac.toUInt32 >>> ((3 : Int32) &&& 31).toUInt32).toInt32)), (.int (2 : Int32))]) (rest := [(.int ((1 : Int32) + (2 : Int32))), (.ref wi)]) (hw _ (List.mem_of_getElem? (i := 8) rfl)) (hw _ (List.mem_of_getElem? (i := 9) rfl)) (hw _ (List.mem_of_getElem? (i := 2) rfl)) (hw _ (List.mem_of_getElem? (i := 10) rfl)) (by decide) (letter_rm l Z a0 G (105 : Int32) _ _ h38 (by decide) (by decide)) pd_7 rfl rfl rfl (by rw [hml]; rfl) (by decide) (by decide) (by decide) (by decide) (hb hby at_145) all0 all0 ?_
    intro v39 T39 h39 S39 X39 K39 Q39
    have X39 := X39 [] all0
    obtain ⟨m2, rfl, hm2, e39⟩ := Q39
    rw [e39] at X39
    have rm2 : ¬ m2 < 0 ∧ ¬ (255 : Int32) < m2 := by rcases hm2 with rfl | rfl <;> decide
    show Go pP eE bB _ T39 (mkF mM 148 #[.val (.int aa), .val (.int ab), .val (.int ac), .val (.int d1), .val (.int d2), .val (.int d3), .val (.int d4), .val (.int (1 : Int32)), .val (.int bb), .val (.int ((ac.toUInt32 >>> ((3 : Int32) &&& 31).toUInt32).toInt32)), .val (.ref wi), .val (.ref wo), .val (.ref wi), .val (.int (1 : Int32)), .unset, .unset] [(.int m2), (.int ((1 : Int32) + (2 : Int32))), (.ref wi)])
    refine X39.stC 3 V_wi (by decide) (by decide) (Nat.le_of_ble_eq_true rfl) (by omega) (Or.inr (by omega)) (hb hby at_148) ?_
    intro T40 h40 X40 K40 V_wi
    have z40 : h38.size ≤ h40.size := K40.1
    have V_wi : Arv Z h40 wi kc_wi .char (12 : Int32) [(.int bb), (.int m0), (.int m1), (.int m2), (.int (0 : Int32)), (.int (0 : Int32)), (.int (0 : Int32)), (.int (0 : Int32)), (.int (0 : Int32)), (.int (0 : Int32)), (.int (0 : Int32)), (.int (0 : Int32))] (.int (0 : Int32)) := by have q := V_wi; rw [nar255 m2 rm2.1 rm2.2] at q; exact q
    show Go pP eE bB _ T40 (mkF mM 149 #[.val (.int aa), .val (.int ab), .val (.int ac), .val (.int d1), .val (.int d2), .val (.int d3), .val (.int d4), .val (.int (1 : Int32)), .val (.int bb), .val (.int ((ac.toUInt32 >>> ((3 : Int32) &&& 31).toUInt32).toInt32)), .val (.ref wi), .val (.ref wo), .val (.ref wi), .val (.int (1 : Int32)), .unset, .unset] [])
    refine Go.of (T' := T40) (g' := (mkF mM 151 #[.val (.int aa), .val (.int ab), .val (.int ac), .val (.int d1), .val (.int d2), .val (.int d3), .val (.int d4), .val (.int (1 : Int32)), .val (.int bb), .val (.int ((ac.toUInt32 >>> ((3 : Int32) &&& 31).toUInt32).toInt32)), .val (.ref wi), .val (.ref wo), .val (.ref wi), .val (.int (1 : Int32)), .unset, .unset] [(.ref wi)])) (fun _ k => XS.aload X40.hh X40.hx rfl (hb hby at_149) rfl rfl k) ?_
    refine Go.of (T' := T40) (g' := (mkF mM 153 #[.val (.int aa), .val (.int ab), .val (.int ac), .val (.int d1), .val (.int d2), .val (.int d3), .val (.int d4), .val (.int (1 : Int32)), .val (.int bb), .val (.int ((ac.toUInt32 >>> ((3 : Int32) &&& 31).toUInt32).toInt32)), .val (.ref wi), .val (.ref wo), .val (.ref wi), .val (.int (1 : Int32)), .unset, .unset] [(.int (1 : Int32)), (.ref wi)])) (fun _ k => XS.iload X40.hh X40.hx rfl (hb hby at_151) rfl k) ?_
    refine Go.of (T' := T40) (g' := (mkF mM 154 #[.val (.int aa), .val (.int ab), .val (.int ac), .val (.int d1), .val (.int d2), .val (.int d3), .val (.int d4), .val (.int (1 : Int32)), .val (.int bb), .val (.int ((ac.toUInt32 >>> ((3 : Int32) &&& 31).toUInt32).toInt32)), .val (.ref wi), .val (.ref wo), .val (.ref wi), .val (.int (1 : Int32)), .unset, .unset] [(.int (3 : Int32)), (.int (1 : Int32)), (.ref wi)])) (fun _ k => XS.iconst X40.hh X40.hx rfl (hb hby at_153) k) ?_
    refine Go.of (T' := T40) (g' := (mkF mM 155 #[.val (.int aa), .val (.int ab), .val (.int ac), .val (.int d1), .val (.int d2), .val (.int d3), .val (.int d4), .val (.int (1 : Int32)), .val (.int bb), .val (.int ((ac.toUInt32 >>> ((3 : Int32) &&& 31).toUInt32).toInt32)), .val (.ref wi), .val (.ref wo), .val (.ref wi), .val (.int (1 : Int32)), .unset, .unset] [(.int ((1 : Int32) + (3 : Int32))), (.ref wi)])) (fun _ k => XS.iadd X40.hh X40.hx rfl (hb hby at_154) rfl k) ?_
    refine Go.of (T' := T40) (g' := (mkF mM 157 #[.val (.int aa), .val (.int ab), .val (.int ac), .val (.int d1), .val (.int d2), .val (.int d3), .val (.int d4), .val (.int (1 : Int32)), .val (.int bb), .val (.int ((ac.toUInt32 >>> ((3 : Int32) &&& 31).toUInt32).toInt32)), .val (.ref wi), .val (.ref wo), .val (.ref wi), .val (.int (1 : Int32)), .unset, .unset] [(.int (108 : Int32)), (.int ((1 : Int32) + (3 : Int32))), (.ref wi)])) (fun _ k => XS.bipush X40.hh X40.hx rfl (hb hby at_155) k) ?_
    refine Go.of (T' := T40) (g' := (mkF mM 159 #[.val (.int aa), .val (.int ab), .val (.int ac), .val (.int d1), .val (.int d2), .val (.int d3), .val (.int d4), .val (.int (1 : Int32)), .val (.int bb), .val (.int ((ac.toUInt32 >>> ((3 : Int32) &&& 31).toUInt32).toInt32)), .val (.ref wi), .val (.ref wo), .val (.ref wi), .val (.int (1 : Int32)), .unset, .unset] [(.int ((ac.toUInt32 >>> ((3 : Int32) &&& 31).toUInt32).toInt32)), (.int (108 : Int32)), (.int ((1 : Int32) + (3 : Int32))), (.ref wi)])) (fun _ k => XS.iload X40.hh X40.hx rfl (hb hby at_157) rfl k) ?_
    refine Go.of (T' := T40) (g' := (mkF mM 160 #[.val (.int aa), .val (.int ab), .val (.int ac), .val (.int d1), .val (.int d2), .val (.int d3), .val (.int d4), .val (.int (1 : Int32)), .val (.int bb), .val (.int ((ac.toUInt32 >>> ((3 : Int32) &&& 31).toUInt32).toInt32)), .val (.ref wi), .val (.ref wo), .val (.ref wi), .val (.int (1 : Int32)), .unset, .unset] [(.int (3 : Int32)), (.int ((ac.toUInt32 >>> ((3 : Int32) &&& 31).toUInt32).toInt32)), (.int (108 : Int32)), (.int ((1 : Int32) + (3 : Int32))), (.ref wi)])) (fun _ k => XS.iconst X40.hh X40.hx rfl (hb hby at_159) k) ?_
    refine X40.callS (W := 2) (argsL := [(.int (108 : Int32)), (.int ((ac.toUInt32 >>> ((3 : Int32) &&& 31).toUInt32).toInt32)), (.int (3 : Int32))]) (rest := [(.int ((1 : Int32) + (3 : Int32))), (.ref wi)]) (hw _ (List.mem_of_getElem? (i := 8) rfl)) (hw _ (List.mem_of_getElem? (i := 9) rfl)) (hw _ (List.mem_of_getElem? (i := 2) rfl)) (hw _ (List.mem_of_getElem? (i := 10) rfl)) (by decide) (letter_rm l Z a0 G (108 : Int32) _ _ h40 (by decide) (by decide)) pd_7 rfl rfl rfl (by rw [hml]; rfl) (by decide) (by decide) (by decide) (by decide) (hb hby at_160) all0 all0 ?_
    intro v41 T41 h41 S41 X41 K41 Q41
    have X41 := X41 [] all0
    obtain ⟨m3, rfl, hm3, e41⟩ := Q41
    rw [e41] at X41
    have rm3 : ¬ m3 < 0 ∧ ¬ (255 : Int32) < m3 := by rcases hm3 with rfl | rfl <;> decide
    show Go pP eE bB _ T41 (mkF mM 163 #[.val (.int aa), .val (.int ab), .val (.int ac), .val (.int d1), .val (.int d2), .val (.int d3), .val (.int d4), .val (.int (1 : Int32)), .val (.int bb), .val (.int ((ac.toUInt32 >>> ((3 : Int32) &&& 31).toUInt32).toInt32)), .val (.ref wi), .val (.ref wo), .val (.ref wi), .val (.int (1 : Int32)), .unset, .unset] [(.int m3), (.int ((1 : Int32) + (3 : Int32))), (.ref wi)])
    refine X41.stC 4 V_wi (by decide) (by decide) (Nat.le_of_ble_eq_true rfl) (by omega) (Or.inr (by omega)) (hb hby at_163) ?_
    intro T42 h42 X42 K42 V_wi
    have z42 : h40.size ≤ h42.size := K42.1
    have V_wi : Arv Z h42 wi kc_wi .char (12 : Int32) [(.int bb), (.int m0), (.int m1), (.int m2), (.int m3), (.int (0 : Int32)), (.int (0 : Int32)), (.int (0 : Int32)), (.int (0 : Int32)), (.int (0 : Int32)), (.int (0 : Int32)), (.int (0 : Int32))] (.int (0 : Int32)) := by have q := V_wi; rw [nar255 m3 rm3.1 rm3.2] at q; exact q
    show Go pP eE bB _ T42 (mkF mM 164 #[.val (.int aa), .val (.int ab), .val (.int ac), .val (.int d1), .val (.int d2), .val (.int d3), .val (.int d4), .val (.int (1 : Int32)), .val (.int bb), .val (.int ((ac.toUInt32 >>> ((3 : Int32) &&& 31).toUInt32).toInt32)), .val (.ref wi), .val (.ref wo), .val (.ref wi), .val (.int (1 : Int32)), .unset, .unset] [])
    refine Go.of (T' := T42) (g' := (mkF mM 166 #[.val (.int aa), .val (.int ab), .val (.int ac), .val (.int d1), .val (.int d2), .val (.int d3), .val (.int d4), .val (.int (1 : Int32)), .val (.int bb), .val (.int ((ac.toUInt32 >>> ((3 : Int32) &&& 31).toUInt32).toInt32)), .val (.ref wi), .val (.ref wo), .val (.ref wi), .val (.int (1 : Int32)), .unset, .unset] [(.ref wi)])) (fun _ k => XS.aload X42.hh X42.hx rfl (hb hby at_164) rfl rfl k) ?_
    refine Go.of (T' := T42) (g' := (mkF mM 168 #[.val (.int aa), .val (.int ab), .val (.int ac), .val (.int d1), .val (.int d2), .val (.int d3), .val (.int d4), .val (.int (1 : Int32)), .val (.int bb), .val (.int ((ac.toUInt32 >>> ((3 : Int32) &&& 31).toUInt32).toInt32)), .val (.ref wi), .val (.ref wo), .val (.ref wi), .val (.int (1 : Int32)), .unset, .unset] [(.int (1 : Int32)), (.ref wi)])) (fun _ k => XS.iload X42.hh X42.hx rfl (hb hby at_166) rfl k) ?_
    refine Go.of (T' := T42) (g' := (mkF mM 169 #[.val (.int aa), .val (.int ab), .val (.int ac), .val (.int d1), .val (.int d2), .val (.int d3), .val (.int d4), .val (.int (1 : Int32)), .val (.int bb), .val (.int ((ac.toUInt32 >>> ((3 : Int32) &&& 31).toUInt32).toInt32)), .val (.ref wi), .val (.ref wo), .val (.ref wi), .val (.int (1 : Int32)), .unset, .unset] [(.int (4 : Int32)), (.int (1 : Int32)), (.ref wi)])) (fun _ k => XS.iconst X42.hh X42.hx rfl (hb hby at_168) k) ?_
    refine Go.of (T' := T42) (g' := (mkF mM 170 #[.val (.int aa), .val (.int ab), .val (.int ac), .val (.int d1), .val (.int d2), .val (.int d3), .val (.int d4), .val (.int (1 : Int32)), .val (.int bb), .val (.int ((ac.toUInt32 >>> ((3 : Int32) &&& 31).toUInt32).toInt32)), .val (.ref wi), .val (.ref wo), .val (.ref wi), .val (.int (1 : Int32)), .unset, .unset] [(.int ((1 : Int32) + (4 : Int32))), (.ref wi)])) (fun _ k => XS.iadd X42.hh X42.hx rfl (hb hby at_169) rfl k) ?_
    refine Go.of (T' := T42) (g' := (mkF mM 172 #[.val (.int aa), .val (.int ab), .val (.int ac), .val (.int d1), .val (.int d2), .val (.int d3), .val (.int d4), .val (.int (1 : Int32)), .val (.int bb), .val (.int ((ac.toUInt32 >>> ((3 : Int32) &&& 31).toUInt32).toInt32)), .val (.ref wi), .val (.ref wo), .val (.ref wi), .val (.int (1 : Int32)), .unset, .unset] [(.int (116 : Int32)), (.int ((1 : Int32) + (4 : Int32))), (.ref wi)])) (fun _ k => XS.bipush X42.hh X42.hx rfl (hb hby at_170) k) ?_
    refine Go.of (T' := T42) (g' := (mkF mM 174 #[.val (.int aa), .val (.int ab), .val (.int ac), .val (.int d1), .val (.int d2), .val (.int d3), .val (.int d4), .val (.int (1 : Int32)), .val (.int bb), .val (.int ((ac.toUInt32 >>> ((3 : Int32) &&& 31).toUInt32).toInt32)), .val (.ref wi), .val (.ref wo), .val (.ref wi), .val (.int (1 : Int32)), .unset, .unset] [(.int ((ac.toUInt32 >>> ((3 : Int32) &&& 31).toUInt32).toInt32)), (.int (116 : Int32)), (.int ((1 : Int32) + (4 : Int32))), (.ref wi)])) (fun _ k => XS.iload X42.hh X42.hx rfl (hb hby at_172) rfl k) ?_
    refine Go.of (T' := T42) (g' := (mkF mM 175 #[.val (.int aa), .val (.int ab), .val (.int ac), .val (.int d1), .val (.int d2), .val (.int d3), .val (.int d4), .val (.int (1 : Int32)), .val (.int bb), .val (.int ((ac.toUInt32 >>> ((3 : Int32) &&& 31).toUInt32).toInt32)), .val (.ref wi), .val (.ref wo), .val (.ref wi), .val (.int (1 : Int32)), .unset, .unset] [(.int (4 : Int32)), (.int ((ac.toUInt32 >>> ((3 : Int32) &&& 31).toUInt32).toInt32)), (.int (116 : Int32)), (.int ((1 : Int32) + (4 : Int32))), (.ref wi)])) (fun _ k => XS.iconst X42.hh X42.hx rfl (hb hby at_174) k) ?_
    refine X42.callS (W := 2) (argsL := [(.int (116 : Int32)), (.int ((ac.toUInt32 >>> ((3 : Int32) &&& 31).toUInt32).toInt32)), (.int (4 : Int32))]) (rest := [(.int ((1 : Int32) + (4 : Int32))), (.ref wi)]) (hw _ (List.mem_of_getElem? (i := 8) rfl)) (hw _ (List.mem_of_getElem? (i := 9) rfl)) (hw _ (List.mem_of_getElem? (i := 2) rfl)) (hw _ (List.mem_of_getElem? (i := 10) rfl)) (by decide) (letter_rm l Z a0 G (116 : Int32) _ _ h42 (by decide) (by decide)) pd_7 rfl rfl rfl (by rw [hml]; rfl) (by decide) (by decide) (by decide) (by decide) (hb hby at_175) all0 all0 ?_
    intro v43 T43 h43 S43 X43 K43 Q43
    have X43 := X43 [] all0
    obtain ⟨m4, rfl, hm4, e43⟩ := Q43
    rw [e43] at X43
    have rm4 : ¬ m4 < 0 ∧ ¬ (255 : Int32) < m4 := by rcases hm4 with rfl | rfl <;> decide
    show Go pP eE bB _ T43 (mkF mM 178 #[.val (.int aa), .val (.int ab), .val (.int ac), .val (.int d1), .val (.int d2), .val (.int d3), .val (.int d4), .val (.int (1 : Int32)), .val (.int bb), .val (.int ((ac.toUInt32 >>> ((3 : Int32) &&& 31).toUInt32).toInt32)), .val (.ref wi), .val (.ref wo), .val (.ref wi), .val (.int (1 : Int32)), .unset, .unset] [(.int m4), (.int ((1 : Int32) + (4 : Int32))), (.ref wi)])
    refine X43.stC 5 V_wi (by decide) (by decide) (Nat.le_of_ble_eq_true rfl) (by omega) (Or.inr (by omega)) (hb hby at_178) ?_
    intro T44 h44 X44 K44 V_wi
    have z44 : h42.size ≤ h44.size := K44.1
    have V_wi : Arv Z h44 wi kc_wi .char (12 : Int32) [(.int bb), (.int m0), (.int m1), (.int m2), (.int m3), (.int m4), (.int (0 : Int32)), (.int (0 : Int32)), (.int (0 : Int32)), (.int (0 : Int32)), (.int (0 : Int32)), (.int (0 : Int32))] (.int (0 : Int32)) := by have q := V_wi; rw [nar255 m4 rm4.1 rm4.2] at q; exact q
    show Go pP eE bB _ T44 (mkF mM 179 #[.val (.int aa), .val (.int ab), .val (.int ac), .val (.int d1), .val (.int d2), .val (.int d3), .val (.int d4), .val (.int (1 : Int32)), .val (.int bb), .val (.int ((ac.toUInt32 >>> ((3 : Int32) &&& 31).toUInt32).toInt32)), .val (.ref wi), .val (.ref wo), .val (.ref wi), .val (.int (1 : Int32)), .unset, .unset] [])
    refine Go.of (T' := T44) (g' := (mkF mM 181 #[.val (.int aa), .val (.int ab), .val (.int ac), .val (.int d1), .val (.int d2), .val (.int d3), .val (.int d4), .val (.int (1 : Int32)), .val (.int bb), .val (.int ((ac.toUInt32 >>> ((3 : Int32) &&& 31).toUInt32).toInt32)), .val (.ref wi), .val (.ref wo), .val (.ref wi), .val (.int (1 : Int32)), .unset, .unset] [(.ref wi)])) (fun _ k => XS.aload X44.hh X44.hx rfl (hb hby at_179) rfl rfl k) ?_
    refine Go.of (T' := T44) (g' := (mkF mM 183 #[.val (.int aa), .val (.int ab), .val (.int ac), .val (.int d1), .val (.int d2), .val (.int d3), .val (.int d4), .val (.int (1 : Int32)), .val (.int bb), .val (.int ((ac.toUInt32 >>> ((3 : Int32) &&& 31).toUInt32).toInt32)), .val (.ref wi), .val (.ref wo), .val (.ref wi), .val (.int (1 : Int32)), .unset, .unset] [(.int (1 : Int32)), (.ref wi)])) (fun _ k => XS.iload X44.hh X44.hx rfl (hb hby at_181) rfl k) ?_
    refine Go.of (T' := T44) (g' := (mkF mM 184 #[.val (.int aa), .val (.int ab), .val (.int ac), .val (.int d1), .val (.int d2), .val (.int d3), .val (.int d4), .val (.int (1 : Int32)), .val (.int bb), .val (.int ((ac.toUInt32 >>> ((3 : Int32) &&& 31).toUInt32).toInt32)), .val (.ref wi), .val (.ref wo), .val (.ref wi), .val (.int (1 : Int32)), .unset, .unset] [(.int (5 : Int32)), (.int (1 : Int32)), (.ref wi)])) (fun _ k => XS.iconst X44.hh X44.hx rfl (hb hby at_183) k) ?_
    refine Go.of (T' := T44) (g' := (mkF mM 185 #[.val (.int aa), .val (.int ab), .val (.int ac), .val (.int d1), .val (.int d2), .val (.int d3), .val (.int d4), .val (.int (1 : Int32)), .val (.int bb), .val (.int ((ac.toUInt32 >>> ((3 : Int32) &&& 31).toUInt32).toInt32)), .val (.ref wi), .val (.ref wo), .val (.ref wi), .val (.int (1 : Int32)), .unset, .unset] [(.int ((1 : Int32) + (5 : Int32))), (.ref wi)])) (fun _ k => XS.iadd X44.hh X44.hx rfl (hb hby at_184) rfl k) ?_
    refine Go.of (T' := T44) (g' := (mkF mM 187 #[.val (.int aa), .val (.int ab), .val (.int ac), .val (.int d1), .val (.int d2), .val (.int d3), .val (.int d4), .val (.int (1 : Int32)), .val (.int bb), .val (.int ((ac.toUInt32 >>> ((3 : Int32) &&& 31).toUInt32).toInt32)), .val (.ref wi), .val (.ref wo), .val (.ref wi), .val (.int (1 : Int32)), .unset, .unset] [(.int (111 : Int32)), (.int ((1 : Int32) + (5 : Int32))), (.ref wi)])) (fun _ k => XS.bipush X44.hh X44.hx rfl (hb hby at_185) k) ?_
    refine Go.of (T' := T44) (g' := (mkF mM 189 #[.val (.int aa), .val (.int ab), .val (.int ac), .val (.int d1), .val (.int d2), .val (.int d3), .val (.int d4), .val (.int (1 : Int32)), .val (.int bb), .val (.int ((ac.toUInt32 >>> ((3 : Int32) &&& 31).toUInt32).toInt32)), .val (.ref wi), .val (.ref wo), .val (.ref wi), .val (.int (1 : Int32)), .unset, .unset] [(.int ((ac.toUInt32 >>> ((3 : Int32) &&& 31).toUInt32).toInt32)), (.int (111 : Int32)), (.int ((1 : Int32) + (5 : Int32))), (.ref wi)])) (fun _ k => XS.iload X44.hh X44.hx rfl (hb hby at_187) rfl k) ?_
    refine Go.of (T' := T44) (g' := (mkF mM 190 #[.val (.int aa), .val (.int ab), .val (.int ac), .val (.int d1), .val (.int d2), .val (.int d3), .val (.int d4), .val (.int (1 : Int32)), .val (.int bb), .val (.int ((ac.toUInt32 >>> ((3 : Int32) &&& 31).toUInt32).toInt32)), .val (.ref wi), .val (.ref wo), .val (.ref wi), .val (.int (1 : Int32)), .unset, .unset] [(.int (5 : Int32)), (.int ((ac.toUInt32 >>> ((3 : Int32) &&& 31).toUInt32).toInt32)), (.int (111 : Int32)), (.int ((1 : Int32) + (5 : Int32))), (.ref wi)])) (fun _ k => XS.iconst X44.hh X44.hx rfl (hb hby at_189) k) ?_
    refine X44.callS (W := 2) (argsL := [(.int (111 : Int32)), (.int ((ac.toUInt32 >>> ((3 : Int32) &&& 31).toUInt32).toInt32)), (.int (5 : Int32))]) (rest := [(.int ((1 : Int32) + (5 : Int32))), (.ref wi)]) (hw _ (List.mem_of_getElem? (i := 8) rfl)) (hw _ (List.mem_of_getElem? (i := 9) rfl)) (hw _ (List.mem_of_getElem? (i := 2) rfl)) (hw _ (List.mem_of_getElem? (i := 10) rfl)) (by decide) (letter_rm l Z a0 G (111 : Int32) _ _ h44 (by decide) (by decide)) pd_7 rfl rfl rfl (by rw [hml]; rfl) (by decide) (by decide) (by decide) (by decide) (hb hby at_190) all0 all0 ?_
    intro v45 T45 h45 S45 X45 K45 Q45
    have X45 := X45 [] all0
    obtain ⟨m5, rfl, hm5, e45⟩ := Q45
    rw [e45] at X45
    have rm5 : ¬ m5 < 0 ∧ ¬ (255 : Int32) < m5 := by rcases hm5 with rfl | rfl <;> decide
    show Go pP eE bB _ T45 (mkF mM 193 #[.val (.int aa), .val (.int ab), .val (.int ac), .val (.int d1), .val (.int d2), .val (.int d3), .val (.int d4), .val (.int (1 : Int32)), .val (.int bb), .val (.int ((ac.toUInt32 >>> ((3 : Int32) &&& 31).toUInt32).toInt32)), .val (.ref wi), .val (.ref wo), .val (.ref wi), .val (.int (1 : Int32)), .unset, .unset] [(.int m5), (.int ((1 : Int32) + (5 : Int32))), (.ref wi)])
    refine X45.stC 6 V_wi (by decide) (by decide) (Nat.le_of_ble_eq_true rfl) (by omega) (Or.inr (by omega)) (hb hby at_193) ?_
    intro T46 h46 X46 K46 V_wi
    have z46 : h44.size ≤ h46.size := K46.1
    have V_wi : Arv Z h46 wi kc_wi .char (12 : Int32) [(.int bb), (.int m0), (.int m1), (.int m2), (.int m3), (.int m4), (.int m5), (.int (0 : Int32)), (.int (0 : Int32)), (.int (0 : Int32)), (.int (0 : Int32)), (.int (0 : Int32))] (.int (0 : Int32)) := by have q := V_wi; rw [nar255 m5 rm5.1 rm5.2] at q; exact q
    show Go pP eE bB _ T46 (mkF mM 194 #[.val (.int aa), .val (.int ab), .val (.int ac), .val (.int d1), .val (.int d2), .val (.int d3), .val (.int d4), .val (.int (1 : Int32)), .val (.int bb), .val (.int ((ac.toUInt32 >>> ((3 : Int32) &&& 31).toUInt32).toInt32)), .val (.ref wi), .val (.ref wo), .val (.ref wi), .val (.int (1 : Int32)), .unset, .unset] [])
    refine Go.of (T' := T46) (g' := (mkF mM 196 #[.val (.int aa), .val (.int ab), .val (.int ac), .val (.int d1), .val (.int d2), .val (.int d3), .val (.int d4), .val (.int (1 : Int32)), .val (.int bb), .val (.int ((ac.toUInt32 >>> ((3 : Int32) &&& 31).toUInt32).toInt32)), .val (.ref wi), .val (.ref wo), .val (.ref wi), .val (.int (1 : Int32)), .unset, .unset] [(.ref wi)])) (fun _ k => XS.aload X46.hh X46.hx rfl (hb hby at_194) rfl rfl k) ?_
    refine Go.of (T' := T46) (g' := (mkF mM 198 #[.val (.int aa), .val (.int ab), .val (.int ac), .val (.int d1), .val (.int d2), .val (.int d3), .val (.int d4), .val (.int (1 : Int32)), .val (.int bb), .val (.int ((ac.toUInt32 >>> ((3 : Int32) &&& 31).toUInt32).toInt32)), .val (.ref wi), .val (.ref wo), .val (.ref wi), .val (.int (1 : Int32)), .unset, .unset] [(.int (1 : Int32)), (.ref wi)])) (fun _ k => XS.iload X46.hh X46.hx rfl (hb hby at_196) rfl k) ?_
    refine Go.of (T' := T46) (g' := (mkF mM 200 #[.val (.int aa), .val (.int ab), .val (.int ac), .val (.int d1), .val (.int d2), .val (.int d3), .val (.int d4), .val (.int (1 : Int32)), .val (.int bb), .val (.int ((ac.toUInt32 >>> ((3 : Int32) &&& 31).toUInt32).toInt32)), .val (.ref wi), .val (.ref wo), .val (.ref wi), .val (.int (1 : Int32)), .unset, .unset] [(.int (6 : Int32)), (.int (1 : Int32)), (.ref wi)])) (fun _ k => XS.bipush X46.hh X46.hx rfl (hb hby at_198) k) ?_
    refine Go.of (T' := T46) (g' := (mkF mM 201 #[.val (.int aa), .val (.int ab), .val (.int ac), .val (.int d1), .val (.int d2), .val (.int d3), .val (.int d4), .val (.int (1 : Int32)), .val (.int bb), .val (.int ((ac.toUInt32 >>> ((3 : Int32) &&& 31).toUInt32).toInt32)), .val (.ref wi), .val (.ref wo), .val (.ref wi), .val (.int (1 : Int32)), .unset, .unset] [(.int ((1 : Int32) + (6 : Int32))), (.ref wi)])) (fun _ k => XS.iadd X46.hh X46.hx rfl (hb hby at_200) rfl k) ?_
    refine Go.of (T' := T46) (g' := (mkF mM 203 #[.val (.int aa), .val (.int ab), .val (.int ac), .val (.int d1), .val (.int d2), .val (.int d3), .val (.int d4), .val (.int (1 : Int32)), .val (.int bb), .val (.int ((ac.toUInt32 >>> ((3 : Int32) &&& 31).toUInt32).toInt32)), .val (.ref wi), .val (.ref wo), .val (.ref wi), .val (.int (1 : Int32)), .unset, .unset] [(.int (58 : Int32)), (.int ((1 : Int32) + (6 : Int32))), (.ref wi)])) (fun _ k => XS.bipush X46.hh X46.hx rfl (hb hby at_201) k) ?_
    refine X46.stC 7 V_wi (by decide) (by decide) (Nat.le_of_ble_eq_true rfl) (by omega) (Or.inr (by omega)) (hb hby at_203) ?_
    intro T47 h47 X47 K47 V_wi
    have z47 : h46.size ≤ h47.size := K47.1
    have V_wi : Arv Z h47 wi kc_wi .char (12 : Int32) [(.int bb), (.int m0), (.int m1), (.int m2), (.int m3), (.int m4), (.int m5), (.int (58 : Int32)), (.int (0 : Int32)), (.int (0 : Int32)), (.int (0 : Int32)), (.int (0 : Int32))] (.int (0 : Int32)) := by have q := V_wi; rw [(by decide : nar .char (58 : Int32) = 58)] at q; exact q
    show Go pP eE bB _ T47 (mkF mM 204 #[.val (.int aa), .val (.int ab), .val (.int ac), .val (.int d1), .val (.int d2), .val (.int d3), .val (.int d4), .val (.int (1 : Int32)), .val (.int bb), .val (.int ((ac.toUInt32 >>> ((3 : Int32) &&& 31).toUInt32).toInt32)), .val (.ref wi), .val (.ref wo), .val (.ref wi), .val (.int (1 : Int32)), .unset, .unset] [])
    refine Go.of (T' := T47) (g' := (mkF mM 206 #[.val (.int aa), .val (.int ab), .val (.int ac), .val (.int d1), .val (.int d2), .val (.int d3), .val (.int d4), .val (.int (1 : Int32)), .val (.int bb), .val (.int ((ac.toUInt32 >>> ((3 : Int32) &&& 31).toUInt32).toInt32)), .val (.ref wi), .val (.ref wo), .val (.ref wi), .val (.int (1 : Int32)), .unset, .unset] [(.ref wi)])) (fun _ k => XS.aload X47.hh X47.hx rfl (hb hby at_204) rfl rfl k) ?_
    refine Go.of (T' := T47) (g' := (mkF mM 208 #[.val (.int aa), .val (.int ab), .val (.int ac), .val (.int d1), .val (.int d2), .val (.int d3), .val (.int d4), .val (.int (1 : Int32)), .val (.int bb), .val (.int ((ac.toUInt32 >>> ((3 : Int32) &&& 31).toUInt32).toInt32)), .val (.ref wi), .val (.ref wo), .val (.ref wi), .val (.int (1 : Int32)), .unset, .unset] [(.int (1 : Int32)), (.ref wi)])) (fun _ k => XS.iload X47.hh X47.hx rfl (hb hby at_206) rfl k) ?_
    refine Go.of (T' := T47) (g' := (mkF mM 210 #[.val (.int aa), .val (.int ab), .val (.int ac), .val (.int d1), .val (.int d2), .val (.int d3), .val (.int d4), .val (.int (1 : Int32)), .val (.int bb), .val (.int ((ac.toUInt32 >>> ((3 : Int32) &&& 31).toUInt32).toInt32)), .val (.ref wi), .val (.ref wo), .val (.ref wi), .val (.int (1 : Int32)), .unset, .unset] [(.int (7 : Int32)), (.int (1 : Int32)), (.ref wi)])) (fun _ k => XS.bipush X47.hh X47.hx rfl (hb hby at_208) k) ?_
    refine Go.of (T' := T47) (g' := (mkF mM 211 #[.val (.int aa), .val (.int ab), .val (.int ac), .val (.int d1), .val (.int d2), .val (.int d3), .val (.int d4), .val (.int (1 : Int32)), .val (.int bb), .val (.int ((ac.toUInt32 >>> ((3 : Int32) &&& 31).toUInt32).toInt32)), .val (.ref wi), .val (.ref wo), .val (.ref wi), .val (.int (1 : Int32)), .unset, .unset] [(.int ((1 : Int32) + (7 : Int32))), (.ref wi)])) (fun _ k => XS.iadd X47.hh X47.hx rfl (hb hby at_210) rfl k) ?_
    refine Go.of (T' := T47) (g' := (mkF mM 212 #[.val (.int aa), .val (.int ab), .val (.int ac), .val (.int d1), .val (.int d2), .val (.int d3), .val (.int d4), .val (.int (1 : Int32)), .val (.int bb), .val (.int ((ac.toUInt32 >>> ((3 : Int32) &&& 31).toUInt32).toInt32)), .val (.ref wi), .val (.ref wo), .val (.ref wi), .val (.int (1 : Int32)), .unset, .unset] [(.int d1), (.int ((1 : Int32) + (7 : Int32))), (.ref wi)])) (fun _ k => XS.iloadN X47.hh X47.hx rfl (hb hby at_211) rfl k) ?_
    refine X47.stC 8 V_wi (by decide) (by decide) (Nat.le_of_ble_eq_true rfl) (by omega) (Or.inr (by omega)) (hb hby at_212) ?_
    intro T48 h48 X48 K48 V_wi
    have z48 : h47.size ≤ h48.size := K48.1
    have V_wi : Arv Z h48 wi kc_wi .char (12 : Int32) [(.int bb), (.int m0), (.int m1), (.int m2), (.int m3), (.int m4), (.int m5), (.int (58 : Int32)), (.int d1), (.int (0 : Int32)), (.int (0 : Int32)), (.int (0 : Int32))] (.int (0 : Int32)) := by have q := V_wi; rw [nar255 d1 r1.1 r1.2] at q; exact q
    show Go pP eE bB _ T48 (mkF mM 213 #[.val (.int aa), .val (.int ab), .val (.int ac), .val (.int d1), .val (.int d2), .val (.int d3), .val (.int d4), .val (.int (1 : Int32)), .val (.int bb), .val (.int ((ac.toUInt32 >>> ((3 : Int32) &&& 31).toUInt32).toInt32)), .val (.ref wi), .val (.ref wo), .val (.ref wi), .val (.int (1 : Int32)), .unset, .unset] [])
    refine Go.of (T' := T48) (g' := (mkF mM 215 #[.val (.int aa), .val (.int ab), .val (.int ac), .val (.int d1), .val (.int d2), .val (.int d3), .val (.int d4), .val (.int (1 : Int32)), .val (.int bb), .val (.int ((ac.toUInt32 >>> ((3 : Int32) &&& 31).toUInt32).toInt32)), .val (.ref wi), .val (.ref wo), .val (.ref wi), .val (.int (1 : Int32)), .unset, .unset] [(.ref wi)])) (fun _ k => XS.aload X48.hh X48.hx rfl (hb hby at_213) rfl rfl k) ?_
    refine Go.of (T' := T48) (g' := (mkF mM 217 #[.val (.int aa), .val (.int ab), .val (.int ac), .val (.int d1), .val (.int d2), .val (.int d3), .val (.int d4), .val (.int (1 : Int32)), .val (.int bb), .val (.int ((ac.toUInt32 >>> ((3 : Int32) &&& 31).toUInt32).toInt32)), .val (.ref wi), .val (.ref wo), .val (.ref wi), .val (.int (1 : Int32)), .unset, .unset] [(.int (1 : Int32)), (.ref wi)])) (fun _ k => XS.iload X48.hh X48.hx rfl (hb hby at_215) rfl k) ?_
    refine Go.of (T' := T48) (g' := (mkF mM 219 #[.val (.int aa), .val (.int ab), .val (.int ac), .val (.int d1), .val (.int d2), .val (.int d3), .val (.int d4), .val (.int (1 : Int32)), .val (.int bb), .val (.int ((ac.toUInt32 >>> ((3 : Int32) &&& 31).toUInt32).toInt32)), .val (.ref wi), .val (.ref wo), .val (.ref wi), .val (.int (1 : Int32)), .unset, .unset] [(.int (8 : Int32)), (.int (1 : Int32)), (.ref wi)])) (fun _ k => XS.bipush X48.hh X48.hx rfl (hb hby at_217) k) ?_
    refine Go.of (T' := T48) (g' := (mkF mM 220 #[.val (.int aa), .val (.int ab), .val (.int ac), .val (.int d1), .val (.int d2), .val (.int d3), .val (.int d4), .val (.int (1 : Int32)), .val (.int bb), .val (.int ((ac.toUInt32 >>> ((3 : Int32) &&& 31).toUInt32).toInt32)), .val (.ref wi), .val (.ref wo), .val (.ref wi), .val (.int (1 : Int32)), .unset, .unset] [(.int ((1 : Int32) + (8 : Int32))), (.ref wi)])) (fun _ k => XS.iadd X48.hh X48.hx rfl (hb hby at_219) rfl k) ?_
    refine Go.of (T' := T48) (g' := (mkF mM 222 #[.val (.int aa), .val (.int ab), .val (.int ac), .val (.int d1), .val (.int d2), .val (.int d3), .val (.int d4), .val (.int (1 : Int32)), .val (.int bb), .val (.int ((ac.toUInt32 >>> ((3 : Int32) &&& 31).toUInt32).toInt32)), .val (.ref wi), .val (.ref wo), .val (.ref wi), .val (.int (1 : Int32)), .unset, .unset] [(.int d2), (.int ((1 : Int32) + (8 : Int32))), (.ref wi)])) (fun _ k => XS.iload X48.hh X48.hx rfl (hb hby at_220) rfl k) ?_
    refine X48.stC 9 V_wi (by decide) (by decide) (Nat.le_of_ble_eq_true rfl) (by omega) (Or.inr (by omega)) (hb hby at_222) ?_
    intro T49 h49 X49 K49 V_wi
    have z49 : h48.size ≤ h49.size := K49.1
    have V_wi : Arv Z h49 wi kc_wi .char (12 : Int32) [(.int bb), (.int m0), (.int m1), (.int m2), (.int m3), (.int m4), (.int m5), (.int (58 : Int32)), (.int d1), (.int d2), (.int (0 : Int32)), (.int (0 : Int32))] (.int (0 : Int32)) := by have q := V_wi; rw [nar255 d2 r2.1 r2.2] at q; exact q
    show Go pP eE bB _ T49 (mkF mM 223 #[.val (.int aa), .val (.int ab), .val (.int ac), .val (.int d1), .val (.int d2), .val (.int d3), .val (.int d4), .val (.int (1 : Int32)), .val (.int bb), .val (.int ((ac.toUInt32 >>> ((3 : Int32) &&& 31).toUInt32).toInt32)), .val (.ref wi), .val (.ref wo), .val (.ref wi), .val (.int (1 : Int32)), .unset, .unset] [])
    refine Go.of (T' := T49) (g' := (mkF mM 225 #[.val (.int aa), .val (.int ab), .val (.int ac), .val (.int d1), .val (.int d2), .val (.int d3), .val (.int d4), .val (.int (1 : Int32)), .val (.int bb), .val (.int ((ac.toUInt32 >>> ((3 : Int32) &&& 31).toUInt32).toInt32)), .val (.ref wi), .val (.ref wo), .val (.ref wi), .val (.int (1 : Int32)), .unset, .unset] [(.ref wi)])) (fun _ k => XS.aload X49.hh X49.hx rfl (hb hby at_223) rfl rfl k) ?_
    refine Go.of (T' := T49) (g' := (mkF mM 227 #[.val (.int aa), .val (.int ab), .val (.int ac), .val (.int d1), .val (.int d2), .val (.int d3), .val (.int d4), .val (.int (1 : Int32)), .val (.int bb), .val (.int ((ac.toUInt32 >>> ((3 : Int32) &&& 31).toUInt32).toInt32)), .val (.ref wi), .val (.ref wo), .val (.ref wi), .val (.int (1 : Int32)), .unset, .unset] [(.int (1 : Int32)), (.ref wi)])) (fun _ k => XS.iload X49.hh X49.hx rfl (hb hby at_225) rfl k) ?_
    refine Go.of (T' := T49) (g' := (mkF mM 229 #[.val (.int aa), .val (.int ab), .val (.int ac), .val (.int d1), .val (.int d2), .val (.int d3), .val (.int d4), .val (.int (1 : Int32)), .val (.int bb), .val (.int ((ac.toUInt32 >>> ((3 : Int32) &&& 31).toUInt32).toInt32)), .val (.ref wi), .val (.ref wo), .val (.ref wi), .val (.int (1 : Int32)), .unset, .unset] [(.int (9 : Int32)), (.int (1 : Int32)), (.ref wi)])) (fun _ k => XS.bipush X49.hh X49.hx rfl (hb hby at_227) k) ?_
    refine Go.of (T' := T49) (g' := (mkF mM 230 #[.val (.int aa), .val (.int ab), .val (.int ac), .val (.int d1), .val (.int d2), .val (.int d3), .val (.int d4), .val (.int (1 : Int32)), .val (.int bb), .val (.int ((ac.toUInt32 >>> ((3 : Int32) &&& 31).toUInt32).toInt32)), .val (.ref wi), .val (.ref wo), .val (.ref wi), .val (.int (1 : Int32)), .unset, .unset] [(.int ((1 : Int32) + (9 : Int32))), (.ref wi)])) (fun _ k => XS.iadd X49.hh X49.hx rfl (hb hby at_229) rfl k) ?_
    refine Go.of (T' := T49) (g' := (mkF mM 232 #[.val (.int aa), .val (.int ab), .val (.int ac), .val (.int d1), .val (.int d2), .val (.int d3), .val (.int d4), .val (.int (1 : Int32)), .val (.int bb), .val (.int ((ac.toUInt32 >>> ((3 : Int32) &&& 31).toUInt32).toInt32)), .val (.ref wi), .val (.ref wo), .val (.ref wi), .val (.int (1 : Int32)), .unset, .unset] [(.int d3), (.int ((1 : Int32) + (9 : Int32))), (.ref wi)])) (fun _ k => XS.iload X49.hh X49.hx rfl (hb hby at_230) rfl k) ?_
    refine X49.stC 10 V_wi (by decide) (by decide) (Nat.le_of_ble_eq_true rfl) (by omega) (Or.inr (by omega)) (hb hby at_232) ?_
    intro T50 h50 X50 K50 V_wi
    have z50 : h49.size ≤ h50.size := K50.1
    have V_wi : Arv Z h50 wi kc_wi .char (12 : Int32) [(.int bb), (.int m0), (.int m1), (.int m2), (.int m3), (.int m4), (.int m5), (.int (58 : Int32)), (.int d1), (.int d2), (.int d3), (.int (0 : Int32))] (.int (0 : Int32)) := by have q := V_wi; rw [nar255 d3 r3.1 r3.2] at q; exact q
    show Go pP eE bB _ T50 (mkF mM 233 #[.val (.int aa), .val (.int ab), .val (.int ac), .val (.int d1), .val (.int d2), .val (.int d3), .val (.int d4), .val (.int (1 : Int32)), .val (.int bb), .val (.int ((ac.toUInt32 >>> ((3 : Int32) &&& 31).toUInt32).toInt32)), .val (.ref wi), .val (.ref wo), .val (.ref wi), .val (.int (1 : Int32)), .unset, .unset] [])
    refine Go.of (T' := T50) (g' := (mkF mM 235 #[.val (.int aa), .val (.int ab), .val (.int ac), .val (.int d1), .val (.int d2), .val (.int d3), .val (.int d4), .val (.int (1 : Int32)), .val (.int bb), .val (.int ((ac.toUInt32 >>> ((3 : Int32) &&& 31).toUInt32).toInt32)), .val (.ref wi), .val (.ref wo), .val (.ref wi), .val (.int (1 : Int32)), .unset, .unset] [(.ref wi)])) (fun _ k => XS.aload X50.hh X50.hx rfl (hb hby at_233) rfl rfl k) ?_
    refine Go.of (T' := T50) (g' := (mkF mM 237 #[.val (.int aa), .val (.int ab), .val (.int ac), .val (.int d1), .val (.int d2), .val (.int d3), .val (.int d4), .val (.int (1 : Int32)), .val (.int bb), .val (.int ((ac.toUInt32 >>> ((3 : Int32) &&& 31).toUInt32).toInt32)), .val (.ref wi), .val (.ref wo), .val (.ref wi), .val (.int (1 : Int32)), .unset, .unset] [(.int (1 : Int32)), (.ref wi)])) (fun _ k => XS.iload X50.hh X50.hx rfl (hb hby at_235) rfl k) ?_
    refine Go.of (T' := T50) (g' := (mkF mM 239 #[.val (.int aa), .val (.int ab), .val (.int ac), .val (.int d1), .val (.int d2), .val (.int d3), .val (.int d4), .val (.int (1 : Int32)), .val (.int bb), .val (.int ((ac.toUInt32 >>> ((3 : Int32) &&& 31).toUInt32).toInt32)), .val (.ref wi), .val (.ref wo), .val (.ref wi), .val (.int (1 : Int32)), .unset, .unset] [(.int (10 : Int32)), (.int (1 : Int32)), (.ref wi)])) (fun _ k => XS.bipush X50.hh X50.hx rfl (hb hby at_237) k) ?_
    refine Go.of (T' := T50) (g' := (mkF mM 240 #[.val (.int aa), .val (.int ab), .val (.int ac), .val (.int d1), .val (.int d2), .val (.int d3), .val (.int d4), .val (.int (1 : Int32)), .val (.int bb), .val (.int ((ac.toUInt32 >>> ((3 : Int32) &&& 31).toUInt32).toInt32)), .val (.ref wi), .val (.ref wo), .val (.ref wi), .val (.int (1 : Int32)), .unset, .unset] [(.int ((1 : Int32) + (10 : Int32))), (.ref wi)])) (fun _ k => XS.iadd X50.hh X50.hx rfl (hb hby at_239) rfl k) ?_
    refine Go.of (T' := T50) (g' := (mkF mM 242 #[.val (.int aa), .val (.int ab), .val (.int ac), .val (.int d1), .val (.int d2), .val (.int d3), .val (.int d4), .val (.int (1 : Int32)), .val (.int bb), .val (.int ((ac.toUInt32 >>> ((3 : Int32) &&& 31).toUInt32).toInt32)), .val (.ref wi), .val (.ref wo), .val (.ref wi), .val (.int (1 : Int32)), .unset, .unset] [(.int d4), (.int ((1 : Int32) + (10 : Int32))), (.ref wi)])) (fun _ k => XS.iload X50.hh X50.hx rfl (hb hby at_240) rfl k) ?_
    refine X50.stC 11 V_wi (by decide) (by decide) (Nat.le_of_ble_eq_true rfl) (by omega) (Or.inr (by omega)) (hb hby at_242) ?_
    intro T51 h51 X51 K51 V_wi
    have z51 : h50.size ≤ h51.size := K51.1
    have V_wi : Arv Z h51 wi kc_wi .char (12 : Int32) [(.int bb), (.int m0), (.int m1), (.int m2), (.int m3), (.int m4), (.int m5), (.int (58 : Int32)), (.int d1), (.int d2), (.int d3), (.int d4)] (.int (0 : Int32)) := by have q := V_wi; rw [nar255 d4 r4.1 r4.2] at q; exact q
    show Go pP eE bB _ T51 (mkF mM 243 #[.val (.int aa), .val (.int ab), .val (.int ac), .val (.int d1), .val (.int d2), .val (.int d3), .val (.int d4), .val (.int (1 : Int32)), .val (.int bb), .val (.int ((ac.toUInt32 >>> ((3 : Int32) &&& 31).toUInt32).toInt32)), .val (.ref wi), .val (.ref wo), .val (.ref wi), .val (.int (1 : Int32)), .unset, .unset] [])
    refine X51.newO (hw _ (List.mem_of_getElem? (i := 11) rfl)) (hw _ (List.mem_of_getElem? (i := 12) rfl)) (hw _ (List.mem_of_getElem? (i := 13) rfl)) (hb hby at_243) (by decide) (by decide) ?_
    intro T52 h52 lc g_lc X52 E52 A_lc D_lc
    have z52 : h51.size ≤ h52.size := E52.1
    have l_lc : lc < h52.size := A_lc.lt
    have F_link_lc : Fld Z h52 lc "com/example/hfields/hfields/LinkCut" "link" "Ljava/lang/String;" .null := D_lc (Or.inr (hw _ (List.mem_of_getElem? (i := 95) rfl))) (ty := (.object "java/lang/String")) (by decide)
    have F_addressStart_lc : Fld Z h52 lc "com/example/hfields/hfields/LinkCut" "addressStart" "I" (.int (0 : Int32)) := D_lc (Or.inr (hw _ (List.mem_of_getElem? (i := 97) rfl))) (ty := .int) (by decide)
    have F_trimmedEnd_lc : Fld Z h52 lc "com/example/hfields/hfields/LinkCut" "trimmedEnd" "I" (.int (0 : Int32)) := D_lc (Or.inr (hw _ (List.mem_of_getElem? (i := 99) rfl))) (ty := .int) (by decide)
    have F_end_lc : Fld Z h52 lc "com/example/hfields/hfields/LinkCut" "end" "I" (.int (0 : Int32)) := D_lc (Or.inr (hw _ (List.mem_of_getElem? (i := 104) rfl))) (ty := .int) (by decide)
    have F_addressEnd_lc : Fld Z h52 lc "com/example/hfields/hfields/LinkCut" "addressEnd" "I" (.int (0 : Int32)) := D_lc (Or.inr (hw _ (List.mem_of_getElem? (i := 106) rfl))) (ty := .int) (by decide)
    show Go pP eE bB _ T52 (mkF mM 246 #[.val (.int aa), .val (.int ab), .val (.int ac), .val (.int d1), .val (.int d2), .val (.int d3), .val (.int d4), .val (.int (1 : Int32)), .val (.int bb), .val (.int ((ac.toUInt32 >>> ((3 : Int32) &&& 31).toUInt32).toInt32)), .val (.ref wi), .val (.ref wo), .val (.ref wi), .val (.int (1 : Int32)), .unset, .unset] [(.ref lc)])
    refine Go.of (T' := T52) (g' := (mkF mM 247 #[.val (.int aa), .val (.int ab), .val (.int ac), .val (.int d1), .val (.int d2), .val (.int d3), .val (.int d4), .val (.int (1 : Int32)), .val (.int bb), .val (.int ((ac.toUInt32 >>> ((3 : Int32) &&& 31).toUInt32).toInt32)), .val (.ref wi), .val (.ref wo), .val (.ref wi), .val (.int (1 : Int32)), .unset, .unset] [(.ref lc), (.ref lc)])) (fun _ k => XS.dup X52.hh X52.hx rfl (hb hby at_246) rfl rfl k) ?_
    refine X52.newO (hw _ (List.mem_of_getElem? (i := 14) rfl)) (hw _ (List.mem_of_getElem? (i := 15) rfl)) (hw _ (List.mem_of_getElem? (i := 16) rfl)) (hb hby at_247) (by decide) (by decide) ?_
    intro T53 h53 r g_r X53 E53 A_r D_r
    have z53 : h52.size ≤ h53.size := E53.1
    have l_r : r < h53.size := A_r.lt
    have F_coder_r : Fld Z h53 r "java/lang/String" "coder" "B" (.int (0 : Int32)) := D_r (Or.inr (hw _ (List.mem_of_getElem? (i := 40) rfl))) (ty := .byte) (by decide)
    have F_value_r : Fld Z h53 r "java/lang/String" "value" "[B" .null := D_r (Or.inr (hw _ (List.mem_of_getElem? (i := 42) rfl))) (ty := (.array .byte)) (by decide)
    show Go pP eE bB _ T53 (mkF mM 250 #[.val (.int aa), .val (.int ab), .val (.int ac), .val (.int d1), .val (.int d2), .val (.int d3), .val (.int d4), .val (.int (1 : Int32)), .val (.int bb), .val (.int ((ac.toUInt32 >>> ((3 : Int32) &&& 31).toUInt32).toInt32)), .val (.ref wi), .val (.ref wo), .val (.ref wi), .val (.int (1 : Int32)), .unset, .unset] [(.ref r), (.ref lc), (.ref lc)])
    refine Go.of (T' := T53) (g' := (mkF mM 251 #[.val (.int aa), .val (.int ab), .val (.int ac), .val (.int d1), .val (.int d2), .val (.int d3), .val (.int d4), .val (.int (1 : Int32)), .val (.int bb), .val (.int ((ac.toUInt32 >>> ((3 : Int32) &&& 31).toUInt32).toInt32)), .val (.ref wi), .val (.ref wo), .val (.ref wi), .val (.int (1 : Int32)), .unset, .unset] [(.ref r), (.ref r), (.ref lc), (.ref lc)])) (fun _ k => XS.dup X53.hh X53.hx rfl (hb hby at_250) rfl rfl k) ?_
    refine Go.of (T' := T53) (g' := (mkF mM 253 #[.val (.int aa), .val (.int ab), .val (.int ac), .val (.int d1), .val (.int d2), .val (.int d3), .val (.int d4), .val (.int (1 : Int32)), .val (.int bb), .val (.int ((ac.toUInt32 >>> ((3 : Int32) &&& 31).toUInt32).toInt32)), .val (.ref wi), .val (.ref wo), .val (.ref wi), .val (.int (1 : Int32)), .unset, .unset] [(.ref wi), (.ref r), (.ref r), (.ref lc), (.ref lc)])) (fun _ k => XS.aload X53.hh X53.hx rfl (hb hby at_251) rfl rfl k) ?_
    have hp : ∀ c ∈ ([bb, m0, m1, m2, m3, m4, m5, (58 : Int32), d1, d2, d3, d4] : List Int32), ¬ c < 0 ∧ ¬ (255 : Int32) < c := by
      intro c hc
      simp only [List.mem_cons, List.not_mem_nil, or_false] at hc
      rcases hc with rfl | rfl | rfl | rfl | rfl | rfl | rfl | rfl | rfl | rfl | rfl | rfl
      · exact ⟨rb1, rb2⟩
      · exact rm0
      · exact rm1
      · exact rm2
      · exact rm3
      · exact rm4
      · exact rm5
      · exact ⟨by decide, by decide⟩
      · exact r1
      · exact r2
      · exact r3
      · exact r4
    have V_wi := ((V_wi.ext E52).ext E53)
    refine X53.callCN (W := 3) (argsL := [(.ref wi)]) (rest := [(.ref r), (.ref lc), (.ref lc)]) (nc := 1) (ns := 12) (ws' := [r]) (a := r) rfl (hw _ (List.mem_of_getElem? (i := 17) rfl)) (hw _ (List.mem_of_getElem? (i := 18) rfl)) (hw _ (List.mem_of_getElem? (i := 19) rfl)) (by decide) (fun vm0 hZ => StrChars.Road.backV (s := sS.setVm vm0) (W := 3) hZ hws (kI := 4) (hw _ (List.mem_of_getElem? (i := 15) rfl)) (cs := ([bb, m0, m1, m2, m3, m4, m5, (58 : Int32), d1, d2, d3, d4] : List Int32)) (bs := ([bb, m0, m1, m2, m3, m4, m5, (58 : Int32), d1, d2, d3, d4] : List Int32).map (fun c => c.toInt8.toInt32)) (n := 12) (n0 := Z.heap.size) (by omega) (by omega) A_r F_value_r F_coder_r V_wi (Sc.ext X53.ext0) hzc rfl rfl (by decide) (by decide) hp rfl (by decide) (by decide)) (fun v h' L q => ⟨q.2.1, q.2.2.1⟩) pd_8 rfl rfl rfl (by rw [hml]; rfl) (by decide) (by decide) (hb hby at_253) (allS (by omega) all0) (allS (Or.inr (by omega)) all0) (allS (Sfe.mem (List.mem_of_getElem? (i := 0) rfl)) all0) ?_
    intro v54 T54 h54 X54 K54 Q54
    obtain ⟨_, ⟨rfl, -, -, A_r, C_r, t_r, kb_r, gt_r, gs_r, -, V_r, B_r⟩⟩ := Q54
    have z54 : h53.size ≤ h54.size := K54.1
    show Go pP eE bB _ T54 (mkF mM 256 #[.val (.int aa), .val (.int ab), .val (.int ac), .val (.int d1), .val (.int d2), .val (.int d3), .val (.int d4), .val (.int (1 : Int32)), .val (.int bb), .val (.int ((ac.toUInt32 >>> ((3 : Int32) &&& 31).toUInt32).toInt32)), .val (.ref wi), .val (.ref wo), .val (.ref wi), .val (.int (1 : Int32)), .unset, .unset] [(.ref r), (.ref lc), (.ref lc)])
    have lt_r : t_r < h54.size := B_r.lt
    have St_r : Str Z h54 r t_r kb_r ([bb, m0, m1, m2, m3, m4, m5, (58 : Int32), d1, d2, d3, d4] : List Int32) := ⟨A_r, V_r, C_r, B_r, hp, Nat.le_of_ble_eq_true rfl⟩
    have hall : ∀ i, i < 7 → low (([bb, m0, m1, m2, m3, m4, m5, (58 : Int32), d1, d2, d3, d4] : List Int32).getD (1 + i) 0) = mto.getD i 0 := by
      intro i hi
      match i, hi with
      | 0, _ => (show low m0 = (109 : Int32); rcases hm0 with rfl | rfl <;> decide)
      | 1, _ => (show low m1 = (97 : Int32); rcases hm1 with rfl | rfl <;> decide)
      | 2, _ => (show low m2 = (105 : Int32); rcases hm2 with rfl | rfl <;> decide)
      | 3, _ => (show low m3 = (108 : Int32); rcases hm3 with rfl | rfl <;> decide)
      | 4, _ => (show low m4 = (116 : Int32); rcases hm4 with rfl | rfl <;> decide)
      | 5, _ => (show low m5 = (111 : Int32); rcases hm5 with rfl | rfl <;> decide)
      | 6, _ => (show low (58 : Int32) = 58; decide)
      | i + 7, hi => exact absurd hi (by omega)
    have hb1 : ¬ blk (([bb, m0, m1, m2, m3, m4, m5, (58 : Int32), d1, d2, d3, d4] : List Int32).getD 1 0) := by
      show ¬ blk m0
      rcases hm0 with rfl | rfl <;> exact nblk (by decide) (by decide) (by decide) (by decide)
    have hb0 : ∀ j, j < 1 → blk (([bb, m0, m1, m2, m3, m4, m5, (58 : Int32), d1, d2, d3, d4] : List Int32).getD j 0) := fun j hj => by
        obtain rfl : j = 0 := by omega
        exact hbb
    have A_lc := ((A_lc.ext E53).keep K54)
    have F_link_lc := ((F_link_lc.ext E53).keep K54 (ninN (by omega) nin0))
    have F_addressStart_lc := ((F_addressStart_lc.ext E53).keep K54 (ninN (by omega) nin0))
    have F_trimmedEnd_lc := ((F_trimmedEnd_lc.ext E53).keep K54 (ninN (by omega) nin0))
    have F_end_lc := ((F_end_lc.ext E53).keep K54 (ninN (by omega) nin0))
    have F_addressEnd_lc := ((F_addressEnd_lc.ext E53).keep K54 (ninN (by omega) nin0))
    refine X54.callC (W := 1) (argsL := [(.ref r)]) (rest := [(.ref lc)]) (a := lc) rfl (hw _ (List.mem_of_getElem? (i := 43) rfl)) (hw _ (List.mem_of_getElem? (i := 44) rfl)) (hw _ (List.mem_of_getElem? (i := 13) rfl)) (hw _ (List.mem_of_getElem? (i := 45) rfl)) (by decide) (lc_init l Z a0 G lc r t_r kb_r ([bb, m0, m1, m2, m3, m4, m5, (58 : Int32), d1, d2, d3, d4] : List Int32) 1 h54 A_lc F_link_lc F_addressStart_lc F_trimmedEnd_lc F_end_lc F_addressEnd_lc (by omega) (by omega) (by omega) St_r (Nat.le_of_ble_eq_true rfl) hall hb0 hb1) pd_9 rfl rfl rfl (by rw [hml]; rfl) (by decide) (by decide) (by decide) (by decide) (hb hby at_256) (allS (Or.inr (by omega)) all0) all0 ?_
    intro v55 T55 h55 S55 X55 K55 Q55
    obtain ⟨rfl, ee, ae, E1, E2, E3, h4, h5, hif⟩ := Q55
    have X55 := X55 [] all0
    have z55 : h54.size ≤ h55.size := K55.1
    show Go pP eE bB _ T55 (mkF mM 259 #[.val (.int aa), .val (.int ab), .val (.int ac), .val (.int d1), .val (.int d2), .val (.int d3), .val (.int d4), .val (.int (1 : Int32)), .val (.int bb), .val (.int ((ac.toUInt32 >>> ((3 : Int32) &&& 31).toUInt32).toInt32)), .val (.ref wi), .val (.ref wo), .val (.ref wi), .val (.int (1 : Int32)), .unset, .unset] [(.ref lc)])
    refine Go.of (T' := T55) (g' := (mkF mM 261 #[.val (.int aa), .val (.int ab), .val (.int ac), .val (.int d1), .val (.int d2), .val (.int d3), .val (.int d4), .val (.int (1 : Int32)), .val (.int bb), .val (.int ((ac.toUInt32 >>> ((3 : Int32) &&& 31).toUInt32).toInt32)), .val (.ref wi), .val (.ref wo), .val (.ref wi), .val (.int (1 : Int32)), .val (.ref lc), .unset] [])) (fun _ k => XS.astore X55.hh X55.hx rfl (hb hby at_259) rfl rfl (l' := #[.val (.int aa), .val (.int ab), .val (.int ac), .val (.int d1), .val (.int d2), .val (.int d3), .val (.int d4), .val (.int (1 : Int32)), .val (.int bb), .val (.int ((ac.toUInt32 >>> ((3 : Int32) &&& 31).toUInt32).toInt32)), .val (.ref wi), .val (.ref wo), .val (.ref wi), .val (.int (1 : Int32)), .val (.ref lc), .unset]) rfl k) ?_
    refine Go.of (T' := T55) (g' := (mkF mM 262 #[.val (.int aa), .val (.int ab), .val (.int ac), .val (.int d1), .val (.int d2), .val (.int d3), .val (.int d4), .val (.int (1 : Int32)), .val (.int bb), .val (.int ((ac.toUInt32 >>> ((3 : Int32) &&& 31).toUInt32).toInt32)), .val (.ref wi), .val (.ref wo), .val (.ref wi), .val (.int (1 : Int32)), .val (.ref lc), .unset] [(.int d1)])) (fun _ k => XS.iloadN X55.hh X55.hx rfl (hb hby at_261) rfl k) ?_
    refine Go.of (T' := T55) (g' := (mkF mM 264 #[.val (.int aa), .val (.int ab), .val (.int ac), .val (.int d1), .val (.int d2), .val (.int d3), .val (.int d4), .val (.int (1 : Int32)), .val (.int bb), .val (.int ((ac.toUInt32 >>> ((3 : Int32) &&& 31).toUInt32).toInt32)), .val (.ref wi), .val (.ref wo), .val (.ref wi), .val (.int (1 : Int32)), .val (.ref lc), .unset] [(.int (63 : Int32)), (.int d1)])) (fun _ k => XS.bipush X55.hh X55.hx rfl (hb hby at_262) k) ?_
    have hx : Hf ([bb, m0, m1, m2, m3, m4, m5, (58 : Int32), d1, d2, d3, d4] : List Int32) 8 ↔ (d1 = 63 ∨ (¬ d1 = 35 ∧ (d2 = 63 ∨ (¬ d2 = 35 ∧ (d3 = 63 ∨ (¬ d3 = 35 ∧ d4 = 63)))))) := hf_four rfl rfl rfl rfl rfl
    rw [hx] at hif
    have J : ∀ (xx : Int32), ((xx = 1 ∧ (d1 = 63 ∨ (¬ d1 = 35 ∧ (d2 = 63 ∨ (¬ d2 = 35 ∧ (d3 = 63 ∨ (¬ d3 = 35 ∧ d4 = 63))))))) ∨ (xx = 0 ∧ ¬ (d1 = 63 ∨ (¬ d1 = 35 ∧ (d2 = 63 ∨ (¬ d2 = 35 ∧ (d3 = 63 ∨ (¬ d3 = 35 ∧ d4 = 63)))))))) → Go pP eE bB (Pst room_1 sS Z consts_1 [] (Q_law_rm )) T55 (mkF mM 353 #[.val (.int aa), .val (.int ab), .val (.int ac), .val (.int d1), .val (.int d2), .val (.int d3), .val (.int d4), .val (.int (1 : Int32)), .val (.int bb), .val (.int ((ac.toUInt32 >>> ((3 : Int32) &&& 31).toUInt32).toInt32)), .val (.ref wi), .val (.ref wo), .val (.ref wi), .val (.int (1 : Int32)), .val (.ref lc), .val (.int xx)] []) := by
      intro xx hee
      refine Go.of (T' := T55) (g' := (mkF mM 355 #[.val (.int aa), .val (.int ab), .val (.int ac), .val (.int d1), .val (.int d2), .val (.int d3), .val (.int d4), .val (.int (1 : Int32)), .val (.int bb), .val (.int ((ac.toUInt32 >>> ((3 : Int32) &&& 31).toUInt32).toInt32)), .val (.ref wi), .val (.ref wo), .val (.ref wi), .val (.int (1 : Int32)), .val (.ref lc), .val (.int xx)] [(.ref lc)])) (fun _ k => XS.aload X55.hh X55.hx rfl (hb hby at_353) rfl rfl k) ?_
      rcases hee with ⟨rfl, hee⟩ | ⟨rfl, hee⟩
      · refine X55.callV (W := 0) (argsL := []) (rest := []) (a := lc) (C := "com/example/hfields/hfields/LinkCut") (z := (⟨"com/example/hfields/hfields/LinkCut", "hasFields", "()Z"⟩ : MethodName)) (hw _ (List.mem_of_getElem? (i := 107) rfl)) (hw _ (List.mem_of_getElem? (i := 108) rfl)) (fun _ q => notFace_of_selects (args := #[]) (mvT q (hw _ (List.mem_of_getElem? (i := 110) rfl)))) (hw _ (List.mem_of_getElem? (i := 110) rfl)) (hw _ (List.mem_of_getElem? (i := 109) rfl)) (hw _ (List.mem_of_getElem? (i := 13) rfl)) (hw _ (List.mem_of_getElem? (i := 111) rfl)) (by decide) (has_fields l Z a0 G lc ee ae h55 E2 E3 h4 h5) E1 pd_10 rfl rfl rfl (by rw [hml]; rfl) (by decide) (by decide) (by decide) (by decide) (hb hby at_355) all0 all0 ?_
        intro v56 T56 h56 S56 X56 K56 Q56
        have X56 := X56 [] all0
        obtain ⟨hv56, e56⟩ := Q56
        rw [e56] at X56
        rcases hv56 with ⟨rfl, hlt⟩ | ⟨rfl, hlt⟩
        · show Go pP eE bB _ T56 (mkF mM 358 #[.val (.int aa), .val (.int ab), .val (.int ac), .val (.int d1), .val (.int d2), .val (.int d3), .val (.int d4), .val (.int (1 : Int32)), .val (.int bb), .val (.int ((ac.toUInt32 >>> ((3 : Int32) &&& 31).toUInt32).toInt32)), .val (.ref wi), .val (.ref wo), .val (.ref wi), .val (.int (1 : Int32)), .val (.ref lc), .val (.int (1 : Int32))] [(.int (1 : Int32))])
          refine Go.of (T' := T56) (g' := (mkF mM 360 #[.val (.int aa), .val (.int ab), .val (.int ac), .val (.int d1), .val (.int d2), .val (.int d3), .val (.int d4), .val (.int (1 : Int32)), .val (.int bb), .val (.int ((ac.toUInt32 >>> ((3 : Int32) &&& 31).toUInt32).toInt32)), .val (.ref wi), .val (.ref wo), .val (.ref wi), .val (.int (1 : Int32)), .val (.ref lc), .val (.int (1 : Int32))] [(.int (1 : Int32)), (.int (1 : Int32))])) (fun _ k => XS.iload X56.hh X56.hx rfl (hb hby at_358) rfl k) ?_
          refine Go.of (T' := T56) (g' := (mkF mM 363 #[.val (.int aa), .val (.int ab), .val (.int ac), .val (.int d1), .val (.int d2), .val (.int d3), .val (.int d4), .val (.int (1 : Int32)), .val (.int bb), .val (.int ((ac.toUInt32 >>> ((3 : Int32) &&& 31).toUInt32).toInt32)), .val (.ref wi), .val (.ref wo), .val (.ref wi), .val (.int (1 : Int32)), .val (.ref lc), .val (.int (1 : Int32))] [])) (fun _ k => XS.icmpNo X56.hh X56.hx rfl (hb hby at_360) rfl (teq rfl).2 k) ?_
          refine Go.of (T' := T56) (g' := (mkF mM 364 #[.val (.int aa), .val (.int ab), .val (.int ac), .val (.int d1), .val (.int d2), .val (.int d3), .val (.int d4), .val (.int (1 : Int32)), .val (.int bb), .val (.int ((ac.toUInt32 >>> ((3 : Int32) &&& 31).toUInt32).toInt32)), .val (.ref wi), .val (.ref wo), .val (.ref wi), .val (.int (1 : Int32)), .val (.ref lc), .val (.int (1 : Int32))] [(.int (1 : Int32))])) (fun _ k => XS.iconst X56.hh X56.hx rfl (hb hby at_363) k) ?_
          refine Go.of (T' := T56) (g' := (mkF mM 368 #[.val (.int aa), .val (.int ab), .val (.int ac), .val (.int d1), .val (.int d2), .val (.int d3), .val (.int d4), .val (.int (1 : Int32)), .val (.int bb), .val (.int ((ac.toUInt32 >>> ((3 : Int32) &&& 31).toUInt32).toInt32)), .val (.ref wi), .val (.ref wo), .val (.ref wi), .val (.int (1 : Int32)), .val (.ref lc), .val (.int (1 : Int32))] [(.int (1 : Int32))])) (fun _ k => XS.goto X56.hh X56.hx rfl (pc0 := 364) (pc' := 368) rfl (hb hby at_364) (by decide) (by decide) k) ?_
          exact X56.nret (t := .boolean) hret (by simp) hlk (by decide) (by decide) (hb hby at_368) (fun S hS => rfl)
        · show Go pP eE bB _ T56 (mkF mM 358 #[.val (.int aa), .val (.int ab), .val (.int ac), .val (.int d1), .val (.int d2), .val (.int d3), .val (.int d4), .val (.int (1 : Int32)), .val (.int bb), .val (.int ((ac.toUInt32 >>> ((3 : Int32) &&& 31).toUInt32).toInt32)), .val (.ref wi), .val (.ref wo), .val (.ref wi), .val (.int (1 : Int32)), .val (.ref lc), .val (.int (1 : Int32))] [(.int (0 : Int32))])
          refine Go.of (T' := T56) (g' := (mkF mM 360 #[.val (.int aa), .val (.int ab), .val (.int ac), .val (.int d1), .val (.int d2), .val (.int d3), .val (.int d4), .val (.int (1 : Int32)), .val (.int bb), .val (.int ((ac.toUInt32 >>> ((3 : Int32) &&& 31).toUInt32).toInt32)), .val (.ref wi), .val (.ref wo), .val (.ref wi), .val (.int (1 : Int32)), .val (.ref lc), .val (.int (1 : Int32))] [(.int (1 : Int32)), (.int (0 : Int32))])) (fun _ k => XS.iload X56.hh X56.hx rfl (hb hby at_358) rfl k) ?_
          exact absurd (hif.mpr hee) hlt
      · refine X55.callV (W := 0) (argsL := []) (rest := []) (a := lc) (C := "com/example/hfields/hfields/LinkCut") (z := (⟨"com/example/hfields/hfields/LinkCut", "hasFields", "()Z"⟩ : MethodName)) (hw _ (List.mem_of_getElem? (i := 107) rfl)) (hw _ (List.mem_of_getElem? (i := 108) rfl)) (fun _ q => notFace_of_selects (args := #[]) (mvT q (hw _ (List.mem_of_getElem? (i := 110) rfl)))) (hw _ (List.mem_of_getElem? (i := 110) rfl)) (hw _ (List.mem_of_getElem? (i := 109) rfl)) (hw _ (List.mem_of_getElem? (i := 13) rfl)) (hw _ (List.mem_of_getElem? (i := 111) rfl)) (by decide) (has_fields l Z a0 G lc ee ae h55 E2 E3 h4 h5) E1 pd_10 rfl rfl rfl (by rw [hml]; rfl) (by decide) (by decide) (by decide) (by decide) (hb hby at_355) all0 all0 ?_
        intro v57 T57 h57 S57 X57 K57 Q57
        have X57 := X57 [] all0
        obtain ⟨hv57, e57⟩ := Q57
        rw [e57] at X57
        rcases hv57 with ⟨rfl, hlt⟩ | ⟨rfl, hlt⟩
        · show Go pP eE bB _ T57 (mkF mM 358 #[.val (.int aa), .val (.int ab), .val (.int ac), .val (.int d1), .val (.int d2), .val (.int d3), .val (.int d4), .val (.int (1 : Int32)), .val (.int bb), .val (.int ((ac.toUInt32 >>> ((3 : Int32) &&& 31).toUInt32).toInt32)), .val (.ref wi), .val (.ref wo), .val (.ref wi), .val (.int (1 : Int32)), .val (.ref lc), .val (.int (0 : Int32))] [(.int (1 : Int32))])
          refine Go.of (T' := T57) (g' := (mkF mM 360 #[.val (.int aa), .val (.int ab), .val (.int ac), .val (.int d1), .val (.int d2), .val (.int d3), .val (.int d4), .val (.int (1 : Int32)), .val (.int bb), .val (.int ((ac.toUInt32 >>> ((3 : Int32) &&& 31).toUInt32).toInt32)), .val (.ref wi), .val (.ref wo), .val (.ref wi), .val (.int (1 : Int32)), .val (.ref lc), .val (.int (0 : Int32))] [(.int (0 : Int32)), (.int (1 : Int32))])) (fun _ k => XS.iload X57.hh X57.hx rfl (hb hby at_358) rfl k) ?_
          exact absurd (hif.mp hlt) hee
        · show Go pP eE bB _ T57 (mkF mM 358 #[.val (.int aa), .val (.int ab), .val (.int ac), .val (.int d1), .val (.int d2), .val (.int d3), .val (.int d4), .val (.int (1 : Int32)), .val (.int bb), .val (.int ((ac.toUInt32 >>> ((3 : Int32) &&& 31).toUInt32).toInt32)), .val (.ref wi), .val (.ref wo), .val (.ref wi), .val (.int (1 : Int32)), .val (.ref lc), .val (.int (0 : Int32))] [(.int (0 : Int32))])
          refine Go.of (T' := T57) (g' := (mkF mM 360 #[.val (.int aa), .val (.int ab), .val (.int ac), .val (.int d1), .val (.int d2), .val (.int d3), .val (.int d4), .val (.int (1 : Int32)), .val (.int bb), .val (.int ((ac.toUInt32 >>> ((3 : Int32) &&& 31).toUInt32).toInt32)), .val (.ref wi), .val (.ref wo), .val (.ref wi), .val (.int (1 : Int32)), .val (.ref lc), .val (.int (0 : Int32))] [(.int (0 : Int32)), (.int (0 : Int32))])) (fun _ k => XS.iload X57.hh X57.hx rfl (hb hby at_358) rfl k) ?_
          refine Go.of (T' := T57) (g' := (mkF mM 363 #[.val (.int aa), .val (.int ab), .val (.int ac), .val (.int d1), .val (.int d2), .val (.int d3), .val (.int d4), .val (.int (1 : Int32)), .val (.int bb), .val (.int ((ac.toUInt32 >>> ((3 : Int32) &&& 31).toUInt32).toInt32)), .val (.ref wi), .val (.ref wo), .val (.ref wi), .val (.int (1 : Int32)), .val (.ref lc), .val (.int (0 : Int32))] [])) (fun _ k => XS.icmpNo X57.hh X57.hx rfl (hb hby at_360) rfl (teq rfl).2 k) ?_
          refine Go.of (T' := T57) (g' := (mkF mM 364 #[.val (.int aa), .val (.int ab), .val (.int ac), .val (.int d1), .val (.int d2), .val (.int d3), .val (.int d4), .val (.int (1 : Int32)), .val (.int bb), .val (.int ((ac.toUInt32 >>> ((3 : Int32) &&& 31).toUInt32).toInt32)), .val (.ref wi), .val (.ref wo), .val (.ref wi), .val (.int (1 : Int32)), .val (.ref lc), .val (.int (0 : Int32))] [(.int (1 : Int32))])) (fun _ k => XS.iconst X57.hh X57.hx rfl (hb hby at_363) k) ?_
          refine Go.of (T' := T57) (g' := (mkF mM 368 #[.val (.int aa), .val (.int ab), .val (.int ac), .val (.int d1), .val (.int d2), .val (.int d3), .val (.int d4), .val (.int (1 : Int32)), .val (.int bb), .val (.int ((ac.toUInt32 >>> ((3 : Int32) &&& 31).toUInt32).toInt32)), .val (.ref wi), .val (.ref wo), .val (.ref wi), .val (.int (1 : Int32)), .val (.ref lc), .val (.int (0 : Int32))] [(.int (1 : Int32))])) (fun _ k => XS.goto X57.hh X57.hx rfl (pc0 := 364) (pc' := 368) rfl (hb hby at_364) (by decide) (by decide) k) ?_
          exact X57.nret (t := .boolean) hret (by simp) hlk (by decide) (by decide) (hb hby at_368) (fun S hS => rfl)
    by_cases hc264 : d1 = (63 : Int32)
    · refine Go.of (T' := T55) (g' := (mkF mM 267 #[.val (.int aa), .val (.int ab), .val (.int ac), .val (.int d1), .val (.int d2), .val (.int d3), .val (.int d4), .val (.int (1 : Int32)), .val (.int bb), .val (.int ((ac.toUInt32 >>> ((3 : Int32) &&& 31).toUInt32).toInt32)), .val (.ref wi), .val (.ref wo), .val (.ref wi), .val (.int (1 : Int32)), .val (.ref lc), .unset] [])) (fun _ k => XS.icmpNo X55.hh X55.hx rfl (hb hby at_264) rfl (teq hc264).2 k) ?_
      refine Go.of (T' := T55) (g' := (mkF mM 268 #[.val (.int aa), .val (.int ab), .val (.int ac), .val (.int d1), .val (.int d2), .val (.int d3), .val (.int d4), .val (.int (1 : Int32)), .val (.int bb), .val (.int ((ac.toUInt32 >>> ((3 : Int32) &&& 31).toUInt32).toInt32)), .val (.ref wi), .val (.ref wo), .val (.ref wi), .val (.int (1 : Int32)), .val (.ref lc), .unset] [(.int (1 : Int32))])) (fun _ k => XS.iconst X55.hh X55.hx rfl (hb hby at_267) k) ?_
      refine Go.of (T' := T55) (g' := (mkF mM 270 #[.val (.int aa), .val (.int ab), .val (.int ac), .val (.int d1), .val (.int d2), .val (.int d3), .val (.int d4), .val (.int (1 : Int32)), .val (.int bb), .val (.int ((ac.toUInt32 >>> ((3 : Int32) &&& 31).toUInt32).toInt32)), .val (.ref wi), .val (.ref wo), .val (.ref wi), .val (.int (1 : Int32)), .val (.ref lc), .val (.int (1 : Int32))] [])) (fun _ k => XS.istore X55.hh X55.hx rfl (hb hby at_268) rfl (l' := #[.val (.int aa), .val (.int ab), .val (.int ac), .val (.int d1), .val (.int d2), .val (.int d3), .val (.int d4), .val (.int (1 : Int32)), .val (.int bb), .val (.int ((ac.toUInt32 >>> ((3 : Int32) &&& 31).toUInt32).toInt32)), .val (.ref wi), .val (.ref wo), .val (.ref wi), .val (.int (1 : Int32)), .val (.ref lc), .val (.int (1 : Int32))]) rfl k) ?_
      refine Go.of (T' := T55) (g' := (mkF mM 353 #[.val (.int aa), .val (.int ab), .val (.int ac), .val (.int d1), .val (.int d2), .val (.int d3), .val (.int d4), .val (.int (1 : Int32)), .val (.int bb), .val (.int ((ac.toUInt32 >>> ((3 : Int32) &&& 31).toUInt32).toInt32)), .val (.ref wi), .val (.ref wo), .val (.ref wi), .val (.int (1 : Int32)), .val (.ref lc), .val (.int (1 : Int32))] [])) (fun _ k => XS.goto X55.hh X55.hx rfl (pc0 := 270) (pc' := 353) rfl (hb hby at_270) (by decide) (by decide) k) ?_
      exact J _ (Or.inl ⟨rfl, Or.inl hc264⟩)
    · refine Go.of (T' := T55) (g' := (mkF mM 273 #[.val (.int aa), .val (.int ab), .val (.int ac), .val (.int d1), .val (.int d2), .val (.int d3), .val (.int d4), .val (.int (1 : Int32)), .val (.int bb), .val (.int ((ac.toUInt32 >>> ((3 : Int32) &&& 31).toUInt32).toInt32)), .val (.ref wi), .val (.ref wo), .val (.ref wi), .val (.int (1 : Int32)), .val (.ref lc), .unset] [])) (fun _ k => XS.icmpYes X55.hh X55.hx rfl (pc0 := 264) (pc' := 273) rfl (hb hby at_264) rfl (feq hc264).2 (by decide) (by decide) k) ?_
      refine Go.of (T' := T55) (g' := (mkF mM 274 #[.val (.int aa), .val (.int ab), .val (.int ac), .val (.int d1), .val (.int d2), .val (.int d3), .val (.int d4), .val (.int (1 : Int32)), .val (.int bb), .val (.int ((ac.toUInt32 >>> ((3 : Int32) &&& 31).toUInt32).toInt32)), .val (.ref wi), .val (.ref wo), .val (.ref wi), .val (.int (1 : Int32)), .val (.ref lc), .unset] [(.int d1)])) (fun _ k => XS.iloadN X55.hh X55.hx rfl (hb hby at_273) rfl k) ?_
      refine Go.of (T' := T55) (g' := (mkF mM 276 #[.val (.int aa), .val (.int ab), .val (.int ac), .val (.int d1), .val (.int d2), .val (.int d3), .val (.int d4), .val (.int (1 : Int32)), .val (.int bb), .val (.int ((ac.toUInt32 >>> ((3 : Int32) &&& 31).toUInt32).toInt32)), .val (.ref wi), .val (.ref wo), .val (.ref wi), .val (.int (1 : Int32)), .val (.ref lc), .unset] [(.int (35 : Int32)), (.int d1)])) (fun _ k => XS.bipush X55.hh X55.hx rfl (hb hby at_274) k) ?_
      by_cases hc276 : d1 = (35 : Int32)
      · refine Go.of (T' := T55) (g' := (mkF mM 279 #[.val (.int aa), .val (.int ab), .val (.int ac), .val (.int d1), .val (.int d2), .val (.int d3), .val (.int d4), .val (.int (1 : Int32)), .val (.int bb), .val (.int ((ac.toUInt32 >>> ((3 : Int32) &&& 31).toUInt32).toInt32)), .val (.ref wi), .val (.ref wo), .val (.ref wi), .val (.int (1 : Int32)), .val (.ref lc), .unset] [])) (fun _ k => XS.icmpNo X55.hh X55.hx rfl (hb hby at_276) rfl (teq hc276).2 k) ?_
        refine Go.of (T' := T55) (g' := (mkF mM 280 #[.val (.int aa), .val (.int ab), .val (.int ac), .val (.int d1), .val (.int d2), .val (.int d3), .val (.int d4), .val (.int (1 : Int32)), .val (.int bb), .val (.int ((ac.toUInt32 >>> ((3 : Int32) &&& 31).toUInt32).toInt32)), .val (.ref wi), .val (.ref wo), .val (.ref wi), .val (.int (1 : Int32)), .val (.ref lc), .unset] [(.int (0 : Int32))])) (fun _ k => XS.iconst X55.hh X55.hx rfl (hb hby at_279) k) ?_
        refine Go.of (T' := T55) (g' := (mkF mM 282 #[.val (.int aa), .val (.int ab), .val (.int ac), .val (.int d1), .val (.int d2), .val (.int d3), .val (.int d4), .val (.int (1 : Int32)), .val (.int bb), .val (.int ((ac.toUInt32 >>> ((3 : Int32) &&& 31).toUInt32).toInt32)), .val (.ref wi), .val (.ref wo), .val (.ref wi), .val (.int (1 : Int32)), .val (.ref lc), .val (.int (0 : Int32))] [])) (fun _ k => XS.istore X55.hh X55.hx rfl (hb hby at_280) rfl (l' := #[.val (.int aa), .val (.int ab), .val (.int ac), .val (.int d1), .val (.int d2), .val (.int d3), .val (.int d4), .val (.int (1 : Int32)), .val (.int bb), .val (.int ((ac.toUInt32 >>> ((3 : Int32) &&& 31).toUInt32).toInt32)), .val (.ref wi), .val (.ref wo), .val (.ref wi), .val (.int (1 : Int32)), .val (.ref lc), .val (.int (0 : Int32))]) rfl k) ?_
        refine Go.of (T' := T55) (g' := (mkF mM 353 #[.val (.int aa), .val (.int ab), .val (.int ac), .val (.int d1), .val (.int d2), .val (.int d3), .val (.int d4), .val (.int (1 : Int32)), .val (.int bb), .val (.int ((ac.toUInt32 >>> ((3 : Int32) &&& 31).toUInt32).toInt32)), .val (.ref wi), .val (.ref wo), .val (.ref wi), .val (.int (1 : Int32)), .val (.ref lc), .val (.int (0 : Int32))] [])) (fun _ k => XS.goto X55.hh X55.hx rfl (pc0 := 282) (pc' := 353) rfl (hb hby at_282) (by decide) (by decide) k) ?_
        exact J _ (Or.inr ⟨rfl, by simp [*]⟩)
      · refine Go.of (T' := T55) (g' := (mkF mM 285 #[.val (.int aa), .val (.int ab), .val (.int ac), .val (.int d1), .val (.int d2), .val (.int d3), .val (.int d4), .val (.int (1 : Int32)), .val (.int bb), .val (.int ((ac.toUInt32 >>> ((3 : Int32) &&& 31).toUInt32).toInt32)), .val (.ref wi), .val (.ref wo), .val (.ref wi), .val (.int (1 : Int32)), .val (.ref lc), .unset] [])) (fun _ k => XS.icmpYes X55.hh X55.hx rfl (pc0 := 276) (pc' := 285) rfl (hb hby at_276) rfl (feq hc276).2 (by decide) (by decide) k) ?_
        refine Go.of (T' := T55) (g' := (mkF mM 287 #[.val (.int aa), .val (.int ab), .val (.int ac), .val (.int d1), .val (.int d2), .val (.int d3), .val (.int d4), .val (.int (1 : Int32)), .val (.int bb), .val (.int ((ac.toUInt32 >>> ((3 : Int32) &&& 31).toUInt32).toInt32)), .val (.ref wi), .val (.ref wo), .val (.ref wi), .val (.int (1 : Int32)), .val (.ref lc), .unset] [(.int d2)])) (fun _ k => XS.iload X55.hh X55.hx rfl (hb hby at_285) rfl k) ?_
        refine Go.of (T' := T55) (g' := (mkF mM 289 #[.val (.int aa), .val (.int ab), .val (.int ac), .val (.int d1), .val (.int d2), .val (.int d3), .val (.int d4), .val (.int (1 : Int32)), .val (.int bb), .val (.int ((ac.toUInt32 >>> ((3 : Int32) &&& 31).toUInt32).toInt32)), .val (.ref wi), .val (.ref wo), .val (.ref wi), .val (.int (1 : Int32)), .val (.ref lc), .unset] [(.int (63 : Int32)), (.int d2)])) (fun _ k => XS.bipush X55.hh X55.hx rfl (hb hby at_287) k) ?_
        by_cases hc289 : d2 = (63 : Int32)
        · refine Go.of (T' := T55) (g' := (mkF mM 292 #[.val (.int aa), .val (.int ab), .val (.int ac), .val (.int d1), .val (.int d2), .val (.int d3), .val (.int d4), .val (.int (1 : Int32)), .val (.int bb), .val (.int ((ac.toUInt32 >>> ((3 : Int32) &&& 31).toUInt32).toInt32)), .val (.ref wi), .val (.ref wo), .val (.ref wi), .val (.int (1 : Int32)), .val (.ref lc), .unset] [])) (fun _ k => XS.icmpNo X55.hh X55.hx rfl (hb hby at_289) rfl (teq hc289).2 k) ?_
          refine Go.of (T' := T55) (g' := (mkF mM 293 #[.val (.int aa), .val (.int ab), .val (.int ac), .val (.int d1), .val (.int d2), .val (.int d3), .val (.int d4), .val (.int (1 : Int32)), .val (.int bb), .val (.int ((ac.toUInt32 >>> ((3 : Int32) &&& 31).toUInt32).toInt32)), .val (.ref wi), .val (.ref wo), .val (.ref wi), .val (.int (1 : Int32)), .val (.ref lc), .unset] [(.int (1 : Int32))])) (fun _ k => XS.iconst X55.hh X55.hx rfl (hb hby at_292) k) ?_
          refine Go.of (T' := T55) (g' := (mkF mM 295 #[.val (.int aa), .val (.int ab), .val (.int ac), .val (.int d1), .val (.int d2), .val (.int d3), .val (.int d4), .val (.int (1 : Int32)), .val (.int bb), .val (.int ((ac.toUInt32 >>> ((3 : Int32) &&& 31).toUInt32).toInt32)), .val (.ref wi), .val (.ref wo), .val (.ref wi), .val (.int (1 : Int32)), .val (.ref lc), .val (.int (1 : Int32))] [])) (fun _ k => XS.istore X55.hh X55.hx rfl (hb hby at_293) rfl (l' := #[.val (.int aa), .val (.int ab), .val (.int ac), .val (.int d1), .val (.int d2), .val (.int d3), .val (.int d4), .val (.int (1 : Int32)), .val (.int bb), .val (.int ((ac.toUInt32 >>> ((3 : Int32) &&& 31).toUInt32).toInt32)), .val (.ref wi), .val (.ref wo), .val (.ref wi), .val (.int (1 : Int32)), .val (.ref lc), .val (.int (1 : Int32))]) rfl k) ?_
          refine Go.of (T' := T55) (g' := (mkF mM 353 #[.val (.int aa), .val (.int ab), .val (.int ac), .val (.int d1), .val (.int d2), .val (.int d3), .val (.int d4), .val (.int (1 : Int32)), .val (.int bb), .val (.int ((ac.toUInt32 >>> ((3 : Int32) &&& 31).toUInt32).toInt32)), .val (.ref wi), .val (.ref wo), .val (.ref wi), .val (.int (1 : Int32)), .val (.ref lc), .val (.int (1 : Int32))] [])) (fun _ k => XS.goto X55.hh X55.hx rfl (pc0 := 295) (pc' := 353) rfl (hb hby at_295) (by decide) (by decide) k) ?_
          exact J _ (Or.inl ⟨rfl, Or.inr ⟨hc276, Or.inl hc289⟩⟩)
        · refine Go.of (T' := T55) (g' := (mkF mM 298 #[.val (.int aa), .val (.int ab), .val (.int ac), .val (.int d1), .val (.int d2), .val (.int d3), .val (.int d4), .val (.int (1 : Int32)), .val (.int bb), .val (.int ((ac.toUInt32 >>> ((3 : Int32) &&& 31).toUInt32).toInt32)), .val (.ref wi), .val (.ref wo), .val (.ref wi), .val (.int (1 : Int32)), .val (.ref lc), .unset] [])) (fun _ k => XS.icmpYes X55.hh X55.hx rfl (pc0 := 289) (pc' := 298) rfl (hb hby at_289) rfl (feq hc289).2 (by decide) (by decide) k) ?_
          refine Go.of (T' := T55) (g' := (mkF mM 300 #[.val (.int aa), .val (.int ab), .val (.int ac), .val (.int d1), .val (.int d2), .val (.int d3), .val (.int d4), .val (.int (1 : Int32)), .val (.int bb), .val (.int ((ac.toUInt32 >>> ((3 : Int32) &&& 31).toUInt32).toInt32)), .val (.ref wi), .val (.ref wo), .val (.ref wi), .val (.int (1 : Int32)), .val (.ref lc), .unset] [(.int d2)])) (fun _ k => XS.iload X55.hh X55.hx rfl (hb hby at_298) rfl k) ?_
          refine Go.of (T' := T55) (g' := (mkF mM 302 #[.val (.int aa), .val (.int ab), .val (.int ac), .val (.int d1), .val (.int d2), .val (.int d3), .val (.int d4), .val (.int (1 : Int32)), .val (.int bb), .val (.int ((ac.toUInt32 >>> ((3 : Int32) &&& 31).toUInt32).toInt32)), .val (.ref wi), .val (.ref wo), .val (.ref wi), .val (.int (1 : Int32)), .val (.ref lc), .unset] [(.int (35 : Int32)), (.int d2)])) (fun _ k => XS.bipush X55.hh X55.hx rfl (hb hby at_300) k) ?_
          by_cases hc302 : d2 = (35 : Int32)
          · refine Go.of (T' := T55) (g' := (mkF mM 305 #[.val (.int aa), .val (.int ab), .val (.int ac), .val (.int d1), .val (.int d2), .val (.int d3), .val (.int d4), .val (.int (1 : Int32)), .val (.int bb), .val (.int ((ac.toUInt32 >>> ((3 : Int32) &&& 31).toUInt32).toInt32)), .val (.ref wi), .val (.ref wo), .val (.ref wi), .val (.int (1 : Int32)), .val (.ref lc), .unset] [])) (fun _ k => XS.icmpNo X55.hh X55.hx rfl (hb hby at_302) rfl (teq hc302).2 k) ?_
            refine Go.of (T' := T55) (g' := (mkF mM 306 #[.val (.int aa), .val (.int ab), .val (.int ac), .val (.int d1), .val (.int d2), .val (.int d3), .val (.int d4), .val (.int (1 : Int32)), .val (.int bb), .val (.int ((ac.toUInt32 >>> ((3 : Int32) &&& 31).toUInt32).toInt32)), .val (.ref wi), .val (.ref wo), .val (.ref wi), .val (.int (1 : Int32)), .val (.ref lc), .unset] [(.int (0 : Int32))])) (fun _ k => XS.iconst X55.hh X55.hx rfl (hb hby at_305) k) ?_
            refine Go.of (T' := T55) (g' := (mkF mM 308 #[.val (.int aa), .val (.int ab), .val (.int ac), .val (.int d1), .val (.int d2), .val (.int d3), .val (.int d4), .val (.int (1 : Int32)), .val (.int bb), .val (.int ((ac.toUInt32 >>> ((3 : Int32) &&& 31).toUInt32).toInt32)), .val (.ref wi), .val (.ref wo), .val (.ref wi), .val (.int (1 : Int32)), .val (.ref lc), .val (.int (0 : Int32))] [])) (fun _ k => XS.istore X55.hh X55.hx rfl (hb hby at_306) rfl (l' := #[.val (.int aa), .val (.int ab), .val (.int ac), .val (.int d1), .val (.int d2), .val (.int d3), .val (.int d4), .val (.int (1 : Int32)), .val (.int bb), .val (.int ((ac.toUInt32 >>> ((3 : Int32) &&& 31).toUInt32).toInt32)), .val (.ref wi), .val (.ref wo), .val (.ref wi), .val (.int (1 : Int32)), .val (.ref lc), .val (.int (0 : Int32))]) rfl k) ?_
            refine Go.of (T' := T55) (g' := (mkF mM 353 #[.val (.int aa), .val (.int ab), .val (.int ac), .val (.int d1), .val (.int d2), .val (.int d3), .val (.int d4), .val (.int (1 : Int32)), .val (.int bb), .val (.int ((ac.toUInt32 >>> ((3 : Int32) &&& 31).toUInt32).toInt32)), .val (.ref wi), .val (.ref wo), .val (.ref wi), .val (.int (1 : Int32)), .val (.ref lc), .val (.int (0 : Int32))] [])) (fun _ k => XS.goto X55.hh X55.hx rfl (pc0 := 308) (pc' := 353) rfl (hb hby at_308) (by decide) (by decide) k) ?_
            exact J _ (Or.inr ⟨rfl, by simp [*]⟩)
          · refine Go.of (T' := T55) (g' := (mkF mM 311 #[.val (.int aa), .val (.int ab), .val (.int ac), .val (.int d1), .val (.int d2), .val (.int d3), .val (.int d4), .val (.int (1 : Int32)), .val (.int bb), .val (.int ((ac.toUInt32 >>> ((3 : Int32) &&& 31).toUInt32).toInt32)), .val (.ref wi), .val (.ref wo), .val (.ref wi), .val (.int (1 : Int32)), .val (.ref lc), .unset] [])) (fun _ k => XS.icmpYes X55.hh X55.hx rfl (pc0 := 302) (pc' := 311) rfl (hb hby at_302) rfl (feq hc302).2 (by decide) (by decide) k) ?_
            refine Go.of (T' := T55) (g' := (mkF mM 313 #[.val (.int aa), .val (.int ab), .val (.int ac), .val (.int d1), .val (.int d2), .val (.int d3), .val (.int d4), .val (.int (1 : Int32)), .val (.int bb), .val (.int ((ac.toUInt32 >>> ((3 : Int32) &&& 31).toUInt32).toInt32)), .val (.ref wi), .val (.ref wo), .val (.ref wi), .val (.int (1 : Int32)), .val (.ref lc), .unset] [(.int d3)])) (fun _ k => XS.iload X55.hh X55.hx rfl (hb hby at_311) rfl k) ?_
            refine Go.of (T' := T55) (g' := (mkF mM 315 #[.val (.int aa), .val (.int ab), .val (.int ac), .val (.int d1), .val (.int d2), .val (.int d3), .val (.int d4), .val (.int (1 : Int32)), .val (.int bb), .val (.int ((ac.toUInt32 >>> ((3 : Int32) &&& 31).toUInt32).toInt32)), .val (.ref wi), .val (.ref wo), .val (.ref wi), .val (.int (1 : Int32)), .val (.ref lc), .unset] [(.int (63 : Int32)), (.int d3)])) (fun _ k => XS.bipush X55.hh X55.hx rfl (hb hby at_313) k) ?_
            by_cases hc315 : d3 = (63 : Int32)
            · refine Go.of (T' := T55) (g' := (mkF mM 318 #[.val (.int aa), .val (.int ab), .val (.int ac), .val (.int d1), .val (.int d2), .val (.int d3), .val (.int d4), .val (.int (1 : Int32)), .val (.int bb), .val (.int ((ac.toUInt32 >>> ((3 : Int32) &&& 31).toUInt32).toInt32)), .val (.ref wi), .val (.ref wo), .val (.ref wi), .val (.int (1 : Int32)), .val (.ref lc), .unset] [])) (fun _ k => XS.icmpNo X55.hh X55.hx rfl (hb hby at_315) rfl (teq hc315).2 k) ?_
              refine Go.of (T' := T55) (g' := (mkF mM 319 #[.val (.int aa), .val (.int ab), .val (.int ac), .val (.int d1), .val (.int d2), .val (.int d3), .val (.int d4), .val (.int (1 : Int32)), .val (.int bb), .val (.int ((ac.toUInt32 >>> ((3 : Int32) &&& 31).toUInt32).toInt32)), .val (.ref wi), .val (.ref wo), .val (.ref wi), .val (.int (1 : Int32)), .val (.ref lc), .unset] [(.int (1 : Int32))])) (fun _ k => XS.iconst X55.hh X55.hx rfl (hb hby at_318) k) ?_
              refine Go.of (T' := T55) (g' := (mkF mM 321 #[.val (.int aa), .val (.int ab), .val (.int ac), .val (.int d1), .val (.int d2), .val (.int d3), .val (.int d4), .val (.int (1 : Int32)), .val (.int bb), .val (.int ((ac.toUInt32 >>> ((3 : Int32) &&& 31).toUInt32).toInt32)), .val (.ref wi), .val (.ref wo), .val (.ref wi), .val (.int (1 : Int32)), .val (.ref lc), .val (.int (1 : Int32))] [])) (fun _ k => XS.istore X55.hh X55.hx rfl (hb hby at_319) rfl (l' := #[.val (.int aa), .val (.int ab), .val (.int ac), .val (.int d1), .val (.int d2), .val (.int d3), .val (.int d4), .val (.int (1 : Int32)), .val (.int bb), .val (.int ((ac.toUInt32 >>> ((3 : Int32) &&& 31).toUInt32).toInt32)), .val (.ref wi), .val (.ref wo), .val (.ref wi), .val (.int (1 : Int32)), .val (.ref lc), .val (.int (1 : Int32))]) rfl k) ?_
              refine Go.of (T' := T55) (g' := (mkF mM 353 #[.val (.int aa), .val (.int ab), .val (.int ac), .val (.int d1), .val (.int d2), .val (.int d3), .val (.int d4), .val (.int (1 : Int32)), .val (.int bb), .val (.int ((ac.toUInt32 >>> ((3 : Int32) &&& 31).toUInt32).toInt32)), .val (.ref wi), .val (.ref wo), .val (.ref wi), .val (.int (1 : Int32)), .val (.ref lc), .val (.int (1 : Int32))] [])) (fun _ k => XS.goto X55.hh X55.hx rfl (pc0 := 321) (pc' := 353) rfl (hb hby at_321) (by decide) (by decide) k) ?_
              exact J _ (Or.inl ⟨rfl, Or.inr ⟨hc276, Or.inr ⟨hc302, Or.inl hc315⟩⟩⟩)
            · refine Go.of (T' := T55) (g' := (mkF mM 324 #[.val (.int aa), .val (.int ab), .val (.int ac), .val (.int d1), .val (.int d2), .val (.int d3), .val (.int d4), .val (.int (1 : Int32)), .val (.int bb), .val (.int ((ac.toUInt32 >>> ((3 : Int32) &&& 31).toUInt32).toInt32)), .val (.ref wi), .val (.ref wo), .val (.ref wi), .val (.int (1 : Int32)), .val (.ref lc), .unset] [])) (fun _ k => XS.icmpYes X55.hh X55.hx rfl (pc0 := 315) (pc' := 324) rfl (hb hby at_315) rfl (feq hc315).2 (by decide) (by decide) k) ?_
              refine Go.of (T' := T55) (g' := (mkF mM 326 #[.val (.int aa), .val (.int ab), .val (.int ac), .val (.int d1), .val (.int d2), .val (.int d3), .val (.int d4), .val (.int (1 : Int32)), .val (.int bb), .val (.int ((ac.toUInt32 >>> ((3 : Int32) &&& 31).toUInt32).toInt32)), .val (.ref wi), .val (.ref wo), .val (.ref wi), .val (.int (1 : Int32)), .val (.ref lc), .unset] [(.int d3)])) (fun _ k => XS.iload X55.hh X55.hx rfl (hb hby at_324) rfl k) ?_
              refine Go.of (T' := T55) (g' := (mkF mM 328 #[.val (.int aa), .val (.int ab), .val (.int ac), .val (.int d1), .val (.int d2), .val (.int d3), .val (.int d4), .val (.int (1 : Int32)), .val (.int bb), .val (.int ((ac.toUInt32 >>> ((3 : Int32) &&& 31).toUInt32).toInt32)), .val (.ref wi), .val (.ref wo), .val (.ref wi), .val (.int (1 : Int32)), .val (.ref lc), .unset] [(.int (35 : Int32)), (.int d3)])) (fun _ k => XS.bipush X55.hh X55.hx rfl (hb hby at_326) k) ?_
              by_cases hc328 : d3 = (35 : Int32)
              · refine Go.of (T' := T55) (g' := (mkF mM 331 #[.val (.int aa), .val (.int ab), .val (.int ac), .val (.int d1), .val (.int d2), .val (.int d3), .val (.int d4), .val (.int (1 : Int32)), .val (.int bb), .val (.int ((ac.toUInt32 >>> ((3 : Int32) &&& 31).toUInt32).toInt32)), .val (.ref wi), .val (.ref wo), .val (.ref wi), .val (.int (1 : Int32)), .val (.ref lc), .unset] [])) (fun _ k => XS.icmpNo X55.hh X55.hx rfl (hb hby at_328) rfl (teq hc328).2 k) ?_
                refine Go.of (T' := T55) (g' := (mkF mM 332 #[.val (.int aa), .val (.int ab), .val (.int ac), .val (.int d1), .val (.int d2), .val (.int d3), .val (.int d4), .val (.int (1 : Int32)), .val (.int bb), .val (.int ((ac.toUInt32 >>> ((3 : Int32) &&& 31).toUInt32).toInt32)), .val (.ref wi), .val (.ref wo), .val (.ref wi), .val (.int (1 : Int32)), .val (.ref lc), .unset] [(.int (0 : Int32))])) (fun _ k => XS.iconst X55.hh X55.hx rfl (hb hby at_331) k) ?_
                refine Go.of (T' := T55) (g' := (mkF mM 334 #[.val (.int aa), .val (.int ab), .val (.int ac), .val (.int d1), .val (.int d2), .val (.int d3), .val (.int d4), .val (.int (1 : Int32)), .val (.int bb), .val (.int ((ac.toUInt32 >>> ((3 : Int32) &&& 31).toUInt32).toInt32)), .val (.ref wi), .val (.ref wo), .val (.ref wi), .val (.int (1 : Int32)), .val (.ref lc), .val (.int (0 : Int32))] [])) (fun _ k => XS.istore X55.hh X55.hx rfl (hb hby at_332) rfl (l' := #[.val (.int aa), .val (.int ab), .val (.int ac), .val (.int d1), .val (.int d2), .val (.int d3), .val (.int d4), .val (.int (1 : Int32)), .val (.int bb), .val (.int ((ac.toUInt32 >>> ((3 : Int32) &&& 31).toUInt32).toInt32)), .val (.ref wi), .val (.ref wo), .val (.ref wi), .val (.int (1 : Int32)), .val (.ref lc), .val (.int (0 : Int32))]) rfl k) ?_
                refine Go.of (T' := T55) (g' := (mkF mM 353 #[.val (.int aa), .val (.int ab), .val (.int ac), .val (.int d1), .val (.int d2), .val (.int d3), .val (.int d4), .val (.int (1 : Int32)), .val (.int bb), .val (.int ((ac.toUInt32 >>> ((3 : Int32) &&& 31).toUInt32).toInt32)), .val (.ref wi), .val (.ref wo), .val (.ref wi), .val (.int (1 : Int32)), .val (.ref lc), .val (.int (0 : Int32))] [])) (fun _ k => XS.goto X55.hh X55.hx rfl (pc0 := 334) (pc' := 353) rfl (hb hby at_334) (by decide) (by decide) k) ?_
                exact J _ (Or.inr ⟨rfl, by simp [*]⟩)
              · refine Go.of (T' := T55) (g' := (mkF mM 337 #[.val (.int aa), .val (.int ab), .val (.int ac), .val (.int d1), .val (.int d2), .val (.int d3), .val (.int d4), .val (.int (1 : Int32)), .val (.int bb), .val (.int ((ac.toUInt32 >>> ((3 : Int32) &&& 31).toUInt32).toInt32)), .val (.ref wi), .val (.ref wo), .val (.ref wi), .val (.int (1 : Int32)), .val (.ref lc), .unset] [])) (fun _ k => XS.icmpYes X55.hh X55.hx rfl (pc0 := 328) (pc' := 337) rfl (hb hby at_328) rfl (feq hc328).2 (by decide) (by decide) k) ?_
                refine Go.of (T' := T55) (g' := (mkF mM 339 #[.val (.int aa), .val (.int ab), .val (.int ac), .val (.int d1), .val (.int d2), .val (.int d3), .val (.int d4), .val (.int (1 : Int32)), .val (.int bb), .val (.int ((ac.toUInt32 >>> ((3 : Int32) &&& 31).toUInt32).toInt32)), .val (.ref wi), .val (.ref wo), .val (.ref wi), .val (.int (1 : Int32)), .val (.ref lc), .unset] [(.int d4)])) (fun _ k => XS.iload X55.hh X55.hx rfl (hb hby at_337) rfl k) ?_
                refine Go.of (T' := T55) (g' := (mkF mM 341 #[.val (.int aa), .val (.int ab), .val (.int ac), .val (.int d1), .val (.int d2), .val (.int d3), .val (.int d4), .val (.int (1 : Int32)), .val (.int bb), .val (.int ((ac.toUInt32 >>> ((3 : Int32) &&& 31).toUInt32).toInt32)), .val (.ref wi), .val (.ref wo), .val (.ref wi), .val (.int (1 : Int32)), .val (.ref lc), .unset] [(.int (63 : Int32)), (.int d4)])) (fun _ k => XS.bipush X55.hh X55.hx rfl (hb hby at_339) k) ?_
                by_cases hc341 : d4 = (63 : Int32)
                · refine Go.of (T' := T55) (g' := (mkF mM 344 #[.val (.int aa), .val (.int ab), .val (.int ac), .val (.int d1), .val (.int d2), .val (.int d3), .val (.int d4), .val (.int (1 : Int32)), .val (.int bb), .val (.int ((ac.toUInt32 >>> ((3 : Int32) &&& 31).toUInt32).toInt32)), .val (.ref wi), .val (.ref wo), .val (.ref wi), .val (.int (1 : Int32)), .val (.ref lc), .unset] [])) (fun _ k => XS.icmpNo X55.hh X55.hx rfl (hb hby at_341) rfl (teq hc341).2 k) ?_
                  refine Go.of (T' := T55) (g' := (mkF mM 345 #[.val (.int aa), .val (.int ab), .val (.int ac), .val (.int d1), .val (.int d2), .val (.int d3), .val (.int d4), .val (.int (1 : Int32)), .val (.int bb), .val (.int ((ac.toUInt32 >>> ((3 : Int32) &&& 31).toUInt32).toInt32)), .val (.ref wi), .val (.ref wo), .val (.ref wi), .val (.int (1 : Int32)), .val (.ref lc), .unset] [(.int (1 : Int32))])) (fun _ k => XS.iconst X55.hh X55.hx rfl (hb hby at_344) k) ?_
                  refine Go.of (T' := T55) (g' := (mkF mM 347 #[.val (.int aa), .val (.int ab), .val (.int ac), .val (.int d1), .val (.int d2), .val (.int d3), .val (.int d4), .val (.int (1 : Int32)), .val (.int bb), .val (.int ((ac.toUInt32 >>> ((3 : Int32) &&& 31).toUInt32).toInt32)), .val (.ref wi), .val (.ref wo), .val (.ref wi), .val (.int (1 : Int32)), .val (.ref lc), .val (.int (1 : Int32))] [])) (fun _ k => XS.istore X55.hh X55.hx rfl (hb hby at_345) rfl (l' := #[.val (.int aa), .val (.int ab), .val (.int ac), .val (.int d1), .val (.int d2), .val (.int d3), .val (.int d4), .val (.int (1 : Int32)), .val (.int bb), .val (.int ((ac.toUInt32 >>> ((3 : Int32) &&& 31).toUInt32).toInt32)), .val (.ref wi), .val (.ref wo), .val (.ref wi), .val (.int (1 : Int32)), .val (.ref lc), .val (.int (1 : Int32))]) rfl k) ?_
                  refine Go.of (T' := T55) (g' := (mkF mM 353 #[.val (.int aa), .val (.int ab), .val (.int ac), .val (.int d1), .val (.int d2), .val (.int d3), .val (.int d4), .val (.int (1 : Int32)), .val (.int bb), .val (.int ((ac.toUInt32 >>> ((3 : Int32) &&& 31).toUInt32).toInt32)), .val (.ref wi), .val (.ref wo), .val (.ref wi), .val (.int (1 : Int32)), .val (.ref lc), .val (.int (1 : Int32))] [])) (fun _ k => XS.goto X55.hh X55.hx rfl (pc0 := 347) (pc' := 353) rfl (hb hby at_347) (by decide) (by decide) k) ?_
                  exact J _ (Or.inl ⟨rfl, Or.inr ⟨hc276, Or.inr ⟨hc302, Or.inr ⟨hc328, hc341⟩⟩⟩⟩)
                · refine Go.of (T' := T55) (g' := (mkF mM 350 #[.val (.int aa), .val (.int ab), .val (.int ac), .val (.int d1), .val (.int d2), .val (.int d3), .val (.int d4), .val (.int (1 : Int32)), .val (.int bb), .val (.int ((ac.toUInt32 >>> ((3 : Int32) &&& 31).toUInt32).toInt32)), .val (.ref wi), .val (.ref wo), .val (.ref wi), .val (.int (1 : Int32)), .val (.ref lc), .unset] [])) (fun _ k => XS.icmpYes X55.hh X55.hx rfl (pc0 := 341) (pc' := 350) rfl (hb hby at_341) rfl (feq hc341).2 (by decide) (by decide) k) ?_
                  refine Go.of (T' := T55) (g' := (mkF mM 351 #[.val (.int aa), .val (.int ab), .val (.int ac), .val (.int d1), .val (.int d2), .val (.int d3), .val (.int d4), .val (.int (1 : Int32)), .val (.int bb), .val (.int ((ac.toUInt32 >>> ((3 : Int32) &&& 31).toUInt32).toInt32)), .val (.ref wi), .val (.ref wo), .val (.ref wi), .val (.int (1 : Int32)), .val (.ref lc), .unset] [(.int (0 : Int32))])) (fun _ k => XS.iconst X55.hh X55.hx rfl (hb hby at_350) k) ?_
                  refine Go.of (T' := T55) (g' := (mkF mM 353 #[.val (.int aa), .val (.int ab), .val (.int ac), .val (.int d1), .val (.int d2), .val (.int d3), .val (.int d4), .val (.int (1 : Int32)), .val (.int bb), .val (.int ((ac.toUInt32 >>> ((3 : Int32) &&& 31).toUInt32).toInt32)), .val (.ref wi), .val (.ref wo), .val (.ref wi), .val (.int (1 : Int32)), .val (.ref lc), .val (.int (0 : Int32))] [])) (fun _ k => XS.istore X55.hh X55.hx rfl (hb hby at_351) rfl (l' := #[.val (.int aa), .val (.int ab), .val (.int ac), .val (.int d1), .val (.int d2), .val (.int d3), .val (.int d4), .val (.int (1 : Int32)), .val (.int bb), .val (.int ((ac.toUInt32 >>> ((3 : Int32) &&& 31).toUInt32).toInt32)), .val (.ref wi), .val (.ref wo), .val (.ref wi), .val (.int (1 : Int32)), .val (.ref lc), .val (.int (0 : Int32))]) rfl k) ?_
                  exact J _ (Or.inr ⟨rfl, by simp [*]⟩)
set_option maxRecDepth 65536 in
set_option maxHeartbeats 40000000 in
theorem comes_1 {Post : Tables → Env → Array Value → State → Outcome → State → Prop} (hpost : ∀ tb e args s v u, (limb_1_1.after args s (.returned v) u = true ∧ limb_1_2.after args s (.returned v) u = true ∧ True) → FramedW s (.returned v) u (Jvm.fieldLocs frame_1_writes args s ++ Jvm.arrayLocs frame_1_arrays args s ++ Jvm.staticLocs frame_1_statics s) 32 1280 → Post tb e args s (.returned v) u) :
    ArmFor flags0 classFile x code maxLocals ret World_1 tables_1 room_1 Calls_1 rest_1 Pre_1 Post := by
  intro l hfl _ _ p e ha hc hk s m args below hf hA hF happ hP
  obtain ⟨hcalls, hrest, hpre⟩ := hP
  obtain ⟨-, -, -, hnamed, -, -, -, hat⟩ := (Spec.applies_iff hf).mp happ
  obtain ⟨hg, hn⟩ := and_e (Cond.before_iff.mp (show (Jvm.Cond.and given_1 narrow_1).before args s = true from hpre))
  obtain ⟨g_n, g_0⟩ := and_e hg
  obtain ⟨k_0, g_1⟩ := and_e g_0
  obtain ⟨k_1, g_2⟩ := and_e g_1
  obtain ⟨w0, w1, w2, rfl⟩ : ∃ w0 w1 w2 : Value, args = #[w0, w1, w2] := by
    have hs : args.size = 3 := by simpa [Cond.value, given_1] using g_n
    obtain ⟨L⟩ := args
    match L, hs with
    | [w0, w1, w2], _ => exact ⟨w0, w1, w2, rfl⟩
  have hw := fun d (hd : d ∈ tables_1) => atoms_spec (ws := Jvm.Cond.code x code maxLocals ret :: tables_1) hat d (List.mem_cons_of_mem _ hd)
  obtain ⟨hsets, hown0⟩ := atoms_of _ (rest_1_c_eq ▸ (show rest_1_c.before _ s = true from hrest))
  have hr0 := Cond.before_iff.mp hown0
  have hfit : Fit s := fun {y c} hc i hi => by
    obtain ⟨ha, rfl⟩ := Array.getElem?_eq_some_iff.mp hc
    have q := List.all_eq_true.mp ((Array.all_eq_true_iff_forall_mem.mp hF) _ (Array.getElem_mem ha)) i (List.mem_range.mpr hi)
    simpa [Array.getElem?_eq_getElem hi] using q
  obtain ⟨i_0, e_0⟩ := is_v k_0
  obtain rfl : w0 = (.int i_0) := Option.some.inj e_0
  obtain ⟨i_1, e_1⟩ := is_v k_1
  obtain rfl : w1 = (.int i_1) := Option.some.inj e_1
  obtain ⟨i_2, e_2⟩ := is_v g_2
  obtain rfl : w2 = (.int i_2) := Option.some.inj e_2
  have n_z := not_v (Cond.before_iff.mp (hsets _ (List.mem_of_getElem? (i := 2) rfl)))
  obtain ⟨i_z, e_z⟩ := is_v (Cond.before_iff.mp (hsets _ (List.mem_of_getElem? (i := 1) rfl)))
  have S_z : Sta s s.heap "java/lang/String" "COMPACT_STRINGS" "Z" (.int i_z) := Sta.start e_z (Or.inl (hsets _ (List.mem_of_getElem? (i := 0) rfl)))
  have c_z : ¬ (i_z = (0 : Int32)) := gotF (Cond.eq_ints e_z (Term.int_eval (0))) n_z
  obtain ⟨v_f, e_f, r_f⟩ := isR_v (Cond.before_iff.mp (hsets _ (List.mem_of_getElem? (i := 8) rfl)))
  have S_f : Sta s s.heap "jdk/internal/util/Preconditions" "SIOOBE_FORMATTER" "Ljava/util/function/BiFunction;" v_f := Sta.start e_f (Or.inl (hsets _ (List.mem_of_getElem? (i := 7) rfl)))
  have hCH : CHv s consts_1 s.vm s.heap := CHv.start (EW.cons (hw _ (List.mem_of_getElem? (i := 91) rfl)) (by decide +kernel) (EW.nil)) (fun p hp => hcalls.1 p hp) (hsets _ (List.mem_of_getElem? (i := 2) rfl)) (hw _ (List.mem_of_getElem? (i := 32) rfl)) (hw _ (List.mem_of_getElem? (i := 15) rfl))
  have G : Wld s _ := ⟨hw, EW.cons (hw _ (List.mem_of_getElem? (i := 91) rfl)) (by decide +kernel) (EW.nil), ⟨i_z, S_z, c_z⟩, v_f, S_f, r_f⟩
  obtain ⟨n, o, h1, h2, h3, v, L, rfl, ⟨hQ, N, -, -⟩, -, hq⟩ := law_rm l s _ G i_0 i_1 i_2 s.heap tables_1 p e ha hc hk s m _ below hf ((Spec.applies_iff_loose hf).mp happ).1 ⟨rfl, State.Warmed39.refl s, rfl, hCH, ext_refl _, all0⟩ trivial
  obtain rfl := hQ
  refine ⟨n, _, h1, h2, h3, hpost _ _ _ _ _ _ ⟨Cond.after_iff.mpr rfl, Cond.after_iff.mpr (eq_i res_at (Term.int_eval (1)) rfl), trivial⟩ ⟨hq.1, hq.2.1, hq.2.2.1, (hq.2.2.2.sift fun y hy => Or.inr (N y hy)).mono (by decide) (by decide)⟩⟩
theorem main_1_1 : Claimed_1_1 := comes_1 fun _ _ _ _ _ _ h hF => ⟨h.1, hF⟩
theorem main_1_2 : Claimed_1_2 := comes_1 fun _ _ _ _ _ _ h hF => ⟨h.2.1, hF⟩
end Jvm.Pilot.@@N@@
namespace Jvm.Pilot.@@N@@
open Jvm Jvm.ClassFile Sem Op Lib Jvm.Free Jvm.Stand Jvm.Pilot.@@N@@.Jvm.D
/-! MADE BY PROGRAM (witnessworld.py) out of the Statement's table words and the real class files: 20 classes; the members and pool entries that the words name. The judged class is class 1, her method 1. -/
namespace start1
open Jvm.ClassFile
def u (s : String) : CpInfo := .utf8 (stringToUtf16 s)
/-- a pool by its gaps: so many unusable entries, then the entry; so many at the end -/
def gap : Nat → List CpInfo → List CpInfo
  | 0, r => r
  | n + 1, r => .unusable :: gap n r
def poolList (es : List (Nat × CpInfo)) (last : Nat) : List CpInfo := es.foldr (fun e r => gap e.1 (e.2 :: r)) (gap last [])
def pool (es : List (Nat × CpInfo)) (last : Nat) : Array CpInfo := ⟨poolList es last⟩
def fileOf (pool : Array CpInfo) (this : Nat) (attrs : Array Attribute := #[]) (ms : Array MethodInfo := #[]) (fl : Nat := 33) (sup : Nat := 0) (ifs : Array Nat := #[]) (fds : Array FieldInfo := #[]) : ClassFile where
  minorVersion := 0
  majorVersion := 65
  constantPool := pool
  accessFlags := fl
  thisClass := this
  superClass := sup
  interfaces := ifs
  fields := fds
  methods := ms
  attributes := attrs
def plain (name : String) (sup : Option ClassId) : Class where
  name := name
  kind := .ordinary
  loader := none
  accessFlags := 33
  super := sup
  interfaces := #[]
  cf := none
  fields := #[]
  methods := #[]
  instanceTypes := #[]
  staticTypes := #[]
  resolved := #[]
  callSites := []
  init := .initialized
  statics := none
  mirror := none

def pool0 : Array CpInfo := pool [(5, u "<init>"), (0, u "()V"), (1, .class_ 10), (1, u "java/lang/Object")] 113

def k0c0 : Code := { maxStack := 0, maxLocals := 1, code := object_method_1_code, exceptionTable := #[], attributes := #[] }
def k0m0 : Method := { name := "<init>", desc := "()V", sig := { parameters := [], returnType := none }, accessFlags := 1, code := some k0c0 }
/-- java/lang/Object -/
def k0 : Class := { plain "java/lang/Object" none with
  accessFlags := 33
  interfaces := #[]
  cf := some (fileOf pool0 8 #[] #[{ accessFlags := 1, nameIndex := 5, descriptorIndex := 6, attributes := #[] }] 33 0 #[] #[])
  fields := #[]
  methods := #[k0m0]
  instanceTypes := #[]
  staticTypes := #[]
  resolved := Array.replicate 124 none
  statics := none }

def pool1 : Array CpInfo := pool [(2, .class_ 4), (1, u "java/lang/Object"), (0, u "<init>"), (0, u "()V"), (0, .methodref 8 9), (0, .class_ 10), (0, .nameAndType 11 12), (0, u "com/example/hfields/hfields/LinkCutHasFieldsPinLaw"), (0, u "pick"), (0, u "(I)C"), (0, .methodref 8 14), (0, .nameAndType 15 12), (0, u "blankOf"), (0, .methodref 8 17), (0, .nameAndType 18 19), (0, u "letter"), (0, u "(CII)C"), (0, .class_ 21), (0, u "com/example/hfields/hfields/LinkCut"), (0, .class_ 23), (0, u "java/lang/String"), (0, .methodref 22 25), (0, .nameAndType 5 26), (0, u "([C)V"), (0, .methodref 20 28), (0, .nameAndType 5 29), (0, u "(Ljava/lang/String;)V"), (0, .methodref 20 31), (0, .nameAndType 32 33), (0, u "hasFields"), (0, u "()Z"), (2, u "law"), (0, u "(III)Z")] 5

def k1m0 : Method := { name := "<init>", desc := "()V", sig := { parameters := [], returnType := none }, accessFlags := 1, code := none }
def k1c1 : Code := { maxStack := 5, maxLocals := 16, code := code, exceptionTable := #[], attributes := #[] }
def k1m1 : Method := { name := "law", desc := "(III)Z", sig := { parameters := [.int, .int, .int], returnType := some .boolean }, accessFlags := 9, code := some k1c1 }
def k1c2 : Code := { maxStack := 4, maxLocals := 3, code := method_3_code, exceptionTable := #[], attributes := #[] }
def k1m2 : Method := { name := "pick", desc := "(I)C", sig := { parameters := [.int], returnType := some .char }, accessFlags := 10, code := some k1c2 }
def k1c3 : Code := { maxStack := 2, maxLocals := 1, code := method_4_code, exceptionTable := #[], attributes := #[] }
def k1m3 : Method := { name := "blankOf", desc := "(I)C", sig := { parameters := [.int], returnType := some .char }, accessFlags := 10, code := some k1c3 }
def k1c4 : Code := { maxStack := 2, maxLocals := 3, code := method_5_code, exceptionTable := #[], attributes := #[] }
def k1m4 : Method := { name := "letter", desc := "(CII)C", sig := { parameters := [.char, .int, .int], returnType := some .char }, accessFlags := 10, code := some k1c4 }
/-- com/example/hfields/hfields/LinkCutHasFieldsPinLaw -/
def k1 : Class := { plain "com/example/hfields/hfields/LinkCutHasFieldsPinLaw" (some 0) with
  accessFlags := 49
  interfaces := #[]
  cf := some (fileOf pool1 8 #[] #[{ accessFlags := 1, nameIndex := 5, descriptorIndex := 6, attributes := #[] }, { accessFlags := 9, nameIndex := 36, descriptorIndex := 37, attributes := #[] }, { accessFlags := 10, nameIndex := 11, descriptorIndex := 12, attributes := #[] }, { accessFlags := 10, nameIndex := 15, descriptorIndex := 12, attributes := #[] }, { accessFlags := 10, nameIndex := 18, descriptorIndex := 19, attributes := #[] }] 49 2 #[] #[])
  fields := #[]
  methods := #[k1m0, k1m1, k1m2, k1m3, k1m4]
  instanceTypes := #[]
  staticTypes := #[]
  resolved := Array.replicate 43 none
  statics := none }

def pool2 : Array CpInfo := pool [(1, .methodref 2 3), (0, .class_ 4), (0, .nameAndType 5 6), (0, u "java/lang/Object"), (0, u "<init>"), (0, u "()V"), (0, .methodref 8 9), (0, .class_ 10), (0, .nameAndType 11 12), (0, u "com/example/hfields/hfields/LinkCut"), (0, u "isMailto"), (0, u "(Ljava/lang/String;)Z"), (6, u "(Ljava/lang/String;)V"), (0, .methodref 21 22), (0, .class_ 23), (0, .nameAndType 24 25), (0, u "java/lang/String"), (0, u "length"), (0, u "()I"), (0, .methodref 21 27), (0, .nameAndType 28 29), (0, u "charAt"), (0, u "(I)C"), (0, .methodref 8 31), (0, .nameAndType 32 33), (0, u "isBlank"), (0, u "(C)Z"), (0, .fieldref 8 35), (0, .nameAndType 36 37), (0, u "link"), (0, u "Ljava/lang/String;"), (0, .methodref 8 39), (0, .nameAndType 40 41), (0, u "skipBlanks"), (0, u "(Ljava/lang/String;)I"), (0, .string 43), (0, u "mailto:"), (0, .fieldref 8 45), (0, .nameAndType 46 47), (0, u "addressStart"), (0, u "I"), (0, .fieldref 8 49), (0, .nameAndType 50 47), (0, u "trimmedEnd"), (0, .methodref 8 52), (0, .nameAndType 53 54), (0, u "indexOf"), (0, u "(Ljava/lang/String;CII)I"), (0, .fieldref 8 56), (0, .nameAndType 57 47), (0, u "end"), (0, .fieldref 8 59), (0, .nameAndType 60 47), (0, u "addressEnd"), (0, .methodref 8 62), (0, .nameAndType 63 64), (0, u "hasSchemeAt"), (0, u "(Ljava/lang/String;I)Z"), (2, u "hasFields"), (0, u "()Z"), (1, .class_ 72), (1, u "com/example/hfields/hfields/LinkCut$FieldVisitor"), (2, u "SCHEME")] 12

def k2c0 : Code := { maxStack := 5, maxLocals := 3, code := prog_23_method_1_code, exceptionTable := #[], attributes := #[] }
def k2m0 : Method := { name := "<init>", desc := "(Ljava/lang/String;)V", sig := { parameters := [(.object "java/lang/String")], returnType := none }, accessFlags := 0, code := some k2c0 }
def k2c1 : Code := { maxStack := 2, maxLocals := 1, code := prog_23_method_2_code, exceptionTable := #[], attributes := #[] }
def k2m1 : Method := { name := "isMailto", desc := "(Ljava/lang/String;)Z", sig := { parameters := [(.object "java/lang/String")], returnType := some .boolean }, accessFlags := 8, code := some k2c1 }
def k2c2 : Code := { maxStack := 3, maxLocals := 5, code := prog_23_method_3_code, exceptionTable := #[], attributes := #[] }
def k2m2 : Method := { name := "hasSchemeAt", desc := "(Ljava/lang/String;I)Z", sig := { parameters := [(.object "java/lang/String"), .int], returnType := some .boolean }, accessFlags := 8, code := some k2c2 }
def k2c3 : Code := { maxStack := 2, maxLocals := 1, code := prog_23_method_8_code, exceptionTable := #[], attributes := #[] }
def k2m3 : Method := { name := "hasFields", desc := "()Z", sig := { parameters := [], returnType := some .boolean }, accessFlags := 0, code := some k2c3 }
def k2c4 : Code := { maxStack := 2, maxLocals := 5, code := prog_23_method_11_code, exceptionTable := #[], attributes := #[] }
def k2m4 : Method := { name := "indexOf", desc := "(Ljava/lang/String;CII)I", sig := { parameters := [(.object "java/lang/String"), .char, .int, .int], returnType := some .int }, accessFlags := 10, code := some k2c4 }
def k2c5 : Code := { maxStack := 2, maxLocals := 2, code := prog_23_method_12_code, exceptionTable := #[], attributes := #[] }
def k2m5 : Method := { name := "skipBlanks", desc := "(Ljava/lang/String;)I", sig := { parameters := [(.object "java/lang/String")], returnType := some .int }, accessFlags := 10, code := some k2c5 }
def k2c6 : Code := { maxStack := 2, maxLocals := 1, code := prog_23_method_13_code, exceptionTable := #[], attributes := #[] }
def k2m6 : Method := { name := "isBlank", desc := "(C)Z", sig := { parameters := [.char], returnType := some .boolean }, accessFlags := 10, code := some k2c6 }
/-- com/example/hfields/hfields/LinkCut -/
def k2 : Class := { plain "com/example/hfields/hfields/LinkCut" (some 0) with
  accessFlags := 32
  interfaces := #[]
  cf := some (fileOf pool2 8 #[.nestMembers #[70]] #[{ accessFlags := 0, nameIndex := 5, descriptorIndex := 19, attributes := #[] }, { accessFlags := 8, nameIndex := 11, descriptorIndex := 12, attributes := #[] }, { accessFlags := 8, nameIndex := 63, descriptorIndex := 64, attributes := #[] }, { accessFlags := 0, nameIndex := 67, descriptorIndex := 68, attributes := #[] }, { accessFlags := 10, nameIndex := 53, descriptorIndex := 54, attributes := #[] }, { accessFlags := 10, nameIndex := 40, descriptorIndex := 41, attributes := #[] }, { accessFlags := 10, nameIndex := 32, descriptorIndex := 33, attributes := #[] }] 32 2 #[] #[{ accessFlags := 24, nameIndex := 75, descriptorIndex := 37, attributes := #[] }, { accessFlags := 18, nameIndex := 36, descriptorIndex := 37, attributes := #[] }, { accessFlags := 18, nameIndex := 46, descriptorIndex := 47, attributes := #[] }, { accessFlags := 18, nameIndex := 60, descriptorIndex := 47, attributes := #[] }, { accessFlags := 18, nameIndex := 57, descriptorIndex := 47, attributes := #[] }, { accessFlags := 18, nameIndex := 50, descriptorIndex := 47, attributes := #[] }])
  fields := #[{ name := "SCHEME", type := (.object "java/lang/String"), accessFlags := 24, slot := 0, constantValue := 0 }, { name := "link", type := (.object "java/lang/String"), accessFlags := 18, slot := 0, constantValue := 0 }, { name := "addressStart", type := .int, accessFlags := 18, slot := 1, constantValue := 0 }, { name := "addressEnd", type := .int, accessFlags := 18, slot := 2, constantValue := 0 }, { name := "end", type := .int, accessFlags := 18, slot := 3, constantValue := 0 }, { name := "trimmedEnd", type := .int, accessFlags := 18, slot := 4, constantValue := 0 }]
  methods := #[k2m0, k2m1, k2m2, k2m3, k2m4, k2m5, k2m6]
  instanceTypes := #[(.object "java/lang/String"), .int, .int, .int, .int]
  staticTypes := #[(.object "java/lang/String")]
  resolved := Array.replicate 88 none
  statics := none }

def pool3 : Array CpInfo := pool [(1, .class_ 2), (0, u "java/io/Serializable"), (0, .class_ 4), (0, u "java/lang/Object")] 2

/-- java/io/Serializable -/
def k3 : Class := { plain "java/io/Serializable" (some 0) with
  accessFlags := 1537
  interfaces := #[]
  cf := some (fileOf pool3 1 #[] #[] 1537 3 #[] #[])
  fields := #[]
  methods := #[]
  instanceTypes := #[]
  staticTypes := #[]
  resolved := Array.replicate 7 none
  statics := none }

def pool4 : Array CpInfo := pool [(1, .class_ 2), (0, u "java/lang/Comparable"), (0, .class_ 4), (0, u "java/lang/Object")] 7

/-- java/lang/Comparable -/
def k4 : Class := { plain "java/lang/Comparable" (some 0) with
  accessFlags := 1537
  interfaces := #[]
  cf := some (fileOf pool4 1 #[] #[] 1537 3 #[] #[])
  fields := #[]
  methods := #[]
  instanceTypes := #[]
  staticTypes := #[]
  resolved := Array.replicate 12 none
  statics := none }

def pool5 : Array CpInfo := pool [(2, .class_ 4), (1, u "java/lang/CharSequence"), (42, .class_ 48), (0, u "java/lang/CharSequence$1CodePointIterator"), (10, .class_ 60), (0, u "java/lang/CharSequence$1CharIterator"), (5, .class_ 67), (0, u "java/lang/Object")] 63

/-- java/lang/CharSequence -/
def k5 : Class := { plain "java/lang/CharSequence" (some 0) with
  accessFlags := 1537
  interfaces := #[]
  cf := some (fileOf pool5 2 #[.nestMembers #[47, 59]] #[] 1537 66 #[] #[])
  fields := #[]
  methods := #[]
  instanceTypes := #[]
  staticTypes := #[]
  resolved := Array.replicate 131 none
  statics := none }

def pool6 : Array CpInfo := pool [(1, .class_ 2), (0, u "java/lang/constant/Constable"), (0, .class_ 4), (0, u "java/lang/Object")] 6

/-- java/lang/constant/Constable -/
def k6 : Class := { plain "java/lang/constant/Constable" (some 0) with
  accessFlags := 1537
  interfaces := #[]
  cf := some (fileOf pool6 1 #[] #[] 1537 3 #[] #[])
  fields := #[]
  methods := #[]
  instanceTypes := #[]
  staticTypes := #[]
  resolved := Array.replicate 11 none
  statics := none }

def pool7 : Array CpInfo := pool [(1, .class_ 2), (0, u "java/lang/constant/ConstantDesc"), (0, .class_ 4), (0, u "java/lang/Object")] 32

/-- java/lang/constant/ConstantDesc -/
def k7 : Class := { plain "java/lang/constant/ConstantDesc" (some 0) with
  accessFlags := 1537
  interfaces := #[]
  cf := some (fileOf pool7 1 #[] #[] 1537 3 #[] #[])
  fields := #[]
  methods := #[]
  instanceTypes := #[]
  staticTypes := #[]
  resolved := Array.replicate 37 none
  statics := none }

def pool8 : Array CpInfo := pool [(1, .methodref 2 3), (0, .class_ 4), (0, .nameAndType 5 6), (0, u "java/lang/Object"), (0, u "<init>"), (0, u "()V"), (2, .fieldref 10 11), (0, .class_ 12), (0, .nameAndType 13 14), (0, u "java/lang/String"), (0, u "value"), (0, u "[B"), (0, .fieldref 10 16), (0, .nameAndType 17 18), (0, u "coder"), (0, u "B"), (2, u "hash"), (0, u "I"), (2, u "hashIsZero"), (0, u "Z"), (0, .methodref 10 28), (0, .nameAndType 5 29), (0, u "([CIILjava/lang/Void;)V"), (8, .fieldref 10 39), (0, .nameAndType 40 26), (0, u "COMPACT_STRINGS"), (1, .class_ 44), (1, u "java/lang/StringUTF16"), (0, u "compress"), (1, .methodref 42 48), (0, .nameAndType 49 50), (0, u "coderFromArrayLen"), (0, u "([BI)B"), (56, .class_ 109), (1, u "java/lang/StringLatin1"), (32, u "()Z"), (34, .methodref 42 178), (0, .nameAndType 45 179), (0, u "([CII)[B"), (154, u "()I"), (0, .methodref 10 336), (0, .nameAndType 17 337), (0, u "()B"), (25, u "([BI)C"), (27, u "(II)V"), (35, u "(I)C"), (64, .methodref 10 493), (0, .nameAndType 494 142), (0, u "isLatin1"), (0, .methodref 107 496), (0, .nameAndType 497 363), (0, u "charAt"), (3, u "checkIndex"), (5, u "length"), (67, .class_ 576), (0, u "java/lang/CharSequence"), (22, u "CASE_INSENSITIVE_ORDER"), (0, u "Ljava/util/Comparator;"), (409, u "([C)V"), (42, .fieldref 1054 1055), (0, .class_ 1056), (0, .nameAndType 1057 1058), (0, u "jdk/internal/util/Preconditions"), (0, u "SIOOBE_FORMATTER"), (0, u "Ljava/util/function/BiFunction;"), (0, .methodref 1054 1060), (0, .nameAndType 501 1061), (0, u "(IILjava/util/function/BiFunction;)I"), (39, u "serialPersistentFields"), (0, u "[Ljava/io/ObjectStreamField;"), (0, .class_ 1104), (0, u "java/lang/String$CaseInsensitiveComparator"), (1, .class_ 1107), (0, u "java/io/Serializable"), (0, .class_ 1109), (0, u "java/lang/Comparable"), (0, .class_ 1111), (0, u "java/lang/constant/Constable"), (0, .class_ 1113), (0, u "java/lang/constant/ConstantDesc"), (2, u "serialVersionUID"), (0, u "J"), (3, u "REPL"), (0, u "C"), (2, u "LATIN1"), (1, u "UTF16")] 323

def k8m0 : Method := { name := "<init>", desc := "()V", sig := { parameters := [], returnType := none }, accessFlags := 1, code := none }
def k8c1 : Code := { maxStack := 5, maxLocals := 2, code := jdk_42_method_3_code, exceptionTable := #[], attributes := #[] }
def k8m1 : Method := { name := "<init>", desc := "([C)V", sig := { parameters := [(.array .char)], returnType := none }, accessFlags := 1, code := some k8c1 }
def k8c2 : Code := { maxStack := 2, maxLocals := 1, code := jdk_42_method_54_code, exceptionTable := #[], attributes := #[] }
def k8m2 : Method := { name := "length", desc := "()I", sig := { parameters := [], returnType := some .int }, accessFlags := 1, code := some k8c2 }
def k8c3 : Code := { maxStack := 2, maxLocals := 2, code := jdk_42_method_56_code, exceptionTable := #[], attributes := #[] }
def k8m3 : Method := { name := "charAt", desc := "(I)C", sig := { parameters := [.int], returnType := some .char }, accessFlags := 1, code := some k8c3 }
def k8c4 : Code := { maxStack := 4, maxLocals := 6, code := jdk_42_method_149_code, exceptionTable := #[], attributes := #[] }
def k8m4 : Method := { name := "<init>", desc := "([CIILjava/lang/Void;)V", sig := { parameters := [(.array .char), .int, .int, (.object "java/lang/Void")], returnType := none }, accessFlags := 2, code := some k8c4 }
def k8c5 : Code := { maxStack := 1, maxLocals := 1, code := jdk_42_method_152_code, exceptionTable := #[], attributes := #[] }
def k8m5 : Method := { name := "coder", desc := "()B", sig := { parameters := [], returnType := some .byte }, accessFlags := 0, code := some k8c5 }
def k8c6 : Code := { maxStack := 1, maxLocals := 1, code := jdk_42_method_154_code, exceptionTable := #[], attributes := #[] }
def k8m6 : Method := { name := "isLatin1", desc := "()Z", sig := { parameters := [], returnType := some .boolean }, accessFlags := 0, code := some k8c6 }
def k8c7 : Code := { maxStack := 3, maxLocals := 2, code := jdk_42_method_155_code, exceptionTable := #[], attributes := #[] }
def k8m7 : Method := { name := "checkIndex", desc := "(II)V", sig := { parameters := [.int, .int], returnType := none }, accessFlags := 8, code := some k8c7 }
/-- java/lang/String -/
def k8 : Class := { plain "java/lang/String" (some 0) with
  accessFlags := 49
  interfaces := #[3, 4, 5, 6, 7]
  cf := some (fileOf pool8 10 #[.nestMembers #[1103]] #[{ accessFlags := 1, nameIndex := 5, descriptorIndex := 6, attributes := #[] }, { accessFlags := 1, nameIndex := 5, descriptorIndex := 1010, attributes := #[] }, { accessFlags := 1, nameIndex := 507, descriptorIndex := 334, attributes := #[] }, { accessFlags := 1, nameIndex := 497, descriptorIndex := 427, attributes := #[] }, { accessFlags := 2, nameIndex := 5, descriptorIndex := 29, attributes := #[] }, { accessFlags := 0, nameIndex := 17, descriptorIndex := 337, attributes := #[] }, { accessFlags := 0, nameIndex := 494, descriptorIndex := 142, attributes := #[] }, { accessFlags := 8, nameIndex := 501, descriptorIndex := 391, attributes := #[] }] 49 2 #[1106, 1108, 575, 1110, 1112] #[{ accessFlags := 18, nameIndex := 13, descriptorIndex := 14, attributes := #[] }, { accessFlags := 18, nameIndex := 17, descriptorIndex := 18, attributes := #[] }, { accessFlags := 2, nameIndex := 21, descriptorIndex := 22, attributes := #[] }, { accessFlags := 2, nameIndex := 25, descriptorIndex := 26, attributes := #[] }, { accessFlags := 26, nameIndex := 1116, descriptorIndex := 1117, attributes := #[] }, { accessFlags := 24, nameIndex := 40, descriptorIndex := 26, attributes := #[] }, { accessFlags := 26, nameIndex := 1101, descriptorIndex := 1102, attributes := #[] }, { accessFlags := 26, nameIndex := 1121, descriptorIndex := 1122, attributes := #[] }, { accessFlags := 25, nameIndex := 599, descriptorIndex := 600, attributes := #[] }, { accessFlags := 24, nameIndex := 1125, descriptorIndex := 18, attributes := #[] }, { accessFlags := 24, nameIndex := 1127, descriptorIndex := 18, attributes := #[] }])
  fields := #[{ name := "value", type := (.array .byte), accessFlags := 18, slot := 0, constantValue := 0 }, { name := "coder", type := .byte, accessFlags := 18, slot := 1, constantValue := 0 }, { name := "hash", type := .int, accessFlags := 2, slot := 2, constantValue := 0 }, { name := "hashIsZero", type := .boolean, accessFlags := 2, slot := 3, constantValue := 0 }, { name := "serialVersionUID", type := .long, accessFlags := 26, slot := 0, constantValue := 0 }, { name := "COMPACT_STRINGS", type := .boolean, accessFlags := 24, slot := 1, constantValue := 0 }, { name := "serialPersistentFields", type := (.array (.object "java/io/ObjectStreamField")), accessFlags := 26, slot := 2, constantValue := 0 }, { name := "REPL", type := .char, accessFlags := 26, slot := 3, constantValue := 0 }, { name := "CASE_INSENSITIVE_ORDER", type := (.object "java/util/Comparator"), accessFlags := 25, slot := 4, constantValue := 0 }, { name := "LATIN1", type := .byte, accessFlags := 24, slot := 5, constantValue := 0 }, { name := "UTF16", type := .byte, accessFlags := 24, slot := 6, constantValue := 0 }]
  methods := #[k8m0, k8m1, k8m2, k8m3, k8m4, k8m5, k8m6, k8m7]
  instanceTypes := #[(.array .byte), .byte, .int, .boolean]
  staticTypes := #[.long, .boolean, (.array (.object "java/io/ObjectStreamField")), .char, (.object "java/util/Comparator"), .byte, .byte]
  resolved := Array.replicate 1451 none
  statics := some 0 }

def pool9 : Array CpInfo := pool [(6, .class_ 8), (1, u "java/lang/Object"), (0, u "<init>"), (0, u "()V"), (1, .class_ 14), (1, u "java/lang/StringUTF16"), (31, u "$assertionsDisabled"), (0, u "Z"), (13, u "HI_BYTE_SHIFT"), (0, u "I"), (2, u "LO_BYTE_SHIFT"), (49, .methodref 12 116), (0, .nameAndType 117 118), (0, u "compress"), (0, u "([CI[BII)I"), (3, u "([CII)[B"), (138, u "coderFromArrayLen"), (0, u "([BI)B"), (106, .class_ 371), (1, u "java/lang/StringUTF16$LinesSpliterator"), (58, u "MAX_LENGTH"), (196, .class_ 628), (0, u "java/lang/StringUTF16$CodePointsSpliterator"), (0, .class_ 630), (0, u "java/lang/StringUTF16$CharsSpliterator")] 4

def k9m0 : Method := { name := "<init>", desc := "()V", sig := { parameters := [], returnType := none }, accessFlags := 0, code := none }
def k9c1 : Code := { maxStack := 2, maxLocals := 2, code := jdk_52_method_15_code, exceptionTable := #[], attributes := #[] }
def k9m1 : Method := { name := "coderFromArrayLen", desc := "([BI)B", sig := { parameters := [(.array .byte), .int], returnType := some .byte }, accessFlags := 8, code := some k9c1 }
def k9c2 : Code := { maxStack := 5, maxLocals := 6, code := jdk_52_method_16_code, exceptionTable := #[], attributes := #[] }
def k9m2 : Method := { name := "compress", desc := "([CII)[B", sig := { parameters := [(.array .char), .int, .int], returnType := some (.array .byte) }, accessFlags := 9, code := some k9c2 }
def k9c3 : Code := { maxStack := 3, maxLocals := 7, code := jdk_52_method_21_code, exceptionTable := #[], attributes := #[] }
def k9m3 : Method := { name := "compress", desc := "([CI[BII)I", sig := { parameters := [(.array .char), .int, (.array .byte), .int, .int], returnType := some .int }, accessFlags := 9, code := some k9c3 }
/-- java/lang/StringUTF16 -/
def k9 : Class := { plain "java/lang/StringUTF16" (some 0) with
  accessFlags := 48
  interfaces := #[]
  cf := some (fileOf pool9 12 #[.nestMembers #[627, 629, 369]] #[{ accessFlags := 0, nameIndex := 9, descriptorIndex := 10, attributes := #[] }, { accessFlags := 8, nameIndex := 261, descriptorIndex := 262, attributes := #[] }, { accessFlags := 9, nameIndex := 117, descriptorIndex := 122, attributes := #[] }, { accessFlags := 9, nameIndex := 117, descriptorIndex := 118, attributes := #[] }] 48 6 #[] #[{ accessFlags := 26, nameIndex := 61, descriptorIndex := 62, attributes := #[] }, { accessFlags := 26, nameIndex := 65, descriptorIndex := 62, attributes := #[] }, { accessFlags := 24, nameIndex := 430, descriptorIndex := 62, attributes := #[] }, { accessFlags := 4120, nameIndex := 46, descriptorIndex := 47, attributes := #[] }])
  fields := #[{ name := "HI_BYTE_SHIFT", type := .int, accessFlags := 26, slot := 0, constantValue := 0 }, { name := "LO_BYTE_SHIFT", type := .int, accessFlags := 26, slot := 1, constantValue := 0 }, { name := "MAX_LENGTH", type := .int, accessFlags := 24, slot := 2, constantValue := 0 }, { name := "$assertionsDisabled", type := .boolean, accessFlags := 4120, slot := 3, constantValue := 0 }]
  methods := #[k9m0, k9m1, k9m2, k9m3]
  instanceTypes := #[]
  staticTypes := #[.int, .int, .int, .boolean]
  resolved := Array.replicate 635 none
  statics := none }

def pool10 : Array CpInfo := pool [(1, .class_ 2), (0, u "java/lang/String"), (1, .class_ 6), (1, u "java/lang/Object"), (0, u "<init>"), (0, u "()V"), (0, .methodref 1 10), (0, .nameAndType 11 12), (0, u "checkIndex"), (0, u "(II)V"), (1, .class_ 16), (1, u "java/lang/StringLatin1"), (36, u "([BI)C"), (67, u "$assertionsDisabled"), (0, u "Z"), (98, .class_ 223), (1, u "java/lang/StringLatin1$LinesSpliterator"), (28, u "charAt"), (137, .class_ 391), (0, u "java/lang/StringLatin1$CharsSpliterator")] 3

def k10m0 : Method := { name := "<init>", desc := "()V", sig := { parameters := [], returnType := none }, accessFlags := 0, code := none }
def k10c1 : Code := { maxStack := 2, maxLocals := 2, code := jdk_43_method_2_code, exceptionTable := #[], attributes := #[] }
def k10m1 : Method := { name := "charAt", desc := "([BI)C", sig := { parameters := [(.array .byte), .int], returnType := some .char }, accessFlags := 9, code := some k10c1 }
/-- java/lang/StringLatin1 -/
def k10 : Class := { plain "java/lang/StringLatin1" (some 0) with
  accessFlags := 48
  interfaces := #[]
  cf := some (fileOf pool10 14 #[.nestMembers #[390, 221]] #[{ accessFlags := 0, nameIndex := 7, descriptorIndex := 8, attributes := #[] }, { accessFlags := 9, nameIndex := 252, descriptorIndex := 53, attributes := #[] }] 48 4 #[] #[{ accessFlags := 4120, nameIndex := 121, descriptorIndex := 122, attributes := #[] }])
  fields := #[{ name := "$assertionsDisabled", type := .boolean, accessFlags := 4120, slot := 0, constantValue := 0 }]
  methods := #[k10m0, k10m1]
  instanceTypes := #[]
  staticTypes := #[.boolean]
  resolved := Array.replicate 395 none
  statics := none }

def pool11 : Array CpInfo := pool [(2, .class_ 4), (1, u "java/lang/Object"), (0, u "<init>"), (0, u "()V"), (17, .class_ 26), (1, u "jdk/internal/util/Preconditions"), (6, u "checkIndex"), (21, .class_ 56), (0, u "jdk/internal/util/Preconditions$4"), (57, .class_ 115), (0, u "jdk/internal/util/Preconditions$1"), (7, u "SIOOBE_FORMATTER"), (0, u "Ljava/util/function/BiFunction;"), (0, .class_ 126), (0, u "jdk/internal/util/Preconditions$2"), (3, u "AIOOBE_FORMATTER"), (0, .class_ 132), (0, u "jdk/internal/util/Preconditions$3"), (3, u "IOOBE_FORMATTER"), (41, u "(IILjava/util/function/BiFunction;)I")] 15

def k11m0 : Method := { name := "<init>", desc := "()V", sig := { parameters := [], returnType := none }, accessFlags := 1, code := none }
def k11c1 : Code := { maxStack := 3, maxLocals := 3, code := jdk_41_method_11_code, exceptionTable := #[], attributes := #[] }
def k11m1 : Method := { name := "checkIndex", desc := "(IILjava/util/function/BiFunction;)I", sig := { parameters := [.int, .int, (.object "java/util/function/BiFunction")], returnType := some .int }, accessFlags := 9, code := some k11c1 }
/-- jdk/internal/util/Preconditions -/
def k11 : Class := { plain "jdk/internal/util/Preconditions" (some 0) with
  accessFlags := 33
  interfaces := #[]
  cf := some (fileOf pool11 24 #[.nestMembers #[55, 131, 125, 114]] #[{ accessFlags := 1, nameIndex := 5, descriptorIndex := 6, attributes := #[] }, { accessFlags := 9, nameIndex := 33, descriptorIndex := 178, attributes := #[] }] 33 2 #[] #[{ accessFlags := 25, nameIndex := 123, descriptorIndex := 124, attributes := #[] }, { accessFlags := 25, nameIndex := 130, descriptorIndex := 124, attributes := #[] }, { accessFlags := 25, nameIndex := 136, descriptorIndex := 124, attributes := #[] }])
  fields := #[{ name := "SIOOBE_FORMATTER", type := (.object "java/util/function/BiFunction"), accessFlags := 25, slot := 0, constantValue := 0 }, { name := "AIOOBE_FORMATTER", type := (.object "java/util/function/BiFunction"), accessFlags := 25, slot := 1, constantValue := 0 }, { name := "IOOBE_FORMATTER", type := (.object "java/util/function/BiFunction"), accessFlags := 25, slot := 2, constantValue := 0 }]
  methods := #[k11m0, k11m1]
  instanceTypes := #[]
  staticTypes := #[(.object "java/util/function/BiFunction"), (.object "java/util/function/BiFunction"), (.object "java/util/function/BiFunction")]
  resolved := Array.replicate 194 none
  statics := some 1 }

def pool12 : Array CpInfo := pool [(9, u "<init>"), (6, .class_ 18), (1, u "java/lang/Object"), (0, u "()V"), (1, .class_ 23), (1, u "jdk/internal/util/ArraysSupport"), (0, u "LOG2_ARRAY_LONG_INDEX_SCALE"), (0, u "I"), (2, u "U"), (0, u "Ljdk/internal/misc/Unsafe;"), (8, u "BIG_ENDIAN"), (0, u "Z"), (8, u "LOG2_BYTE_BIT_SIZE"), (4, u "LOG2_ARRAY_INT_INDEX_SCALE"), (54, u "JLA"), (0, u "Ljdk/internal/access/JavaLangAccess;"), (11, u "LOG2_ARRAY_BOOLEAN_INDEX_SCALE"), (9, u "LOG2_ARRAY_BYTE_INDEX_SCALE"), (5, u "LOG2_ARRAY_CHAR_INDEX_SCALE"), (5, u "LOG2_ARRAY_SHORT_INDEX_SCALE"), (18, u "LOG2_ARRAY_FLOAT_INDEX_SCALE"), (24, u "LOG2_ARRAY_DOUBLE_INDEX_SCALE"), (89, u "T_BOOLEAN"), (2, u "T_CHAR"), (1, u "T_FLOAT"), (1, u "T_DOUBLE"), (1, u "T_BYTE"), (1, u "T_SHORT"), (1, u "T_INT"), (1, u "T_LONG"), (1, u "SOFT_MAX_ARRAY_LENGTH")] 83

def k12m0 : Method := { name := "<init>", desc := "()V", sig := { parameters := [], returnType := none }, accessFlags := 2, code := none }
/-- jdk/internal/util/ArraysSupport -/
def k12 : Class := { plain "jdk/internal/util/ArraysSupport" (some 0) with
  accessFlags := 33
  interfaces := #[]
  cf := some (fileOf pool12 21 #[] #[{ accessFlags := 2, nameIndex := 9, descriptorIndex := 19, attributes := #[] }] 33 16 #[] #[{ accessFlags := 24, nameIndex := 28, descriptorIndex := 29, attributes := #[] }, { accessFlags := 26, nameIndex := 38, descriptorIndex := 39, attributes := #[] }, { accessFlags := 25, nameIndex := 121, descriptorIndex := 25, attributes := #[] }, { accessFlags := 25, nameIndex := 131, descriptorIndex := 25, attributes := #[] }, { accessFlags := 25, nameIndex := 137, descriptorIndex := 25, attributes := #[] }, { accessFlags := 25, nameIndex := 143, descriptorIndex := 25, attributes := #[] }, { accessFlags := 25, nameIndex := 53, descriptorIndex := 25, attributes := #[] }, { accessFlags := 25, nameIndex := 24, descriptorIndex := 25, attributes := #[] }, { accessFlags := 25, nameIndex := 162, descriptorIndex := 25, attributes := #[] }, { accessFlags := 25, nameIndex := 187, descriptorIndex := 25, attributes := #[] }, { accessFlags := 26, nameIndex := 48, descriptorIndex := 25, attributes := #[] }, { accessFlags := 25, nameIndex := 277, descriptorIndex := 25, attributes := #[] }, { accessFlags := 25, nameIndex := 280, descriptorIndex := 25, attributes := #[] }, { accessFlags := 25, nameIndex := 282, descriptorIndex := 25, attributes := #[] }, { accessFlags := 25, nameIndex := 284, descriptorIndex := 25, attributes := #[] }, { accessFlags := 25, nameIndex := 286, descriptorIndex := 25, attributes := #[] }, { accessFlags := 25, nameIndex := 288, descriptorIndex := 25, attributes := #[] }, { accessFlags := 25, nameIndex := 290, descriptorIndex := 25, attributes := #[] }, { accessFlags := 25, nameIndex := 292, descriptorIndex := 25, attributes := #[] }, { accessFlags := 26, nameIndex := 108, descriptorIndex := 109, attributes := #[] }, { accessFlags := 25, nameIndex := 294, descriptorIndex := 25, attributes := #[] }])
  fields := #[{ name := "U", type := (.object "jdk/internal/misc/Unsafe"), accessFlags := 24, slot := 0, constantValue := 0 }, { name := "BIG_ENDIAN", type := .boolean, accessFlags := 26, slot := 1, constantValue := 0 }, { name := "LOG2_ARRAY_BOOLEAN_INDEX_SCALE", type := .int, accessFlags := 25, slot := 2, constantValue := 0 }, { name := "LOG2_ARRAY_BYTE_INDEX_SCALE", type := .int, accessFlags := 25, slot := 3, constantValue := 0 }, { name := "LOG2_ARRAY_CHAR_INDEX_SCALE", type := .int, accessFlags := 25, slot := 4, constantValue := 0 }, { name := "LOG2_ARRAY_SHORT_INDEX_SCALE", type := .int, accessFlags := 25, slot := 5, constantValue := 0 }, { name := "LOG2_ARRAY_INT_INDEX_SCALE", type := .int, accessFlags := 25, slot := 6, constantValue := 0 }, { name := "LOG2_ARRAY_LONG_INDEX_SCALE", type := .int, accessFlags := 25, slot := 7, constantValue := 0 }, { name := "LOG2_ARRAY_FLOAT_INDEX_SCALE", type := .int, accessFlags := 25, slot := 8, constantValue := 0 }, { name := "LOG2_ARRAY_DOUBLE_INDEX_SCALE", type := .int, accessFlags := 25, slot := 9, constantValue := 0 }, { name := "LOG2_BYTE_BIT_SIZE", type := .int, accessFlags := 26, slot := 10, constantValue := 0 }, { name := "T_BOOLEAN", type := .int, accessFlags := 25, slot := 11, constantValue := 0 }, { name := "T_CHAR", type := .int, accessFlags := 25, slot := 12, constantValue := 0 }, { name := "T_FLOAT", type := .int, accessFlags := 25, slot := 13, constantValue := 0 }, { name := "T_DOUBLE", type := .int, accessFlags := 25, slot := 14, constantValue := 0 }, { name := "T_BYTE", type := .int, accessFlags := 25, slot := 15, constantValue := 0 }, { name := "T_SHORT", type := .int, accessFlags := 25, slot := 16, constantValue := 0 }, { name := "T_INT", type := .int, accessFlags := 25, slot := 17, constantValue := 0 }, { name := "T_LONG", type := .int, accessFlags := 25, slot := 18, constantValue := 0 }, { name := "JLA", type := (.object "jdk/internal/access/JavaLangAccess"), accessFlags := 26, slot := 19, constantValue := 0 }, { name := "SOFT_MAX_ARRAY_LENGTH", type := .int, accessFlags := 25, slot := 20, constantValue := 0 }]
  methods := #[k12m0]
  instanceTypes := #[]
  staticTypes := #[(.object "jdk/internal/misc/Unsafe"), .boolean, .int, .int, .int, .int, .int, .int, .int, .int, .int, .int, .int, .int, .int, .int, .int, .int, .int, (.object "jdk/internal/access/JavaLangAccess"), .int]
  resolved := Array.replicate 378 none
  statics := none }

def pool13 : Array CpInfo := pool [(1, u "java/lang/Cloneable"), (0, .class_ 1), (0, u "java/lang/Object"), (0, .class_ 3)] 3

/-- java/lang/Cloneable -/
def k13 : Class := { plain "java/lang/Cloneable" (some 0) with
  accessFlags := 1537
  interfaces := #[]
  cf := some (fileOf pool13 2 #[] #[] 1537 4 #[] #[])
  fields := #[]
  methods := #[]
  instanceTypes := #[]
  staticTypes := #[]
  resolved := Array.replicate 8 none
  statics := none }

/-- the primitive byte -/
def k14 : Class := { plain "byte" none with kind := .primitive 'B', accessFlags := 0x411 }
/-- [B -/
def k15 : Class := { plain "[B" (some 0) with kind := .array 14 .byte, interfaces := #[13, 3], accessFlags := 1041 }

/-- the primitive char -/
def k16 : Class := { plain "char" none with kind := .primitive 'C', accessFlags := 0x411 }
/-- [C -/
def k17 : Class := { plain "[C" (some 0) with kind := .array 16 .char, interfaces := #[13, 3], accessFlags := 1041 }

/-- the primitive int -/
def k18 : Class := { plain "int" none with kind := .primitive 'I', accessFlags := 0x411 }
/-- [I -/
def k19 : Class := { plain "[I" (some 0) with kind := .array 18 .int, interfaces := #[13, 3], accessFlags := 1041 }

def heap : Heap := #[{ cls := 8, slots := #[.long 0, .int 1, .null, .int 0, .null, .int 0, .int 0], vm := .statics 8 },
  { cls := 11, slots := #[.null, .null, .null], vm := .statics 11 }]
def classes : Array Class := #[k0, k1, k2, k3, k4, k5, k6, k7, k8, k9, k10, k11, k12, k13, k14, k15, k16, k17, k18, k19]
def interned : List (Array UInt16 × Addr) := []
def slotsUsed : Nat := 10
def theMethod : MethodId := ⟨1, 1⟩
def args0 : Array Value := #[.int 1, .int 2, .int 3]
def aboutOver (below : List Frame) : State where
  vm := { classes := classes, interned := interned.toArray }
  heap := heap
  slotsUsed := slotsUsed
  threads := #[{ frames := .invoking theMethod args0 :: below }]
def below0 : List Frame := [.native { method := ⟨0, 0⟩, args := #[] }]
def about1 : State := aboutOver below0
def p0 : Program := .bare "" "" ""
def e0 : Env := launch0.env 0 0 0
theorem w_frames : about1.frames = Frame.invoking theMethod args0 :: below0 := rfl
set_option maxRecDepth 65536 in
theorem w_args : argsFit about1.vm theMethod args0 = true := by decide +kernel
set_option maxRecDepth 65536 in
theorem w_heap : heapFits about1 = true := by decide +kernel
set_option maxRecDepth 65536 in
theorem w_runnable : about1.curStatus? = some .runnable := by decide +kernel
set_option maxRecDepth 65536 in
theorem w_alone : about1.alone = true := by decide +kernel
set_option maxRecDepth 65536 in
theorem w_named : about1.methodNamed? x = some theMethod := by decide +kernel
set_option maxRecDepth 65536 in
theorem w_hears : about1.hears theMethod below0 = true := by decide +kernel
set_option maxRecDepth 65536 in
theorem w_ripe : about1.ripe theMethod args0 below0 = true := by decide +kernel
theorem w_running : about1.status = .running := rfl
set_option maxRecDepth 65536 in
theorem w_room : about1.hasRoom e0.platform room_1 = true :=
  launch0.hasRoom_least _ room_1 (by decide +kernel) (by decide +kernel) (by decide +kernel) (by decide +kernel) (by decide +kernel) (by decide +kernel)
theorem allAtoms_all (ts : List Jvm.Cond) (a : Array Jvm.Value) (st : Jvm.State) : (allAtoms ts).before a st = ts.all (fun c => c.before a st) := by
  induction ts with
  | nil => rfl
  | cons c t ih =>
    show (Jvm.Cond.and c (allAtoms t)).before a st = _
    rw [Jvm.Cond.before_and, ih, List.all_cons]
def words1 : List Jvm.Cond := Jvm.Cond.code x code maxLocals ret :: tables_1
/-- a 'code' word, met by the world's own term for the bytes: nothing is compared byte by byte -/
theorem code_word {y : MethodName} {bytes : ByteArray} {mx : Nat} {rt : Option FieldType} {a : Array Value} {s : State} {m : MethodId} {meth : Method} {c : Code} (h1 : s.methodNamed? y = some m) (h2 : s.vm.method? m = some meth) (h3 : meth.code = some c) (h4 : c.code = bytes)
    (h5 : (c.maxLocals == mx && c.exceptionTable.isEmpty && decide (c.maxStack ≤ mostOperands) && decide (meth.sig.returnType = rt) && !meth.locks && decide (parseMethodDescriptor y.desc = some meth.sig)) = true) : (Jvm.Cond.code y bytes mx rt).before a s = true := by
  simp only [Bool.and_eq_true, beq_iff_eq, Bool.not_eq_true', decide_eq_true_eq] at h5
  obtain ⟨⟨⟨⟨⟨g1, g2⟩, g3⟩, g4⟩, g5⟩, g6⟩ := h5
  simp [Cond.before, Cond.holds, Cond.value, h1, h2, h3, h4, g1, g2, g3, g4, g5, g6]
def isCode : Jvm.Cond → Bool
  | .code _ _ _ _ => true
  | _ => false
theorem all_split {L : List Jvm.Cond} {P : Jvm.Cond → Bool} (h1 : L.all (fun c => isCode c || P c) = true) (h2 : ∀ c ∈ L.filter isCode, P c = true) : L.all P = true := by
  refine List.all_eq_true.mpr fun c hc => ?_
  have h := List.all_eq_true.mp h1 c hc
  rcases Bool.eq_false_or_eq_true (isCode c) with hi | hi
  · exact h2 c (List.mem_filter.mpr ⟨hc, hi⟩)
  · simpa [hi] using h
set_option maxRecDepth 65536 in
theorem w_c0 : (Jvm.Cond.code x code maxLocals ret).before args0 about1 = true := code_word (m := ⟨1, 1⟩) (meth := k1m1) (c := k1c1) (by decide +kernel) rfl rfl rfl (by decide +kernel)
set_option maxRecDepth 65536 in
theorem w_c1 : (Jvm.Cond.code ({ cls := "com/example/hfields/hfields/LinkCutHasFieldsPinLaw", name := "pick", desc := "(I)C" } : Jvm.MethodName) method_3_code (3 : Nat) (Option.some Jvm.ClassFile.FieldType.char)).before args0 about1 = true := code_word (m := ⟨1, 2⟩) (meth := k1m2) (c := k1c2) (by decide +kernel) rfl rfl rfl (by decide +kernel)
set_option maxRecDepth 65536 in
theorem w_c2 : (Jvm.Cond.code ({ cls := "com/example/hfields/hfields/LinkCutHasFieldsPinLaw", name := "blankOf", desc := "(I)C" } : Jvm.MethodName) method_4_code (1 : Nat) (Option.some Jvm.ClassFile.FieldType.char)).before args0 about1 = true := code_word (m := ⟨1, 3⟩) (meth := k1m3) (c := k1c3) (by decide +kernel) rfl rfl rfl (by decide +kernel)
set_option maxRecDepth 65536 in
theorem w_c3 : (Jvm.Cond.code ({ cls := "com/example/hfields/hfields/LinkCutHasFieldsPinLaw", name := "letter", desc := "(CII)C" } : Jvm.MethodName) method_5_code (3 : Nat) (Option.some Jvm.ClassFile.FieldType.char)).before args0 about1 = true := code_word (m := ⟨1, 4⟩) (meth := k1m4) (c := k1c4) (by decide +kernel) rfl rfl rfl (by decide +kernel)
set_option maxRecDepth 65536 in
theorem w_c4 : (Jvm.Cond.code ({ cls := "java/lang/String", name := "<init>", desc := "([C)V" } : Jvm.MethodName) jdk_42_method_3_code (2 : Nat) (Option.none : Option Jvm.ClassFile.FieldType)).before args0 about1 = true := code_word (m := ⟨8, 1⟩) (meth := k8m1) (c := k8c1) (by decide +kernel) rfl rfl rfl (by decide +kernel)
set_option maxRecDepth 65536 in
theorem w_c5 : (Jvm.Cond.code ({ cls := "java/lang/String", name := "<init>", desc := "([CIILjava/lang/Void;)V" } : Jvm.MethodName) jdk_42_method_149_code (6 : Nat) (Option.none : Option Jvm.ClassFile.FieldType)).before args0 about1 = true := code_word (m := ⟨8, 4⟩) (meth := k8m4) (c := k8c4) (by decide +kernel) rfl rfl rfl (by decide +kernel)
set_option maxRecDepth 65536 in
theorem w_c6 : (Jvm.Cond.code ({ cls := "java/lang/Object", name := "<init>", desc := "()V" } : Jvm.MethodName) object_method_1_code (1 : Nat) (Option.none : Option Jvm.ClassFile.FieldType)).before args0 about1 = true := code_word (m := ⟨0, 0⟩) (meth := k0m0) (c := k0c0) (by decide +kernel) rfl rfl rfl (by decide +kernel)
set_option maxRecDepth 65536 in
theorem w_c7 : (Jvm.Cond.code ({ cls := "java/lang/StringUTF16", name := "compress", desc := "([CII)[B" } : Jvm.MethodName) jdk_52_method_16_code (6 : Nat) (Option.some (Jvm.ClassFile.FieldType.array Jvm.ClassFile.FieldType.byte))).before args0 about1 = true := code_word (m := ⟨9, 2⟩) (meth := k9m2) (c := k9c2) (by decide +kernel) rfl rfl rfl (by decide +kernel)
set_option maxRecDepth 65536 in
theorem w_c8 : (Jvm.Cond.code ({ cls := "java/lang/StringUTF16", name := "compress", desc := "([CI[BII)I" } : Jvm.MethodName) jdk_52_method_21_code (7 : Nat) (Option.some Jvm.ClassFile.FieldType.int)).before args0 about1 = true := code_word (m := ⟨9, 3⟩) (meth := k9m3) (c := k9c3) (by decide +kernel) rfl rfl rfl (by decide +kernel)
set_option maxRecDepth 65536 in
theorem w_c9 : (Jvm.Cond.code ({ cls := "java/lang/StringUTF16", name := "coderFromArrayLen", desc := "([BI)B" } : Jvm.MethodName) jdk_52_method_15_code (2 : Nat) (Option.some Jvm.ClassFile.FieldType.byte)).before args0 about1 = true := code_word (m := ⟨9, 1⟩) (meth := k9m1) (c := k9c1) (by decide +kernel) rfl rfl rfl (by decide +kernel)
set_option maxRecDepth 65536 in
theorem w_c10 : (Jvm.Cond.code ({ cls := "com/example/hfields/hfields/LinkCut", name := "<init>", desc := "(Ljava/lang/String;)V" } : Jvm.MethodName) prog_23_method_1_code (3 : Nat) (Option.none : Option Jvm.ClassFile.FieldType)).before args0 about1 = true := code_word (m := ⟨2, 0⟩) (meth := k2m0) (c := k2c0) (by decide +kernel) rfl rfl rfl (by decide +kernel)
set_option maxRecDepth 65536 in
theorem w_c11 : (Jvm.Cond.code ({ cls := "com/example/hfields/hfields/LinkCut", name := "isMailto", desc := "(Ljava/lang/String;)Z" } : Jvm.MethodName) prog_23_method_2_code (1 : Nat) (Option.some Jvm.ClassFile.FieldType.boolean)).before args0 about1 = true := code_word (m := ⟨2, 1⟩) (meth := k2m1) (c := k2c1) (by decide +kernel) rfl rfl rfl (by decide +kernel)
set_option maxRecDepth 65536 in
theorem w_c12 : (Jvm.Cond.code ({ cls := "com/example/hfields/hfields/LinkCut", name := "skipBlanks", desc := "(Ljava/lang/String;)I" } : Jvm.MethodName) prog_23_method_12_code (2 : Nat) (Option.some Jvm.ClassFile.FieldType.int)).before args0 about1 = true := code_word (m := ⟨2, 5⟩) (meth := k2m5) (c := k2c5) (by decide +kernel) rfl rfl rfl (by decide +kernel)
set_option maxRecDepth 65536 in
theorem w_c13 : (Jvm.Cond.code ({ cls := "java/lang/String", name := "length", desc := "()I" } : Jvm.MethodName) jdk_42_method_54_code (1 : Nat) (Option.some Jvm.ClassFile.FieldType.int)).before args0 about1 = true := code_word (m := ⟨8, 2⟩) (meth := k8m2) (c := k8c2) (by decide +kernel) rfl rfl rfl (by decide +kernel)
set_option maxRecDepth 65536 in
theorem w_c14 : (Jvm.Cond.code ({ cls := "java/lang/String", name := "coder", desc := "()B" } : Jvm.MethodName) jdk_42_method_152_code (1 : Nat) (Option.some Jvm.ClassFile.FieldType.byte)).before args0 about1 = true := code_word (m := ⟨8, 5⟩) (meth := k8m5) (c := k8c5) (by decide +kernel) rfl rfl rfl (by decide +kernel)
set_option maxRecDepth 65536 in
theorem w_c15 : (Jvm.Cond.code ({ cls := "java/lang/String", name := "charAt", desc := "(I)C" } : Jvm.MethodName) jdk_42_method_56_code (2 : Nat) (Option.some Jvm.ClassFile.FieldType.char)).before args0 about1 = true := code_word (m := ⟨8, 3⟩) (meth := k8m3) (c := k8c3) (by decide +kernel) rfl rfl rfl (by decide +kernel)
set_option maxRecDepth 65536 in
theorem w_c16 : (Jvm.Cond.code ({ cls := "java/lang/String", name := "isLatin1", desc := "()Z" } : Jvm.MethodName) jdk_42_method_154_code (1 : Nat) (Option.some Jvm.ClassFile.FieldType.boolean)).before args0 about1 = true := code_word (m := ⟨8, 6⟩) (meth := k8m6) (c := k8c6) (by decide +kernel) rfl rfl rfl (by decide +kernel)
set_option maxRecDepth 65536 in
theorem w_c17 : (Jvm.Cond.code ({ cls := "java/lang/StringLatin1", name := "charAt", desc := "([BI)C" } : Jvm.MethodName) jdk_43_method_2_code (2 : Nat) (Option.some Jvm.ClassFile.FieldType.char)).before args0 about1 = true := code_word (m := ⟨10, 1⟩) (meth := k10m1) (c := k10c1) (by decide +kernel) rfl rfl rfl (by decide +kernel)
set_option maxRecDepth 65536 in
theorem w_c18 : (Jvm.Cond.code ({ cls := "java/lang/String", name := "checkIndex", desc := "(II)V" } : Jvm.MethodName) jdk_42_method_155_code (2 : Nat) (Option.none : Option Jvm.ClassFile.FieldType)).before args0 about1 = true := code_word (m := ⟨8, 7⟩) (meth := k8m7) (c := k8c7) (by decide +kernel) rfl rfl rfl (by decide +kernel)
set_option maxRecDepth 65536 in
theorem w_c19 : (Jvm.Cond.code ({ cls := "jdk/internal/util/Preconditions", name := "checkIndex", desc := "(IILjava/util/function/BiFunction;)I" } : Jvm.MethodName) jdk_41_method_11_code (3 : Nat) (Option.some Jvm.ClassFile.FieldType.int)).before args0 about1 = true := code_word (m := ⟨11, 1⟩) (meth := k11m1) (c := k11c1) (by decide +kernel) rfl rfl rfl (by decide +kernel)
set_option maxRecDepth 65536 in
theorem w_c20 : (Jvm.Cond.code ({ cls := "com/example/hfields/hfields/LinkCut", name := "isBlank", desc := "(C)Z" } : Jvm.MethodName) prog_23_method_13_code (1 : Nat) (Option.some Jvm.ClassFile.FieldType.boolean)).before args0 about1 = true := code_word (m := ⟨2, 6⟩) (meth := k2m6) (c := k2c6) (by decide +kernel) rfl rfl rfl (by decide +kernel)
set_option maxRecDepth 65536 in
theorem w_c21 : (Jvm.Cond.code ({ cls := "com/example/hfields/hfields/LinkCut", name := "hasSchemeAt", desc := "(Ljava/lang/String;I)Z" } : Jvm.MethodName) prog_23_method_3_code (5 : Nat) (Option.some Jvm.ClassFile.FieldType.boolean)).before args0 about1 = true := code_word (m := ⟨2, 2⟩) (meth := k2m2) (c := k2c2) (by decide +kernel) rfl rfl rfl (by decide +kernel)
set_option maxRecDepth 65536 in
theorem w_c22 : (Jvm.Cond.code ({ cls := "com/example/hfields/hfields/LinkCut", name := "indexOf", desc := "(Ljava/lang/String;CII)I" } : Jvm.MethodName) prog_23_method_11_code (5 : Nat) (Option.some Jvm.ClassFile.FieldType.int)).before args0 about1 = true := code_word (m := ⟨2, 4⟩) (meth := k2m4) (c := k2c4) (by decide +kernel) rfl rfl rfl (by decide +kernel)
set_option maxRecDepth 65536 in
theorem w_c23 : (Jvm.Cond.code ({ cls := "com/example/hfields/hfields/LinkCut", name := "hasFields", desc := "()Z" } : Jvm.MethodName) prog_23_method_8_code (1 : Nat) (Option.some Jvm.ClassFile.FieldType.boolean)).before args0 about1 = true := code_word (m := ⟨2, 3⟩) (meth := k2m3) (c := k2c3) (by decide +kernel) rfl rfl rfl (by decide +kernel)
def codes1 : List Jvm.Cond := [Jvm.Cond.code x code maxLocals ret, Jvm.Cond.code ({ cls := "com/example/hfields/hfields/LinkCutHasFieldsPinLaw", name := "pick", desc := "(I)C" } : Jvm.MethodName) method_3_code (3 : Nat) (Option.some Jvm.ClassFile.FieldType.char), Jvm.Cond.code ({ cls := "com/example/hfields/hfields/LinkCutHasFieldsPinLaw", name := "blankOf", desc := "(I)C" } : Jvm.MethodName) method_4_code (1 : Nat) (Option.some Jvm.ClassFile.FieldType.char), Jvm.Cond.code ({ cls := "com/example/hfields/hfields/LinkCutHasFieldsPinLaw", name := "letter", desc := "(CII)C" } : Jvm.MethodName) method_5_code (3 : Nat) (Option.some Jvm.ClassFile.FieldType.char), Jvm.Cond.code ({ cls := "java/lang/String", name := "<init>", desc := "([C)V" } : Jvm.MethodName) jdk_42_method_3_code (2 : Nat) (Option.none : Option Jvm.ClassFile.FieldType), Jvm.Cond.code ({ cls := "java/lang/String", name := "<init>", desc := "([CIILjava/lang/Void;)V" } : Jvm.MethodName) jdk_42_method_149_code (6 : Nat) (Option.none : Option Jvm.ClassFile.FieldType), Jvm.Cond.code ({ cls := "java/lang/Object", name := "<init>", desc := "()V" } : Jvm.MethodName) object_method_1_code (1 : Nat) (Option.none : Option Jvm.ClassFile.FieldType), Jvm.Cond.code ({ cls := "java/lang/StringUTF16", name := "compress", desc := "([CII)[B" } : Jvm.MethodName) jdk_52_method_16_code (6 : Nat) (Option.some (Jvm.ClassFile.FieldType.array Jvm.ClassFile.FieldType.byte)), Jvm.Cond.code ({ cls := "java/lang/StringUTF16", name := "compress", desc := "([CI[BII)I" } : Jvm.MethodName) jdk_52_method_21_code (7 : Nat) (Option.some Jvm.ClassFile.FieldType.int), Jvm.Cond.code ({ cls := "java/lang/StringUTF16", name := "coderFromArrayLen", desc := "([BI)B" } : Jvm.MethodName) jdk_52_method_15_code (2 : Nat) (Option.some Jvm.ClassFile.FieldType.byte), Jvm.Cond.code ({ cls := "com/example/hfields/hfields/LinkCut", name := "<init>", desc := "(Ljava/lang/String;)V" } : Jvm.MethodName) prog_23_method_1_code (3 : Nat) (Option.none : Option Jvm.ClassFile.FieldType), Jvm.Cond.code ({ cls := "com/example/hfields/hfields/LinkCut", name := "isMailto", desc := "(Ljava/lang/String;)Z" } : Jvm.MethodName) prog_23_method_2_code (1 : Nat) (Option.some Jvm.ClassFile.FieldType.boolean), Jvm.Cond.code ({ cls := "com/example/hfields/hfields/LinkCut", name := "skipBlanks", desc := "(Ljava/lang/String;)I" } : Jvm.MethodName) prog_23_method_12_code (2 : Nat) (Option.some Jvm.ClassFile.FieldType.int), Jvm.Cond.code ({ cls := "java/lang/String", name := "length", desc := "()I" } : Jvm.MethodName) jdk_42_method_54_code (1 : Nat) (Option.some Jvm.ClassFile.FieldType.int), Jvm.Cond.code ({ cls := "java/lang/String", name := "coder", desc := "()B" } : Jvm.MethodName) jdk_42_method_152_code (1 : Nat) (Option.some Jvm.ClassFile.FieldType.byte), Jvm.Cond.code ({ cls := "java/lang/String", name := "charAt", desc := "(I)C" } : Jvm.MethodName) jdk_42_method_56_code (2 : Nat) (Option.some Jvm.ClassFile.FieldType.char), Jvm.Cond.code ({ cls := "java/lang/String", name := "isLatin1", desc := "()Z" } : Jvm.MethodName) jdk_42_method_154_code (1 : Nat) (Option.some Jvm.ClassFile.FieldType.boolean), Jvm.Cond.code ({ cls := "java/lang/StringLatin1", name := "charAt", desc := "([BI)C" } : Jvm.MethodName) jdk_43_method_2_code (2 : Nat) (Option.some Jvm.ClassFile.FieldType.char), Jvm.Cond.code ({ cls := "java/lang/String", name := "checkIndex", desc := "(II)V" } : Jvm.MethodName) jdk_42_method_155_code (2 : Nat) (Option.none : Option Jvm.ClassFile.FieldType), Jvm.Cond.code ({ cls := "jdk/internal/util/Preconditions", name := "checkIndex", desc := "(IILjava/util/function/BiFunction;)I" } : Jvm.MethodName) jdk_41_method_11_code (3 : Nat) (Option.some Jvm.ClassFile.FieldType.int), Jvm.Cond.code ({ cls := "com/example/hfields/hfields/LinkCut", name := "isBlank", desc := "(C)Z" } : Jvm.MethodName) prog_23_method_13_code (1 : Nat) (Option.some Jvm.ClassFile.FieldType.boolean), Jvm.Cond.code ({ cls := "com/example/hfields/hfields/LinkCut", name := "hasSchemeAt", desc := "(Ljava/lang/String;I)Z" } : Jvm.MethodName) prog_23_method_3_code (5 : Nat) (Option.some Jvm.ClassFile.FieldType.boolean), Jvm.Cond.code ({ cls := "com/example/hfields/hfields/LinkCut", name := "indexOf", desc := "(Ljava/lang/String;CII)I" } : Jvm.MethodName) prog_23_method_11_code (5 : Nat) (Option.some Jvm.ClassFile.FieldType.int), Jvm.Cond.code ({ cls := "com/example/hfields/hfields/LinkCut", name := "hasFields", desc := "()Z" } : Jvm.MethodName) prog_23_method_8_code (1 : Nat) (Option.some Jvm.ClassFile.FieldType.boolean)]
set_option maxRecDepth 65536 in
theorem codes_eq : words1.filter isCode = codes1 := rfl
theorem w_codes : ∀ c ∈ words1.filter isCode, c.before args0 about1 = true := by
  rw [codes_eq]
  intro c hc
  simp only [codes1, List.mem_cons, List.not_mem_nil, or_false] at hc
  rcases hc with rfl | rfl | rfl | rfl | rfl | rfl | rfl | rfl | rfl | rfl | rfl | rfl | rfl | rfl | rfl | rfl | rfl | rfl | rfl | rfl | rfl | rfl | rfl | rfl
  · exact w_c0
  · exact w_c1
  · exact w_c2
  · exact w_c3
  · exact w_c4
  · exact w_c5
  · exact w_c6
  · exact w_c7
  · exact w_c8
  · exact w_c9
  · exact w_c10
  · exact w_c11
  · exact w_c12
  · exact w_c13
  · exact w_c14
  · exact w_c15
  · exact w_c16
  · exact w_c17
  · exact w_c18
  · exact w_c19
  · exact w_c20
  · exact w_c21
  · exact w_c22
  · exact w_c23
set_option maxRecDepth 65536 in
theorem w_t1 : (words1.take 24).all (fun c => isCode c || c.before args0 about1) = true := by decide +kernel
set_option maxRecDepth 65536 in
theorem w_t2 : ((words1.drop 24).take 24).all (fun c => isCode c || c.before args0 about1) = true := by decide +kernel
set_option maxRecDepth 65536 in
theorem w_t3 : (((words1.drop 24).drop 24).take 24).all (fun c => isCode c || c.before args0 about1) = true := by decide +kernel
set_option maxRecDepth 65536 in
theorem w_t4 : ((((words1.drop 24).drop 24).drop 24).take 24).all (fun c => isCode c || c.before args0 about1) = true := by decide +kernel
set_option maxRecDepth 65536 in
theorem w_t5 : ((((words1.drop 24).drop 24).drop 24).drop 24).all (fun c => isCode c || c.before args0 about1) = true := by decide +kernel
theorem w_tables : (allAtoms (Jvm.Cond.code x code maxLocals ret :: tables_1)).before args0 about1 = true := by
  rw [allAtoms_all]
  show words1.all (fun c => c.before args0 about1) = true
  refine all_split ?_ w_codes
  rw [← List.take_append_drop 24 words1, List.all_append, w_t1, ← List.take_append_drop 24 (words1.drop 24), List.all_append, w_t2, ← List.take_append_drop 24 ((words1.drop 24).drop 24), List.all_append, w_t3, ← List.take_append_drop 24 (((words1.drop 24).drop 24).drop 24), List.all_append, w_t4, w_t5]
  rfl
set_option maxRecDepth 65536 in
theorem w_rest : rest_1_c.before args0 about1 = true := by decide +kernel
set_option maxRecDepth 65536 in
theorem w_case : (Jvm.Cond.and given_1 narrow_1).before args0 about1 = true := by decide +kernel
set_option maxRecDepth 65536 in
theorem w_consts : constsHeld consts_1 about1 := Jvm.Lit.constsHeldB_iff.mp (by decide +kernel)
theorem w_applies : (headSpec (Jvm.Cond.code x code maxLocals ret :: tables_1) room_1).applies x e0.platform about1 = true :=
  (Spec.applies_iff w_frames).mpr ⟨w_running, w_runnable, w_alone, w_named, w_hears, w_ripe, w_room, w_tables⟩
theorem atStart : AtStart classFile x code maxLocals ret World_1 tables_1 room_1 Calls_1 rest_1 Pre_1 launch0 p0 e0 about1 theMethod args0 below0 :=
  ⟨lists_1, trivial, launch0.admits_env _ _ _, launch0.least_env, fairChoices_fair.cas, fairChoices_fair.clock, w_frames, w_args, w_heap, w_applies, ⟨w_consts, trivial⟩, w_rest, w_case⟩
end start1
theorem witness_1 : WitnessClaimed_1 := ⟨start1.p0, start1.e0, start1.about1, start1.theMethod, start1.args0, start1.below0, start1.atStart⟩
end Jvm.Pilot.@@N@@
