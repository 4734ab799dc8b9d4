import JvmDerived
import JvmDerived.Pilot.@@N@@Statement
import JvmDerived.Pilot.@@N@@Code
set_option linter.unusedVariables false
set_option linter.unusedSimpArgs false
namespace Jvm.Pilot.@@N@@
namespace Own
open Jvm Jvm.ClassFile Sem Op Lib Jvm.Free Jvm.Stand Jvm.LawKit Jvm.RoadKit Bundle
section Base
variable {p : Program} {l : Launch} {e : Env} {R : Room} {s : State} {m : MethodId} {args : Array Value} {below : List Frame} {meth : Method} {c : Code} {Z : State} {a0 : Array Value} {EL : List (String × Nat)} {own : String} {ws : List Addr} {T : State} {h : Heap} {sf : List Addr} {lts : List (Nat × Addr)} {cells slots : Nat} {P : Option Value → State → Prop} {pc : Nat} {Ls : Array Slot} {rest : List Value}

/-- from the frame g the method's invocation comes back, and P holds of what it returns and of the state behind it -/
def Go (p : Program) (e : Env) (below : List Frame) (P : Option Value → State → Prop) (T : State) (g : JFrame) : Prop :=
  ∃ (U : State) (v : Option Value), Steps p.tables e below (T.setTop g) U ∧ U.status = .running ∧ Ended U below (.returned v) ∧ P v U

theorem Go.of {T' : State} {g g' : JFrame} (st : ∀ t, Steps p.tables e below (T'.setTop g') t → Steps p.tables e below (T.setTop g) t) (k : Go p e below P T' g') : Go p e below P T g := by
  obtain ⟨U, v, h1, h2⟩ := k
  exact ⟨U, v, st _ h1, h2⟩

theorem Go.cast {g g' : JFrame} (q : g = g') (k : Go p e below P T g') : Go p e below P T g := q ▸ k

/-- where a walk stands: T with heap h; the tables may have interned since the start (Since), the literals of EL hold what they spell (CHr), nothing is written but in fresh cells (Fr, Ext), nothing of the start's heap but ws (Keep), and the addresses sf are no literal's -/
def Wk (p : Program) (l : Launch) (e : Env) (R : Room) (s : State) (m : MethodId) (args : Array Value) (below : List Frame) (meth : Method) (c : Code) (Z : State) (a0 : Array Value) (EL : List (String × Nat)) (own : String) (ws : List Addr) (T : State) (h : Heap) (sf : List Addr) (lts : List (Nat × Addr)) (cells slots : Nat) : Prop :=
  p.tables.exec = Jvm.exec ∧ EW Z a0 EL ∧ ∃ (vm0 : Vm) (k0 : Nat) (locs : List Loc), Stand p l e R (s.setVm vm0) m args below meth c T locs cells slots ∧ T.heap = h ∧ s.Since vm0 k0 ∧ k0 ≤ h.size ∧ Z.Warmed39 vm0 ∧ vm0.findClass own = some m.cls ∧ CHr Z EL s.vm s.heap vm0 h ∧ Fr Z.heap.size locs ∧ Ext Z.heap h ∧ Keep s.heap h ws ∧ (∀ x ∈ sf, x < h.size ∧ Safe Z EL vm0 h x) ∧ ∀ q ∈ lts, Lit (s.setVm vm0) own q.1 q.2

/-- what is left when the method has come back -/
def Pst (R : Room) (s Z : State) (EL : List (String × Nat)) (ws : List Addr) (Q : Option Value → (Addr → Prop) → Heap → Prop) (v : Option Value) (U : State) : Prop :=
  ∃ L, (Q v (Safe Z EL U.vm U.heap) U.heap ∧ Fr Z.heap.size L ∧ Ext Z.heap U.heap ∧ Keep s.heap U.heap ws) ∧ CHr Z EL s.vm s.heap U.vm U.heap ∧ ReturnedEndW s (.returned v) U L R.cells R.slots

/-- a method's contract -/
def Met (l : Launch) (Z : State) (EL : List (String × Nat)) (y : MethodName) (bytes : ByteArray) (maxL : Nat) (ret : Option FieldType) (rm : Room) (as' : Array Value) (h : Heap) (ws si : List Addr) (Q : Option Value → (Addr → Prop) → Heap → Prop) : Prop :=
  ∀ wsx : List Jvm.Cond, MetFree l y (head1 (Jvm.Cond.code y bytes maxL ret :: wsx) rm)
    (fun a U => a = as' ∧ Z.Warmed39 U.vm ∧ U.heap = h ∧ CHv Z EL U.vm h ∧ Ext Z.heap h ∧ ∀ x ∈ si, x < h.size ∧ Safe Z EL U.vm h x) (fun _ _ _ _ _ => True)
    (fun _ U o U' => ∃ v L, o = .returned v ∧ (Q v (Safe Z EL U'.vm U'.heap) U'.heap ∧ Fr Z.heap.size L ∧ Ext Z.heap U'.heap ∧ Keep U.heap U'.heap ws) ∧ CHr Z EL U.vm U.heap U'.vm U'.heap ∧ ReturnedEndW U o U' L rm.cells rm.slots)

theorem Wk.hh (X : Wk p l e R s m args below meth c Z a0 EL own ws T h sf lts cells slots) : At T m c below := by
  obtain ⟨-, -, _, _, _, X, -⟩ := X
  exact X.here
theorem Wk.hx (X : Wk p l e R s m args below meth c Z a0 EL own ws T h sf lts cells slots) : p.tables.exec = Jvm.exec := X.1
theorem Wk.ext0 (X : Wk p l e R s m args below meth c Z a0 EL own ws T h sf lts cells slots) : Ext Z.heap h := by
  obtain ⟨-, -, _, _, _, -, -, -, -, -, -, -, -, q, -⟩ := X
  exact q
theorem Wk.keep0 (X : Wk p l e R s m args below meth c Z a0 EL own ws T h sf lts cells slots) : Keep s.heap h ws := by
  obtain ⟨-, -, _, _, _, -, -, -, -, -, -, -, -, -, q, -⟩ := X
  exact q
theorem Wk.mono {cells' slots' : Nat} (X : Wk p l e R s m args below meth c Z a0 EL own ws T h sf lts cells slots) (hc : cells ≤ cells') (hs : slots ≤ slots') : Wk p l e R s m args below meth c Z a0 EL own ws T h sf lts cells' slots' := by
  obtain ⟨hx, hEL, vm0, k0, locs, X, q⟩ := X
  exact ⟨hx, hEL, vm0, k0, locs, { X with same := X.same.mono hc hs }, q⟩
theorem Wk.less {sf' : List Addr} (X : Wk p l e R s m args below meth c Z a0 EL own ws T h sf lts cells slots) (q : ∀ x ∈ sf', x ∈ sf) : Wk p l e R s m args below meth c Z a0 EL own ws T h sf' lts cells slots := by
  obtain ⟨hx, hEL, vm0, k0, locs, X, a1, a2, a3, a4, a5, a6, a7, a8, a9, a10, a11⟩ := X
  exact ⟨hx, hEL, vm0, k0, locs, X, a1, a2, a3, a4, a5, a6, a7, a8, a9, fun x hx => a10 x (q x hx), a11⟩

/-- why x is no literal's cell -/
def Sfe (Z : State) (h : Heap) (sf : List Addr) (a : Addr) : Prop := a ∈ sf ∨ (∃ C, Exa Z h a C ∧ C ≠ "java/lang/String" ∧ C ≠ "[B") ∨ ∃ cl ty, Jvm.RoadKit.Arr Z h a cl ty ∧ ty ≠ .byte
theorem Sfe.mem {a : Addr} (q : a ∈ sf) : Sfe Z h sf a := Or.inl q
theorem Sfe.exa {a : Addr} {C : String} (E : Exa Z h a C) (h1 : C ≠ "java/lang/String" := by decide) (h2 : C ≠ "[B" := by decide) : Sfe Z h sf a := Or.inr (Or.inl ⟨C, E, h1, h2⟩)
theorem Sfe.arv {a : Addr} {k : ClassId} {ty : FieldType} {z : Int32} {vs : List Value} {d : Value} (A : Arv Z h a k ty z vs d) (q : ty ≠ .byte := by decide) : Sfe Z h sf a := by
  obtain ⟨cl, A, -⟩ := A
  exact Or.inr (Or.inr ⟨cl, ty, A, q⟩)
theorem Sfe.safe {vm : Vm} {a : Addr} (S : Sfe Z h sf a) (hal : Z.vm.Alike vm) (hsf : ∀ x ∈ sf, x < h.size ∧ Safe Z EL vm h x) : Safe Z EL vm h a := by
  rcases S with q | ⟨C, E, h1, h2⟩ | ⟨cl, ty, A, q⟩
  · exact (hsf _ q).2
  · exact Safe.exa hal E h1 h2
  · exact Safe.arr hal A q
theorem ext_refl (h : Heap) : Ext h h := ⟨Nat.le_refl _, fun _ _ q => q⟩
theorem ext_trans {h1 h2 h3 : Heap} (A : Ext h1 h2) (B : Ext h2 h3) : Ext h1 h3 := ⟨Nat.le_trans A.1 B.1, fun x c q => B.2 x c (A.2 x c q)⟩
theorem ext_keep {h1 h2 h3 : Heap} {ws : List Addr} (A : Ext h1 h2) (K : Keep h2 h3 ws) (q : ∀ x ∈ ws, h1.size ≤ x) : Ext h1 h3 :=
  ⟨Nat.le_trans A.1 K.1, fun x c r => K.2.1 x c (A.2 x c r) fun z => absurd (Array.getElem?_eq_some_iff.mp r).1 (Nat.not_lt.mpr (q x z))⟩
theorem safe_any {vm vm1 : Vm} (A : CHr Z EL vm h vm1 h) {x : Addr} (S : Safe Z EL vm h x) : Safe Z EL vm1 h x := by
  by_cases q : x < h.size
  · exact A.safe q S
  · exact Safe.new (Nat.le_of_not_lt q)

theorem Met.intro {y : MethodName} {bytes : ByteArray} {maxL : Nat} {ret : Option FieldType} {as' : Array Value} {si : List Addr} {Q : Option Value → (Addr → Prop) → Heap → Prop} (hEL : EW Z a0 EL) (hn : plainName y.cls = true)
    (body : ∀ (p : Program) (e : Env) (s : State) (m : MethodId) (below : List Frame) (meth : Method) (c : Code) (T : State), Wk p l e R s m as' below meth c Z a0 EL y.cls ws T h si [] 0 0 → c.maxLocals = maxL → c.code = bytes → meth.sig.returnType = ret → meth.name = y.name → meth.locks = false → s.heap = h → Go p e below (Pst R s Z EL ws Q) T (entryFrame m as' maxL)) :
    Met l Z EL y bytes maxL ret R as' h ws si Q := by
  intro wsx
  refine MetFree.of_bodySF (plainFor_of_name hn) hisR ?_
  intro p e s m args below meth c s₁ Bd hml0 hP hK
  obtain ⟨rfl, hZ, hh, hCH, hO, hsi⟩ := hP
  have X0 : Stand p l e R s m args below meth c s₁ [] 0 0 := Stand.of_body Bd
  have e0 : s₁.heap = h := by rw [← hh, Bd.state]; rfl
  subst hh
  have W0 : Wk p l e R s m args below meth c Z a0 EL y.cls ws s₁ s.heap si [] 0 0 := ⟨Bd.exec, hEL, s.vm, 0, [], X0, e0, (State.WarmedH.refl s).since 0, Nat.zero_le _, hZ, findClass_of_methodNamed Bd.named, CHr.refl hCH, Fr.nil _, hO, Keep.refl _ _, hsi, fun _ q => nomatch q⟩
  obtain ⟨U, v, h1, h2, h3, L, h4, h5, h6⟩ := body p e s m below meth c s₁ W0 hml0 Bd.bytes Bd.returns (name_of_methodNamed Bd.named Bd.method).1 Bd.notSynchronized rfl
  exact ⟨U, .returned v, h1, h2, h3, v, L, rfl, h4, h5, h6⟩

theorem Wk.ret {Q : Option Value → (Addr → Prop) → Heap → Prop} {g : JFrame} {v : Option Value} (X : Wk p l e R s m args below meth c Z a0 EL own ws T h sf lts cells slots) (hv : meth.sig.returnType = none → v = none) (hlk : meth.locks = false) (hc : cells ≤ R.cells) (hs : slots ≤ R.slots)
    (st : ∀ (vm0 : Vm) (locs : List Loc), Stand p l e R (s.setVm vm0) m args below meth c T locs cells slots → ∀ fs : List Frame, (∀ (f : JFrame) (acts : List Action), f.method = m → f.locked = none → f.entered = [] → (doReturn e (T.setTop f) acts v).1 = T.setFrames fs) → Steps p.tables e below (T.setTop g) (T.setFrames fs))
    (hQ : ∀ S : Addr → Prop, (∀ x ∈ sf, S x) → Q v S h) : Go p e below (Pst R s Z EL ws Q) T g := by
  obtain ⟨hx, hEL, vm0, k0, locs, X, eT, hS, hk, hZ, hown, hC, hN, hO, hK, hsf, hlt⟩ := X
  obtain ⟨fs, h1, h2, h3, h4, h5, h6, h7⟩ := X.leaveW hS (by rw [eT]; exact hk) hv hlk
  have hA := CHv.at X hZ hEL hC.1
  have eU : (T.setFrames fs).heap = h := eT
  have eV : (T.setFrames fs).vm = T.vm := rfl
  refine ⟨T.setFrames fs, v, st vm0 locs X fs h1, h2, h3, locs, ?_, ?_, h4, h5, h6, h7.mono hc hs⟩
  · rw [eU, eV]
    exact ⟨hQ _ fun x hx => safe_any hA (hsf x hx).2, hN, hO, hK⟩
  · rw [eU, eV]
    exact hC.trans hA

theorem Wk.iret {Q : Option Value → (Addr → Prop) → Heap → Prop} {z : Int32} (X : Wk p l e R s m args below meth c Z a0 EL own ws T h sf lts cells slots) (hr : meth.sig.returnType = some .int) (hlk : meth.locks = false) (hc : cells ≤ R.cells) (hs : slots ≤ R.slots) (hd : decode c.code pc = .ok (.ireturn, 1))
    (hQ : ∀ S : Addr → Prop, (∀ x ∈ sf, S x) → Q (some (.int z)) S h) : Go p e below (Pst R s Z EL ws Q) T (mkF m pc Ls (.int z :: rest)) :=
  X.ret (fun q => by rw [hr] at q; cases q) hlk hc hs (fun _ _ Y _ hl => retOut Y X.hx hr rfl (Or.inl ⟨rfl, Or.inl rfl, z, rfl⟩) hd hl) hQ
theorem Wk.nret {Q : Option Value → (Addr → Prop) → Heap → Prop} {z : Int32} {t : FieldType} (X : Wk p l e R s m args below meth c Z a0 EL own ws T h sf lts cells slots) (hr : meth.sig.returnType = some t) (ht : t = .boolean ∨ t = .byte ∨ t = .char ∨ t = .short) (hlk : meth.locks = false) (hc : cells ≤ R.cells) (hs : slots ≤ R.slots) (hd : decode c.code pc = .ok (.ireturn, 1))
    (hQ : ∀ S : Addr → Prop, (∀ x ∈ sf, S x) → Q (some (.int (nar t z))) S h) : Go p e below (Pst R s Z EL ws Q) T (mkF m pc Ls (.int z :: rest)) :=
  X.ret (fun q => by rw [hr] at q; cases q) hlk hc hs (fun _ _ Y _ hl => retN Y X.hx hr ht hd hl) hQ
theorem Wk.lret {Q : Option Value → (Addr → Prop) → Heap → Prop} {z : Int64} (X : Wk p l e R s m args below meth c Z a0 EL own ws T h sf lts cells slots) (hr : meth.sig.returnType = some .long) (hlk : meth.locks = false) (hc : cells ≤ R.cells) (hs : slots ≤ R.slots) (hd : decode c.code pc = .ok (.lreturn, 1))
    (hQ : ∀ S : Addr → Prop, (∀ x ∈ sf, S x) → Q (some (.long z)) S h) : Go p e below (Pst R s Z EL ws Q) T (mkF m pc Ls (.long z :: rest)) :=
  X.ret (fun q => by rw [hr] at q; cases q) hlk hc hs (fun _ _ Y _ hl => retOut Y X.hx hr rfl (Or.inr (Or.inl ⟨rfl, rfl, z, rfl⟩)) hd hl) hQ
theorem Wk.aret {Q : Option Value → (Addr → Prop) → Heap → Prop} {v : Value} {t : FieldType} (X : Wk p l e R s m args below meth c Z a0 EL own ws T h sf lts cells slots) (hr : meth.sig.returnType = some t) (ht : t.isReference = true) (hn : narrow t v = v) (hv : v.isRef = true) (hlk : meth.locks = false) (hc : cells ≤ R.cells) (hs : slots ≤ R.slots) (hd : decode c.code pc = .ok (.areturn, 1))
    (hQ : ∀ S : Addr → Prop, (∀ x ∈ sf, S x) → Q (some v) S h) : Go p e below (Pst R s Z EL ws Q) T (mkF m pc Ls (v :: rest)) :=
  X.ret (fun q => by rw [hr] at q; cases q) hlk hc hs (fun _ _ Y _ hl => retOut Y X.hx hr hn (Or.inr (Or.inr (Or.inr (Or.inr ⟨rfl, ht, hv⟩)))) hd hl) hQ
theorem Wk.vret {Q : Option Value → (Addr → Prop) → Heap → Prop} (X : Wk p l e R s m args below meth c Z a0 EL own ws T h sf lts cells slots) (hr : meth.sig.returnType = none) (hlk : meth.locks = false) (hc : cells ≤ R.cells) (hs : slots ≤ R.slots) (hd : decode c.code pc = .ok (.return_, 1))
    (hQ : ∀ S : Addr → Prop, (∀ x ∈ sf, S x) → Q none S h) : Go p e below (Pst R s Z EL ws Q) T (mkF m pc Ls []) :=
  X.ret (fun _ => rfl) hlk hc hs (fun _ _ Y _ hl => Y.returnOut X.hx hr hd hl) hQ

theorem Wk.getF {n d R0 O host : String} {index : Nat} {a : Addr} {v : Value} (X : Wk p l e R s m args below meth c Z a0 EL own ws T h sf lts cells slots) (w : (Cond.fieldLink own index R0 n d).before a0 Z = true ∨ (Cond.fieldLinkNest own index R0 n d host).before a0 Z = true) (via : Via Z R0 O n d) (F : Fld Z h a O n d v) (hd : decode c.code pc = .ok (.getfield index, 3))
    (k : ∀ T', Wk p l e R s m args below meth c Z a0 EL own ws T' h sf lts cells slots → Go p e below P T' (mkF m (pc + 3) Ls (v :: rest))) : Go p e below P T (mkF m pc Ls (.ref a :: rest)) := by
  obtain ⟨hx, hEL, vm0, k0, locs, X, eT, hS, hk, hZ, hown, q⟩ := X
  obtain ⟨T', X', e', st⟩ := Jvm.RoadKit.getF X hx (s := s.setVm vm0) hZ hown w via eT F (g := mkF m pc Ls (.ref a :: rest)) rfl rfl hd
  exact Go.of st (k T' ⟨hx, hEL, vm0, k0, locs, X', e', hS, hk, hZ, hown, q⟩)

theorem Wk.getS {n d R0 O host : String} {index : Nat} {v : Value} {st : List Value} (X : Wk p l e R s m args below meth c Z a0 EL own ws T h sf lts cells slots) (w : (Cond.fieldLink own index R0 n d).before a0 Z = true ∨ (Cond.fieldLinkNest own index R0 n d host).before a0 Z = true) (via : Via Z R0 O n d) (F : Sta Z h O n d v) (hd : decode c.code pc = .ok (.getstatic index, 3))
    (k : ∀ T', Wk p l e R s m args below meth c Z a0 EL own ws T' h sf lts cells slots → Go p e below P T' (mkF m (pc + 3) Ls (v :: st))) : Go p e below P T (mkF m pc Ls st) := by
  obtain ⟨hx, hEL, vm0, k0, locs, X, eT, hS, hk, hZ, hown, q⟩ := X
  obtain ⟨T', X', e', st'⟩ := getS2 X hx (s := s.setVm vm0) hZ hown w via eT F (g := mkF m pc Ls st) rfl hd
  exact Go.of st' (k T' ⟨hx, hEL, vm0, k0, locs, X', e', hS, hk, hZ, hown, q⟩)

theorem Wk.castY {K : String} {index : Nat} {a : Addr} (X : Wk p l e R s m args below meth c Z a0 EL own ws T h sf lts cells slots) (w : (Cond.classLink own index K).before a0 Z = true) (F : Ins Z h a K true) (hd : decode c.code pc = .ok (.checkcast index, 3))
    (k : ∀ T', Wk p l e R s m args below meth c Z a0 EL own ws T' h sf lts cells slots → Go p e below P T' (mkF m (pc + 3) Ls (.ref a :: rest))) : Go p e below P T (mkF m pc Ls (.ref a :: rest)) := by
  obtain ⟨hx, hEL, vm0, k0, locs, X, eT, hS, hk, hZ, hown, q⟩ := X
  obtain ⟨T', X', e', st'⟩ := Jvm.RoadKit.castY X hx (s := s.setVm vm0) hZ hown w eT F (g := mkF m pc Ls (.ref a :: rest)) rfl rfl hd
  exact Go.of st' (k T' ⟨hx, hEL, vm0, k0, locs, X', e', hS, hk, hZ, hown, q⟩)

theorem Wk.instY {K : String} {index : Nat} {a : Addr} (X : Wk p l e R s m args below meth c Z a0 EL own ws T h sf lts cells slots) (w : (Cond.classLink own index K).before a0 Z = true) (F : Ins Z h a K true) (hd : decode c.code pc = .ok (.instanceof index, 3))
    (k : ∀ T', Wk p l e R s m args below meth c Z a0 EL own ws T' h sf lts cells slots → Go p e below P T' (mkF m (pc + 3) Ls (.int 1 :: rest))) : Go p e below P T (mkF m pc Ls (.ref a :: rest)) := by
  obtain ⟨hx, hEL, vm0, k0, locs, X, eT, hS, hk, hZ, hown, q⟩ := X
  obtain ⟨T', X', e', st'⟩ := Jvm.RoadKit.instY X hx (s := s.setVm vm0) hZ hown w eT F (g := mkF m pc Ls (.ref a :: rest)) rfl rfl hd
  exact Go.of st' (k T' ⟨hx, hEL, vm0, k0, locs, X', e', hS, hk, hZ, hown, q⟩)

theorem Wk.initO {idx : Nat} {a : Addr} {W : Nat} (X : Wk p l e R s m args below meth c Z a0 EL own ws T h sf lts cells slots) (w1 : (Cond.methodLink own idx Lib.objectInit).before a0 Z = true) (w2 : (Cond.instanceMethod Lib.objectInit).before a0 Z = true)
    (w3 : (Cond.code Lib.objectInit object_method_1_code 1 none).before a0 Z = true) (hsize : Ls.size = c.maxLocals) (hd : decode c.code pc = .ok (.invokespecial idx, 3)) (hf : 1 ≤ R.frames) (hW : (rest.map fun v => v.category).sum = W) (hl : W + 12 ≤ R.locals)
    (k : ∀ T', Wk p l e R s m args below meth c Z a0 EL own ws T' h sf lts cells slots → Go p e below P T' (mkF m (pc + 3) Ls rest)) : Go p e below P T (mkF m pc Ls (.ref a :: rest)) := by
  obtain ⟨hx, hEL, vm0, k0, locs, X, eT, hS, hk, hZ, hown, q⟩ := X
  obtain ⟨T', X', e', st'⟩ := Jvm.RoadKit.initO X hx (s := s.setVm vm0) hZ hown w1 w2 w3 eT (g := mkF m pc Ls (.ref a :: rest)) rfl hsize rfl hd hf (W := W) (by rw [← hW]; show 2 * 0 + _ ≤ _; omega) hl
  exact Go.of st' (k T' ⟨hx, hEL, vm0, k0, locs, X', e', hS, hk, hZ, hown, q⟩)

theorem Wk.newO {C : String} {index n : Nat} {st : List Value} (X : Wk p l e R s m args below meth c Z a0 EL own ws T h sf lts cells slots) (w : (Cond.classLink own index C).before a0 Z = true) (wi : (Cond.instantiable C n).before a0 Z = true) (wz : (Cond.initialized C).before a0 Z = true) (hd : decode c.code pc = .ok (.new index, 3)) (hc : cells + 1 ≤ R.cells) (hl : slots + n ≤ R.slots)
    (k : ∀ T' h' a, a = h.size → Wk p l e R s m args below meth c Z a0 EL own ws T' h' (a :: sf) lts (cells + 1) (slots + n) → Ext h h' → Exa Z h' a C → (∀ {O nm d : String} {ty : FieldType}, Laid Z a0 C O nm d → parseFieldDescriptor d = some ty → Fld Z h' a O nm d (defaultValue ty)) → Go p e below P T' (mkF m (pc + 3) Ls (.ref a :: st))) : Go p e below P T (mkF m pc Ls st) := by
  obtain ⟨hx, hEL, vm0, k0, locs, X, eT, hS, hk, hZ, hown, hC, hN, hO, hK, hsf, hlt⟩ := X
  obtain ⟨T', h', X', e', E, A, D, -, st'⟩ := Jvm.RoadKit.newO X hx (s := s.setVm vm0) hZ hown w wi wz eT (g := mkF m pc Ls st) rfl hd hc hl
  exact Go.of st' (k T' h' h.size rfl ⟨hx, hEL, vm0, k0, locs, X', e', hS, Nat.le_trans hk E.1, hZ, hown, hC.trans (CHr.ext E hC.1), hN, ext_trans hO E, hK.ext E, fun x hx => by
    rcases List.mem_cons.mp hx with rfl | hx
    · exact ⟨A.lt, (Safe.new (Nat.le_refl _)).ext E hC.1⟩
    · exact ⟨Nat.lt_of_lt_of_le (hsf x hx).1 E.1, (hsf x hx).2.ext E hC.1⟩, hlt⟩ E A D)

theorem Wk.newP {aty : ArrayType} {n : Int32} {cap : Nat} (X : Wk p l e R s m args below meth c Z a0 EL own ws T h sf lts cells slots) (w : (Cond.arrayClass (newarray.typeOf aty)).before a0 Z = true) (hd : decode c.code pc = .ok (.newarray aty, 2)) (hn : ¬ n < 0) (hcap : n.toNatClampNeg ≤ cap) (hb : cap * 8 ≤ 536870912) (hc : cells + 1 ≤ R.cells) (hl : slots + cap ≤ R.slots)
    (k : ∀ T' h' a kc, a = h.size → Wk p l e R s m args below meth c Z a0 EL own ws T' h' (a :: sf) lts (cells + 1) (slots + cap) → Ext h h' → Arv Z h' a kc (newarray.typeOf aty) n [] (defaultValue (newarray.typeOf aty)) → Go p e below P T' (mkF m (pc + 2) Ls (.ref a :: rest))) : Go p e below P T (mkF m pc Ls (.int n :: rest)) := by
  obtain ⟨hx, hEL, vm0, k0, locs, X, eT, hS, hk, hZ, hown, hC, hN, hO, hK, hsf, hlt⟩ := X
  obtain ⟨T', h', kc, X', e', E, A, st'⟩ := Jvm.RoadKit.newP X hx (s := s.setVm vm0) hZ w eT (g := mkF m pc Ls (.int n :: rest)) rfl hd rfl hn hcap hb hc hl
  exact Go.of st' (k T' h' h.size kc rfl ⟨hx, hEL, vm0, k0, locs, X', e', hS, Nat.le_trans hk E.1, hZ, hown, hC.trans (CHr.ext E hC.1), hN, ext_trans hO E, hK.ext E, fun x hx => by
    rcases List.mem_cons.mp hx with rfl | hx
    · exact ⟨A.lt, (Safe.new (Nat.le_refl _)).ext E hC.1⟩
    · exact ⟨Nat.lt_of_lt_of_le (hsf x hx).1 E.1, (hsf x hx).2.ext E hC.1⟩, hlt⟩ E (Arv.new A hn))

theorem Wk.newR {C : String} {index : Nat} {n : Int32} {cap : Nat} (X : Wk p l e R s m args below meth c Z a0 EL own ws T h sf lts cells slots) (w1 : (Cond.classLink own index C).before a0 Z = true) (w2 : (Cond.arrayOver (.object C)).before a0 Z = true) (hd : decode c.code pc = .ok (.anewarray index, 3)) (hn : ¬ n < 0) (hcap : n.toNatClampNeg ≤ cap) (hb : cap * 8 ≤ 536870912) (hc : cells + 1 ≤ R.cells) (hl : slots + cap ≤ R.slots)
    (k : ∀ T' h' a kc, a = h.size → Wk p l e R s m args below meth c Z a0 EL own ws T' h' (a :: sf) lts (cells + 1) (slots + cap) → Ext h h' → Arv Z h' a kc (.object C) n [] .null → Ovr Z kc C → Go p e below P T' (mkF m (pc + 3) Ls (.ref a :: rest))) : Go p e below P T (mkF m pc Ls (.int n :: rest)) := by
  obtain ⟨hx, hEL, vm0, k0, locs, X, eT, hS, hk, hZ, hown, hC, hN, hO, hK, hsf, hlt⟩ := X
  obtain ⟨T', h', kc, X', e', E, A, O, st'⟩ := Jvm.RoadKit.newR X hx (s := s.setVm vm0) hZ hown w1 w2 eT (g := mkF m pc Ls (.int n :: rest)) rfl hd rfl hn hcap hb hc hl
  exact Go.of st' (k T' h' h.size kc rfl ⟨hx, hEL, vm0, k0, locs, X', e', hS, Nat.le_trans hk E.1, hZ, hown, hC.trans (CHr.ext E hC.1), hN, ext_trans hO E, hK.ext E, fun x hx => by
    rcases List.mem_cons.mp hx with rfl | hx
    · exact ⟨A.lt, (Safe.new (Nat.le_refl _)).ext E hC.1⟩
    · exact ⟨Nat.lt_of_lt_of_le (hsf x hx).1 E.1, (hsf x hx).2.ext E hC.1⟩, hlt⟩ E (Arv.new A hn) O)

/-- behind a write of one place of a -/
theorem Wk.wrote {T' : State} {h' : Heap} {a : Addr} {sl : Nat} {v : Value} {vm0 : Vm} {k0 : Nat} {locs : List Loc} (hx : p.tables.exec = Jvm.exec) (hEL : EW Z a0 EL) (X' : Stand p l e R (s.setVm vm0) m args below meth c T' (locs ++ [⟨a, sl⟩]) cells slots) (e' : T'.heap = h') (W : Wr h h' a sl v) (hS : s.Since vm0 k0) (hk : k0 ≤ h.size) (hZ : Z.Warmed39 vm0) (hown : vm0.findClass own = some m.cls) (hC : CHr Z EL s.vm s.heap vm0 h) (hN : Fr Z.heap.size locs) (hO : Ext Z.heap h) (hK : Keep s.heap h ws) (hsf : ∀ x ∈ sf, x < h.size ∧ Safe Z EL vm0 h x) (hlt : ∀ q ∈ lts, Lit (s.setVm vm0) own q.1 q.2)
    (g1 : Z.heap.size ≤ a) (g2 : a ∈ ws ∨ s.heap.size ≤ a) (g3 : Sfe Z h sf a) : Wk p l e R s m args below meth c Z a0 EL own ws T' h' sf lts cells slots :=
  have S := g3.safe hZ.alike hsf
  ⟨hx, hEL, vm0, k0, _, X', e', hS, by rw [W.size]; exact hk, hZ, hown, hC.trans (CHr.wr W S hC.1), hN.app fun y hy => by cases List.mem_singleton.mp hy; exact g1, ext_keep hO (Keep.of_wr W) (allS g1 all0), hK.wr W g2, fun x hx => ⟨by rw [W.size]; exact (hsf x hx).1, Safe.wr W S hC.1 (hsf x hx).2⟩, hlt⟩

theorem Wk.putF {n d R0 O host C : String} {index kk : Nat} {ty : FieldType} {a : Addr} {v old : Value} (X : Wk p l e R s m args below meth c Z a0 EL own ws T h sf lts cells slots) (w : (Cond.fieldLink own index R0 n d).before a0 Z = true ∨ (Cond.fieldLinkNest own index R0 n d host).before a0 Z = true) (via : Via Z R0 O n d)
    (F : Fld Z h a O n d old) (E : Exa Z h a C) (L : (Cond.lays C O n d).before a0 Z = true ∨ ((Cond.laysFinal C O n d).before a0 Z = true ∧ own = O ∧ meth.name = "<init>")) (wi : (Cond.instantiable C kk).before a0 Z = true) (hty : parseFieldDescriptor d = some ty) (hn : narrow ty v = v) (hf : fits ty v = true)
    (g1 : Z.heap.size ≤ a) (g2 : a ∈ ws ∨ s.heap.size ≤ a) (g3 : Sfe Z h sf a) (hd : decode c.code pc = .ok (.putfield index, 3))
    (k : ∀ T' h', Wk p l e R s m args below meth c Z a0 EL own ws T' h' sf lts cells slots → Keep h h' [a] → Wr h h' a (Jvm.RoadKit.slotOf Z O n d) v → Go p e below P T' (mkF m (pc + 3) Ls rest)) : Go p e below P T (mkF m pc Ls (v :: .ref a :: rest)) := by
  obtain ⟨hx, hEL, vm0, k0, locs, X, eT, hS, hk, hZ, hown, hC, hN, hO, hK, hsf, hlt⟩ := X
  obtain ⟨T', h', X', e', W, st'⟩ := Jvm.RoadKit.putF X hx (s := s.setVm vm0) hZ hown w via eT F E L wi hty hn hf (g := mkF m pc Ls (v :: .ref a :: rest)) rfl rfl hd
  exact Go.of st' (k T' h' (Wk.wrote hx hEL X' e' W hS hk hZ hown hC hN hO hK hsf hlt g1 g2 g3) (Keep.of_wr W) W)
theorem Wk.putFN {n d R0 O C : String} {index kk : Nat} {ty : FieldType} {a : Addr} {v v' old : Value} (X : Wk p l e R s m args below meth c Z a0 EL own ws T h sf lts cells slots) (w : (Cond.fieldLink own index R0 n d).before a0 Z = true) (via : Via Z R0 O n d)
    (F : Fld Z h a O n d old) (E : Exa Z h a C) (L : (Cond.lays C O n d).before a0 Z = true ∨ ((Cond.laysFinal C O n d).before a0 Z = true ∧ own = O ∧ meth.name = "<init>")) (wi : (Cond.instantiable C kk).before a0 Z = true) (hty : parseFieldDescriptor d = some ty) (hn : narrow ty v = v') (hf : fits ty v' = true)
    (g1 : Z.heap.size ≤ a) (g2 : a ∈ ws ∨ s.heap.size ≤ a) (g3 : Sfe Z h sf a) (hd : decode c.code pc = .ok (.putfield index, 3))
    (k : ∀ T' h', Wk p l e R s m args below meth c Z a0 EL own ws T' h' sf lts cells slots → Keep h h' [a] → Wr h h' a (Jvm.RoadKit.slotOf Z O n d) v' → Go p e below P T' (mkF m (pc + 3) Ls rest)) : Go p e below P T (mkF m pc Ls (v :: .ref a :: rest)) := by
  obtain ⟨hx, hEL, vm0, k0, locs, X, eT, hS, hk, hZ, hown, hC, hN, hO, hK, hsf, hlt⟩ := X
  obtain ⟨T', h', X', e', W, st'⟩ := Jvm.RoadKit.putFN X hx (s := s.setVm vm0) hZ hown w via eT F E L wi hty hn hf (g := mkF m pc Ls (v :: .ref a :: rest)) rfl rfl hd
  exact Go.of st' (k T' h' (Wk.wrote hx hEL X' e' W hS hk hZ hown hC hN hO hK hsf hlt g1 g2 g3) (Keep.of_wr W) W)

theorem Wk.stC {a : Addr} {kc : ClassId} {z j x : Int32} {vs : List Value} {dv : Value} (i : Nat) (X : Wk p l e R s m args below meth c Z a0 EL own ws T h sf lts cells slots) (A : Arv Z h a kc .char z vs dv) (hj : ¬ j < 0 ∧ j < z) (hi : j.toNatClampNeg = i) (hl : i < vs.length)
    (g1 : Z.heap.size ≤ a) (g2 : a ∈ ws ∨ s.heap.size ≤ a) (hd : decode c.code pc = .ok (.castore, 1))
    (k : ∀ T' h', Wk p l e R s m args below meth c Z a0 EL own ws T' h' sf lts cells slots → Keep h h' [a] → Arv Z h' a kc .char z (vs.set i (.int (nar .char x))) dv → Go p e below P T' (mkF m (pc + 1) Ls rest)) : Go p e below P T (mkF m pc Ls (.int x :: .int j :: .ref a :: rest)) := by
  have g3 : Sfe Z h sf a := Sfe.arv A
  obtain ⟨hx, hEL, vm0, k0, locs, X, eT, hS, hk, hZ, hown, hC, hN, hO, hK, hsf, hlt⟩ := X
  obtain ⟨cl, A1, A2, A3, A4, A5, A6⟩ := A
  obtain ⟨T', h', X', e', W, st'⟩ := Jvm.RoadKit.stC X hx (s := s.setVm vm0) hZ eT A1 (inb_of A3 hj) (g := mkF m pc Ls (.int x :: .int j :: .ref a :: rest)) rfl rfl hd
  exact Go.of st' (k T' h' (Wk.wrote hx hEL X' e' W hS hk hZ hown hC hN hO hK hsf hlt g1 g2 g3) (Keep.of_wr W) (Arv.set A1 A2 A3 A4 A5 A6 (fits_nar_char _) W i hi hl))
theorem Wk.stB {a : Addr} {kc : ClassId} {z j x : Int32} {vs : List Value} {dv : Value} (i : Nat) (X : Wk p l e R s m args below meth c Z a0 EL own ws T h sf lts cells slots) (A : Arv Z h a kc .byte z vs dv) (hj : ¬ j < 0 ∧ j < z) (hi : j.toNatClampNeg = i) (hl : i < vs.length)
    (g1 : Z.heap.size ≤ a) (g2 : a ∈ ws ∨ s.heap.size ≤ a) (g3 : Sfe Z h sf a) (hd : decode c.code pc = .ok (.bastore, 1))
    (k : ∀ T' h', Wk p l e R s m args below meth c Z a0 EL own ws T' h' sf lts cells slots → Keep h h' [a] → Arv Z h' a kc .byte z (vs.set i (.int (nar .byte x))) dv → Go p e below P T' (mkF m (pc + 1) Ls rest)) : Go p e below P T (mkF m pc Ls (.int x :: .int j :: .ref a :: rest)) := by
  obtain ⟨hx, hEL, vm0, k0, locs, X, eT, hS, hk, hZ, hown, hC, hN, hO, hK, hsf, hlt⟩ := X
  obtain ⟨cl, A1, A2, A3, A4, A5, A6⟩ := A
  obtain ⟨T', h', X', e', W, st'⟩ := Jvm.RoadKit.stB X hx (s := s.setVm vm0) hZ eT A1 (inb_of A3 hj) (g := mkF m pc Ls (.int x :: .int j :: .ref a :: rest)) rfl rfl hd
  exact Go.of st' (k T' h' (Wk.wrote hx hEL X' e' W hS hk hZ hown hC hN hO hK hsf hlt g1 g2 g3) (Keep.of_wr W) (Arv.set A1 A2 A3 A4 A5 A6 (fits_nar_byte _) W i hi hl))

theorem Wk.ldC {a : Addr} {kc : ClassId} {z j : Int32} {v : Value} {vs : List Value} {dv : Value} (X : Wk p l e R s m args below meth c Z a0 EL own ws T h sf lts cells slots) (A : Arv Z h a kc .char z vs dv) (hj : ¬ j < 0 ∧ j < z) (hv : vs.getD j.toNatClampNeg dv = v) (hd : decode c.code pc = .ok (.caload, 1))
    (k : Go p e below P T (mkF m (pc + 1) Ls (v :: rest))) : Go p e below P T (mkF m pc Ls (.int j :: .ref a :: rest)) := by
  obtain ⟨hx, hEL, vm0, k0, locs, X, eT, hS, hk, hZ, q⟩ := X
  obtain ⟨cl, A1, A2, A3, A4, A5, A6⟩ := A
  exact Go.of (fun t k => X.caload hx (by rw [eT]; exact A1.1) (State.isArrayOf_alike hZ.alike A1.2.1) A1.2.2 (inb_of A3 hj) (A5.at (inb_of A3 hj) hv) (g := mkF m pc Ls (.int j :: .ref a :: rest)) rfl rfl hd t k) k
theorem Wk.ldB {a : Addr} {kc : ClassId} {z j : Int32} {v : Value} {vs : List Value} {dv : Value} (X : Wk p l e R s m args below meth c Z a0 EL own ws T h sf lts cells slots) (A : Arv Z h a kc .byte z vs dv) (hj : ¬ j < 0 ∧ j < z) (hv : vs.getD j.toNatClampNeg dv = v) (hd : decode c.code pc = .ok (.baload, 1))
    (k : Go p e below P T (mkF m (pc + 1) Ls (v :: rest))) : Go p e below P T (mkF m pc Ls (.int j :: .ref a :: rest)) := by
  obtain ⟨hx, hEL, vm0, k0, locs, X, eT, hS, hk, hZ, q⟩ := X
  obtain ⟨cl, A1, A2, A3, A4, A5, A6⟩ := A
  exact Go.of (fun t k => X.baloadBytes hx (by rw [eT]; exact A1.1) (State.isArrayOf_alike hZ.alike A1.2.1) A1.2.2 (inb_of A3 hj) (A5.at (inb_of A3 hj) hv) (g := mkF m pc Ls (.int j :: .ref a :: rest)) rfl rfl hd t k) k
theorem Wk.ldR {a : Addr} {kc : ClassId} {ty : FieldType} {z j : Int32} {v : Value} {vs : List Value} {dv : Value} (X : Wk p l e R s m args below meth c Z a0 EL own ws T h sf lts cells slots) (A : Arv Z h a kc ty z vs dv) (hty : ty.isReference = true) (hj : ¬ j < 0 ∧ j < z) (hv : vs.getD j.toNatClampNeg dv = v) (hd : decode c.code pc = .ok (.aaload, 1))
    (k : Go p e below P T (mkF m (pc + 1) Ls (v :: rest))) : Go p e below P T (mkF m pc Ls (.int j :: .ref a :: rest)) := by
  obtain ⟨hx, hEL, vm0, k0, locs, X, eT, hS, hk, hZ, q⟩ := X
  obtain ⟨cl, A1, A2, A3, A4, A5, A6⟩ := A
  exact Go.of (fun t k => X.aaload hx (by rw [eT]; exact A1.1) (State.isArrayOf_alike hZ.alike A1.2.1) hty A1.2.2 (inb_of A3 hj) (A5.at (inb_of A3 hj) hv) (g := mkF m pc Ls (.int j :: .ref a :: rest)) rfl rfl hd t k) k
theorem Wk.len {a : Addr} {kc : ClassId} {ty : FieldType} {z : Int32} {vs : List Value} {dv : Value} (X : Wk p l e R s m args below meth c Z a0 EL own ws T h sf lts cells slots) (A : Arv Z h a kc ty z vs dv) (hd : decode c.code pc = .ok (.arraylength, 1))
    (k : Go p e below P T (mkF m (pc + 1) Ls (.int z :: rest))) : Go p e below P T (mkF m pc Ls (.ref a :: rest)) := by
  obtain ⟨hx, hEL, vm0, k0, locs, X, eT, hS, hk, hZ, q⟩ := X
  obtain ⟨cl, A1, A2, A3, A4, A5, A6⟩ := A
  refine Go.of (fun t k => X.arraylength hx (by rw [eT]; exact A1.1) (State.isArrayOf_alike hZ.alike A1.2.1) (g := mkF m pc Ls (.ref a :: rest)) rfl rfl hd t k) ?_
  rw [len_of A3 A4]
  exact k

/-- ldc of a String constant of EL, read -/
theorem Wk.ldcR {index n : Nat} {text : String} {vs : List Value} {z : Int32} {st : List Value} (X : Wk p l e R s m args below meth c Z a0 EL own ws T h sf lts cells slots) (w : (Cond.stringLink own index text).before a0 Z = true) (wS : ∀ a ∈ Bundle.stringAtoms, a.before a0 Z = true) (hmem : (own, index) ∈ EL)
    (ht : (∀ c ∈ text.toList, c.toNat < 256) ∧ text.toList.map (fun c => Value.int (Jvm.Lit.byteI c.toNat.toUInt16)) = vs) (hz : ¬ z < 0) (hl : z.toNatClampNeg = vs.length) (hd : decode c.code pc = .ok (.ldc index, 2)) (hn : 4 * text.toList.length ≤ n) (hbig : n ≤ 536870912) (hc : cells + 2 ≤ R.cells) (hl' : slots + (n + 4) ≤ R.slots)
    (k : ∀ (T' : State) (h' : Heap) (a b : Nat) (kb : ClassId), Wk p l e R s m args below meth c Z a0 EL own ws T' h' sf [(index, a)] (cells + 2) (slots + (n + 4)) → Ext h h' → Exa Z h' a "java/lang/String" → Fld Z h' a "java/lang/String" "coder" "B" (.int 0) → Fld Z h' a "java/lang/String" "value" "[B" (.ref b) → Arv Z h' b kb .byte z vs (.int 0) → (∀ x ∈ sf, x ≠ a ∧ x ≠ b) → Go p e below P T' (mkF m (pc + 2) Ls (.ref a :: st))) : Go p e below P T (mkF m pc Ls st) := by
  obtain ⟨hx, hEL, vm0, k0, locs, X, eT, hS, hk, hZ, hown, hC, hN, hO, hK, hsf, hlt⟩ := X
  obtain ⟨a, T', h', k1, b, kb, X', e', E, hS', hk', hZ', hown', A1, A2, A3, A4, -, -, hC', hL, hne, st'⟩ := ldcCH X hx hZ hown w wS eT hS hk hEL hmem hC.1 ht hz hl (g := mkF m pc Ls st) rfl hd hn hbig hc hl'
  have hls : ∀ x ∈ sf, x < h'.size ∧ Safe Z EL T'.vm h' x := fun x hx => ⟨Nat.lt_of_lt_of_le (hsf x hx).1 E.1, hC'.safe (hsf x hx).1 (hsf x hx).2⟩
  exact Go.of st' (k T' h' a b kb ⟨hx, hEL, T'.vm, k1, locs, X', e', hS', hk', hZ', hown', hC.trans hC', hN, ext_trans hO E, hK.ext E, hls, fun q hq => by rw [List.mem_singleton.mp hq]; exact hL⟩ E A1 A2 A3 A4 fun x hx => hne x (hls x hx).2)
/-- ldc of a String constant, opaque -/
theorem Wk.ldcO {index n : Nat} {text : String} {st : List Value} (X : Wk p l e R s m args below meth c Z a0 EL own ws T h sf lts cells slots) (w : (Cond.stringLink own index text).before a0 Z = true) (wS : ∀ a ∈ Bundle.stringAtoms, a.before a0 Z = true)
    (hd : decode c.code pc = .ok (.ldc index, 2)) (hn : 4 * text.toList.length ≤ n) (hbig : n ≤ 536870912) (hc : cells + 2 ≤ R.cells) (hl' : slots + (n + 4) ≤ R.slots)
    (k : ∀ (T' : State) (h' : Heap) (a : Nat), Wk p l e R s m args below meth c Z a0 EL own ws T' h' sf [(index, a)] (cells + 2) (slots + (n + 4)) → Ext h h' → Go p e below P T' (mkF m (pc + 2) Ls (.ref a :: st))) : Go p e below P T (mkF m pc Ls st) := by
  obtain ⟨hx, hEL, vm0, k0, locs, X, eT, hS, hk, hZ, hown, hC, hN, hO, hK, hsf, hlt⟩ := X
  obtain ⟨a, T', h', k1, X', e', E, hS', hk', hZ', hown', hC', hL, st'⟩ := ldcOH X hx hZ hown w wS eT hS hk hEL hC.1 (g := mkF m pc Ls st) rfl hd hn hbig hc hl'
  exact Go.of st' (k T' h' a ⟨hx, hEL, T'.vm, k1, locs, X', e', hS', hk', hZ', hown', hC.trans hC', hN, ext_trans hO E, hK.ext E, fun x hx => ⟨Nat.lt_of_lt_of_le (hsf x hx).1 E.1, hC'.safe (hsf x hx).1 (hsf x hx).2⟩, fun q hq => by rw [List.mem_singleton.mp hq]; exact hL⟩ E)

/-- ldc of a constant that this method has loaded already -/
theorem Wk.ldcA {index : Nat} {text : String} {a : Addr} {st : List Value} (X : Wk p l e R s m args below meth c Z a0 EL own ws T h sf lts cells slots) (w : (Cond.stringLink own index text).before a0 Z = true) (hq : (index, a) ∈ lts)
    (hd : decode c.code pc = .ok (.ldc index, 2)) (k : Go p e below P T (mkF m (pc + 2) Ls (.ref a :: st))) : Go p e below P T (mkF m pc Ls st) := by
  obtain ⟨hx, hEL, vm0, k0, locs, X, eT, hS, hk, hZ, hown, hC, hN, hO, hK, hsf, hlt⟩ := X
  exact Go.of (ldcAgain X hx hZ hown w (hlt _ hq) (g := mkF m pc Ls st) rfl hd) k

/-- a callee's contract pays the call -/
theorem pay {y : MethodName} {bytes : ByteArray} {maxL : Nat} {ret : Option FieldType} {rm : Room} {len W : Nat} {as' : Array Value} {ws' si : List Addr} {Q : Option Value → (Addr → Prop) → Heap → Prop} {vm0 : Vm}
    (hM : Met l Z EL y bytes maxL ret rm as' h ws' si Q) (hZ : Z.Warmed39 vm0) (wc : (Cond.code y bytes maxL ret).before a0 Z = true) (wz : (Cond.initialized y.cls).before a0 Z = true) (hf : rm.frames + 1 ≤ R.frames) (hl : W + (maxL + 11) + rm.locals ≤ R.locals) (hEL : EW Z a0 EL) (H : CHv Z EL vm0 h) (hO : Ext Z.heap h) (hsi : ∀ x ∈ si, x < h.size ∧ Safe Z EL vm0 h x) :
    BackS l R p e below (s.setVm vm0) args y len W (fun A a => a = as' ∧ A.U.heap = h ∧ A.cells + rm.cells ≤ R.cells ∧ A.slots + rm.slots ≤ R.slots)
      (fun A _ v B => ∃ L, (Q v (Safe Z EL B.U.vm B.U.heap) B.U.heap ∧ Fr Z.heap.size L ∧ Ext Z.heap B.U.heap ∧ Keep h B.U.heap ws') ∧ B.locs = A.locs ++ L ∧ B.cells = A.cells + rm.cells ∧ B.slots = A.slots + rm.slots ∧ CHr Z EL vm0 h B.U.vm B.U.heap) :=
  BackS.of_freeW (bytes := bytes) (maxL := maxL) (ret := ret) (E := fun _ first o t L k n => k = rm.cells ∧ n = rm.slots ∧ (∃ v, o = .returned v ∧ (Q v (Safe Z EL t.vm t.heap) t.heap ∧ Fr Z.heap.size L ∧ Ext Z.heap t.heap ∧ Keep first.heap t.heap ws')) ∧ CHr Z EL first.vm first.heap t.vm t.heap) (hM []) hf hl
    (fun m meth c A a Y hp => have hU : Z.Warmed39 A.U.vm := wtrans (s := s.setVm vm0) hZ Y.warmed
      ⟨by show (Cond.and _ .tt).before a A.U = true; rw [Cond.before_and, mv hU wc]; rfl, mv hU wc, mv hU wz, hp.2.2.1, hp.2.2.2⟩)
    (fun m meth c A a g mk Y hp => ⟨hp.1, wtrans (s := s.setVm vm0) hZ Y.warmed, hp.2.1, (CHv.at Y hZ hEL H).1, hO, fun x hx => ⟨(hsi x hx).1, safe_any (CHv.at Y hZ hEL H) (hsi x hx).2⟩⟩) (fun _ _ _ _ _ _ _ _ _ => trivial)
    (fun _ _ _ _ ⟨v, L, h1, h2, h3, h4⟩ => ⟨L, _, _, h4, rfl, rfl, ⟨v, h1, h2⟩, h3⟩)
    (fun m meth c A a g mk v t L k n Y hp _ _ ⟨e1, e2, ⟨v', e3, e4, e5, e6, e7⟩, e8⟩ => by
      cases e3; subst e1 e2
      have eh : A.U.heap = h := hp.2.1
      refine ⟨L, ⟨e4, e5, e6, ?_⟩, rfl, rfl, rfl, (CHv.at Y hZ hEL H).trans ?_⟩
      · rw [← eh]; exact e7
      · rw [← eh]; exact e8)

/-- behind a call that may have interned -/
theorem Wk.back {T' : State} {ws' : List Addr} {vm0 : Vm} {k0 : Nat} {locs L : List Loc} {cells' slots' : Nat} (hx : p.tables.exec = Jvm.exec) (hEL : EW Z a0 EL) (hS : s.Since vm0 k0) (hk : k0 ≤ h.size) (hZ : Z.Warmed39 vm0) (hown : vm0.findClass own = some m.cls) (hC : CHr Z EL s.vm s.heap vm0 h) (hN : Fr Z.heap.size locs) (hO : Ext Z.heap T'.heap) (hK : Keep s.heap h ws) (hsf : ∀ x ∈ sf, x < h.size ∧ Safe Z EL vm0 h x) (hlt : ∀ q ∈ lts, Lit (s.setVm vm0) own q.1 q.2)
    (X' : Stand p l e R ((s.setVm vm0).setVm T'.vm) m args below meth c T' (locs ++ L) cells' slots') (hS' : (s.setVm vm0).Since T'.vm T'.heap.size) (hL : Fr Z.heap.size L) (hK' : Keep h T'.heap ws') (hC' : CHr Z EL vm0 h T'.vm T'.heap) (hws : ∀ x ∈ ws', x ∈ ws ∨ s.heap.size ≤ x) (sf' : List Addr) (hsf' : ∀ x ∈ sf', x < T'.heap.size ∧ Safe Z EL T'.vm T'.heap x) :
    Wk p l e R s m args below meth c Z a0 EL own ws T' T'.heap (sf' ++ sf) lts cells' slots' := by
  obtain ⟨X2, h2, h3, h4⟩ := rebS hS hk X' hS' hK'.1 hZ hown
  refine ⟨hx, hEL, T'.vm, _, locs ++ L, X2, rfl, h2, Nat.le_refl _, h3, h4, hC.trans hC', hN.app hL, hO, hK.trans hK' hws, fun x hx => ?_, fun q hq => (hlt q hq).stays hS'.1⟩
  rcases List.mem_append.mp hx with q | q
  · exact hsf' x q
  · exact ⟨Nat.lt_of_lt_of_le (hsf x q).1 hK'.1, hC'.safe (hsf x q).1 (hsf x q).2⟩

theorem sfe_all {vm : Vm} {si : List Addr} (hal : Z.vm.Alike vm) (hsf : ∀ x ∈ sf, x < h.size ∧ Safe Z EL vm h x) (q : ∀ x ∈ si, Sfe Z h sf x) : ∀ x ∈ si, x < h.size ∧ Safe Z EL vm h x := fun x hx => ⟨by
  rcases q x hx with r | ⟨C, E, -⟩ | ⟨cl, ty, A, -⟩
  · exact (hsf x r).1
  · exact E.lt
  · exact A.lt, (q x hx).safe hal hsf⟩

theorem Wk.callS {index W maxL : Nat} {y : MethodName} {bytes : ByteArray} {ret : Option FieldType} {rm : Room} {ws' si : List Addr} {Q : Option Value → (Addr → Prop) → Heap → Prop} {argsL stk : List Value} {ps : List FieldType} {r : Option FieldType} (X : Wk p l e R s m args below meth c Z a0 EL own ws T h sf lts cells slots)
    (w1 : (Cond.methodLink own index y).before a0 Z = true) (w2 : (Cond.static y).before a0 Z = true) (w3 : (Cond.initialized y.cls).before a0 Z = true) (w4 : (Cond.code y bytes maxL ret).before a0 Z = true) (hy : y.cls ≠ "java/lang/invoke/MethodHandle" ∧ y.cls ≠ "java/lang/invoke/VarHandle")
    (hM : Met l Z EL y bytes maxL ret rm argsL.toArray h ws' si Q) (hpd : parseMethodDescriptor y.desc = some ⟨ps, r⟩) (hlen : argsL.length = ps.length) (hst : stk = argsL.reverse ++ rest) (hW : (rest.map fun v => v.category).sum = W) (hsize : Ls.size = c.maxLocals) (hf : rm.frames + 1 ≤ R.frames) (hlo : W + (maxL + 11) + rm.locals ≤ R.locals) (hce : cells + rm.cells ≤ R.cells) (hsl : slots + rm.slots ≤ R.slots)
    (hd : decode c.code pc = .ok (.invokestatic index, 3)) (hws : ∀ x ∈ ws', x ∈ ws ∨ s.heap.size ≤ x) (hsi : ∀ x ∈ si, Sfe Z h sf x)
    (k : ∀ v T' h' (S : Addr → Prop), (∀ sf', (∀ x ∈ sf', x < h'.size ∧ S x) → Wk p l e R s m args below meth c Z a0 EL own ws T' h' (sf' ++ sf) lts (cells + rm.cells) (slots + rm.slots)) → Keep h h' ws' → Q v S h' → Go p e below P T' (mkF m (pc + 3) Ls (v.toList ++ rest))) : Go p e below P T (mkF m pc Ls stk) := by
  subst hst
  obtain ⟨hx, hEL, vm0, k0, locs, X, eT, hS, hk, hZ, hown, hC, hN, hO, hK, hsf, hlt⟩ := X
  obtain ⟨v, _, ⟨T', L', k', n'⟩, -, X', hS', -, ⟨L, ⟨hQ, hL, hO', hK'⟩, l1, l2, l3, hC'⟩, st⟩ := callSS X hx (y := y) hown (mvT (s := s.setVm vm0) hZ w1) (mvT (s := s.setVm vm0) hZ w2) (mvT (s := s.setVm vm0) hZ w3) (mvT (s := s.setVm vm0) hZ w4) hy (pay (W := W) hM hZ w4 w3 hf hlo hEL hC.1 hO (sfe_all hZ.alike hsf hsi)) (g := mkF m pc Ls (argsL.reverse ++ rest)) rfl hsize (argsL := argsL) (rest := rest) (lenOf hpd hlen) rfl (by rw [← hW]; show 2 * 0 + _ ≤ _; omega) hd (fun _ _ => ⟨rfl, eT, hce, hsl⟩)
  dsimp only [Pt.U, Pt.locs, Pt.cells, Pt.slots] at X' hS' hQ hO' hK' l1 l2 l3 hC' st
  subst l1 l2 l3
  exact Go.of (fun t q => st.trans q) (k v T' T'.heap _ (fun sf' q => Wk.back hx hEL hS hk hZ hown hC hN hO' hK hsf hlt X' hS' hL hK' hC' hws sf' q) hK' hQ)

theorem Wk.callC {index W maxL : Nat} {y : MethodName} {bytes : ByteArray} {rm : Room} {ws' si : List Addr} {Q : Option Value → (Addr → Prop) → Heap → Prop} {a : Addr} {argsL stk : List Value} {ps : List FieldType} {r : Option FieldType} (X : Wk p l e R s m args below meth c Z a0 EL own ws T h sf lts cells slots) (hy1 : y.name = "<init>")
    (w1 : (Cond.methodLink own index y).before a0 Z = true) (w2 : (Cond.instanceMethod y).before a0 Z = true) (w3 : (Cond.initialized y.cls).before a0 Z = true) (w4 : (Cond.code y bytes maxL none).before a0 Z = true) (hy : y.cls ≠ "java/lang/invoke/MethodHandle" ∧ y.cls ≠ "java/lang/invoke/VarHandle")
    (hM : Met l Z EL y bytes maxL none rm (.ref a :: argsL).toArray h ws' si Q) (hpd : parseMethodDescriptor y.desc = some ⟨ps, r⟩) (hlen : argsL.length = ps.length) (hst : stk = argsL.reverse ++ .ref a :: rest) (hW : (rest.map fun v => v.category).sum = W) (hsize : Ls.size = c.maxLocals) (hf : rm.frames + 1 ≤ R.frames) (hlo : W + (maxL + 11) + rm.locals ≤ R.locals) (hce : cells + rm.cells ≤ R.cells) (hsl : slots + rm.slots ≤ R.slots)
    (hd : decode c.code pc = .ok (.invokespecial index, 3)) (hws : ∀ x ∈ ws', x ∈ ws ∨ s.heap.size ≤ x) (hsi : ∀ x ∈ si, Sfe Z h sf x)
    (k : ∀ v T' h' (S : Addr → Prop), (∀ sf', (∀ x ∈ sf', x < h'.size ∧ S x) → Wk p l e R s m args below meth c Z a0 EL own ws T' h' (sf' ++ sf) lts (cells + rm.cells) (slots + rm.slots)) → Keep h h' ws' → Q v S h' → Go p e below P T' (mkF m (pc + 3) Ls (v.toList ++ rest))) : Go p e below P T (mkF m pc Ls stk) := by
  subst hst
  obtain ⟨hx, hEL, vm0, k0, locs, X, eT, hS, hk, hZ, hown, hC, hN, hO, hK, hsf, hlt⟩ := X
  obtain ⟨v, _, ⟨T', L', k', n'⟩, -, X', hS', -, ⟨L, ⟨hQ, hL, hO', hK'⟩, l1, l2, l3, hC'⟩, st⟩ := X.specialBackS hx (y := y) hy1 hown (mvT (s := s.setVm vm0) hZ w1) (mvT (s := s.setVm vm0) hZ w2) (mvT (s := s.setVm vm0) hZ w4) hy (pay (W := W) hM hZ w4 w3 hf hlo hEL hC.1 hO (sfe_all hZ.alike hsf hsi)) (g := mkF m pc Ls (argsL.reverse ++ .ref a :: rest)) rfl hsize (Steps.refl _) (a := a) (argsL := argsL) (rest := rest) (lenOf hpd hlen) rfl (by rw [← hW]; show 2 * 0 + _ ≤ _; omega) hd (fun _ _ => ⟨rfl, eT, hce, hsl⟩)
  dsimp only [Pt.U, Pt.locs, Pt.cells, Pt.slots] at X' hS' hQ hO' hK' l1 l2 l3 hC' st
  subst l1 l2 l3
  exact Go.of (fun t q => st.trans q) (k v T' T'.heap _ (fun sf' q => Wk.back hx hEL hS hk hZ hown hC hN hO' hK hsf hlt X' hS' hL hK' hC' hws sf' q) hK' hQ)

theorem Wk.callV {index W maxL : Nat} {C : String} {y z : MethodName} {bytes : ByteArray} {ret : Option FieldType} {rm : Room} {ws' si : List Addr} {Q : Option Value → (Addr → Prop) → Heap → Prop} {a : Addr} {argsL stk : List Value} {ps : List FieldType} {r : Option FieldType} (X : Wk p l e R s m args below meth c Z a0 EL own ws T h sf lts cells slots)
    (w1 : (Cond.methodLink own index y).before a0 Z = true) (w2 : (Cond.declares y).before a0 Z = true) (nf : ∀ s' : State, Z.Warmed39 s'.vm → NotFace s' y) (w3 : (Cond.selects C y z).before a0 Z = true) (w4 : (Cond.instanceMethod z).before a0 Z = true) (w5 : (Cond.initialized z.cls).before a0 Z = true) (w6 : (Cond.code z bytes maxL ret).before a0 Z = true) (hy : y.cls ≠ "java/lang/invoke/MethodHandle" ∧ y.cls ≠ "java/lang/invoke/VarHandle")
    (hM : Met l Z EL z bytes maxL ret rm (.ref a :: argsL).toArray h ws' si Q) (E : Exa Z h a C) (hpd : parseMethodDescriptor y.desc = some ⟨ps, r⟩) (hlen : argsL.length = ps.length) (hst : stk = argsL.reverse ++ .ref a :: rest) (hW : (rest.map fun v => v.category).sum = W) (hsize : Ls.size = c.maxLocals) (hf : rm.frames + 1 ≤ R.frames) (hlo : W + (maxL + 11) + rm.locals ≤ R.locals) (hce : cells + rm.cells ≤ R.cells) (hsl : slots + rm.slots ≤ R.slots)
    (hd : decode c.code pc = .ok (.invokevirtual index, 3)) (hws : ∀ x ∈ ws', x ∈ ws ∨ s.heap.size ≤ x) (hsi : ∀ x ∈ si, Sfe Z h sf x)
    (k : ∀ v T' h' (S : Addr → Prop), (∀ sf', (∀ x ∈ sf', x < h'.size ∧ S x) → Wk p l e R s m args below meth c Z a0 EL own ws T' h' (sf' ++ sf) lts (cells + rm.cells) (slots + rm.slots)) → Keep h h' ws' → Q v S h' → Go p e below P T' (mkF m (pc + 3) Ls (v.toList ++ rest))) : Go p e below P T (mkF m pc Ls stk) := by
  subst hst
  obtain ⟨hx, hEL, vm0, k0, locs, X, eT, hS, hk, hZ, hown, hC, hN, hO, hK, hsf, hlt⟩ := X
  obtain ⟨cq, kq, qa, qb, qc⟩ := isOf (s := s.setVm vm0) hZ eT E
  obtain ⟨v, _, ⟨T', L', k', n'⟩, -, X', hS', -, ⟨L, ⟨hQ, hL, hO', hK'⟩, l1, l2, l3, hC'⟩, st⟩ := X.virtualBackS hx (y := y) (z := z) hown (mvT (s := s.setVm vm0) hZ w1) (mvT (s := s.setVm vm0) hZ w2) (nf _ hZ) (mvT (s := s.setVm vm0) hZ w3) (mvT (s := s.setVm vm0) hZ w4) hy (pay (W := W) hM hZ w6 w5 hf hlo hEL hC.1 hO (sfe_all hZ.alike hsf hsi)) qa qc (g := mkF m pc Ls (argsL.reverse ++ .ref a :: rest)) rfl hsize (Steps.refl _) (argsL := argsL) (rest := rest) (lenOf hpd hlen) rfl (by rw [← hW]; show 2 * 0 + _ ≤ _; omega) hd (fun _ _ => ⟨rfl, eT, hce, hsl⟩)
  dsimp only [Pt.U, Pt.locs, Pt.cells, Pt.slots] at X' hS' hQ hO' hK' l1 l2 l3 hC' st
  subst l1 l2 l3
  exact Go.of (fun t q => st.trans q) (k v T' T'.heap _ (fun sf' q => Wk.back hx hEL hS hk hZ hown hC hN hO' hK hsf hlt X' hS' hL hK' hC' hws sf' q) hK' hQ)

theorem Wk.callI {index count W maxL : Nat} {C : String} {y z : MethodName} {bytes : ByteArray} {ret : Option FieldType} {rm : Room} {ws' si : List Addr} {Q : Option Value → (Addr → Prop) → Heap → Prop} {a : Addr} {argsL stk : List Value} {ps : List FieldType} {r : Option FieldType} (X : Wk p l e R s m args below meth c Z a0 EL own ws T h sf lts cells slots)
    (w1 : (Cond.methodLink own index y).before a0 Z = true) (w2 : (Cond.declares y).before a0 Z = true) (w3 : ∀ (s' : State) (args' : Array Value), Z.Warmed39 s'.vm → (Cond.interfaceMethod y.cls y.cls y.name y.desc).before args' s' = true) (w4 : (Cond.selects C y z).before a0 Z = true) (w5 : (Cond.instanceMethod z).before a0 Z = true) (w6 : (Cond.publicMethod z).before a0 Z = true) (w7 : (Cond.unhidden C y.name y.desc).before a0 Z = true) (w8 : (Cond.castable C y.cls).before a0 Z = true) (w9 : (Cond.initialized z.cls).before a0 Z = true) (w10 : (Cond.code z bytes maxL ret).before a0 Z = true) (hy : y.cls ≠ "java/lang/invoke/MethodHandle" ∧ y.cls ≠ "java/lang/invoke/VarHandle")
    (hM : Met l Z EL z bytes maxL ret rm (.ref a :: argsL).toArray h ws' si Q) (E : Exa Z h a C) (hpd : parseMethodDescriptor y.desc = some ⟨ps, r⟩) (hlen : argsL.length = ps.length) (hst : stk = argsL.reverse ++ .ref a :: rest) (hW : (rest.map fun v => v.category).sum = W) (hsize : Ls.size = c.maxLocals) (hf : rm.frames + 1 ≤ R.frames) (hlo : W + (maxL + 11) + rm.locals ≤ R.locals) (hce : cells + rm.cells ≤ R.cells) (hsl : slots + rm.slots ≤ R.slots)
    (hd : decode c.code pc = .ok (.invokeinterface index count, 5)) (hws : ∀ x ∈ ws', x ∈ ws ∨ s.heap.size ≤ x) (hsi : ∀ x ∈ si, Sfe Z h sf x)
    (k : ∀ v T' h' (S : Addr → Prop), (∀ sf', (∀ x ∈ sf', x < h'.size ∧ S x) → Wk p l e R s m args below meth c Z a0 EL own ws T' h' (sf' ++ sf) lts (cells + rm.cells) (slots + rm.slots)) → Keep h h' ws' → Q v S h' → Go p e below P T' (mkF m (pc + 5) Ls (v.toList ++ rest))) : Go p e below P T (mkF m pc Ls stk) := by
  subst hst
  obtain ⟨hx, hEL, vm0, k0, locs, X, eT, hS, hk, hZ, hown, hC, hN, hO, hK, hsf, hlt⟩ := X
  obtain ⟨cq, kq, qa, qb, qc⟩ := isOf (s := s.setVm vm0) hZ eT E
  obtain ⟨v, _, ⟨T', L', k', n'⟩, -, X', hS', -, ⟨L, ⟨hQ, hL, hO', hK'⟩, l1, l2, l3, hC'⟩, st⟩ := X.interfaceBackS hx (xi := y) (y := z) hown (mvT (s := s.setVm vm0) hZ w1) (mvT (s := s.setVm vm0) hZ w2) (w3 _ _ hZ) (mvT (s := s.setVm vm0) hZ w4) (mvT (s := s.setVm vm0) hZ w5) (mvT (s := s.setVm vm0) hZ w6) (mvT (s := s.setVm vm0) hZ w7) (mvT (s := s.setVm vm0) hZ w8) hy (pay (W := W) hM hZ w10 w9 hf hlo hEL hC.1 hO (sfe_all hZ.alike hsf hsi)) qa qb qc (g := mkF m pc Ls (argsL.reverse ++ .ref a :: rest)) rfl hsize (Steps.refl _) (argsL := argsL) (rest := rest) (lenOf hpd hlen) rfl (by rw [← hW]; show 2 * 0 + _ ≤ _; omega) hd (fun _ _ => ⟨rfl, eT, hce, hsl⟩)
  dsimp only [Pt.U, Pt.locs, Pt.cells, Pt.slots] at X' hS' hQ hO' hK' l1 l2 l3 hC' st
  subst l1 l2 l3
  exact Go.of (fun t q => st.trans q) (k v T' T'.heap _ (fun sf' q => Wk.back hx hEL hS hk hZ hown hC hN hO' hK hsf hlt X' hS' hL hK' hC' hws sf' q) hK' hQ)

/-- behind a call that interns nothing -/
theorem Wk.backN {T' : State} {ws' : List Addr} {vm0 : Vm} {k0 : Nat} {locs L : List Loc} {cells' slots' : Nat} (hx : p.tables.exec = Jvm.exec) (hEL : EW Z a0 EL) (hS : s.Since vm0 k0) (hk : k0 ≤ h.size) (hZ : Z.Warmed39 vm0) (hown : vm0.findClass own = some m.cls) (hC : CHr Z EL s.vm s.heap vm0 h) (hN : Fr Z.heap.size locs) (hO : Ext Z.heap h) (hK : Keep s.heap h ws) (hsf : ∀ x ∈ sf, x < h.size ∧ Safe Z EL vm0 h x) (hlt : ∀ q ∈ lts, Lit (s.setVm vm0) own q.1 q.2)
    (X' : Stand p l e R (s.setVm vm0) m args below meth c T' (locs ++ L) cells' slots') (hL : Fr Z.heap.size L) (hK' : Keep h T'.heap ws') (hw0 : ∀ x ∈ ws', Z.heap.size ≤ x) (hws : ∀ x ∈ ws', x ∈ ws ∨ s.heap.size ≤ x) (hsi : ∀ x ∈ ws', Sfe Z h sf x) :
    Wk p l e R s m args below meth c Z a0 EL own ws T' T'.heap sf lts cells' slots' :=
  have S := fun x hx => (hsi x hx).safe hZ.alike hsf
  ⟨hx, hEL, vm0, k0, locs ++ L, X', rfl, hS, Nat.le_trans hk hK'.1, hZ, hown, hC.trans (CHr.keep hK' S hC.1), hN.app hL, ext_keep hO hK' hw0, hK.trans hK' hws, fun x hx => ⟨Nat.lt_of_lt_of_le (hsf x hx).1 hK'.1, (hsf x hx).2.keep hK' S hC.1⟩, hlt⟩

theorem Wk.callCN {index W maxL nc ns : Nat} {y : MethodName} {bytes : ByteArray} {ws' : List Addr} {Qn : Option Value → Heap → List Loc → Prop} {a : Addr} {argsL stk : List Value} {ps : List FieldType} {r : Option FieldType} (X : Wk p l e R s m args below meth c Z a0 EL own ws T h sf lts cells slots) (hy1 : y.name = "<init>")
    (w1 : (Cond.methodLink own index y).before a0 Z = true) (w2 : (Cond.instanceMethod y).before a0 Z = true) (w4 : (Cond.code y bytes maxL none).before a0 Z = true) (hy : y.cls ≠ "java/lang/invoke/MethodHandle" ∧ y.cls ≠ "java/lang/invoke/VarHandle")
    (hB : ∀ vm0 : Vm, Z.Warmed39 vm0 → Back l R p e below (s.setVm vm0) args y 3 W (fun A a' => a' = (.ref a :: argsL).toArray ∧ A.U.heap = h ∧ A.cells + nc ≤ R.cells ∧ A.slots + ns ≤ R.slots) (fun A _ v B => ∃ L, Qn v B.U.heap L ∧ B.locs = A.locs ++ L ∧ B.cells = A.cells + nc ∧ B.slots = A.slots + ns)) (hQn : ∀ v h' L, Qn v h' L → Fr Z.heap.size L ∧ Keep h h' ws') (hpd : parseMethodDescriptor y.desc = some ⟨ps, r⟩) (hlen : argsL.length = ps.length) (hst : stk = argsL.reverse ++ .ref a :: rest) (hW : (rest.map fun v => v.category).sum = W) (hsize : Ls.size = c.maxLocals) (hce : cells + nc ≤ R.cells) (hsl : slots + ns ≤ R.slots)
    (hd : decode c.code pc = .ok (.invokespecial index, 3)) (hw0 : ∀ x ∈ ws', Z.heap.size ≤ x) (hws : ∀ x ∈ ws', x ∈ ws ∨ s.heap.size ≤ x) (hsi : ∀ x ∈ ws', Sfe Z h sf x)
    (k : ∀ v T' h', Wk p l e R s m args below meth c Z a0 EL own ws T' h' sf lts (cells + nc) (slots + ns) → Keep h h' ws' → (∃ L, Qn v h' L) → Go p e below P T' (mkF m (pc + 3) Ls (v.toList ++ rest))) : Go p e below P T (mkF m pc Ls stk) := by
  subst hst
  obtain ⟨hx, hEL, vm0, k0, locs, X, eT, hS, hk, hZ, hown, hC, hN, hO, hK, hsf, hlt⟩ := X
  obtain ⟨v, _, ⟨T', L', k', n'⟩, -, X', ⟨L, hQ, l1, l2, l3⟩, st⟩ := X.specialBack hx (y := y) hy1 hown (mvT (s := s.setVm vm0) hZ w1) (mvT (s := s.setVm vm0) hZ w2) (mvT (s := s.setVm vm0) hZ w4) hy (hB vm0 hZ) (g := mkF m pc Ls (argsL.reverse ++ .ref a :: rest)) rfl hsize (Steps.refl _) (a := a) (argsL := argsL) (rest := rest) (lenOf hpd hlen) rfl (by rw [← hW]; show 2 * 0 + _ ≤ _; omega) hd (fun _ _ => ⟨rfl, eT, hce, hsl⟩)
  dsimp only [Pt.U, Pt.locs, Pt.cells, Pt.slots] at X' hQ l1 l2 l3 st
  subst l1 l2 l3
  have q := hQn _ _ _ hQ
  exact Go.of (fun t q => st.trans q) (k v T' T'.heap (Wk.backN hx hEL hS hk hZ hown hC hN hO hK hsf hlt X' q.1 q.2 hw0 hws hsi) q.2 ⟨L, hQ⟩)

theorem Wk.callVN {index W nc ns : Nat} {C : String} {y z : MethodName} {ws' : List Addr} {Qn : Option Value → Heap → List Loc → Prop} {a : Addr} {argsL stk : List Value} {ps : List FieldType} {r : Option FieldType} (X : Wk p l e R s m args below meth c Z a0 EL own ws T h sf lts cells slots)
    (w1 : (Cond.methodLink own index y).before a0 Z = true) (w2 : (Cond.declares y).before a0 Z = true) (nf : ∀ s' : State, Z.Warmed39 s'.vm → NotFace s' y) (w3 : (Cond.selects C y z).before a0 Z = true) (w4 : (Cond.instanceMethod z).before a0 Z = true) (hy : y.cls ≠ "java/lang/invoke/MethodHandle" ∧ y.cls ≠ "java/lang/invoke/VarHandle")
    (hB : ∀ vm0 : Vm, Z.Warmed39 vm0 → Back l R p e below (s.setVm vm0) args z 3 W (fun A a' => a' = (.ref a :: argsL).toArray ∧ A.U.heap = h ∧ A.cells + nc ≤ R.cells ∧ A.slots + ns ≤ R.slots) (fun A _ v B => ∃ L, Qn v B.U.heap L ∧ B.locs = A.locs ++ L ∧ B.cells = A.cells + nc ∧ B.slots = A.slots + ns)) (hQn : ∀ v h' L, Qn v h' L → Fr Z.heap.size L ∧ Keep h h' ws') (E : Exa Z h a C) (hpd : parseMethodDescriptor y.desc = some ⟨ps, r⟩) (hlen : argsL.length = ps.length) (hst : stk = argsL.reverse ++ .ref a :: rest) (hW : (rest.map fun v => v.category).sum = W) (hsize : Ls.size = c.maxLocals) (hce : cells + nc ≤ R.cells) (hsl : slots + ns ≤ R.slots)
    (hd : decode c.code pc = .ok (.invokevirtual index, 3)) (hw0 : ∀ x ∈ ws', Z.heap.size ≤ x) (hws : ∀ x ∈ ws', x ∈ ws ∨ s.heap.size ≤ x) (hsi : ∀ x ∈ ws', Sfe Z h sf x)
    (k : ∀ v T' h', Wk p l e R s m args below meth c Z a0 EL own ws T' h' sf lts (cells + nc) (slots + ns) → Keep h h' ws' → (∃ L, Qn v h' L) → Go p e below P T' (mkF m (pc + 3) Ls (v.toList ++ rest))) : Go p e below P T (mkF m pc Ls stk) := by
  subst hst
  obtain ⟨hx, hEL, vm0, k0, locs, X, eT, hS, hk, hZ, hown, hC, hN, hO, hK, hsf, hlt⟩ := X
  obtain ⟨cq, kq, qa, qb, qc⟩ := isOf (s := s.setVm vm0) hZ eT E
  obtain ⟨v, _, ⟨T', L', k', n'⟩, -, X', ⟨L, hQ, l1, l2, l3⟩, st⟩ := X.virtualBack hx (y := y) (z := z) hown (mvT (s := s.setVm vm0) hZ w1) (mvT (s := s.setVm vm0) hZ w2) (nf _ hZ) (mvT (s := s.setVm vm0) hZ w3) (mvT (s := s.setVm vm0) hZ w4) hy (hB vm0 hZ) qa qc (g := mkF m pc Ls (argsL.reverse ++ .ref a :: rest)) rfl hsize (Steps.refl _) (argsL := argsL) (rest := rest) (lenOf hpd hlen) rfl (by rw [← hW]; show 2 * 0 + _ ≤ _; omega) hd (fun _ _ => ⟨rfl, eT, hce, hsl⟩)
  dsimp only [Pt.U, Pt.locs, Pt.cells, Pt.slots] at X' hQ l1 l2 l3 st
  subst l1 l2 l3
  have q := hQn _ _ _ hQ
  exact Go.of (fun t q => st.trans q) (k v T' T'.heap (Wk.backN hx hEL hS hk hZ hown hC hN hO hK hsf hlt X' q.1 q.2 hw0 hws hsi) q.2 ⟨L, hQ⟩)

theorem Wk.irem {x y : Int32} (X : Wk p l e R s m args below meth c Z a0 EL own ws T h sf lts cells slots) (hd : decode c.code pc = .ok (.irem, 1)) (hy : y ≠ 0) (k : Go p e below P T (mkF m (pc + 1) Ls (.int (x % y) :: rest))) : Go p e below P T (mkF m pc Ls (.int y :: .int x :: rest)) := by
  obtain ⟨hx, hEL, vm0, k0, locs, X, q⟩ := X
  exact Go.of (fun t k => iremM X hx rfl hd rfl hy k) k

/-- a String of Latin-1 chars cs: its object x, its byte[] t -/
def Str (Z : State) (h : Heap) (x t : Nat) (kb : ClassId) (cs : List Int32) : Prop :=
  Exa Z h x "java/lang/String" ∧ Fld Z h x "java/lang/String" "value" "[B" (.ref t) ∧ Fld Z h x "java/lang/String" "coder" "B" (.int 0) ∧ Arv Z h t kb .byte (Int32.ofNat cs.length) ((cs.map fun c => c.toInt8.toInt32).map Value.int) (.int 0) ∧ (∀ c ∈ cs, ¬ c < 0 ∧ ¬ (255 : Int32) < c) ∧ cs.length ≤ 4000
variable {x t : Nat} {kb : ClassId} {cs : List Int32} {h' : Heap}
theorem Str.ext (F : Str Z h x t kb cs) (E : Ext h h') : Str Z h' x t kb cs := ⟨F.1.ext E, F.2.1.ext E, F.2.2.1.ext E, F.2.2.2.1.ext E, F.2.2.2.2⟩
theorem Str.keep {ws' : List Addr} (F : Str Z h x t kb cs) (K : Keep h h' ws') (q : x ∉ ws') (r : t ∉ ws') : Str Z h' x t kb cs := ⟨F.1.keep K, F.2.1.keep K q, F.2.2.1.keep K q, F.2.2.2.1.keep K r, F.2.2.2.2⟩
theorem Str.lt (F : Str Z h x t kb cs) : x < h.size := F.1.lt
theorem Str.lt' (F : Str Z h x t kb cs) : t < h.size := F.2.2.2.1.lt
theorem Str.up (F : Str Z h x t kb cs) : ∀ c ∈ cs, ¬ c < 0 ∧ ¬ (65535 : Int32) < c := fun c hc => ⟨(F.2.2.2.2.1 c hc).1, fun q => (F.2.2.2.2.1 c hc).2 (by rw [Int32.lt_iff_toInt_lt] at q ⊢; have e1 : (65535 : Int32).toInt = 65535 := rfl; have e2 : (255 : Int32).toInt = 255 := rfl; omega)⟩

theorem and_nn (x m : Int32) (q : 0 ≤ m.toInt) : ¬ (x &&& m) < 0 ∧ (x &&& m).toNatClampNeg ≤ m.toInt.toNat := by
  have r := c_and x m q
  refine ⟨fun z => ?_, ?_⟩
  · rw [Int32.lt_iff_toInt_lt] at z
    have e : (0 : Int32).toInt = 0 := rfl
    omega
  · show (x &&& m).toInt.toNat ≤ _
    omega
theorem b8b8 (c : Int32) : c.toInt8.toInt32.toInt8.toInt32 = c.toInt8.toInt32 := by
  have e : c.toInt8.toInt32.toInt8 = c.toInt8 := by simp
  rw [e]
/-- (char) (c & 255) -/
theorem c255 (x : Int32) : (x &&& (255 : Int32)).toUInt32.toUInt16.toUInt32.toInt32 = x &&& 255 := i2c_mask x
theorem r255 (x : Int32) : ¬ (x &&& 255) < 0 ∧ ¬ (255 : Int32) < (x &&& 255) := by
  have r := c_and x 255 (by decide)
  have e : (0 : Int32).toInt = 0 := rfl
  have e2 : (255 : Int32).toInt = 255 := rfl
  refine ⟨fun z => ?_, fun z => ?_⟩ <;> rw [Int32.lt_iff_toInt_lt] at z <;> omega
theorem nar255 (x : Int32) (h0 : ¬ x < 0) (h1 : ¬ (255 : Int32) < x) : nar .char x = x := by
  show x.toUInt32.toUInt16.toUInt32.toInt32 = x
  have r := c_i2c x
  have e : (0 : Int32).toInt = 0 := rfl
  have e2 : (255 : Int32).toInt = 255 := rfl
  rw [Int32.lt_iff_toInt_lt] at h0 h1
  apply Int32.toInt_inj.mp
  omega

theorem Wk.instNull {index : Nat} (X : Wk p l e R s m args below meth c Z a0 EL own ws T h sf lts cells slots) (hd : decode c.code pc = .ok (.instanceof index, 3)) (k : Go p e below P T (mkF m (pc + 3) Ls (.int 0 :: rest))) : Go p e below P T (mkF m pc Ls (.null :: rest)) := by
  obtain ⟨hx, hEL, vm0, k0, locs, X, q⟩ := X
  exact Go.of (X.instanceofNull hx (g := mkF m pc Ls (.null :: rest)) rfl rfl hd) k
theorem Wk.castNull {index : Nat} (X : Wk p l e R s m args below meth c Z a0 EL own ws T h sf lts cells slots) (hd : decode c.code pc = .ok (.checkcast index, 3)) (k : Go p e below P T (mkF m (pc + 3) Ls (.null :: rest))) : Go p e below P T (mkF m pc Ls (.null :: rest)) := by
  obtain ⟨hx, hEL, vm0, k0, locs, X, q⟩ := X
  exact Go.of (X.checkcastNull hx (g := mkF m pc Ls (.null :: rest)) rfl rfl hd) k
theorem Wk.instNo {K C : String} {index : Nat} {a : Addr} (X : Wk p l e R s m args below meth c Z a0 EL own ws T h sf lts cells slots) (w : (Cond.classLink own index K).before a0 Z = true) (E : Exa Z h a C) (F : ∃ c t, Z.vm.findClass C = some c ∧ Z.vm.findClass K = some t ∧ Z.vm.assignable c t = false) (hd : decode c.code pc = .ok (.instanceof index, 3))
    (k : ∀ T', Wk p l e R s m args below meth c Z a0 EL own ws T' h sf lts cells slots → Go p e below P T' (mkF m (pc + 3) Ls (.int 0 :: rest))) : Go p e below P T (mkF m pc Ls (.ref a :: rest)) := by
  obtain ⟨hx, hEL, vm0, k0, locs, X, eT, hS, hk, hZ, hown, q⟩ := X
  obtain ⟨T', X', e', st'⟩ := Jvm.RoadKit.instNo X hx (s := s.setVm vm0) hZ hown w eT E F (g := mkF m pc Ls (.ref a :: rest)) rfl rfl hd
  exact Go.of st' (k T' ⟨hx, hEL, vm0, k0, locs, X', e', hS, hk, hZ, hown, q⟩)
/-- no object of class C (right below the root) is a K, where K is a plain class -/
theorem no_cast {C S K : String} {n : Nat} (w : (Cond.superclass C S).before a0 Z = true) (wr : (Cond.noSuperclass S).before a0 Z = true) (wi : (Cond.instantiable K n).before a0 Z = true) (h1 : C ≠ K) (h2 : S ≠ K) : ∃ c t, Z.vm.findClass C = some c ∧ Z.vm.findClass K = some t ∧ Z.vm.assignable c t = false := by
  obtain ⟨c, hc⟩ := found_sup w
  obtain ⟨r, k, kr, g1, g2, g3, g4, g5, g6, g7⟩ := Cond.superclass_spec hc w
  obtain ⟨r', k', q1, q2, q3, -, -⟩ := Cond.noSuperclass_spec wr
  obtain ⟨t, kt, f1, f2, f3, f4, -, -⟩ := Cond.instantiable_spec wi
  cases g1.symm.trans q1
  cases g3.symm.trans q2
  have n1 := ids_ne hc f1 h1
  have n2 := ids_ne g1 f1 h2
  have f5 : kt.isInterface = false := by
    rw [Bool.or_eq_false_iff] at f4
    exact f4.1
  have hs : ∀ fuel, Z.vm.isSubclassAux fuel c t = false := fun fuel => by
    cases fuel with
    | zero => rfl
    | succ f => cases f with
      | zero => simp [Vm.isSubclassAux, n1, g2, g4]
      | succ f => simp [Vm.isSubclassAux, n1, n2, g2, g4, g3, q3]
  refine ⟨c, t, hc, f1, ?_⟩
  show Z.vm.assignableAux (255 + 1) c t = false
  simp [Vm.assignableAux, n1, g2, f2, g5, f3, f5, Vm.isSubclass, hs]
theorem nar_i2c (x : Int32) (h0 : ¬ x < 0 ∧ ¬ (255 : Int32) < x) : nar .char (x.toUInt32.toUInt16.toUInt32.toInt32) = x := by
  have q := nar255 x h0.1 h0.2
  have r : x.toUInt32.toUInt16.toUInt32.toInt32 = x := q
  rw [r, q]
theorem i2c255 (x : Int32) (h0 : ¬ x < 0 ∧ ¬ (255 : Int32) < x) : x.toUInt32.toUInt16.toUInt32.toInt32 = x := nar255 x h0.1 h0.2
theorem rem3 (x : Int32) (h0 : ¬ x < 0) : x % 3 = 0 ∨ x % 3 = 1 ∨ x % 3 = 2 := by
  have r := (c_irem x 3 3 rfl).1
  have e : (0 : Int32).toInt = 0 := rfl
  have e1 : (1 : Int32).toInt = 1 := rfl
  have e2 : (2 : Int32).toInt = 2 := rfl
  rw [Int32.lt_iff_toInt_lt] at h0
  have r := r (by omega)
  have q : (x % 3).toInt = 0 ∨ (x % 3).toInt = 1 ∨ (x % 3).toInt = 2 := by omega
  rcases q with q | q | q
  · exact Or.inl (Int32.toInt_inj.mp (q.trans e.symm))
  · exact Or.inr (Or.inl (Int32.toInt_inj.mp (q.trans e1.symm)))
  · exact Or.inr (Or.inr (Int32.toInt_inj.mp (q.trans e2.symm)))
/-- the chars of a String of at most two -/
def chs (n c0 c1 : Int32) : List Int32 := if n = 0 then [] else if n = 1 then [c0] else [c0, c1]
theorem chs_eq {n k c0 c1 d0 d1 : Int32} (hn : n = 0 ∨ n = 1 ∨ n = 2) (hk : k = 0 ∨ k = 1 ∨ k = 2) : chs n c0 c1 = chs k d0 d1 ↔ n = k ∧ (n < 1 ∨ c0 = d0) ∧ (n < 2 ∨ c1 = d1) := by
  rcases hn with rfl | rfl | rfl <;> rcases hk with rfl | rfl | rfl <;> simp [chs]

theorem Wk.acmp {cd : ACond} {x y : Value} {o : Int} {pc' : Nat} {same : Bool} (X : Wk p l e R s m args below meth c Z a0 EL own ws T h sf lts cells slots) (h1 : x.isRef = true) (h2 : y.isRef = true) (hd : decode c.code pc = .ok (.if_acmp cd o, 3)) (hq : decide (x = y) = same) (ho : 0 ≤ (pc : Int) + o) (hp : pc' = if acV cd same = true then ((pc : Int) + o).toNat else pc + 3)
    (k : Go p e below P T (mkF m pc' Ls rest)) : Go p e below P T (mkF m pc Ls (y :: x :: rest)) := by
  obtain ⟨hx, hEL, vm0, k0, locs, X, q⟩ := X
  exact Go.of (fun t k => Jvm.RoadKit.acmp (g := mkF m pc Ls (y :: x :: rest)) X hx rfl h1 h2 rfl hd rfl hq ho hp k) k
theorem allI1 {a : Int32} (h : ¬ a < 0 ∧ ¬ (255 : Int32) < a) : ∀ c ∈ ([a] : List Int32), ¬ c < 0 ∧ ¬ (255 : Int32) < c := fun c hc => by rw [List.mem_singleton.mp hc]; exact h
theorem allI2 {a b : Int32} (h : ¬ a < 0 ∧ ¬ (255 : Int32) < a) (h' : ¬ b < 0 ∧ ¬ (255 : Int32) < b) : ∀ c ∈ ([a, b] : List Int32), ¬ c < 0 ∧ ¬ (255 : Int32) < c := fun c hc => by
  rcases List.mem_cons.mp hc with rfl | hc
  · exact h
  · exact allI1 h' c hc
theorem ushr_nn (x q : Int32) (k : Nat) (hk : q.toBitVec.toNat % 32 = k) (h0 : 0 < k) : ¬ ((x.toUInt32 >>> (q &&& 31).toUInt32).toInt32) < 0 := fun z => by
  have r := c_iushr x q k hk h0
  have e : (0 : Int32).toInt = 0 := rfl
  rw [Int32.lt_iff_toInt_lt, e, r] at z
  have : 0 ≤ x.toInt % 4294967296 / ((2 ^ k : Nat) : Int) := Int.ediv_nonneg (by omega) (Int.natCast_nonneg _)
  omega

theorem ofNat_toInt {i : Nat} (hi : i < 2147483648) : (Int32.ofNat i).toInt = i := Int32.toInt_ofNat_small (by omega)
theorem i32lt {i n : Nat} (hi : i < 2147483648) (hn : n < 2147483648) : Int32.ofNat i < Int32.ofNat n ↔ i < n := by
  rw [Int32.lt_iff_toInt_lt, ofNat_toInt hi, ofNat_toInt hn]; omega
theorem i32inj {i n : Nat} (hi : i < 2147483648) (hn : n < 2147483648) : Int32.ofNat i = Int32.ofNat n ↔ i = n := by
  constructor
  · intro q
    have q := congrArg Int32.toInt q
    rw [ofNat_toInt hi, ofNat_toInt hn] at q; omega
  · rintro rfl; rfl
theorem i32add (i j : Nat) : Int32.ofNat i + Int32.ofNat j = Int32.ofNat (i + j) := (Int32.ofNat_add i j).symm
theorem i32succ (i : Nat) : Int32.ofNat i + 1 = Int32.ofNat (i + 1) := i32add i 1
theorem i32sub {i j : Nat} (q : j ≤ i) : Int32.ofNat i - Int32.ofNat j = Int32.ofNat (i - j) := by
  have r := i32add (i - j) j
  rw [Nat.sub_add_cancel q] at r
  rw [← r]; simp

theorem Wk.ldcI {index : Nat} {v : Int32} {st : List Value} (X : Wk p l e R s m args below meth c Z a0 EL own ws T h sf lts cells slots) (w : (Cond.constant own index v).before a0 Z = true) (hd : decode c.code pc = .ok (.ldc index, 2)) (k : Go p e below P T (mkF m (pc + 2) Ls (.int v :: st))) : Go p e below P T (mkF m pc Ls st) := by
  obtain ⟨hx, hEL, vm0, k0, locs, X, eT, hS, hk, hZ, hown, q⟩ := X
  exact Go.of (X.ldcInt hx (s := s.setVm vm0) hown (mvT (s := s.setVm vm0) hZ w) (g := mkF m pc Ls st) rfl hd) k
/-- clone() of an array -/
theorem Wk.clone {ad : String} {index W cap : Nat} {a : Addr} {kc : ClassId} {ty : FieldType} {z : Int32} {vs : List Value} {dv : Value} (X : Wk p l e R s m args below meth c Z a0 EL own ws T h sf lts cells slots)
    (w1 : (Cond.methodLink own index ⟨ad, "clone", "()Ljava/lang/Object;"⟩).before a0 Z = true) (w2 : (Cond.sameMethod ad "java/lang/Object" "clone" "()Ljava/lang/Object;").before a0 Z = true) (w3 : (Cond.native ⟨"java/lang/Object", "clone", "()Ljava/lang/Object;"⟩).before a0 Z = true)
    (w4 : (Cond.instanceMethod ⟨"java/lang/Object", "clone", "()Ljava/lang/Object;"⟩).before a0 Z = true) (w5 : (Cond.selects ad ⟨ad, "clone", "()Ljava/lang/Object;"⟩ ⟨"java/lang/Object", "clone", "()Ljava/lang/Object;"⟩).before a0 Z = true) (w6 : (Cond.castable ad "java/lang/Cloneable").before a0 Z = true)
    (A : Arv Z h a kc ty z vs dv) (E : Exa Z h a ad) (hsize : Ls.size = c.maxLocals) (hd : decode c.code pc = .ok (.invokevirtual index, 3)) (hf : 1 ≤ R.frames) (hW : (rest.map fun v => v.category).sum = W) (hl : W + 14 ≤ R.locals) (hcap : z.toNatClampNeg ≤ cap) (hc : cells + 1 ≤ R.cells) (hsl : slots + cap ≤ R.slots)
    (k : ∀ T' h' b, b = h.size → Wk p l e R s m args below meth c Z a0 EL own ws T' h' (b :: sf) lts (cells + 1) (slots + cap) → Ext h h' → Arv Z h' b kc ty z vs dv → Exa Z h' b ad → Go p e below P T' (mkF m (pc + 3) Ls (.ref b :: rest))) : Go p e below P T (mkF m pc Ls (.ref a :: rest)) := by
  obtain ⟨hx, hEL, vm0, k0, locs, X, eT, hS, hk, hZ, hown, hC, hN, hO, hK, hsf, hlt⟩ := X
  obtain ⟨T', h', X', e', E', A', B', st'⟩ := cloneH X hx (s := s.setVm vm0) hZ hown w1 w2 w3 w4 w5 w6 eT (hs := []) (show Arh Z h a kc ty z [] vs dv from A) E (g := mkF m pc Ls (.ref a :: rest)) rfl hsize rfl hd hf (W := W) (by rw [← hW]; show 2 * 0 + _ ≤ _; omega) hl hcap hc hsl
  exact Go.of st' (k T' h' h.size rfl ⟨hx, hEL, vm0, k0, locs, X', e', hS, Nat.le_trans hk E'.1, hZ, hown, hC.trans (CHr.ext E' hC.1), hN, ext_trans hO E', hK.ext E', fun x hx => by
    rcases List.mem_cons.mp hx with rfl | hx
    · exact ⟨B'.lt, (Safe.new (Nat.le_refl _)).ext E' hC.1⟩
    · exact ⟨Nat.lt_of_lt_of_le (hsf x hx).1 E'.1, (hsf x hx).2.ext E' hC.1⟩, hlt⟩ E' A' B')
theorem ninN {x y : Nat} {L : List Nat} (q : x ≠ y) (r : x ∉ L) : x ∉ y :: L := ninS q r
theorem lt_snoc {P : Nat → Prop} {i : Nat} (h : ∀ j, j < i → P j) (hi : P i) : ∀ j, j < i + 1 → P j := fun j hj => by
  rcases Nat.lt_or_ge j i with q | q
  · exact h j q
  · obtain rfl : j = i := by omega
    exact hi
theorem ge_snoc {P : Nat → Prop} {f i : Nat} (h : ∀ j, f ≤ j → j < i → P j) (hi : P i) : ∀ j, f ≤ j → j < i + 1 → P j := fun j hf hj => by
  rcases Nat.lt_or_ge j i with q | q
  · exact h j hf q
  · obtain rfl : j = i := by omega
    exact hi
theorem ge_pred {P : Nat → Prop} {i n : Nat} (h : ∀ j, i ≤ j → j < n → P j) (hi : P (i - 1)) : ∀ j, i - 1 ≤ j → j < n → P j := fun j hf hj => by
  rcases Nat.lt_or_ge j i with q | q
  · obtain rfl : j = i - 1 := by omega
    exact hi
  · exact h j q hj
end Base
end Own
end Jvm.Pilot.@@N@@
/- laws to paste: Road.backV, Road.eqW, Road.codOf (cut by pick.py; bodies as the Statement names them) -/
namespace Jvm.Pilot.@@N@@
namespace StrChars
open Jvm Sem ClassFile Op Lib Jvm.Stand Jvm.Free.XT Jvm.Free.ALB Jvm.Free.JM Jvm.Free
open Jvm.Lib.Cold (StaticIs)
/-- a char array whose places are chars -/
def Ch (a : Addr) (A : Cell) (U : State) : Prop := Arr .char a A U ∧ Typed .char A
theorem Ch.mv {a : Addr} {A : Cell} {U U' : State} (h : Ch a A U) (hal : U.vm.Alike U'.vm) (hh : U'.heap = U.heap) : Ch a A U' := ⟨h.1.mv hal hh, h.2⟩
theorem Ch.keep {a : Addr} {A : Cell} {U U' : State} (h : Ch a A U) (hal : U.vm.Alike U'.vm) (hk : U'.heap[a]? = some A) : Ch a A U' := ⟨h.1.keep hal hk, h.2⟩
/-- what place i of a char[]'s cell holds -/
def cv (A : Cell) (i : Nat) : Int32 := match A.slots[i]? with | some (.int x) => x | _ => 0
theorem Ch.get {a : Addr} {A : Cell} {U : State} (h : Ch a A U) {i : Nat} (hi : i < A.slots.size) : A.slots[i]? = some (.int (cv A i)) := by
  have e := Array.getElem?_eq_getElem hi
  have f := h.2 i _ e
  unfold cv; rw [e]
  generalize A.slots[i] = v at f
  cases v <;> simp [fits] at f ⊢
/-- the byte that i2b leaves of a char -/
def lo8 (x : Int32) : Int32 := x.toInt8.toInt32
theorem fits_lo8 (y : Int32) : fits .byte (.int (lo8 y)) = true := by
  have h1 := y.toInt8.le_toInt
  have h2 := y.toInt8.toInt_lt
  simp only [lo8, fits, Bool.and_eq_true, decide_eq_true_eq, Int32.le_iff_toInt_le, Int8.toInt_toInt32, show (-128 : Int32).toInt = -128 from by decide, show (127 : Int32).toInt = 127 from by decide]
  omega
/-- A' is A but that each place j of lo .. hi - 1 holds f j -/
def Laid (A A' : Cell) (lo hi : Nat) (f : Nat → Value) : Prop := A'.cls = A.cls ∧ A'.vm = A.vm ∧ A'.slots.size = A.slots.size ∧ ∀ i, A'.slots[i]? = if lo ≤ i ∧ i < hi then some (f i) else A.slots[i]?
theorem Laid.zero (A : Cell) (lo : Nat) (f : Nat → Value) : Laid A A lo (lo + 0) f := ⟨rfl, rfl, rfl, fun i => by rw [if_neg (by omega)]⟩
theorem Laid.step {A Ak : Cell} {lo k : Nat} {f : Nat → Value} {v : Value} (h : Laid A Ak lo k f) (hlo : lo ≤ k) (hk : k < Ak.slots.size) (hv : v = f k) : Laid A (Ak.setSlot k v) lo (k + 1) f := by
  refine ⟨h.1, h.2.1, by simpa [Cell.setSlot] using h.2.2.1, fun i => ?_⟩
  by_cases e : k = i
  · subst e; rw [Cell.slots_setSlot_self v hk, if_pos (by omega), hv]
  · rw [Cell.slots_setSlot_ne v e, h.2.2.2 i]
    by_cases q : lo ≤ i ∧ i < k
    · rw [if_pos q, if_pos (by omega)]
    · rw [if_neg q, if_neg (by omega)]
def U16 : String := "java/lang/StringUTF16"
namespace Cmp5
def yN : MethodName := ⟨"java/lang/StringUTF16", "compress", "([CI[BII)I"⟩
abbrev yB : ByteArray := jdk_52_method_21_code
theorem d0 : decode yB 0 = .ok (.iconst 0, 1) := by decide +kernel
theorem d1 : decode yB 1 = .ok (.istore 5, 2) := by decide +kernel
theorem d3 : decode yB 3 = .ok (.iload 5, 2) := by decide +kernel
theorem d5 : decode yB 5 = .ok (.iload 4, 2) := by decide +kernel
theorem d7 : decode yB 7 = .ok (.if_icmp (.ge) 37, 3) := by decide +kernel
theorem d10 : decode yB 10 = .ok (.aload_n 0, 1) := by decide +kernel
theorem d11 : decode yB 11 = .ok (.iload_n 1, 1) := by decide +kernel
theorem d12 : decode yB 12 = .ok (.caload, 1) := by decide +kernel
theorem d13 : decode yB 13 = .ok (.istore 6, 2) := by decide +kernel
theorem d15 : decode yB 15 = .ok (.iload 6, 2) := by decide +kernel
theorem d17 : decode yB 17 = .ok (.sipush 255, 3) := by decide +kernel
theorem d20 : decode yB 20 = .ok (.if_icmp (.le) 6, 3) := by decide +kernel
theorem d26 : decode yB 26 = .ok (.aload_n 2, 1) := by decide +kernel
theorem d27 : decode yB 27 = .ok (.iload_n 3, 1) := by decide +kernel
theorem d28 : decode yB 28 = .ok (.iload 6, 2) := by decide +kernel
theorem d30 : decode yB 30 = .ok (.i2b, 1) := by decide +kernel
theorem d31 : decode yB 31 = .ok (.bastore, 1) := by decide +kernel
theorem d32 : decode yB 32 = .ok (.iinc 1 1, 3) := by decide +kernel
theorem d35 : decode yB 35 = .ok (.iinc 3 1, 3) := by decide +kernel
theorem d38 : decode yB 38 = .ok (.iinc 5 1, 3) := by decide +kernel
theorem d41 : decode yB 41 = .ok (.goto (-38), 3) := by decide +kernel
theorem d44 : decode yB 44 = .ok (.iload 4, 2) := by decide +kernel
theorem d46 : decode yB 46 = .ok (.ireturn, 1) := by decide +kernel
def site : List Cond := []
def tab : Cond := tabOf yN yB 7 (some .int) site
def P (b : Addr) (A : Cell) (d : Addr) (B : Cell) (o q len : Nat) (args : Array Value) (s : State) : Prop := args = #[.ref b, .int (Int32.ofNat o), .ref d, .int (Int32.ofNat q), .int (Int32.ofNat len)] ∧ Ch b A s ∧ Arr .byte d B s ∧ b ≠ d ∧ o + len ≤ A.slots.size ∧ q + len ≤ B.slots.size ∧ ∀ i, i < len → ¬ 255 < cv A (o + i)
def E (b : Addr) (A : Cell) (d : Addr) (B : Cell) (o q len : Nat) (r : Option Value) (s u : State) : Prop := r = some (.int (Int32.ofNat len)) ∧ ∃ B', Put d B' s u ∧ Laid B B' q (q + len) (fun j => Value.int (lo8 (cv A (o + (j - q)))))
/-- no char of the range above 255: len; the places written hold each char's low byte -/
theorem law (l : Launch) (b : Addr) (A : Cell) (d : Addr) (B : Cell) (o q len : Nat) : Law l yN 5 5 0 0 yB 7 (some .int) site (P b A d B o q len) (E b A d B o q len) (copyLocs d q len) 0 0 := by
  refine Law.of_walk (plainFor_of_name (by decide +kernel)) (by decide +kernel) (by decide +kernel) (by decide) (fun _ _ h => by rw [h.1]; rfl) (fun _ U U' hal hh h => ⟨h.1, h.2.1.mv hal hh, h.2.2.1.mv hal hh, h.2.2.2⟩) (fun r U U' V V' h1 hal h2 h => ⟨h.1, h.2.elim fun B' q => ⟨B', q.1.mv h1 h2, q.2⟩⟩) ?_
  intro p e s m args below meth c s₁ X0 hexec hbytes hml hret hlk hnm hown hh0 W hP
  obtain ⟨rfl, hA, hB, hne, l1, l2, hp⟩ := hP
  have c1 : Steps p.tables e below (s₁.setTop (entryFrame m #[.ref b, .int (Int32.ofNat o), .ref d, .int (Int32.ofNat q), .int (Int32.ofNat len)] 7)) (s₁.setTop (mkF m 0 #[.val (.ref b), .val (.int (Int32.ofNat o)), .val (.ref d), .val (.int (Int32.ofNat q)), .val (.int (Int32.ofNat len)), .unset, .unset] [])) := entry rfl
  have hA0 := hA.1.mv X0.warmed.alike hh0
  have hB0 := hB.mv X0.warmed.alike hh0
  have a31 := hA.1.2.2.2
  have c2 : Steps p.tables e below (s₁.setTop (entryFrame m #[.ref b, .int (Int32.ofNat o), .ref d, .int (Int32.ofNat q), .int (Int32.ofNat len)] 7)) (s₁.setTop (mkF m 3 #[.val (.ref b), .val (.int (Int32.ofNat o)), .val (.ref d), .val (.int (Int32.ofNat q)), .val (.int (Int32.ofNat len)), .val (.int 0), .unset] [])) := c1.trans (by
    refine iconstV X0.here hexec rfl 0 (hb hbytes d0) (by decide) ?_
    refine XS.istore X0.here hexec rfl (hb hbytes d1) rfl rfl ?_
    exact Steps.refl _)
  have loop : ∀ (r i : Nat), i + r = len → ∀ (z : Slot), (z = .unset ∨ ∃ w, z = .val w ∧ w.category = 1) → ∀ (Tl : State) (Bk : Cell), Stand p l e { frames := 0, locals := 0, cells := 0, slots := 0 } s m #[.ref b, .int (Int32.ofNat o), .ref d, .int (Int32.ofNat q), .int (Int32.ofNat len)] below meth c Tl ([] ++ copyLocs d q i) 0 0 → Put d Bk s₁ Tl → Laid B Bk q (q + i) (fun j => Value.int (lo8 (cv A (o + (j - q))))) →
      Steps p.tables e below (s₁.setTop (entryFrame m #[.ref b, .int (Int32.ofNat o), .ref d, .int (Int32.ofNat q), .int (Int32.ofNat len)] 7)) (Tl.setTop (mkF m 3 #[.val (.ref b), .val (.int (Int32.ofNat (o + i))), .val (.ref d), .val (.int (Int32.ofNat (q + i))), .val (.int (Int32.ofNat len)), .val (.int (Int32.ofNat i)), z] [])) → ∃ (T' : State) (B' : Cell) (z' : Slot), Stand p l e { frames := 0, locals := 0, cells := 0, slots := 0 } s m #[.ref b, .int (Int32.ofNat o), .ref d, .int (Int32.ofNat q), .int (Int32.ofNat len)] below meth c T' ([] ++ copyLocs d q len) 0 0 ∧ Put d B' s₁ T' ∧ Laid B B' q (q + len) (fun j => Value.int (lo8 (cv A (o + (j - q))))) ∧
      Steps p.tables e below (s₁.setTop (entryFrame m #[.ref b, .int (Int32.ofNat o), .ref d, .int (Int32.ofNat q), .int (Int32.ofNat len)] 7)) (T'.setTop (mkF m 3 #[.val (.ref b), .val (.int (Int32.ofNat (o + len))), .val (.ref d), .val (.int (Int32.ofNat (q + len))), .val (.int (Int32.ofNat len)), .val (.int (Int32.ofNat len)), z'] [])) := by
    intro r
    induction r with
    | zero =>
      intro i hi z hz Tl Bk Xl pl fl cl
      have hil : i = len := by omega
      rw [hil] at Xl fl cl
      exact ⟨Tl, Bk, z, Xl, pl, fl, cl⟩
    | succ r ih =>
      intro i hi z hz Tl Bk Xl pl fl cl
      have all := X0.warmed.alike.symm.trans Xl.warmed.alike
      have hAl := hA0.keep all (pl.other hne hA0.1)
      have hBk := hB0.like all pl.1 fl.1 fl.2.1 fl.2.2.1
      have hlt : q + i < Bk.slots.size := by rw [fl.2.2.1]; omega
      have c3 : Steps p.tables e below (s₁.setTop (entryFrame m #[.ref b, .int (Int32.ofNat o), .ref d, .int (Int32.ofNat q), .int (Int32.ofNat len)] 7)) (Tl.setTop (mkF m 12 #[.val (.ref b), .val (.int (Int32.ofNat (o + i))), .val (.ref d), .val (.int (Int32.ofNat (q + i))), .val (.int (Int32.ofNat len)), .val (.int (Int32.ofNat i)), z] [.int (Int32.ofNat (o + i)), .ref b])) := cl.trans (by
        refine XS.iload Xl.here hexec rfl (hb hbytes d3) rfl ?_
        refine XS.iload Xl.here hexec rfl (hb hbytes d5) rfl ?_
        refine XS.icmpNo Xl.here hexec rfl (hb hbytes d7) rfl (ii_ge_f (lt32 (by omega) (by omega))) ?_
        refine XS.aloadN Xl.here hexec rfl (hb hbytes d10) rfl rfl ?_
        refine XS.iloadN Xl.here hexec rfl (hb hbytes d11) rfl ?_
        exact Steps.refl _)
      have c4 : Steps p.tables e below (s₁.setTop (entryFrame m #[.ref b, .int (Int32.ofNat o), .ref d, .int (Int32.ofNat q), .int (Int32.ofNat len)] 7)) (Tl.setTop (mkF m 13 #[.val (.ref b), .val (.int (Int32.ofNat (o + i))), .val (.ref d), .val (.int (Int32.ofNat (q + i))), .val (.int (Int32.ofNat len)), .val (.int (Int32.ofNat i)), z] [.int (cv A (o + i))])) := c3.trans (by
        refine Xl.aget hexec hAl rfl (hA.get (i := o + i) (by omega)) rfl rfl (hb hbytes d12) ?_
        exact Steps.refl _)
      have c5 : Steps p.tables e below (s₁.setTop (entryFrame m #[.ref b, .int (Int32.ofNat o), .ref d, .int (Int32.ofNat q), .int (Int32.ofNat len)] 7)) (Tl.setTop (mkF m 15 #[.val (.ref b), .val (.int (Int32.ofNat (o + i))), .val (.ref d), .val (.int (Int32.ofNat (q + i))), .val (.int (Int32.ofNat len)), .val (.int (Int32.ofNat i)), .val (.int (cv A (o + i)))] [])) := c4.trans (by
        refine XS.istoreS Xl.here hexec rfl (hb hbytes d13) rfl rfl hz ?_
        exact Steps.refl _)
      have c6 : Steps p.tables e below (s₁.setTop (entryFrame m #[.ref b, .int (Int32.ofNat o), .ref d, .int (Int32.ofNat q), .int (Int32.ofNat len)] 7)) (Tl.setTop (mkF m 31 #[.val (.ref b), .val (.int (Int32.ofNat (o + i))), .val (.ref d), .val (.int (Int32.ofNat (q + i))), .val (.int (Int32.ofNat len)), .val (.int (Int32.ofNat i)), .val (.int (cv A (o + i)))] [.int (lo8 (cv A (o + i))), .int (Int32.ofNat (q + i)), .ref d])) := c5.trans (by
        refine XS.iload Xl.here hexec rfl (hb hbytes d15) rfl ?_
        refine sipushV Xl.here hexec rfl 255 (hb hbytes d17) (by decide) ?_
        refine XS.icmpYes Xl.here hexec rfl (pc0 := 20) rfl (hb hbytes d20) rfl (ii_le_t (hp i (by omega))) (by decide) rfl ?_
        refine XS.aloadN Xl.here hexec rfl (hb hbytes d26) rfl rfl ?_
        refine XS.iloadN Xl.here hexec rfl (hb hbytes d27) rfl ?_
        refine XS.iload Xl.here hexec rfl (hb hbytes d28) rfl ?_
        refine i2b Xl.here hexec rfl (hb hbytes d30) rfl ?_
        exact Steps.refl _)
      obtain ⟨T7, X7, p7, st7⟩ := Xl.aput hexec hBk rfl hlt rfl (fits_lo8 (cv A (o + i))) (g := (mkF m 31 #[.val (.ref b), .val (.int (Int32.ofNat (o + i))), .val (.ref d), .val (.int (Int32.ofNat (q + i))), .val (.int (Int32.ofNat len)), .val (.int (Int32.ofNat i)), .val (.int (cv A (o + i)))] [.int (lo8 (cv A (o + i))), .int (Int32.ofNat (q + i)), .ref d])) rfl (rest := []) rfl (hb hbytes d31)
      have c8 : Steps p.tables e below (s₁.setTop (entryFrame m #[.ref b, .int (Int32.ofNat o), .ref d, .int (Int32.ofNat q), .int (Int32.ofNat len)] 7)) (T7.setTop (mkF m 32 #[.val (.ref b), .val (.int (Int32.ofNat (o + i))), .val (.ref d), .val (.int (Int32.ofNat (q + i))), .val (.int (Int32.ofNat len)), .val (.int (Int32.ofNat i)), .val (.int (cv A (o + i)))] [])) := c6.trans (st7 _ (Steps.refl _))
      have c9 : Steps p.tables e below (s₁.setTop (entryFrame m #[.ref b, .int (Int32.ofNat o), .ref d, .int (Int32.ofNat q), .int (Int32.ofNat len)] 7)) (T7.setTop (mkF m 3 #[.val (.ref b), .val (.int (Int32.ofNat (o + i) + 1)), .val (.ref d), .val (.int (Int32.ofNat (q + i) + 1)), .val (.int (Int32.ofNat len)), .val (.int (Int32.ofNat i + 1)), .val (.int (cv A (o + i)))] [])) := c8.trans (by
        refine iincV X7.here hexec rfl 1 (hb hbytes d32) (by decide) rfl rfl ?_
        refine iincV X7.here hexec rfl 1 (hb hbytes d35) (by decide) rfl rfl ?_
        refine iincV X7.here hexec rfl 1 (hb hbytes d38) (by decide) rfl rfl ?_
        refine XS.goto X7.here hexec rfl (pc0 := 41) rfl (hb hbytes d41) (by decide) rfl ?_
        exact Steps.refl _)
      have c10 : Steps p.tables e below (s₁.setTop (entryFrame m #[.ref b, .int (Int32.ofNat o), .ref d, .int (Int32.ofNat q), .int (Int32.ofNat len)] 7)) (T7.setTop (mkF m 3 #[.val (.ref b), .val (.int (Int32.ofNat (o + (i + 1)))), .val (.ref d), .val (.int (Int32.ofNat (q + (i + 1)))), .val (.int (Int32.ofNat len)), .val (.int (Int32.ofNat (i + 1))), .val (.int (cv A (o + i)))] [])) := by
        have := c9
        rw [succ32, succ32, succ32] at this
        exact this
      exact ih (i + 1) (by omega) _ (Or.inr ⟨_, rfl, rfl⟩) T7 _ (by rw [copyLocs_step, ← List.append_assoc]; exact X7) (pl.trans p7) (fl.step (by omega) hlt (by simp)) c10
  obtain ⟨T9, B9, z9, X9, p9, f9, g9⟩ := loop len 0 (by omega) .unset (Or.inl rfl) s₁ B (by simpa [copyLocs] using X0) ⟨hB0.1, fun _ _ => rfl, rfl⟩ (Laid.zero _ _ _) c2
  have c11 : Steps p.tables e below (s₁.setTop (entryFrame m #[.ref b, .int (Int32.ofNat o), .ref d, .int (Int32.ofNat q), .int (Int32.ofNat len)] 7)) (T9.setTop (mkF m 46 #[.val (.ref b), .val (.int (Int32.ofNat (o + len))), .val (.ref d), .val (.int (Int32.ofNat (q + len))), .val (.int (Int32.ofNat len)), .val (.int (Int32.ofNat len)), z9] [.int (Int32.ofNat len)])) := g9.trans (by
    refine XS.iload X9.here hexec rfl (hb hbytes d3) rfl ?_
    refine XS.iload X9.here hexec rfl (hb hbytes d5) rfl ?_
    refine XS.icmpYes X9.here hexec rfl (pc0 := 7) rfl (hb hbytes d7) rfl (ii_ge_t (nlt32 (by omega) (Nat.le_refl _))) (by decide) rfl ?_
    refine XS.iload X9.here hexec rfl (hb hbytes d44) rfl ?_
    exact Steps.refl _)
  exact ⟨T9, some (.int (Int32.ofNat len)), _, _, _, X9, by simp, rfl, rfl, (fun h => by cases h), ⟨rfl, B9, p9.from hh0, f9⟩, fun fs hl => c11.trans (X9.ireturnOut hexec hret rfl (Or.inl rfl) (hb hbytes d46) hl)⟩
end Cmp5
namespace Cmp3
def yN : MethodName := ⟨"java/lang/StringUTF16", "compress", "([CII)[B"⟩
abbrev yB : ByteArray := jdk_52_method_16_code
theorem d0 : decode yB 0 = .ok (.iload_n 2, 1) := by decide +kernel
theorem d1 : decode yB 1 = .ok (.newarray .byte, 2) := by decide +kernel
theorem d3 : decode yB 3 = .ok (.astore_n 3, 1) := by decide +kernel
theorem d4 : decode yB 4 = .ok (.aload_n 0, 1) := by decide +kernel
theorem d5 : decode yB 5 = .ok (.iload_n 1, 1) := by decide +kernel
theorem d6 : decode yB 6 = .ok (.aload_n 3, 1) := by decide +kernel
theorem d7 : decode yB 7 = .ok (.iconst 0, 1) := by decide +kernel
theorem d8 : decode yB 8 = .ok (.iload_n 2, 1) := by decide +kernel
theorem d9 : decode yB 9 = .ok (.invokestatic 115, 3) := by decide +kernel
theorem d12 : decode yB 12 = .ok (.istore 4, 2) := by decide +kernel
theorem d14 : decode yB 14 = .ok (.iload 4, 2) := by decide +kernel
theorem d16 : decode yB 16 = .ok (.iload_n 2, 1) := by decide +kernel
theorem d17 : decode yB 17 = .ok (.if_icmp (.eq) 40, 3) := by decide +kernel
theorem d57 : decode yB 57 = .ok (.aload_n 3, 1) := by decide +kernel
theorem d58 : decode yB 58 = .ok (.areturn, 1) := by decide +kernel
def site : List Cond := [.arrayClass .byte, Cmp5.tab] ++ staticW U16 115 Cmp5.yN
def tab : Cond := tabOf yN yB 6 (some (.array .byte)) site
def P (b : Addr) (A : Cell) (o len : Nat) (args : Array Value) (s : State) : Prop := args = #[.ref b, .int (Int32.ofNat o), .int (Int32.ofNat len)] ∧ Ch b A s ∧ o + len ≤ A.slots.size ∧ len ≤ 536870912 ∧ ∀ i, i < len → ¬ 255 < cv A (o + i)
def E (b : Addr) (A : Cell) (o len : Nat) (r : Option Value) (s u : State) : Prop := NewArr .byte "[B" len (fun j => .int (lo8 (cv A (o + j)))) r s u ∧ u.heap.size = s.heap.size + 1
/-- no char of the range above 255: a new byte[] of their low bytes -/
theorem law (l : Launch) (b : Addr) (A : Cell) (o len : Nat) : Law l yN 3 3 1 18 yB 6 (some (.array .byte)) site (P b A o len) (E b A o len) [] 1 len := by
  refine Law.of_walk (plainFor_of_name (by decide +kernel)) (by decide +kernel) (by decide +kernel) (by decide) (fun _ _ h => by rw [h.1]; rfl) (fun _ U U' hal hh h => ⟨h.1, h.2.1.mv hal hh, h.2.2⟩) (fun r U U' V V' h1 hal h2 h => ⟨NewArr.mv r U U' V V' h1 hal h2 h.1, by rw [h1, h2]; exact h.2⟩) ?_
  intro p e s m args below meth c s₁ X0 hexec hbytes hml hret hlk hnm hown hh0 W hP
  obtain ⟨rfl, hA, l1, l2, hp⟩ := hP
  have a31 := hA.1.2.2.2
  have c1 : Steps p.tables e below (s₁.setTop (entryFrame m #[.ref b, .int (Int32.ofNat o), .int (Int32.ofNat len)] 6)) (s₁.setTop (mkF m 0 #[.val (.ref b), .val (.int (Int32.ofNat o)), .val (.int (Int32.ofNat len)), .unset, .unset, .unset] [])) := entry rfl
  have c2 : Steps p.tables e below (s₁.setTop (entryFrame m #[.ref b, .int (Int32.ofNat o), .int (Int32.ofNat len)] 6)) (s₁.setTop (mkF m 1 #[.val (.ref b), .val (.int (Int32.ofNat o)), .val (.int (Int32.ofNat len)), .unset, .unset, .unset] [.int (Int32.ofNat len)])) := c1.trans (by
    refine XS.iloadN X0.here hexec rfl (hb hbytes d0) rfl ?_
    exact Steps.refl _)
  obtain ⟨T3, B3, X3, ba3, bs3, bv3, bh3, bf3, st3⟩ := X0.anew hexec (atype := .byte) (wk W (.arrayClass .byte)) rfl (by show len * 1 ≤ _; omega) (by omega) (g := (mkF m 1 #[.val (.ref b), .val (.int (Int32.ofNat o)), .val (.int (Int32.ofNat len)), .unset, .unset, .unset] [.int (Int32.ofNat len)])) rfl (hb hbytes d1) (rest := []) rfl (Nat.le_refl _) (by show 0 + len ≤ len; omega)
  rw [hh0] at ba3 st3
  have kp3 : XT.Kept s T3 := (XT.Kept.of_eq hh0).push bh3
  have hA3 := hA.keep X3.warmed.alike (kp3 _ _ hA.1.1)
  have hne : b ≠ s.heap.size := hA.1.ne
  have c4 : Steps p.tables e below (s₁.setTop (entryFrame m #[.ref b, .int (Int32.ofNat o), .int (Int32.ofNat len)] 6)) (T3.setTop (mkF m 3 #[.val (.ref b), .val (.int (Int32.ofNat o)), .val (.int (Int32.ofNat len)), .unset, .unset, .unset] [.ref s.heap.size])) := c2.trans (st3 _ (Steps.refl _))
  have c5 : Steps p.tables e below (s₁.setTop (entryFrame m #[.ref b, .int (Int32.ofNat o), .int (Int32.ofNat len)] 6)) (T3.setTop (mkF m 9 #[.val (.ref b), .val (.int (Int32.ofNat o)), .val (.int (Int32.ofNat len)), .val (.ref s.heap.size), .unset, .unset] [.int (Int32.ofNat len), .int 0, .ref s.heap.size, .int (Int32.ofNat o), .ref b])) := c4.trans (by
    refine XS.astoreN X3.here hexec rfl (hb hbytes d3) rfl rfl rfl ?_
    refine XS.aloadN X3.here hexec rfl (hb hbytes d4) rfl rfl ?_
    refine XS.iloadN X3.here hexec rfl (hb hbytes d5) rfl ?_
    refine XS.aloadN X3.here hexec rfl (hb hbytes d6) rfl rfl ?_
    refine iconstV X3.here hexec rfl 0 (hb hbytes d7) (by decide) ?_
    refine XS.iloadN X3.here hexec rfl (hb hbytes d8) rfl ?_
    exact Steps.refl _)
  obtain ⟨v6, T6, X6, E6, g6⟩ := X3.callS hexec (Cmp5.law l b A s.heap.size B3 o 0 len) hown (wks W (staticW U16 115 Cmp5.yN)) (wk W Cmp5.tab) (W := 0) (Nat.le_of_ble_eq_true rfl) (Nat.le_of_ble_eq_true rfl) (Nat.le_refl _) (by show 0 + len + 0 ≤ len; omega) (g := (mkF m 9 #[.val (.ref b), .val (.int (Int32.ofNat o)), .val (.int (Int32.ofNat len)), .val (.ref s.heap.size), .unset, .unset] [.int (Int32.ofNat len), .int (Int32.ofNat 0), .ref s.heap.size, .int (Int32.ofNat o), .ref b])) rfl (by rw [hml]; rfl) c5 (argsL := [.ref b, .int (Int32.ofNat o), .ref s.heap.size, .int (Int32.ofNat 0), .int (Int32.ofNat len)]) (rest := []) rfl rfl (by show 2 * 0 + 0 ≤ _; decide) (hb hbytes d9) (⟨rfl, hA3, ba3, hne, l1, by rw [bs3]; simp, hp⟩)
  obtain ⟨rfl, B6, p6, f6⟩ := E6
  have c7 : Steps p.tables e below (s₁.setTop (entryFrame m #[.ref b, .int (Int32.ofNat o), .int (Int32.ofNat len)] 6)) (T6.setTop (mkF m 12 #[.val (.ref b), .val (.int (Int32.ofNat o)), .val (.int (Int32.ofNat len)), .val (.ref s.heap.size), .unset, .unset] [.int (Int32.ofNat len)])) := g6
  have c8 : Steps p.tables e below (s₁.setTop (entryFrame m #[.ref b, .int (Int32.ofNat o), .int (Int32.ofNat len)] 6)) (T6.setTop (mkF m 58 #[.val (.ref b), .val (.int (Int32.ofNat o)), .val (.int (Int32.ofNat len)), .val (.ref s.heap.size), .val (.int (Int32.ofNat len)), .unset] [.ref s.heap.size])) := c7.trans (by
    refine XS.istore X6.here hexec rfl (hb hbytes d12) rfl rfl ?_
    refine XS.iload X6.here hexec rfl (hb hbytes d14) rfl ?_
    refine XS.iloadN X6.here hexec rfl (hb hbytes d16) rfl ?_
    refine XS.icmpYes X6.here hexec rfl (pc0 := 17) rfl (hb hbytes d17) rfl (ii_eq_t rfl) (by decide) rfl ?_
    refine XS.aloadN X6.here hexec rfl (hb hbytes d57) rfl rfl ?_
    exact Steps.refl _)
  have X8 := X6.wide (L' := []) (cells' := 1) (slots' := len) (fun x hx hlt => by
    simp only [List.nil_append, copyLocs, List.mem_map, List.mem_range] at hx
    obtain ⟨i, -, rfl⟩ := hx
    exact absurd hlt (Nat.lt_irrefl _)) (Nat.le_refl _) (by omega)
  exact ⟨T6, some (.ref s.heap.size), _, _, _, X8, rfl, rfl, rfl, (fun h => by cases h), ⟨⟨rfl, B6, ba3.like (X3.warmed.alike.symm.trans X6.warmed.alike) p6.1 f6.1 f6.2.1 f6.2.2.1, f6.2.1.trans bv3, by rw [X6.warmed.alike.findClass, f6.1]; exact bf3, by rw [f6.2.2.1, bs3]; simp, fun j hj => by rw [f6.2.2.2 j, if_pos (by omega)]; rfl, kp3.put p6 (Nat.le_refl _)⟩, by rw [p6.2.2, bh3, hh0]; simp⟩, fun fs hl => c8.trans (X8.areturnOut hexec rfl hret rfl (hb hbytes d58) hl)⟩
end Cmp3
namespace CodL
def yN : MethodName := ⟨"java/lang/StringUTF16", "coderFromArrayLen", "([BI)B"⟩
abbrev yB : ByteArray := jdk_52_method_15_code
theorem d0 : decode yB 0 = .ok (.iload_n 1, 1) := by decide +kernel
theorem d1 : decode yB 1 = .ok (.aload_n 0, 1) := by decide +kernel
theorem d2 : decode yB 2 = .ok (.arraylength, 1) := by decide +kernel
theorem d3 : decode yB 3 = .ok (.isub, 1) := by decide +kernel
theorem d4 : decode yB 4 = .ok (.bipush 31, 2) := by decide +kernel
theorem d6 : decode yB 6 = .ok (.iushr, 1) := by decide +kernel
theorem d7 : decode yB 7 = .ok (.i2b, 1) := by decide +kernel
theorem d8 : decode yB 8 = .ok (.ireturn, 1) := by decide +kernel
def site : List Cond := []
def tab : Cond := tabOf yN yB 2 (some .byte) site
def P (d : Addr) (B : Cell) (args : Array Value) (s : State) : Prop := args = #[.ref d, .int (Int32.ofNat B.slots.size)] ∧ Arr .byte d B s
def E (r : Option Value) (s u : State) : Prop := XT.PureE (some (.int 0)) r s u
/-- an array as long as the number of chars: LATIN1 -/
theorem law (l : Launch) (d : Addr) (B : Cell) : Law l yN 2 2 0 0 yB 2 (some .byte) site (P d B) E [] 0 0 := by
  refine Law.of_walk (plainFor_of_name (by decide +kernel)) (by decide +kernel) (by decide +kernel) (by decide) (fun _ _ h => by rw [h.1]; rfl) (fun _ U U' hal hh h => ⟨h.1, h.2.mv hal hh⟩) (fun r U U' V V' h1 hal h2 h => XT.PureE.mv r U U' V V' h1 hal h2 h) ?_
  intro p e s m args below meth c s₁ X0 hexec hbytes hml hret hlk hnm hown hh0 W hP
  obtain ⟨rfl, hB⟩ := hP
  have hB0 := hB.mv X0.warmed.alike hh0
  have c1 : Steps p.tables e below (s₁.setTop (entryFrame m #[.ref d, .int (Int32.ofNat B.slots.size)] 2)) (s₁.setTop (mkF m 0 #[.val (.ref d), .val (.int (Int32.ofNat B.slots.size))] [])) := entry rfl
  have c2 : Steps p.tables e below (s₁.setTop (entryFrame m #[.ref d, .int (Int32.ofNat B.slots.size)] 2)) (s₁.setTop (mkF m 2 #[.val (.ref d), .val (.int (Int32.ofNat B.slots.size))] [.ref d, .int (Int32.ofNat B.slots.size)])) := c1.trans (by
    refine XS.iloadN X0.here hexec rfl (hb hbytes d0) rfl ?_
    refine XS.aloadN X0.here hexec rfl (hb hbytes d1) rfl rfl ?_
    exact Steps.refl _)
  have c3 : Steps p.tables e below (s₁.setTop (entryFrame m #[.ref d, .int (Int32.ofNat B.slots.size)] 2)) (s₁.setTop (mkF m 8 #[.val (.ref d), .val (.int (Int32.ofNat B.slots.size))] [.int (lo8 (ushr (Int32.ofNat B.slots.size - Int32.ofNat B.slots.size) 31))])) := c2.trans (by
    refine X0.alen hexec hB0 rfl rfl (hb hbytes d2) ?_
    refine XS.isub X0.here hexec rfl (hb hbytes d3) rfl ?_
    refine bipushV X0.here hexec rfl 31 (hb hbytes d4) (by decide) ?_
    refine iushr X0.here hexec rfl (hb hbytes d6) rfl ?_
    refine i2b X0.here hexec rfl (hb hbytes d7) rfl ?_
    exact Steps.refl _)
  have e0 : lo8 (ushr (Int32.ofNat B.slots.size - Int32.ofNat B.slots.size) 31) = 0 := by rw [Int32.sub_self]; decide
  rw [e0] at c3
  exact ⟨s₁, some (.int 0), _, _, _, X0, rfl, rfl, rfl, (fun h => by cases h), ⟨rfl, hh0⟩, fun fs hl => c3.trans (X0.ireturnOut hexec hret rfl (Or.inr (Or.inr (Or.inl rfl))) (hb hbytes d8) hl)⟩
end CodL
/-- the String at a is Latin-1 over a new byte[] (the heap's one new cell): the low bytes of the len chars of A from o on; every cell but a is kept -/
def Got (a : Addr) (D : Cell) (fV fC : Field) (A : Cell) (o len : Nat) (r : Option Value) (s u : State) : Prop := r = none ∧ ∃ D' V : Cell, Blank "java/lang/String" a D' u ∧ Same D D' [fV.slot, fC.slot] ∧ D'.slots[fV.slot]? = some (.ref s.heap.size) ∧ D'.slots[fC.slot]? = some (.int 0) ∧ Arr .byte s.heap.size V u ∧ V.vm = .none ∧ u.vm.findClass "[B" = some V.cls ∧ V.slots.size = len ∧ (∀ j, j < len → V.slots[j]? = some (.int (lo8 (cv A (o + j))))) ∧ (∀ (y : Addr) (c : Cell), y ≠ a → s.heap[y]? = some c → u.heap[y]? = some c) ∧ u.heap.size = s.heap.size + 1
theorem Got.mv {a : Addr} {D A : Cell} {fV fC : Field} {o len : Nat} : ∀ r (U U' V V' : State), U'.heap = U.heap → V.vm.Alike V'.vm → V'.heap = V.heap → Got a D fV fC A o len r U V → Got a D fV fC A o len r U' V' :=
  fun r U U' V V' h1 hal h2 ⟨e0, D', X, a1, a2, a3, a4, a5, a6, a7, a8, a9, a10, a11⟩ => ⟨e0, D', X, a1.mv hal h2, a2, by rw [h1]; exact a3, a4, by rw [h1]; exact a5.mv hal h2, a6, by rw [hal.findClass]; exact a7, a8, a9, by rw [h1, h2]; exact a10, by rw [h1, h2]; exact a11⟩
namespace New4
def yN : MethodName := ⟨"java/lang/String", "<init>", "([CIILjava/lang/Void;)V"⟩
abbrev yB : ByteArray := jdk_42_method_149_code
theorem d0 : decode yB 0 = .ok (.aload_n 0, 1) := by decide +kernel
theorem d1 : decode yB 1 = .ok (.invokespecial 1, 3) := by decide +kernel
theorem d4 : decode yB 4 = .ok (.iload_n 3, 1) := by decide +kernel
theorem d5 : decode yB 5 = .ok (.ifCond (.ne) 22, 3) := by decide +kernel
theorem d27 : decode yB 27 = .ok (.getstatic 38, 3) := by decide +kernel
theorem d30 : decode yB 30 = .ok (.ifCond (.eq) 28, 3) := by decide +kernel
theorem d33 : decode yB 33 = .ok (.aload_n 1, 1) := by decide +kernel
theorem d34 : decode yB 34 = .ok (.iload_n 2, 1) := by decide +kernel
theorem d35 : decode yB 35 = .ok (.iload_n 3, 1) := by decide +kernel
theorem d36 : decode yB 36 = .ok (.invokestatic 177, 3) := by decide +kernel
theorem d39 : decode yB 39 = .ok (.astore 5, 2) := by decide +kernel
theorem d41 : decode yB 41 = .ok (.aload_n 0, 1) := by decide +kernel
theorem d42 : decode yB 42 = .ok (.aload 5, 2) := by decide +kernel
theorem d44 : decode yB 44 = .ok (.iload_n 3, 1) := by decide +kernel
theorem d45 : decode yB 45 = .ok (.invokestatic 47, 3) := by decide +kernel
theorem d48 : decode yB 48 = .ok (.putfield 15, 3) := by decide +kernel
theorem d51 : decode yB 51 = .ok (.aload_n 0, 1) := by decide +kernel
theorem d52 : decode yB 52 = .ok (.aload 5, 2) := by decide +kernel
theorem d54 : decode yB 54 = .ok (.putfield 9, 3) := by decide +kernel
theorem d57 : decode yB 57 = .ok (.return_, 1) := by decide +kernel
def site : List Cond := [.fieldLink "java/lang/String" 38 "java/lang/String" "COMPACT_STRINGS" "Z", Cmp3.tab, CodL.tab, .laysFinal "java/lang/String" "java/lang/String" "value" "[B", .fieldLink "java/lang/String" 9 "java/lang/String" "value" "[B", .laysFinal "java/lang/String" "java/lang/String" "coder" "B", .fieldLink "java/lang/String" 15 "java/lang/String" "coder" "B"] ++ objW "java/lang/String" 1 ++ staticW "java/lang/String" 177 Cmp3.yN ++ staticW "java/lang/String" 47 CodL.yN
def tab : Cond := tabOf yN yB 6 none site
def P (a : Addr) (D : Cell) (fV fC : Field) (b : Addr) (A : Cell) (z : Int32) (o len : Nat) (args : Array Value) (s : State) : Prop := args = #[.ref a, .ref b, .int (Int32.ofNat o), .int (Int32.ofNat len), .null] ∧ Blank "java/lang/String" a D s ∧ Found "java/lang/String" "value" "[B" fV s ∧ Found "java/lang/String" "coder" "B" fC s ∧ Ch b A s ∧ StaticIs s "java/lang/String" "COMPACT_STRINGS" "Z" (.int z) ∧ ¬ z = 0 ∧ 0 < len ∧ o + len ≤ A.slots.size ∧ len ≤ 536870912 ∧ ∀ i, i < len → ¬ 255 < cv A (o + i)
def E (a : Addr) (D : Cell) (fV fC : Field) (A : Cell) (o len : Nat) (r : Option Value) (s u : State) : Prop := Got a D fV fC A o len r s u
/-- len > 0, no char of the range above 255: a Latin-1 String of their low bytes -/
theorem law (l : Launch) (a : Addr) (D : Cell) (fV fC : Field) (b : Addr) (A : Cell) (z : Int32) (o len : Nat) : Law l yN 5 4 2 35 yB 6 none site (P a D fV fC b A z o len) (E a D fV fC A o len) [⟨a, fC.slot⟩, ⟨a, fV.slot⟩] 1 len := by
  refine Law.of_walk (plainFor_of_name (by decide +kernel)) (by decide +kernel) (by decide +kernel) (by decide) (fun _ _ h => by rw [h.1]; rfl) (fun _ U U' hal hh h => ⟨h.1, h.2.1.mv hal hh, h.2.2.1.al hal, h.2.2.2.1.al hal, h.2.2.2.2.1.mv hal hh, h.2.2.2.2.2.1.there hal hh, h.2.2.2.2.2.2⟩) (fun r U U' V V' h1 hal h2 h => Got.mv r U U' V V' h1 hal h2 h) ?_
  intro p e s m args below meth c s₁ X0 hexec hbytes hml hret hlk hnm hown hh0 W hP
  obtain ⟨rfl, hB, f1, f2, hA, s1, hz, l0, l1, l2, hp⟩ := hP
  have a31 := hA.1.2.2.2
  have c1 : Steps p.tables e below (s₁.setTop (entryFrame m #[.ref a, .ref b, .int (Int32.ofNat o), .int (Int32.ofNat len), .null] 6)) (s₁.setTop (mkF m 0 #[.val (.ref a), .val (.ref b), .val (.int (Int32.ofNat o)), .val (.int (Int32.ofNat len)), .val .null, .unset] [])) := entry rfl
  have c2 : Steps p.tables e below (s₁.setTop (entryFrame m #[.ref a, .ref b, .int (Int32.ofNat o), .int (Int32.ofNat len), .null] 6)) (s₁.setTop (mkF m 1 #[.val (.ref a), .val (.ref b), .val (.int (Int32.ofNat o)), .val (.int (Int32.ofNat len)), .val .null, .unset] [.ref a])) := c1.trans (by
    refine XS.aloadN X0.here hexec rfl (hb hbytes d0) rfl rfl ?_
    exact Steps.refl _)
  obtain ⟨T3, X3, q3, st3⟩ := X0.oinit hexec hown (wks W (objW "java/lang/String" 1)) (g := (mkF m 1 #[.val (.ref a), .val (.ref b), .val (.int (Int32.ofNat o)), .val (.int (Int32.ofNat len)), .val .null, .unset] [.ref a])) rfl (by rw [hml]; rfl) (rest := []) rfl (hb hbytes d1) (W := 0) (by show 2 * 0 + 0 ≤ _; decide) (Nat.le_of_ble_eq_true rfl) (Nat.le_of_ble_eq_true rfl)
  have hh3 := q3.trans hh0
  have c4 : Steps p.tables e below (s₁.setTop (entryFrame m #[.ref a, .ref b, .int (Int32.ofNat o), .int (Int32.ofNat len), .null] 6)) (T3.setTop (mkF m 27 #[.val (.ref a), .val (.ref b), .val (.int (Int32.ofNat o)), .val (.int (Int32.ofNat len)), .val .null, .unset] [])) := (c2.trans (st3 _ (Steps.refl _))).trans (by
    refine XS.iloadN X3.here hexec rfl (hb hbytes d4) rfl ?_
    refine XS.ifYes X3.here hexec rfl (pc0 := 5) rfl (hb hbytes d5) rfl (i0_ne_t (nz32 (by omega) l0)) (by decide) rfl ?_
    exact Steps.refl _)
  obtain ⟨T5, X5, q5, st5⟩ := X3.sget hexec hown (wk W (.fieldLink "java/lang/String" 38 "java/lang/String" "COMPACT_STRINGS" "Z")) s1 (fun _ _ h => by rw [hh3]; exact h) (g := (mkF m 27 #[.val (.ref a), .val (.ref b), .val (.int (Int32.ofNat o)), .val (.int (Int32.ofNat len)), .val .null, .unset] [])) rfl (hb hbytes d27)
  have hh5 := q5.trans hh3
  have c6 : Steps p.tables e below (s₁.setTop (entryFrame m #[.ref a, .ref b, .int (Int32.ofNat o), .int (Int32.ofNat len), .null] 6)) (T5.setTop (mkF m 30 #[.val (.ref a), .val (.ref b), .val (.int (Int32.ofNat o)), .val (.int (Int32.ofNat len)), .val .null, .unset] [.int z])) := c4.trans (st5 _ (Steps.refl _))
  have c7 : Steps p.tables e below (s₁.setTop (entryFrame m #[.ref a, .ref b, .int (Int32.ofNat o), .int (Int32.ofNat len), .null] 6)) (T5.setTop (mkF m 36 #[.val (.ref a), .val (.ref b), .val (.int (Int32.ofNat o)), .val (.int (Int32.ofNat len)), .val .null, .unset] [.int (Int32.ofNat len), .int (Int32.ofNat o), .ref b])) := c6.trans (by
    refine XS.ifNo X5.here hexec rfl (hb hbytes d30) rfl (i0_eq_f hz) ?_
    refine XS.aloadN X5.here hexec rfl (hb hbytes d33) rfl rfl ?_
    refine XS.iloadN X5.here hexec rfl (hb hbytes d34) rfl ?_
    refine XS.iloadN X5.here hexec rfl (hb hbytes d35) rfl ?_
    exact Steps.refl _)
  obtain ⟨v8, T8, X8, E8, g8⟩ := X5.callS hexec (Cmp3.law l b A o len) hown (wks W (staticW "java/lang/String" 177 Cmp3.yN)) (wk W Cmp3.tab) (W := 0) (Nat.le_of_ble_eq_true rfl) (Nat.le_of_ble_eq_true rfl) (Nat.le_refl _) (by show 0 + len ≤ len; omega) (g := (mkF m 36 #[.val (.ref a), .val (.ref b), .val (.int (Int32.ofNat o)), .val (.int (Int32.ofNat len)), .val .null, .unset] [.int (Int32.ofNat len), .int (Int32.ofNat o), .ref b])) rfl (by rw [hml]; rfl) c7 (argsL := [.ref b, .int (Int32.ofNat o), .int (Int32.ofNat len)]) (rest := []) rfl rfl (by show 2 * 0 + 0 ≤ _; decide) (hb hbytes d36) (⟨rfl, hA.mv X5.warmed.alike hh5, l1, l2, hp⟩)
  obtain ⟨e8, z8⟩ := E8
  obtain ⟨rfl, N, n1, n2, n3, n4, n5, n6⟩ := NewArr.mv _ T5 s _ _ hh5.symm (Vm.Alike.refl _) rfl e8
  rw [hh5] at z8
  have hB1 := hB.keep X8.warmed.alike (n6 _ _ hB.1)
  have hne : s.heap.size ≠ a := (Nat.ne_of_lt (Array.getElem?_eq_some_iff.mp hB.1).1).symm
  have c9 : Steps p.tables e below (s₁.setTop (entryFrame m #[.ref a, .ref b, .int (Int32.ofNat o), .int (Int32.ofNat len), .null] 6)) (T8.setTop (mkF m 39 #[.val (.ref a), .val (.ref b), .val (.int (Int32.ofNat o)), .val (.int (Int32.ofNat len)), .val .null, .unset] [.ref s.heap.size])) := g8
  have c10 : Steps p.tables e below (s₁.setTop (entryFrame m #[.ref a, .ref b, .int (Int32.ofNat o), .int (Int32.ofNat len), .null] 6)) (T8.setTop (mkF m 45 #[.val (.ref a), .val (.ref b), .val (.int (Int32.ofNat o)), .val (.int (Int32.ofNat len)), .val .null, .val (.ref s.heap.size)] [.int (Int32.ofNat N.slots.size), .ref s.heap.size, .ref a])) := by
    have hc : Steps p.tables e below (s₁.setTop (entryFrame m #[.ref a, .ref b, .int (Int32.ofNat o), .int (Int32.ofNat len), .null] 6)) (T8.setTop (mkF m 45 #[.val (.ref a), .val (.ref b), .val (.int (Int32.ofNat o)), .val (.int (Int32.ofNat len)), .val .null, .val (.ref s.heap.size)] [.int (Int32.ofNat len), .ref s.heap.size, .ref a])) := c9.trans (by
      refine XS.astore X8.here hexec rfl (hb hbytes d39) rfl rfl rfl ?_
      refine XS.aloadN X8.here hexec rfl (hb hbytes d41) rfl rfl ?_
      refine XS.aload X8.here hexec rfl (hb hbytes d42) rfl rfl ?_
      refine XS.iloadN X8.here hexec rfl (hb hbytes d44) rfl ?_
      exact Steps.refl _)
    rw [n4]; exact hc
  obtain ⟨v11, T11, X11, E11, g11⟩ := X8.callS hexec (CodL.law l s.heap.size N) hown (wks W (staticW "java/lang/String" 47 CodL.yN)) (wk W CodL.tab) (W := 1) (Nat.le_of_ble_eq_true rfl) (Nat.le_of_ble_eq_true rfl) (Nat.le_refl _) (by show 0 + len + 0 ≤ len; omega) (g := (mkF m 45 #[.val (.ref a), .val (.ref b), .val (.int (Int32.ofNat o)), .val (.int (Int32.ofNat len)), .val .null, .val (.ref s.heap.size)] [.int (Int32.ofNat N.slots.size), .ref s.heap.size, .ref a])) rfl (by rw [hml]; rfl) c10 (argsL := [.ref s.heap.size, .int (Int32.ofNat N.slots.size)]) (rest := [.ref a]) rfl rfl (by show 2 * 0 + (1 + 0) ≤ _; decide) (hb hbytes d45) (⟨rfl, n1⟩)
  obtain ⟨rfl, q11⟩ := E11
  have hB11 := hB1.mv (X8.warmed.alike.symm.trans X11.warmed.alike) q11
  have c12 : Steps p.tables e below (s₁.setTop (entryFrame m #[.ref a, .ref b, .int (Int32.ofNat o), .int (Int32.ofNat len), .null] 6)) (T11.setTop (mkF m 48 #[.val (.ref a), .val (.ref b), .val (.int (Int32.ofNat o)), .val (.int (Int32.ofNat len)), .val .null, .val (.ref s.heap.size)] [.int 0, .ref a])) := g11
  obtain ⟨T13, X13, p13, bl13, sl13, st13⟩ := X11.finit hexec hown (wk W (.fieldLink "java/lang/String" 15 "java/lang/String" "coder" "B")) (Or.inr ⟨_, (wk W (.laysFinal "java/lang/String" "java/lang/String" "coder" "B"))⟩) (Or.inl ⟨rfl, hnm⟩) f2 (Or.inl rfl) hB11 (t := .byte) (by decide +kernel) rfl (g := (mkF m 48 #[.val (.ref a), .val (.ref b), .val (.int (Int32.ofNat o)), .val (.int (Int32.ofNat len)), .val .null, .val (.ref s.heap.size)] [.int 0, .ref a])) rfl (rest := []) rfl (hb hbytes d48)
  have c14 : Steps p.tables e below (s₁.setTop (entryFrame m #[.ref a, .ref b, .int (Int32.ofNat o), .int (Int32.ofNat len), .null] 6)) (T13.setTop (mkF m 54 #[.val (.ref a), .val (.ref b), .val (.int (Int32.ofNat o)), .val (.int (Int32.ofNat len)), .val .null, .val (.ref s.heap.size)] [.ref s.heap.size, .ref a])) := (c12.trans (st13 _ (Steps.refl _))).trans (by
    refine XS.aloadN X13.here hexec rfl (hb hbytes d51) rfl rfl ?_
    refine XS.aload X13.here hexec rfl (hb hbytes d52) rfl rfl ?_
    exact Steps.refl _)
  obtain ⟨T15, X15, p15, bl15, sl15, st15⟩ := X13.finit hexec hown (wk W (.fieldLink "java/lang/String" 9 "java/lang/String" "value" "[B")) (Or.inr ⟨_, (wk W (.laysFinal "java/lang/String" "java/lang/String" "value" "[B"))⟩) (Or.inl ⟨rfl, hnm⟩) f1 (Or.inl rfl) bl13 (t := (.array .byte)) (by decide +kernel) rfl (g := (mkF m 54 #[.val (.ref a), .val (.ref b), .val (.int (Int32.ofNat o)), .val (.int (Int32.ofNat len)), .val .null, .val (.ref s.heap.size)] [.ref s.heap.size, .ref a])) rfl (rest := []) rfl (hb hbytes d54)
  have c16 : Steps p.tables e below (s₁.setTop (entryFrame m #[.ref a, .ref b, .int (Int32.ofNat o), .int (Int32.ofNat len), .null] 6)) (T15.setTop (mkF m 57 #[.val (.ref a), .val (.ref b), .val (.int (Int32.ofNat o)), .val (.int (Int32.ofNat len)), .val .null, .val (.ref s.heap.size)] [])) := c14.trans (st15 _ (Steps.refl _))
  have ap := apart (Or.inr ⟨_, (wk W (.laysFinal "java/lang/String" "java/lang/String" "value" "[B"))⟩) (Or.inr ⟨_, (wk W (.laysFinal "java/lang/String" "java/lang/String" "coder" "B"))⟩) f1 f2 (t₁ := .array .byte) (t₂ := .byte) (by decide +kernel) (by decide +kernel) (by decide)
  have al := X8.warmed.alike.symm.trans X15.warmed.alike
  have n7 : T11.heap[s.heap.size]? = some N := by rw [q11]; exact n1.1
  exact ⟨T15, none, _, _, _, X15, by simp, rfl, by omega, (fun _ => rfl), ⟨rfl, _, N, bl15, ((Same.refl D _).set _ (by simp)).set _ (by simp), sl15, (Cell.slots_setSlot_ne _ ap).trans sl13, n1.keep al (p15.other hne (p13.other hne n7)), n2, by rw [al.findClass]; exact n3, n4, n5, fun y c h1 h2 => p15.other h1 (p13.other h1 (by rw [q11]; exact n6 y c h2)), by rw [p15.2.2, p13.2.2, q11]; exact z8⟩, fun fs hl => c16.trans (X15.returnOut hexec hret (hb hbytes d57) hl)⟩
end New4
namespace New1
def yN : MethodName := ⟨"java/lang/String", "<init>", "([C)V"⟩
abbrev yB : ByteArray := jdk_42_method_3_code
theorem d0 : decode yB 0 = .ok (.aload_n 0, 1) := by decide +kernel
theorem d1 : decode yB 1 = .ok (.aload_n 1, 1) := by decide +kernel
theorem d2 : decode yB 2 = .ok (.iconst 0, 1) := by decide +kernel
theorem d3 : decode yB 3 = .ok (.aload_n 1, 1) := by decide +kernel
theorem d4 : decode yB 4 = .ok (.arraylength, 1) := by decide +kernel
theorem d5 : decode yB 5 = .ok (.aconst_null, 1) := by decide +kernel
theorem d6 : decode yB 6 = .ok (.invokespecial 27, 3) := by decide +kernel
theorem d9 : decode yB 9 = .ok (.return_, 1) := by decide +kernel
def site : List Cond := [New4.tab] ++ initW "java/lang/String" 27 New4.yN
def tab : Cond := tabOf yN yB 2 none site
def P (a : Addr) (D : Cell) (fV fC : Field) (b : Addr) (A : Cell) (z : Int32) (args : Array Value) (s : State) : Prop := args = #[.ref a, .ref b] ∧ Blank "java/lang/String" a D s ∧ Found "java/lang/String" "value" "[B" fV s ∧ Found "java/lang/String" "coder" "B" fC s ∧ Ch b A s ∧ StaticIs s "java/lang/String" "COMPACT_STRINGS" "Z" (.int z) ∧ ¬ z = 0 ∧ 0 < A.slots.size ∧ A.slots.size ≤ 536870912 ∧ ∀ i, i < A.slots.size → ¬ 255 < cv A i
def E (a : Addr) (D : Cell) (fV fC : Field) (A : Cell) (r : Option Value) (s u : State) : Prop := Got a D fV fC A 0 A.slots.size r s u
/-- new String(chars), not empty, no char above 255: a Latin-1 String of their low bytes -/
theorem law (l : Launch) (a : Addr) (D : Cell) (fV fC : Field) (b : Addr) (A : Cell) (z : Int32) : Law l yN 2 1 3 52 yB 2 none site (P a D fV fC b A z) (E a D fV fC A) [⟨a, fC.slot⟩, ⟨a, fV.slot⟩] 1 A.slots.size := by
  refine Law.of_walk (plainFor_of_name (by decide +kernel)) (by decide +kernel) (by decide +kernel) (by decide) (fun _ _ h => by rw [h.1]; rfl) (fun _ U U' hal hh h => ⟨h.1, h.2.1.mv hal hh, h.2.2.1.al hal, h.2.2.2.1.al hal, h.2.2.2.2.1.mv hal hh, h.2.2.2.2.2.1.there hal hh, h.2.2.2.2.2.2⟩) (fun r U U' V V' h1 hal h2 h => Got.mv r U U' V V' h1 hal h2 h) ?_
  intro p e s m args below meth c s₁ X0 hexec hbytes hml hret hlk hnm hown hh0 W hP
  obtain ⟨rfl, hB, f1, f2, hA, s1, hz, l0, l2, hp⟩ := hP
  have c1 : Steps p.tables e below (s₁.setTop (entryFrame m #[.ref a, .ref b] 2)) (s₁.setTop (mkF m 0 #[.val (.ref a), .val (.ref b)] [])) := entry rfl
  have c2 : Steps p.tables e below (s₁.setTop (entryFrame m #[.ref a, .ref b] 2)) (s₁.setTop (mkF m 6 #[.val (.ref a), .val (.ref b)] [.null, .int (Int32.ofNat A.slots.size), .int 0, .ref b, .ref a])) := c1.trans (by
    refine XS.aloadN X0.here hexec rfl (hb hbytes d0) rfl rfl ?_
    refine XS.aloadN X0.here hexec rfl (hb hbytes d1) rfl rfl ?_
    refine iconstV X0.here hexec rfl 0 (hb hbytes d2) (by decide) ?_
    refine XS.aloadN X0.here hexec rfl (hb hbytes d3) rfl rfl ?_
    refine X0.alen hexec (hA.1.mv X0.warmed.alike hh0) rfl rfl (hb hbytes d4) ?_
    refine XS.aconstNull X0.here hexec rfl (hb hbytes d5) ?_
    exact Steps.refl _)
  obtain ⟨v3, T3, X3, E3, g3⟩ := X0.callN hexec (New4.law l a D fV fC b A z 0 A.slots.size) rfl hown (wks W (initW "java/lang/String" 27 New4.yN)) (W New4.tab (by simp only [site, List.mem_cons, List.mem_append, true_or, or_true])) (W := 0) (Nat.le_of_ble_eq_true rfl) (Nat.le_of_ble_eq_true rfl) (Nat.le_refl _) (by show 0 + A.slots.size ≤ A.slots.size; omega) (g := (mkF m 6 #[.val (.ref a), .val (.ref b)] [.null, .int (Int32.ofNat A.slots.size), .int (Int32.ofNat 0), .ref b, .ref a])) rfl (by rw [hml]; rfl) c2 (argsL := [.ref b, .int (Int32.ofNat 0), .int (Int32.ofNat A.slots.size), .null]) (rest := []) rfl rfl (by show 2 * 0 + 0 ≤ _; decide) (hb hbytes d6) (⟨rfl, hB.mv X0.warmed.alike hh0, f1.al X0.warmed.alike, f2.al X0.warmed.alike, hA.mv X0.warmed.alike hh0, s1.there X0.warmed.alike hh0, hz, l0, by omega, l2, fun i hi => by rw [Nat.zero_add]; exact hp i hi⟩)
  have e0 := Got.mv _ s₁ s _ _ hh0.symm (Vm.Alike.refl _) rfl E3
  obtain rfl := e0.1
  have c4 : Steps p.tables e below (s₁.setTop (entryFrame m #[.ref a, .ref b] 2)) (T3.setTop (mkF m 9 #[.val (.ref a), .val (.ref b)] [])) := g3
  exact ⟨T3, none, _, _, _, X3, by simp, rfl, by omega, (fun _ => rfl), e0, fun fs hl => c4.trans (X3.returnOut hexec hret (hb hbytes d9) hl)⟩
theorem pays {l : Launch} {R : Room} {p : Program} {e : Env} {below : List Frame} {s : State} {sargs : Array Value} {len W : Nat} (a : Addr) (D : Cell) (fV fC : Field) (b : Addr) (A : Cell) (z : Int32) (htab : tab.before sargs s = true) (hfr : 4 ≤ R.frames) (hlo : W + 65 ≤ R.locals) :
    Back l R p e below s sargs yN len W (fun A₁ a₁ => A₁.cells + 1 ≤ R.cells ∧ A₁.slots + A.slots.size ≤ R.slots ∧ P a D fV fC b A z a₁ A₁.U) (fun A₁ _ v₁ B₁ => E a D fV fC A v₁ A₁.U B₁.U ∧ B₁.locs = A₁.locs ++ [⟨a, fC.slot⟩, ⟨a, fV.slot⟩] ∧ B₁.cells = A₁.cells + 1 ∧ B₁.slots = A₁.slots + A.slots.size) :=
  (law l a D fV fC b A z).pays htab hfr (by omega)
end New1
/-- the byte, read back as charAt reads it, is the char -/
theorem lo8_mask {x : Int32} (h0 : ¬ x < 0) (h1 : ¬ 255 < x) : lo8 x &&& 255 = x := by
  have t : ∀ k : Fin 256, lo8 (Int32.ofNat k.val) &&& 255 = Int32.ofNat k.val := by decide +kernel
  rw [Int32.lt_iff_toInt_lt] at h0 h1
  have e0 : (0 : Int32).toInt = 0 := rfl
  have e1 : (255 : Int32).toInt = 255 := rfl
  obtain ⟨k, hk⟩ : ∃ k : Nat, x.toInt = k := ⟨x.toInt.toNat, by omega⟩
  have hx : x = Int32.ofNat k := Int32.toInt_inj.mp (by rw [hk, Int32.toInt_ofNat_small (by omega)])
  rw [hx]
  exact t ⟨k, by omega⟩
end StrChars
namespace StrChars.Road
open Jvm Sem ClassFile Op Lib Jvm.Stand Jvm.Free Jvm.Free.XT
open Jvm.Lib.Cold (StaticIs)
abbrev ST : String := "java/lang/String"
/-- every table word that New1's law asks, flat -/
abbrev words : List Jvm.Cond := [.code New1.yN New1.yB 2 none, .initialized ST, .methodLink ST 27 New4.yN, .instanceMethod New4.yN,
  .code New4.yN New4.yB 6 none, .fieldLink ST 38 ST "COMPACT_STRINGS" "Z", .laysFinal ST ST "value" "[B", .fieldLink ST 9 ST "value" "[B", .laysFinal ST ST "coder" "B", .fieldLink ST 15 ST "coder" "B",
  .methodLink ST 1 Lib.objectInit, .instanceMethod Lib.objectInit, .code Lib.objectInit ⟨#[0xb1]⟩ 1 none, .methodLink ST 177 Cmp3.yN, .static Cmp3.yN, .methodLink ST 47 CodL.yN, .static CodL.yN,
  .code Cmp3.yN Cmp3.yB 6 (some (.array .byte)), .initialized U16, .arrayClass .byte, .methodLink U16 115 Cmp5.yN, .static Cmp5.yN, .code Cmp5.yN Cmp5.yB 7 (some .int), .code CodL.yN CodL.yB 2 (some .byte)]
theorem tab_of {a : Array Value} {s : State} (h : ∀ w ∈ words, w.before a s = true) : New1.tab.before a s = true := by
  have h5 : Cmp5.tab.before a s = true := unparts (wk h (.code Cmp5.yN Cmp5.yB 7 (some .int))) (wks h (.initialized Cmp5.yN.cls :: Cmp5.site))
  have hc : CodL.tab.before a s = true := unparts (wk h (.code CodL.yN CodL.yB 2 (some .byte))) (wks h (.initialized CodL.yN.cls :: CodL.site))
  have q5 : ∀ w ∈ Cmp5.tab :: words, w.before a s = true := fun w hw => (List.mem_cons.mp hw).elim (fun e => e ▸ h5) (h w)
  have h3 : Cmp3.tab.before a s = true := unparts (wk q5 (.code Cmp3.yN Cmp3.yB 6 (some (.array .byte)))) (wks q5 (.initialized Cmp3.yN.cls :: Cmp3.site))
  have q3 : ∀ w ∈ Cmp3.tab :: CodL.tab :: words, w.before a s = true := fun w hw => (List.mem_cons.mp hw).elim (fun e => e ▸ h3) fun hw => (List.mem_cons.mp hw).elim (fun e => e ▸ hc) (h w)
  have h4 : New4.tab.before a s = true := unparts (wk q3 (.code New4.yN New4.yB 6 none)) (wks q3 (.initialized New4.yN.cls :: New4.site))
  have q4 : ∀ w ∈ New4.tab :: words, w.before a s = true := fun w hw => (List.mem_cons.mp hw).elim (fun e => e ▸ h4) (h w)
  exact unparts (wk q4 (.code New1.yN New1.yB 2 none)) (wks q4 (.initialized New1.yN.cls :: New1.site))
/-- the words ride from the start Z to the walk's own state -/
theorem moved {Z s : State} {a0 args : Array Value} (hZ : Z.Warmed39 s.vm) (hw : ∀ d ∈ words, d.before a0 Z = true) : ∀ d ∈ words, d.before args s = true := fun d hd => by
  have q := hw d hd
  have t : ∀ d ∈ words, d = .arrayClass .byte ∨ (d.onTables && d.keepsFace) = true := by decide +kernel
  rcases t d hd with rfl | t
  · exact RoadKit.mvA hZ q
  · exact RoadKit.mv hZ q t
/-- WHAT COMES BACK, over the tables of the start Z: h the heap at the call, h' behind it -/
def Q (Z : State) (x : Addr) (A : Cell) (h : Heap) (v : Option Value) (h' : Heap) (L : List Loc) : Prop := v = none ∧ (∀ y ∈ L, y.base = x) ∧ RoadKit.Keep h h' [x] ∧ h'.size = h.size + 1 ∧ RoadKit.Exa Z h' x ST ∧ RoadKit.Fld Z h' x ST "value" "[B" (.ref h.size) ∧ RoadKit.Fld Z h' x ST "coder" "B" (.int 0) ∧
  (∃ V : Cell, RoadKit.Arr Z h' h.size V .byte ∧ V.vm = .none ∧ Z.vm.findClass "[B" = some V.cls ∧ V.slots.size = A.slots.size ∧ ∀ j, j < A.slots.size → V.slots[j]? = some (.int (lo8 (cv A j)))) ∧
  ∀ (O n d : String) (w : Value), RoadKit.Fld Z h x O n d w → RoadKit.slotOf Z O n d ≠ RoadKit.slotOf Z ST "value" "[B" → RoadKit.slotOf Z O n d ≠ RoadKit.slotOf Z ST "coder" "B" → RoadKit.Fld Z h' x O n d w
/-- **new String(chars) AT A CALL, IN THE ROAD'S FORM**: for specialBack behind newO: x the fresh String, b the char[] with the cell A -/
theorem back {p : Program} {l : Launch} {e : Env} {R : Room} {s : State} {args : Array Value} {below : List Frame} {len W : Nat} {Z : State} {a0 : Array Value} {h : Heap} (hZ : Z.Warmed39 s.vm) (hw : ∀ d ∈ words, d.before a0 Z = true) {kI : Nat} (wi : (Jvm.Cond.instantiable ST kI).before a0 Z = true)
    {x b : Addr} {A : Cell} {z : Int32} {v0 c0 : Value} (E : RoadKit.Exa Z h x ST) (V : RoadKit.Fld Z h x ST "value" "[B" v0) (C : RoadKit.Fld Z h x ST "coder" "B" c0) (K : RoadKit.Arr Z h b A .char) (hty : Typed .char A) (S : RoadKit.Sta Z h ST "COMPACT_STRINGS" "Z" (.int z)) (hz : ¬ z = 0)
    (l0 : 0 < A.slots.size) (l2 : A.slots.size ≤ 536870912) (hp : ∀ i, i < A.slots.size → ¬ 255 < cv A i) (hfr : 4 ≤ R.frames) (hlo : W + 65 ≤ R.locals) :
    Back l R p e below s args New1.yN len W (fun P a => a = #[.ref x, .ref b] ∧ P.U.heap = h ∧ P.cells + 1 ≤ R.cells ∧ P.slots + A.slots.size ≤ R.slots)
      (fun P _ v B => ∃ L, Q Z x A h v B.U.heap L ∧ B.locs = P.locs ++ L ∧ B.cells = P.cells + 1 ∧ B.slots = P.slots + A.slots.size) := by
  intro m meth c P g ig mk a X hg hsize hdg hW hn hp'
  obtain ⟨rfl, rfl, r1, r2⟩ := hp'
  have al : Z.vm.Alike P.U.vm := hZ.alike.trans X.warmed.alike
  obtain ⟨D, cfV, kV, iV, fV, hD, gV, stV, knV, obV, asV, slV⟩ := id V
  obtain ⟨D', cfC, kC, iC, fC, hD', gC, stC, -, -, asC, slC⟩ := id C
  cases hD.symm.trans hD'
  obtain ⟨D2, kD, e1, e2, e3, e4, e5⟩ := id E
  cases hD.symm.trans e1
  obtain ⟨c2, k2, i1, i2, i3, -⟩ := Cond.instantiable_spec wi
  cases e2.symm.trans i1
  cases e3.symm.trans i2
  obtain ⟨kU, u1, u2⟩ := al.2.2 _ _ e3
  have hB : Blank ST x D P.U := ⟨hD, ⟨knV, fun q hq => by rw [hq] at obV; cases obV⟩, by rw [al.findClass]; exact e2, kU, u1, by rw [u2]; exact i3, by rw [u2]; exact e5 i3⟩
  have F1 : Found ST "value" "[B" fV P.U := ⟨SBG.found_only al ⟨cfV, kV, iV, gV⟩, stV⟩
  have F2 : Found ST "coder" "B" fC P.U := ⟨SBG.found_only al ⟨cfC, kC, iC, gC⟩, stC⟩
  have hA : Ch b A P.U := ⟨⟨K.1, State.isArrayOf_alike al K.2.1, K.2.2, by omega⟩, hty⟩
  have hS : StaticIs P.U ST "COMPACT_STRINGS" "Z" (.int z) := by
    obtain ⟨cfS, iS, kS, fS, st, cS, t1, t2, t3, t4, t5, t6, t7⟩ := S
    exact StaticIs.there (s := { Z with heap := P.U.heap }) ⟨cfS, iS, kS, fS, st, cS, t1, t2, t3, t4, t5, (fun q => by rw [q] at t6; cases t6), t7⟩ al rfl
  obtain ⟨v, B, X', ⟨⟨hv, E', V', q1, q2, q3, q4, q5, q6, q7, q8, q9, q10, q11⟩, hl, hc, hs⟩, st⟩ := New1.pays x D fV fC b A z (tab_of (moved hZ hw)) hfr hlo m meth c P g ig mk _ X hg hsize hdg hW hn ⟨r1, r2, rfl, hB, F1, F2, hA, hS, hz, l0, l2, hp⟩
  have al' : Z.vm.Alike B.U.vm := hZ.alike.trans X'.warmed.alike
  have hsz : E'.slots.size = D.slots.size := by
    obtain ⟨-, -, -, kB, w1, w2, w3⟩ := q1
    obtain ⟨kB', y1, y2⟩ := al'.2.2 _ _ e3
    rw [q2.2.1] at w1
    cases w1.symm.trans y1
    rw [w3, e5 i3, y2]
  refine ⟨v, B, X', ⟨_, ⟨hv, ?_, ⟨by omega, fun y cy hy hn' => q10 y cy (by simpa using hn') hy, fun y cy hy => ?_⟩, q11, ⟨E', _, q1.1, by rw [q2.2.1]; exact e2, by rw [q2.2.1]; exact e3, by rw [q2.1]; exact obV, fun _ => by rw [hsz]; exact e5 i3⟩,
    ⟨E', cfV, kV, iV, fV, q1.1, gV, stV, by rw [q2.1]; exact knV, by rw [q2.1]; exact obV, by rw [q2.2.1]; exact asV, q3⟩, ⟨E', cfC, kC, iC, fC, q1.1, gC, stC, by rw [q2.1]; exact knV, by rw [q2.1]; exact obV, by rw [q2.2.1]; exact asC, q4⟩,
    ⟨V', ⟨q5.1, State.isArrayOf_alike al'.symm q5.2.1, q5.2.2.1⟩, q6, by rw [← al'.findClass]; exact q7, q8, fun j hj => by have := q9 j hj; rwa [Nat.zero_add] at this⟩, fun O n d w F n1 n2 => ?_⟩, hl, hc, hs⟩, st⟩
  · intro y hy
    simp only [List.mem_cons, List.not_mem_nil, or_false] at hy
    rcases hy with rfl | rfl <;> rfl
  · by_cases q : y = x
    · subst q
      cases hD.symm.trans hy
      exact ⟨E', q1.1, q2.2.1, q2.1, hsz⟩
    · exact ⟨cy, q10 y cy q hy, rfl, rfl, rfl⟩
  · obtain ⟨D3, cf, k, i, f, g1, g2, g3, g4, g5, g6, g7⟩ := F
    cases hD.symm.trans g1
    simp only [RoadKit.slotOf, g2, gV, gC, Option.map_some, Option.getD_some] at n1 n2
    exact ⟨E', cf, k, i, f, q1.1, g2, g3, by rw [q2.1]; exact g4, by rw [q2.1]; exact g5, by rw [q2.2.1]; exact g6, by rw [q2.2.2 f.slot (by simp [n1, n2])]; exact g7⟩
end StrChars.Road
namespace StrChars.Road
open Jvm Sem ClassFile Op Lib Jvm.Stand Jvm.Free Jvm.Free.XT
/-- WHAT COMES BACK, the byte[] as a list of values -/
def QA (Z : State) (x : Addr) (zn : Int32) (cs : List Int32) (h : Heap) (v : Option Value) (h' : Heap) (L : List Loc) : Prop := v = none ∧ (∀ y ∈ L, y.base = x) ∧ RoadKit.Keep h h' [x] ∧ h'.size = h.size + 1 ∧ RoadKit.Exa Z h' x ST ∧ RoadKit.Fld Z h' x ST "value" "[B" (.ref h.size) ∧ RoadKit.Fld Z h' x ST "coder" "B" (.int 0) ∧
  (∃ kb, Z.vm.findClass "[B" = some kb ∧ RoadKit.Arv Z h' h.size kb .byte zn (cs.map fun c => .int (lo8 c)) (.int 0)) ∧
  ∀ (O n d : String) (w : Value), RoadKit.Fld Z h x O n d w → RoadKit.slotOf Z O n d ≠ RoadKit.slotOf Z ST "value" "[B" → RoadKit.slotOf Z O n d ≠ RoadKit.slotOf Z ST "coder" "B" → RoadKit.Fld Z h' x O n d w
/-- **new String(chars) AT A CALL, THE ARRAYS AS LISTS**: the char[] at b holds cs, not empty, no char above 255 -/
theorem backArv {p : Program} {l : Launch} {e : Env} {R : Room} {s : State} {args : Array Value} {below : List Frame} {len W : Nat} {Z : State} {a0 : Array Value} {h : Heap} (hZ : Z.Warmed39 s.vm) (hw : ∀ d ∈ words, d.before a0 Z = true) {kI : Nat} (wi : (Jvm.Cond.instantiable ST kI).before a0 Z = true)
    {x b : Addr} {k : ClassId} {zn z : Int32} {cs : List Int32} {dv v0 c0 : Value} (E : RoadKit.Exa Z h x ST) (V : RoadKit.Fld Z h x ST "value" "[B" v0) (C : RoadKit.Fld Z h x ST "coder" "B" c0) (K : RoadKit.Arv Z h b k .char zn (cs.map Value.int) dv) (S : RoadKit.Sta Z h ST "COMPACT_STRINGS" "Z" (.int z)) (hz : ¬ z = 0)
    (hlen : zn.toNatClampNeg = cs.length) (h0 : 0 < cs.length) (hbig : cs.length ≤ 536870912) (hall : ∀ c ∈ cs, ¬ 255 < c) (hfr : 4 ≤ R.frames) (hlo : W + 65 ≤ R.locals) :
    Back l R p e below s args New1.yN len W (fun P a => a = #[.ref x, .ref b] ∧ P.U.heap = h ∧ P.cells + 1 ≤ R.cells ∧ P.slots + cs.length ≤ R.slots)
      (fun P _ v B => ∃ L, QA Z x zn cs h v B.U.heap L ∧ B.locs = P.locs ++ L ∧ B.cells = P.cells + 1 ∧ B.slots = P.slots + cs.length) := by
  obtain ⟨A, K1, K2, K3, K4, K5, K6⟩ := K
  have e : A.slots.size = cs.length := K3.trans hlen
  have hat : ∀ (i : Nat) (hi : i < cs.length), A.slots[i]? = some (.int cs[i]) := fun i hi => by rw [K5 i (by omega)]; simp [List.getD_eq_getElem?_getD, hi]
  have hcv : ∀ (i : Nat) (hi : i < cs.length), cv A i = cs[i] := fun i hi => by unfold cv; rw [hat i hi]
  have hty : Typed .char A := fun i v hv => by
    have hi : i < A.slots.size := (Array.getElem?_eq_some_iff.mp hv).1
    have q := K5 i hi
    rw [hv] at q
    rw [Option.some.inj q]
    exact K6 i hi
  refine Back.mono (back hZ hw wi E V C K1 hty S hz (by omega) (by omega) (fun i hi => by rw [hcv i (by omega)]; exact hall _ (List.getElem_mem _)) hfr hlo) (fun P a hp => ⟨hp.1, hp.2.1, hp.2.2.1, by rw [e]; exact hp.2.2.2⟩) (fun P a v B hp hq => ?_)
  obtain ⟨L, ⟨q1, q2, q3, q4, q5, q6, q7, ⟨V', v1, v2, v3, v4, v5⟩, q9⟩, hl, hc, hs⟩ := hq
  refine ⟨L, ⟨q1, q2, q3, q4, q5, q6, q7, ⟨V'.cls, v3, V', v1, rfl, by rw [v4, e, hlen], K4, fun i hi => ?_, fun i hi => ?_⟩, q9⟩, hl, hc, by rw [hs, e]⟩
  · have hi' : i < cs.length := by omega
    rw [v5 i (by omega), hcv i hi']; simp [List.getD_eq_getElem?_getD, hi']
  · have hi' : i < cs.length := by omega
    simp only [List.getD_eq_getElem?_getD, List.getElem?_map, List.getElem?_eq_getElem hi', Option.map_some, Option.getD_some]
    exact fits_lo8 _
end StrChars.Road
namespace StrChars.Road
open Jvm Sem ClassFile Op Lib Jvm.Stand Jvm.Free Jvm.Free.XT
/-- WHAT COMES BACK, in the writer's own shape -/
def QV (Z : State) (x : Addr) (N : Int32) (bs : List Int32) (h : Heap) (n0 : Nat) (v : Option Value) (h' : Heap) (L : List Loc) : Prop := v = none ∧ RoadKit.Fr n0 L ∧ RoadKit.Keep h h' [x] ∧ RoadKit.Exa Z h' x ST ∧ RoadKit.Fld Z h' x ST "coder" "B" (.int 0) ∧
  ∃ (t : Addr) (kb : ClassId), n0 ≤ t ∧ h.size ≤ t ∧ ¬ t = x ∧ RoadKit.Fld Z h' x ST "value" "[B" (.ref t) ∧ RoadKit.Arv Z h' t kb .byte N (bs.map Value.int) (.int 0)
/-- **new String(chars) AT A CALL, FOR THE WRITER**: a char[] of n known ints, each 0 to 255 -/
theorem backV {p : Program} {l : Launch} {e : Env} {R : Room} {s : State} {args : Array Value} {below : List Frame} {len W : Nat} {Z : State} {a0 : Array Value} {h : Heap} (hZ : Z.Warmed39 s.vm) (hw : ∀ d ∈ words, d.before a0 Z = true) {kI : Nat} (wi : (Jvm.Cond.instantiable ST kI).before a0 Z = true)
    {x b : Addr} {kC : ClassId} {cs bs : List Int32} {d v0 c0 : Value} {z N : Int32} {n n0 : Nat} (hx0 : n0 ≤ x) (hh0 : n0 ≤ h.size) (E : RoadKit.Exa Z h x ST) (V : RoadKit.Fld Z h x ST "value" "[B" v0) (C : RoadKit.Fld Z h x ST "coder" "B" c0) (K : RoadKit.Arv Z h b kC .char N (cs.map Value.int) d) (S : RoadKit.Sta Z h ST "COMPACT_STRINGS" "Z" (.int z)) (hz : ¬ z = 0)
    (hn : cs.length = n) (hN : N = Int32.ofNat n) (l0 : 0 < n) (l2 : n ≤ 4000) (hp : ∀ c ∈ cs, ¬ c < 0 ∧ ¬ (255 : Int32) < c) (hb : bs = cs.map (fun c => c.toInt8.toInt32)) (hfr : 4 ≤ R.frames) (hlo : W + 65 ≤ R.locals) :
    Back l R p e below s args (⟨"java/lang/String", "<init>", "([C)V"⟩ : MethodName) len W (fun P a => a = #[.ref x, .ref b] ∧ P.U.heap = h ∧ P.cells + 1 ≤ R.cells ∧ P.slots + n ≤ R.slots)
      (fun P _ v B => ∃ L, QV Z x N bs h n0 v B.U.heap L ∧ B.locs = P.locs ++ L ∧ B.cells = P.cells + 1 ∧ B.slots = P.slots + n) := by
  subst hn hN hb
  refine Back.mono (backArv hZ hw wi E V C K S hz (n32 (by omega)) l0 (by omega) (fun c hc => (hp c hc).2) hfr hlo) (fun P a hp => hp) (fun P a v B hp hq => ?_)
  obtain ⟨L, ⟨q1, q2, q3, q4, q5, q6, q7, ⟨kb, v1, v2⟩, q9⟩, hl, hc, hs⟩ := hq
  exact ⟨L, ⟨q1, fun y hy => by rw [q2 y hy]; exact hx0, q3, q5, q7, h.size, kb, hh0, Nat.le_refl _, Nat.ne_of_gt E.lt, q6, by rw [List.map_map]; exact v2⟩, hl, hc, hs⟩
end StrChars.Road
namespace StrChars
open Jvm Sem ClassFile Op Lib Jvm.Stand Jvm.Free.XT Jvm.Free.ALB Jvm.Free.JM Jvm.Free
open Jvm.Lib.Cold (StaticIs)
def hi8 (x : Int32) : Int32 := lo8 (x >>> ((8 : Int32) &&& 31))
/-- what StringUTF16.getChar makes of two bytes -/
def pairCh (u v : Int32) : Int32 := (((u &&& 255) <<< ((0 : Int32) &&& 31)) ||| ((v &&& 255) <<< ((8 : Int32) &&& 31))).toUInt32.toUInt16.toUInt32.toInt32
theorem lo8_and (x : Int32) : (lo8 x &&& 255).toBitVec.toNat = x.toBitVec.toNat % 256 := by
  have h : (lo8 x).toBitVec = (x.toBitVec.signExtend 8).signExtend 32 := by rw [lo8, Int8.toBitVec_toInt32, Int32.toBitVec_toInt8]
  rw [Int32.toBitVec_and, BitVec.toNat_and, h]
  have e : ((x.toBitVec.signExtend 8).signExtend 32).toNat % 256 = x.toBitVec.toNat % 256 := by
    rw [BitVec.toNat_signExtend]
    have hlt := x.toBitVec.isLt
    simp only [BitVec.toNat_setWidth, BitVec.toNat_signExtend]
    split <;> split <;> omega
  rw [← e]
  exact Nat.and_two_pow_sub_one_eq_mod _ 8
theorem pair_says {c : Int32} (h0 : ¬ c < 0) (h1 : ¬ 65535 < c) : pairCh (lo8 c) (hi8 c) = c := by
  rw [Int32.lt_iff_toInt_lt] at h0 h1
  have e0 : (0 : Int32).toInt = 0 := rfl
  have e1 : (65535 : Int32).toInt = 65535 := rfl
  have hc : c.toInt = c.toBitVec.toNat := by
    have := c.toBitVec.isLt
    have e : c.toInt = c.toBitVec.toInt := rfl
    rw [e] at h0 h1
    rw [e]
    rw [BitVec.toInt_eq_toNat_cond] at h0 h1 ⊢
    split at h0 <;> split <;> omega
  have hn : c.toBitVec.toNat < 65536 := by omega
  have a1 := lo8_and c
  have a2 : (hi8 c &&& 255).toBitVec.toNat = c.toBitVec.toNat / 256 := by
    rw [hi8, lo8_and]
    have e : ((8 : Int32) &&& 31) = 8 := by decide
    rw [e, Int32.toBitVec_shiftRight]
    have e2 : ((8 : Int32).toBitVec.smod 32) = 8#32 := by decide
    rw [e2, BitVec.sshiftRight_eq', BitVec.toNat_sshiftRight_of_msb_false (by rw [BitVec.msb_eq_false_iff_two_mul_lt]; omega)]
    show c.toBitVec.toNat >>> 8 % 256 = _
    rw [Nat.shiftRight_eq_div_pow]
    omega
  unfold pairCh
  apply Int32.toBitVec_inj.mp
  apply BitVec.eq_of_toNat_eq
  have f0 : ((0 : Int32) &&& 31) = 0 := by decide
  have f8 : ((8 : Int32) &&& 31) = 8 := by decide
  rw [f0, f8]
  have g : (((lo8 c &&& 255) <<< (0 : Int32)) ||| ((hi8 c &&& 255) <<< (8 : Int32))).toBitVec.toNat = c.toBitVec.toNat := by
    rw [Int32.toBitVec_or, Int32.toBitVec_shiftLeft, Int32.toBitVec_shiftLeft]
    have s0 : ((0 : Int32).toBitVec.smod 32) = 0#32 := by decide
    have s8 : ((8 : Int32).toBitVec.smod 32) = 8#32 := by decide
    rw [s0, s8, BitVec.toNat_or]
    simp only [BitVec.shiftLeft_eq', BitVec.toNat_shiftLeft, a1, a2]
    show (c.toBitVec.toNat % 256) <<< 0 % 2 ^ 32 ||| (c.toBitVec.toNat / 256) <<< 8 % 2 ^ 32 = _
    rw [Nat.shiftLeft_zero, Nat.mod_eq_of_lt (show c.toBitVec.toNat % 256 < 2 ^ 32 by omega), Nat.mod_eq_of_lt (show (c.toBitVec.toNat / 256) <<< 8 < 2 ^ 32 by rw [Nat.shiftLeft_eq]; omega), Nat.or_comm, ← Nat.shiftLeft_add_eq_or_of_lt (by omega), Nat.shiftLeft_eq]
    omega
  show BitVec.toNat (((((lo8 c &&& 255) <<< (0 : Int32)) ||| ((hi8 c &&& 255) <<< (8 : Int32))).toBitVec.setWidth 16).setWidth 32) = _
  rw [BitVec.toNat_setWidth, BitVec.toNat_setWidth, g]
  omega
end StrChars
namespace StrChars
open Jvm Sem ClassFile Op Lib Jvm.Stand Jvm.Free.XT Jvm.Free.ALB Jvm.Free.JM Jvm.Free
open Jvm.Lib.Cold (StaticIs)
/-- the array's cell V codes the n chars f 0 .. f (n - 1) by the coder cd, as the JDK does: coder 1 just where some char is above 255 -/
def Cod (cd : Int32) (n : Nat) (f : Nat → Int32) (V : Cell) : Prop := (cd = 0 ∧ V.slots.size = n ∧ ∀ j, j < n → V.slots[j]? = some (.int (lo8 (f j))) ∧ ¬ 255 < f j) ∨ (cd = 1 ∧ V.slots.size = 2 * n ∧ (∀ j, j < n → V.slots[2 * j]? = some (.int (lo8 (f j))) ∧ V.slots[2 * j + 1]? = some (.int (hi8 (f j)))) ∧ ∃ j, j < n ∧ 255 < f j)
/-- **x is a String of the n chars f 0 .. f (n - 1)**, Latin-1 or UTF-16; its array at t has the cell V -/
def Txt (x t : Addr) (V : Cell) (cd : Int32) (n : Nat) (f : Nat → Int32) (U : State) : Prop := Exact "java/lang/String" x U ∧ Has x "java/lang/String" "value" "[B" (.ref t) U ∧ Has x "java/lang/String" "coder" "B" (.int cd) U ∧ XT.Arr .byte t V U ∧ Cod cd n f V ∧ ∀ j, j < n → ¬ f j < 0 ∧ ¬ 65535 < f j
theorem Txt.mv {x t : Addr} {V : Cell} {cd : Int32} {n : Nat} {f : Nat → Int32} {U U' : State} (h : Txt x t V cd n f U) (hal : U.vm.Alike U'.vm) (hh : U'.heap = U.heap) : Txt x t V cd n f U' := ⟨h.1.mv hal hh, h.2.1.mv hal hh, h.2.2.1.mv hal hh, h.2.2.2.1.mv hal hh, h.2.2.2.2⟩
end StrChars
namespace StrChars.Road
open Jvm Sem ClassFile Op Lib Jvm.Stand Jvm.Free Jvm.Free.XT
open Jvm.Lib.Cold (StaticIs)
theorem consq {a : Array Value} {s : State} {c : Jvm.Cond} {L : List Jvm.Cond} (h0 : c.before a s = true) (h : ∀ w ∈ L, w.before a s = true) : ∀ w ∈ c :: L, w.before a s = true := fun w hw => (List.mem_cons.mp hw).elim (fun e => e ▸ h0) (h w)
/-- the bytes of the chars cs, low before high -/
def wideBytes : List Int32 → List Value
  | [] => []
  | c :: cs => .int (lo8 c) :: .int (hi8 c) :: wideBytes cs
theorem wide_lo (d : Value) : ∀ (cs : List Int32) (j : Nat), j < cs.length → (wideBytes cs).getD (2 * j) d = .int (lo8 (cs.getD j 0))
  | [], j, h => absurd h (Nat.not_lt_zero j)
  | c :: cs, 0, _ => rfl
  | c :: cs, j + 1, h => by
    have q := wide_lo d cs j (by simpa using h)
    rw [show 2 * (j + 1) = 2 * j + 1 + 1 from by omega]
    simpa [wideBytes] using q
theorem wide_hi (d : Value) : ∀ (cs : List Int32) (j : Nat), j < cs.length → (wideBytes cs).getD (2 * j + 1) d = .int (hi8 (cs.getD j 0))
  | [], j, h => absurd h (Nat.not_lt_zero j)
  | c :: cs, 0, _ => rfl
  | c :: cs, j + 1, h => by
    have q := wide_hi d cs j (by simpa using h)
    rw [show 2 * (j + 1) + 1 = 2 * j + 1 + 1 + 1 from by omega]
    simpa [wideBytes] using q
theorem low_at (d : Value) (cs : List Int32) (j : Nat) (h : j < cs.length) : (cs.map fun c => Value.int (lo8 c)).getD j d = .int (lo8 (cs.getD j 0)) := by
  simp [List.getD_eq_getElem?_getD, h]
/-- an array of N2 bytes vs codes the chars cs by the coder cd -/
def CodA (cs : List Int32) (cd N2 : Int32) (vs : List Value) : Prop := (cd = 0 ∧ N2 = Int32.ofNat cs.length ∧ vs = (cs.map fun c => Value.int (lo8 c)) ∧ ∀ c ∈ cs, ¬ 255 < c) ∨ (cd = 1 ∧ N2 = Int32.ofNat (2 * cs.length) ∧ vs = wideBytes cs ∧ ∃ c ∈ cs, 255 < c)
theorem CodA.cod {cs : List Int32} {cd N2 : Int32} {vs : List Value} {V : Cell} (h : CodA cs cd N2 vs) (hn : 2 * cs.length < 2 ^ 31) (hs : V.slots.size = N2.toNatClampNeg) (hv : RoadKit.Has V vs (.int 0)) : Cod cd cs.length (fun j => cs.getD j 0) V := by
  rcases h with ⟨rfl, rfl, rfl, h⟩ | ⟨rfl, rfl, rfl, c, hc, hw⟩
  · rw [n32 (by omega)] at hs
    exact Or.inl ⟨rfl, hs, fun j hj => ⟨by rw [hv j (by omega), low_at _ _ _ hj], by
      have e : cs.getD j 0 = cs[j] := by simp [List.getD_eq_getElem?_getD, hj]
      show ¬ 255 < cs.getD j 0
      rw [e]; exact h _ (List.getElem_mem _)⟩⟩
  · rw [n32 (by omega)] at hs
    obtain ⟨j, hj, rfl⟩ := List.getElem_of_mem hc
    exact Or.inr ⟨rfl, hs, fun j hj => ⟨by rw [hv _ (by omega), wide_lo _ _ _ hj], by rw [hv _ (by omega), wide_hi _ _ _ hj]⟩, j, hj, by
      have e : cs.getD j 0 = cs[j] := by simp [List.getD_eq_getElem?_getD, hj]
      show 255 < cs.getD j 0
      rw [e]; exact hw⟩
/-- an object of exactly java/lang/String, its two fields found: as the laws ask it -/
theorem strObj {Z U : State} {a0 : Array Value} {kI : Nat} (wi : (Jvm.Cond.instantiable ST kI).before a0 Z = true) (al : Z.vm.Alike U.vm) {x : Addr} {v0 c0 : Value} (E : RoadKit.Exa Z U.heap x ST) (V : RoadKit.Fld Z U.heap x ST "value" "[B" v0) (C : RoadKit.Fld Z U.heap x ST "coder" "B" c0) :
    ∃ (D : Cell) (fV fC : Field), Blank ST x D U ∧ Found ST "value" "[B" fV U ∧ Found ST "coder" "B" fC U ∧ D.slots[fV.slot]? = some v0 ∧ D.slots[fC.slot]? = some c0 ∧ RoadKit.slotOf Z ST "value" "[B" = fV.slot ∧ RoadKit.slotOf Z ST "coder" "B" = fC.slot := by
  obtain ⟨D, cfV, kV, iV, fV, hD, gV, stV, knV, obV, asV, slV⟩ := V
  obtain ⟨D', cfC, kC, iC, fC, hD', gC, stC, -, -, asC, slC⟩ := C
  cases hD.symm.trans hD'
  obtain ⟨D2, kD, e1, e2, e3, e4, e5⟩ := E
  cases hD.symm.trans e1
  obtain ⟨c2, k2, i1, i2, i3, -⟩ := Cond.instantiable_spec wi
  cases e2.symm.trans i1
  cases e3.symm.trans i2
  obtain ⟨kU, u1, u2⟩ := al.2.2 _ _ e3
  exact ⟨D, fV, fC, ⟨hD, ⟨knV, fun q hq => by rw [hq] at obV; cases obV⟩, by rw [al.findClass]; exact e2, kU, u1, by rw [u2]; exact i3, by rw [u2]; exact e5 i3⟩, ⟨SBG.found_only al ⟨cfV, kV, iV, gV⟩, stV⟩, ⟨SBG.found_only al ⟨cfC, kC, iC, gC⟩, stC⟩, slV, slC, by simp [RoadKit.slotOf, gV], by simp [RoadKit.slotOf, gC]⟩
theorem sta_is {Z U : State} (al : Z.vm.Alike U.vm) {C n d : String} {v : Value} (S : RoadKit.Sta Z U.heap C n d v) : StaticIs U C n d v := by
  obtain ⟨cfS, iS, kS, fS, st, cS, t1, t2, t3, t4, t5, t6, t7⟩ := S
  exact StaticIs.there (s := { Z with heap := U.heap }) ⟨cfS, iS, kS, fS, st, cS, t1, t2, t3, t4, t5, (fun q => by rw [q] at t6; cases t6), t7⟩ al rfl
end StrChars.Road
namespace StrChars
open Jvm Sem ClassFile Op Lib Jvm.Stand Jvm.Free.XT Jvm.Free.ALB Jvm.Free.JM Jvm.Free
open Jvm.Lib.Cold (StaticIs)
/-- what place i of a byte[]'s cell holds -/
def yv (A : Cell) (i : Nat) : Int32 := match A.slots[i]? with | some (.int x) => x | _ => 0
theorem yv_get {a : Addr} {A : Cell} {U : State} (h : XT.Arr .byte a A U) (ht : Typed .byte A) {i : Nat} (hi : i < A.slots.size) : A.slots[i]? = some (.int (yv A i)) := by
  have e := Array.getElem?_eq_getElem hi
  have f := ht i _ e
  unfold yv; rw [e]
  generalize A.slots[i] = v at f
  cases v <;> simp [fits] at f ⊢
/-- the two arrays are equal, place for place -/
def EqC (A B : Cell) : Prop := A.slots.size = B.slots.size ∧ ∀ i, i < A.slots.size → yv A i = yv B i
/-- a boolean that says whether p -/
def Says01 (q : Prop) (r : Option Value) (s u : State) : Prop := ∃ v : Int32, r = some (.int v) ∧ u.heap = s.heap ∧ ((v = 1 ∧ q) ∨ (v = 0 ∧ ¬ q))
theorem Says01.mv {q : Prop} : ∀ r (U U' V V' : State), U'.heap = U.heap → V.vm.Alike V'.vm → V'.heap = V.heap → Says01 q r U V → Says01 q r U' V' :=
  fun r U U' V V' h1 _ h2 ⟨v, a, b, c⟩ => ⟨v, a, by rw [h1, h2]; exact b, c⟩
namespace LEq
def yN : MethodName := ⟨"java/lang/StringLatin1", "equals", "([B[B)Z"⟩
abbrev yB : ByteArray := jdk_43_method_13_code
theorem d0 : decode yB 0 = .ok (.aload_n 0, 1) := by decide +kernel
theorem d1 : decode yB 1 = .ok (.arraylength, 1) := by decide +kernel
theorem d2 : decode yB 2 = .ok (.aload_n 1, 1) := by decide +kernel
theorem d3 : decode yB 3 = .ok (.arraylength, 1) := by decide +kernel
theorem d4 : decode yB 4 = .ok (.if_icmp (.ne) 30, 3) := by decide +kernel
theorem d7 : decode yB 7 = .ok (.iconst 0, 1) := by decide +kernel
theorem d8 : decode yB 8 = .ok (.istore_n 2, 1) := by decide +kernel
theorem d9 : decode yB 9 = .ok (.iload_n 2, 1) := by decide +kernel
theorem d10 : decode yB 10 = .ok (.aload_n 0, 1) := by decide +kernel
theorem d11 : decode yB 11 = .ok (.arraylength, 1) := by decide +kernel
theorem d12 : decode yB 12 = .ok (.if_icmp (.ge) 20, 3) := by decide +kernel
theorem d15 : decode yB 15 = .ok (.aload_n 0, 1) := by decide +kernel
theorem d16 : decode yB 16 = .ok (.iload_n 2, 1) := by decide +kernel
theorem d17 : decode yB 17 = .ok (.baload, 1) := by decide +kernel
theorem d18 : decode yB 18 = .ok (.aload_n 1, 1) := by decide +kernel
theorem d19 : decode yB 19 = .ok (.iload_n 2, 1) := by decide +kernel
theorem d20 : decode yB 20 = .ok (.baload, 1) := by decide +kernel
theorem d21 : decode yB 21 = .ok (.if_icmp (.eq) 5, 3) := by decide +kernel
theorem d24 : decode yB 24 = .ok (.iconst 0, 1) := by decide +kernel
theorem d25 : decode yB 25 = .ok (.ireturn, 1) := by decide +kernel
theorem d26 : decode yB 26 = .ok (.iinc 2 1, 3) := by decide +kernel
theorem d29 : decode yB 29 = .ok (.goto (-20), 3) := by decide +kernel
theorem d32 : decode yB 32 = .ok (.iconst 1, 1) := by decide +kernel
theorem d33 : decode yB 33 = .ok (.ireturn, 1) := by decide +kernel
theorem d34 : decode yB 34 = .ok (.iconst 0, 1) := by decide +kernel
theorem d35 : decode yB 35 = .ok (.ireturn, 1) := by decide +kernel
def site : List Cond := []
def tab : Cond := tabOf yN yB 3 (some .boolean) site
def P (a : Addr) (A : Cell) (b : Addr) (B : Cell) (args : Array Value) (s : State) : Prop := args = #[.ref a, .ref b] ∧ XT.Arr .byte a A s ∧ Typed .byte A ∧ XT.Arr .byte b B s ∧ Typed .byte B
/-- whether two byte[] are equal, place for place -/
theorem law (l : Launch) (a : Addr) (A : Cell) (b : Addr) (B : Cell) : Law l yN 2 2 0 0 yB 3 (some .boolean) site (P a A b B) (Says01 (EqC A B)) [] 0 0 := by
  refine Law.of_walk (plainFor_of_name (by decide +kernel)) (by decide +kernel) (by decide +kernel) (by decide) (fun _ _ h => by rw [h.1]; rfl) (fun _ U U' hal hh h => ⟨h.1, h.2.1.mv hal hh, h.2.2.1, h.2.2.2.1.mv hal hh, h.2.2.2.2⟩) (fun r U U' V V' h1 hal h2 h => Says01.mv r U U' V V' h1 hal h2 h) ?_
  intro p e s m args below meth c s₁ X0 hexec hbytes hml hret hlk hnm hown hh0 W hP
  obtain ⟨rfl, hA, tA, hB, tB⟩ := hP
  have a31 := hA.2.2.2
  have b31 := hB.2.2.2
  have hA0 := hA.mv X0.warmed.alike hh0
  have hB0 := hB.mv X0.warmed.alike hh0
  have c1 : Steps p.tables e below (s₁.setTop (entryFrame m #[.ref a, .ref b] 3)) (s₁.setTop (mkF m 0 #[.val (.ref a), .val (.ref b), .unset] [])) := entry rfl
  have c2 : Steps p.tables e below (s₁.setTop (entryFrame m #[.ref a, .ref b] 3)) (s₁.setTop (mkF m 4 #[.val (.ref a), .val (.ref b), .unset] [.int (Int32.ofNat B.slots.size), .int (Int32.ofNat A.slots.size)])) := c1.trans (by
    refine XS.aloadN X0.here hexec rfl (hb hbytes d0) rfl rfl ?_
    refine X0.alen hexec hA0 rfl rfl (hb hbytes d1) ?_
    refine XS.aloadN X0.here hexec rfl (hb hbytes d2) rfl rfl ?_
    refine X0.alen hexec hB0 rfl rfl (hb hbytes d3) ?_
    exact Steps.refl _)
  by_cases hs : A.slots.size = B.slots.size
  · have c3 : Steps p.tables e below (s₁.setTop (entryFrame m #[.ref a, .ref b] 3)) (s₁.setTop (mkF m 9 #[.val (.ref a), .val (.ref b), .val (.int 0)] [])) := c2.trans (by
      refine XS.icmpNo X0.here hexec rfl (hb hbytes d4) rfl (ii_ne_f (by rw [hs])) ?_
      refine iconstV X0.here hexec rfl 0 (hb hbytes d7) (by decide) ?_
      refine XS.istoreN X0.here hexec rfl (hb hbytes d8) rfl rfl ?_
      exact Steps.refl _)
    have loop : ∀ (r i : Nat), i + r = A.slots.size → (∀ j, j < i → yv A j = yv B j) → Steps p.tables e below (s₁.setTop (entryFrame m #[.ref a, .ref b] 3)) (s₁.setTop (mkF m 9 #[.val (.ref a), .val (.ref b), .val (.int (Int32.ofNat i))] [])) → ∃ (pc : Nat) (Ls : Array Slot) (v : Int32), (pc = 25 ∨ pc = 33) ∧ ((v = 1 ∧ EqC A B) ∨ (v = 0 ∧ ¬ EqC A B)) ∧ Steps p.tables e below (s₁.setTop (entryFrame m #[.ref a, .ref b] 3)) (s₁.setTop (mkF m pc Ls [.int v])) := by
      intro r
      induction r with
      | zero =>
        intro i hi he cl
        exact ⟨33, _, 1, Or.inr rfl, Or.inl ⟨rfl, hs, fun j hj => he j (by omega)⟩, cl.trans (by
          refine XS.iloadN X0.here hexec rfl (hb hbytes d9) rfl ?_
          refine XS.aloadN X0.here hexec rfl (hb hbytes d10) rfl rfl ?_
          refine X0.alen hexec hA0 rfl rfl (hb hbytes d11) ?_
          refine XS.icmpYes X0.here hexec rfl (pc0 := 12) rfl (hb hbytes d12) rfl (ii_ge_t (nlt32 (by omega) (by omega))) (by decide) rfl ?_
          refine iconstV X0.here hexec rfl 1 (hb hbytes d32) (by decide) ?_
          exact Steps.refl _)⟩
      | succ r ih =>
        intro i hi he cl
        have c4 : Steps p.tables e below (s₁.setTop (entryFrame m #[.ref a, .ref b] 3)) (s₁.setTop (mkF m 21 #[.val (.ref a), .val (.ref b), .val (.int (Int32.ofNat i))] [.int (yv B i), .int (yv A i)])) := cl.trans (by
          refine XS.iloadN X0.here hexec rfl (hb hbytes d9) rfl ?_
          refine XS.aloadN X0.here hexec rfl (hb hbytes d10) rfl rfl ?_
          refine X0.alen hexec hA0 rfl rfl (hb hbytes d11) ?_
          refine XS.icmpNo X0.here hexec rfl (hb hbytes d12) rfl (ii_ge_f (lt32 (by omega) (by omega))) ?_
          refine XS.aloadN X0.here hexec rfl (hb hbytes d15) rfl rfl ?_
          refine XS.iloadN X0.here hexec rfl (hb hbytes d16) rfl ?_
          refine X0.aget hexec hA0 rfl (yv_get hA tA (i := i) (by omega)) rfl rfl (hb hbytes d17) ?_
          refine XS.aloadN X0.here hexec rfl (hb hbytes d18) rfl rfl ?_
          refine XS.iloadN X0.here hexec rfl (hb hbytes d19) rfl ?_
          refine X0.aget hexec hB0 rfl (yv_get hB tB (i := i) (by omega)) rfl rfl (hb hbytes d20) ?_
          exact Steps.refl _)
        by_cases hv : yv A i = yv B i
        · have c5 : Steps p.tables e below (s₁.setTop (entryFrame m #[.ref a, .ref b] 3)) (s₁.setTop (mkF m 9 #[.val (.ref a), .val (.ref b), .val (.int (Int32.ofNat i + 1))] [])) := c4.trans (by
            refine XS.icmpYes X0.here hexec rfl (pc0 := 21) rfl (hb hbytes d21) rfl (ii_eq_t hv) (by decide) rfl ?_
            refine iincV X0.here hexec rfl 1 (hb hbytes d26) (by decide) rfl rfl ?_
            refine XS.goto X0.here hexec rfl (pc0 := 29) rfl (hb hbytes d29) (by decide) rfl ?_
            exact Steps.refl _)
          rw [succ32] at c5
          exact ih (i + 1) (by omega) (fun j hj => by
            by_cases e : j = i
            · rw [e]; exact hv
            · exact he j (by omega)) c5
        · exact ⟨25, _, 0, Or.inl rfl, Or.inr ⟨rfl, fun q => hv (q.2 i (by omega))⟩, c4.trans (by
            refine XS.icmpNo X0.here hexec rfl (hb hbytes d21) rfl (ii_eq_f hv) ?_
            refine iconstV X0.here hexec rfl 0 (hb hbytes d24) (by decide) ?_
            exact Steps.refl _)⟩
    obtain ⟨pc, Ls, v, hpc, hv, cz⟩ := loop A.slots.size 0 (by omega) (fun j hj => absurd hj (Nat.not_lt_zero j)) c3
    have nv : narrow .boolean (.int v) = .int v := by rcases hv with ⟨rfl, -⟩ | ⟨rfl, -⟩ <;> rfl
    rcases hpc with rfl | rfl
    · exact ⟨s₁, some (.int v), _, _, _, X0, rfl, rfl, rfl, (fun h => by cases h), ⟨v, rfl, hh0, hv⟩, fun fs hl => cz.trans (X0.ireturnOut hexec hret nv (Or.inr (Or.inl rfl)) (hb hbytes d25) hl)⟩
    · exact ⟨s₁, some (.int v), _, _, _, X0, rfl, rfl, rfl, (fun h => by cases h), ⟨v, rfl, hh0, hv⟩, fun fs hl => cz.trans (X0.ireturnOut hexec hret nv (Or.inr (Or.inl rfl)) (hb hbytes d33) hl)⟩
  · have c3 : Steps p.tables e below (s₁.setTop (entryFrame m #[.ref a, .ref b] 3)) (s₁.setTop (mkF m 35 #[.val (.ref a), .val (.ref b), .unset] [.int 0])) := c2.trans (by
      refine XS.icmpYes X0.here hexec rfl (pc0 := 4) rfl (hb hbytes d4) rfl (ii_ne_t (ne32 a31 b31 hs)) (by decide) rfl ?_
      refine iconstV X0.here hexec rfl 0 (hb hbytes d34) (by decide) ?_
      exact Steps.refl _)
    exact ⟨s₁, some (.int 0), _, _, _, X0, rfl, rfl, rfl, (fun h => by cases h), ⟨0, rfl, hh0, Or.inr ⟨rfl, fun q => hs q.1⟩⟩, fun fs hl => c3.trans (X0.ireturnOut hexec hret rfl (Or.inr (Or.inl rfl)) (hb hbytes d35) hl)⟩
end LEq
theorem Cod.ty {cd : Int32} {n : Nat} {f : Nat → Int32} {V : Cell} (h : Cod cd n f V) : Typed .byte V := fun i v hv => by
  have hi : i < V.slots.size := (Array.getElem?_eq_some_iff.mp hv).1
  rcases h with ⟨-, k1, k2⟩ | ⟨-, k1, k2, -⟩
  · rw [(k2 i (by omega)).1] at hv; cases hv; exact fits_lo8 _
  · rcases Nat.mod_two_eq_zero_or_one i with e | e
    · obtain ⟨j, rfl⟩ : ∃ j, i = 2 * j := ⟨i / 2, by omega⟩
      rw [(k2 j (by omega)).1] at hv; cases hv; exact fits_lo8 _
    · obtain ⟨j, rfl⟩ : ∃ j, i = 2 * j + 1 := ⟨i / 2, by omega⟩
      rw [(k2 j (by omega)).2] at hv; cases hv; exact fits_lo8 _
/-- the same text -/
def SameT (n : Nat) (f : Nat → Int32) (k : Nat) (g : Nat → Int32) : Prop := n = k ∧ ∀ j, j < n → f j = g j
theorem lo8_inj {x y : Int32} (h0 : ¬ x < 0) (h1 : ¬ 255 < x) (k0 : ¬ y < 0) (k1 : ¬ 255 < y) (h : lo8 x = lo8 y) : x = y := by
  rw [← lo8_mask h0 h1, ← lo8_mask k0 k1, h]
/-- arrays coded by one coder are equal just where the texts are -/
theorem Cod.eqv {cd : Int32} {n k : Nat} {f g : Nat → Int32} {V V' : Cell} (h : Cod cd n f V) (h' : Cod cd k g V') (hf : ∀ j, j < n → ¬ f j < 0 ∧ ¬ 65535 < f j) (hg : ∀ j, j < k → ¬ g j < 0 ∧ ¬ 65535 < g j) : EqC V V' ↔ SameT n f k g := by
  have yvv : ∀ {W : Cell} {i : Nat} {x : Int32}, W.slots[i]? = some (.int x) → yv W i = x := fun q => by unfold yv; rw [q]
  rcases h with ⟨rfl, k1, k2⟩ | ⟨rfl, k1, k2, -⟩
  · rcases h' with ⟨-, m1, m2⟩ | ⟨e, -⟩
    · constructor
      · rintro ⟨e1, e2⟩
        refine ⟨by omega, fun j hj => ?_⟩
        have q := e2 j (by omega)
        rw [yvv (k2 j hj).1, yvv (m2 j (by omega)).1] at q
        exact lo8_inj (hf j hj).1 (k2 j hj).2 (hg j (by omega)).1 (m2 j (by omega)).2 q
      · rintro ⟨rfl, e2⟩
        refine ⟨by omega, fun j hj => ?_⟩
        rw [yvv (k2 j (by omega)).1, yvv (m2 j (by omega)).1, e2 j (by omega)]
    · exact absurd e (by decide)
  · rcases h' with ⟨e, -⟩ | ⟨-, m1, m2, -⟩
    · exact absurd e (by decide)
    · constructor
      · rintro ⟨e1, e2⟩
        refine ⟨by omega, fun j hj => ?_⟩
        have q1 := e2 (2 * j) (by omega)
        have q2 := e2 (2 * j + 1) (by omega)
        rw [yvv (k2 j hj).1, yvv (m2 j (by omega)).1] at q1
        rw [yvv (k2 j hj).2, yvv (m2 j (by omega)).2] at q2
        rw [← pair_says (hf j hj).1 (hf j hj).2, ← pair_says (hg j (by omega)).1 (hg j (by omega)).2, q1, q2]
      · rintro ⟨rfl, e2⟩
        refine ⟨by omega, fun i hi => ?_⟩
        rcases Nat.mod_two_eq_zero_or_one i with e | e
        · obtain ⟨j, rfl⟩ : ∃ j, i = 2 * j := ⟨i / 2, by omega⟩
          rw [yvv (k2 j (by omega)).1, yvv (m2 j (by omega)).1, e2 j (by omega)]
        · obtain ⟨j, rfl⟩ : ∃ j, i = 2 * j + 1 := ⟨i / 2, by omega⟩
          rw [yvv (k2 j (by omega)).2, yvv (m2 j (by omega)).2, e2 j (by omega)]
/-- two codings differ: so do the texts -/
theorem Cod.dif {cd cd' : Int32} {n k : Nat} {f g : Nat → Int32} {V V' : Cell} (h : Cod cd n f V) (h' : Cod cd' k g V') (hne : ¬ cd = cd') : ¬ SameT n f k g := by
  rintro ⟨rfl, e⟩
  rcases h with ⟨rfl, -, k2⟩ | ⟨rfl, -, -, j, hj, hw⟩
  · rcases h' with ⟨rfl, -⟩ | ⟨-, -, -, j, hj, hw⟩
    · exact hne rfl
    · exact (k2 j hj).2 (by rw [e j hj]; exact hw)
  · rcases h' with ⟨-, -, m2⟩ | ⟨rfl, -⟩
    · exact (m2 j hj).2 (by rw [← e j hj]; exact hw)
    · exact hne rfl
/-- an object of exactly C is an instance of C -/
theorem cinst {p : Program} {l : Launch} {e : Env} {R : Room} {s : State} {m : MethodId} {args : Array Value} {below : List Frame} {meth : Method} {c : Code} {T : State} {locs : List Loc} {cells slots : Nat} (X : Stand p l e R s m args below meth c T locs cells slots) (hexec : p.tables.exec = Jvm.exec) {own C : String} {index : Nat} (hown : s.vm.findClass own = some m.cls) (hlink : (Cond.classLink own index C).before args s = true) {a : Addr} (hE : Exact C a T)
    {g : JFrame} (hg : g.method = m) {rest : List Value} (hstack : g.stack = .ref a :: rest) (hdg : decode c.code g.pc = .ok (.instanceof index, 3)) :
    ∃ T', Stand p l e R s m args below meth c T' locs cells slots ∧ T'.heap = T.heap ∧ ∀ target, Steps p.tables e below (T'.setTop { g with pc := g.pc + 3, stack := .int 1 :: rest }) target → Steps p.tables e below (T.setTop g) target := by
  obtain ⟨cB, h1, D, h2, h3, h4⟩ := hE
  have h1' : s.vm.findClass C = some cB := by rw [← X.warmed.alike.findClass]; exact h1
  obtain ⟨vm', X', st⟩ := X.instanceofYes hexec hown hlink h2 h4 h1' (by rw [h3]; exact Jvm.Free.SB.assignable_self _ _) hg hstack hdg
  exact ⟨_, X', rfl, st⟩
theorem cself {p : Program} {l : Launch} {e : Env} {R : Room} {s : State} {m : MethodId} {args : Array Value} {below : List Frame} {meth : Method} {c : Code} {T : State} {locs : List Loc} {cells slots : Nat} (X : Stand p l e R s m args below meth c T locs cells slots) (hexec : p.tables.exec = Jvm.exec) {own C : String} {index : Nat} (hown : s.vm.findClass own = some m.cls) (hlink : (Cond.classLink own index C).before args s = true) {a : Addr} (hE : Exact C a T)
    {g : JFrame} (hg : g.method = m) {rest : List Value} (hstack : g.stack = .ref a :: rest) (hdg : decode c.code g.pc = .ok (.checkcast index, 3)) :
    ∃ T', Stand p l e R s m args below meth c T' locs cells slots ∧ T'.heap = T.heap ∧ ∀ target, Steps p.tables e below (T'.setTop { g with pc := g.pc + 3, stack := .ref a :: rest }) target → Steps p.tables e below (T.setTop g) target := by
  obtain ⟨cB, h1, D, h2, h3, h4⟩ := hE
  have h1' : s.vm.findClass C = some cB := by rw [← X.warmed.alike.findClass]; exact h1
  obtain ⟨vm', X', st⟩ := X.checkcastYes hexec hown hlink h2 h4 h1' (by rw [h3]; exact Jvm.Free.SB.assignable_self _ _) hg hstack hdg
  exact ⟨_, X', rfl, fun t h => st t (by rw [← hstack] at h; exact h)⟩
namespace SEq
def yN : MethodName := ⟨"java/lang/String", "equals", "(Ljava/lang/Object;)Z"⟩
abbrev yB : ByteArray := jdk_42_method_66_code
theorem d0 : decode yB 0 = .ok (.aload_n 0, 1) := by decide +kernel
theorem d1 : decode yB 1 = .ok (.aload_n 1, 1) := by decide +kernel
theorem d2 : decode yB 2 = .ok (.if_acmp (.ne) 5, 3) := by decide +kernel
theorem d5 : decode yB 5 = .ok (.iconst 1, 1) := by decide +kernel
theorem d6 : decode yB 6 = .ok (.ireturn, 1) := by decide +kernel
theorem d7 : decode yB 7 = .ok (.aload_n 1, 1) := by decide +kernel
theorem d8 : decode yB 8 = .ok (.instanceof 10, 3) := by decide +kernel
theorem d11 : decode yB 11 = .ok (.ifCond (.eq) 43, 3) := by decide +kernel
theorem d14 : decode yB 14 = .ok (.aload_n 1, 1) := by decide +kernel
theorem d15 : decode yB 15 = .ok (.checkcast 10, 3) := by decide +kernel
theorem d18 : decode yB 18 = .ok (.astore_n 2, 1) := by decide +kernel
theorem d19 : decode yB 19 = .ok (.getstatic 38, 3) := by decide +kernel
theorem d22 : decode yB 22 = .ok (.ifCond (.eq) 14, 3) := by decide +kernel
theorem d25 : decode yB 25 = .ok (.aload_n 0, 1) := by decide +kernel
theorem d26 : decode yB 26 = .ok (.getfield 15, 3) := by decide +kernel
theorem d29 : decode yB 29 = .ok (.aload_n 2, 1) := by decide +kernel
theorem d30 : decode yB 30 = .ok (.getfield 15, 3) := by decide +kernel
theorem d33 : decode yB 33 = .ok (.if_icmp (.ne) 21, 3) := by decide +kernel
theorem d36 : decode yB 36 = .ok (.aload_n 0, 1) := by decide +kernel
theorem d37 : decode yB 37 = .ok (.getfield 9, 3) := by decide +kernel
theorem d40 : decode yB 40 = .ok (.aload_n 2, 1) := by decide +kernel
theorem d41 : decode yB 41 = .ok (.getfield 9, 3) := by decide +kernel
theorem d44 : decode yB 44 = .ok (.invokestatic 541, 3) := by decide +kernel
theorem d47 : decode yB 47 = .ok (.ifCond (.eq) 7, 3) := by decide +kernel
theorem d50 : decode yB 50 = .ok (.iconst 1, 1) := by decide +kernel
theorem d51 : decode yB 51 = .ok (.goto 4, 3) := by decide +kernel
theorem d54 : decode yB 54 = .ok (.iconst 0, 1) := by decide +kernel
theorem d55 : decode yB 55 = .ok (.ireturn, 1) := by decide +kernel
def site : List Cond := [.classLink "java/lang/String" 10 "java/lang/String", .fieldLink "java/lang/String" 38 "java/lang/String" "COMPACT_STRINGS" "Z", .fieldLink "java/lang/String" 15 "java/lang/String" "coder" "B", .fieldLink "java/lang/String" 9 "java/lang/String" "value" "[B", LEq.tab] ++ staticW "java/lang/String" 541 LEq.yN
def tab : Cond := tabOf yN yB 3 (some .boolean) site
def P (x t : Addr) (V : Cell) (cd : Int32) (n : Nat) (f : Nat → Int32) (y t' : Addr) (V' : Cell) (cd' : Int32) (k : Nat) (g : Nat → Int32) (z : Int32) (args : Array Value) (s : State) : Prop := args = #[.ref x, .ref y] ∧ Txt x t V cd n f s ∧ Txt y t' V' cd' k g s ∧ StaticIs s "java/lang/String" "COMPACT_STRINGS" "Z" (.int z) ∧ ¬ z = 0
/-- equals(Object) of two Strings: whether the texts are the same -/
theorem law (l : Launch) (x t : Addr) (V : Cell) (cd : Int32) (n : Nat) (f : Nat → Int32) (y t' : Addr) (V' : Cell) (cd' : Int32) (k : Nat) (g : Nat → Int32) (z : Int32) : Law l yN 2 1 1 14 yB 3 (some .boolean) site (P x t V cd n f y t' V' cd' k g z) (Says01 (SameT n f k g)) [] 0 0 := by
  refine Law.of_walk (plainFor_of_name (by decide +kernel)) (by decide +kernel) (by decide +kernel) (by decide) (fun _ _ h => by rw [h.1]; rfl) (fun _ U U' hal hh h => ⟨h.1, h.2.1.mv hal hh, h.2.2.1.mv hal hh, h.2.2.2.1.there hal hh, h.2.2.2.2⟩) (fun r U U' V V' h1 hal h2 h => Says01.mv r U U' V V' h1 hal h2 h) ?_
  intro p e s m args below meth c s₁ X0 hexec hbytes hml hret hlk hnm hown hh0 W hP
  obtain ⟨rfl, hx, hy, s1, hz⟩ := hP
  have c1 : Steps p.tables e below (s₁.setTop (entryFrame m #[.ref x, .ref y] 3)) (s₁.setTop (mkF m 2 #[.val (.ref x), .val (.ref y), .unset] [.ref y, .ref x])) := Steps.trans (entry rfl) (by
    show Steps p.tables e below (s₁.setTop (mkF m 0 #[.val (.ref x), .val (.ref y), .unset] [])) _
    refine XS.aloadN X0.here hexec rfl (hb hbytes d0) rfl rfl ?_
    refine XS.aloadN X0.here hexec rfl (hb hbytes d1) rfl rfl ?_
    exact Steps.refl _)
  by_cases hxy : x = y
  · have c2 : Steps p.tables e below (s₁.setTop (entryFrame m #[.ref x, .ref y] 3)) (s₁.setTop (mkF m 6 #[.val (.ref x), .val (.ref y), .unset] [.int 1])) := c1.trans (by
      refine acmpNo X0.here hexec rfl (hb hbytes d2) rfl rfl rfl (by simp [acmp, hxy]) ?_
      refine iconstV X0.here hexec rfl 1 (hb hbytes d5) (by decide) ?_
      exact Steps.refl _)
    subst hxy
    have ec : cd = cd' := by
      obtain ⟨D, fd, a1, a2, a3⟩ := hx.2.2.1
      obtain ⟨D', fd', b1, b2, b3⟩ := hy.2.2.1
      cases a1.symm.trans b1
      obtain ⟨q1, q2, q3, q4⟩ := a2.1
      obtain ⟨r1, r2, r3, r4⟩ := b2.1
      cases q4.symm.trans r4
      cases a3.symm.trans b3; rfl
    have et : t = t' := by
      obtain ⟨D, fd, a1, a2, a3⟩ := hx.2.1
      obtain ⟨D', fd', b1, b2, b3⟩ := hy.2.1
      cases a1.symm.trans b1
      obtain ⟨q1, q2, q3, q4⟩ := a2.1
      obtain ⟨r1, r2, r3, r4⟩ := b2.1
      cases q4.symm.trans r4
      cases a3.symm.trans b3; rfl
    subst ec et
    have ev : V = V' := by cases hx.2.2.2.1.1.symm.trans hy.2.2.2.1.1; rfl
    subst ev
    have hs : SameT n f k g := (Cod.eqv hx.2.2.2.2.1 hy.2.2.2.2.1 hx.2.2.2.2.2 hy.2.2.2.2.2).mp ⟨rfl, fun _ _ => rfl⟩
    exact ⟨s₁, some (.int 1), _, _, _, X0, rfl, rfl, rfl, (fun h => by cases h), ⟨1, rfl, hh0, Or.inl ⟨rfl, hs⟩⟩, fun fs hl => c2.trans (X0.ireturnOut hexec hret rfl (Or.inr (Or.inl rfl)) (hb hbytes d6) hl)⟩
  · have c2 : Steps p.tables e below (s₁.setTop (entryFrame m #[.ref x, .ref y] 3)) (s₁.setTop (mkF m 8 #[.val (.ref x), .val (.ref y), .unset] [.ref y])) := c1.trans (by
      refine acmpYes X0.here hexec rfl (pc0 := 2) rfl (hb hbytes d2) rfl rfl rfl (by simp [acmp, hxy]) (by decide) rfl ?_
      refine XS.aloadN X0.here hexec rfl (hb hbytes d7) rfl rfl ?_
      exact Steps.refl _)
    obtain ⟨T3, X3, q3, st3⟩ := cinst X0 hexec hown (wk W (.classLink "java/lang/String" 10 "java/lang/String")) (hy.mv X0.warmed.alike hh0).1 (g := (mkF m 8 #[.val (.ref x), .val (.ref y), .unset] [.ref y])) rfl (rest := []) rfl (hb hbytes d8)
    have hh3 := q3.trans hh0
    have c4 : Steps p.tables e below (s₁.setTop (entryFrame m #[.ref x, .ref y] 3)) (T3.setTop (mkF m 15 #[.val (.ref x), .val (.ref y), .unset] [.ref y])) := (c2.trans (st3 _ (Steps.refl _))).trans (by
      refine XS.ifNo X3.here hexec rfl (hb hbytes d11) rfl (i0_eq_f (by decide)) ?_
      refine XS.aloadN X3.here hexec rfl (hb hbytes d14) rfl rfl ?_
      exact Steps.refl _)
    obtain ⟨T5, X5, q5, st5⟩ := cself X3 hexec hown (wk W (.classLink "java/lang/String" 10 "java/lang/String")) (hy.mv X3.warmed.alike hh3).1 (g := (mkF m 15 #[.val (.ref x), .val (.ref y), .unset] [.ref y])) rfl (rest := []) rfl (hb hbytes d15)
    have hh5 := q5.trans hh3
    have c6 : Steps p.tables e below (s₁.setTop (entryFrame m #[.ref x, .ref y] 3)) (T5.setTop (mkF m 19 #[.val (.ref x), .val (.ref y), .val (.ref y)] [])) := (c4.trans (st5 _ (Steps.refl _))).trans (by
      refine XS.astoreN X5.here hexec rfl (hb hbytes d18) rfl rfl rfl ?_
      exact Steps.refl _)
    obtain ⟨T7, X7, q7, st7⟩ := X5.sget hexec hown (wk W (.fieldLink "java/lang/String" 38 "java/lang/String" "COMPACT_STRINGS" "Z")) s1 (fun _ _ h => by rw [hh5]; exact h) (g := (mkF m 19 #[.val (.ref x), .val (.ref y), .val (.ref y)] [])) rfl (hb hbytes d19)
    have hh7 := q7.trans hh5
    have c8 : Steps p.tables e below (s₁.setTop (entryFrame m #[.ref x, .ref y] 3)) (T7.setTop (mkF m 26 #[.val (.ref x), .val (.ref y), .val (.ref y)] [.ref x])) := (c6.trans (st7 _ (Steps.refl _))).trans (by
      refine XS.ifNo X7.here hexec rfl (hb hbytes d22) rfl (i0_eq_f hz) ?_
      refine XS.aloadN X7.here hexec rfl (hb hbytes d25) rfl rfl ?_
      exact Steps.refl _)
    obtain ⟨T9, X9, q9, st9⟩ := X7.hget hexec hown (wk W (.fieldLink "java/lang/String" 15 "java/lang/String" "coder" "B")) (hx.mv X7.warmed.alike hh7).2.2.1 (g := (mkF m 26 #[.val (.ref x), .val (.ref y), .val (.ref y)] [.ref x])) rfl (rest := []) rfl (hb hbytes d26)
    have hh9 := q9.trans hh7
    have c10 : Steps p.tables e below (s₁.setTop (entryFrame m #[.ref x, .ref y] 3)) (T9.setTop (mkF m 30 #[.val (.ref x), .val (.ref y), .val (.ref y)] [.ref y, .int cd])) := (c8.trans (st9 _ (Steps.refl _))).trans (by
      refine XS.aloadN X9.here hexec rfl (hb hbytes d29) rfl rfl ?_
      exact Steps.refl _)
    obtain ⟨T11, X11, q11, st11⟩ := X9.hget hexec hown (wk W (.fieldLink "java/lang/String" 15 "java/lang/String" "coder" "B")) (hy.mv X9.warmed.alike hh9).2.2.1 (g := (mkF m 30 #[.val (.ref x), .val (.ref y), .val (.ref y)] [.ref y, .int cd])) rfl (rest := [.int cd]) rfl (hb hbytes d30)
    have hh11 := q11.trans hh9
    have c12 : Steps p.tables e below (s₁.setTop (entryFrame m #[.ref x, .ref y] 3)) (T11.setTop (mkF m 33 #[.val (.ref x), .val (.ref y), .val (.ref y)] [.int cd', .int cd])) := c10.trans (st11 _ (Steps.refl _))
    by_cases hcd : cd = cd'
    · subst hcd
      have c13 : Steps p.tables e below (s₁.setTop (entryFrame m #[.ref x, .ref y] 3)) (T11.setTop (mkF m 37 #[.val (.ref x), .val (.ref y), .val (.ref y)] [.ref x])) := c12.trans (by
        refine XS.icmpNo X11.here hexec rfl (hb hbytes d33) rfl (ii_ne_f rfl) ?_
        refine XS.aloadN X11.here hexec rfl (hb hbytes d36) rfl rfl ?_
        exact Steps.refl _)
      obtain ⟨T14, X14, q14, st14⟩ := X11.hget hexec hown (wk W (.fieldLink "java/lang/String" 9 "java/lang/String" "value" "[B")) (hx.mv X11.warmed.alike hh11).2.1 (g := (mkF m 37 #[.val (.ref x), .val (.ref y), .val (.ref y)] [.ref x])) rfl (rest := []) rfl (hb hbytes d37)
      have hh14 := q14.trans hh11
      have c15 : Steps p.tables e below (s₁.setTop (entryFrame m #[.ref x, .ref y] 3)) (T14.setTop (mkF m 41 #[.val (.ref x), .val (.ref y), .val (.ref y)] [.ref y, .ref t])) := (c13.trans (st14 _ (Steps.refl _))).trans (by
        refine XS.aloadN X14.here hexec rfl (hb hbytes d40) rfl rfl ?_
        exact Steps.refl _)
      obtain ⟨T16, X16, q16, st16⟩ := X14.hget hexec hown (wk W (.fieldLink "java/lang/String" 9 "java/lang/String" "value" "[B")) (hy.mv X14.warmed.alike hh14).2.1 (g := (mkF m 41 #[.val (.ref x), .val (.ref y), .val (.ref y)] [.ref y, .ref t])) rfl (rest := [.ref t]) rfl (hb hbytes d41)
      have hh16 := q16.trans hh14
      have c17 : Steps p.tables e below (s₁.setTop (entryFrame m #[.ref x, .ref y] 3)) (T16.setTop (mkF m 44 #[.val (.ref x), .val (.ref y), .val (.ref y)] [.ref t', .ref t])) := c15.trans (st16 _ (Steps.refl _))
      obtain ⟨v18, T18, X18, E18, g18⟩ := X16.callS hexec (LEq.law l t V t' V') hown (wks W (staticW "java/lang/String" 541 LEq.yN)) (wk W LEq.tab) (W := 0) (Nat.le_of_ble_eq_true rfl) (Nat.le_of_ble_eq_true rfl) (Nat.le_refl _) (Nat.le_refl _) (g := (mkF m 44 #[.val (.ref x), .val (.ref y), .val (.ref y)] [.ref t', .ref t])) rfl (by rw [hml]; rfl) c17 (argsL := [.ref t, .ref t']) (rest := []) rfl rfl (by show 2 * 0 + 0 ≤ _; decide) (hb hbytes d44) (⟨rfl, hx.2.2.2.1.mv X16.warmed.alike hh16, hx.2.2.2.2.1.ty, hy.2.2.2.1.mv X16.warmed.alike hh16, hy.2.2.2.2.1.ty⟩)
      obtain ⟨v, rfl, q18, hv⟩ := E18
      have iff := Cod.eqv hx.2.2.2.2.1 hy.2.2.2.2.1 hx.2.2.2.2.2 hy.2.2.2.2.2
      rcases hv with ⟨rfl, he⟩ | ⟨rfl, he⟩
      · have c19 : Steps p.tables e below (s₁.setTop (entryFrame m #[.ref x, .ref y] 3)) (T18.setTop (mkF m 55 #[.val (.ref x), .val (.ref y), .val (.ref y)] [.int 1])) := Steps.trans g18 (by
          refine XS.ifNo X18.here hexec rfl (hb hbytes d47) rfl (i0_eq_f (by decide)) ?_
          refine iconstV X18.here hexec rfl 1 (hb hbytes d50) (by decide) ?_
          refine XS.goto X18.here hexec rfl (pc0 := 51) rfl (hb hbytes d51) (by decide) rfl ?_
          exact Steps.refl _)
        exact ⟨T18, some (.int 1), _, _, _, X18, rfl, rfl, rfl, (fun h => by cases h), ⟨1, rfl, q18.trans hh16, Or.inl ⟨rfl, iff.mp he⟩⟩, fun fs hl => c19.trans (X18.ireturnOut hexec hret rfl (Or.inr (Or.inl rfl)) (hb hbytes d55) hl)⟩
      · have c19 : Steps p.tables e below (s₁.setTop (entryFrame m #[.ref x, .ref y] 3)) (T18.setTop (mkF m 55 #[.val (.ref x), .val (.ref y), .val (.ref y)] [.int 0])) := Steps.trans g18 (by
          refine XS.ifYes X18.here hexec rfl (pc0 := 47) rfl (hb hbytes d47) rfl (i0_eq_t rfl) (by decide) rfl ?_
          refine iconstV X18.here hexec rfl 0 (hb hbytes d54) (by decide) ?_
          exact Steps.refl _)
        exact ⟨T18, some (.int 0), _, _, _, X18, rfl, rfl, rfl, (fun h => by cases h), ⟨0, rfl, q18.trans hh16, Or.inr ⟨rfl, fun q => he (iff.mpr q)⟩⟩, fun fs hl => c19.trans (X18.ireturnOut hexec hret rfl (Or.inr (Or.inl rfl)) (hb hbytes d55) hl)⟩
    · have c13 : Steps p.tables e below (s₁.setTop (entryFrame m #[.ref x, .ref y] 3)) (T11.setTop (mkF m 55 #[.val (.ref x), .val (.ref y), .val (.ref y)] [.int 0])) := c12.trans (by
        refine XS.icmpYes X11.here hexec rfl (pc0 := 33) rfl (hb hbytes d33) rfl (ii_ne_t hcd) (by decide) rfl ?_
        refine iconstV X11.here hexec rfl 0 (hb hbytes d54) (by decide) ?_
        exact Steps.refl _)
      exact ⟨T11, some (.int 0), _, _, _, X11, rfl, rfl, rfl, (fun h => by cases h), ⟨0, rfl, hh11, Or.inr ⟨rfl, Cod.dif hx.2.2.2.2.1 hy.2.2.2.2.1 hcd⟩⟩, fun fs hl => c13.trans (X11.ireturnOut hexec hret rfl (Or.inr (Or.inl rfl)) (hb hbytes d55) hl)⟩
theorem pays {l : Launch} {R : Room} {p : Program} {e : Env} {below : List Frame} {s : State} {sargs : Array Value} {len W : Nat} (x t : Addr) (V : Cell) (cd : Int32) (n : Nat) (f : Nat → Int32) (y t' : Addr) (V' : Cell) (cd' : Int32) (k : Nat) (g : Nat → Int32) (z : Int32) (htab : tab.before sargs s = true) (hfr : 2 ≤ R.frames) (hlo : W + 28 ≤ R.locals) :
    Back l R p e below s sargs yN len W (fun A₁ a₁ => A₁.cells + 0 ≤ R.cells ∧ A₁.slots + 0 ≤ R.slots ∧ P x t V cd n f y t' V' cd' k g z a₁ A₁.U) (fun A₁ _ v₁ B₁ => Says01 (SameT n f k g) v₁ A₁.U B₁.U ∧ B₁.locs = A₁.locs ++ [] ∧ B₁.cells = A₁.cells + 0 ∧ B₁.slots = A₁.slots + 0) :=
  (law l x t V cd n f y t' V' cd' k g z).pays htab hfr (by omega)
end SEq
end StrChars
namespace StrChars.Road
open Jvm Sem ClassFile Op Lib Jvm.Stand Jvm.Free Jvm.Free.XT
open Jvm.Lib.Cold (StaticIs)
/-- the words of String.equals(Object) -/
abbrev wordsEq : List Jvm.Cond := [.code SEq.yN SEq.yB 3 (some .boolean), .initialized ST, .classLink ST 10 ST, .fieldLink ST 38 ST "COMPACT_STRINGS" "Z", .fieldLink ST 15 ST "coder" "B", .fieldLink ST 9 ST "value" "[B", .methodLink ST 541 LEq.yN, .static LEq.yN, .code LEq.yN LEq.yB 3 (some .boolean), .initialized "java/lang/StringLatin1"]
theorem tabEq_of {a : Array Value} {s : State} (h : ∀ w ∈ wordsEq, w.before a s = true) : SEq.tab.before a s = true := by
  have hl : LEq.tab.before a s = true := unparts (wk h (.code LEq.yN LEq.yB 3 (some .boolean))) (wks h (.initialized LEq.yN.cls :: LEq.site))
  have q := consq hl h
  exact unparts (wk q (.code SEq.yN SEq.yB 3 (some .boolean))) (wks q (.initialized SEq.yN.cls :: SEq.site))
theorem movedEq {Z s : State} {a0 args : Array Value} (hZ : Z.Warmed39 s.vm) (hw : ∀ d ∈ wordsEq, d.before a0 Z = true) : ∀ d ∈ wordsEq, d.before args s = true := fun d hd => by
  have t : ∀ d ∈ wordsEq, (d.onTables && d.keepsFace) = true := by decide +kernel
  exact RoadKit.mv hZ (hw d hd) (t d hd)
/-- the road's facts of a String, as the laws ask it -/
theorem txt_of {Z U : State} {a0 : Array Value} {kI : Nat} (wi : (Jvm.Cond.instantiable ST kI).before a0 Z = true) (al : Z.vm.Alike U.vm) {x t : Addr} {kb : ClassId} {cs : List Int32} {cd N2 : Int32} {vs : List Value} (E : RoadKit.Exa Z U.heap x ST) (V : RoadKit.Fld Z U.heap x ST "value" "[B" (.ref t)) (C : RoadKit.Fld Z U.heap x ST "coder" "B" (.int cd)) (K : RoadKit.Arv Z U.heap t kb .byte N2 vs (.int 0)) (hc : CodA cs cd N2 vs) (hb : ∀ c ∈ cs, ¬ c < 0 ∧ ¬ (65535 : Int32) < c) (l2 : cs.length ≤ 4000) :
    ∃ A, Txt x t A cd cs.length (fun j => cs.getD j 0) U := by
  obtain ⟨A, K1, K2, K3, K4, K5, K6⟩ := K
  have hcod := hc.cod (by omega) K3 K5
  obtain ⟨D, fV, fC, hB, F1, F2, g1, g2, -, -⟩ := strObj wi al E V C
  exact ⟨A, ⟨_, hB.2.2.1, D, hB.1, rfl, by cases q : D.vm <;> first | rfl | exact absurd q (hB.2.1.2 _)⟩, Has.of hB F1 g1, Has.of hB F2 g2, ⟨K1.1, State.isArrayOf_alike al K1.2.1, K1.2.2, by rcases hcod with ⟨-, q, -⟩ | ⟨-, q, -⟩ <;> omega⟩, hcod, fun j hj => by
    have e : cs.getD j 0 = cs[j] := by simp [List.getD_eq_getElem?_getD, hj]
    show ¬ cs.getD j 0 < 0 ∧ ¬ 65535 < cs.getD j 0
    rw [e]; exact hb _ (List.getElem_mem _)⟩
theorem same_list (cs ds : List Int32) : SameT cs.length (fun j => cs.getD j 0) ds.length (fun j => ds.getD j 0) ↔ cs = ds := by
  constructor
  · rintro ⟨e, q⟩
    refine List.ext_getElem e fun j h1 h2 => ?_
    have := q j h1
    simpa [List.getD_eq_getElem?_getD, h1, h2] using this
  · rintro rfl
    exact ⟨rfl, fun _ _ => rfl⟩
/-- **equals(Object) OF TWO SUCH STRINGS**: 1 just where the chars are the same -/
theorem eqW {p : Program} {l : Launch} {e : Env} {R : Room} {s : State} {args : Array Value} {below : List Frame} {len W : Nat} {Z : State} {a0 : Array Value} {h : Heap} (hZ : Z.Warmed39 s.vm) (hw : ∀ d ∈ wordsEq, d.before a0 Z = true) {kI : Nat} (wi : (Jvm.Cond.instantiable ST kI).before a0 Z = true)
    {x t : Addr} {kb : ClassId} {cs : List Int32} {cd N2 : Int32} {vs : List Value} (E : RoadKit.Exa Z h x ST) (V : RoadKit.Fld Z h x ST "value" "[B" (.ref t)) (C : RoadKit.Fld Z h x ST "coder" "B" (.int cd)) (K : RoadKit.Arv Z h t kb .byte N2 vs (.int 0)) (hc : CodA cs cd N2 vs) (hb : ∀ c ∈ cs, ¬ c < 0 ∧ ¬ (65535 : Int32) < c) (l2 : cs.length ≤ 4000)
    {y t' : Addr} {kb' : ClassId} {ds : List Int32} {cd' N2' : Int32} {vs' : List Value} (E' : RoadKit.Exa Z h y ST) (V' : RoadKit.Fld Z h y ST "value" "[B" (.ref t')) (C' : RoadKit.Fld Z h y ST "coder" "B" (.int cd')) (K' : RoadKit.Arv Z h t' kb' .byte N2' vs' (.int 0)) (hc' : CodA ds cd' N2' vs') (hb' : ∀ c ∈ ds, ¬ c < 0 ∧ ¬ (65535 : Int32) < c) (l2' : ds.length ≤ 4000)
    {z : Int32} (S : RoadKit.Sta Z h ST "COMPACT_STRINGS" "Z" (.int z)) (hz : ¬ z = 0) (hfr : 2 ≤ R.frames) (hlo : W + 28 ≤ R.locals) :
    Back l R p e below s args (⟨"java/lang/String", "equals", "(Ljava/lang/Object;)Z"⟩ : MethodName) len W (fun P a => a = #[.ref x, .ref y] ∧ P.U.heap = h ∧ P.cells + 0 ≤ R.cells ∧ P.slots + 0 ≤ R.slots)
      (fun P _ v B => ∃ L, (((v = some (.int 1) ∧ cs = ds) ∨ (v = some (.int 0) ∧ ¬ cs = ds)) ∧ L = [] ∧ B.U.heap = h) ∧ B.locs = P.locs ++ L ∧ B.cells = P.cells + 0 ∧ B.slots = P.slots + 0) := by
  intro m meth c P g ig mk a X hg hsize hdg hW hn hp'
  obtain ⟨rfl, rfl, r1, r2⟩ := hp'
  have al : Z.vm.Alike P.U.vm := hZ.alike.trans X.warmed.alike
  obtain ⟨A, hx⟩ := txt_of wi al E V C K hc hb l2
  obtain ⟨A', hy⟩ := txt_of wi al E' V' C' K' hc' hb' l2'
  obtain ⟨v, B, X', ⟨⟨w, hv, hh, hq⟩, hl, hk, hs⟩, st⟩ := SEq.pays x t A cd cs.length (fun j => cs.getD j 0) y t' A' cd' ds.length (fun j => ds.getD j 0) z (tabEq_of (movedEq hZ hw)) hfr hlo m meth c P g ig mk _ X hg hsize hdg hW hn ⟨r1, r2, rfl, hx, hy, sta_is al S, hz⟩
  refine ⟨v, B, X', ⟨[], ⟨?_, rfl, hh⟩, hl, hk, hs⟩, st⟩
  rcases hq with ⟨rfl, q⟩ | ⟨rfl, q⟩
  · exact Or.inl ⟨hv, (same_list cs ds).mp q⟩
  · exact Or.inr ⟨hv, fun e => q ((same_list cs ds).mpr e)⟩
end StrChars.Road
namespace StrChars.Road
open Jvm Sem ClassFile Op Lib Jvm.Stand Jvm.Free Jvm.Free.XT
open Jvm.Lib.Cold (StaticIs)
/-- what backV says of its String, as the contracts of this text ask it: cs's low bytes, coder 0 -/
theorem codOf {cs : List Int32} {n : Nat} (hn : cs.length = n) (hb : ∀ c ∈ cs, ¬ 255 < c) : CodA cs 0 (Int32.ofNat n) ((cs.map lo8).map Value.int) := Or.inl ⟨rfl, by rw [hn], by simp [List.map_map, Function.comp_def], hb⟩
end StrChars.Road
end Jvm.Pilot.@@N@@
namespace Jvm.Pilot.@@N@@
open Jvm Jvm.ClassFile Sem Op Lib Jvm.Free Jvm.Stand Jvm.LawKit Jvm.RoadKit Bundle Jvm.Pilot.@@N@@.Jvm.D Own

def Wld (Z : State) (a0 : Array Value) : Prop := (∀ d ∈ tables_1, d.before a0 Z = true) ∧ EW Z a0 consts_1 ∧ (∃ z : Int32, Sta Z Z.heap "java/lang/String" "COMPACT_STRINGS" "Z" (.int z) ∧ ¬ z = 0) ∧ (True)
theorem Wld.atoms {Z : State} {a0 : Array Value} (G : Wld Z a0) : ∀ d ∈ Bundle.stringAtoms, d.before a0 Z = true := fun d hd => G.1 d ((by decide +kernel : ∀ d ∈ Bundle.stringAtoms, d ∈ tables_1) d hd)
theorem d0_0 : decode method_2_code 0 = .ok (.iload_n 0, 1) := by decide +kernel
theorem d0_1 : decode method_2_code 1 = .ok (.ifCond .ne 14, 3) := by decide +kernel
theorem d0_4 : decode method_2_code 4 = .ok (.new 7, 3) := by decide +kernel
theorem d0_7 : decode method_2_code 7 = .ok (.dup, 1) := by decide +kernel
theorem d0_8 : decode method_2_code 8 = .ok (.iconst 0, 1) := by decide +kernel
theorem d0_9 : decode method_2_code 9 = .ok (.newarray .char, 2) := by decide +kernel
theorem d0_11 : decode method_2_code 11 = .ok (.invokespecial 9, 3) := by decide +kernel
theorem d0_14 : decode method_2_code 14 = .ok (.areturn, 1) := by decide +kernel
theorem d0_15 : decode method_2_code 15 = .ok (.iload_n 0, 1) := by decide +kernel
theorem d0_16 : decode method_2_code 16 = .ok (.iconst 1, 1) := by decide +kernel
theorem d0_17 : decode method_2_code 17 = .ok (.if_icmp .ne 21, 3) := by decide +kernel
theorem d0_20 : decode method_2_code 20 = .ok (.iconst 1, 1) := by decide +kernel
theorem d0_21 : decode method_2_code 21 = .ok (.newarray .char, 2) := by decide +kernel
theorem d0_23 : decode method_2_code 23 = .ok (.astore_n 3, 1) := by decide +kernel
theorem d0_24 : decode method_2_code 24 = .ok (.aload_n 3, 1) := by decide +kernel
theorem d0_25 : decode method_2_code 25 = .ok (.iconst 0, 1) := by decide +kernel
theorem d0_26 : decode method_2_code 26 = .ok (.iload_n 1, 1) := by decide +kernel
theorem d0_27 : decode method_2_code 27 = .ok (.i2c, 1) := by decide +kernel
theorem d0_28 : decode method_2_code 28 = .ok (.castore, 1) := by decide +kernel
theorem d0_29 : decode method_2_code 29 = .ok (.new 7, 3) := by decide +kernel
theorem d0_32 : decode method_2_code 32 = .ok (.dup, 1) := by decide +kernel
theorem d0_33 : decode method_2_code 33 = .ok (.aload_n 3, 1) := by decide +kernel
theorem d0_34 : decode method_2_code 34 = .ok (.invokespecial 9, 3) := by decide +kernel
theorem d0_37 : decode method_2_code 37 = .ok (.areturn, 1) := by decide +kernel
theorem d0_38 : decode method_2_code 38 = .ok (.iconst 2, 1) := by decide +kernel
theorem d0_39 : decode method_2_code 39 = .ok (.newarray .char, 2) := by decide +kernel
theorem d0_41 : decode method_2_code 41 = .ok (.astore_n 3, 1) := by decide +kernel
theorem d0_42 : decode method_2_code 42 = .ok (.aload_n 3, 1) := by decide +kernel
theorem d0_43 : decode method_2_code 43 = .ok (.iconst 0, 1) := by decide +kernel
theorem d0_44 : decode method_2_code 44 = .ok (.iload_n 1, 1) := by decide +kernel
theorem d0_45 : decode method_2_code 45 = .ok (.i2c, 1) := by decide +kernel
theorem d0_46 : decode method_2_code 46 = .ok (.castore, 1) := by decide +kernel
theorem d0_47 : decode method_2_code 47 = .ok (.aload_n 3, 1) := by decide +kernel
theorem d0_48 : decode method_2_code 48 = .ok (.iconst 1, 1) := by decide +kernel
theorem d0_49 : decode method_2_code 49 = .ok (.iload_n 2, 1) := by decide +kernel
theorem d0_50 : decode method_2_code 50 = .ok (.i2c, 1) := by decide +kernel
theorem d0_51 : decode method_2_code 51 = .ok (.castore, 1) := by decide +kernel
theorem d0_52 : decode method_2_code 52 = .ok (.new 7, 3) := by decide +kernel
theorem d0_55 : decode method_2_code 55 = .ok (.dup, 1) := by decide +kernel
theorem d0_56 : decode method_2_code 56 = .ok (.aload_n 3, 1) := by decide +kernel
theorem d0_57 : decode method_2_code 57 = .ok (.invokespecial 9, 3) := by decide +kernel
theorem d0_60 : decode method_2_code 60 = .ok (.areturn, 1) := by decide +kernel
theorem d1_0 : decode jdk_42_method_3_code 0 = .ok (.aload_n 0, 1) := by decide +kernel
theorem d1_1 : decode jdk_42_method_3_code 1 = .ok (.aload_n 1, 1) := by decide +kernel
theorem d1_2 : decode jdk_42_method_3_code 2 = .ok (.iconst 0, 1) := by decide +kernel
theorem d1_3 : decode jdk_42_method_3_code 3 = .ok (.aload_n 1, 1) := by decide +kernel
theorem d1_4 : decode jdk_42_method_3_code 4 = .ok (.arraylength, 1) := by decide +kernel
theorem d1_5 : decode jdk_42_method_3_code 5 = .ok (.aconst_null, 1) := by decide +kernel
theorem d1_6 : decode jdk_42_method_3_code 6 = .ok (.invokespecial 27, 3) := by decide +kernel
theorem d1_9 : decode jdk_42_method_3_code 9 = .ok (.return_, 1) := by decide +kernel
theorem d2_0 : decode jdk_42_method_149_code 0 = .ok (.aload_n 0, 1) := by decide +kernel
theorem d2_1 : decode jdk_42_method_149_code 1 = .ok (.invokespecial 1, 3) := by decide +kernel
theorem d2_4 : decode jdk_42_method_149_code 4 = .ok (.iload_n 3, 1) := by decide +kernel
theorem d2_5 : decode jdk_42_method_149_code 5 = .ok (.ifCond .ne 22, 3) := by decide +kernel
theorem d2_8 : decode jdk_42_method_149_code 8 = .ok (.aload_n 0, 1) := by decide +kernel
theorem d2_9 : decode jdk_42_method_149_code 9 = .ok (.ldc 7, 2) := by decide +kernel
theorem d2_11 : decode jdk_42_method_149_code 11 = .ok (.getfield 9, 3) := by decide +kernel
theorem d2_14 : decode jdk_42_method_149_code 14 = .ok (.putfield 9, 3) := by decide +kernel
theorem d2_17 : decode jdk_42_method_149_code 17 = .ok (.aload_n 0, 1) := by decide +kernel
theorem d2_18 : decode jdk_42_method_149_code 18 = .ok (.ldc 7, 2) := by decide +kernel
theorem d2_20 : decode jdk_42_method_149_code 20 = .ok (.getfield 15, 3) := by decide +kernel
theorem d2_23 : decode jdk_42_method_149_code 23 = .ok (.putfield 15, 3) := by decide +kernel
theorem d2_26 : decode jdk_42_method_149_code 26 = .ok (.return_, 1) := by decide +kernel
theorem d4_0 : decode prog_25_method_1_code 0 = .ok (.aload_n 0, 1) := by decide +kernel
theorem d4_1 : decode prog_25_method_1_code 1 = .ok (.invokespecial 1, 3) := by decide +kernel
theorem d4_4 : decode prog_25_method_1_code 4 = .ok (.aload_n 0, 1) := by decide +kernel
theorem d4_5 : decode prog_25_method_1_code 5 = .ok (.aload_n 1, 1) := by decide +kernel
theorem d4_6 : decode prog_25_method_1_code 6 = .ok (.putfield 7, 3) := by decide +kernel
theorem d4_9 : decode prog_25_method_1_code 9 = .ok (.aload_n 0, 1) := by decide +kernel
theorem d4_10 : decode prog_25_method_1_code 10 = .ok (.lload_n 2, 1) := by decide +kernel
theorem d4_11 : decode prog_25_method_1_code 11 = .ok (.putfield 13, 3) := by decide +kernel
theorem d4_14 : decode prog_25_method_1_code 14 = .ok (.aload_n 0, 1) := by decide +kernel
theorem d4_15 : decode prog_25_method_1_code 15 = .ok (.lload 4, 2) := by decide +kernel
theorem d4_17 : decode prog_25_method_1_code 17 = .ok (.putfield 17, 3) := by decide +kernel
theorem d4_20 : decode prog_25_method_1_code 20 = .ok (.aload_n 0, 1) := by decide +kernel
theorem d4_21 : decode prog_25_method_1_code 21 = .ok (.lload 6, 2) := by decide +kernel
theorem d4_23 : decode prog_25_method_1_code 23 = .ok (.putfield 20, 3) := by decide +kernel
theorem d4_26 : decode prog_25_method_1_code 26 = .ok (.return_, 1) := by decide +kernel
theorem d5_0 : decode prog_25_method_7_code 0 = .ok (.aload_n 1, 1) := by decide +kernel
theorem d5_1 : decode prog_25_method_7_code 1 = .ok (.instanceof 8, 3) := by decide +kernel
theorem d5_4 : decode prog_25_method_7_code 4 = .ok (.ifCond .eq 62, 3) := by decide +kernel
theorem d5_7 : decode prog_25_method_7_code 7 = .ok (.aload_n 1, 1) := by decide +kernel
theorem d5_8 : decode prog_25_method_7_code 8 = .ok (.checkcast 8, 3) := by decide +kernel
theorem d5_11 : decode prog_25_method_7_code 11 = .ok (.astore_n 2, 1) := by decide +kernel
theorem d5_12 : decode prog_25_method_7_code 12 = .ok (.aload_n 0, 1) := by decide +kernel
theorem d5_13 : decode prog_25_method_7_code 13 = .ok (.getfield 7, 3) := by decide +kernel
theorem d5_16 : decode prog_25_method_7_code 16 = .ok (.aload_n 2, 1) := by decide +kernel
theorem d5_17 : decode prog_25_method_7_code 17 = .ok (.getfield 7, 3) := by decide +kernel
theorem d5_20 : decode prog_25_method_7_code 20 = .ok (.invokevirtual 26, 3) := by decide +kernel
theorem d5_23 : decode prog_25_method_7_code 23 = .ok (.ifCond .eq 43, 3) := by decide +kernel
theorem d5_26 : decode prog_25_method_7_code 26 = .ok (.aload_n 0, 1) := by decide +kernel
theorem d5_27 : decode prog_25_method_7_code 27 = .ok (.getfield 13, 3) := by decide +kernel
theorem d5_30 : decode prog_25_method_7_code 30 = .ok (.aload_n 2, 1) := by decide +kernel
theorem d5_31 : decode prog_25_method_7_code 31 = .ok (.getfield 13, 3) := by decide +kernel
theorem d5_34 : decode prog_25_method_7_code 34 = .ok (.lcmp, 1) := by decide +kernel
theorem d5_35 : decode prog_25_method_7_code 35 = .ok (.ifCond .ne 31, 3) := by decide +kernel
theorem d5_38 : decode prog_25_method_7_code 38 = .ok (.aload_n 0, 1) := by decide +kernel
theorem d5_39 : decode prog_25_method_7_code 39 = .ok (.getfield 17, 3) := by decide +kernel
theorem d5_42 : decode prog_25_method_7_code 42 = .ok (.aload_n 2, 1) := by decide +kernel
theorem d5_43 : decode prog_25_method_7_code 43 = .ok (.getfield 17, 3) := by decide +kernel
theorem d5_46 : decode prog_25_method_7_code 46 = .ok (.lcmp, 1) := by decide +kernel
theorem d5_47 : decode prog_25_method_7_code 47 = .ok (.ifCond .ne 19, 3) := by decide +kernel
theorem d5_50 : decode prog_25_method_7_code 50 = .ok (.aload_n 0, 1) := by decide +kernel
theorem d5_51 : decode prog_25_method_7_code 51 = .ok (.getfield 20, 3) := by decide +kernel
theorem d5_54 : decode prog_25_method_7_code 54 = .ok (.aload_n 2, 1) := by decide +kernel
theorem d5_55 : decode prog_25_method_7_code 55 = .ok (.getfield 20, 3) := by decide +kernel
theorem d5_58 : decode prog_25_method_7_code 58 = .ok (.lcmp, 1) := by decide +kernel
theorem d5_59 : decode prog_25_method_7_code 59 = .ok (.ifCond .ne 7, 3) := by decide +kernel
theorem d5_62 : decode prog_25_method_7_code 62 = .ok (.iconst 1, 1) := by decide +kernel
theorem d5_63 : decode prog_25_method_7_code 63 = .ok (.goto 4, 3) := by decide +kernel
theorem d5_66 : decode prog_25_method_7_code 66 = .ok (.iconst 0, 1) := by decide +kernel
theorem d5_67 : decode prog_25_method_7_code 67 = .ok (.ireturn, 1) := by decide +kernel
theorem pd_0 : parseMethodDescriptor "([CIILjava/lang/Void;)V" = some ⟨[(.array .char), .int, .int, (.object "java/lang/Void")], none⟩ := by decide +kernel
theorem pd_1 : parseMethodDescriptor "([C)V" = some ⟨[(.array .char)], none⟩ := by decide +kernel
theorem pd_2 : parseMethodDescriptor "(Ljava/lang/Object;)Z" = some ⟨[(.object "java/lang/Object")], some .boolean⟩ := by decide +kernel
theorem pd_3 : parseMethodDescriptor "(III)Ljava/lang/String;" = some ⟨[.int, .int, .int], some (.object "java/lang/String")⟩ := by decide +kernel
theorem pd_4 : parseMethodDescriptor "(Ljava/lang/String;JJJ)V" = some ⟨[(.object "java/lang/String"), .long, .long, .long], none⟩ := by decide +kernel
theorem pn_0 : plainName "java/lang/String" = true := by first | (simp [plainName, overriddenIn]; done) | decide +kernel
theorem pn_1 : plainName "com/example/pathloom/pathloom/model/PathCountEqualsPinLaw" = true := by first | (simp [plainName, overriddenIn]; done) | decide +kernel
theorem pn_2 : plainName "com/example/pathloom/pathloom/model/PathCount" = true := by first | (simp [plainName, overriddenIn]; done) | decide +kernel
def Q_str_init4 (Z : State) (a b : Nat) (h0 : Heap) : Option Value → (Addr → Prop) → Heap → Prop := fun v _ h => v = none ∧ ∃ (t : Nat) (kb : ClassId), Str Z h a t kb []
theorem ef_str_init4 (m : MethodId) (a b : Nat) : entryFrame m #[(.ref a), (.ref b), (.int (0 : Int32)), (.int (0 : Int32)), .null] 6 = mkF m 0 #[.val (.ref a), .val (.ref b), .val (.int (0 : Int32)), .val (.int (0 : Int32)), .val .null, .unset] [] := by first | (simp [entryFrame, mkF, argsToLocals, Value.category]; done) | rfl
set_option maxRecDepth 65536 in
set_option maxHeartbeats 40000000 in
theorem str_init4 (l : Launch) (Z : State) (a0 : Array Value) (G : Wld Z a0) (a b : Nat) (h0 : Heap) (E : Exa Z h0 a "java/lang/String") (Fv : Fld Z h0 a "java/lang/String" "value" "[B" .null) (Fc : Fld Z h0 a "java/lang/String" "coder" "B" (.int (0 : Int32))) (ga : Z.heap.size ≤ a) :
    Met l Z consts_1 (⟨"java/lang/String", "<init>", "([CIILjava/lang/Void;)V"⟩ : MethodName) jdk_42_method_149_code 6 none ({ frames := 1, cells := 4, slots := 8, locals := 12 } : Room) #[(.ref a), (.ref b), (.int (0 : Int32)), (.int (0 : Int32)), .null] h0 [a] [a] (Q_str_init4 Z a b h0) := by
  have hw := G.1
  have hEL := G.2.1
  refine Met.intro (a0 := a0) hEL pn_0 ?_
  intro pP eE sS mM bB mE cC T0 X0 hml hby hret hnm hlk hs0
  have hz0 : sS.heap.size = h0.size := by rw [hs0]
  have n0 : Z.heap.size ≤ h0.size := X0.ext0.1
  refine Go.cast (ef_str_init4 mM a b) ?_
  have l_a : a < h0.size := E.lt
  have hwS : ∀ d ∈ Bundle.stringAtoms, d.before a0 Z = true := G.atoms
  refine Go.of (T' := T0) (g' := (mkF mM 1 #[.val (.ref a), .val (.ref b), .val (.int (0 : Int32)), .val (.int (0 : Int32)), .val .null, .unset] [(.ref a)])) (fun _ k => XS.aloadN X0.hh X0.hx rfl (hb hby d2_0) rfl rfl k) ?_
  refine X0.initO (W := 0) (hw _ (List.mem_of_getElem? (i := 15) rfl)) (hw _ (List.mem_of_getElem? (i := 16) rfl)) (hw _ (List.mem_of_getElem? (i := 17) rfl)) (by rw [hml]; rfl) (hb hby d2_1) (by decide) rfl (by decide) ?_
  intro T1 X1
  show Go pP eE bB _ T1 (mkF mM 4 #[.val (.ref a), .val (.ref b), .val (.int (0 : Int32)), .val (.int (0 : Int32)), .val .null, .unset] [])
  refine Go.of (T' := T1) (g' := (mkF mM 5 #[.val (.ref a), .val (.ref b), .val (.int (0 : Int32)), .val (.int (0 : Int32)), .val .null, .unset] [(.int (0 : Int32))])) (fun _ k => XS.iloadN X1.hh X1.hx rfl (hb hby d2_4) rfl k) ?_
  refine Go.of (T' := T1) (g' := (mkF mM 8 #[.val (.ref a), .val (.ref b), .val (.int (0 : Int32)), .val (.int (0 : Int32)), .val .null, .unset] [])) (fun _ k => XS.ifNo X1.hh X1.hx rfl (hb hby d2_5) rfl ((if0 _ _).trans (teq (rfl : (0 : Int32) = 0)).2) k) ?_
  refine Go.of (T' := T1) (g' := (mkF mM 9 #[.val (.ref a), .val (.ref b), .val (.int (0 : Int32)), .val (.int (0 : Int32)), .val .null, .unset] [(.ref a)])) (fun _ k => XS.aloadN X1.hh X1.hx rfl (hb hby d2_8) rfl rfl k) ?_
  refine X1.ldcR (n := 0) (z := Int32.ofNat ([] : List Int32).length) (vs := (([] : List Int32).map fun c => c.toInt8.toInt32).map Value.int) (hw _ (List.mem_of_getElem? (i := 18) rfl)) hwS (by decide +kernel) (by decide +kernel) (by decide +kernel) (by decide +kernel) (hb hby d2_9) (by decide +kernel) (by decide) (by decide) (by decide) ?_
  intro T2 h2 q1 t_q1 kb_q1 X2 E2 A_q1 C_q1 V_q1 B_q1 N_q1
  have z2 : h0.size ≤ h2.size := E2.1
  have l_q1 : q1 < h2.size := A_q1.lt
  have lt_q1 : t_q1 < h2.size := B_q1.lt
  have St_q1 : Str Z h2 q1 t_q1 kb_q1 [] := ⟨A_q1, V_q1, C_q1, B_q1, by decide, by decide⟩
  have n_a_q1 : @Ne Nat a q1 ∧ @Ne Nat a t_q1 := N_q1 a (List.mem_of_getElem? (i := 0) rfl)
  show Go pP eE bB _ T2 (mkF mM 11 #[.val (.ref a), .val (.ref b), .val (.int (0 : Int32)), .val (.int (0 : Int32)), .val .null, .unset] [(.ref q1), (.ref a)])
  refine X2.getF (host := "") (Or.inl (hw _ (List.mem_of_getElem? (i := 24) rfl))) Via.refl V_q1 (hb hby d2_11) ?_
  intro T3 X3
  show Go pP eE bB _ T3 (mkF mM 14 #[.val (.ref a), .val (.ref b), .val (.int (0 : Int32)), .val (.int (0 : Int32)), .val .null, .unset] [(.ref t_q1), (.ref a)])
  have Fv := (Fv.ext E2)
  have E := (E.ext E2)
  refine X3.putF (host := "") (Or.inl (hw _ (List.mem_of_getElem? (i := 24) rfl))) Via.refl Fv E (Or.inr ⟨(hw _ (List.mem_of_getElem? (i := 20) rfl)), rfl, hnm⟩) (hw _ (List.mem_of_getElem? (i := 5) rfl)) (ty := (.array .byte)) (by decide) rfl rfl (by omega) (Or.inl (List.mem_of_getElem? (i := 0) rfl)) (Sfe.mem (List.mem_of_getElem? (i := 0) rfl)) (hb hby d2_14) ?_
  intro T4 h4 X4 K4 W4
  have z4 : h2.size ≤ h4.size := K4.1
  have F_value_a := Fv.same W4
  show Go pP eE bB _ T4 (mkF mM 17 #[.val (.ref a), .val (.ref b), .val (.int (0 : Int32)), .val (.int (0 : Int32)), .val .null, .unset] [])
  refine Go.of (T' := T4) (g' := (mkF mM 18 #[.val (.ref a), .val (.ref b), .val (.int (0 : Int32)), .val (.int (0 : Int32)), .val .null, .unset] [(.ref a)])) (fun _ k => XS.aloadN X4.hh X4.hx rfl (hb hby d2_17) rfl rfl k) ?_
  refine X4.ldcR (n := 0) (z := Int32.ofNat ([] : List Int32).length) (vs := (([] : List Int32).map fun c => c.toInt8.toInt32).map Value.int) (hw _ (List.mem_of_getElem? (i := 18) rfl)) hwS (by decide +kernel) (by decide +kernel) (by decide +kernel) (by decide +kernel) (hb hby d2_18) (by decide +kernel) (by decide) (by decide) (by decide) ?_
  intro T5 h5 q2 t_q2 kb_q2 X5 E5 A_q2 C_q2 V_q2 B_q2 N_q2
  have z5 : h4.size ≤ h5.size := E5.1
  have l_q2 : q2 < h5.size := A_q2.lt
  have lt_q2 : t_q2 < h5.size := B_q2.lt
  have St_q2 : Str Z h5 q2 t_q2 kb_q2 [] := ⟨A_q2, V_q2, C_q2, B_q2, by decide, by decide⟩
  have n_a_q2 : @Ne Nat a q2 ∧ @Ne Nat a t_q2 := N_q2 a (List.mem_of_getElem? (i := 0) rfl)
  show Go pP eE bB _ T5 (mkF mM 20 #[.val (.ref a), .val (.ref b), .val (.int (0 : Int32)), .val (.int (0 : Int32)), .val .null, .unset] [(.ref q2), (.ref a)])
  refine X5.getF (host := "") (Or.inl (hw _ (List.mem_of_getElem? (i := 25) rfl))) Via.refl C_q2 (hb hby d2_20) ?_
  intro T6 X6
  show Go pP eE bB _ T6 (mkF mM 23 #[.val (.ref a), .val (.ref b), .val (.int (0 : Int32)), .val (.int (0 : Int32)), .val .null, .unset] [(.int (0 : Int32)), (.ref a)])
  have Fc := (((Fc.ext E2).other W4 (Or.inr (slot_ne (a0 := a0) (Or.inr (hw _ (List.mem_of_getElem? (i := 21) rfl))) (Or.inr (hw _ (List.mem_of_getElem? (i := 20) rfl))) (by decide) (t := .byte) (t' := (.array .byte)) (by decide) (by decide)))).ext E5)
  have E := ((E.keep K4).ext E5)
  refine X6.putFN (ty := .byte) (v' := (.int (0 : Int32))) (hw _ (List.mem_of_getElem? (i := 25) rfl)) Via.refl Fc E (Or.inr ⟨(hw _ (List.mem_of_getElem? (i := 21) rfl)), rfl, hnm⟩) (hw _ (List.mem_of_getElem? (i := 5) rfl)) (by decide) rfl rfl (by omega) (Or.inl (List.mem_of_getElem? (i := 0) rfl)) (Sfe.mem (List.mem_of_getElem? (i := 0) rfl)) (hb hby d2_23) ?_
  intro T7 h7 X7 K7 W7
  have z7 : h5.size ≤ h7.size := K7.1
  have F_coder_a := Fc.same W7
  show Go pP eE bB _ T7 (mkF mM 26 #[.val (.ref a), .val (.ref b), .val (.int (0 : Int32)), .val (.int (0 : Int32)), .val .null, .unset] [])
  have F_value_a := ((F_value_a.ext E5).other W7 (Or.inr (slot_ne (a0 := a0) (Or.inr (hw _ (List.mem_of_getElem? (i := 20) rfl))) (Or.inr (hw _ (List.mem_of_getElem? (i := 21) rfl))) (by decide) (t := (.array .byte)) (t' := .byte) (by decide) (by decide))))
  have E := (E.keep K7)
  have B_q1 := (((B_q1.keep K4 (ninN (by omega) nin0)).ext E5).keep K7 (ninN (by omega) nin0))
  exact X7.vret hret hlk (by decide) (by decide) (hb hby d2_26) (fun S hS => ⟨rfl, t_q1, kb_q1, E, F_value_a, F_coder_a, B_q1, by decide, by decide⟩)
def Q_str_init1 (Z : State) (a b : Nat) (kc : ClassId) (h0 : Heap) : Option Value → (Addr → Prop) → Heap → Prop := fun v _ h => v = none ∧ ∃ (t : Nat) (kb : ClassId), Str Z h a t kb []
theorem ef_str_init1 (m : MethodId) (a b : Nat) (kc : ClassId) : entryFrame m #[(.ref a), (.ref b)] 2 = mkF m 0 #[.val (.ref a), .val (.ref b)] [] := by first | (simp [entryFrame, mkF, argsToLocals, Value.category]; done) | rfl
set_option maxRecDepth 65536 in
set_option maxHeartbeats 40000000 in
theorem str_init1 (l : Launch) (Z : State) (a0 : Array Value) (G : Wld Z a0) (a b : Nat) (kc : ClassId) (h0 : Heap) (E : Exa Z h0 a "java/lang/String") (Fv : Fld Z h0 a "java/lang/String" "value" "[B" .null) (Fc : Fld Z h0 a "java/lang/String" "coder" "B" (.int (0 : Int32))) (ga : Z.heap.size ≤ a) (Vb : Arv Z h0 b kc .char (0 : Int32) [] (.int 0)) :
    Met l Z consts_1 (⟨"java/lang/String", "<init>", "([C)V"⟩ : MethodName) jdk_42_method_3_code 2 none ({ frames := 2, cells := 4, slots := 8, locals := 29 } : Room) #[(.ref a), (.ref b)] h0 [a] [a] (Q_str_init1 Z a b kc h0) := by
  have hw := G.1
  have hEL := G.2.1
  refine Met.intro (a0 := a0) hEL pn_0 ?_
  intro pP eE sS mM bB mE cC T0 X0 hml hby hret hnm hlk hs0
  have hz0 : sS.heap.size = h0.size := by rw [hs0]
  have n0 : Z.heap.size ≤ h0.size := X0.ext0.1
  refine Go.cast (ef_str_init1 mM a b kc) ?_
  have l_a : a < h0.size := E.lt
  refine Go.of (T' := T0) (g' := (mkF mM 1 #[.val (.ref a), .val (.ref b)] [(.ref a)])) (fun _ k => XS.aloadN X0.hh X0.hx rfl (hb hby d1_0) rfl rfl k) ?_
  refine Go.of (T' := T0) (g' := (mkF mM 2 #[.val (.ref a), .val (.ref b)] [(.ref b), (.ref a)])) (fun _ k => XS.aloadN X0.hh X0.hx rfl (hb hby d1_1) rfl rfl k) ?_
  refine Go.of (T' := T0) (g' := (mkF mM 3 #[.val (.ref a), .val (.ref b)] [(.int (0 : Int32)), (.ref b), (.ref a)])) (fun _ k => XS.iconst X0.hh X0.hx rfl (hb hby d1_2) k) ?_
  refine Go.of (T' := T0) (g' := (mkF mM 4 #[.val (.ref a), .val (.ref b)] [(.ref b), (.int (0 : Int32)), (.ref b), (.ref a)])) (fun _ k => XS.aloadN X0.hh X0.hx rfl (hb hby d1_3) rfl rfl k) ?_
  refine X0.len Vb (hb hby d1_4) ?_
  show Go pP eE bB _ T0 (mkF mM 5 #[.val (.ref a), .val (.ref b)] [(.int (0 : Int32)), (.int (0 : Int32)), (.ref b), (.ref a)])
  refine Go.of (T' := T0) (g' := (mkF mM 6 #[.val (.ref a), .val (.ref b)] [.null, (.int (0 : Int32)), (.int (0 : Int32)), (.ref b), (.ref a)])) (fun _ k => XS.aconstNull X0.hh X0.hx rfl (hb hby d1_5) k) ?_
  refine X0.callC (W := 0) (argsL := [(.ref b), (.int (0 : Int32)), (.int (0 : Int32)), .null]) (rest := []) (a := a) rfl (hw _ (List.mem_of_getElem? (i := 11) rfl)) (hw _ (List.mem_of_getElem? (i := 12) rfl)) (hw _ (List.mem_of_getElem? (i := 6) rfl)) (hw _ (List.mem_of_getElem? (i := 14) rfl)) (by decide) (str_init4 l Z a0 G a b h0 E Fv Fc ga) pd_0 rfl rfl rfl (by rw [hml]; rfl) (by decide) (by decide) (by decide) (by decide) (hb hby d1_6) (allS (Or.inl (List.mem_of_getElem? (i := 0) rfl)) all0) (allS (Sfe.mem (List.mem_of_getElem? (i := 0) rfl)) all0) ?_
  intro v1 T1 h1 S1 X1 K1 Q1
  obtain ⟨rfl, t, kb, hs⟩ := Q1
  have X1 := X1 [] all0
  have z1 : h0.size ≤ h1.size := K1.1
  show Go pP eE bB _ T1 (mkF mM 9 #[.val (.ref a), .val (.ref b)] [])
  exact X1.vret hret hlk (by decide) (by decide) (hb hby d1_9) (fun S hS => ⟨rfl, t, kb, hs⟩)
def Q_mk_rm (Z : State) (n c0 c1 : Int32) (h0 : Heap) : Option Value → (Addr → Prop) → Heap → Prop := fun v _ h => ∃ (r t : Nat) (kb : ClassId), v = some (.ref r) ∧ h0.size ≤ r ∧ Str Z h r t kb (chs n c0 c1)
theorem ef_mk_rm (m : MethodId) (n c0 c1 : Int32) : entryFrame m #[(.int n), (.int c0), (.int c1)] 4 = mkF m 0 #[.val (.int n), .val (.int c0), .val (.int c1), .unset] [] := by first | (simp [entryFrame, mkF, argsToLocals, Value.category]; done) | rfl
set_option maxRecDepth 65536 in
set_option maxHeartbeats 40000000 in
theorem mk_rm (l : Launch) (Z : State) (a0 : Array Value) (G : Wld Z a0) (n c0 c1 : Int32) (h0 : Heap) (h1 : (¬ c0 < 0 ∧ ¬ (255 : Int32) < c0)) (h2 : (¬ c1 < 0 ∧ ¬ (255 : Int32) < c1)) :
    Met l Z consts_1 (⟨"com/example/pathloom/pathloom/model/PathCountEqualsPinLaw", "mk", "(III)Ljava/lang/String;"⟩ : MethodName) method_2_code 4 (some (.object "java/lang/String")) ({ frames := 4, cells := 6, slots := 12, locals := 66 } : Room) #[(.int n), (.int c0), (.int c1)] h0 [] [] (Q_mk_rm Z n c0 c1 h0) := by
  have hw := G.1
  have hEL := G.2.1
  refine Met.intro (a0 := a0) hEL pn_1 ?_
  intro pP eE sS mM bB mE cC T0 X0 hml hby hret hnm hlk hs0
  have hz0 : sS.heap.size = h0.size := by rw [hs0]
  have n0 : Z.heap.size ≤ h0.size := X0.ext0.1
  refine Go.cast (ef_mk_rm mM n c0 c1) ?_
  obtain ⟨zc, Sc, hzc⟩ := G.2.2.1
  have hws : ∀ d ∈ StrChars.Road.words, d.before a0 Z = true := fun d hd => hw d ((by decide +kernel : ∀ d ∈ StrChars.Road.words, d ∈ tables_1) d hd)
  refine Go.of (T' := T0) (g' := (mkF mM 1 #[.val (.int n), .val (.int c0), .val (.int c1), .unset] [(.int n)])) (fun _ k => XS.iloadN X0.hh X0.hx rfl (hb hby d0_0) rfl k) ?_
  by_cases hc1 : n = (0 : Int32)
  · refine Go.of (T' := T0) (g' := (mkF mM 4 #[.val (.int n), .val (.int c0), .val (.int c1), .unset] [])) (fun _ k => XS.ifNo X0.hh X0.hx rfl (hb hby d0_1) rfl ((if0 _ _).trans (teq hc1).2) k) ?_
    refine X0.newO (hw _ (List.mem_of_getElem? (i := 4) rfl)) (hw _ (List.mem_of_getElem? (i := 5) rfl)) (hw _ (List.mem_of_getElem? (i := 6) rfl)) (hb hby d0_4) (by decide) (by decide) ?_
    intro T1 h1 r g_r X1 E1 A_r D_r
    have z1 : h0.size ≤ h1.size := E1.1
    have l_r : r < h1.size := A_r.lt
    have F_value_r : Fld Z h1 r "java/lang/String" "value" "[B" .null := D_r (Or.inr (hw _ (List.mem_of_getElem? (i := 20) rfl))) (ty := (.array .byte)) (by decide)
    have F_coder_r : Fld Z h1 r "java/lang/String" "coder" "B" (.int (0 : Int32)) := D_r (Or.inr (hw _ (List.mem_of_getElem? (i := 21) rfl))) (ty := .byte) (by decide)
    show Go pP eE bB _ T1 (mkF mM 7 #[.val (.int n), .val (.int c0), .val (.int c1), .unset] [(.ref r)])
    refine Go.of (T' := T1) (g' := (mkF mM 8 #[.val (.int n), .val (.int c0), .val (.int c1), .unset] [(.ref r), (.ref r)])) (fun _ k => XS.dup X1.hh X1.hx rfl (hb hby d0_7) rfl rfl k) ?_
    refine Go.of (T' := T1) (g' := (mkF mM 9 #[.val (.int n), .val (.int c0), .val (.int c1), .unset] [(.int (0 : Int32)), (.ref r), (.ref r)])) (fun _ k => XS.iconst X1.hh X1.hx rfl (hb hby d0_8) k) ?_
    refine X1.newP (cap := 0) (hw _ (List.mem_of_getElem? (i := 7) rfl)) (hb hby d0_9) (by decide) (by decide) (by decide) (by decide) (by decide) ?_
    intro T2 h2 b kc_b g_b X2 E2 V_b
    have z2 : h1.size ≤ h2.size := E2.1
    have l_b : b < h2.size := V_b.lt
    have V_b : Arv Z h2 b kc_b .char (0 : Int32) [] (.int (0 : Int32)) := Arv.pad V_b (pad_rep [] _ 0)
    show Go pP eE bB _ T2 (mkF mM 11 #[.val (.int n), .val (.int c0), .val (.int c1), .unset] [(.ref b), (.ref r), (.ref r)])
    have A_r := (A_r.ext E2)
    have F_value_r := (F_value_r.ext E2)
    have F_coder_r := (F_coder_r.ext E2)
    refine X2.callC (W := 1) (argsL := [(.ref b)]) (rest := [(.ref r)]) (a := r) rfl (hw _ (List.mem_of_getElem? (i := 8) rfl)) (hw _ (List.mem_of_getElem? (i := 9) rfl)) (hw _ (List.mem_of_getElem? (i := 6) rfl)) (hw _ (List.mem_of_getElem? (i := 10) rfl)) (by decide) (str_init1 l Z a0 G r b kc_b h2 A_r F_value_r F_coder_r (by omega) V_b) pd_1 rfl rfl rfl (by rw [hml]; rfl) (by decide) (by decide) (by decide) (by decide) (hb hby d0_11) (allS (Or.inr (by omega)) all0) (allS (Sfe.mem (List.mem_of_getElem? (i := 1) rfl)) all0) ?_
    intro v3 T3 h3 S3 X3 K3 Q3
    obtain ⟨rfl, t, kb, hs⟩ := Q3
    have X3 := X3 [] all0
    have z3 : h2.size ≤ h3.size := K3.1
    show Go pP eE bB _ T3 (mkF mM 14 #[.val (.int n), .val (.int c0), .val (.int c1), .unset] [(.ref r)])
    exact X3.aret hret rfl rfl rfl hlk (by decide) (by decide) (hb hby d0_14) (fun S hS => ⟨r, t, kb, rfl, by omega, by rw [hc1]; exact hs⟩)
  · refine Go.of (T' := T0) (g' := (mkF mM 15 #[.val (.int n), .val (.int c0), .val (.int c1), .unset] [])) (fun _ k => XS.ifYes X0.hh X0.hx rfl (pc0 := 1) (pc' := 15) rfl (hb hby d0_1) rfl ((if0 _ _).trans (feq hc1).2) (by decide) (by decide) k) ?_
    refine Go.of (T' := T0) (g' := (mkF mM 16 #[.val (.int n), .val (.int c0), .val (.int c1), .unset] [(.int n)])) (fun _ k => XS.iloadN X0.hh X0.hx rfl (hb hby d0_15) rfl k) ?_
    refine Go.of (T' := T0) (g' := (mkF mM 17 #[.val (.int n), .val (.int c0), .val (.int c1), .unset] [(.int (1 : Int32)), (.int n)])) (fun _ k => XS.iconst X0.hh X0.hx rfl (hb hby d0_16) k) ?_
    by_cases hc17 : n = (1 : Int32)
    · refine Go.of (T' := T0) (g' := (mkF mM 20 #[.val (.int n), .val (.int c0), .val (.int c1), .unset] [])) (fun _ k => XS.icmpNo X0.hh X0.hx rfl (hb hby d0_17) rfl (teq hc17).2 k) ?_
      refine Go.of (T' := T0) (g' := (mkF mM 21 #[.val (.int n), .val (.int c0), .val (.int c1), .unset] [(.int (1 : Int32))])) (fun _ k => XS.iconst X0.hh X0.hx rfl (hb hby d0_20) k) ?_
      refine X0.newP (cap := 1) (hw _ (List.mem_of_getElem? (i := 7) rfl)) (hb hby d0_21) (by decide) (by decide) (by decide) (by decide) (by decide) ?_
      intro T4 h4 b kc_b g_b X4 E4 V_b
      have z4 : h0.size ≤ h4.size := E4.1
      have l_b : b < h4.size := V_b.lt
      have V_b : Arv Z h4 b kc_b .char (1 : Int32) [(.int (0 : Int32))] (.int (0 : Int32)) := Arv.pad V_b (pad_rep [] _ 1)
      show Go pP eE bB _ T4 (mkF mM 23 #[.val (.int n), .val (.int c0), .val (.int c1), .unset] [(.ref b)])
      refine Go.of (T' := T4) (g' := (mkF mM 24 #[.val (.int n), .val (.int c0), .val (.int c1), .val (.ref b)] [])) (fun _ k => XS.astoreN X4.hh X4.hx rfl (hb hby d0_23) rfl rfl (l' := #[.val (.int n), .val (.int c0), .val (.int c1), .val (.ref b)]) rfl k) ?_
      refine Go.of (T' := T4) (g' := (mkF mM 25 #[.val (.int n), .val (.int c0), .val (.int c1), .val (.ref b)] [(.ref b)])) (fun _ k => XS.aloadN X4.hh X4.hx rfl (hb hby d0_24) rfl rfl k) ?_
      refine Go.of (T' := T4) (g' := (mkF mM 26 #[.val (.int n), .val (.int c0), .val (.int c1), .val (.ref b)] [(.int (0 : Int32)), (.ref b)])) (fun _ k => XS.iconst X4.hh X4.hx rfl (hb hby d0_25) k) ?_
      refine Go.of (T' := T4) (g' := (mkF mM 27 #[.val (.int n), .val (.int c0), .val (.int c1), .val (.ref b)] [(.int c0), (.int (0 : Int32)), (.ref b)])) (fun _ k => XS.iloadN X4.hh X4.hx rfl (hb hby d0_26) rfl k) ?_
      refine Go.of (T' := T4) (g' := (mkF mM 28 #[.val (.int n), .val (.int c0), .val (.int c1), .val (.ref b)] [(.int (c0.toUInt32.toUInt16.toUInt32.toInt32)), (.int (0 : Int32)), (.ref b)])) (fun _ k => XS.i2c X4.hh X4.hx rfl (hb hby d0_27) rfl k) ?_
      refine X4.stC 0 V_b (by decide) rfl (Nat.le_of_ble_eq_true rfl) (by omega) (Or.inr (by omega)) (hb hby d0_28) ?_
      intro T5 h5 X5 K5 V_b
      have z5 : h4.size ≤ h5.size := K5.1
      have V_b : Arv Z h5 b kc_b .char (1 : Int32) [(.int c0)] (.int (0 : Int32)) := by have q := V_b; rw [nar_i2c c0 h1] at q; exact q
      show Go pP eE bB _ T5 (mkF mM 29 #[.val (.int n), .val (.int c0), .val (.int c1), .val (.ref b)] [])
      refine X5.newO (hw _ (List.mem_of_getElem? (i := 4) rfl)) (hw _ (List.mem_of_getElem? (i := 5) rfl)) (hw _ (List.mem_of_getElem? (i := 6) rfl)) (hb hby d0_29) (by decide) (by decide) ?_
      intro T6 h6 r g_r X6 E6 A_r D_r
      have z6 : h5.size ≤ h6.size := E6.1
      have l_r : r < h6.size := A_r.lt
      have F_value_r : Fld Z h6 r "java/lang/String" "value" "[B" .null := D_r (Or.inr (hw _ (List.mem_of_getElem? (i := 20) rfl))) (ty := (.array .byte)) (by decide)
      have F_coder_r : Fld Z h6 r "java/lang/String" "coder" "B" (.int (0 : Int32)) := D_r (Or.inr (hw _ (List.mem_of_getElem? (i := 21) rfl))) (ty := .byte) (by decide)
      show Go pP eE bB _ T6 (mkF mM 32 #[.val (.int n), .val (.int c0), .val (.int c1), .val (.ref b)] [(.ref r)])
      refine Go.of (T' := T6) (g' := (mkF mM 33 #[.val (.int n), .val (.int c0), .val (.int c1), .val (.ref b)] [(.ref r), (.ref r)])) (fun _ k => XS.dup X6.hh X6.hx rfl (hb hby d0_32) rfl rfl k) ?_
      refine Go.of (T' := T6) (g' := (mkF mM 34 #[.val (.int n), .val (.int c0), .val (.int c1), .val (.ref b)] [(.ref b), (.ref r), (.ref r)])) (fun _ k => XS.aloadN X6.hh X6.hx rfl (hb hby d0_33) rfl rfl k) ?_
      have hp : ∀ c ∈ ([c0] : List Int32), ¬ c < 0 ∧ ¬ (255 : Int32) < c := allI1 h1
      have V_b := (V_b.ext E6)
      refine X6.callCN (W := 1) (argsL := [(.ref b)]) (rest := [(.ref r)]) (nc := 1) (ns := 1) (ws' := [r]) (a := r) rfl (hw _ (List.mem_of_getElem? (i := 8) rfl)) (hw _ (List.mem_of_getElem? (i := 9) rfl)) (hw _ (List.mem_of_getElem? (i := 10) rfl)) (by decide) (fun vm0 hZ => StrChars.Road.backV (s := sS.setVm vm0) (W := 1) hZ hws (kI := 4) (hw _ (List.mem_of_getElem? (i := 5) rfl)) (cs := ([c0] : List Int32)) (bs := ([c0] : List Int32).map (fun c => c.toInt8.toInt32)) (n := 1) (n0 := Z.heap.size) (by omega) (by omega) A_r F_value_r F_coder_r V_b (Sc.ext X6.ext0) hzc rfl rfl (by decide) (by decide) hp rfl (by decide) (by decide)) (fun v h' L q => ⟨q.2.1, q.2.2.1⟩) pd_1 rfl rfl rfl (by rw [hml]; rfl) (by decide) (by decide) (hb hby d0_34) (allS (by omega) all0) (allS (Or.inr (by omega)) all0) (allS (Sfe.mem (List.mem_of_getElem? (i := 0) rfl)) all0) ?_
      intro v7 T7 h7 X7 K7 Q7
      obtain ⟨_, ⟨rfl, -, -, A_r, C_r, t_r, kb_r, gt_r, -, -, V_r, B_r⟩⟩ := Q7
      have z7 : h6.size ≤ h7.size := K7.1
      show Go pP eE bB _ T7 (mkF mM 37 #[.val (.int n), .val (.int c0), .val (.int c1), .val (.ref b)] [(.ref r)])
      have lt_r : t_r < h7.size := B_r.lt
      have St_r : Str Z h7 r t_r kb_r ([c0] : List Int32) := ⟨A_r, V_r, C_r, B_r, hp, Nat.le_of_ble_eq_true rfl⟩
      exact X7.aret hret rfl rfl rfl hlk (by decide) (by decide) (hb hby d0_37) (fun S hS => ⟨r, t_r, kb_r, rfl, by omega, by rw [hc17]; exact St_r⟩)
    · refine Go.of (T' := T0) (g' := (mkF mM 38 #[.val (.int n), .val (.int c0), .val (.int c1), .unset] [])) (fun _ k => XS.icmpYes X0.hh X0.hx rfl (pc0 := 17) (pc' := 38) rfl (hb hby d0_17) rfl (feq hc17).2 (by decide) (by decide) k) ?_
      refine Go.of (T' := T0) (g' := (mkF mM 39 #[.val (.int n), .val (.int c0), .val (.int c1), .unset] [(.int (2 : Int32))])) (fun _ k => XS.iconst X0.hh X0.hx rfl (hb hby d0_38) k) ?_
      refine X0.newP (cap := 2) (hw _ (List.mem_of_getElem? (i := 7) rfl)) (hb hby d0_39) (by decide) (by decide) (by decide) (by decide) (by decide) ?_
      intro T8 h8 b kc_b g_b X8 E8 V_b
      have z8 : h0.size ≤ h8.size := E8.1
      have l_b : b < h8.size := V_b.lt
      have V_b : Arv Z h8 b kc_b .char (2 : Int32) [(.int (0 : Int32)), (.int (0 : Int32))] (.int (0 : Int32)) := Arv.pad V_b (pad_rep [] _ 2)
      show Go pP eE bB _ T8 (mkF mM 41 #[.val (.int n), .val (.int c0), .val (.int c1), .unset] [(.ref b)])
      refine Go.of (T' := T8) (g' := (mkF mM 42 #[.val (.int n), .val (.int c0), .val (.int c1), .val (.ref b)] [])) (fun _ k => XS.astoreN X8.hh X8.hx rfl (hb hby d0_41) rfl rfl (l' := #[.val (.int n), .val (.int c0), .val (.int c1), .val (.ref b)]) rfl k) ?_
      refine Go.of (T' := T8) (g' := (mkF mM 43 #[.val (.int n), .val (.int c0), .val (.int c1), .val (.ref b)] [(.ref b)])) (fun _ k => XS.aloadN X8.hh X8.hx rfl (hb hby d0_42) rfl rfl k) ?_
      refine Go.of (T' := T8) (g' := (mkF mM 44 #[.val (.int n), .val (.int c0), .val (.int c1), .val (.ref b)] [(.int (0 : Int32)), (.ref b)])) (fun _ k => XS.iconst X8.hh X8.hx rfl (hb hby d0_43) k) ?_
      refine Go.of (T' := T8) (g' := (mkF mM 45 #[.val (.int n), .val (.int c0), .val (.int c1), .val (.ref b)] [(.int c0), (.int (0 : Int32)), (.ref b)])) (fun _ k => XS.iloadN X8.hh X8.hx rfl (hb hby d0_44) rfl k) ?_
      refine Go.of (T' := T8) (g' := (mkF mM 46 #[.val (.int n), .val (.int c0), .val (.int c1), .val (.ref b)] [(.int (c0.toUInt32.toUInt16.toUInt32.toInt32)), (.int (0 : Int32)), (.ref b)])) (fun _ k => XS.i2c X8.hh X8.hx rfl (hb hby d0_45) rfl k) ?_
      refine X8.stC 0 V_b (by decide) rfl (Nat.le_of_ble_eq_true rfl) (by omega) (Or.inr (by omega)) (hb hby d0_46) ?_
      intro T9 h9 X9 K9 V_b
      have z9 : h8.size ≤ h9.size := K9.1
      have V_b : Arv Z h9 b kc_b .char (2 : Int32) [(.int c0), (.int (0 : Int32))] (.int (0 : Int32)) := by have q := V_b; rw [nar_i2c c0 h1] at q; exact q
      show Go pP eE bB _ T9 (mkF mM 47 #[.val (.int n), .val (.int c0), .val (.int c1), .val (.ref b)] [])
      refine Go.of (T' := T9) (g' := (mkF mM 48 #[.val (.int n), .val (.int c0), .val (.int c1), .val (.ref b)] [(.ref b)])) (fun _ k => XS.aloadN X9.hh X9.hx rfl (hb hby d0_47) rfl rfl k) ?_
      refine Go.of (T' := T9) (g' := (mkF mM 49 #[.val (.int n), .val (.int c0), .val (.int c1), .val (.ref b)] [(.int (1 : Int32)), (.ref b)])) (fun _ k => XS.iconst X9.hh X9.hx rfl (hb hby d0_48) k) ?_
      refine Go.of (T' := T9) (g' := (mkF mM 50 #[.val (.int n), .val (.int c0), .val (.int c1), .val (.ref b)] [(.int c1), (.int (1 : Int32)), (.ref b)])) (fun _ k => XS.iloadN X9.hh X9.hx rfl (hb hby d0_49) rfl k) ?_
      refine Go.of (T' := T9) (g' := (mkF mM 51 #[.val (.int n), .val (.int c0), .val (.int c1), .val (.ref b)] [(.int (c1.toUInt32.toUInt16.toUInt32.toInt32)), (.int (1 : Int32)), (.ref b)])) (fun _ k => XS.i2c X9.hh X9.hx rfl (hb hby d0_50) rfl k) ?_
      refine X9.stC 1 V_b (by decide) rfl (Nat.le_of_ble_eq_true rfl) (by omega) (Or.inr (by omega)) (hb hby d0_51) ?_
      intro T10 h10 X10 K10 V_b
      have z10 : h9.size ≤ h10.size := K10.1
      have V_b : Arv Z h10 b kc_b .char (2 : Int32) [(.int c0), (.int c1)] (.int (0 : Int32)) := by have q := V_b; rw [nar_i2c c1 h2] at q; exact q
      show Go pP eE bB _ T10 (mkF mM 52 #[.val (.int n), .val (.int c0), .val (.int c1), .val (.ref b)] [])
      refine X10.newO (hw _ (List.mem_of_getElem? (i := 4) rfl)) (hw _ (List.mem_of_getElem? (i := 5) rfl)) (hw _ (List.mem_of_getElem? (i := 6) rfl)) (hb hby d0_52) (by decide) (by decide) ?_
      intro T11 h11 r g_r X11 E11 A_r D_r
      have z11 : h10.size ≤ h11.size := E11.1
      have l_r : r < h11.size := A_r.lt
      have F_value_r : Fld Z h11 r "java/lang/String" "value" "[B" .null := D_r (Or.inr (hw _ (List.mem_of_getElem? (i := 20) rfl))) (ty := (.array .byte)) (by decide)
      have F_coder_r : Fld Z h11 r "java/lang/String" "coder" "B" (.int (0 : Int32)) := D_r (Or.inr (hw _ (List.mem_of_getElem? (i := 21) rfl))) (ty := .byte) (by decide)
      show Go pP eE bB _ T11 (mkF mM 55 #[.val (.int n), .val (.int c0), .val (.int c1), .val (.ref b)] [(.ref r)])
      refine Go.of (T' := T11) (g' := (mkF mM 56 #[.val (.int n), .val (.int c0), .val (.int c1), .val (.ref b)] [(.ref r), (.ref r)])) (fun _ k => XS.dup X11.hh X11.hx rfl (hb hby d0_55) rfl rfl k) ?_
      refine Go.of (T' := T11) (g' := (mkF mM 57 #[.val (.int n), .val (.int c0), .val (.int c1), .val (.ref b)] [(.ref b), (.ref r), (.ref r)])) (fun _ k => XS.aloadN X11.hh X11.hx rfl (hb hby d0_56) rfl rfl k) ?_
      have hp : ∀ c ∈ ([c0, c1] : List Int32), ¬ c < 0 ∧ ¬ (255 : Int32) < c := allI2 h1 h2
      have V_b := (V_b.ext E11)
      refine X11.callCN (W := 1) (argsL := [(.ref b)]) (rest := [(.ref r)]) (nc := 1) (ns := 2) (ws' := [r]) (a := r) rfl (hw _ (List.mem_of_getElem? (i := 8) rfl)) (hw _ (List.mem_of_getElem? (i := 9) rfl)) (hw _ (List.mem_of_getElem? (i := 10) rfl)) (by decide) (fun vm0 hZ => StrChars.Road.backV (s := sS.setVm vm0) (W := 1) hZ hws (kI := 4) (hw _ (List.mem_of_getElem? (i := 5) rfl)) (cs := ([c0, c1] : List Int32)) (bs := ([c0, c1] : List Int32).map (fun c => c.toInt8.toInt32)) (n := 2) (n0 := Z.heap.size) (by omega) (by omega) A_r F_value_r F_coder_r V_b (Sc.ext X11.ext0) hzc rfl rfl (by decide) (by decide) hp rfl (by decide) (by decide)) (fun v h' L q => ⟨q.2.1, q.2.2.1⟩) pd_1 rfl rfl rfl (by rw [hml]; rfl) (by decide) (by decide) (hb hby d0_57) (allS (by omega) all0) (allS (Or.inr (by omega)) all0) (allS (Sfe.mem (List.mem_of_getElem? (i := 0) rfl)) all0) ?_
      intro v12 T12 h12 X12 K12 Q12
      obtain ⟨_, ⟨rfl, -, -, A_r, C_r, t_r, kb_r, gt_r, -, -, V_r, B_r⟩⟩ := Q12
      have z12 : h11.size ≤ h12.size := K12.1
      show Go pP eE bB _ T12 (mkF mM 60 #[.val (.int n), .val (.int c0), .val (.int c1), .val (.ref b)] [(.ref r)])
      have lt_r : t_r < h12.size := B_r.lt
      have St_r : Str Z h12 r t_r kb_r ([c0, c1] : List Int32) := ⟨A_r, V_r, C_r, B_r, hp, Nat.le_of_ble_eq_true rfl⟩
      exact X12.aret hret rfl rfl rfl hlk (by decide) (by decide) (hb hby d0_60) (fun S hS => ⟨r, t_r, kb_r, rfl, by omega, by rw [show chs n c0 c1 = [c0, c1] by simp [chs, hc1, hc17]]; exact St_r⟩)
def Pc (Z : State) (h : Heap) (a s : Addr) (i c t : Int64) : Prop := Exa Z h a "com/example/pathloom/pathloom/model/PathCount" ∧ Fld Z h a "com/example/pathloom/pathloom/model/PathCount" "path" "Ljava/lang/String;" (.ref s) ∧ Fld Z h a "com/example/pathloom/pathloom/model/PathCount" "instances" "J" (.long i) ∧ Fld Z h a "com/example/pathloom/pathloom/model/PathCount" "carriers" "J" (.long c) ∧ Fld Z h a "com/example/pathloom/pathloom/model/PathCount" "structured" "J" (.long t)
theorem Pc.ext {Z : State} {h h' : Heap} {a s : Addr} {i c t : Int64} (F : Pc Z h a s i c t) (E : Ext h h') : Pc Z h' a s i c t := ⟨F.1.ext E, F.2.1.ext E, F.2.2.1.ext E, F.2.2.2.1.ext E, F.2.2.2.2.ext E⟩
theorem Pc.keep {Z : State} {h h' : Heap} {ws : List Addr} {a s : Addr} {i c t : Int64} (F : Pc Z h a s i c t) (K : Keep h h' ws) (q : a ∉ ws) : Pc Z h' a s i c t := ⟨F.1.keep K, F.2.1.keep K q, F.2.2.1.keep K q, F.2.2.2.1.keep K q, F.2.2.2.2.keep K q⟩
def Q_pc_init (Z : State) (a s : Nat) (i c t : Int64) (h0 : Heap) : Option Value → (Addr → Prop) → Heap → Prop := fun v _ h => v = none ∧ Pc Z h a s i c t
theorem ef_pc_init (m : MethodId) (a s : Nat) (i c t : Int64) : entryFrame m #[(.ref a), (.ref s), (.long i), (.long c), (.long t)] 8 = mkF m 0 #[.val (.ref a), .val (.ref s), .val (.long i), .second, .val (.long c), .second, .val (.long t), .second] [] := by first | (simp [entryFrame, mkF, argsToLocals, Value.category]; done) | rfl
set_option maxRecDepth 65536 in
set_option maxHeartbeats 40000000 in
theorem pc_init (l : Launch) (Z : State) (a0 : Array Value) (G : Wld Z a0) (a s : Nat) (i c t : Int64) (h0 : Heap) (E : Exa Z h0 a "com/example/pathloom/pathloom/model/PathCount") (F_path : Fld Z h0 a "com/example/pathloom/pathloom/model/PathCount" "path" "Ljava/lang/String;" .null) (F_instances : Fld Z h0 a "com/example/pathloom/pathloom/model/PathCount" "instances" "J" (.long (0 : Int64))) (F_carriers : Fld Z h0 a "com/example/pathloom/pathloom/model/PathCount" "carriers" "J" (.long (0 : Int64))) (F_structured : Fld Z h0 a "com/example/pathloom/pathloom/model/PathCount" "structured" "J" (.long (0 : Int64))) (ga : Z.heap.size ≤ a) :
    Met l Z consts_1 (⟨"com/example/pathloom/pathloom/model/PathCount", "<init>", "(Ljava/lang/String;JJJ)V"⟩ : MethodName) prog_25_method_1_code 8 none ({ frames := 1, cells := 0, slots := 0, locals := 12 } : Room) #[(.ref a), (.ref s), (.long i), (.long c), (.long t)] h0 [a] [] (Q_pc_init Z a s i c t h0) := by
  have hw := G.1
  have hEL := G.2.1
  refine Met.intro (a0 := a0) hEL pn_2 ?_
  intro pP eE sS mM bB mE cC T0 X0 hml hby hret hnm hlk hs0
  have hz0 : sS.heap.size = h0.size := by rw [hs0]
  have n0 : Z.heap.size ≤ h0.size := X0.ext0.1
  refine Go.cast (ef_pc_init mM a s i c t) ?_
  refine Go.of (T' := T0) (g' := (mkF mM 1 #[.val (.ref a), .val (.ref s), .val (.long i), .second, .val (.long c), .second, .val (.long t), .second] [(.ref a)])) (fun _ k => XS.aloadN X0.hh X0.hx rfl (hb hby d4_0) rfl rfl k) ?_
  refine X0.initO (W := 0) (hw _ (List.mem_of_getElem? (i := 32) rfl)) (hw _ (List.mem_of_getElem? (i := 16) rfl)) (hw _ (List.mem_of_getElem? (i := 17) rfl)) (by rw [hml]; rfl) (hb hby d4_1) (by decide) rfl (by decide) ?_
  intro T1 X1
  show Go pP eE bB _ T1 (mkF mM 4 #[.val (.ref a), .val (.ref s), .val (.long i), .second, .val (.long c), .second, .val (.long t), .second] [])
  refine Go.of (T' := T1) (g' := (mkF mM 5 #[.val (.ref a), .val (.ref s), .val (.long i), .second, .val (.long c), .second, .val (.long t), .second] [(.ref a)])) (fun _ k => XS.aloadN X1.hh X1.hx rfl (hb hby d4_4) rfl rfl k) ?_
  refine Go.of (T' := T1) (g' := (mkF mM 6 #[.val (.ref a), .val (.ref s), .val (.long i), .second, .val (.long c), .second, .val (.long t), .second] [(.ref s), (.ref a)])) (fun _ k => XS.aloadN X1.hh X1.hx rfl (hb hby d4_5) rfl rfl k) ?_
  refine X1.putF (host := "") (Or.inl (hw _ (List.mem_of_getElem? (i := 33) rfl))) Via.refl F_path E (Or.inr ⟨(hw _ (List.mem_of_getElem? (i := 34) rfl)), rfl, hnm⟩) (hw _ (List.mem_of_getElem? (i := 27) rfl)) (ty := (.object "java/lang/String")) (by decide) rfl rfl (by omega) (Or.inl (List.mem_of_getElem? (i := 0) rfl)) (Sfe.exa E) (hb hby d4_6) ?_
  intro T2 h2 X2 K2 W2
  have z2 : h0.size ≤ h2.size := K2.1
  have F_path_a := F_path.same W2
  show Go pP eE bB _ T2 (mkF mM 9 #[.val (.ref a), .val (.ref s), .val (.long i), .second, .val (.long c), .second, .val (.long t), .second] [])
  refine Go.of (T' := T2) (g' := (mkF mM 10 #[.val (.ref a), .val (.ref s), .val (.long i), .second, .val (.long c), .second, .val (.long t), .second] [(.ref a)])) (fun _ k => XS.aloadN X2.hh X2.hx rfl (hb hby d4_9) rfl rfl k) ?_
  refine Go.of (T' := T2) (g' := (mkF mM 11 #[.val (.ref a), .val (.ref s), .val (.long i), .second, .val (.long c), .second, .val (.long t), .second] [(.long i), (.ref a)])) (fun _ k => XS.lloadN X2.hh X2.hx rfl (hb hby d4_10) rfl k) ?_
  have F_instances := (F_instances.other W2 (Or.inr (slot_ne (a0 := a0) (Or.inr (hw _ (List.mem_of_getElem? (i := 36) rfl))) (Or.inr (hw _ (List.mem_of_getElem? (i := 34) rfl))) (by decide) (t := .long) (t' := (.object "java/lang/String")) (by decide) (by decide))))
  have E := (E.keep K2)
  refine X2.putF (host := "") (Or.inl (hw _ (List.mem_of_getElem? (i := 35) rfl))) Via.refl F_instances E (Or.inr ⟨(hw _ (List.mem_of_getElem? (i := 36) rfl)), rfl, hnm⟩) (hw _ (List.mem_of_getElem? (i := 27) rfl)) (ty := .long) (by decide) rfl rfl (by omega) (Or.inl (List.mem_of_getElem? (i := 0) rfl)) (Sfe.exa E) (hb hby d4_11) ?_
  intro T3 h3 X3 K3 W3
  have z3 : h2.size ≤ h3.size := K3.1
  have F_instances_a := F_instances.same W3
  show Go pP eE bB _ T3 (mkF mM 14 #[.val (.ref a), .val (.ref s), .val (.long i), .second, .val (.long c), .second, .val (.long t), .second] [])
  refine Go.of (T' := T3) (g' := (mkF mM 15 #[.val (.ref a), .val (.ref s), .val (.long i), .second, .val (.long c), .second, .val (.long t), .second] [(.ref a)])) (fun _ k => XS.aloadN X3.hh X3.hx rfl (hb hby d4_14) rfl rfl k) ?_
  refine Go.of (T' := T3) (g' := (mkF mM 17 #[.val (.ref a), .val (.ref s), .val (.long i), .second, .val (.long c), .second, .val (.long t), .second] [(.long c), (.ref a)])) (fun _ k => XS.lload X3.hh X3.hx rfl (hb hby d4_15) rfl k) ?_
  have F_carriers := ((F_carriers.other W2 (Or.inr (slot_ne (a0 := a0) (Or.inr (hw _ (List.mem_of_getElem? (i := 38) rfl))) (Or.inr (hw _ (List.mem_of_getElem? (i := 34) rfl))) (by decide) (t := .long) (t' := (.object "java/lang/String")) (by decide) (by decide)))).other W3 (Or.inr (slot_ne (a0 := a0) (Or.inr (hw _ (List.mem_of_getElem? (i := 38) rfl))) (Or.inr (hw _ (List.mem_of_getElem? (i := 36) rfl))) (by decide) (t := .long) (t' := .long) (by decide) (by decide))))
  have E := (E.keep K3)
  refine X3.putF (host := "") (Or.inl (hw _ (List.mem_of_getElem? (i := 37) rfl))) Via.refl F_carriers E (Or.inr ⟨(hw _ (List.mem_of_getElem? (i := 38) rfl)), rfl, hnm⟩) (hw _ (List.mem_of_getElem? (i := 27) rfl)) (ty := .long) (by decide) rfl rfl (by omega) (Or.inl (List.mem_of_getElem? (i := 0) rfl)) (Sfe.exa E) (hb hby d4_17) ?_
  intro T4 h4 X4 K4 W4
  have z4 : h3.size ≤ h4.size := K4.1
  have F_carriers_a := F_carriers.same W4
  show Go pP eE bB _ T4 (mkF mM 20 #[.val (.ref a), .val (.ref s), .val (.long i), .second, .val (.long c), .second, .val (.long t), .second] [])
  refine Go.of (T' := T4) (g' := (mkF mM 21 #[.val (.ref a), .val (.ref s), .val (.long i), .second, .val (.long c), .second, .val (.long t), .second] [(.ref a)])) (fun _ k => XS.aloadN X4.hh X4.hx rfl (hb hby d4_20) rfl rfl k) ?_
  refine Go.of (T' := T4) (g' := (mkF mM 23 #[.val (.ref a), .val (.ref s), .val (.long i), .second, .val (.long c), .second, .val (.long t), .second] [(.long t), (.ref a)])) (fun _ k => XS.lload X4.hh X4.hx rfl (hb hby d4_21) rfl k) ?_
  have F_structured := (((F_structured.other W2 (Or.inr (slot_ne (a0 := a0) (Or.inr (hw _ (List.mem_of_getElem? (i := 40) rfl))) (Or.inr (hw _ (List.mem_of_getElem? (i := 34) rfl))) (by decide) (t := .long) (t' := (.object "java/lang/String")) (by decide) (by decide)))).other W3 (Or.inr (slot_ne (a0 := a0) (Or.inr (hw _ (List.mem_of_getElem? (i := 40) rfl))) (Or.inr (hw _ (List.mem_of_getElem? (i := 36) rfl))) (by decide) (t := .long) (t' := .long) (by decide) (by decide)))).other W4 (Or.inr (slot_ne (a0 := a0) (Or.inr (hw _ (List.mem_of_getElem? (i := 40) rfl))) (Or.inr (hw _ (List.mem_of_getElem? (i := 38) rfl))) (by decide) (t := .long) (t' := .long) (by decide) (by decide))))
  have E := (E.keep K4)
  refine X4.putF (host := "") (Or.inl (hw _ (List.mem_of_getElem? (i := 39) rfl))) Via.refl F_structured E (Or.inr ⟨(hw _ (List.mem_of_getElem? (i := 40) rfl)), rfl, hnm⟩) (hw _ (List.mem_of_getElem? (i := 27) rfl)) (ty := .long) (by decide) rfl rfl (by omega) (Or.inl (List.mem_of_getElem? (i := 0) rfl)) (Sfe.exa E) (hb hby d4_23) ?_
  intro T5 h5 X5 K5 W5
  have z5 : h4.size ≤ h5.size := K5.1
  have F_structured_a := F_structured.same W5
  show Go pP eE bB _ T5 (mkF mM 26 #[.val (.ref a), .val (.ref s), .val (.long i), .second, .val (.long c), .second, .val (.long t), .second] [])
  have E := (E.keep K5)
  have F_path_a := (((F_path_a.other W3 (Or.inr (slot_ne (a0 := a0) (Or.inr (hw _ (List.mem_of_getElem? (i := 34) rfl))) (Or.inr (hw _ (List.mem_of_getElem? (i := 36) rfl))) (by decide) (t := (.object "java/lang/String")) (t' := .long) (by decide) (by decide)))).other W4 (Or.inr (slot_ne (a0 := a0) (Or.inr (hw _ (List.mem_of_getElem? (i := 34) rfl))) (Or.inr (hw _ (List.mem_of_getElem? (i := 38) rfl))) (by decide) (t := (.object "java/lang/String")) (t' := .long) (by decide) (by decide)))).other W5 (Or.inr (slot_ne (a0 := a0) (Or.inr (hw _ (List.mem_of_getElem? (i := 34) rfl))) (Or.inr (hw _ (List.mem_of_getElem? (i := 40) rfl))) (by decide) (t := (.object "java/lang/String")) (t' := .long) (by decide) (by decide))))
  have F_instances_a := ((F_instances_a.other W4 (Or.inr (slot_ne (a0 := a0) (Or.inr (hw _ (List.mem_of_getElem? (i := 36) rfl))) (Or.inr (hw _ (List.mem_of_getElem? (i := 38) rfl))) (by decide) (t := .long) (t' := .long) (by decide) (by decide)))).other W5 (Or.inr (slot_ne (a0 := a0) (Or.inr (hw _ (List.mem_of_getElem? (i := 36) rfl))) (Or.inr (hw _ (List.mem_of_getElem? (i := 40) rfl))) (by decide) (t := .long) (t' := .long) (by decide) (by decide))))
  have F_carriers_a := (F_carriers_a.other W5 (Or.inr (slot_ne (a0 := a0) (Or.inr (hw _ (List.mem_of_getElem? (i := 38) rfl))) (Or.inr (hw _ (List.mem_of_getElem? (i := 40) rfl))) (by decide) (t := .long) (t' := .long) (by decide) (by decide))))
  exact X5.vret hret hlk (by decide) (by decide) (hb hby d4_26) (fun S hS => ⟨rfl, E, F_path_a, F_instances_a, F_carriers_a, F_structured_a⟩)
def Q_eq_null (Z : State) (a : Nat) (h0 : Heap) : Option Value → (Addr → Prop) → Heap → Prop := fun v _ h => v = some (.int 0) ∧ h = h0
theorem ef_eq_null (m : MethodId) (a : Nat) : entryFrame m #[(.ref a), .null] 3 = mkF m 0 #[.val (.ref a), .val .null, .unset] [] := by first | (simp [entryFrame, mkF, argsToLocals, Value.category]; done) | rfl
set_option maxRecDepth 65536 in
set_option maxHeartbeats 40000000 in
theorem eq_null (l : Launch) (Z : State) (a0 : Array Value) (G : Wld Z a0) (a : Nat) (h0 : Heap)  :
    Met l Z consts_1 (⟨"com/example/pathloom/pathloom/model/PathCount", "equals", "(Ljava/lang/Object;)Z"⟩ : MethodName) prog_25_method_7_code 3 (some .boolean) ({ frames := 0, cells := 0, slots := 0, locals := 0 } : Room) #[(.ref a), .null] h0 [] [] (Q_eq_null Z a h0) := by
  have hw := G.1
  have hEL := G.2.1
  refine Met.intro (a0 := a0) hEL pn_2 ?_
  intro pP eE sS mM bB mE cC T0 X0 hml hby hret hnm hlk hs0
  have hz0 : sS.heap.size = h0.size := by rw [hs0]
  have n0 : Z.heap.size ≤ h0.size := X0.ext0.1
  refine Go.cast (ef_eq_null mM a) ?_
  refine Go.of (T' := T0) (g' := (mkF mM 1 #[.val (.ref a), .val .null, .unset] [.null])) (fun _ k => XS.aloadN X0.hh X0.hx rfl (hb hby d5_0) rfl rfl k) ?_
  refine X0.instNull (hb hby d5_1) ?_
  show Go pP eE bB _ T0 (mkF mM 4 #[.val (.ref a), .val .null, .unset] [(.int (0 : Int32))])
  refine Go.of (T' := T0) (g' := (mkF mM 66 #[.val (.ref a), .val .null, .unset] [])) (fun _ k => XS.ifYes X0.hh X0.hx rfl (pc0 := 4) (pc' := 66) rfl (hb hby d5_4) rfl ((if0 _ _).trans (teq rfl).1) (by decide) (by decide) k) ?_
  refine Go.of (T' := T0) (g' := (mkF mM 67 #[.val (.ref a), .val .null, .unset] [(.int (0 : Int32))])) (fun _ k => XS.iconst X0.hh X0.hx rfl (hb hby d5_66) k) ?_
  exact X0.nret (t := .boolean) hret (by simp) hlk (by decide) (by decide) (hb hby d5_67) (fun S hS => ⟨rfl, rfl⟩)
def Q_eq_str (Z : State) (a q : Nat) (h0 : Heap) : Option Value → (Addr → Prop) → Heap → Prop := fun v _ h => v = some (.int 0) ∧ h = h0
theorem ef_eq_str (m : MethodId) (a q : Nat) : entryFrame m #[(.ref a), (.ref q)] 3 = mkF m 0 #[.val (.ref a), .val (.ref q), .unset] [] := by first | (simp [entryFrame, mkF, argsToLocals, Value.category]; done) | rfl
set_option maxRecDepth 65536 in
set_option maxHeartbeats 40000000 in
theorem eq_str (l : Launch) (Z : State) (a0 : Array Value) (G : Wld Z a0) (a q : Nat) (h0 : Heap) (E : Exa Z h0 q "java/lang/String") :
    Met l Z consts_1 (⟨"com/example/pathloom/pathloom/model/PathCount", "equals", "(Ljava/lang/Object;)Z"⟩ : MethodName) prog_25_method_7_code 3 (some .boolean) ({ frames := 0, cells := 0, slots := 0, locals := 0 } : Room) #[(.ref a), (.ref q)] h0 [] [] (Q_eq_str Z a q h0) := by
  have hw := G.1
  have hEL := G.2.1
  refine Met.intro (a0 := a0) hEL pn_2 ?_
  intro pP eE sS mM bB mE cC T0 X0 hml hby hret hnm hlk hs0
  have hz0 : sS.heap.size = h0.size := by rw [hs0]
  have n0 : Z.heap.size ≤ h0.size := X0.ext0.1
  refine Go.cast (ef_eq_str mM a q) ?_
  refine Go.of (T' := T0) (g' := (mkF mM 1 #[.val (.ref a), .val (.ref q), .unset] [(.ref q)])) (fun _ k => XS.aloadN X0.hh X0.hx rfl (hb hby d5_0) rfl rfl k) ?_
  refine X0.instNo (hw _ (List.mem_of_getElem? (i := 46) rfl)) E (no_cast (hw _ (List.mem_of_getElem? (i := 69) rfl)) (hw _ (List.mem_of_getElem? (i := 70) rfl)) (hw _ (List.mem_of_getElem? (i := 27) rfl)) (by decide) (by decide)) (hb hby d5_1) ?_
  intro T1 X1
  show Go pP eE bB _ T1 (mkF mM 4 #[.val (.ref a), .val (.ref q), .unset] [(.int (0 : Int32))])
  refine Go.of (T' := T1) (g' := (mkF mM 66 #[.val (.ref a), .val (.ref q), .unset] [])) (fun _ k => XS.ifYes X1.hh X1.hx rfl (pc0 := 4) (pc' := 66) rfl (hb hby d5_4) rfl ((if0 _ _).trans (teq rfl).1) (by decide) (by decide) k) ?_
  refine Go.of (T' := T1) (g' := (mkF mM 67 #[.val (.ref a), .val (.ref q), .unset] [(.int (0 : Int32))])) (fun _ k => XS.iconst X1.hh X1.hx rfl (hb hby d5_66) k) ?_
  exact X1.nret (t := .boolean) hret (by simp) hlk (by decide) (by decide) (hb hby d5_67) (fun S hS => ⟨rfl, rfl⟩)
def Q_eq_pc (Z : State) (a b s1 s2 t1 t2 : Nat) (k1 k2 : ClassId) (cs ds : List Int32) (i c t i' c' t' : Int64) (h0 : Heap) : Option Value → (Addr → Prop) → Heap → Prop := fun v _ h => ((v = some (.int 1) ∧ (cs = ds ∧ i = i' ∧ c = c' ∧ t = t')) ∨ (v = some (.int 0) ∧ ¬ (cs = ds ∧ i = i' ∧ c = c' ∧ t = t'))) ∧ h = h0
theorem ef_eq_pc (m : MethodId) (a b s1 s2 t1 t2 : Nat) (k1 k2 : ClassId) (cs ds : List Int32) (i c t i' c' t' : Int64) : entryFrame m #[(.ref a), (.ref b)] 3 = mkF m 0 #[.val (.ref a), .val (.ref b), .unset] [] := by first | (simp [entryFrame, mkF, argsToLocals, Value.category]; done) | rfl
set_option maxRecDepth 65536 in
set_option maxHeartbeats 40000000 in
theorem eq_pc (l : Launch) (Z : State) (a0 : Array Value) (G : Wld Z a0) (a b s1 s2 t1 t2 : Nat) (k1 k2 : ClassId) (cs ds : List Int32) (i c t i' c' t' : Int64) (h0 : Heap) (Pa : Pc Z h0 a s1 i c t) (Pb : Pc Z h0 b s2 i' c' t') (S1 : Str Z h0 s1 t1 k1 cs) (S2 : Str Z h0 s2 t2 k2 ds) :
    Met l Z consts_1 (⟨"com/example/pathloom/pathloom/model/PathCount", "equals", "(Ljava/lang/Object;)Z"⟩ : MethodName) prog_25_method_7_code 3 (some .boolean) ({ frames := 2, cells := 0, slots := 0, locals := 28 } : Room) #[(.ref a), (.ref b)] h0 [] [] (Q_eq_pc Z a b s1 s2 t1 t2 k1 k2 cs ds i c t i' c' t' h0) := by
  have hw := G.1
  have hEL := G.2.1
  refine Met.intro (a0 := a0) hEL pn_2 ?_
  intro pP eE sS mM bB mE cC T0 X0 hml hby hret hnm hlk hs0
  have hz0 : sS.heap.size = h0.size := by rw [hs0]
  have n0 : Z.heap.size ≤ h0.size := X0.ext0.1
  refine Go.cast (ef_eq_pc mM a b s1 s2 t1 t2 k1 k2 cs ds i c t i' c' t') ?_
  obtain ⟨zc, Sc, hzc⟩ := G.2.2.1
  have heq : ∀ d ∈ StrChars.Road.wordsEq, d.before a0 Z = true := fun d hd => hw d ((by decide +kernel : ∀ d ∈ StrChars.Road.wordsEq, d ∈ tables_1) d hd)
  obtain ⟨Ea, Fa1, Fa2, Fa3, Fa4⟩ := Pa
  obtain ⟨Eb, Fb1, Fb2, Fb3, Fb4⟩ := Pb
  refine Go.of (T' := T0) (g' := (mkF mM 1 #[.val (.ref a), .val (.ref b), .unset] [(.ref b)])) (fun _ k => XS.aloadN X0.hh X0.hx rfl (hb hby d5_0) rfl rfl k) ?_
  refine X0.instY (hw _ (List.mem_of_getElem? (i := 46) rfl)) (Ins.self Eb) (hb hby d5_1) ?_
  intro T1 X1
  show Go pP eE bB _ T1 (mkF mM 4 #[.val (.ref a), .val (.ref b), .unset] [(.int (1 : Int32))])
  refine Go.of (T' := T1) (g' := (mkF mM 7 #[.val (.ref a), .val (.ref b), .unset] [])) (fun _ k => XS.ifNo X1.hh X1.hx rfl (hb hby d5_4) rfl ((if0 _ _).trans (feq (by decide)).1) k) ?_
  refine Go.of (T' := T1) (g' := (mkF mM 8 #[.val (.ref a), .val (.ref b), .unset] [(.ref b)])) (fun _ k => XS.aloadN X1.hh X1.hx rfl (hb hby d5_7) rfl rfl k) ?_
  refine X1.castY (hw _ (List.mem_of_getElem? (i := 46) rfl)) (Ins.self Eb) (hb hby d5_8) ?_
  intro T2 X2
  show Go pP eE bB _ T2 (mkF mM 11 #[.val (.ref a), .val (.ref b), .unset] [(.ref b)])
  refine Go.of (T' := T2) (g' := (mkF mM 12 #[.val (.ref a), .val (.ref b), .val (.ref b)] [])) (fun _ k => XS.astoreN X2.hh X2.hx rfl (hb hby d5_11) rfl rfl (l' := #[.val (.ref a), .val (.ref b), .val (.ref b)]) rfl k) ?_
  refine Go.of (T' := T2) (g' := (mkF mM 13 #[.val (.ref a), .val (.ref b), .val (.ref b)] [(.ref a)])) (fun _ k => XS.aloadN X2.hh X2.hx rfl (hb hby d5_12) rfl rfl k) ?_
  refine X2.getF (host := "") (Or.inl (hw _ (List.mem_of_getElem? (i := 33) rfl))) Via.refl Fa1 (hb hby d5_13) ?_
  intro T3 X3
  show Go pP eE bB _ T3 (mkF mM 16 #[.val (.ref a), .val (.ref b), .val (.ref b)] [(.ref s1)])
  refine Go.of (T' := T3) (g' := (mkF mM 17 #[.val (.ref a), .val (.ref b), .val (.ref b)] [(.ref b), (.ref s1)])) (fun _ k => XS.aloadN X3.hh X3.hx rfl (hb hby d5_16) rfl rfl k) ?_
  refine X3.getF (host := "") (Or.inl (hw _ (List.mem_of_getElem? (i := 33) rfl))) Via.refl Fb1 (hb hby d5_17) ?_
  intro T4 X4
  show Go pP eE bB _ T4 (mkF mM 20 #[.val (.ref a), .val (.ref b), .val (.ref b)] [(.ref s2), (.ref s1)])
  refine X4.callVN (W := 0) (argsL := [(.ref s2)]) (rest := []) (nc := 0) (ns := 0) (ws' := []) (Qn := fun v h' L => ((v = some (.int 1) ∧ cs = ds) ∨ (v = some (.int 0) ∧ ¬ cs = ds)) ∧ L = [] ∧ h' = h0) (a := s1) (C := "java/lang/String") (z := (⟨"java/lang/String", "equals", "(Ljava/lang/Object;)Z"⟩ : MethodName)) (hw _ (List.mem_of_getElem? (i := 48) rfl)) (hw _ (List.mem_of_getElem? (i := 49) rfl)) (fun _ q => notFace_of_selects (args := #[]) (mvT q (hw _ (List.mem_of_getElem? (i := 51) rfl)))) (hw _ (List.mem_of_getElem? (i := 51) rfl)) (hw _ (List.mem_of_getElem? (i := 50) rfl)) (by decide) (fun vm0 hZ => StrChars.Road.eqW (s := sS.setVm vm0) (W := 0) hZ heq (kI := 4) (hw _ (List.mem_of_getElem? (i := 5) rfl)) S1.1 S1.2.1 S1.2.2.1 S1.2.2.2.1 (StrChars.Road.codOf rfl fun c hc => (S1.2.2.2.2.1 c hc).2) S1.up S1.2.2.2.2.2 S2.1 S2.2.1 S2.2.2.1 S2.2.2.2.1 (StrChars.Road.codOf rfl fun c hc => (S2.2.2.2.2.1 c hc).2) S2.up S2.2.2.2.2.2 (Sc.ext X4.ext0) hzc (by decide) (by decide)) (fun v h' L q => by obtain ⟨-, rfl, rfl⟩ := q; exact ⟨Fr.nil _, Keep.refl _ _⟩) S1.1 pd_2 rfl rfl rfl (by rw [hml]; rfl) (by decide) (by decide) (hb hby d5_20) all0 all0 all0 ?_
  intro v5 T5 h5 X5 K5 Q5
  obtain ⟨_, hv5, -, e5⟩ := Q5
  rw [e5] at X5
  rcases hv5 with ⟨rfl, hcs⟩ | ⟨rfl, hcs⟩
  · show Go pP eE bB _ T5 (mkF mM 23 #[.val (.ref a), .val (.ref b), .val (.ref b)] [(.int (1 : Int32))])
    refine Go.of (T' := T5) (g' := (mkF mM 26 #[.val (.ref a), .val (.ref b), .val (.ref b)] [])) (fun _ k => XS.ifNo X5.hh X5.hx rfl (hb hby d5_23) rfl ((if0 _ _).trans (feq (by decide)).1) k) ?_
    refine Go.of (T' := T5) (g' := (mkF mM 27 #[.val (.ref a), .val (.ref b), .val (.ref b)] [(.ref a)])) (fun _ k => XS.aloadN X5.hh X5.hx rfl (hb hby d5_26) rfl rfl k) ?_
    refine X5.getF (host := "") (Or.inl (hw _ (List.mem_of_getElem? (i := 35) rfl))) Via.refl Fa2 (hb hby d5_27) ?_
    intro T6 X6
    show Go pP eE bB _ T6 (mkF mM 30 #[.val (.ref a), .val (.ref b), .val (.ref b)] [(.long i)])
    refine Go.of (T' := T6) (g' := (mkF mM 31 #[.val (.ref a), .val (.ref b), .val (.ref b)] [(.ref b), (.long i)])) (fun _ k => XS.aloadN X6.hh X6.hx rfl (hb hby d5_30) rfl rfl k) ?_
    refine X6.getF (host := "") (Or.inl (hw _ (List.mem_of_getElem? (i := 35) rfl))) Via.refl Fb2 (hb hby d5_31) ?_
    intro T7 X7
    show Go pP eE bB _ T7 (mkF mM 34 #[.val (.ref a), .val (.ref b), .val (.ref b)] [(.long i'), (.long i)])
    refine Go.of (T' := T7) (g' := (mkF mM 35 #[.val (.ref a), .val (.ref b), .val (.ref b)] [(.int (lcmpW i i'))])) (fun _ k => XS.lcmp X7.hh X7.hx rfl (hb hby d5_34) rfl k) ?_
    by_cases hc35 : (lcmpW i i') = (0 : Int32)
    · refine Go.of (T' := T7) (g' := (mkF mM 38 #[.val (.ref a), .val (.ref b), .val (.ref b)] [])) (fun _ k => XS.ifNo X7.hh X7.hx rfl (hb hby d5_35) rfl ((if0 _ _).trans (teq hc35).2) k) ?_
      refine Go.of (T' := T7) (g' := (mkF mM 39 #[.val (.ref a), .val (.ref b), .val (.ref b)] [(.ref a)])) (fun _ k => XS.aloadN X7.hh X7.hx rfl (hb hby d5_38) rfl rfl k) ?_
      refine X7.getF (host := "") (Or.inl (hw _ (List.mem_of_getElem? (i := 37) rfl))) Via.refl Fa3 (hb hby d5_39) ?_
      intro T8 X8
      show Go pP eE bB _ T8 (mkF mM 42 #[.val (.ref a), .val (.ref b), .val (.ref b)] [(.long c)])
      refine Go.of (T' := T8) (g' := (mkF mM 43 #[.val (.ref a), .val (.ref b), .val (.ref b)] [(.ref b), (.long c)])) (fun _ k => XS.aloadN X8.hh X8.hx rfl (hb hby d5_42) rfl rfl k) ?_
      refine X8.getF (host := "") (Or.inl (hw _ (List.mem_of_getElem? (i := 37) rfl))) Via.refl Fb3 (hb hby d5_43) ?_
      intro T9 X9
      show Go pP eE bB _ T9 (mkF mM 46 #[.val (.ref a), .val (.ref b), .val (.ref b)] [(.long c'), (.long c)])
      refine Go.of (T' := T9) (g' := (mkF mM 47 #[.val (.ref a), .val (.ref b), .val (.ref b)] [(.int (lcmpW c c'))])) (fun _ k => XS.lcmp X9.hh X9.hx rfl (hb hby d5_46) rfl k) ?_
      by_cases hc47 : (lcmpW c c') = (0 : Int32)
      · refine Go.of (T' := T9) (g' := (mkF mM 50 #[.val (.ref a), .val (.ref b), .val (.ref b)] [])) (fun _ k => XS.ifNo X9.hh X9.hx rfl (hb hby d5_47) rfl ((if0 _ _).trans (teq hc47).2) k) ?_
        refine Go.of (T' := T9) (g' := (mkF mM 51 #[.val (.ref a), .val (.ref b), .val (.ref b)] [(.ref a)])) (fun _ k => XS.aloadN X9.hh X9.hx rfl (hb hby d5_50) rfl rfl k) ?_
        refine X9.getF (host := "") (Or.inl (hw _ (List.mem_of_getElem? (i := 39) rfl))) Via.refl Fa4 (hb hby d5_51) ?_
        intro T10 X10
        show Go pP eE bB _ T10 (mkF mM 54 #[.val (.ref a), .val (.ref b), .val (.ref b)] [(.long t)])
        refine Go.of (T' := T10) (g' := (mkF mM 55 #[.val (.ref a), .val (.ref b), .val (.ref b)] [(.ref b), (.long t)])) (fun _ k => XS.aloadN X10.hh X10.hx rfl (hb hby d5_54) rfl rfl k) ?_
        refine X10.getF (host := "") (Or.inl (hw _ (List.mem_of_getElem? (i := 39) rfl))) Via.refl Fb4 (hb hby d5_55) ?_
        intro T11 X11
        show Go pP eE bB _ T11 (mkF mM 58 #[.val (.ref a), .val (.ref b), .val (.ref b)] [(.long t'), (.long t)])
        refine Go.of (T' := T11) (g' := (mkF mM 59 #[.val (.ref a), .val (.ref b), .val (.ref b)] [(.int (lcmpW t t'))])) (fun _ k => XS.lcmp X11.hh X11.hx rfl (hb hby d5_58) rfl k) ?_
        by_cases hc59 : (lcmpW t t') = (0 : Int32)
        · refine Go.of (T' := T11) (g' := (mkF mM 62 #[.val (.ref a), .val (.ref b), .val (.ref b)] [])) (fun _ k => XS.ifNo X11.hh X11.hx rfl (hb hby d5_59) rfl ((if0 _ _).trans (teq hc59).2) k) ?_
          refine Go.of (T' := T11) (g' := (mkF mM 63 #[.val (.ref a), .val (.ref b), .val (.ref b)] [(.int (1 : Int32))])) (fun _ k => XS.iconst X11.hh X11.hx rfl (hb hby d5_62) k) ?_
          refine Go.of (T' := T11) (g' := (mkF mM 67 #[.val (.ref a), .val (.ref b), .val (.ref b)] [(.int (1 : Int32))])) (fun _ k => XS.goto X11.hh X11.hx rfl (pc0 := 63) (pc' := 67) rfl (hb hby d5_63) (by decide) (by decide) k) ?_
          exact X11.nret (t := .boolean) hret (by simp) hlk (by decide) (by decide) (hb hby d5_67) (fun S hS => ⟨Or.inl ⟨rfl, hcs, (lw_eq _ _).mp hc35, (lw_eq _ _).mp hc47, (lw_eq _ _).mp hc59⟩, rfl⟩)
        · refine Go.of (T' := T11) (g' := (mkF mM 66 #[.val (.ref a), .val (.ref b), .val (.ref b)] [])) (fun _ k => XS.ifYes X11.hh X11.hx rfl (pc0 := 59) (pc' := 66) rfl (hb hby d5_59) rfl ((if0 _ _).trans (feq hc59).2) (by decide) (by decide) k) ?_
          refine Go.of (T' := T11) (g' := (mkF mM 67 #[.val (.ref a), .val (.ref b), .val (.ref b)] [(.int (0 : Int32))])) (fun _ k => XS.iconst X11.hh X11.hx rfl (hb hby d5_66) k) ?_
          exact X11.nret (t := .boolean) hret (by simp) hlk (by decide) (by decide) (hb hby d5_67) (fun S hS => ⟨Or.inr ⟨rfl, fun q => hc59 ((lw_eq _ _).mpr q.2.2.2)⟩, rfl⟩)
      · refine Go.of (T' := T9) (g' := (mkF mM 66 #[.val (.ref a), .val (.ref b), .val (.ref b)] [])) (fun _ k => XS.ifYes X9.hh X9.hx rfl (pc0 := 47) (pc' := 66) rfl (hb hby d5_47) rfl ((if0 _ _).trans (feq hc47).2) (by decide) (by decide) k) ?_
        refine Go.of (T' := T9) (g' := (mkF mM 67 #[.val (.ref a), .val (.ref b), .val (.ref b)] [(.int (0 : Int32))])) (fun _ k => XS.iconst X9.hh X9.hx rfl (hb hby d5_66) k) ?_
        exact X9.nret (t := .boolean) hret (by simp) hlk (by decide) (by decide) (hb hby d5_67) (fun S hS => ⟨Or.inr ⟨rfl, fun q => hc47 ((lw_eq _ _).mpr q.2.2.1)⟩, rfl⟩)
    · refine Go.of (T' := T7) (g' := (mkF mM 66 #[.val (.ref a), .val (.ref b), .val (.ref b)] [])) (fun _ k => XS.ifYes X7.hh X7.hx rfl (pc0 := 35) (pc' := 66) rfl (hb hby d5_35) rfl ((if0 _ _).trans (feq hc35).2) (by decide) (by decide) k) ?_
      refine Go.of (T' := T7) (g' := (mkF mM 67 #[.val (.ref a), .val (.ref b), .val (.ref b)] [(.int (0 : Int32))])) (fun _ k => XS.iconst X7.hh X7.hx rfl (hb hby d5_66) k) ?_
      exact X7.nret (t := .boolean) hret (by simp) hlk (by decide) (by decide) (hb hby d5_67) (fun S hS => ⟨Or.inr ⟨rfl, fun q => hc35 ((lw_eq _ _).mpr q.2.1)⟩, rfl⟩)
  · show Go pP eE bB _ T5 (mkF mM 23 #[.val (.ref a), .val (.ref b), .val (.ref b)] [(.int (0 : Int32))])
    refine Go.of (T' := T5) (g' := (mkF mM 66 #[.val (.ref a), .val (.ref b), .val (.ref b)] [])) (fun _ k => XS.ifYes X5.hh X5.hx rfl (pc0 := 23) (pc' := 66) rfl (hb hby d5_23) rfl ((if0 _ _).trans (teq rfl).1) (by decide) (by decide) k) ?_
    refine Go.of (T' := T5) (g' := (mkF mM 67 #[.val (.ref a), .val (.ref b), .val (.ref b)] [(.int (0 : Int32))])) (fun _ k => XS.iconst X5.hh X5.hx rfl (hb hby d5_66) k) ?_
    exact X5.nret (t := .boolean) hret (by simp) hlk (by decide) (by decide) (hb hby d5_67) (fun S hS => ⟨Or.inr ⟨rfl, fun q => hcs q.1⟩, rfl⟩)
def Q_law_rm  : Option Value → (Addr → Prop) → Heap → Prop := fun v _ h => v = some (.int 1)
theorem ef_law_rm (m : MethodId) (ch sel : Int32) (a b c xx : Int64) : entryFrame m #[(.int ch), (.int sel), (.long a), (.long b), (.long c), (.long xx)] 30 = mkF m 0 #[.val (.int ch), .val (.int sel), .val (.long a), .second, .val (.long b), .second, .val (.long c), .second, .val (.long xx), .second, .unset, .unset, .unset, .unset, .unset, .unset, .unset, .unset, .unset, .unset, .unset, .unset, .unset, .unset, .unset, .unset, .unset, .unset, .unset, .unset] [] := by first | (simp [entryFrame, mkF, argsToLocals, Value.category]; done) | rfl
set_option maxRecDepth 65536 in
set_option maxHeartbeats 40000000 in
theorem law_rm (l : Launch) (Z : State) (a0 : Array Value) (G : Wld Z a0) (ch sel : Int32) (a b c xx : Int64) (h0 : Heap)  :
    Met l Z consts_1 x code maxLocals ret room_1 #[(.int ch), (.int sel), (.long a), (.long b), (.long c), (.long xx)] h0 [] [] (Q_law_rm ) := by
  have hw := G.1
  have hEL := G.2.1
  refine Met.intro (a0 := a0) hEL pn_1 ?_
  intro pP eE sS mM bB mE cC T0 X0 hml hby hret hnm hlk hs0
  have hz0 : sS.heap.size = h0.size := by rw [hs0]
  have n0 : Z.heap.size ≤ h0.size := X0.ext0.1
  refine Go.cast (ef_law_rm mM ch sel a b c xx) ?_
  refine Go.of (T' := T0) (g' := (mkF mM 1 #[.val (.int ch), .val (.int sel), .val (.long a), .second, .val (.long b), .second, .val (.long c), .second, .val (.long xx), .second, .unset, .unset, .unset, .unset, .unset, .unset, .unset, .unset, .unset, .unset, .unset, .unset, .unset, .unset, .unset, .unset, .unset, .unset, .unset, .unset] [(.int sel)])) (fun _ k => XS.iloadN X0.hh X0.hx rfl (hb hby at_0) rfl k) ?_
  refine Go.of (T' := T0) (g' := (mkF mM 2 #[.val (.int ch), .val (.int sel), .val (.long a), .second, .val (.long b), .second, .val (.long c), .second, .val (.long xx), .second, .unset, .unset, .unset, .unset, .unset, .unset, .unset, .unset, .unset, .unset, .unset, .unset, .unset, .unset, .unset, .unset, .unset, .unset, .unset, .unset] [(.int (3 : Int32)), (.int sel)])) (fun _ k => XS.iconst X0.hh X0.hx rfl (hb hby at_1) k) ?_
  refine Go.of (T' := T0) (g' := (mkF mM 3 #[.val (.int ch), .val (.int sel), .val (.long a), .second, .val (.long b), .second, .val (.long c), .second, .val (.long xx), .second, .unset, .unset, .unset, .unset, .unset, .unset, .unset, .unset, .unset, .unset, .unset, .unset, .unset, .unset, .unset, .unset, .unset, .unset, .unset, .unset] [(.int (sel &&& (3 : Int32)))])) (fun _ k => XS.iand X0.hh X0.hx rfl (hb hby at_2) rfl k) ?_
  refine Go.of (T' := T0) (g' := (mkF mM 4 #[.val (.int ch), .val (.int sel), .val (.long a), .second, .val (.long b), .second, .val (.long c), .second, .val (.long xx), .second, .unset, .unset, .unset, .unset, .unset, .unset, .unset, .unset, .unset, .unset, .unset, .unset, .unset, .unset, .unset, .unset, .unset, .unset, .unset, .unset] [(.int (3 : Int32)), (.int (sel &&& (3 : Int32)))])) (fun _ k => XS.iconst X0.hh X0.hx rfl (hb hby at_3) k) ?_
  refine X0.irem (hb hby at_4) (by decide) ?_
  show Go pP eE bB _ T0 (mkF mM 5 #[.val (.int ch), .val (.int sel), .val (.long a), .second, .val (.long b), .second, .val (.long c), .second, .val (.long xx), .second, .unset, .unset, .unset, .unset, .unset, .unset, .unset, .unset, .unset, .unset, .unset, .unset, .unset, .unset, .unset, .unset, .unset, .unset, .unset, .unset] [(.int ((sel &&& (3 : Int32)) % (3 : Int32)))])
  refine Go.of (T' := T0) (g' := (mkF mM 7 #[.val (.int ch), .val (.int sel), .val (.long a), .second, .val (.long b), .second, .val (.long c), .second, .val (.long xx), .second, .val (.int ((sel &&& (3 : Int32)) % (3 : Int32))), .unset, .unset, .unset, .unset, .unset, .unset, .unset, .unset, .unset, .unset, .unset, .unset, .unset, .unset, .unset, .unset, .unset, .unset, .unset] [])) (fun _ k => XS.istore X0.hh X0.hx rfl (hb hby at_5) rfl (l' := #[.val (.int ch), .val (.int sel), .val (.long a), .second, .val (.long b), .second, .val (.long c), .second, .val (.long xx), .second, .val (.int ((sel &&& (3 : Int32)) % (3 : Int32))), .unset, .unset, .unset, .unset, .unset, .unset, .unset, .unset, .unset, .unset, .unset, .unset, .unset, .unset, .unset, .unset, .unset, .unset, .unset]) rfl k) ?_
  refine Go.of (T' := T0) (g' := (mkF mM 8 #[.val (.int ch), .val (.int sel), .val (.long a), .second, .val (.long b), .second, .val (.long c), .second, .val (.long xx), .second, .val (.int ((sel &&& (3 : Int32)) % (3 : Int32))), .unset, .unset, .unset, .unset, .unset, .unset, .unset, .unset, .unset, .unset, .unset, .unset, .unset, .unset, .unset, .unset, .unset, .unset, .unset] [(.int sel)])) (fun _ k => XS.iloadN X0.hh X0.hx rfl (hb hby at_7) rfl k) ?_
  refine Go.of (T' := T0) (g' := (mkF mM 9 #[.val (.int ch), .val (.int sel), .val (.long a), .second, .val (.long b), .second, .val (.long c), .second, .val (.long xx), .second, .val (.int ((sel &&& (3 : Int32)) % (3 : Int32))), .unset, .unset, .unset, .unset, .unset, .unset, .unset, .unset, .unset, .unset, .unset, .unset, .unset, .unset, .unset, .unset, .unset, .unset, .unset] [(.int (2 : Int32)), (.int sel)])) (fun _ k => XS.iconst X0.hh X0.hx rfl (hb hby at_8) k) ?_
  refine Go.of (T' := T0) (g' := (mkF mM 10 #[.val (.int ch), .val (.int sel), .val (.long a), .second, .val (.long b), .second, .val (.long c), .second, .val (.long xx), .second, .val (.int ((sel &&& (3 : Int32)) % (3 : Int32))), .unset, .unset, .unset, .unset, .unset, .unset, .unset, .unset, .unset, .unset, .unset, .unset, .unset, .unset, .unset, .unset, .unset, .unset, .unset] [(.int ((sel.toUInt32 >>> ((2 : Int32) &&& 31).toUInt32).toInt32))])) (fun _ k => XS.iushr X0.hh X0.hx rfl (hb hby at_9) rfl k) ?_
  refine Go.of (T' := T0) (g' := (mkF mM 11 #[.val (.int ch), .val (.int sel), .val (.long a), .second, .val (.long b), .second, .val (.long c), .second, .val (.long xx), .second, .val (.int ((sel &&& (3 : Int32)) % (3 : Int32))), .unset, .unset, .unset, .unset, .unset, .unset, .unset, .unset, .unset, .unset, .unset, .unset, .unset, .unset, .unset, .unset, .unset, .unset, .unset] [(.int (3 : Int32)), (.int ((sel.toUInt32 >>> ((2 : Int32) &&& 31).toUInt32).toInt32))])) (fun _ k => XS.iconst X0.hh X0.hx rfl (hb hby at_10) k) ?_
  refine Go.of (T' := T0) (g' := (mkF mM 12 #[.val (.int ch), .val (.int sel), .val (.long a), .second, .val (.long b), .second, .val (.long c), .second, .val (.long xx), .second, .val (.int ((sel &&& (3 : Int32)) % (3 : Int32))), .unset, .unset, .unset, .unset, .unset, .unset, .unset, .unset, .unset, .unset, .unset, .unset, .unset, .unset, .unset, .unset, .unset, .unset, .unset] [(.int (((sel.toUInt32 >>> ((2 : Int32) &&& 31).toUInt32).toInt32) &&& (3 : Int32)))])) (fun _ k => XS.iand X0.hh X0.hx rfl (hb hby at_11) rfl k) ?_
  refine Go.of (T' := T0) (g' := (mkF mM 13 #[.val (.int ch), .val (.int sel), .val (.long a), .second, .val (.long b), .second, .val (.long c), .second, .val (.long xx), .second, .val (.int ((sel &&& (3 : Int32)) % (3 : Int32))), .unset, .unset, .unset, .unset, .unset, .unset, .unset, .unset, .unset, .unset, .unset, .unset, .unset, .unset, .unset, .unset, .unset, .unset, .unset] [(.int (3 : Int32)), (.int (((sel.toUInt32 >>> ((2 : Int32) &&& 31).toUInt32).toInt32) &&& (3 : Int32)))])) (fun _ k => XS.iconst X0.hh X0.hx rfl (hb hby at_12) k) ?_
  refine X0.irem (hb hby at_13) (by decide) ?_
  show Go pP eE bB _ T0 (mkF mM 14 #[.val (.int ch), .val (.int sel), .val (.long a), .second, .val (.long b), .second, .val (.long c), .second, .val (.long xx), .second, .val (.int ((sel &&& (3 : Int32)) % (3 : Int32))), .unset, .unset, .unset, .unset, .unset, .unset, .unset, .unset, .unset, .unset, .unset, .unset, .unset, .unset, .unset, .unset, .unset, .unset, .unset] [(.int ((((sel.toUInt32 >>> ((2 : Int32) &&& 31).toUInt32).toInt32) &&& (3 : Int32)) % (3 : Int32)))])
  refine Go.of (T' := T0) (g' := (mkF mM 16 #[.val (.int ch), .val (.int sel), .val (.long a), .second, .val (.long b), .second, .val (.long c), .second, .val (.long xx), .second, .val (.int ((sel &&& (3 : Int32)) % (3 : Int32))), .val (.int ((((sel.toUInt32 >>> ((2 : Int32) &&& 31).toUInt32).toInt32) &&& (3 : Int32)) % (3 : Int32))), .unset, .unset, .unset, .unset, .unset, .unset, .unset, .unset, .unset, .unset, .unset, .unset, .unset, .unset, .unset, .unset, .unset, .unset] [])) (fun _ k => XS.istore X0.hh X0.hx rfl (hb hby at_14) rfl (l' := #[.val (.int ch), .val (.int sel), .val (.long a), .second, .val (.long b), .second, .val (.long c), .second, .val (.long xx), .second, .val (.int ((sel &&& (3 : Int32)) % (3 : Int32))), .val (.int ((((sel.toUInt32 >>> ((2 : Int32) &&& 31).toUInt32).toInt32) &&& (3 : Int32)) % (3 : Int32))), .unset, .unset, .unset, .unset, .unset, .unset, .unset, .unset, .unset, .unset, .unset, .unset, .unset, .unset, .unset, .unset, .unset, .unset]) rfl k) ?_
  refine Go.of (T' := T0) (g' := (mkF mM 17 #[.val (.int ch), .val (.int sel), .val (.long a), .second, .val (.long b), .second, .val (.long c), .second, .val (.long xx), .second, .val (.int ((sel &&& (3 : Int32)) % (3 : Int32))), .val (.int ((((sel.toUInt32 >>> ((2 : Int32) &&& 31).toUInt32).toInt32) &&& (3 : Int32)) % (3 : Int32))), .unset, .unset, .unset, .unset, .unset, .unset, .unset, .unset, .unset, .unset, .unset, .unset, .unset, .unset, .unset, .unset, .unset, .unset] [(.int ch)])) (fun _ k => XS.iloadN X0.hh X0.hx rfl (hb hby at_16) rfl k) ?_
  refine Go.of (T' := T0) (g' := (mkF mM 20 #[.val (.int ch), .val (.int sel), .val (.long a), .second, .val (.long b), .second, .val (.long c), .second, .val (.long xx), .second, .val (.int ((sel &&& (3 : Int32)) % (3 : Int32))), .val (.int ((((sel.toUInt32 >>> ((2 : Int32) &&& 31).toUInt32).toInt32) &&& (3 : Int32)) % (3 : Int32))), .unset, .unset, .unset, .unset, .unset, .unset, .unset, .unset, .unset, .unset, .unset, .unset, .unset, .unset, .unset, .unset, .unset, .unset] [(.int (255 : Int32)), (.int ch)])) (fun _ k => XS.sipush X0.hh X0.hx rfl (hb hby at_17) k) ?_
  refine Go.of (T' := T0) (g' := (mkF mM 21 #[.val (.int ch), .val (.int sel), .val (.long a), .second, .val (.long b), .second, .val (.long c), .second, .val (.long xx), .second, .val (.int ((sel &&& (3 : Int32)) % (3 : Int32))), .val (.int ((((sel.toUInt32 >>> ((2 : Int32) &&& 31).toUInt32).toInt32) &&& (3 : Int32)) % (3 : Int32))), .unset, .unset, .unset, .unset, .unset, .unset, .unset, .unset, .unset, .unset, .unset, .unset, .unset, .unset, .unset, .unset, .unset, .unset] [(.int (ch &&& (255 : Int32)))])) (fun _ k => XS.iand X0.hh X0.hx rfl (hb hby at_20) rfl k) ?_
  refine Go.of (T' := T0) (g' := (mkF mM 23 #[.val (.int ch), .val (.int sel), .val (.long a), .second, .val (.long b), .second, .val (.long c), .second, .val (.long xx), .second, .val (.int ((sel &&& (3 : Int32)) % (3 : Int32))), .val (.int ((((sel.toUInt32 >>> ((2 : Int32) &&& 31).toUInt32).toInt32) &&& (3 : Int32)) % (3 : Int32))), .val (.int (ch &&& (255 : Int32))), .unset, .unset, .unset, .unset, .unset, .unset, .unset, .unset, .unset, .unset, .unset, .unset, .unset, .unset, .unset, .unset, .unset] [])) (fun _ k => XS.istore X0.hh X0.hx rfl (hb hby at_21) rfl (l' := #[.val (.int ch), .val (.int sel), .val (.long a), .second, .val (.long b), .second, .val (.long c), .second, .val (.long xx), .second, .val (.int ((sel &&& (3 : Int32)) % (3 : Int32))), .val (.int ((((sel.toUInt32 >>> ((2 : Int32) &&& 31).toUInt32).toInt32) &&& (3 : Int32)) % (3 : Int32))), .val (.int (ch &&& (255 : Int32))), .unset, .unset, .unset, .unset, .unset, .unset, .unset, .unset, .unset, .unset, .unset, .unset, .unset, .unset, .unset, .unset, .unset]) rfl k) ?_
  refine Go.of (T' := T0) (g' := (mkF mM 24 #[.val (.int ch), .val (.int sel), .val (.long a), .second, .val (.long b), .second, .val (.long c), .second, .val (.long xx), .second, .val (.int ((sel &&& (3 : Int32)) % (3 : Int32))), .val (.int ((((sel.toUInt32 >>> ((2 : Int32) &&& 31).toUInt32).toInt32) &&& (3 : Int32)) % (3 : Int32))), .val (.int (ch &&& (255 : Int32))), .unset, .unset, .unset, .unset, .unset, .unset, .unset, .unset, .unset, .unset, .unset, .unset, .unset, .unset, .unset, .unset, .unset] [(.int ch)])) (fun _ k => XS.iloadN X0.hh X0.hx rfl (hb hby at_23) rfl k) ?_
  refine Go.of (T' := T0) (g' := (mkF mM 26 #[.val (.int ch), .val (.int sel), .val (.long a), .second, .val (.long b), .second, .val (.long c), .second, .val (.long xx), .second, .val (.int ((sel &&& (3 : Int32)) % (3 : Int32))), .val (.int ((((sel.toUInt32 >>> ((2 : Int32) &&& 31).toUInt32).toInt32) &&& (3 : Int32)) % (3 : Int32))), .val (.int (ch &&& (255 : Int32))), .unset, .unset, .unset, .unset, .unset, .unset, .unset, .unset, .unset, .unset, .unset, .unset, .unset, .unset, .unset, .unset, .unset] [(.int (8 : Int32)), (.int ch)])) (fun _ k => XS.bipush X0.hh X0.hx rfl (hb hby at_24) k) ?_
  refine Go.of (T' := T0) (g' := (mkF mM 27 #[.val (.int ch), .val (.int sel), .val (.long a), .second, .val (.long b), .second, .val (.long c), .second, .val (.long xx), .second, .val (.int ((sel &&& (3 : Int32)) % (3 : Int32))), .val (.int ((((sel.toUInt32 >>> ((2 : Int32) &&& 31).toUInt32).toInt32) &&& (3 : Int32)) % (3 : Int32))), .val (.int (ch &&& (255 : Int32))), .unset, .unset, .unset, .unset, .unset, .unset, .unset, .unset, .unset, .unset, .unset, .unset, .unset, .unset, .unset, .unset, .unset] [(.int ((ch.toUInt32 >>> ((8 : Int32) &&& 31).toUInt32).toInt32))])) (fun _ k => XS.iushr X0.hh X0.hx rfl (hb hby at_26) rfl k) ?_
  refine Go.of (T' := T0) (g' := (mkF mM 30 #[.val (.int ch), .val (.int sel), .val (.long a), .second, .val (.long b), .second, .val (.long c), .second, .val (.long xx), .second, .val (.int ((sel &&& (3 : Int32)) % (3 : Int32))), .val (.int ((((sel.toUInt32 >>> ((2 : Int32) &&& 31).toUInt32).toInt32) &&& (3 : Int32)) % (3 : Int32))), .val (.int (ch &&& (255 : Int32))), .unset, .unset, .unset, .unset, .unset, .unset, .unset, .unset, .unset, .unset, .unset, .unset, .unset, .unset, .unset, .unset, .unset] [(.int (255 : Int32)), (.int ((ch.toUInt32 >>> ((8 : Int32) &&& 31).toUInt32).toInt32))])) (fun _ k => XS.sipush X0.hh X0.hx rfl (hb hby at_27) k) ?_
  refine Go.of (T' := T0) (g' := (mkF mM 31 #[.val (.int ch), .val (.int sel), .val (.long a), .second, .val (.long b), .second, .val (.long c), .second, .val (.long xx), .second, .val (.int ((sel &&& (3 : Int32)) % (3 : Int32))), .val (.int ((((sel.toUInt32 >>> ((2 : Int32) &&& 31).toUInt32).toInt32) &&& (3 : Int32)) % (3 : Int32))), .val (.int (ch &&& (255 : Int32))), .unset, .unset, .unset, .unset, .unset, .unset, .unset, .unset, .unset, .unset, .unset, .unset, .unset, .unset, .unset, .unset, .unset] [(.int (((ch.toUInt32 >>> ((8 : Int32) &&& 31).toUInt32).toInt32) &&& (255 : Int32)))])) (fun _ k => XS.iand X0.hh X0.hx rfl (hb hby at_30) rfl k) ?_
  refine Go.of (T' := T0) (g' := (mkF mM 33 #[.val (.int ch), .val (.int sel), .val (.long a), .second, .val (.long b), .second, .val (.long c), .second, .val (.long xx), .second, .val (.int ((sel &&& (3 : Int32)) % (3 : Int32))), .val (.int ((((sel.toUInt32 >>> ((2 : Int32) &&& 31).toUInt32).toInt32) &&& (3 : Int32)) % (3 : Int32))), .val (.int (ch &&& (255 : Int32))), .val (.int (((ch.toUInt32 >>> ((8 : Int32) &&& 31).toUInt32).toInt32) &&& (255 : Int32))), .unset, .unset, .unset, .unset, .unset, .unset, .unset, .unset, .unset, .unset, .unset, .unset, .unset, .unset, .unset, .unset] [])) (fun _ k => XS.istore X0.hh X0.hx rfl (hb hby at_31) rfl (l' := #[.val (.int ch), .val (.int sel), .val (.long a), .second, .val (.long b), .second, .val (.long c), .second, .val (.long xx), .second, .val (.int ((sel &&& (3 : Int32)) % (3 : Int32))), .val (.int ((((sel.toUInt32 >>> ((2 : Int32) &&& 31).toUInt32).toInt32) &&& (3 : Int32)) % (3 : Int32))), .val (.int (ch &&& (255 : Int32))), .val (.int (((ch.toUInt32 >>> ((8 : Int32) &&& 31).toUInt32).toInt32) &&& (255 : Int32))), .unset, .unset, .unset, .unset, .unset, .unset, .unset, .unset, .unset, .unset, .unset, .unset, .unset, .unset, .unset, .unset]) rfl k) ?_
  refine Go.of (T' := T0) (g' := (mkF mM 34 #[.val (.int ch), .val (.int sel), .val (.long a), .second, .val (.long b), .second, .val (.long c), .second, .val (.long xx), .second, .val (.int ((sel &&& (3 : Int32)) % (3 : Int32))), .val (.int ((((sel.toUInt32 >>> ((2 : Int32) &&& 31).toUInt32).toInt32) &&& (3 : Int32)) % (3 : Int32))), .val (.int (ch &&& (255 : Int32))), .val (.int (((ch.toUInt32 >>> ((8 : Int32) &&& 31).toUInt32).toInt32) &&& (255 : Int32))), .unset, .unset, .unset, .unset, .unset, .unset, .unset, .unset, .unset, .unset, .unset, .unset, .unset, .unset, .unset, .unset] [(.int ch)])) (fun _ k => XS.iloadN X0.hh X0.hx rfl (hb hby at_33) rfl k) ?_
  refine Go.of (T' := T0) (g' := (mkF mM 36 #[.val (.int ch), .val (.int sel), .val (.long a), .second, .val (.long b), .second, .val (.long c), .second, .val (.long xx), .second, .val (.int ((sel &&& (3 : Int32)) % (3 : Int32))), .val (.int ((((sel.toUInt32 >>> ((2 : Int32) &&& 31).toUInt32).toInt32) &&& (3 : Int32)) % (3 : Int32))), .val (.int (ch &&& (255 : Int32))), .val (.int (((ch.toUInt32 >>> ((8 : Int32) &&& 31).toUInt32).toInt32) &&& (255 : Int32))), .unset, .unset, .unset, .unset, .unset, .unset, .unset, .unset, .unset, .unset, .unset, .unset, .unset, .unset, .unset, .unset] [(.int (16 : Int32)), (.int ch)])) (fun _ k => XS.bipush X0.hh X0.hx rfl (hb hby at_34) k) ?_
  refine Go.of (T' := T0) (g' := (mkF mM 37 #[.val (.int ch), .val (.int sel), .val (.long a), .second, .val (.long b), .second, .val (.long c), .second, .val (.long xx), .second, .val (.int ((sel &&& (3 : Int32)) % (3 : Int32))), .val (.int ((((sel.toUInt32 >>> ((2 : Int32) &&& 31).toUInt32).toInt32) &&& (3 : Int32)) % (3 : Int32))), .val (.int (ch &&& (255 : Int32))), .val (.int (((ch.toUInt32 >>> ((8 : Int32) &&& 31).toUInt32).toInt32) &&& (255 : Int32))), .unset, .unset, .unset, .unset, .unset, .unset, .unset, .unset, .unset, .unset, .unset, .unset, .unset, .unset, .unset, .unset] [(.int ((ch.toUInt32 >>> ((16 : Int32) &&& 31).toUInt32).toInt32))])) (fun _ k => XS.iushr X0.hh X0.hx rfl (hb hby at_36) rfl k) ?_
  refine Go.of (T' := T0) (g' := (mkF mM 40 #[.val (.int ch), .val (.int sel), .val (.long a), .second, .val (.long b), .second, .val (.long c), .second, .val (.long xx), .second, .val (.int ((sel &&& (3 : Int32)) % (3 : Int32))), .val (.int ((((sel.toUInt32 >>> ((2 : Int32) &&& 31).toUInt32).toInt32) &&& (3 : Int32)) % (3 : Int32))), .val (.int (ch &&& (255 : Int32))), .val (.int (((ch.toUInt32 >>> ((8 : Int32) &&& 31).toUInt32).toInt32) &&& (255 : Int32))), .unset, .unset, .unset, .unset, .unset, .unset, .unset, .unset, .unset, .unset, .unset, .unset, .unset, .unset, .unset, .unset] [(.int (255 : Int32)), (.int ((ch.toUInt32 >>> ((16 : Int32) &&& 31).toUInt32).toInt32))])) (fun _ k => XS.sipush X0.hh X0.hx rfl (hb hby at_37) k) ?_
  refine Go.of (T' := T0) (g' := (mkF mM 41 #[.val (.int ch), .val (.int sel), .val (.long a), .second, .val (.long b), .second, .val (.long c), .second, .val (.long xx), .second, .val (.int ((sel &&& (3 : Int32)) % (3 : Int32))), .val (.int ((((sel.toUInt32 >>> ((2 : Int32) &&& 31).toUInt32).toInt32) &&& (3 : Int32)) % (3 : Int32))), .val (.int (ch &&& (255 : Int32))), .val (.int (((ch.toUInt32 >>> ((8 : Int32) &&& 31).toUInt32).toInt32) &&& (255 : Int32))), .unset, .unset, .unset, .unset, .unset, .unset, .unset, .unset, .unset, .unset, .unset, .unset, .unset, .unset, .unset, .unset] [(.int (((ch.toUInt32 >>> ((16 : Int32) &&& 31).toUInt32).toInt32) &&& (255 : Int32)))])) (fun _ k => XS.iand X0.hh X0.hx rfl (hb hby at_40) rfl k) ?_
  refine Go.of (T' := T0) (g' := (mkF mM 43 #[.val (.int ch), .val (.int sel), .val (.long a), .second, .val (.long b), .second, .val (.long c), .second, .val (.long xx), .second, .val (.int ((sel &&& (3 : Int32)) % (3 : Int32))), .val (.int ((((sel.toUInt32 >>> ((2 : Int32) &&& 31).toUInt32).toInt32) &&& (3 : Int32)) % (3 : Int32))), .val (.int (ch &&& (255 : Int32))), .val (.int (((ch.toUInt32 >>> ((8 : Int32) &&& 31).toUInt32).toInt32) &&& (255 : Int32))), .val (.int (((ch.toUInt32 >>> ((16 : Int32) &&& 31).toUInt32).toInt32) &&& (255 : Int32))), .unset, .unset, .unset, .unset, .unset, .unset, .unset, .unset, .unset, .unset, .unset, .unset, .unset, .unset, .unset] [])) (fun _ k => XS.istore X0.hh X0.hx rfl (hb hby at_41) rfl (l' := #[.val (.int ch), .val (.int sel), .val (.long a), .second, .val (.long b), .second, .val (.long c), .second, .val (.long xx), .second, .val (.int ((sel &&& (3 : Int32)) % (3 : Int32))), .val (.int ((((sel.toUInt32 >>> ((2 : Int32) &&& 31).toUInt32).toInt32) &&& (3 : Int32)) % (3 : Int32))), .val (.int (ch &&& (255 : Int32))), .val (.int (((ch.toUInt32 >>> ((8 : Int32) &&& 31).toUInt32).toInt32) &&& (255 : Int32))), .val (.int (((ch.toUInt32 >>> ((16 : Int32) &&& 31).toUInt32).toInt32) &&& (255 : Int32))), .unset, .unset, .unset, .unset, .unset, .unset, .unset, .unset, .unset, .unset, .unset, .unset, .unset, .unset, .unset]) rfl k) ?_
  refine Go.of (T' := T0) (g' := (mkF mM 44 #[.val (.int ch), .val (.int sel), .val (.long a), .second, .val (.long b), .second, .val (.long c), .second, .val (.long xx), .second, .val (.int ((sel &&& (3 : Int32)) % (3 : Int32))), .val (.int ((((sel.toUInt32 >>> ((2 : Int32) &&& 31).toUInt32).toInt32) &&& (3 : Int32)) % (3 : Int32))), .val (.int (ch &&& (255 : Int32))), .val (.int (((ch.toUInt32 >>> ((8 : Int32) &&& 31).toUInt32).toInt32) &&& (255 : Int32))), .val (.int (((ch.toUInt32 >>> ((16 : Int32) &&& 31).toUInt32).toInt32) &&& (255 : Int32))), .unset, .unset, .unset, .unset, .unset, .unset, .unset, .unset, .unset, .unset, .unset, .unset, .unset, .unset, .unset] [(.int ch)])) (fun _ k => XS.iloadN X0.hh X0.hx rfl (hb hby at_43) rfl k) ?_
  refine Go.of (T' := T0) (g' := (mkF mM 46 #[.val (.int ch), .val (.int sel), .val (.long a), .second, .val (.long b), .second, .val (.long c), .second, .val (.long xx), .second, .val (.int ((sel &&& (3 : Int32)) % (3 : Int32))), .val (.int ((((sel.toUInt32 >>> ((2 : Int32) &&& 31).toUInt32).toInt32) &&& (3 : Int32)) % (3 : Int32))), .val (.int (ch &&& (255 : Int32))), .val (.int (((ch.toUInt32 >>> ((8 : Int32) &&& 31).toUInt32).toInt32) &&& (255 : Int32))), .val (.int (((ch.toUInt32 >>> ((16 : Int32) &&& 31).toUInt32).toInt32) &&& (255 : Int32))), .unset, .unset, .unset, .unset, .unset, .unset, .unset, .unset, .unset, .unset, .unset, .unset, .unset, .unset, .unset] [(.int (24 : Int32)), (.int ch)])) (fun _ k => XS.bipush X0.hh X0.hx rfl (hb hby at_44) k) ?_
  refine Go.of (T' := T0) (g' := (mkF mM 47 #[.val (.int ch), .val (.int sel), .val (.long a), .second, .val (.long b), .second, .val (.long c), .second, .val (.long xx), .second, .val (.int ((sel &&& (3 : Int32)) % (3 : Int32))), .val (.int ((((sel.toUInt32 >>> ((2 : Int32) &&& 31).toUInt32).toInt32) &&& (3 : Int32)) % (3 : Int32))), .val (.int (ch &&& (255 : Int32))), .val (.int (((ch.toUInt32 >>> ((8 : Int32) &&& 31).toUInt32).toInt32) &&& (255 : Int32))), .val (.int (((ch.toUInt32 >>> ((16 : Int32) &&& 31).toUInt32).toInt32) &&& (255 : Int32))), .unset, .unset, .unset, .unset, .unset, .unset, .unset, .unset, .unset, .unset, .unset, .unset, .unset, .unset, .unset] [(.int ((ch.toUInt32 >>> ((24 : Int32) &&& 31).toUInt32).toInt32))])) (fun _ k => XS.iushr X0.hh X0.hx rfl (hb hby at_46) rfl k) ?_
  refine Go.of (T' := T0) (g' := (mkF mM 50 #[.val (.int ch), .val (.int sel), .val (.long a), .second, .val (.long b), .second, .val (.long c), .second, .val (.long xx), .second, .val (.int ((sel &&& (3 : Int32)) % (3 : Int32))), .val (.int ((((sel.toUInt32 >>> ((2 : Int32) &&& 31).toUInt32).toInt32) &&& (3 : Int32)) % (3 : Int32))), .val (.int (ch &&& (255 : Int32))), .val (.int (((ch.toUInt32 >>> ((8 : Int32) &&& 31).toUInt32).toInt32) &&& (255 : Int32))), .val (.int (((ch.toUInt32 >>> ((16 : Int32) &&& 31).toUInt32).toInt32) &&& (255 : Int32))), .unset, .unset, .unset, .unset, .unset, .unset, .unset, .unset, .unset, .unset, .unset, .unset, .unset, .unset, .unset] [(.int (255 : Int32)), (.int ((ch.toUInt32 >>> ((24 : Int32) &&& 31).toUInt32).toInt32))])) (fun _ k => XS.sipush X0.hh X0.hx rfl (hb hby at_47) k) ?_
  refine Go.of (T' := T0) (g' := (mkF mM 51 #[.val (.int ch), .val (.int sel), .val (.long a), .second, .val (.long b), .second, .val (.long c), .second, .val (.long xx), .second, .val (.int ((sel &&& (3 : Int32)) % (3 : Int32))), .val (.int ((((sel.toUInt32 >>> ((2 : Int32) &&& 31).toUInt32).toInt32) &&& (3 : Int32)) % (3 : Int32))), .val (.int (ch &&& (255 : Int32))), .val (.int (((ch.toUInt32 >>> ((8 : Int32) &&& 31).toUInt32).toInt32) &&& (255 : Int32))), .val (.int (((ch.toUInt32 >>> ((16 : Int32) &&& 31).toUInt32).toInt32) &&& (255 : Int32))), .unset, .unset, .unset, .unset, .unset, .unset, .unset, .unset, .unset, .unset, .unset, .unset, .unset, .unset, .unset] [(.int (((ch.toUInt32 >>> ((24 : Int32) &&& 31).toUInt32).toInt32) &&& (255 : Int32)))])) (fun _ k => XS.iand X0.hh X0.hx rfl (hb hby at_50) rfl k) ?_
  refine Go.of (T' := T0) (g' := (mkF mM 53 #[.val (.int ch), .val (.int sel), .val (.long a), .second, .val (.long b), .second, .val (.long c), .second, .val (.long xx), .second, .val (.int ((sel &&& (3 : Int32)) % (3 : Int32))), .val (.int ((((sel.toUInt32 >>> ((2 : Int32) &&& 31).toUInt32).toInt32) &&& (3 : Int32)) % (3 : Int32))), .val (.int (ch &&& (255 : Int32))), .val (.int (((ch.toUInt32 >>> ((8 : Int32) &&& 31).toUInt32).toInt32) &&& (255 : Int32))), .val (.int (((ch.toUInt32 >>> ((16 : Int32) &&& 31).toUInt32).toInt32) &&& (255 : Int32))), .val (.int (((ch.toUInt32 >>> ((24 : Int32) &&& 31).toUInt32).toInt32) &&& (255 : Int32))), .unset, .unset, .unset, .unset, .unset, .unset, .unset, .unset, .unset, .unset, .unset, .unset, .unset, .unset] [])) (fun _ k => XS.istore X0.hh X0.hx rfl (hb hby at_51) rfl (l' := #[.val (.int ch), .val (.int sel), .val (.long a), .second, .val (.long b), .second, .val (.long c), .second, .val (.long xx), .second, .val (.int ((sel &&& (3 : Int32)) % (3 : Int32))), .val (.int ((((sel.toUInt32 >>> ((2 : Int32) &&& 31).toUInt32).toInt32) &&& (3 : Int32)) % (3 : Int32))), .val (.int (ch &&& (255 : Int32))), .val (.int (((ch.toUInt32 >>> ((8 : Int32) &&& 31).toUInt32).toInt32) &&& (255 : Int32))), .val (.int (((ch.toUInt32 >>> ((16 : Int32) &&& 31).toUInt32).toInt32) &&& (255 : Int32))), .val (.int (((ch.toUInt32 >>> ((24 : Int32) &&& 31).toUInt32).toInt32) &&& (255 : Int32))), .unset, .unset, .unset, .unset, .unset, .unset, .unset, .unset, .unset, .unset, .unset, .unset, .unset, .unset]) rfl k) ?_
  refine Go.of (T' := T0) (g' := (mkF mM 54 #[.val (.int ch), .val (.int sel), .val (.long a), .second, .val (.long b), .second, .val (.long c), .second, .val (.long xx), .second, .val (.int ((sel &&& (3 : Int32)) % (3 : Int32))), .val (.int ((((sel.toUInt32 >>> ((2 : Int32) &&& 31).toUInt32).toInt32) &&& (3 : Int32)) % (3 : Int32))), .val (.int (ch &&& (255 : Int32))), .val (.int (((ch.toUInt32 >>> ((8 : Int32) &&& 31).toUInt32).toInt32) &&& (255 : Int32))), .val (.int (((ch.toUInt32 >>> ((16 : Int32) &&& 31).toUInt32).toInt32) &&& (255 : Int32))), .val (.int (((ch.toUInt32 >>> ((24 : Int32) &&& 31).toUInt32).toInt32) &&& (255 : Int32))), .unset, .unset, .unset, .unset, .unset, .unset, .unset, .unset, .unset, .unset, .unset, .unset, .unset, .unset] [(.int sel)])) (fun _ k => XS.iloadN X0.hh X0.hx rfl (hb hby at_53) rfl k) ?_
  refine Go.of (T' := T0) (g' := (mkF mM 55 #[.val (.int ch), .val (.int sel), .val (.long a), .second, .val (.long b), .second, .val (.long c), .second, .val (.long xx), .second, .val (.int ((sel &&& (3 : Int32)) % (3 : Int32))), .val (.int ((((sel.toUInt32 >>> ((2 : Int32) &&& 31).toUInt32).toInt32) &&& (3 : Int32)) % (3 : Int32))), .val (.int (ch &&& (255 : Int32))), .val (.int (((ch.toUInt32 >>> ((8 : Int32) &&& 31).toUInt32).toInt32) &&& (255 : Int32))), .val (.int (((ch.toUInt32 >>> ((16 : Int32) &&& 31).toUInt32).toInt32) &&& (255 : Int32))), .val (.int (((ch.toUInt32 >>> ((24 : Int32) &&& 31).toUInt32).toInt32) &&& (255 : Int32))), .unset, .unset, .unset, .unset, .unset, .unset, .unset, .unset, .unset, .unset, .unset, .unset, .unset, .unset] [(.int (4 : Int32)), (.int sel)])) (fun _ k => XS.iconst X0.hh X0.hx rfl (hb hby at_54) k) ?_
  refine Go.of (T' := T0) (g' := (mkF mM 56 #[.val (.int ch), .val (.int sel), .val (.long a), .second, .val (.long b), .second, .val (.long c), .second, .val (.long xx), .second, .val (.int ((sel &&& (3 : Int32)) % (3 : Int32))), .val (.int ((((sel.toUInt32 >>> ((2 : Int32) &&& 31).toUInt32).toInt32) &&& (3 : Int32)) % (3 : Int32))), .val (.int (ch &&& (255 : Int32))), .val (.int (((ch.toUInt32 >>> ((8 : Int32) &&& 31).toUInt32).toInt32) &&& (255 : Int32))), .val (.int (((ch.toUInt32 >>> ((16 : Int32) &&& 31).toUInt32).toInt32) &&& (255 : Int32))), .val (.int (((ch.toUInt32 >>> ((24 : Int32) &&& 31).toUInt32).toInt32) &&& (255 : Int32))), .unset, .unset, .unset, .unset, .unset, .unset, .unset, .unset, .unset, .unset, .unset, .unset, .unset, .unset] [(.int ((sel.toUInt32 >>> ((4 : Int32) &&& 31).toUInt32).toInt32))])) (fun _ k => XS.iushr X0.hh X0.hx rfl (hb hby at_55) rfl k) ?_
  refine Go.of (T' := T0) (g' := (mkF mM 57 #[.val (.int ch), .val (.int sel), .val (.long a), .second, .val (.long b), .second, .val (.long c), .second, .val (.long xx), .second, .val (.int ((sel &&& (3 : Int32)) % (3 : Int32))), .val (.int ((((sel.toUInt32 >>> ((2 : Int32) &&& 31).toUInt32).toInt32) &&& (3 : Int32)) % (3 : Int32))), .val (.int (ch &&& (255 : Int32))), .val (.int (((ch.toUInt32 >>> ((8 : Int32) &&& 31).toUInt32).toInt32) &&& (255 : Int32))), .val (.int (((ch.toUInt32 >>> ((16 : Int32) &&& 31).toUInt32).toInt32) &&& (255 : Int32))), .val (.int (((ch.toUInt32 >>> ((24 : Int32) &&& 31).toUInt32).toInt32) &&& (255 : Int32))), .unset, .unset, .unset, .unset, .unset, .unset, .unset, .unset, .unset, .unset, .unset, .unset, .unset, .unset] [(.int (1 : Int32)), (.int ((sel.toUInt32 >>> ((4 : Int32) &&& 31).toUInt32).toInt32))])) (fun _ k => XS.iconst X0.hh X0.hx rfl (hb hby at_56) k) ?_
  refine Go.of (T' := T0) (g' := (mkF mM 58 #[.val (.int ch), .val (.int sel), .val (.long a), .second, .val (.long b), .second, .val (.long c), .second, .val (.long xx), .second, .val (.int ((sel &&& (3 : Int32)) % (3 : Int32))), .val (.int ((((sel.toUInt32 >>> ((2 : Int32) &&& 31).toUInt32).toInt32) &&& (3 : Int32)) % (3 : Int32))), .val (.int (ch &&& (255 : Int32))), .val (.int (((ch.toUInt32 >>> ((8 : Int32) &&& 31).toUInt32).toInt32) &&& (255 : Int32))), .val (.int (((ch.toUInt32 >>> ((16 : Int32) &&& 31).toUInt32).toInt32) &&& (255 : Int32))), .val (.int (((ch.toUInt32 >>> ((24 : Int32) &&& 31).toUInt32).toInt32) &&& (255 : Int32))), .unset, .unset, .unset, .unset, .unset, .unset, .unset, .unset, .unset, .unset, .unset, .unset, .unset, .unset] [(.int (((sel.toUInt32 >>> ((4 : Int32) &&& 31).toUInt32).toInt32) &&& (1 : Int32)))])) (fun _ k => XS.iand X0.hh X0.hx rfl (hb hby at_57) rfl k) ?_
  have J0 : ∀ (len1 len2 c0 c1 d0 d1 : Int32), (len1 = 0 ∨ len1 = 1 ∨ len1 = 2) → (len2 = 0 ∨ len2 = 1 ∨ len2 = 2) → (¬ c0 < 0 ∧ ¬ (255 : Int32) < c0) → (¬ c1 < 0 ∧ ¬ (255 : Int32) < c1) → (¬ d0 < 0 ∧ ¬ (255 : Int32) < d0) → (¬ d1 < 0 ∧ ¬ (255 : Int32) < d1) → Go pP eE bB (Pst room_1 sS Z consts_1 [] (Q_law_rm )) T0 (mkF mM 58 #[.val (.int ch), .val (.int sel), .val (.long a), .second, .val (.long b), .second, .val (.long c), .second, .val (.long xx), .second, .val (.int len1), .val (.int len2), .val (.int c0), .val (.int c1), .val (.int d0), .val (.int d1), .unset, .unset, .unset, .unset, .unset, .unset, .unset, .unset, .unset, .unset, .unset, .unset, .unset, .unset] [(.int (((sel.toUInt32 >>> ((4 : Int32) &&& 31).toUInt32).toInt32) &&& (1 : Int32)))]) := by
    intro len1 len2 c0 c1 d0 d1 r1 r2 r3 r4 r5 r6
    have J1 : ∀ (len2 d0 d1 sp : Int32), (len2 = 0 ∨ len2 = 1 ∨ len2 = 2) → (¬ d0 < 0 ∧ ¬ (255 : Int32) < d0) → (¬ d1 < 0 ∧ ¬ (255 : Int32) < d1) → Go pP eE bB (Pst room_1 sS Z consts_1 [] (Q_law_rm )) T0 (mkF mM 85 #[.val (.int ch), .val (.int sel), .val (.long a), .second, .val (.long b), .second, .val (.long c), .second, .val (.long xx), .second, .val (.int len1), .val (.int len2), .val (.int c0), .val (.int c1), .val (.int d0), .val (.int d1), .val (.int sp), .unset, .unset, .unset, .unset, .unset, .unset, .unset, .unset, .unset, .unset, .unset, .unset, .unset] []) := by
      intro len2 d0 d1 sp r2 r5 r6
      refine Go.of (T' := T0) (g' := (mkF mM 86 #[.val (.int ch), .val (.int sel), .val (.long a), .second, .val (.long b), .second, .val (.long c), .second, .val (.long xx), .second, .val (.int len1), .val (.int len2), .val (.int c0), .val (.int c1), .val (.int d0), .val (.int d1), .val (.int sp), .unset, .unset, .unset, .unset, .unset, .unset, .unset, .unset, .unset, .unset, .unset, .unset, .unset] [(.int sel)])) (fun _ k => XS.iloadN X0.hh X0.hx rfl (hb hby at_85) rfl k) ?_
      refine Go.of (T' := T0) (g' := (mkF mM 87 #[.val (.int ch), .val (.int sel), .val (.long a), .second, .val (.long b), .second, .val (.long c), .second, .val (.long xx), .second, .val (.int len1), .val (.int len2), .val (.int c0), .val (.int c1), .val (.int d0), .val (.int d1), .val (.int sp), .unset, .unset, .unset, .unset, .unset, .unset, .unset, .unset, .unset, .unset, .unset, .unset, .unset] [(.int (5 : Int32)), (.int sel)])) (fun _ k => XS.iconst X0.hh X0.hx rfl (hb hby at_86) k) ?_
      refine Go.of (T' := T0) (g' := (mkF mM 88 #[.val (.int ch), .val (.int sel), .val (.long a), .second, .val (.long b), .second, .val (.long c), .second, .val (.long xx), .second, .val (.int len1), .val (.int len2), .val (.int c0), .val (.int c1), .val (.int d0), .val (.int d1), .val (.int sp), .unset, .unset, .unset, .unset, .unset, .unset, .unset, .unset, .unset, .unset, .unset, .unset, .unset] [(.int ((sel.toUInt32 >>> ((5 : Int32) &&& 31).toUInt32).toInt32))])) (fun _ k => XS.iushr X0.hh X0.hx rfl (hb hby at_87) rfl k) ?_
      refine Go.of (T' := T0) (g' := (mkF mM 89 #[.val (.int ch), .val (.int sel), .val (.long a), .second, .val (.long b), .second, .val (.long c), .second, .val (.long xx), .second, .val (.int len1), .val (.int len2), .val (.int c0), .val (.int c1), .val (.int d0), .val (.int d1), .val (.int sp), .unset, .unset, .unset, .unset, .unset, .unset, .unset, .unset, .unset, .unset, .unset, .unset, .unset] [(.int (1 : Int32)), (.int ((sel.toUInt32 >>> ((5 : Int32) &&& 31).toUInt32).toInt32))])) (fun _ k => XS.iconst X0.hh X0.hx rfl (hb hby at_88) k) ?_
      refine Go.of (T' := T0) (g' := (mkF mM 90 #[.val (.int ch), .val (.int sel), .val (.long a), .second, .val (.long b), .second, .val (.long c), .second, .val (.long xx), .second, .val (.int len1), .val (.int len2), .val (.int c0), .val (.int c1), .val (.int d0), .val (.int d1), .val (.int sp), .unset, .unset, .unset, .unset, .unset, .unset, .unset, .unset, .unset, .unset, .unset, .unset, .unset] [(.int (((sel.toUInt32 >>> ((5 : Int32) &&& 31).toUInt32).toInt32) &&& (1 : Int32)))])) (fun _ k => XS.iand X0.hh X0.hx rfl (hb hby at_89) rfl k) ?_
      have J2 : ∀ (a2 : Int64), Go pP eE bB (Pst room_1 sS Z consts_1 [] (Q_law_rm )) T0 (mkF mM 101 #[.val (.int ch), .val (.int sel), .val (.long a), .second, .val (.long b), .second, .val (.long c), .second, .val (.long xx), .second, .val (.int len1), .val (.int len2), .val (.int c0), .val (.int c1), .val (.int d0), .val (.int d1), .val (.int sp), .unset, .unset, .unset, .unset, .unset, .unset, .unset, .unset, .unset, .unset, .unset, .unset, .unset] [(.long a2)]) := by
        intro a2
        refine Go.of (T' := T0) (g' := (mkF mM 103 #[.val (.int ch), .val (.int sel), .val (.long a), .second, .val (.long b), .second, .val (.long c), .second, .val (.long xx), .second, .val (.int len1), .val (.int len2), .val (.int c0), .val (.int c1), .val (.int d0), .val (.int d1), .val (.int sp), .val (.long a2), .second, .unset, .unset, .unset, .unset, .unset, .unset, .unset, .unset, .unset, .unset, .unset] [])) (fun _ k => XS.lstore X0.hh X0.hx rfl (hb hby at_101) rfl (l' := #[.val (.int ch), .val (.int sel), .val (.long a), .second, .val (.long b), .second, .val (.long c), .second, .val (.long xx), .second, .val (.int len1), .val (.int len2), .val (.int c0), .val (.int c1), .val (.int d0), .val (.int d1), .val (.int sp), .val (.long a2), .second, .unset, .unset, .unset, .unset, .unset, .unset, .unset, .unset, .unset, .unset, .unset]) rfl k) ?_
        refine Go.of (T' := T0) (g' := (mkF mM 104 #[.val (.int ch), .val (.int sel), .val (.long a), .second, .val (.long b), .second, .val (.long c), .second, .val (.long xx), .second, .val (.int len1), .val (.int len2), .val (.int c0), .val (.int c1), .val (.int d0), .val (.int d1), .val (.int sp), .val (.long a2), .second, .unset, .unset, .unset, .unset, .unset, .unset, .unset, .unset, .unset, .unset, .unset] [(.int sel)])) (fun _ k => XS.iloadN X0.hh X0.hx rfl (hb hby at_103) rfl k) ?_
        refine Go.of (T' := T0) (g' := (mkF mM 106 #[.val (.int ch), .val (.int sel), .val (.long a), .second, .val (.long b), .second, .val (.long c), .second, .val (.long xx), .second, .val (.int len1), .val (.int len2), .val (.int c0), .val (.int c1), .val (.int d0), .val (.int d1), .val (.int sp), .val (.long a2), .second, .unset, .unset, .unset, .unset, .unset, .unset, .unset, .unset, .unset, .unset, .unset] [(.int (6 : Int32)), (.int sel)])) (fun _ k => XS.bipush X0.hh X0.hx rfl (hb hby at_104) k) ?_
        refine Go.of (T' := T0) (g' := (mkF mM 107 #[.val (.int ch), .val (.int sel), .val (.long a), .second, .val (.long b), .second, .val (.long c), .second, .val (.long xx), .second, .val (.int len1), .val (.int len2), .val (.int c0), .val (.int c1), .val (.int d0), .val (.int d1), .val (.int sp), .val (.long a2), .second, .unset, .unset, .unset, .unset, .unset, .unset, .unset, .unset, .unset, .unset, .unset] [(.int ((sel.toUInt32 >>> ((6 : Int32) &&& 31).toUInt32).toInt32))])) (fun _ k => XS.iushr X0.hh X0.hx rfl (hb hby at_106) rfl k) ?_
        refine Go.of (T' := T0) (g' := (mkF mM 108 #[.val (.int ch), .val (.int sel), .val (.long a), .second, .val (.long b), .second, .val (.long c), .second, .val (.long xx), .second, .val (.int len1), .val (.int len2), .val (.int c0), .val (.int c1), .val (.int d0), .val (.int d1), .val (.int sp), .val (.long a2), .second, .unset, .unset, .unset, .unset, .unset, .unset, .unset, .unset, .unset, .unset, .unset] [(.int (1 : Int32)), (.int ((sel.toUInt32 >>> ((6 : Int32) &&& 31).toUInt32).toInt32))])) (fun _ k => XS.iconst X0.hh X0.hx rfl (hb hby at_107) k) ?_
        refine Go.of (T' := T0) (g' := (mkF mM 109 #[.val (.int ch), .val (.int sel), .val (.long a), .second, .val (.long b), .second, .val (.long c), .second, .val (.long xx), .second, .val (.int len1), .val (.int len2), .val (.int c0), .val (.int c1), .val (.int d0), .val (.int d1), .val (.int sp), .val (.long a2), .second, .unset, .unset, .unset, .unset, .unset, .unset, .unset, .unset, .unset, .unset, .unset] [(.int (((sel.toUInt32 >>> ((6 : Int32) &&& 31).toUInt32).toInt32) &&& (1 : Int32)))])) (fun _ k => XS.iand X0.hh X0.hx rfl (hb hby at_108) rfl k) ?_
        have J3 : ∀ (b2 : Int64), Go pP eE bB (Pst room_1 sS Z consts_1 [] (Q_law_rm )) T0 (mkF mM 122 #[.val (.int ch), .val (.int sel), .val (.long a), .second, .val (.long b), .second, .val (.long c), .second, .val (.long xx), .second, .val (.int len1), .val (.int len2), .val (.int c0), .val (.int c1), .val (.int d0), .val (.int d1), .val (.int sp), .val (.long a2), .second, .unset, .unset, .unset, .unset, .unset, .unset, .unset, .unset, .unset, .unset, .unset] [(.long b2)]) := by
          intro b2
          refine Go.of (T' := T0) (g' := (mkF mM 124 #[.val (.int ch), .val (.int sel), .val (.long a), .second, .val (.long b), .second, .val (.long c), .second, .val (.long xx), .second, .val (.int len1), .val (.int len2), .val (.int c0), .val (.int c1), .val (.int d0), .val (.int d1), .val (.int sp), .val (.long a2), .second, .val (.long b2), .second, .unset, .unset, .unset, .unset, .unset, .unset, .unset, .unset, .unset] [])) (fun _ k => XS.lstore X0.hh X0.hx rfl (hb hby at_122) rfl (l' := #[.val (.int ch), .val (.int sel), .val (.long a), .second, .val (.long b), .second, .val (.long c), .second, .val (.long xx), .second, .val (.int len1), .val (.int len2), .val (.int c0), .val (.int c1), .val (.int d0), .val (.int d1), .val (.int sp), .val (.long a2), .second, .val (.long b2), .second, .unset, .unset, .unset, .unset, .unset, .unset, .unset, .unset, .unset]) rfl k) ?_
          refine Go.of (T' := T0) (g' := (mkF mM 125 #[.val (.int ch), .val (.int sel), .val (.long a), .second, .val (.long b), .second, .val (.long c), .second, .val (.long xx), .second, .val (.int len1), .val (.int len2), .val (.int c0), .val (.int c1), .val (.int d0), .val (.int d1), .val (.int sp), .val (.long a2), .second, .val (.long b2), .second, .unset, .unset, .unset, .unset, .unset, .unset, .unset, .unset, .unset] [(.int sel)])) (fun _ k => XS.iloadN X0.hh X0.hx rfl (hb hby at_124) rfl k) ?_
          refine Go.of (T' := T0) (g' := (mkF mM 127 #[.val (.int ch), .val (.int sel), .val (.long a), .second, .val (.long b), .second, .val (.long c), .second, .val (.long xx), .second, .val (.int len1), .val (.int len2), .val (.int c0), .val (.int c1), .val (.int d0), .val (.int d1), .val (.int sp), .val (.long a2), .second, .val (.long b2), .second, .unset, .unset, .unset, .unset, .unset, .unset, .unset, .unset, .unset] [(.int (7 : Int32)), (.int sel)])) (fun _ k => XS.bipush X0.hh X0.hx rfl (hb hby at_125) k) ?_
          refine Go.of (T' := T0) (g' := (mkF mM 128 #[.val (.int ch), .val (.int sel), .val (.long a), .second, .val (.long b), .second, .val (.long c), .second, .val (.long xx), .second, .val (.int len1), .val (.int len2), .val (.int c0), .val (.int c1), .val (.int d0), .val (.int d1), .val (.int sp), .val (.long a2), .second, .val (.long b2), .second, .unset, .unset, .unset, .unset, .unset, .unset, .unset, .unset, .unset] [(.int ((sel.toUInt32 >>> ((7 : Int32) &&& 31).toUInt32).toInt32))])) (fun _ k => XS.iushr X0.hh X0.hx rfl (hb hby at_127) rfl k) ?_
          refine Go.of (T' := T0) (g' := (mkF mM 129 #[.val (.int ch), .val (.int sel), .val (.long a), .second, .val (.long b), .second, .val (.long c), .second, .val (.long xx), .second, .val (.int len1), .val (.int len2), .val (.int c0), .val (.int c1), .val (.int d0), .val (.int d1), .val (.int sp), .val (.long a2), .second, .val (.long b2), .second, .unset, .unset, .unset, .unset, .unset, .unset, .unset, .unset, .unset] [(.int (1 : Int32)), (.int ((sel.toUInt32 >>> ((7 : Int32) &&& 31).toUInt32).toInt32))])) (fun _ k => XS.iconst X0.hh X0.hx rfl (hb hby at_128) k) ?_
          refine Go.of (T' := T0) (g' := (mkF mM 130 #[.val (.int ch), .val (.int sel), .val (.long a), .second, .val (.long b), .second, .val (.long c), .second, .val (.long xx), .second, .val (.int len1), .val (.int len2), .val (.int c0), .val (.int c1), .val (.int d0), .val (.int d1), .val (.int sp), .val (.long a2), .second, .val (.long b2), .second, .unset, .unset, .unset, .unset, .unset, .unset, .unset, .unset, .unset] [(.int (((sel.toUInt32 >>> ((7 : Int32) &&& 31).toUInt32).toInt32) &&& (1 : Int32)))])) (fun _ k => XS.iand X0.hh X0.hx rfl (hb hby at_129) rfl k) ?_
          have J4 : ∀ (c2 : Int64), Go pP eE bB (Pst room_1 sS Z consts_1 [] (Q_law_rm )) T0 (mkF mM 143 #[.val (.int ch), .val (.int sel), .val (.long a), .second, .val (.long b), .second, .val (.long c), .second, .val (.long xx), .second, .val (.int len1), .val (.int len2), .val (.int c0), .val (.int c1), .val (.int d0), .val (.int d1), .val (.int sp), .val (.long a2), .second, .val (.long b2), .second, .unset, .unset, .unset, .unset, .unset, .unset, .unset, .unset, .unset] [(.long c2)]) := by
            intro c2
            refine Go.of (T' := T0) (g' := (mkF mM 145 #[.val (.int ch), .val (.int sel), .val (.long a), .second, .val (.long b), .second, .val (.long c), .second, .val (.long xx), .second, .val (.int len1), .val (.int len2), .val (.int c0), .val (.int c1), .val (.int d0), .val (.int d1), .val (.int sp), .val (.long a2), .second, .val (.long b2), .second, .val (.long c2), .second, .unset, .unset, .unset, .unset, .unset, .unset, .unset] [])) (fun _ k => XS.lstore X0.hh X0.hx rfl (hb hby at_143) rfl (l' := #[.val (.int ch), .val (.int sel), .val (.long a), .second, .val (.long b), .second, .val (.long c), .second, .val (.long xx), .second, .val (.int len1), .val (.int len2), .val (.int c0), .val (.int c1), .val (.int d0), .val (.int d1), .val (.int sp), .val (.long a2), .second, .val (.long b2), .second, .val (.long c2), .second, .unset, .unset, .unset, .unset, .unset, .unset, .unset]) rfl k) ?_
            refine Go.of (T' := T0) (g' := (mkF mM 146 #[.val (.int ch), .val (.int sel), .val (.long a), .second, .val (.long b), .second, .val (.long c), .second, .val (.long xx), .second, .val (.int len1), .val (.int len2), .val (.int c0), .val (.int c1), .val (.int d0), .val (.int d1), .val (.int sp), .val (.long a2), .second, .val (.long b2), .second, .val (.long c2), .second, .unset, .unset, .unset, .unset, .unset, .unset, .unset] [(.int sel)])) (fun _ k => XS.iloadN X0.hh X0.hx rfl (hb hby at_145) rfl k) ?_
            refine Go.of (T' := T0) (g' := (mkF mM 148 #[.val (.int ch), .val (.int sel), .val (.long a), .second, .val (.long b), .second, .val (.long c), .second, .val (.long xx), .second, .val (.int len1), .val (.int len2), .val (.int c0), .val (.int c1), .val (.int d0), .val (.int d1), .val (.int sp), .val (.long a2), .second, .val (.long b2), .second, .val (.long c2), .second, .unset, .unset, .unset, .unset, .unset, .unset, .unset] [(.int (8 : Int32)), (.int sel)])) (fun _ k => XS.bipush X0.hh X0.hx rfl (hb hby at_146) k) ?_
            refine Go.of (T' := T0) (g' := (mkF mM 149 #[.val (.int ch), .val (.int sel), .val (.long a), .second, .val (.long b), .second, .val (.long c), .second, .val (.long xx), .second, .val (.int len1), .val (.int len2), .val (.int c0), .val (.int c1), .val (.int d0), .val (.int d1), .val (.int sp), .val (.long a2), .second, .val (.long b2), .second, .val (.long c2), .second, .unset, .unset, .unset, .unset, .unset, .unset, .unset] [(.int ((sel.toUInt32 >>> ((8 : Int32) &&& 31).toUInt32).toInt32))])) (fun _ k => XS.iushr X0.hh X0.hx rfl (hb hby at_148) rfl k) ?_
            refine Go.of (T' := T0) (g' := (mkF mM 150 #[.val (.int ch), .val (.int sel), .val (.long a), .second, .val (.long b), .second, .val (.long c), .second, .val (.long xx), .second, .val (.int len1), .val (.int len2), .val (.int c0), .val (.int c1), .val (.int d0), .val (.int d1), .val (.int sp), .val (.long a2), .second, .val (.long b2), .second, .val (.long c2), .second, .unset, .unset, .unset, .unset, .unset, .unset, .unset] [(.int (3 : Int32)), (.int ((sel.toUInt32 >>> ((8 : Int32) &&& 31).toUInt32).toInt32))])) (fun _ k => XS.iconst X0.hh X0.hx rfl (hb hby at_149) k) ?_
            refine Go.of (T' := T0) (g' := (mkF mM 151 #[.val (.int ch), .val (.int sel), .val (.long a), .second, .val (.long b), .second, .val (.long c), .second, .val (.long xx), .second, .val (.int len1), .val (.int len2), .val (.int c0), .val (.int c1), .val (.int d0), .val (.int d1), .val (.int sp), .val (.long a2), .second, .val (.long b2), .second, .val (.long c2), .second, .unset, .unset, .unset, .unset, .unset, .unset, .unset] [(.int (((sel.toUInt32 >>> ((8 : Int32) &&& 31).toUInt32).toInt32) &&& (3 : Int32)))])) (fun _ k => XS.iand X0.hh X0.hx rfl (hb hby at_150) rfl k) ?_
            refine Go.of (T' := T0) (g' := (mkF mM 153 #[.val (.int ch), .val (.int sel), .val (.long a), .second, .val (.long b), .second, .val (.long c), .second, .val (.long xx), .second, .val (.int len1), .val (.int len2), .val (.int c0), .val (.int c1), .val (.int d0), .val (.int d1), .val (.int sp), .val (.long a2), .second, .val (.long b2), .second, .val (.long c2), .second, .val (.int (((sel.toUInt32 >>> ((8 : Int32) &&& 31).toUInt32).toInt32) &&& (3 : Int32))), .unset, .unset, .unset, .unset, .unset, .unset] [])) (fun _ k => XS.istore X0.hh X0.hx rfl (hb hby at_151) rfl (l' := #[.val (.int ch), .val (.int sel), .val (.long a), .second, .val (.long b), .second, .val (.long c), .second, .val (.long xx), .second, .val (.int len1), .val (.int len2), .val (.int c0), .val (.int c1), .val (.int d0), .val (.int d1), .val (.int sp), .val (.long a2), .second, .val (.long b2), .second, .val (.long c2), .second, .val (.int (((sel.toUInt32 >>> ((8 : Int32) &&& 31).toUInt32).toInt32) &&& (3 : Int32))), .unset, .unset, .unset, .unset, .unset, .unset]) rfl k) ?_
            refine Go.of (T' := T0) (g' := (mkF mM 155 #[.val (.int ch), .val (.int sel), .val (.long a), .second, .val (.long b), .second, .val (.long c), .second, .val (.long xx), .second, .val (.int len1), .val (.int len2), .val (.int c0), .val (.int c1), .val (.int d0), .val (.int d1), .val (.int sp), .val (.long a2), .second, .val (.long b2), .second, .val (.long c2), .second, .val (.int (((sel.toUInt32 >>> ((8 : Int32) &&& 31).toUInt32).toInt32) &&& (3 : Int32))), .unset, .unset, .unset, .unset, .unset, .unset] [(.int len1)])) (fun _ k => XS.iload X0.hh X0.hx rfl (hb hby at_153) rfl k) ?_
            refine Go.of (T' := T0) (g' := (mkF mM 157 #[.val (.int ch), .val (.int sel), .val (.long a), .second, .val (.long b), .second, .val (.long c), .second, .val (.long xx), .second, .val (.int len1), .val (.int len2), .val (.int c0), .val (.int c1), .val (.int d0), .val (.int d1), .val (.int sp), .val (.long a2), .second, .val (.long b2), .second, .val (.long c2), .second, .val (.int (((sel.toUInt32 >>> ((8 : Int32) &&& 31).toUInt32).toInt32) &&& (3 : Int32))), .unset, .unset, .unset, .unset, .unset, .unset] [(.int c0), (.int len1)])) (fun _ k => XS.iload X0.hh X0.hx rfl (hb hby at_155) rfl k) ?_
            refine Go.of (T' := T0) (g' := (mkF mM 159 #[.val (.int ch), .val (.int sel), .val (.long a), .second, .val (.long b), .second, .val (.long c), .second, .val (.long xx), .second, .val (.int len1), .val (.int len2), .val (.int c0), .val (.int c1), .val (.int d0), .val (.int d1), .val (.int sp), .val (.long a2), .second, .val (.long b2), .second, .val (.long c2), .second, .val (.int (((sel.toUInt32 >>> ((8 : Int32) &&& 31).toUInt32).toInt32) &&& (3 : Int32))), .unset, .unset, .unset, .unset, .unset, .unset] [(.int c1), (.int c0), (.int len1)])) (fun _ k => XS.iload X0.hh X0.hx rfl (hb hby at_157) rfl k) ?_
            refine X0.callS (W := 0) (argsL := [(.int len1), (.int c0), (.int c1)]) (rest := []) (hw _ (List.mem_of_getElem? (i := 0) rfl)) (hw _ (List.mem_of_getElem? (i := 1) rfl)) (hw _ (List.mem_of_getElem? (i := 2) rfl)) (hw _ (List.mem_of_getElem? (i := 3) rfl)) (by decide) (mk_rm l Z a0 G len1 c0 c1 h0 r3 r4) pd_3 rfl rfl rfl (by rw [hml]; rfl) (by decide) (by decide) (by decide) (by decide) (hb hby at_159) all0 all0 ?_
            intro v1 T1 h1 S1 X1 K1 Q1
            obtain ⟨s1, t1, k1, rfl, ge1, S1⟩ := Q1
            have X1 := X1 [] all0
            have z1 : h0.size ≤ h1.size := K1.1
            show Go pP eE bB _ T1 (mkF mM 162 #[.val (.int ch), .val (.int sel), .val (.long a), .second, .val (.long b), .second, .val (.long c), .second, .val (.long xx), .second, .val (.int len1), .val (.int len2), .val (.int c0), .val (.int c1), .val (.int d0), .val (.int d1), .val (.int sp), .val (.long a2), .second, .val (.long b2), .second, .val (.long c2), .second, .val (.int (((sel.toUInt32 >>> ((8 : Int32) &&& 31).toUInt32).toInt32) &&& (3 : Int32))), .unset, .unset, .unset, .unset, .unset, .unset] [(.ref s1)])
            have ls1 := S1.lt
            have lt1 := S1.lt'
            refine Go.of (T' := T1) (g' := (mkF mM 164 #[.val (.int ch), .val (.int sel), .val (.long a), .second, .val (.long b), .second, .val (.long c), .second, .val (.long xx), .second, .val (.int len1), .val (.int len2), .val (.int c0), .val (.int c1), .val (.int d0), .val (.int d1), .val (.int sp), .val (.long a2), .second, .val (.long b2), .second, .val (.long c2), .second, .val (.int (((sel.toUInt32 >>> ((8 : Int32) &&& 31).toUInt32).toInt32) &&& (3 : Int32))), .val (.ref s1), .unset, .unset, .unset, .unset, .unset] [])) (fun _ k => XS.astore X1.hh X1.hx rfl (hb hby at_162) rfl rfl (l' := #[.val (.int ch), .val (.int sel), .val (.long a), .second, .val (.long b), .second, .val (.long c), .second, .val (.long xx), .second, .val (.int len1), .val (.int len2), .val (.int c0), .val (.int c1), .val (.int d0), .val (.int d1), .val (.int sp), .val (.long a2), .second, .val (.long b2), .second, .val (.long c2), .second, .val (.int (((sel.toUInt32 >>> ((8 : Int32) &&& 31).toUInt32).toInt32) &&& (3 : Int32))), .val (.ref s1), .unset, .unset, .unset, .unset, .unset]) rfl k) ?_
            refine Go.of (T' := T1) (g' := (mkF mM 166 #[.val (.int ch), .val (.int sel), .val (.long a), .second, .val (.long b), .second, .val (.long c), .second, .val (.long xx), .second, .val (.int len1), .val (.int len2), .val (.int c0), .val (.int c1), .val (.int d0), .val (.int d1), .val (.int sp), .val (.long a2), .second, .val (.long b2), .second, .val (.long c2), .second, .val (.int (((sel.toUInt32 >>> ((8 : Int32) &&& 31).toUInt32).toInt32) &&& (3 : Int32))), .val (.ref s1), .unset, .unset, .unset, .unset, .unset] [(.int len2)])) (fun _ k => XS.iload X1.hh X1.hx rfl (hb hby at_164) rfl k) ?_
            refine Go.of (T' := T1) (g' := (mkF mM 168 #[.val (.int ch), .val (.int sel), .val (.long a), .second, .val (.long b), .second, .val (.long c), .second, .val (.long xx), .second, .val (.int len1), .val (.int len2), .val (.int c0), .val (.int c1), .val (.int d0), .val (.int d1), .val (.int sp), .val (.long a2), .second, .val (.long b2), .second, .val (.long c2), .second, .val (.int (((sel.toUInt32 >>> ((8 : Int32) &&& 31).toUInt32).toInt32) &&& (3 : Int32))), .val (.ref s1), .unset, .unset, .unset, .unset, .unset] [(.int d0), (.int len2)])) (fun _ k => XS.iload X1.hh X1.hx rfl (hb hby at_166) rfl k) ?_
            refine Go.of (T' := T1) (g' := (mkF mM 170 #[.val (.int ch), .val (.int sel), .val (.long a), .second, .val (.long b), .second, .val (.long c), .second, .val (.long xx), .second, .val (.int len1), .val (.int len2), .val (.int c0), .val (.int c1), .val (.int d0), .val (.int d1), .val (.int sp), .val (.long a2), .second, .val (.long b2), .second, .val (.long c2), .second, .val (.int (((sel.toUInt32 >>> ((8 : Int32) &&& 31).toUInt32).toInt32) &&& (3 : Int32))), .val (.ref s1), .unset, .unset, .unset, .unset, .unset] [(.int d1), (.int d0), (.int len2)])) (fun _ k => XS.iload X1.hh X1.hx rfl (hb hby at_168) rfl k) ?_
            refine X1.callS (W := 0) (argsL := [(.int len2), (.int d0), (.int d1)]) (rest := []) (hw _ (List.mem_of_getElem? (i := 0) rfl)) (hw _ (List.mem_of_getElem? (i := 1) rfl)) (hw _ (List.mem_of_getElem? (i := 2) rfl)) (hw _ (List.mem_of_getElem? (i := 3) rfl)) (by decide) (mk_rm l Z a0 G len2 d0 d1 h1 r5 r6) pd_3 rfl rfl rfl (by rw [hml]; rfl) (by decide) (by decide) (by decide) (by decide) (hb hby at_170) all0 all0 ?_
            intro v2 T2 h2 S2 X2 K2 Q2
            obtain ⟨s2, t2, k2, rfl, ge2, S2⟩ := Q2
            have X2 := X2 [] all0
            have z2 : h1.size ≤ h2.size := K2.1
            show Go pP eE bB _ T2 (mkF mM 173 #[.val (.int ch), .val (.int sel), .val (.long a), .second, .val (.long b), .second, .val (.long c), .second, .val (.long xx), .second, .val (.int len1), .val (.int len2), .val (.int c0), .val (.int c1), .val (.int d0), .val (.int d1), .val (.int sp), .val (.long a2), .second, .val (.long b2), .second, .val (.long c2), .second, .val (.int (((sel.toUInt32 >>> ((8 : Int32) &&& 31).toUInt32).toInt32) &&& (3 : Int32))), .val (.ref s1), .unset, .unset, .unset, .unset, .unset] [(.ref s2)])
            have ls2 := S2.lt
            have lt2 := S2.lt'
            refine Go.of (T' := T2) (g' := (mkF mM 175 #[.val (.int ch), .val (.int sel), .val (.long a), .second, .val (.long b), .second, .val (.long c), .second, .val (.long xx), .second, .val (.int len1), .val (.int len2), .val (.int c0), .val (.int c1), .val (.int d0), .val (.int d1), .val (.int sp), .val (.long a2), .second, .val (.long b2), .second, .val (.long c2), .second, .val (.int (((sel.toUInt32 >>> ((8 : Int32) &&& 31).toUInt32).toInt32) &&& (3 : Int32))), .val (.ref s1), .val (.ref s2), .unset, .unset, .unset, .unset] [])) (fun _ k => XS.astore X2.hh X2.hx rfl (hb hby at_173) rfl rfl (l' := #[.val (.int ch), .val (.int sel), .val (.long a), .second, .val (.long b), .second, .val (.long c), .second, .val (.long xx), .second, .val (.int len1), .val (.int len2), .val (.int c0), .val (.int c1), .val (.int d0), .val (.int d1), .val (.int sp), .val (.long a2), .second, .val (.long b2), .second, .val (.long c2), .second, .val (.int (((sel.toUInt32 >>> ((8 : Int32) &&& 31).toUInt32).toInt32) &&& (3 : Int32))), .val (.ref s1), .val (.ref s2), .unset, .unset, .unset, .unset]) rfl k) ?_
            refine X2.newO (hw _ (List.mem_of_getElem? (i := 26) rfl)) (hw _ (List.mem_of_getElem? (i := 27) rfl)) (hw _ (List.mem_of_getElem? (i := 28) rfl)) (hb hby at_175) (by decide) (by decide) ?_
            intro T3 h3 p_ g_p_ X3 E3 A_p_ D_p_
            have z3 : h2.size ≤ h3.size := E3.1
            have l_p_ : p_ < h3.size := A_p_.lt
            have F_path_p_ : Fld Z h3 p_ "com/example/pathloom/pathloom/model/PathCount" "path" "Ljava/lang/String;" .null := D_p_ (Or.inr (hw _ (List.mem_of_getElem? (i := 34) rfl))) (ty := (.object "java/lang/String")) (by decide)
            have F_instances_p_ : Fld Z h3 p_ "com/example/pathloom/pathloom/model/PathCount" "instances" "J" (.long (0 : Int64)) := D_p_ (Or.inr (hw _ (List.mem_of_getElem? (i := 36) rfl))) (ty := .long) (by decide)
            have F_carriers_p_ : Fld Z h3 p_ "com/example/pathloom/pathloom/model/PathCount" "carriers" "J" (.long (0 : Int64)) := D_p_ (Or.inr (hw _ (List.mem_of_getElem? (i := 38) rfl))) (ty := .long) (by decide)
            have F_structured_p_ : Fld Z h3 p_ "com/example/pathloom/pathloom/model/PathCount" "structured" "J" (.long (0 : Int64)) := D_p_ (Or.inr (hw _ (List.mem_of_getElem? (i := 40) rfl))) (ty := .long) (by decide)
            show Go pP eE bB _ T3 (mkF mM 178 #[.val (.int ch), .val (.int sel), .val (.long a), .second, .val (.long b), .second, .val (.long c), .second, .val (.long xx), .second, .val (.int len1), .val (.int len2), .val (.int c0), .val (.int c1), .val (.int d0), .val (.int d1), .val (.int sp), .val (.long a2), .second, .val (.long b2), .second, .val (.long c2), .second, .val (.int (((sel.toUInt32 >>> ((8 : Int32) &&& 31).toUInt32).toInt32) &&& (3 : Int32))), .val (.ref s1), .val (.ref s2), .unset, .unset, .unset, .unset] [(.ref p_)])
            refine Go.of (T' := T3) (g' := (mkF mM 179 #[.val (.int ch), .val (.int sel), .val (.long a), .second, .val (.long b), .second, .val (.long c), .second, .val (.long xx), .second, .val (.int len1), .val (.int len2), .val (.int c0), .val (.int c1), .val (.int d0), .val (.int d1), .val (.int sp), .val (.long a2), .second, .val (.long b2), .second, .val (.long c2), .second, .val (.int (((sel.toUInt32 >>> ((8 : Int32) &&& 31).toUInt32).toInt32) &&& (3 : Int32))), .val (.ref s1), .val (.ref s2), .unset, .unset, .unset, .unset] [(.ref p_), (.ref p_)])) (fun _ k => XS.dup X3.hh X3.hx rfl (hb hby at_178) rfl rfl k) ?_
            refine Go.of (T' := T3) (g' := (mkF mM 181 #[.val (.int ch), .val (.int sel), .val (.long a), .second, .val (.long b), .second, .val (.long c), .second, .val (.long xx), .second, .val (.int len1), .val (.int len2), .val (.int c0), .val (.int c1), .val (.int d0), .val (.int d1), .val (.int sp), .val (.long a2), .second, .val (.long b2), .second, .val (.long c2), .second, .val (.int (((sel.toUInt32 >>> ((8 : Int32) &&& 31).toUInt32).toInt32) &&& (3 : Int32))), .val (.ref s1), .val (.ref s2), .unset, .unset, .unset, .unset] [(.ref s1), (.ref p_), (.ref p_)])) (fun _ k => XS.aload X3.hh X3.hx rfl (hb hby at_179) rfl rfl k) ?_
            refine Go.of (T' := T3) (g' := (mkF mM 182 #[.val (.int ch), .val (.int sel), .val (.long a), .second, .val (.long b), .second, .val (.long c), .second, .val (.long xx), .second, .val (.int len1), .val (.int len2), .val (.int c0), .val (.int c1), .val (.int d0), .val (.int d1), .val (.int sp), .val (.long a2), .second, .val (.long b2), .second, .val (.long c2), .second, .val (.int (((sel.toUInt32 >>> ((8 : Int32) &&& 31).toUInt32).toInt32) &&& (3 : Int32))), .val (.ref s1), .val (.ref s2), .unset, .unset, .unset, .unset] [(.long a), (.ref s1), (.ref p_), (.ref p_)])) (fun _ k => XS.lloadN X3.hh X3.hx rfl (hb hby at_181) rfl k) ?_
            refine Go.of (T' := T3) (g' := (mkF mM 184 #[.val (.int ch), .val (.int sel), .val (.long a), .second, .val (.long b), .second, .val (.long c), .second, .val (.long xx), .second, .val (.int len1), .val (.int len2), .val (.int c0), .val (.int c1), .val (.int d0), .val (.int d1), .val (.int sp), .val (.long a2), .second, .val (.long b2), .second, .val (.long c2), .second, .val (.int (((sel.toUInt32 >>> ((8 : Int32) &&& 31).toUInt32).toInt32) &&& (3 : Int32))), .val (.ref s1), .val (.ref s2), .unset, .unset, .unset, .unset] [(.long b), (.long a), (.ref s1), (.ref p_), (.ref p_)])) (fun _ k => XS.lload X3.hh X3.hx rfl (hb hby at_182) rfl k) ?_
            refine Go.of (T' := T3) (g' := (mkF mM 186 #[.val (.int ch), .val (.int sel), .val (.long a), .second, .val (.long b), .second, .val (.long c), .second, .val (.long xx), .second, .val (.int len1), .val (.int len2), .val (.int c0), .val (.int c1), .val (.int d0), .val (.int d1), .val (.int sp), .val (.long a2), .second, .val (.long b2), .second, .val (.long c2), .second, .val (.int (((sel.toUInt32 >>> ((8 : Int32) &&& 31).toUInt32).toInt32) &&& (3 : Int32))), .val (.ref s1), .val (.ref s2), .unset, .unset, .unset, .unset] [(.long c), (.long b), (.long a), (.ref s1), (.ref p_), (.ref p_)])) (fun _ k => XS.lload X3.hh X3.hx rfl (hb hby at_184) rfl k) ?_
            refine X3.callC (W := 1) (argsL := [(.ref s1), (.long a), (.long b), (.long c)]) (rest := [(.ref p_)]) (a := p_) rfl (hw _ (List.mem_of_getElem? (i := 29) rfl)) (hw _ (List.mem_of_getElem? (i := 30) rfl)) (hw _ (List.mem_of_getElem? (i := 28) rfl)) (hw _ (List.mem_of_getElem? (i := 31) rfl)) (by decide) (pc_init l Z a0 G p_ s1 a b c h3 A_p_ F_path_p_ F_instances_p_ F_carriers_p_ F_structured_p_ (by omega)) pd_4 rfl rfl rfl (by rw [hml]; rfl) (by decide) (by decide) (by decide) (by decide) (hb hby at_186) (allS (Or.inr (by omega)) all0) all0 ?_
            intro v4 T4 h4 S4 X4 K4 Q4
            obtain ⟨rfl, Pp_⟩ := Q4
            have X4 := X4 [] all0
            have z4 : h3.size ≤ h4.size := K4.1
            show Go pP eE bB _ T4 (mkF mM 189 #[.val (.int ch), .val (.int sel), .val (.long a), .second, .val (.long b), .second, .val (.long c), .second, .val (.long xx), .second, .val (.int len1), .val (.int len2), .val (.int c0), .val (.int c1), .val (.int d0), .val (.int d1), .val (.int sp), .val (.long a2), .second, .val (.long b2), .second, .val (.long c2), .second, .val (.int (((sel.toUInt32 >>> ((8 : Int32) &&& 31).toUInt32).toInt32) &&& (3 : Int32))), .val (.ref s1), .val (.ref s2), .unset, .unset, .unset, .unset] [(.ref p_)])
            refine Go.of (T' := T4) (g' := (mkF mM 191 #[.val (.int ch), .val (.int sel), .val (.long a), .second, .val (.long b), .second, .val (.long c), .second, .val (.long xx), .second, .val (.int len1), .val (.int len2), .val (.int c0), .val (.int c1), .val (.int d0), .val (.int d1), .val (.int sp), .val (.long a2), .second, .val (.long b2), .second, .val (.long c2), .second, .val (.int (((sel.toUInt32 >>> ((8 : Int32) &&& 31).toUInt32).toInt32) &&& (3 : Int32))), .val (.ref s1), .val (.ref s2), .val (.ref p_), .unset, .unset, .unset] [])) (fun _ k => XS.astore X4.hh X4.hx rfl (hb hby at_189) rfl rfl (l' := #[.val (.int ch), .val (.int sel), .val (.long a), .second, .val (.long b), .second, .val (.long c), .second, .val (.long xx), .second, .val (.int len1), .val (.int len2), .val (.int c0), .val (.int c1), .val (.int d0), .val (.int d1), .val (.int sp), .val (.long a2), .second, .val (.long b2), .second, .val (.long c2), .second, .val (.int (((sel.toUInt32 >>> ((8 : Int32) &&& 31).toUInt32).toInt32) &&& (3 : Int32))), .val (.ref s1), .val (.ref s2), .val (.ref p_), .unset, .unset, .unset]) rfl k) ?_
            refine X4.newO (hw _ (List.mem_of_getElem? (i := 26) rfl)) (hw _ (List.mem_of_getElem? (i := 27) rfl)) (hw _ (List.mem_of_getElem? (i := 28) rfl)) (hb hby at_191) (by decide) (by decide) ?_
            intro T5 h5 q_ g_q_ X5 E5 A_q_ D_q_
            have z5 : h4.size ≤ h5.size := E5.1
            have l_q_ : q_ < h5.size := A_q_.lt
            have F_path_q_ : Fld Z h5 q_ "com/example/pathloom/pathloom/model/PathCount" "path" "Ljava/lang/String;" .null := D_q_ (Or.inr (hw _ (List.mem_of_getElem? (i := 34) rfl))) (ty := (.object "java/lang/String")) (by decide)
            have F_instances_q_ : Fld Z h5 q_ "com/example/pathloom/pathloom/model/PathCount" "instances" "J" (.long (0 : Int64)) := D_q_ (Or.inr (hw _ (List.mem_of_getElem? (i := 36) rfl))) (ty := .long) (by decide)
            have F_carriers_q_ : Fld Z h5 q_ "com/example/pathloom/pathloom/model/PathCount" "carriers" "J" (.long (0 : Int64)) := D_q_ (Or.inr (hw _ (List.mem_of_getElem? (i := 38) rfl))) (ty := .long) (by decide)
            have F_structured_q_ : Fld Z h5 q_ "com/example/pathloom/pathloom/model/PathCount" "structured" "J" (.long (0 : Int64)) := D_q_ (Or.inr (hw _ (List.mem_of_getElem? (i := 40) rfl))) (ty := .long) (by decide)
            show Go pP eE bB _ T5 (mkF mM 194 #[.val (.int ch), .val (.int sel), .val (.long a), .second, .val (.long b), .second, .val (.long c), .second, .val (.long xx), .second, .val (.int len1), .val (.int len2), .val (.int c0), .val (.int c1), .val (.int d0), .val (.int d1), .val (.int sp), .val (.long a2), .second, .val (.long b2), .second, .val (.long c2), .second, .val (.int (((sel.toUInt32 >>> ((8 : Int32) &&& 31).toUInt32).toInt32) &&& (3 : Int32))), .val (.ref s1), .val (.ref s2), .val (.ref p_), .unset, .unset, .unset] [(.ref q_)])
            refine Go.of (T' := T5) (g' := (mkF mM 195 #[.val (.int ch), .val (.int sel), .val (.long a), .second, .val (.long b), .second, .val (.long c), .second, .val (.long xx), .second, .val (.int len1), .val (.int len2), .val (.int c0), .val (.int c1), .val (.int d0), .val (.int d1), .val (.int sp), .val (.long a2), .second, .val (.long b2), .second, .val (.long c2), .second, .val (.int (((sel.toUInt32 >>> ((8 : Int32) &&& 31).toUInt32).toInt32) &&& (3 : Int32))), .val (.ref s1), .val (.ref s2), .val (.ref p_), .unset, .unset, .unset] [(.ref q_), (.ref q_)])) (fun _ k => XS.dup X5.hh X5.hx rfl (hb hby at_194) rfl rfl k) ?_
            refine Go.of (T' := T5) (g' := (mkF mM 197 #[.val (.int ch), .val (.int sel), .val (.long a), .second, .val (.long b), .second, .val (.long c), .second, .val (.long xx), .second, .val (.int len1), .val (.int len2), .val (.int c0), .val (.int c1), .val (.int d0), .val (.int d1), .val (.int sp), .val (.long a2), .second, .val (.long b2), .second, .val (.long c2), .second, .val (.int (((sel.toUInt32 >>> ((8 : Int32) &&& 31).toUInt32).toInt32) &&& (3 : Int32))), .val (.ref s1), .val (.ref s2), .val (.ref p_), .unset, .unset, .unset] [(.ref s2), (.ref q_), (.ref q_)])) (fun _ k => XS.aload X5.hh X5.hx rfl (hb hby at_195) rfl rfl k) ?_
            refine Go.of (T' := T5) (g' := (mkF mM 199 #[.val (.int ch), .val (.int sel), .val (.long a), .second, .val (.long b), .second, .val (.long c), .second, .val (.long xx), .second, .val (.int len1), .val (.int len2), .val (.int c0), .val (.int c1), .val (.int d0), .val (.int d1), .val (.int sp), .val (.long a2), .second, .val (.long b2), .second, .val (.long c2), .second, .val (.int (((sel.toUInt32 >>> ((8 : Int32) &&& 31).toUInt32).toInt32) &&& (3 : Int32))), .val (.ref s1), .val (.ref s2), .val (.ref p_), .unset, .unset, .unset] [(.long a2), (.ref s2), (.ref q_), (.ref q_)])) (fun _ k => XS.lload X5.hh X5.hx rfl (hb hby at_197) rfl k) ?_
            refine Go.of (T' := T5) (g' := (mkF mM 201 #[.val (.int ch), .val (.int sel), .val (.long a), .second, .val (.long b), .second, .val (.long c), .second, .val (.long xx), .second, .val (.int len1), .val (.int len2), .val (.int c0), .val (.int c1), .val (.int d0), .val (.int d1), .val (.int sp), .val (.long a2), .second, .val (.long b2), .second, .val (.long c2), .second, .val (.int (((sel.toUInt32 >>> ((8 : Int32) &&& 31).toUInt32).toInt32) &&& (3 : Int32))), .val (.ref s1), .val (.ref s2), .val (.ref p_), .unset, .unset, .unset] [(.long b2), (.long a2), (.ref s2), (.ref q_), (.ref q_)])) (fun _ k => XS.lload X5.hh X5.hx rfl (hb hby at_199) rfl k) ?_
            refine Go.of (T' := T5) (g' := (mkF mM 203 #[.val (.int ch), .val (.int sel), .val (.long a), .second, .val (.long b), .second, .val (.long c), .second, .val (.long xx), .second, .val (.int len1), .val (.int len2), .val (.int c0), .val (.int c1), .val (.int d0), .val (.int d1), .val (.int sp), .val (.long a2), .second, .val (.long b2), .second, .val (.long c2), .second, .val (.int (((sel.toUInt32 >>> ((8 : Int32) &&& 31).toUInt32).toInt32) &&& (3 : Int32))), .val (.ref s1), .val (.ref s2), .val (.ref p_), .unset, .unset, .unset] [(.long c2), (.long b2), (.long a2), (.ref s2), (.ref q_), (.ref q_)])) (fun _ k => XS.lload X5.hh X5.hx rfl (hb hby at_201) rfl k) ?_
            refine X5.callC (W := 1) (argsL := [(.ref s2), (.long a2), (.long b2), (.long c2)]) (rest := [(.ref q_)]) (a := q_) rfl (hw _ (List.mem_of_getElem? (i := 29) rfl)) (hw _ (List.mem_of_getElem? (i := 30) rfl)) (hw _ (List.mem_of_getElem? (i := 28) rfl)) (hw _ (List.mem_of_getElem? (i := 31) rfl)) (by decide) (pc_init l Z a0 G q_ s2 a2 b2 c2 h5 A_q_ F_path_q_ F_instances_q_ F_carriers_q_ F_structured_q_ (by omega)) pd_4 rfl rfl rfl (by rw [hml]; rfl) (by decide) (by decide) (by decide) (by decide) (hb hby at_203) (allS (Or.inr (by omega)) all0) all0 ?_
            intro v6 T6 h6 S6 X6 K6 Q6
            obtain ⟨rfl, Pq_⟩ := Q6
            have X6 := X6 [] all0
            have z6 : h5.size ≤ h6.size := K6.1
            show Go pP eE bB _ T6 (mkF mM 206 #[.val (.int ch), .val (.int sel), .val (.long a), .second, .val (.long b), .second, .val (.long c), .second, .val (.long xx), .second, .val (.int len1), .val (.int len2), .val (.int c0), .val (.int c1), .val (.int d0), .val (.int d1), .val (.int sp), .val (.long a2), .second, .val (.long b2), .second, .val (.long c2), .second, .val (.int (((sel.toUInt32 >>> ((8 : Int32) &&& 31).toUInt32).toInt32) &&& (3 : Int32))), .val (.ref s1), .val (.ref s2), .val (.ref p_), .unset, .unset, .unset] [(.ref q_)])
            refine Go.of (T' := T6) (g' := (mkF mM 208 #[.val (.int ch), .val (.int sel), .val (.long a), .second, .val (.long b), .second, .val (.long c), .second, .val (.long xx), .second, .val (.int len1), .val (.int len2), .val (.int c0), .val (.int c1), .val (.int d0), .val (.int d1), .val (.int sp), .val (.long a2), .second, .val (.long b2), .second, .val (.long c2), .second, .val (.int (((sel.toUInt32 >>> ((8 : Int32) &&& 31).toUInt32).toInt32) &&& (3 : Int32))), .val (.ref s1), .val (.ref s2), .val (.ref p_), .val (.ref q_), .unset, .unset] [])) (fun _ k => XS.astore X6.hh X6.hx rfl (hb hby at_206) rfl rfl (l' := #[.val (.int ch), .val (.int sel), .val (.long a), .second, .val (.long b), .second, .val (.long c), .second, .val (.long xx), .second, .val (.int len1), .val (.int len2), .val (.int c0), .val (.int c1), .val (.int d0), .val (.int d1), .val (.int sp), .val (.long a2), .second, .val (.long b2), .second, .val (.long c2), .second, .val (.int (((sel.toUInt32 >>> ((8 : Int32) &&& 31).toUInt32).toInt32) &&& (3 : Int32))), .val (.ref s1), .val (.ref s2), .val (.ref p_), .val (.ref q_), .unset, .unset]) rfl k) ?_
            refine Go.of (T' := T6) (g' := (mkF mM 210 #[.val (.int ch), .val (.int sel), .val (.long a), .second, .val (.long b), .second, .val (.long c), .second, .val (.long xx), .second, .val (.int len1), .val (.int len2), .val (.int c0), .val (.int c1), .val (.int d0), .val (.int d1), .val (.int sp), .val (.long a2), .second, .val (.long b2), .second, .val (.long c2), .second, .val (.int (((sel.toUInt32 >>> ((8 : Int32) &&& 31).toUInt32).toInt32) &&& (3 : Int32))), .val (.ref s1), .val (.ref s2), .val (.ref p_), .val (.ref q_), .unset, .unset] [(.int len1)])) (fun _ k => XS.iload X6.hh X6.hx rfl (hb hby at_208) rfl k) ?_
            refine Go.of (T' := T6) (g' := (mkF mM 212 #[.val (.int ch), .val (.int sel), .val (.long a), .second, .val (.long b), .second, .val (.long c), .second, .val (.long xx), .second, .val (.int len1), .val (.int len2), .val (.int c0), .val (.int c1), .val (.int d0), .val (.int d1), .val (.int sp), .val (.long a2), .second, .val (.long b2), .second, .val (.long c2), .second, .val (.int (((sel.toUInt32 >>> ((8 : Int32) &&& 31).toUInt32).toInt32) &&& (3 : Int32))), .val (.ref s1), .val (.ref s2), .val (.ref p_), .val (.ref q_), .unset, .unset] [(.int len2), (.int len1)])) (fun _ k => XS.iload X6.hh X6.hx rfl (hb hby at_210) rfl k) ?_
            have S1 := (((((S1.keep K2 nin0 nin0).ext E3).keep K4 (ninN (by omega) nin0) (ninN (by omega) nin0)).ext E5).keep K6 (ninN (by omega) nin0) (ninN (by omega) nin0))
            have S2 := ((((S2.ext E3).keep K4 (ninN (by omega) nin0) (ninN (by omega) nin0)).ext E5).keep K6 (ninN (by omega) nin0) (ninN (by omega) nin0))
            have Pp_ := ((Pp_.ext E5).keep K6 (ninN (by omega) nin0))
            have J5 : ∀ (ss : Int32), ((ss = 1 ∧ chs len1 c0 c1 = chs len2 d0 d1) ∨ (ss = 0 ∧ ¬ chs len1 c0 c1 = chs len2 d0 d1)) → Go pP eE bB (Pst room_1 sS Z consts_1 [] (Q_law_rm )) T6 (mkF mM 246 #[.val (.int ch), .val (.int sel), .val (.long a), .second, .val (.long b), .second, .val (.long c), .second, .val (.long xx), .second, .val (.int len1), .val (.int len2), .val (.int c0), .val (.int c1), .val (.int d0), .val (.int d1), .val (.int sp), .val (.long a2), .second, .val (.long b2), .second, .val (.long c2), .second, .val (.int (((sel.toUInt32 >>> ((8 : Int32) &&& 31).toUInt32).toInt32) &&& (3 : Int32))), .val (.ref s1), .val (.ref s2), .val (.ref p_), .val (.ref q_), .unset, .unset] [(.int ss)]) := by
              intro ss hss
              refine Go.of (T' := T6) (g' := (mkF mM 248 #[.val (.int ch), .val (.int sel), .val (.long a), .second, .val (.long b), .second, .val (.long c), .second, .val (.long xx), .second, .val (.int len1), .val (.int len2), .val (.int c0), .val (.int c1), .val (.int d0), .val (.int d1), .val (.int sp), .val (.long a2), .second, .val (.long b2), .second, .val (.long c2), .second, .val (.int (((sel.toUInt32 >>> ((8 : Int32) &&& 31).toUInt32).toInt32) &&& (3 : Int32))), .val (.ref s1), .val (.ref s2), .val (.ref p_), .val (.ref q_), .val (.int ss), .unset] [])) (fun _ k => XS.istore X6.hh X6.hx rfl (hb hby at_246) rfl (l' := #[.val (.int ch), .val (.int sel), .val (.long a), .second, .val (.long b), .second, .val (.long c), .second, .val (.long xx), .second, .val (.int len1), .val (.int len2), .val (.int c0), .val (.int c1), .val (.int d0), .val (.int d1), .val (.int sp), .val (.long a2), .second, .val (.long b2), .second, .val (.long c2), .second, .val (.int (((sel.toUInt32 >>> ((8 : Int32) &&& 31).toUInt32).toInt32) &&& (3 : Int32))), .val (.ref s1), .val (.ref s2), .val (.ref p_), .val (.ref q_), .val (.int ss), .unset]) rfl k) ?_
              refine Go.of (T' := T6) (g' := (mkF mM 250 #[.val (.int ch), .val (.int sel), .val (.long a), .second, .val (.long b), .second, .val (.long c), .second, .val (.long xx), .second, .val (.int len1), .val (.int len2), .val (.int c0), .val (.int c1), .val (.int d0), .val (.int d1), .val (.int sp), .val (.long a2), .second, .val (.long b2), .second, .val (.long c2), .second, .val (.int (((sel.toUInt32 >>> ((8 : Int32) &&& 31).toUInt32).toInt32) &&& (3 : Int32))), .val (.ref s1), .val (.ref s2), .val (.ref p_), .val (.ref q_), .val (.int ss), .unset] [(.int ss)])) (fun _ k => XS.iload X6.hh X6.hx rfl (hb hby at_248) rfl k) ?_
              have J6 : ∀ (ee : Int32), ((ee = 1 ∧ (chs len1 c0 c1 = chs len2 d0 d1 ∧ a = a2 ∧ b = b2 ∧ c = c2)) ∨ (ee = 0 ∧ ¬ (chs len1 c0 c1 = chs len2 d0 d1 ∧ a = a2 ∧ b = b2 ∧ c = c2))) → Go pP eE bB (Pst room_1 sS Z consts_1 [] (Q_law_rm )) T6 (mkF mM 281 #[.val (.int ch), .val (.int sel), .val (.long a), .second, .val (.long b), .second, .val (.long c), .second, .val (.long xx), .second, .val (.int len1), .val (.int len2), .val (.int c0), .val (.int c1), .val (.int d0), .val (.int d1), .val (.int sp), .val (.long a2), .second, .val (.long b2), .second, .val (.long c2), .second, .val (.int (((sel.toUInt32 >>> ((8 : Int32) &&& 31).toUInt32).toInt32) &&& (3 : Int32))), .val (.ref s1), .val (.ref s2), .val (.ref p_), .val (.ref q_), .val (.int ss), .unset] [(.int ee)]) := by
                intro ee he
                refine Go.of (T' := T6) (g' := (mkF mM 283 #[.val (.int ch), .val (.int sel), .val (.long a), .second, .val (.long b), .second, .val (.long c), .second, .val (.long xx), .second, .val (.int len1), .val (.int len2), .val (.int c0), .val (.int c1), .val (.int d0), .val (.int d1), .val (.int sp), .val (.long a2), .second, .val (.long b2), .second, .val (.long c2), .second, .val (.int (((sel.toUInt32 >>> ((8 : Int32) &&& 31).toUInt32).toInt32) &&& (3 : Int32))), .val (.ref s1), .val (.ref s2), .val (.ref p_), .val (.ref q_), .val (.int ss), .val (.int ee)] [])) (fun _ k => XS.istore X6.hh X6.hx rfl (hb hby at_281) rfl (l' := #[.val (.int ch), .val (.int sel), .val (.long a), .second, .val (.long b), .second, .val (.long c), .second, .val (.long xx), .second, .val (.int len1), .val (.int len2), .val (.int c0), .val (.int c1), .val (.int d0), .val (.int d1), .val (.int sp), .val (.long a2), .second, .val (.long b2), .second, .val (.long c2), .second, .val (.int (((sel.toUInt32 >>> ((8 : Int32) &&& 31).toUInt32).toInt32) &&& (3 : Int32))), .val (.ref s1), .val (.ref s2), .val (.ref p_), .val (.ref q_), .val (.int ss), .val (.int ee)]) rfl k) ?_
                refine Go.of (T' := T6) (g' := (mkF mM 285 #[.val (.int ch), .val (.int sel), .val (.long a), .second, .val (.long b), .second, .val (.long c), .second, .val (.long xx), .second, .val (.int len1), .val (.int len2), .val (.int c0), .val (.int c1), .val (.int d0), .val (.int d1), .val (.int sp), .val (.long a2), .second, .val (.long b2), .second, .val (.long c2), .second, .val (.int (((sel.toUInt32 >>> ((8 : Int32) &&& 31).toUInt32).toInt32) &&& (3 : Int32))), .val (.ref s1), .val (.ref s2), .val (.ref p_), .val (.ref q_), .val (.int ss), .val (.int ee)] [(.int (((sel.toUInt32 >>> ((8 : Int32) &&& 31).toUInt32).toInt32) &&& (3 : Int32)))])) (fun _ k => XS.iload X6.hh X6.hx rfl (hb hby at_283) rfl k) ?_
                refine Go.of (T' := T6) (g' := (mkF mM 286 #[.val (.int ch), .val (.int sel), .val (.long a), .second, .val (.long b), .second, .val (.long c), .second, .val (.long xx), .second, .val (.int len1), .val (.int len2), .val (.int c0), .val (.int c1), .val (.int d0), .val (.int d1), .val (.int sp), .val (.long a2), .second, .val (.long b2), .second, .val (.long c2), .second, .val (.int (((sel.toUInt32 >>> ((8 : Int32) &&& 31).toUInt32).toInt32) &&& (3 : Int32))), .val (.ref s1), .val (.ref s2), .val (.ref p_), .val (.ref q_), .val (.int ss), .val (.int ee)] [(.int (1 : Int32)), (.int (((sel.toUInt32 >>> ((8 : Int32) &&& 31).toUInt32).toInt32) &&& (3 : Int32)))])) (fun _ k => XS.iconst X6.hh X6.hx rfl (hb hby at_285) k) ?_
                by_cases hc286 : (((sel.toUInt32 >>> ((8 : Int32) &&& 31).toUInt32).toInt32) &&& (3 : Int32)) = (1 : Int32)
                · refine Go.of (T' := T6) (g' := (mkF mM 289 #[.val (.int ch), .val (.int sel), .val (.long a), .second, .val (.long b), .second, .val (.long c), .second, .val (.long xx), .second, .val (.int len1), .val (.int len2), .val (.int c0), .val (.int c1), .val (.int d0), .val (.int d1), .val (.int sp), .val (.long a2), .second, .val (.long b2), .second, .val (.long c2), .second, .val (.int (((sel.toUInt32 >>> ((8 : Int32) &&& 31).toUInt32).toInt32) &&& (3 : Int32))), .val (.ref s1), .val (.ref s2), .val (.ref p_), .val (.ref q_), .val (.int ss), .val (.int ee)] [])) (fun _ k => XS.icmpNo X6.hh X6.hx rfl (hb hby at_286) rfl (teq hc286).2 k) ?_
                  refine Go.of (T' := T6) (g' := (mkF mM 291 #[.val (.int ch), .val (.int sel), .val (.long a), .second, .val (.long b), .second, .val (.long c), .second, .val (.long xx), .second, .val (.int len1), .val (.int len2), .val (.int c0), .val (.int c1), .val (.int d0), .val (.int d1), .val (.int sp), .val (.long a2), .second, .val (.long b2), .second, .val (.long c2), .second, .val (.int (((sel.toUInt32 >>> ((8 : Int32) &&& 31).toUInt32).toInt32) &&& (3 : Int32))), .val (.ref s1), .val (.ref s2), .val (.ref p_), .val (.ref q_), .val (.int ss), .val (.int ee)] [(.ref p_)])) (fun _ k => XS.aload X6.hh X6.hx rfl (hb hby at_289) rfl rfl k) ?_
                  refine Go.of (T' := T6) (g' := (mkF mM 292 #[.val (.int ch), .val (.int sel), .val (.long a), .second, .val (.long b), .second, .val (.long c), .second, .val (.long xx), .second, .val (.int len1), .val (.int len2), .val (.int c0), .val (.int c1), .val (.int d0), .val (.int d1), .val (.int sp), .val (.long a2), .second, .val (.long b2), .second, .val (.long c2), .second, .val (.int (((sel.toUInt32 >>> ((8 : Int32) &&& 31).toUInt32).toInt32) &&& (3 : Int32))), .val (.ref s1), .val (.ref s2), .val (.ref p_), .val (.ref q_), .val (.int ss), .val (.int ee)] [.null, (.ref p_)])) (fun _ k => XS.aconstNull X6.hh X6.hx rfl (hb hby at_291) k) ?_
                  have Ep0 := Pp_.1
                  refine X6.callV (W := 0) (argsL := [.null]) (rest := []) (a := p_) (C := "com/example/pathloom/pathloom/model/PathCount") (z := (⟨"com/example/pathloom/pathloom/model/PathCount", "equals", "(Ljava/lang/Object;)Z"⟩ : MethodName)) (hw _ (List.mem_of_getElem? (i := 41) rfl)) (hw _ (List.mem_of_getElem? (i := 42) rfl)) (fun _ q => notFace_of_selects (args := #[]) (mvT q (hw _ (List.mem_of_getElem? (i := 44) rfl)))) (hw _ (List.mem_of_getElem? (i := 44) rfl)) (hw _ (List.mem_of_getElem? (i := 43) rfl)) (hw _ (List.mem_of_getElem? (i := 28) rfl)) (hw _ (List.mem_of_getElem? (i := 45) rfl)) (by decide) (eq_null l Z a0 G p_ h6) Ep0 pd_2 rfl rfl rfl (by rw [hml]; rfl) (by decide) (by decide) (by decide) (by decide) (hb hby at_292) all0 all0 ?_
                  intro v7 T7 h7 S7 X7 K7 Q7
                  obtain ⟨rfl, -⟩ := Q7
                  have X7 := X7 [] all0
                  have z7 : h6.size ≤ h7.size := K7.1
                  show Go pP eE bB _ T7 (mkF mM 295 #[.val (.int ch), .val (.int sel), .val (.long a), .second, .val (.long b), .second, .val (.long c), .second, .val (.long xx), .second, .val (.int len1), .val (.int len2), .val (.int c0), .val (.int c1), .val (.int d0), .val (.int d1), .val (.int sp), .val (.long a2), .second, .val (.long b2), .second, .val (.long c2), .second, .val (.int (((sel.toUInt32 >>> ((8 : Int32) &&& 31).toUInt32).toInt32) &&& (3 : Int32))), .val (.ref s1), .val (.ref s2), .val (.ref p_), .val (.ref q_), .val (.int ss), .val (.int ee)] [(.int (0 : Int32))])
                  refine Go.of (T' := T7) (g' := (mkF mM 298 #[.val (.int ch), .val (.int sel), .val (.long a), .second, .val (.long b), .second, .val (.long c), .second, .val (.long xx), .second, .val (.int len1), .val (.int len2), .val (.int c0), .val (.int c1), .val (.int d0), .val (.int d1), .val (.int sp), .val (.long a2), .second, .val (.long b2), .second, .val (.long c2), .second, .val (.int (((sel.toUInt32 >>> ((8 : Int32) &&& 31).toUInt32).toInt32) &&& (3 : Int32))), .val (.ref s1), .val (.ref s2), .val (.ref p_), .val (.ref q_), .val (.int ss), .val (.int ee)] [])) (fun _ k => XS.ifNo X7.hh X7.hx rfl (hb hby at_295) rfl ((if0 _ _).trans (teq rfl).2) k) ?_
                  refine Go.of (T' := T7) (g' := (mkF mM 299 #[.val (.int ch), .val (.int sel), .val (.long a), .second, .val (.long b), .second, .val (.long c), .second, .val (.long xx), .second, .val (.int len1), .val (.int len2), .val (.int c0), .val (.int c1), .val (.int d0), .val (.int d1), .val (.int sp), .val (.long a2), .second, .val (.long b2), .second, .val (.long c2), .second, .val (.int (((sel.toUInt32 >>> ((8 : Int32) &&& 31).toUInt32).toInt32) &&& (3 : Int32))), .val (.ref s1), .val (.ref s2), .val (.ref p_), .val (.ref q_), .val (.int ss), .val (.int ee)] [(.int (1 : Int32))])) (fun _ k => XS.iconst X7.hh X7.hx rfl (hb hby at_298) k) ?_
                  refine Go.of (T' := T7) (g' := (mkF mM 303 #[.val (.int ch), .val (.int sel), .val (.long a), .second, .val (.long b), .second, .val (.long c), .second, .val (.long xx), .second, .val (.int len1), .val (.int len2), .val (.int c0), .val (.int c1), .val (.int d0), .val (.int d1), .val (.int sp), .val (.long a2), .second, .val (.long b2), .second, .val (.long c2), .second, .val (.int (((sel.toUInt32 >>> ((8 : Int32) &&& 31).toUInt32).toInt32) &&& (3 : Int32))), .val (.ref s1), .val (.ref s2), .val (.ref p_), .val (.ref q_), .val (.int ss), .val (.int ee)] [(.int (1 : Int32))])) (fun _ k => XS.goto X7.hh X7.hx rfl (pc0 := 299) (pc' := 303) rfl (hb hby at_299) (by decide) (by decide) k) ?_
                  exact X7.nret (t := .boolean) hret (by simp) hlk (by decide) (by decide) (hb hby at_303) (fun S hS => rfl)
                · refine Go.of (T' := T6) (g' := (mkF mM 304 #[.val (.int ch), .val (.int sel), .val (.long a), .second, .val (.long b), .second, .val (.long c), .second, .val (.long xx), .second, .val (.int len1), .val (.int len2), .val (.int c0), .val (.int c1), .val (.int d0), .val (.int d1), .val (.int sp), .val (.long a2), .second, .val (.long b2), .second, .val (.long c2), .second, .val (.int (((sel.toUInt32 >>> ((8 : Int32) &&& 31).toUInt32).toInt32) &&& (3 : Int32))), .val (.ref s1), .val (.ref s2), .val (.ref p_), .val (.ref q_), .val (.int ss), .val (.int ee)] [])) (fun _ k => XS.icmpYes X6.hh X6.hx rfl (pc0 := 286) (pc' := 304) rfl (hb hby at_286) rfl (feq hc286).2 (by decide) (by decide) k) ?_
                  refine Go.of (T' := T6) (g' := (mkF mM 306 #[.val (.int ch), .val (.int sel), .val (.long a), .second, .val (.long b), .second, .val (.long c), .second, .val (.long xx), .second, .val (.int len1), .val (.int len2), .val (.int c0), .val (.int c1), .val (.int d0), .val (.int d1), .val (.int sp), .val (.long a2), .second, .val (.long b2), .second, .val (.long c2), .second, .val (.int (((sel.toUInt32 >>> ((8 : Int32) &&& 31).toUInt32).toInt32) &&& (3 : Int32))), .val (.ref s1), .val (.ref s2), .val (.ref p_), .val (.ref q_), .val (.int ss), .val (.int ee)] [(.int (((sel.toUInt32 >>> ((8 : Int32) &&& 31).toUInt32).toInt32) &&& (3 : Int32)))])) (fun _ k => XS.iload X6.hh X6.hx rfl (hb hby at_304) rfl k) ?_
                  refine Go.of (T' := T6) (g' := (mkF mM 307 #[.val (.int ch), .val (.int sel), .val (.long a), .second, .val (.long b), .second, .val (.long c), .second, .val (.long xx), .second, .val (.int len1), .val (.int len2), .val (.int c0), .val (.int c1), .val (.int d0), .val (.int d1), .val (.int sp), .val (.long a2), .second, .val (.long b2), .second, .val (.long c2), .second, .val (.int (((sel.toUInt32 >>> ((8 : Int32) &&& 31).toUInt32).toInt32) &&& (3 : Int32))), .val (.ref s1), .val (.ref s2), .val (.ref p_), .val (.ref q_), .val (.int ss), .val (.int ee)] [(.int (2 : Int32)), (.int (((sel.toUInt32 >>> ((8 : Int32) &&& 31).toUInt32).toInt32) &&& (3 : Int32)))])) (fun _ k => XS.iconst X6.hh X6.hx rfl (hb hby at_306) k) ?_
                  by_cases hc307 : (((sel.toUInt32 >>> ((8 : Int32) &&& 31).toUInt32).toInt32) &&& (3 : Int32)) = (2 : Int32)
                  · refine Go.of (T' := T6) (g' := (mkF mM 310 #[.val (.int ch), .val (.int sel), .val (.long a), .second, .val (.long b), .second, .val (.long c), .second, .val (.long xx), .second, .val (.int len1), .val (.int len2), .val (.int c0), .val (.int c1), .val (.int d0), .val (.int d1), .val (.int sp), .val (.long a2), .second, .val (.long b2), .second, .val (.long c2), .second, .val (.int (((sel.toUInt32 >>> ((8 : Int32) &&& 31).toUInt32).toInt32) &&& (3 : Int32))), .val (.ref s1), .val (.ref s2), .val (.ref p_), .val (.ref q_), .val (.int ss), .val (.int ee)] [])) (fun _ k => XS.icmpNo X6.hh X6.hx rfl (hb hby at_307) rfl (teq hc307).2 k) ?_
                    refine Go.of (T' := T6) (g' := (mkF mM 312 #[.val (.int ch), .val (.int sel), .val (.long a), .second, .val (.long b), .second, .val (.long c), .second, .val (.long xx), .second, .val (.int len1), .val (.int len2), .val (.int c0), .val (.int c1), .val (.int d0), .val (.int d1), .val (.int sp), .val (.long a2), .second, .val (.long b2), .second, .val (.long c2), .second, .val (.int (((sel.toUInt32 >>> ((8 : Int32) &&& 31).toUInt32).toInt32) &&& (3 : Int32))), .val (.ref s1), .val (.ref s2), .val (.ref p_), .val (.ref q_), .val (.int ss), .val (.int ee)] [(.ref p_)])) (fun _ k => XS.aload X6.hh X6.hx rfl (hb hby at_310) rfl rfl k) ?_
                    refine Go.of (T' := T6) (g' := (mkF mM 314 #[.val (.int ch), .val (.int sel), .val (.long a), .second, .val (.long b), .second, .val (.long c), .second, .val (.long xx), .second, .val (.int len1), .val (.int len2), .val (.int c0), .val (.int c1), .val (.int d0), .val (.int d1), .val (.int sp), .val (.long a2), .second, .val (.long b2), .second, .val (.long c2), .second, .val (.int (((sel.toUInt32 >>> ((8 : Int32) &&& 31).toUInt32).toInt32) &&& (3 : Int32))), .val (.ref s1), .val (.ref s2), .val (.ref p_), .val (.ref q_), .val (.int ss), .val (.int ee)] [(.ref s1), (.ref p_)])) (fun _ k => XS.aload X6.hh X6.hx rfl (hb hby at_312) rfl rfl k) ?_
                    have Ep0 := Pp_.1
                    refine X6.callV (W := 0) (argsL := [(.ref s1)]) (rest := []) (a := p_) (C := "com/example/pathloom/pathloom/model/PathCount") (z := (⟨"com/example/pathloom/pathloom/model/PathCount", "equals", "(Ljava/lang/Object;)Z"⟩ : MethodName)) (hw _ (List.mem_of_getElem? (i := 41) rfl)) (hw _ (List.mem_of_getElem? (i := 42) rfl)) (fun _ q => notFace_of_selects (args := #[]) (mvT q (hw _ (List.mem_of_getElem? (i := 44) rfl)))) (hw _ (List.mem_of_getElem? (i := 44) rfl)) (hw _ (List.mem_of_getElem? (i := 43) rfl)) (hw _ (List.mem_of_getElem? (i := 28) rfl)) (hw _ (List.mem_of_getElem? (i := 45) rfl)) (by decide) (eq_str l Z a0 G p_ s1 h6 S1.1) Ep0 pd_2 rfl rfl rfl (by rw [hml]; rfl) (by decide) (by decide) (by decide) (by decide) (hb hby at_314) all0 all0 ?_
                    intro v8 T8 h8 S8 X8 K8 Q8
                    obtain ⟨rfl, -⟩ := Q8
                    have X8 := X8 [] all0
                    have z8 : h6.size ≤ h8.size := K8.1
                    show Go pP eE bB _ T8 (mkF mM 317 #[.val (.int ch), .val (.int sel), .val (.long a), .second, .val (.long b), .second, .val (.long c), .second, .val (.long xx), .second, .val (.int len1), .val (.int len2), .val (.int c0), .val (.int c1), .val (.int d0), .val (.int d1), .val (.int sp), .val (.long a2), .second, .val (.long b2), .second, .val (.long c2), .second, .val (.int (((sel.toUInt32 >>> ((8 : Int32) &&& 31).toUInt32).toInt32) &&& (3 : Int32))), .val (.ref s1), .val (.ref s2), .val (.ref p_), .val (.ref q_), .val (.int ss), .val (.int ee)] [(.int (0 : Int32))])
                    refine Go.of (T' := T8) (g' := (mkF mM 320 #[.val (.int ch), .val (.int sel), .val (.long a), .second, .val (.long b), .second, .val (.long c), .second, .val (.long xx), .second, .val (.int len1), .val (.int len2), .val (.int c0), .val (.int c1), .val (.int d0), .val (.int d1), .val (.int sp), .val (.long a2), .second, .val (.long b2), .second, .val (.long c2), .second, .val (.int (((sel.toUInt32 >>> ((8 : Int32) &&& 31).toUInt32).toInt32) &&& (3 : Int32))), .val (.ref s1), .val (.ref s2), .val (.ref p_), .val (.ref q_), .val (.int ss), .val (.int ee)] [])) (fun _ k => XS.ifNo X8.hh X8.hx rfl (hb hby at_317) rfl ((if0 _ _).trans (teq rfl).2) k) ?_
                    refine Go.of (T' := T8) (g' := (mkF mM 321 #[.val (.int ch), .val (.int sel), .val (.long a), .second, .val (.long b), .second, .val (.long c), .second, .val (.long xx), .second, .val (.int len1), .val (.int len2), .val (.int c0), .val (.int c1), .val (.int d0), .val (.int d1), .val (.int sp), .val (.long a2), .second, .val (.long b2), .second, .val (.long c2), .second, .val (.int (((sel.toUInt32 >>> ((8 : Int32) &&& 31).toUInt32).toInt32) &&& (3 : Int32))), .val (.ref s1), .val (.ref s2), .val (.ref p_), .val (.ref q_), .val (.int ss), .val (.int ee)] [(.int (1 : Int32))])) (fun _ k => XS.iconst X8.hh X8.hx rfl (hb hby at_320) k) ?_
                    refine Go.of (T' := T8) (g' := (mkF mM 325 #[.val (.int ch), .val (.int sel), .val (.long a), .second, .val (.long b), .second, .val (.long c), .second, .val (.long xx), .second, .val (.int len1), .val (.int len2), .val (.int c0), .val (.int c1), .val (.int d0), .val (.int d1), .val (.int sp), .val (.long a2), .second, .val (.long b2), .second, .val (.long c2), .second, .val (.int (((sel.toUInt32 >>> ((8 : Int32) &&& 31).toUInt32).toInt32) &&& (3 : Int32))), .val (.ref s1), .val (.ref s2), .val (.ref p_), .val (.ref q_), .val (.int ss), .val (.int ee)] [(.int (1 : Int32))])) (fun _ k => XS.goto X8.hh X8.hx rfl (pc0 := 321) (pc' := 325) rfl (hb hby at_321) (by decide) (by decide) k) ?_
                    exact X8.nret (t := .boolean) hret (by simp) hlk (by decide) (by decide) (hb hby at_325) (fun S hS => rfl)
                  · refine Go.of (T' := T6) (g' := (mkF mM 326 #[.val (.int ch), .val (.int sel), .val (.long a), .second, .val (.long b), .second, .val (.long c), .second, .val (.long xx), .second, .val (.int len1), .val (.int len2), .val (.int c0), .val (.int c1), .val (.int d0), .val (.int d1), .val (.int sp), .val (.long a2), .second, .val (.long b2), .second, .val (.long c2), .second, .val (.int (((sel.toUInt32 >>> ((8 : Int32) &&& 31).toUInt32).toInt32) &&& (3 : Int32))), .val (.ref s1), .val (.ref s2), .val (.ref p_), .val (.ref q_), .val (.int ss), .val (.int ee)] [])) (fun _ k => XS.icmpYes X6.hh X6.hx rfl (pc0 := 307) (pc' := 326) rfl (hb hby at_307) rfl (feq hc307).2 (by decide) (by decide) k) ?_
                    refine Go.of (T' := T6) (g' := (mkF mM 328 #[.val (.int ch), .val (.int sel), .val (.long a), .second, .val (.long b), .second, .val (.long c), .second, .val (.long xx), .second, .val (.int len1), .val (.int len2), .val (.int c0), .val (.int c1), .val (.int d0), .val (.int d1), .val (.int sp), .val (.long a2), .second, .val (.long b2), .second, .val (.long c2), .second, .val (.int (((sel.toUInt32 >>> ((8 : Int32) &&& 31).toUInt32).toInt32) &&& (3 : Int32))), .val (.ref s1), .val (.ref s2), .val (.ref p_), .val (.ref q_), .val (.int ss), .val (.int ee)] [(.int (((sel.toUInt32 >>> ((8 : Int32) &&& 31).toUInt32).toInt32) &&& (3 : Int32)))])) (fun _ k => XS.iload X6.hh X6.hx rfl (hb hby at_326) rfl k) ?_
                    refine Go.of (T' := T6) (g' := (mkF mM 329 #[.val (.int ch), .val (.int sel), .val (.long a), .second, .val (.long b), .second, .val (.long c), .second, .val (.long xx), .second, .val (.int len1), .val (.int len2), .val (.int c0), .val (.int c1), .val (.int d0), .val (.int d1), .val (.int sp), .val (.long a2), .second, .val (.long b2), .second, .val (.long c2), .second, .val (.int (((sel.toUInt32 >>> ((8 : Int32) &&& 31).toUInt32).toInt32) &&& (3 : Int32))), .val (.ref s1), .val (.ref s2), .val (.ref p_), .val (.ref q_), .val (.int ss), .val (.int ee)] [(.int (3 : Int32)), (.int (((sel.toUInt32 >>> ((8 : Int32) &&& 31).toUInt32).toInt32) &&& (3 : Int32)))])) (fun _ k => XS.iconst X6.hh X6.hx rfl (hb hby at_328) k) ?_
                    by_cases hc329 : (((sel.toUInt32 >>> ((8 : Int32) &&& 31).toUInt32).toInt32) &&& (3 : Int32)) = (3 : Int32)
                    · refine Go.of (T' := T6) (g' := (mkF mM 332 #[.val (.int ch), .val (.int sel), .val (.long a), .second, .val (.long b), .second, .val (.long c), .second, .val (.long xx), .second, .val (.int len1), .val (.int len2), .val (.int c0), .val (.int c1), .val (.int d0), .val (.int d1), .val (.int sp), .val (.long a2), .second, .val (.long b2), .second, .val (.long c2), .second, .val (.int (((sel.toUInt32 >>> ((8 : Int32) &&& 31).toUInt32).toInt32) &&& (3 : Int32))), .val (.ref s1), .val (.ref s2), .val (.ref p_), .val (.ref q_), .val (.int ss), .val (.int ee)] [])) (fun _ k => XS.icmpNo X6.hh X6.hx rfl (hb hby at_329) rfl (teq hc329).2 k) ?_
                      refine Go.of (T' := T6) (g' := (mkF mM 334 #[.val (.int ch), .val (.int sel), .val (.long a), .second, .val (.long b), .second, .val (.long c), .second, .val (.long xx), .second, .val (.int len1), .val (.int len2), .val (.int c0), .val (.int c1), .val (.int d0), .val (.int d1), .val (.int sp), .val (.long a2), .second, .val (.long b2), .second, .val (.long c2), .second, .val (.int (((sel.toUInt32 >>> ((8 : Int32) &&& 31).toUInt32).toInt32) &&& (3 : Int32))), .val (.ref s1), .val (.ref s2), .val (.ref p_), .val (.ref q_), .val (.int ss), .val (.int ee)] [(.ref p_)])) (fun _ k => XS.aload X6.hh X6.hx rfl (hb hby at_332) rfl rfl k) ?_
                      refine Go.of (T' := T6) (g' := (mkF mM 336 #[.val (.int ch), .val (.int sel), .val (.long a), .second, .val (.long b), .second, .val (.long c), .second, .val (.long xx), .second, .val (.int len1), .val (.int len2), .val (.int c0), .val (.int c1), .val (.int d0), .val (.int d1), .val (.int sp), .val (.long a2), .second, .val (.long b2), .second, .val (.long c2), .second, .val (.int (((sel.toUInt32 >>> ((8 : Int32) &&& 31).toUInt32).toInt32) &&& (3 : Int32))), .val (.ref s1), .val (.ref s2), .val (.ref p_), .val (.ref q_), .val (.int ss), .val (.int ee)] [(.ref p_), (.ref p_)])) (fun _ k => XS.aload X6.hh X6.hx rfl (hb hby at_334) rfl rfl k) ?_
                      have Ep_ := Pp_.1
                      refine X6.callV (W := 0) (argsL := [(.ref p_)]) (rest := []) (a := p_) (C := "com/example/pathloom/pathloom/model/PathCount") (z := (⟨"com/example/pathloom/pathloom/model/PathCount", "equals", "(Ljava/lang/Object;)Z"⟩ : MethodName)) (hw _ (List.mem_of_getElem? (i := 41) rfl)) (hw _ (List.mem_of_getElem? (i := 42) rfl)) (fun _ q => notFace_of_selects (args := #[]) (mvT q (hw _ (List.mem_of_getElem? (i := 44) rfl)))) (hw _ (List.mem_of_getElem? (i := 44) rfl)) (hw _ (List.mem_of_getElem? (i := 43) rfl)) (hw _ (List.mem_of_getElem? (i := 28) rfl)) (hw _ (List.mem_of_getElem? (i := 45) rfl)) (by decide) (eq_pc l Z a0 G p_ p_ s1 s1 t1 t1 k1 k1 (chs len1 c0 c1) (chs len1 c0 c1) a b c a b c h6 Pp_ Pp_ S1 S1) Ep_ pd_2 rfl rfl rfl (by rw [hml]; rfl) (by decide) (by decide) (by decide) (by decide) (hb hby at_336) all0 all0 ?_
                      intro v9 T9 h9 S9 X9 K9 Q9
                      have X9 := X9 [] all0
                      obtain ⟨hv9, e9⟩ := Q9
                      rw [e9] at X9
                      rcases hv9 with ⟨rfl, hself⟩ | ⟨rfl, hself⟩
                      · show Go pP eE bB _ T9 (mkF mM 339 #[.val (.int ch), .val (.int sel), .val (.long a), .second, .val (.long b), .second, .val (.long c), .second, .val (.long xx), .second, .val (.int len1), .val (.int len2), .val (.int c0), .val (.int c1), .val (.int d0), .val (.int d1), .val (.int sp), .val (.long a2), .second, .val (.long b2), .second, .val (.long c2), .second, .val (.int (((sel.toUInt32 >>> ((8 : Int32) &&& 31).toUInt32).toInt32) &&& (3 : Int32))), .val (.ref s1), .val (.ref s2), .val (.ref p_), .val (.ref q_), .val (.int ss), .val (.int ee)] [(.int (1 : Int32))])
                        refine Go.of (T' := T9) (g' := (mkF mM 342 #[.val (.int ch), .val (.int sel), .val (.long a), .second, .val (.long b), .second, .val (.long c), .second, .val (.long xx), .second, .val (.int len1), .val (.int len2), .val (.int c0), .val (.int c1), .val (.int d0), .val (.int d1), .val (.int sp), .val (.long a2), .second, .val (.long b2), .second, .val (.long c2), .second, .val (.int (((sel.toUInt32 >>> ((8 : Int32) &&& 31).toUInt32).toInt32) &&& (3 : Int32))), .val (.ref s1), .val (.ref s2), .val (.ref p_), .val (.ref q_), .val (.int ss), .val (.int ee)] [])) (fun _ k => XS.ifNo X9.hh X9.hx rfl (hb hby at_339) rfl ((if0 _ _).trans (feq (by decide)).1) k) ?_
                        refine Go.of (T' := T9) (g' := (mkF mM 344 #[.val (.int ch), .val (.int sel), .val (.long a), .second, .val (.long b), .second, .val (.long c), .second, .val (.long xx), .second, .val (.int len1), .val (.int len2), .val (.int c0), .val (.int c1), .val (.int d0), .val (.int d1), .val (.int sp), .val (.long a2), .second, .val (.long b2), .second, .val (.long c2), .second, .val (.int (((sel.toUInt32 >>> ((8 : Int32) &&& 31).toUInt32).toInt32) &&& (3 : Int32))), .val (.ref s1), .val (.ref s2), .val (.ref p_), .val (.ref q_), .val (.int ss), .val (.int ee)] [(.ref p_)])) (fun _ k => XS.aload X9.hh X9.hx rfl (hb hby at_342) rfl rfl k) ?_
                        refine Go.of (T' := T9) (g' := (mkF mM 346 #[.val (.int ch), .val (.int sel), .val (.long a), .second, .val (.long b), .second, .val (.long c), .second, .val (.long xx), .second, .val (.int len1), .val (.int len2), .val (.int c0), .val (.int c1), .val (.int d0), .val (.int d1), .val (.int sp), .val (.long a2), .second, .val (.long b2), .second, .val (.long c2), .second, .val (.int (((sel.toUInt32 >>> ((8 : Int32) &&& 31).toUInt32).toInt32) &&& (3 : Int32))), .val (.ref s1), .val (.ref s2), .val (.ref p_), .val (.ref q_), .val (.int ss), .val (.int ee)] [(.ref q_), (.ref p_)])) (fun _ k => XS.aload X9.hh X9.hx rfl (hb hby at_344) rfl rfl k) ?_
                        have Ep_ := Pp_.1
                        refine X9.callV (W := 0) (argsL := [(.ref q_)]) (rest := []) (a := p_) (C := "com/example/pathloom/pathloom/model/PathCount") (z := (⟨"com/example/pathloom/pathloom/model/PathCount", "equals", "(Ljava/lang/Object;)Z"⟩ : MethodName)) (hw _ (List.mem_of_getElem? (i := 41) rfl)) (hw _ (List.mem_of_getElem? (i := 42) rfl)) (fun _ q => notFace_of_selects (args := #[]) (mvT q (hw _ (List.mem_of_getElem? (i := 44) rfl)))) (hw _ (List.mem_of_getElem? (i := 44) rfl)) (hw _ (List.mem_of_getElem? (i := 43) rfl)) (hw _ (List.mem_of_getElem? (i := 28) rfl)) (hw _ (List.mem_of_getElem? (i := 45) rfl)) (by decide) (eq_pc l Z a0 G p_ q_ s1 s2 t1 t2 k1 k2 (chs len1 c0 c1) (chs len2 d0 d1) a b c a2 b2 c2 h6 Pp_ Pq_ S1 S2) Ep_ pd_2 rfl rfl rfl (by rw [hml]; rfl) (by decide) (by decide) (by decide) (by decide) (hb hby at_346) all0 all0 ?_
                        intro v10 T10 h10 S10 X10 K10 Q10
                        have X10 := X10 [] all0
                        obtain ⟨hv10, e10⟩ := Q10
                        rw [e10] at X10
                        rcases hv10 with ⟨rfl, hpq⟩ | ⟨rfl, hpq⟩
                        · show Go pP eE bB _ T10 (mkF mM 349 #[.val (.int ch), .val (.int sel), .val (.long a), .second, .val (.long b), .second, .val (.long c), .second, .val (.long xx), .second, .val (.int len1), .val (.int len2), .val (.int c0), .val (.int c1), .val (.int d0), .val (.int d1), .val (.int sp), .val (.long a2), .second, .val (.long b2), .second, .val (.long c2), .second, .val (.int (((sel.toUInt32 >>> ((8 : Int32) &&& 31).toUInt32).toInt32) &&& (3 : Int32))), .val (.ref s1), .val (.ref s2), .val (.ref p_), .val (.ref q_), .val (.int ss), .val (.int ee)] [(.int (1 : Int32))])
                          refine Go.of (T' := T10) (g' := (mkF mM 351 #[.val (.int ch), .val (.int sel), .val (.long a), .second, .val (.long b), .second, .val (.long c), .second, .val (.long xx), .second, .val (.int len1), .val (.int len2), .val (.int c0), .val (.int c1), .val (.int d0), .val (.int d1), .val (.int sp), .val (.long a2), .second, .val (.long b2), .second, .val (.long c2), .second, .val (.int (((sel.toUInt32 >>> ((8 : Int32) &&& 31).toUInt32).toInt32) &&& (3 : Int32))), .val (.ref s1), .val (.ref s2), .val (.ref p_), .val (.ref q_), .val (.int ss), .val (.int ee)] [(.int ee), (.int (1 : Int32))])) (fun _ k => XS.iload X10.hh X10.hx rfl (hb hby at_349) rfl k) ?_
                          rcases he with ⟨rfl, hall⟩ | ⟨rfl, hall⟩
                          · refine Go.of (T' := T10) (g' := (mkF mM 354 #[.val (.int ch), .val (.int sel), .val (.long a), .second, .val (.long b), .second, .val (.long c), .second, .val (.long xx), .second, .val (.int len1), .val (.int len2), .val (.int c0), .val (.int c1), .val (.int d0), .val (.int d1), .val (.int sp), .val (.long a2), .second, .val (.long b2), .second, .val (.long c2), .second, .val (.int (((sel.toUInt32 >>> ((8 : Int32) &&& 31).toUInt32).toInt32) &&& (3 : Int32))), .val (.ref s1), .val (.ref s2), .val (.ref p_), .val (.ref q_), .val (.int ss), .val (.int (1 : Int32))] [])) (fun _ k => XS.icmpNo X10.hh X10.hx rfl (hb hby at_351) rfl (teq rfl).2 k) ?_
                            refine Go.of (T' := T10) (g' := (mkF mM 355 #[.val (.int ch), .val (.int sel), .val (.long a), .second, .val (.long b), .second, .val (.long c), .second, .val (.long xx), .second, .val (.int len1), .val (.int len2), .val (.int c0), .val (.int c1), .val (.int d0), .val (.int d1), .val (.int sp), .val (.long a2), .second, .val (.long b2), .second, .val (.long c2), .second, .val (.int (((sel.toUInt32 >>> ((8 : Int32) &&& 31).toUInt32).toInt32) &&& (3 : Int32))), .val (.ref s1), .val (.ref s2), .val (.ref p_), .val (.ref q_), .val (.int ss), .val (.int (1 : Int32))] [(.int (1 : Int32))])) (fun _ k => XS.iconst X10.hh X10.hx rfl (hb hby at_354) k) ?_
                            refine Go.of (T' := T10) (g' := (mkF mM 359 #[.val (.int ch), .val (.int sel), .val (.long a), .second, .val (.long b), .second, .val (.long c), .second, .val (.long xx), .second, .val (.int len1), .val (.int len2), .val (.int c0), .val (.int c1), .val (.int d0), .val (.int d1), .val (.int sp), .val (.long a2), .second, .val (.long b2), .second, .val (.long c2), .second, .val (.int (((sel.toUInt32 >>> ((8 : Int32) &&& 31).toUInt32).toInt32) &&& (3 : Int32))), .val (.ref s1), .val (.ref s2), .val (.ref p_), .val (.ref q_), .val (.int ss), .val (.int (1 : Int32))] [(.int (1 : Int32))])) (fun _ k => XS.goto X10.hh X10.hx rfl (pc0 := 355) (pc' := 359) rfl (hb hby at_355) (by decide) (by decide) k) ?_
                            exact X10.nret (t := .boolean) hret (by simp) hlk (by decide) (by decide) (hb hby at_359) (fun S hS => rfl)
                          · exact absurd hpq hall
                        · show Go pP eE bB _ T10 (mkF mM 349 #[.val (.int ch), .val (.int sel), .val (.long a), .second, .val (.long b), .second, .val (.long c), .second, .val (.long xx), .second, .val (.int len1), .val (.int len2), .val (.int c0), .val (.int c1), .val (.int d0), .val (.int d1), .val (.int sp), .val (.long a2), .second, .val (.long b2), .second, .val (.long c2), .second, .val (.int (((sel.toUInt32 >>> ((8 : Int32) &&& 31).toUInt32).toInt32) &&& (3 : Int32))), .val (.ref s1), .val (.ref s2), .val (.ref p_), .val (.ref q_), .val (.int ss), .val (.int ee)] [(.int (0 : Int32))])
                          refine Go.of (T' := T10) (g' := (mkF mM 351 #[.val (.int ch), .val (.int sel), .val (.long a), .second, .val (.long b), .second, .val (.long c), .second, .val (.long xx), .second, .val (.int len1), .val (.int len2), .val (.int c0), .val (.int c1), .val (.int d0), .val (.int d1), .val (.int sp), .val (.long a2), .second, .val (.long b2), .second, .val (.long c2), .second, .val (.int (((sel.toUInt32 >>> ((8 : Int32) &&& 31).toUInt32).toInt32) &&& (3 : Int32))), .val (.ref s1), .val (.ref s2), .val (.ref p_), .val (.ref q_), .val (.int ss), .val (.int ee)] [(.int ee), (.int (0 : Int32))])) (fun _ k => XS.iload X10.hh X10.hx rfl (hb hby at_349) rfl k) ?_
                          rcases he with ⟨rfl, hall⟩ | ⟨rfl, hall⟩
                          · exact absurd hall hpq
                          · refine Go.of (T' := T10) (g' := (mkF mM 354 #[.val (.int ch), .val (.int sel), .val (.long a), .second, .val (.long b), .second, .val (.long c), .second, .val (.long xx), .second, .val (.int len1), .val (.int len2), .val (.int c0), .val (.int c1), .val (.int d0), .val (.int d1), .val (.int sp), .val (.long a2), .second, .val (.long b2), .second, .val (.long c2), .second, .val (.int (((sel.toUInt32 >>> ((8 : Int32) &&& 31).toUInt32).toInt32) &&& (3 : Int32))), .val (.ref s1), .val (.ref s2), .val (.ref p_), .val (.ref q_), .val (.int ss), .val (.int (0 : Int32))] [])) (fun _ k => XS.icmpNo X10.hh X10.hx rfl (hb hby at_351) rfl (teq rfl).2 k) ?_
                            refine Go.of (T' := T10) (g' := (mkF mM 355 #[.val (.int ch), .val (.int sel), .val (.long a), .second, .val (.long b), .second, .val (.long c), .second, .val (.long xx), .second, .val (.int len1), .val (.int len2), .val (.int c0), .val (.int c1), .val (.int d0), .val (.int d1), .val (.int sp), .val (.long a2), .second, .val (.long b2), .second, .val (.long c2), .second, .val (.int (((sel.toUInt32 >>> ((8 : Int32) &&& 31).toUInt32).toInt32) &&& (3 : Int32))), .val (.ref s1), .val (.ref s2), .val (.ref p_), .val (.ref q_), .val (.int ss), .val (.int (0 : Int32))] [(.int (1 : Int32))])) (fun _ k => XS.iconst X10.hh X10.hx rfl (hb hby at_354) k) ?_
                            refine Go.of (T' := T10) (g' := (mkF mM 359 #[.val (.int ch), .val (.int sel), .val (.long a), .second, .val (.long b), .second, .val (.long c), .second, .val (.long xx), .second, .val (.int len1), .val (.int len2), .val (.int c0), .val (.int c1), .val (.int d0), .val (.int d1), .val (.int sp), .val (.long a2), .second, .val (.long b2), .second, .val (.long c2), .second, .val (.int (((sel.toUInt32 >>> ((8 : Int32) &&& 31).toUInt32).toInt32) &&& (3 : Int32))), .val (.ref s1), .val (.ref s2), .val (.ref p_), .val (.ref q_), .val (.int ss), .val (.int (0 : Int32))] [(.int (1 : Int32))])) (fun _ k => XS.goto X10.hh X10.hx rfl (pc0 := 355) (pc' := 359) rfl (hb hby at_355) (by decide) (by decide) k) ?_
                            exact X10.nret (t := .boolean) hret (by simp) hlk (by decide) (by decide) (hb hby at_359) (fun S hS => rfl)
                      · show Go pP eE bB _ T9 (mkF mM 339 #[.val (.int ch), .val (.int sel), .val (.long a), .second, .val (.long b), .second, .val (.long c), .second, .val (.long xx), .second, .val (.int len1), .val (.int len2), .val (.int c0), .val (.int c1), .val (.int d0), .val (.int d1), .val (.int sp), .val (.long a2), .second, .val (.long b2), .second, .val (.long c2), .second, .val (.int (((sel.toUInt32 >>> ((8 : Int32) &&& 31).toUInt32).toInt32) &&& (3 : Int32))), .val (.ref s1), .val (.ref s2), .val (.ref p_), .val (.ref q_), .val (.int ss), .val (.int ee)] [(.int (0 : Int32))])
                        exact absurd ⟨rfl, rfl, rfl, rfl⟩ hself
                    · refine Go.of (T' := T6) (g' := (mkF mM 360 #[.val (.int ch), .val (.int sel), .val (.long a), .second, .val (.long b), .second, .val (.long c), .second, .val (.long xx), .second, .val (.int len1), .val (.int len2), .val (.int c0), .val (.int c1), .val (.int d0), .val (.int d1), .val (.int sp), .val (.long a2), .second, .val (.long b2), .second, .val (.long c2), .second, .val (.int (((sel.toUInt32 >>> ((8 : Int32) &&& 31).toUInt32).toInt32) &&& (3 : Int32))), .val (.ref s1), .val (.ref s2), .val (.ref p_), .val (.ref q_), .val (.int ss), .val (.int ee)] [])) (fun _ k => XS.icmpYes X6.hh X6.hx rfl (pc0 := 329) (pc' := 360) rfl (hb hby at_329) rfl (feq hc329).2 (by decide) (by decide) k) ?_
                      refine Go.of (T' := T6) (g' := (mkF mM 362 #[.val (.int ch), .val (.int sel), .val (.long a), .second, .val (.long b), .second, .val (.long c), .second, .val (.long xx), .second, .val (.int len1), .val (.int len2), .val (.int c0), .val (.int c1), .val (.int d0), .val (.int d1), .val (.int sp), .val (.long a2), .second, .val (.long b2), .second, .val (.long c2), .second, .val (.int (((sel.toUInt32 >>> ((8 : Int32) &&& 31).toUInt32).toInt32) &&& (3 : Int32))), .val (.ref s1), .val (.ref s2), .val (.ref p_), .val (.ref q_), .val (.int ss), .val (.int ee)] [(.ref p_)])) (fun _ k => XS.aload X6.hh X6.hx rfl (hb hby at_360) rfl rfl k) ?_
                      refine Go.of (T' := T6) (g' := (mkF mM 364 #[.val (.int ch), .val (.int sel), .val (.long a), .second, .val (.long b), .second, .val (.long c), .second, .val (.long xx), .second, .val (.int len1), .val (.int len2), .val (.int c0), .val (.int c1), .val (.int d0), .val (.int d1), .val (.int sp), .val (.long a2), .second, .val (.long b2), .second, .val (.long c2), .second, .val (.int (((sel.toUInt32 >>> ((8 : Int32) &&& 31).toUInt32).toInt32) &&& (3 : Int32))), .val (.ref s1), .val (.ref s2), .val (.ref p_), .val (.ref q_), .val (.int ss), .val (.int ee)] [(.ref q_), (.ref p_)])) (fun _ k => XS.aload X6.hh X6.hx rfl (hb hby at_362) rfl rfl k) ?_
                      have Ep_ := Pp_.1
                      refine X6.callV (W := 0) (argsL := [(.ref q_)]) (rest := []) (a := p_) (C := "com/example/pathloom/pathloom/model/PathCount") (z := (⟨"com/example/pathloom/pathloom/model/PathCount", "equals", "(Ljava/lang/Object;)Z"⟩ : MethodName)) (hw _ (List.mem_of_getElem? (i := 41) rfl)) (hw _ (List.mem_of_getElem? (i := 42) rfl)) (fun _ q => notFace_of_selects (args := #[]) (mvT q (hw _ (List.mem_of_getElem? (i := 44) rfl)))) (hw _ (List.mem_of_getElem? (i := 44) rfl)) (hw _ (List.mem_of_getElem? (i := 43) rfl)) (hw _ (List.mem_of_getElem? (i := 28) rfl)) (hw _ (List.mem_of_getElem? (i := 45) rfl)) (by decide) (eq_pc l Z a0 G p_ q_ s1 s2 t1 t2 k1 k2 (chs len1 c0 c1) (chs len2 d0 d1) a b c a2 b2 c2 h6 Pp_ Pq_ S1 S2) Ep_ pd_2 rfl rfl rfl (by rw [hml]; rfl) (by decide) (by decide) (by decide) (by decide) (hb hby at_364) all0 all0 ?_
                      intro v11 T11 h11 S11 X11 K11 Q11
                      have X11 := X11 [] all0
                      obtain ⟨hv11, e11⟩ := Q11
                      rw [e11] at X11
                      rcases hv11 with ⟨rfl, hpq⟩ | ⟨rfl, hpq⟩
                      · show Go pP eE bB _ T11 (mkF mM 367 #[.val (.int ch), .val (.int sel), .val (.long a), .second, .val (.long b), .second, .val (.long c), .second, .val (.long xx), .second, .val (.int len1), .val (.int len2), .val (.int c0), .val (.int c1), .val (.int d0), .val (.int d1), .val (.int sp), .val (.long a2), .second, .val (.long b2), .second, .val (.long c2), .second, .val (.int (((sel.toUInt32 >>> ((8 : Int32) &&& 31).toUInt32).toInt32) &&& (3 : Int32))), .val (.ref s1), .val (.ref s2), .val (.ref p_), .val (.ref q_), .val (.int ss), .val (.int ee)] [(.int (1 : Int32))])
                        refine Go.of (T' := T11) (g' := (mkF mM 369 #[.val (.int ch), .val (.int sel), .val (.long a), .second, .val (.long b), .second, .val (.long c), .second, .val (.long xx), .second, .val (.int len1), .val (.int len2), .val (.int c0), .val (.int c1), .val (.int d0), .val (.int d1), .val (.int sp), .val (.long a2), .second, .val (.long b2), .second, .val (.long c2), .second, .val (.int (((sel.toUInt32 >>> ((8 : Int32) &&& 31).toUInt32).toInt32) &&& (3 : Int32))), .val (.ref s1), .val (.ref s2), .val (.ref p_), .val (.ref q_), .val (.int ss), .val (.int ee)] [(.int ee), (.int (1 : Int32))])) (fun _ k => XS.iload X11.hh X11.hx rfl (hb hby at_367) rfl k) ?_
                        rcases he with ⟨rfl, hall⟩ | ⟨rfl, hall⟩
                        · refine Go.of (T' := T11) (g' := (mkF mM 372 #[.val (.int ch), .val (.int sel), .val (.long a), .second, .val (.long b), .second, .val (.long c), .second, .val (.long xx), .second, .val (.int len1), .val (.int len2), .val (.int c0), .val (.int c1), .val (.int d0), .val (.int d1), .val (.int sp), .val (.long a2), .second, .val (.long b2), .second, .val (.long c2), .second, .val (.int (((sel.toUInt32 >>> ((8 : Int32) &&& 31).toUInt32).toInt32) &&& (3 : Int32))), .val (.ref s1), .val (.ref s2), .val (.ref p_), .val (.ref q_), .val (.int ss), .val (.int (1 : Int32))] [])) (fun _ k => XS.icmpNo X11.hh X11.hx rfl (hb hby at_369) rfl (teq rfl).2 k) ?_
                          refine Go.of (T' := T11) (g' := (mkF mM 374 #[.val (.int ch), .val (.int sel), .val (.long a), .second, .val (.long b), .second, .val (.long c), .second, .val (.long xx), .second, .val (.int len1), .val (.int len2), .val (.int c0), .val (.int c1), .val (.int d0), .val (.int d1), .val (.int sp), .val (.long a2), .second, .val (.long b2), .second, .val (.long c2), .second, .val (.int (((sel.toUInt32 >>> ((8 : Int32) &&& 31).toUInt32).toInt32) &&& (3 : Int32))), .val (.ref s1), .val (.ref s2), .val (.ref p_), .val (.ref q_), .val (.int ss), .val (.int (1 : Int32))] [(.ref q_)])) (fun _ k => XS.aload X11.hh X11.hx rfl (hb hby at_372) rfl rfl k) ?_
                          refine Go.of (T' := T11) (g' := (mkF mM 376 #[.val (.int ch), .val (.int sel), .val (.long a), .second, .val (.long b), .second, .val (.long c), .second, .val (.long xx), .second, .val (.int len1), .val (.int len2), .val (.int c0), .val (.int c1), .val (.int d0), .val (.int d1), .val (.int sp), .val (.long a2), .second, .val (.long b2), .second, .val (.long c2), .second, .val (.int (((sel.toUInt32 >>> ((8 : Int32) &&& 31).toUInt32).toInt32) &&& (3 : Int32))), .val (.ref s1), .val (.ref s2), .val (.ref p_), .val (.ref q_), .val (.int ss), .val (.int (1 : Int32))] [(.ref p_), (.ref q_)])) (fun _ k => XS.aload X11.hh X11.hx rfl (hb hby at_374) rfl rfl k) ?_
                          have Eq_ := Pq_.1
                          refine X11.callV (W := 0) (argsL := [(.ref p_)]) (rest := []) (a := q_) (C := "com/example/pathloom/pathloom/model/PathCount") (z := (⟨"com/example/pathloom/pathloom/model/PathCount", "equals", "(Ljava/lang/Object;)Z"⟩ : MethodName)) (hw _ (List.mem_of_getElem? (i := 41) rfl)) (hw _ (List.mem_of_getElem? (i := 42) rfl)) (fun _ q => notFace_of_selects (args := #[]) (mvT q (hw _ (List.mem_of_getElem? (i := 44) rfl)))) (hw _ (List.mem_of_getElem? (i := 44) rfl)) (hw _ (List.mem_of_getElem? (i := 43) rfl)) (hw _ (List.mem_of_getElem? (i := 28) rfl)) (hw _ (List.mem_of_getElem? (i := 45) rfl)) (by decide) (eq_pc l Z a0 G q_ p_ s2 s1 t2 t1 k2 k1 (chs len2 d0 d1) (chs len1 c0 c1) a2 b2 c2 a b c h6 Pq_ Pp_ S2 S1) Eq_ pd_2 rfl rfl rfl (by rw [hml]; rfl) (by decide) (by decide) (by decide) (by decide) (hb hby at_376) all0 all0 ?_
                          intro v12 T12 h12 S12 X12 K12 Q12
                          have X12 := X12 [] all0
                          obtain ⟨hv12, e12⟩ := Q12
                          rw [e12] at X12
                          rcases hv12 with ⟨rfl, hqp⟩ | ⟨rfl, hqp⟩
                          · show Go pP eE bB _ T12 (mkF mM 379 #[.val (.int ch), .val (.int sel), .val (.long a), .second, .val (.long b), .second, .val (.long c), .second, .val (.long xx), .second, .val (.int len1), .val (.int len2), .val (.int c0), .val (.int c1), .val (.int d0), .val (.int d1), .val (.int sp), .val (.long a2), .second, .val (.long b2), .second, .val (.long c2), .second, .val (.int (((sel.toUInt32 >>> ((8 : Int32) &&& 31).toUInt32).toInt32) &&& (3 : Int32))), .val (.ref s1), .val (.ref s2), .val (.ref p_), .val (.ref q_), .val (.int ss), .val (.int (1 : Int32))] [(.int (1 : Int32))])
                            refine Go.of (T' := T12) (g' := (mkF mM 381 #[.val (.int ch), .val (.int sel), .val (.long a), .second, .val (.long b), .second, .val (.long c), .second, .val (.long xx), .second, .val (.int len1), .val (.int len2), .val (.int c0), .val (.int c1), .val (.int d0), .val (.int d1), .val (.int sp), .val (.long a2), .second, .val (.long b2), .second, .val (.long c2), .second, .val (.int (((sel.toUInt32 >>> ((8 : Int32) &&& 31).toUInt32).toInt32) &&& (3 : Int32))), .val (.ref s1), .val (.ref s2), .val (.ref p_), .val (.ref q_), .val (.int ss), .val (.int (1 : Int32))] [(.int (1 : Int32)), (.int (1 : Int32))])) (fun _ k => XS.iload X12.hh X12.hx rfl (hb hby at_379) rfl k) ?_
                            refine Go.of (T' := T12) (g' := (mkF mM 384 #[.val (.int ch), .val (.int sel), .val (.long a), .second, .val (.long b), .second, .val (.long c), .second, .val (.long xx), .second, .val (.int len1), .val (.int len2), .val (.int c0), .val (.int c1), .val (.int d0), .val (.int d1), .val (.int sp), .val (.long a2), .second, .val (.long b2), .second, .val (.long c2), .second, .val (.int (((sel.toUInt32 >>> ((8 : Int32) &&& 31).toUInt32).toInt32) &&& (3 : Int32))), .val (.ref s1), .val (.ref s2), .val (.ref p_), .val (.ref q_), .val (.int ss), .val (.int (1 : Int32))] [])) (fun _ k => XS.icmpNo X12.hh X12.hx rfl (hb hby at_381) rfl (teq rfl).2 k) ?_
                            refine Go.of (T' := T12) (g' := (mkF mM 385 #[.val (.int ch), .val (.int sel), .val (.long a), .second, .val (.long b), .second, .val (.long c), .second, .val (.long xx), .second, .val (.int len1), .val (.int len2), .val (.int c0), .val (.int c1), .val (.int d0), .val (.int d1), .val (.int sp), .val (.long a2), .second, .val (.long b2), .second, .val (.long c2), .second, .val (.int (((sel.toUInt32 >>> ((8 : Int32) &&& 31).toUInt32).toInt32) &&& (3 : Int32))), .val (.ref s1), .val (.ref s2), .val (.ref p_), .val (.ref q_), .val (.int ss), .val (.int (1 : Int32))] [(.int (1 : Int32))])) (fun _ k => XS.iconst X12.hh X12.hx rfl (hb hby at_384) k) ?_
                            refine Go.of (T' := T12) (g' := (mkF mM 389 #[.val (.int ch), .val (.int sel), .val (.long a), .second, .val (.long b), .second, .val (.long c), .second, .val (.long xx), .second, .val (.int len1), .val (.int len2), .val (.int c0), .val (.int c1), .val (.int d0), .val (.int d1), .val (.int sp), .val (.long a2), .second, .val (.long b2), .second, .val (.long c2), .second, .val (.int (((sel.toUInt32 >>> ((8 : Int32) &&& 31).toUInt32).toInt32) &&& (3 : Int32))), .val (.ref s1), .val (.ref s2), .val (.ref p_), .val (.ref q_), .val (.int ss), .val (.int (1 : Int32))] [(.int (1 : Int32))])) (fun _ k => XS.goto X12.hh X12.hx rfl (pc0 := 385) (pc' := 389) rfl (hb hby at_385) (by decide) (by decide) k) ?_
                            exact X12.nret (t := .boolean) hret (by simp) hlk (by decide) (by decide) (hb hby at_389) (fun S hS => rfl)
                          · show Go pP eE bB _ T12 (mkF mM 379 #[.val (.int ch), .val (.int sel), .val (.long a), .second, .val (.long b), .second, .val (.long c), .second, .val (.long xx), .second, .val (.int len1), .val (.int len2), .val (.int c0), .val (.int c1), .val (.int d0), .val (.int d1), .val (.int sp), .val (.long a2), .second, .val (.long b2), .second, .val (.long c2), .second, .val (.int (((sel.toUInt32 >>> ((8 : Int32) &&& 31).toUInt32).toInt32) &&& (3 : Int32))), .val (.ref s1), .val (.ref s2), .val (.ref p_), .val (.ref q_), .val (.int ss), .val (.int (1 : Int32))] [(.int (0 : Int32))])
                            refine Go.of (T' := T12) (g' := (mkF mM 381 #[.val (.int ch), .val (.int sel), .val (.long a), .second, .val (.long b), .second, .val (.long c), .second, .val (.long xx), .second, .val (.int len1), .val (.int len2), .val (.int c0), .val (.int c1), .val (.int d0), .val (.int d1), .val (.int sp), .val (.long a2), .second, .val (.long b2), .second, .val (.long c2), .second, .val (.int (((sel.toUInt32 >>> ((8 : Int32) &&& 31).toUInt32).toInt32) &&& (3 : Int32))), .val (.ref s1), .val (.ref s2), .val (.ref p_), .val (.ref q_), .val (.int ss), .val (.int (1 : Int32))] [(.int (1 : Int32)), (.int (0 : Int32))])) (fun _ k => XS.iload X12.hh X12.hx rfl (hb hby at_379) rfl k) ?_
                            exact absurd ⟨hall.1.symm, hall.2.1.symm, hall.2.2.1.symm, hall.2.2.2.symm⟩ hqp
                        · exact absurd hpq hall
                      · show Go pP eE bB _ T11 (mkF mM 367 #[.val (.int ch), .val (.int sel), .val (.long a), .second, .val (.long b), .second, .val (.long c), .second, .val (.long xx), .second, .val (.int len1), .val (.int len2), .val (.int c0), .val (.int c1), .val (.int d0), .val (.int d1), .val (.int sp), .val (.long a2), .second, .val (.long b2), .second, .val (.long c2), .second, .val (.int (((sel.toUInt32 >>> ((8 : Int32) &&& 31).toUInt32).toInt32) &&& (3 : Int32))), .val (.ref s1), .val (.ref s2), .val (.ref p_), .val (.ref q_), .val (.int ss), .val (.int ee)] [(.int (0 : Int32))])
                        refine Go.of (T' := T11) (g' := (mkF mM 369 #[.val (.int ch), .val (.int sel), .val (.long a), .second, .val (.long b), .second, .val (.long c), .second, .val (.long xx), .second, .val (.int len1), .val (.int len2), .val (.int c0), .val (.int c1), .val (.int d0), .val (.int d1), .val (.int sp), .val (.long a2), .second, .val (.long b2), .second, .val (.long c2), .second, .val (.int (((sel.toUInt32 >>> ((8 : Int32) &&& 31).toUInt32).toInt32) &&& (3 : Int32))), .val (.ref s1), .val (.ref s2), .val (.ref p_), .val (.ref q_), .val (.int ss), .val (.int ee)] [(.int ee), (.int (0 : Int32))])) (fun _ k => XS.iload X11.hh X11.hx rfl (hb hby at_367) rfl k) ?_
                        rcases he with ⟨rfl, hall⟩ | ⟨rfl, hall⟩
                        · exact absurd hall hpq
                        · refine Go.of (T' := T11) (g' := (mkF mM 372 #[.val (.int ch), .val (.int sel), .val (.long a), .second, .val (.long b), .second, .val (.long c), .second, .val (.long xx), .second, .val (.int len1), .val (.int len2), .val (.int c0), .val (.int c1), .val (.int d0), .val (.int d1), .val (.int sp), .val (.long a2), .second, .val (.long b2), .second, .val (.long c2), .second, .val (.int (((sel.toUInt32 >>> ((8 : Int32) &&& 31).toUInt32).toInt32) &&& (3 : Int32))), .val (.ref s1), .val (.ref s2), .val (.ref p_), .val (.ref q_), .val (.int ss), .val (.int (0 : Int32))] [])) (fun _ k => XS.icmpNo X11.hh X11.hx rfl (hb hby at_369) rfl (teq rfl).2 k) ?_
                          refine Go.of (T' := T11) (g' := (mkF mM 374 #[.val (.int ch), .val (.int sel), .val (.long a), .second, .val (.long b), .second, .val (.long c), .second, .val (.long xx), .second, .val (.int len1), .val (.int len2), .val (.int c0), .val (.int c1), .val (.int d0), .val (.int d1), .val (.int sp), .val (.long a2), .second, .val (.long b2), .second, .val (.long c2), .second, .val (.int (((sel.toUInt32 >>> ((8 : Int32) &&& 31).toUInt32).toInt32) &&& (3 : Int32))), .val (.ref s1), .val (.ref s2), .val (.ref p_), .val (.ref q_), .val (.int ss), .val (.int (0 : Int32))] [(.ref q_)])) (fun _ k => XS.aload X11.hh X11.hx rfl (hb hby at_372) rfl rfl k) ?_
                          refine Go.of (T' := T11) (g' := (mkF mM 376 #[.val (.int ch), .val (.int sel), .val (.long a), .second, .val (.long b), .second, .val (.long c), .second, .val (.long xx), .second, .val (.int len1), .val (.int len2), .val (.int c0), .val (.int c1), .val (.int d0), .val (.int d1), .val (.int sp), .val (.long a2), .second, .val (.long b2), .second, .val (.long c2), .second, .val (.int (((sel.toUInt32 >>> ((8 : Int32) &&& 31).toUInt32).toInt32) &&& (3 : Int32))), .val (.ref s1), .val (.ref s2), .val (.ref p_), .val (.ref q_), .val (.int ss), .val (.int (0 : Int32))] [(.ref p_), (.ref q_)])) (fun _ k => XS.aload X11.hh X11.hx rfl (hb hby at_374) rfl rfl k) ?_
                          have Eq_ := Pq_.1
                          refine X11.callV (W := 0) (argsL := [(.ref p_)]) (rest := []) (a := q_) (C := "com/example/pathloom/pathloom/model/PathCount") (z := (⟨"com/example/pathloom/pathloom/model/PathCount", "equals", "(Ljava/lang/Object;)Z"⟩ : MethodName)) (hw _ (List.mem_of_getElem? (i := 41) rfl)) (hw _ (List.mem_of_getElem? (i := 42) rfl)) (fun _ q => notFace_of_selects (args := #[]) (mvT q (hw _ (List.mem_of_getElem? (i := 44) rfl)))) (hw _ (List.mem_of_getElem? (i := 44) rfl)) (hw _ (List.mem_of_getElem? (i := 43) rfl)) (hw _ (List.mem_of_getElem? (i := 28) rfl)) (hw _ (List.mem_of_getElem? (i := 45) rfl)) (by decide) (eq_pc l Z a0 G q_ p_ s2 s1 t2 t1 k2 k1 (chs len2 d0 d1) (chs len1 c0 c1) a2 b2 c2 a b c h6 Pq_ Pp_ S2 S1) Eq_ pd_2 rfl rfl rfl (by rw [hml]; rfl) (by decide) (by decide) (by decide) (by decide) (hb hby at_376) all0 all0 ?_
                          intro v13 T13 h13 S13 X13 K13 Q13
                          have X13 := X13 [] all0
                          obtain ⟨hv13, e13⟩ := Q13
                          rw [e13] at X13
                          rcases hv13 with ⟨rfl, hqp⟩ | ⟨rfl, hqp⟩
                          · show Go pP eE bB _ T13 (mkF mM 379 #[.val (.int ch), .val (.int sel), .val (.long a), .second, .val (.long b), .second, .val (.long c), .second, .val (.long xx), .second, .val (.int len1), .val (.int len2), .val (.int c0), .val (.int c1), .val (.int d0), .val (.int d1), .val (.int sp), .val (.long a2), .second, .val (.long b2), .second, .val (.long c2), .second, .val (.int (((sel.toUInt32 >>> ((8 : Int32) &&& 31).toUInt32).toInt32) &&& (3 : Int32))), .val (.ref s1), .val (.ref s2), .val (.ref p_), .val (.ref q_), .val (.int ss), .val (.int (0 : Int32))] [(.int (1 : Int32))])
                            refine Go.of (T' := T13) (g' := (mkF mM 381 #[.val (.int ch), .val (.int sel), .val (.long a), .second, .val (.long b), .second, .val (.long c), .second, .val (.long xx), .second, .val (.int len1), .val (.int len2), .val (.int c0), .val (.int c1), .val (.int d0), .val (.int d1), .val (.int sp), .val (.long a2), .second, .val (.long b2), .second, .val (.long c2), .second, .val (.int (((sel.toUInt32 >>> ((8 : Int32) &&& 31).toUInt32).toInt32) &&& (3 : Int32))), .val (.ref s1), .val (.ref s2), .val (.ref p_), .val (.ref q_), .val (.int ss), .val (.int (0 : Int32))] [(.int (0 : Int32)), (.int (1 : Int32))])) (fun _ k => XS.iload X13.hh X13.hx rfl (hb hby at_379) rfl k) ?_
                            exact absurd ⟨hqp.1.symm, hqp.2.1.symm, hqp.2.2.1.symm, hqp.2.2.2.symm⟩ hall
                          · show Go pP eE bB _ T13 (mkF mM 379 #[.val (.int ch), .val (.int sel), .val (.long a), .second, .val (.long b), .second, .val (.long c), .second, .val (.long xx), .second, .val (.int len1), .val (.int len2), .val (.int c0), .val (.int c1), .val (.int d0), .val (.int d1), .val (.int sp), .val (.long a2), .second, .val (.long b2), .second, .val (.long c2), .second, .val (.int (((sel.toUInt32 >>> ((8 : Int32) &&& 31).toUInt32).toInt32) &&& (3 : Int32))), .val (.ref s1), .val (.ref s2), .val (.ref p_), .val (.ref q_), .val (.int ss), .val (.int (0 : Int32))] [(.int (0 : Int32))])
                            refine Go.of (T' := T13) (g' := (mkF mM 381 #[.val (.int ch), .val (.int sel), .val (.long a), .second, .val (.long b), .second, .val (.long c), .second, .val (.long xx), .second, .val (.int len1), .val (.int len2), .val (.int c0), .val (.int c1), .val (.int d0), .val (.int d1), .val (.int sp), .val (.long a2), .second, .val (.long b2), .second, .val (.long c2), .second, .val (.int (((sel.toUInt32 >>> ((8 : Int32) &&& 31).toUInt32).toInt32) &&& (3 : Int32))), .val (.ref s1), .val (.ref s2), .val (.ref p_), .val (.ref q_), .val (.int ss), .val (.int (0 : Int32))] [(.int (0 : Int32)), (.int (0 : Int32))])) (fun _ k => XS.iload X13.hh X13.hx rfl (hb hby at_379) rfl k) ?_
                            refine Go.of (T' := T13) (g' := (mkF mM 384 #[.val (.int ch), .val (.int sel), .val (.long a), .second, .val (.long b), .second, .val (.long c), .second, .val (.long xx), .second, .val (.int len1), .val (.int len2), .val (.int c0), .val (.int c1), .val (.int d0), .val (.int d1), .val (.int sp), .val (.long a2), .second, .val (.long b2), .second, .val (.long c2), .second, .val (.int (((sel.toUInt32 >>> ((8 : Int32) &&& 31).toUInt32).toInt32) &&& (3 : Int32))), .val (.ref s1), .val (.ref s2), .val (.ref p_), .val (.ref q_), .val (.int ss), .val (.int (0 : Int32))] [])) (fun _ k => XS.icmpNo X13.hh X13.hx rfl (hb hby at_381) rfl (teq rfl).2 k) ?_
                            refine Go.of (T' := T13) (g' := (mkF mM 385 #[.val (.int ch), .val (.int sel), .val (.long a), .second, .val (.long b), .second, .val (.long c), .second, .val (.long xx), .second, .val (.int len1), .val (.int len2), .val (.int c0), .val (.int c1), .val (.int d0), .val (.int d1), .val (.int sp), .val (.long a2), .second, .val (.long b2), .second, .val (.long c2), .second, .val (.int (((sel.toUInt32 >>> ((8 : Int32) &&& 31).toUInt32).toInt32) &&& (3 : Int32))), .val (.ref s1), .val (.ref s2), .val (.ref p_), .val (.ref q_), .val (.int ss), .val (.int (0 : Int32))] [(.int (1 : Int32))])) (fun _ k => XS.iconst X13.hh X13.hx rfl (hb hby at_384) k) ?_
                            refine Go.of (T' := T13) (g' := (mkF mM 389 #[.val (.int ch), .val (.int sel), .val (.long a), .second, .val (.long b), .second, .val (.long c), .second, .val (.long xx), .second, .val (.int len1), .val (.int len2), .val (.int c0), .val (.int c1), .val (.int d0), .val (.int d1), .val (.int sp), .val (.long a2), .second, .val (.long b2), .second, .val (.long c2), .second, .val (.int (((sel.toUInt32 >>> ((8 : Int32) &&& 31).toUInt32).toInt32) &&& (3 : Int32))), .val (.ref s1), .val (.ref s2), .val (.ref p_), .val (.ref q_), .val (.int ss), .val (.int (0 : Int32))] [(.int (1 : Int32))])) (fun _ k => XS.goto X13.hh X13.hx rfl (pc0 := 385) (pc' := 389) rfl (hb hby at_385) (by decide) (by decide) k) ?_
                            exact X13.nret (t := .boolean) hret (by simp) hlk (by decide) (by decide) (hb hby at_389) (fun S hS => rfl)
              by_cases hc250 : ss = (0 : Int32)
              · refine Go.of (T' := T6) (g' := (mkF mM 280 #[.val (.int ch), .val (.int sel), .val (.long a), .second, .val (.long b), .second, .val (.long c), .second, .val (.long xx), .second, .val (.int len1), .val (.int len2), .val (.int c0), .val (.int c1), .val (.int d0), .val (.int d1), .val (.int sp), .val (.long a2), .second, .val (.long b2), .second, .val (.long c2), .second, .val (.int (((sel.toUInt32 >>> ((8 : Int32) &&& 31).toUInt32).toInt32) &&& (3 : Int32))), .val (.ref s1), .val (.ref s2), .val (.ref p_), .val (.ref q_), .val (.int ss), .unset] [])) (fun _ k => XS.ifYes X6.hh X6.hx rfl (pc0 := 250) (pc' := 280) rfl (hb hby at_250) rfl ((if0 _ _).trans (teq hc250).1) (by decide) (by decide) k) ?_
                refine Go.of (T' := T6) (g' := (mkF mM 281 #[.val (.int ch), .val (.int sel), .val (.long a), .second, .val (.long b), .second, .val (.long c), .second, .val (.long xx), .second, .val (.int len1), .val (.int len2), .val (.int c0), .val (.int c1), .val (.int d0), .val (.int d1), .val (.int sp), .val (.long a2), .second, .val (.long b2), .second, .val (.long c2), .second, .val (.int (((sel.toUInt32 >>> ((8 : Int32) &&& 31).toUInt32).toInt32) &&& (3 : Int32))), .val (.ref s1), .val (.ref s2), .val (.ref p_), .val (.ref q_), .val (.int ss), .unset] [(.int (0 : Int32))])) (fun _ k => XS.iconst X6.hh X6.hx rfl (hb hby at_280) k) ?_
                rcases hss with ⟨h1, -⟩ | ⟨-, hss⟩
                · exact absurd (h1.symm.trans hc250) (by decide)
                · exact J6 _ (Or.inr ⟨rfl, fun q => hss q.1⟩)
              · refine Go.of (T' := T6) (g' := (mkF mM 253 #[.val (.int ch), .val (.int sel), .val (.long a), .second, .val (.long b), .second, .val (.long c), .second, .val (.long xx), .second, .val (.int len1), .val (.int len2), .val (.int c0), .val (.int c1), .val (.int d0), .val (.int d1), .val (.int sp), .val (.long a2), .second, .val (.long b2), .second, .val (.long c2), .second, .val (.int (((sel.toUInt32 >>> ((8 : Int32) &&& 31).toUInt32).toInt32) &&& (3 : Int32))), .val (.ref s1), .val (.ref s2), .val (.ref p_), .val (.ref q_), .val (.int ss), .unset] [])) (fun _ k => XS.ifNo X6.hh X6.hx rfl (hb hby at_250) rfl ((if0 _ _).trans (feq hc250).1) k) ?_
                refine Go.of (T' := T6) (g' := (mkF mM 254 #[.val (.int ch), .val (.int sel), .val (.long a), .second, .val (.long b), .second, .val (.long c), .second, .val (.long xx), .second, .val (.int len1), .val (.int len2), .val (.int c0), .val (.int c1), .val (.int d0), .val (.int d1), .val (.int sp), .val (.long a2), .second, .val (.long b2), .second, .val (.long c2), .second, .val (.int (((sel.toUInt32 >>> ((8 : Int32) &&& 31).toUInt32).toInt32) &&& (3 : Int32))), .val (.ref s1), .val (.ref s2), .val (.ref p_), .val (.ref q_), .val (.int ss), .unset] [(.long a)])) (fun _ k => XS.lloadN X6.hh X6.hx rfl (hb hby at_253) rfl k) ?_
                refine Go.of (T' := T6) (g' := (mkF mM 256 #[.val (.int ch), .val (.int sel), .val (.long a), .second, .val (.long b), .second, .val (.long c), .second, .val (.long xx), .second, .val (.int len1), .val (.int len2), .val (.int c0), .val (.int c1), .val (.int d0), .val (.int d1), .val (.int sp), .val (.long a2), .second, .val (.long b2), .second, .val (.long c2), .second, .val (.int (((sel.toUInt32 >>> ((8 : Int32) &&& 31).toUInt32).toInt32) &&& (3 : Int32))), .val (.ref s1), .val (.ref s2), .val (.ref p_), .val (.ref q_), .val (.int ss), .unset] [(.long a2), (.long a)])) (fun _ k => XS.lload X6.hh X6.hx rfl (hb hby at_254) rfl k) ?_
                refine Go.of (T' := T6) (g' := (mkF mM 257 #[.val (.int ch), .val (.int sel), .val (.long a), .second, .val (.long b), .second, .val (.long c), .second, .val (.long xx), .second, .val (.int len1), .val (.int len2), .val (.int c0), .val (.int c1), .val (.int d0), .val (.int d1), .val (.int sp), .val (.long a2), .second, .val (.long b2), .second, .val (.long c2), .second, .val (.int (((sel.toUInt32 >>> ((8 : Int32) &&& 31).toUInt32).toInt32) &&& (3 : Int32))), .val (.ref s1), .val (.ref s2), .val (.ref p_), .val (.ref q_), .val (.int ss), .unset] [(.int (lcmpW a a2))])) (fun _ k => XS.lcmp X6.hh X6.hx rfl (hb hby at_256) rfl k) ?_
                by_cases hc257 : (lcmpW a a2) = (0 : Int32)
                · refine Go.of (T' := T6) (g' := (mkF mM 260 #[.val (.int ch), .val (.int sel), .val (.long a), .second, .val (.long b), .second, .val (.long c), .second, .val (.long xx), .second, .val (.int len1), .val (.int len2), .val (.int c0), .val (.int c1), .val (.int d0), .val (.int d1), .val (.int sp), .val (.long a2), .second, .val (.long b2), .second, .val (.long c2), .second, .val (.int (((sel.toUInt32 >>> ((8 : Int32) &&& 31).toUInt32).toInt32) &&& (3 : Int32))), .val (.ref s1), .val (.ref s2), .val (.ref p_), .val (.ref q_), .val (.int ss), .unset] [])) (fun _ k => XS.ifNo X6.hh X6.hx rfl (hb hby at_257) rfl ((if0 _ _).trans (teq hc257).2) k) ?_
                  refine Go.of (T' := T6) (g' := (mkF mM 262 #[.val (.int ch), .val (.int sel), .val (.long a), .second, .val (.long b), .second, .val (.long c), .second, .val (.long xx), .second, .val (.int len1), .val (.int len2), .val (.int c0), .val (.int c1), .val (.int d0), .val (.int d1), .val (.int sp), .val (.long a2), .second, .val (.long b2), .second, .val (.long c2), .second, .val (.int (((sel.toUInt32 >>> ((8 : Int32) &&& 31).toUInt32).toInt32) &&& (3 : Int32))), .val (.ref s1), .val (.ref s2), .val (.ref p_), .val (.ref q_), .val (.int ss), .unset] [(.long b)])) (fun _ k => XS.lload X6.hh X6.hx rfl (hb hby at_260) rfl k) ?_
                  refine Go.of (T' := T6) (g' := (mkF mM 264 #[.val (.int ch), .val (.int sel), .val (.long a), .second, .val (.long b), .second, .val (.long c), .second, .val (.long xx), .second, .val (.int len1), .val (.int len2), .val (.int c0), .val (.int c1), .val (.int d0), .val (.int d1), .val (.int sp), .val (.long a2), .second, .val (.long b2), .second, .val (.long c2), .second, .val (.int (((sel.toUInt32 >>> ((8 : Int32) &&& 31).toUInt32).toInt32) &&& (3 : Int32))), .val (.ref s1), .val (.ref s2), .val (.ref p_), .val (.ref q_), .val (.int ss), .unset] [(.long b2), (.long b)])) (fun _ k => XS.lload X6.hh X6.hx rfl (hb hby at_262) rfl k) ?_
                  refine Go.of (T' := T6) (g' := (mkF mM 265 #[.val (.int ch), .val (.int sel), .val (.long a), .second, .val (.long b), .second, .val (.long c), .second, .val (.long xx), .second, .val (.int len1), .val (.int len2), .val (.int c0), .val (.int c1), .val (.int d0), .val (.int d1), .val (.int sp), .val (.long a2), .second, .val (.long b2), .second, .val (.long c2), .second, .val (.int (((sel.toUInt32 >>> ((8 : Int32) &&& 31).toUInt32).toInt32) &&& (3 : Int32))), .val (.ref s1), .val (.ref s2), .val (.ref p_), .val (.ref q_), .val (.int ss), .unset] [(.int (lcmpW b b2))])) (fun _ k => XS.lcmp X6.hh X6.hx rfl (hb hby at_264) rfl k) ?_
                  by_cases hc265 : (lcmpW b b2) = (0 : Int32)
                  · refine Go.of (T' := T6) (g' := (mkF mM 268 #[.val (.int ch), .val (.int sel), .val (.long a), .second, .val (.long b), .second, .val (.long c), .second, .val (.long xx), .second, .val (.int len1), .val (.int len2), .val (.int c0), .val (.int c1), .val (.int d0), .val (.int d1), .val (.int sp), .val (.long a2), .second, .val (.long b2), .second, .val (.long c2), .second, .val (.int (((sel.toUInt32 >>> ((8 : Int32) &&& 31).toUInt32).toInt32) &&& (3 : Int32))), .val (.ref s1), .val (.ref s2), .val (.ref p_), .val (.ref q_), .val (.int ss), .unset] [])) (fun _ k => XS.ifNo X6.hh X6.hx rfl (hb hby at_265) rfl ((if0 _ _).trans (teq hc265).2) k) ?_
                    refine Go.of (T' := T6) (g' := (mkF mM 270 #[.val (.int ch), .val (.int sel), .val (.long a), .second, .val (.long b), .second, .val (.long c), .second, .val (.long xx), .second, .val (.int len1), .val (.int len2), .val (.int c0), .val (.int c1), .val (.int d0), .val (.int d1), .val (.int sp), .val (.long a2), .second, .val (.long b2), .second, .val (.long c2), .second, .val (.int (((sel.toUInt32 >>> ((8 : Int32) &&& 31).toUInt32).toInt32) &&& (3 : Int32))), .val (.ref s1), .val (.ref s2), .val (.ref p_), .val (.ref q_), .val (.int ss), .unset] [(.long c)])) (fun _ k => XS.lload X6.hh X6.hx rfl (hb hby at_268) rfl k) ?_
                    refine Go.of (T' := T6) (g' := (mkF mM 272 #[.val (.int ch), .val (.int sel), .val (.long a), .second, .val (.long b), .second, .val (.long c), .second, .val (.long xx), .second, .val (.int len1), .val (.int len2), .val (.int c0), .val (.int c1), .val (.int d0), .val (.int d1), .val (.int sp), .val (.long a2), .second, .val (.long b2), .second, .val (.long c2), .second, .val (.int (((sel.toUInt32 >>> ((8 : Int32) &&& 31).toUInt32).toInt32) &&& (3 : Int32))), .val (.ref s1), .val (.ref s2), .val (.ref p_), .val (.ref q_), .val (.int ss), .unset] [(.long c2), (.long c)])) (fun _ k => XS.lload X6.hh X6.hx rfl (hb hby at_270) rfl k) ?_
                    refine Go.of (T' := T6) (g' := (mkF mM 273 #[.val (.int ch), .val (.int sel), .val (.long a), .second, .val (.long b), .second, .val (.long c), .second, .val (.long xx), .second, .val (.int len1), .val (.int len2), .val (.int c0), .val (.int c1), .val (.int d0), .val (.int d1), .val (.int sp), .val (.long a2), .second, .val (.long b2), .second, .val (.long c2), .second, .val (.int (((sel.toUInt32 >>> ((8 : Int32) &&& 31).toUInt32).toInt32) &&& (3 : Int32))), .val (.ref s1), .val (.ref s2), .val (.ref p_), .val (.ref q_), .val (.int ss), .unset] [(.int (lcmpW c c2))])) (fun _ k => XS.lcmp X6.hh X6.hx rfl (hb hby at_272) rfl k) ?_
                    by_cases hc273 : (lcmpW c c2) = (0 : Int32)
                    · refine Go.of (T' := T6) (g' := (mkF mM 276 #[.val (.int ch), .val (.int sel), .val (.long a), .second, .val (.long b), .second, .val (.long c), .second, .val (.long xx), .second, .val (.int len1), .val (.int len2), .val (.int c0), .val (.int c1), .val (.int d0), .val (.int d1), .val (.int sp), .val (.long a2), .second, .val (.long b2), .second, .val (.long c2), .second, .val (.int (((sel.toUInt32 >>> ((8 : Int32) &&& 31).toUInt32).toInt32) &&& (3 : Int32))), .val (.ref s1), .val (.ref s2), .val (.ref p_), .val (.ref q_), .val (.int ss), .unset] [])) (fun _ k => XS.ifNo X6.hh X6.hx rfl (hb hby at_273) rfl ((if0 _ _).trans (teq hc273).2) k) ?_
                      refine Go.of (T' := T6) (g' := (mkF mM 277 #[.val (.int ch), .val (.int sel), .val (.long a), .second, .val (.long b), .second, .val (.long c), .second, .val (.long xx), .second, .val (.int len1), .val (.int len2), .val (.int c0), .val (.int c1), .val (.int d0), .val (.int d1), .val (.int sp), .val (.long a2), .second, .val (.long b2), .second, .val (.long c2), .second, .val (.int (((sel.toUInt32 >>> ((8 : Int32) &&& 31).toUInt32).toInt32) &&& (3 : Int32))), .val (.ref s1), .val (.ref s2), .val (.ref p_), .val (.ref q_), .val (.int ss), .unset] [(.int (1 : Int32))])) (fun _ k => XS.iconst X6.hh X6.hx rfl (hb hby at_276) k) ?_
                      refine Go.of (T' := T6) (g' := (mkF mM 281 #[.val (.int ch), .val (.int sel), .val (.long a), .second, .val (.long b), .second, .val (.long c), .second, .val (.long xx), .second, .val (.int len1), .val (.int len2), .val (.int c0), .val (.int c1), .val (.int d0), .val (.int d1), .val (.int sp), .val (.long a2), .second, .val (.long b2), .second, .val (.long c2), .second, .val (.int (((sel.toUInt32 >>> ((8 : Int32) &&& 31).toUInt32).toInt32) &&& (3 : Int32))), .val (.ref s1), .val (.ref s2), .val (.ref p_), .val (.ref q_), .val (.int ss), .unset] [(.int (1 : Int32))])) (fun _ k => XS.goto X6.hh X6.hx rfl (pc0 := 277) (pc' := 281) rfl (hb hby at_277) (by decide) (by decide) k) ?_
                      rcases hss with ⟨-, hss⟩ | ⟨h0, -⟩
                      · exact J6 _ (Or.inl ⟨rfl, hss, (lw_eq _ _).mp hc257, (lw_eq _ _).mp hc265, (lw_eq _ _).mp hc273⟩)
                      · exact absurd h0 hc250
                    · refine Go.of (T' := T6) (g' := (mkF mM 280 #[.val (.int ch), .val (.int sel), .val (.long a), .second, .val (.long b), .second, .val (.long c), .second, .val (.long xx), .second, .val (.int len1), .val (.int len2), .val (.int c0), .val (.int c1), .val (.int d0), .val (.int d1), .val (.int sp), .val (.long a2), .second, .val (.long b2), .second, .val (.long c2), .second, .val (.int (((sel.toUInt32 >>> ((8 : Int32) &&& 31).toUInt32).toInt32) &&& (3 : Int32))), .val (.ref s1), .val (.ref s2), .val (.ref p_), .val (.ref q_), .val (.int ss), .unset] [])) (fun _ k => XS.ifYes X6.hh X6.hx rfl (pc0 := 273) (pc' := 280) rfl (hb hby at_273) rfl ((if0 _ _).trans (feq hc273).2) (by decide) (by decide) k) ?_
                      refine Go.of (T' := T6) (g' := (mkF mM 281 #[.val (.int ch), .val (.int sel), .val (.long a), .second, .val (.long b), .second, .val (.long c), .second, .val (.long xx), .second, .val (.int len1), .val (.int len2), .val (.int c0), .val (.int c1), .val (.int d0), .val (.int d1), .val (.int sp), .val (.long a2), .second, .val (.long b2), .second, .val (.long c2), .second, .val (.int (((sel.toUInt32 >>> ((8 : Int32) &&& 31).toUInt32).toInt32) &&& (3 : Int32))), .val (.ref s1), .val (.ref s2), .val (.ref p_), .val (.ref q_), .val (.int ss), .unset] [(.int (0 : Int32))])) (fun _ k => XS.iconst X6.hh X6.hx rfl (hb hby at_280) k) ?_
                      exact J6 _ (Or.inr ⟨rfl, fun q => hc273 ((lw_eq _ _).mpr q.2.2.2)⟩)
                  · refine Go.of (T' := T6) (g' := (mkF mM 280 #[.val (.int ch), .val (.int sel), .val (.long a), .second, .val (.long b), .second, .val (.long c), .second, .val (.long xx), .second, .val (.int len1), .val (.int len2), .val (.int c0), .val (.int c1), .val (.int d0), .val (.int d1), .val (.int sp), .val (.long a2), .second, .val (.long b2), .second, .val (.long c2), .second, .val (.int (((sel.toUInt32 >>> ((8 : Int32) &&& 31).toUInt32).toInt32) &&& (3 : Int32))), .val (.ref s1), .val (.ref s2), .val (.ref p_), .val (.ref q_), .val (.int ss), .unset] [])) (fun _ k => XS.ifYes X6.hh X6.hx rfl (pc0 := 265) (pc' := 280) rfl (hb hby at_265) rfl ((if0 _ _).trans (feq hc265).2) (by decide) (by decide) k) ?_
                    refine Go.of (T' := T6) (g' := (mkF mM 281 #[.val (.int ch), .val (.int sel), .val (.long a), .second, .val (.long b), .second, .val (.long c), .second, .val (.long xx), .second, .val (.int len1), .val (.int len2), .val (.int c0), .val (.int c1), .val (.int d0), .val (.int d1), .val (.int sp), .val (.long a2), .second, .val (.long b2), .second, .val (.long c2), .second, .val (.int (((sel.toUInt32 >>> ((8 : Int32) &&& 31).toUInt32).toInt32) &&& (3 : Int32))), .val (.ref s1), .val (.ref s2), .val (.ref p_), .val (.ref q_), .val (.int ss), .unset] [(.int (0 : Int32))])) (fun _ k => XS.iconst X6.hh X6.hx rfl (hb hby at_280) k) ?_
                    exact J6 _ (Or.inr ⟨rfl, fun q => hc265 ((lw_eq _ _).mpr q.2.2.1)⟩)
                · refine Go.of (T' := T6) (g' := (mkF mM 280 #[.val (.int ch), .val (.int sel), .val (.long a), .second, .val (.long b), .second, .val (.long c), .second, .val (.long xx), .second, .val (.int len1), .val (.int len2), .val (.int c0), .val (.int c1), .val (.int d0), .val (.int d1), .val (.int sp), .val (.long a2), .second, .val (.long b2), .second, .val (.long c2), .second, .val (.int (((sel.toUInt32 >>> ((8 : Int32) &&& 31).toUInt32).toInt32) &&& (3 : Int32))), .val (.ref s1), .val (.ref s2), .val (.ref p_), .val (.ref q_), .val (.int ss), .unset] [])) (fun _ k => XS.ifYes X6.hh X6.hx rfl (pc0 := 257) (pc' := 280) rfl (hb hby at_257) rfl ((if0 _ _).trans (feq hc257).2) (by decide) (by decide) k) ?_
                  refine Go.of (T' := T6) (g' := (mkF mM 281 #[.val (.int ch), .val (.int sel), .val (.long a), .second, .val (.long b), .second, .val (.long c), .second, .val (.long xx), .second, .val (.int len1), .val (.int len2), .val (.int c0), .val (.int c1), .val (.int d0), .val (.int d1), .val (.int sp), .val (.long a2), .second, .val (.long b2), .second, .val (.long c2), .second, .val (.int (((sel.toUInt32 >>> ((8 : Int32) &&& 31).toUInt32).toInt32) &&& (3 : Int32))), .val (.ref s1), .val (.ref s2), .val (.ref p_), .val (.ref q_), .val (.int ss), .unset] [(.int (0 : Int32))])) (fun _ k => XS.iconst X6.hh X6.hx rfl (hb hby at_280) k) ?_
                  exact J6 _ (Or.inr ⟨rfl, fun q => hc257 ((lw_eq _ _).mpr q.2.1)⟩)
            by_cases hc212 : len1 = len2
            · refine Go.of (T' := T6) (g' := (mkF mM 215 #[.val (.int ch), .val (.int sel), .val (.long a), .second, .val (.long b), .second, .val (.long c), .second, .val (.long xx), .second, .val (.int len1), .val (.int len2), .val (.int c0), .val (.int c1), .val (.int d0), .val (.int d1), .val (.int sp), .val (.long a2), .second, .val (.long b2), .second, .val (.long c2), .second, .val (.int (((sel.toUInt32 >>> ((8 : Int32) &&& 31).toUInt32).toInt32) &&& (3 : Int32))), .val (.ref s1), .val (.ref s2), .val (.ref p_), .val (.ref q_), .unset, .unset] [])) (fun _ k => XS.icmpNo X6.hh X6.hx rfl (hb hby at_212) rfl (teq hc212).2 k) ?_
              refine Go.of (T' := T6) (g' := (mkF mM 217 #[.val (.int ch), .val (.int sel), .val (.long a), .second, .val (.long b), .second, .val (.long c), .second, .val (.long xx), .second, .val (.int len1), .val (.int len2), .val (.int c0), .val (.int c1), .val (.int d0), .val (.int d1), .val (.int sp), .val (.long a2), .second, .val (.long b2), .second, .val (.long c2), .second, .val (.int (((sel.toUInt32 >>> ((8 : Int32) &&& 31).toUInt32).toInt32) &&& (3 : Int32))), .val (.ref s1), .val (.ref s2), .val (.ref p_), .val (.ref q_), .unset, .unset] [(.int len1)])) (fun _ k => XS.iload X6.hh X6.hx rfl (hb hby at_215) rfl k) ?_
              refine Go.of (T' := T6) (g' := (mkF mM 218 #[.val (.int ch), .val (.int sel), .val (.long a), .second, .val (.long b), .second, .val (.long c), .second, .val (.long xx), .second, .val (.int len1), .val (.int len2), .val (.int c0), .val (.int c1), .val (.int d0), .val (.int d1), .val (.int sp), .val (.long a2), .second, .val (.long b2), .second, .val (.long c2), .second, .val (.int (((sel.toUInt32 >>> ((8 : Int32) &&& 31).toUInt32).toInt32) &&& (3 : Int32))), .val (.ref s1), .val (.ref s2), .val (.ref p_), .val (.ref q_), .unset, .unset] [(.int (1 : Int32)), (.int len1)])) (fun _ k => XS.iconst X6.hh X6.hx rfl (hb hby at_217) k) ?_
              by_cases hc218 : len1 < (1 : Int32)
              · refine Go.of (T' := T6) (g' := (mkF mM 228 #[.val (.int ch), .val (.int sel), .val (.long a), .second, .val (.long b), .second, .val (.long c), .second, .val (.long xx), .second, .val (.int len1), .val (.int len2), .val (.int c0), .val (.int c1), .val (.int d0), .val (.int d1), .val (.int sp), .val (.long a2), .second, .val (.long b2), .second, .val (.long c2), .second, .val (.int (((sel.toUInt32 >>> ((8 : Int32) &&& 31).toUInt32).toInt32) &&& (3 : Int32))), .val (.ref s1), .val (.ref s2), .val (.ref p_), .val (.ref q_), .unset, .unset] [])) (fun _ k => XS.icmpYes X6.hh X6.hx rfl (pc0 := 218) (pc' := 228) rfl (hb hby at_218) rfl (tlt hc218).1 (by decide) (by decide) k) ?_
                refine Go.of (T' := T6) (g' := (mkF mM 230 #[.val (.int ch), .val (.int sel), .val (.long a), .second, .val (.long b), .second, .val (.long c), .second, .val (.long xx), .second, .val (.int len1), .val (.int len2), .val (.int c0), .val (.int c1), .val (.int d0), .val (.int d1), .val (.int sp), .val (.long a2), .second, .val (.long b2), .second, .val (.long c2), .second, .val (.int (((sel.toUInt32 >>> ((8 : Int32) &&& 31).toUInt32).toInt32) &&& (3 : Int32))), .val (.ref s1), .val (.ref s2), .val (.ref p_), .val (.ref q_), .unset, .unset] [(.int len1)])) (fun _ k => XS.iload X6.hh X6.hx rfl (hb hby at_228) rfl k) ?_
                refine Go.of (T' := T6) (g' := (mkF mM 231 #[.val (.int ch), .val (.int sel), .val (.long a), .second, .val (.long b), .second, .val (.long c), .second, .val (.long xx), .second, .val (.int len1), .val (.int len2), .val (.int c0), .val (.int c1), .val (.int d0), .val (.int d1), .val (.int sp), .val (.long a2), .second, .val (.long b2), .second, .val (.long c2), .second, .val (.int (((sel.toUInt32 >>> ((8 : Int32) &&& 31).toUInt32).toInt32) &&& (3 : Int32))), .val (.ref s1), .val (.ref s2), .val (.ref p_), .val (.ref q_), .unset, .unset] [(.int (2 : Int32)), (.int len1)])) (fun _ k => XS.iconst X6.hh X6.hx rfl (hb hby at_230) k) ?_
                by_cases hc231 : len1 < (2 : Int32)
                · refine Go.of (T' := T6) (g' := (mkF mM 241 #[.val (.int ch), .val (.int sel), .val (.long a), .second, .val (.long b), .second, .val (.long c), .second, .val (.long xx), .second, .val (.int len1), .val (.int len2), .val (.int c0), .val (.int c1), .val (.int d0), .val (.int d1), .val (.int sp), .val (.long a2), .second, .val (.long b2), .second, .val (.long c2), .second, .val (.int (((sel.toUInt32 >>> ((8 : Int32) &&& 31).toUInt32).toInt32) &&& (3 : Int32))), .val (.ref s1), .val (.ref s2), .val (.ref p_), .val (.ref q_), .unset, .unset] [])) (fun _ k => XS.icmpYes X6.hh X6.hx rfl (pc0 := 231) (pc' := 241) rfl (hb hby at_231) rfl (tlt hc231).1 (by decide) (by decide) k) ?_
                  refine Go.of (T' := T6) (g' := (mkF mM 242 #[.val (.int ch), .val (.int sel), .val (.long a), .second, .val (.long b), .second, .val (.long c), .second, .val (.long xx), .second, .val (.int len1), .val (.int len2), .val (.int c0), .val (.int c1), .val (.int d0), .val (.int d1), .val (.int sp), .val (.long a2), .second, .val (.long b2), .second, .val (.long c2), .second, .val (.int (((sel.toUInt32 >>> ((8 : Int32) &&& 31).toUInt32).toInt32) &&& (3 : Int32))), .val (.ref s1), .val (.ref s2), .val (.ref p_), .val (.ref q_), .unset, .unset] [(.int (1 : Int32))])) (fun _ k => XS.iconst X6.hh X6.hx rfl (hb hby at_241) k) ?_
                  refine Go.of (T' := T6) (g' := (mkF mM 246 #[.val (.int ch), .val (.int sel), .val (.long a), .second, .val (.long b), .second, .val (.long c), .second, .val (.long xx), .second, .val (.int len1), .val (.int len2), .val (.int c0), .val (.int c1), .val (.int d0), .val (.int d1), .val (.int sp), .val (.long a2), .second, .val (.long b2), .second, .val (.long c2), .second, .val (.int (((sel.toUInt32 >>> ((8 : Int32) &&& 31).toUInt32).toInt32) &&& (3 : Int32))), .val (.ref s1), .val (.ref s2), .val (.ref p_), .val (.ref q_), .unset, .unset] [(.int (1 : Int32))])) (fun _ k => XS.goto X6.hh X6.hx rfl (pc0 := 242) (pc' := 246) rfl (hb hby at_242) (by decide) (by decide) k) ?_
                  exact J5 _ (Or.inl ⟨rfl, (chs_eq r1 r2).mpr ⟨hc212, Or.inl hc218, Or.inl hc231⟩⟩)
                · refine Go.of (T' := T6) (g' := (mkF mM 234 #[.val (.int ch), .val (.int sel), .val (.long a), .second, .val (.long b), .second, .val (.long c), .second, .val (.long xx), .second, .val (.int len1), .val (.int len2), .val (.int c0), .val (.int c1), .val (.int d0), .val (.int d1), .val (.int sp), .val (.long a2), .second, .val (.long b2), .second, .val (.long c2), .second, .val (.int (((sel.toUInt32 >>> ((8 : Int32) &&& 31).toUInt32).toInt32) &&& (3 : Int32))), .val (.ref s1), .val (.ref s2), .val (.ref p_), .val (.ref q_), .unset, .unset] [])) (fun _ k => XS.icmpNo X6.hh X6.hx rfl (hb hby at_231) rfl (flt hc231).1 k) ?_
                  refine Go.of (T' := T6) (g' := (mkF mM 236 #[.val (.int ch), .val (.int sel), .val (.long a), .second, .val (.long b), .second, .val (.long c), .second, .val (.long xx), .second, .val (.int len1), .val (.int len2), .val (.int c0), .val (.int c1), .val (.int d0), .val (.int d1), .val (.int sp), .val (.long a2), .second, .val (.long b2), .second, .val (.long c2), .second, .val (.int (((sel.toUInt32 >>> ((8 : Int32) &&& 31).toUInt32).toInt32) &&& (3 : Int32))), .val (.ref s1), .val (.ref s2), .val (.ref p_), .val (.ref q_), .unset, .unset] [(.int c1)])) (fun _ k => XS.iload X6.hh X6.hx rfl (hb hby at_234) rfl k) ?_
                  refine Go.of (T' := T6) (g' := (mkF mM 238 #[.val (.int ch), .val (.int sel), .val (.long a), .second, .val (.long b), .second, .val (.long c), .second, .val (.long xx), .second, .val (.int len1), .val (.int len2), .val (.int c0), .val (.int c1), .val (.int d0), .val (.int d1), .val (.int sp), .val (.long a2), .second, .val (.long b2), .second, .val (.long c2), .second, .val (.int (((sel.toUInt32 >>> ((8 : Int32) &&& 31).toUInt32).toInt32) &&& (3 : Int32))), .val (.ref s1), .val (.ref s2), .val (.ref p_), .val (.ref q_), .unset, .unset] [(.int d1), (.int c1)])) (fun _ k => XS.iload X6.hh X6.hx rfl (hb hby at_236) rfl k) ?_
                  by_cases hc238 : c1 = d1
                  · refine Go.of (T' := T6) (g' := (mkF mM 241 #[.val (.int ch), .val (.int sel), .val (.long a), .second, .val (.long b), .second, .val (.long c), .second, .val (.long xx), .second, .val (.int len1), .val (.int len2), .val (.int c0), .val (.int c1), .val (.int d0), .val (.int d1), .val (.int sp), .val (.long a2), .second, .val (.long b2), .second, .val (.long c2), .second, .val (.int (((sel.toUInt32 >>> ((8 : Int32) &&& 31).toUInt32).toInt32) &&& (3 : Int32))), .val (.ref s1), .val (.ref s2), .val (.ref p_), .val (.ref q_), .unset, .unset] [])) (fun _ k => XS.icmpNo X6.hh X6.hx rfl (hb hby at_238) rfl (teq hc238).2 k) ?_
                    refine Go.of (T' := T6) (g' := (mkF mM 242 #[.val (.int ch), .val (.int sel), .val (.long a), .second, .val (.long b), .second, .val (.long c), .second, .val (.long xx), .second, .val (.int len1), .val (.int len2), .val (.int c0), .val (.int c1), .val (.int d0), .val (.int d1), .val (.int sp), .val (.long a2), .second, .val (.long b2), .second, .val (.long c2), .second, .val (.int (((sel.toUInt32 >>> ((8 : Int32) &&& 31).toUInt32).toInt32) &&& (3 : Int32))), .val (.ref s1), .val (.ref s2), .val (.ref p_), .val (.ref q_), .unset, .unset] [(.int (1 : Int32))])) (fun _ k => XS.iconst X6.hh X6.hx rfl (hb hby at_241) k) ?_
                    refine Go.of (T' := T6) (g' := (mkF mM 246 #[.val (.int ch), .val (.int sel), .val (.long a), .second, .val (.long b), .second, .val (.long c), .second, .val (.long xx), .second, .val (.int len1), .val (.int len2), .val (.int c0), .val (.int c1), .val (.int d0), .val (.int d1), .val (.int sp), .val (.long a2), .second, .val (.long b2), .second, .val (.long c2), .second, .val (.int (((sel.toUInt32 >>> ((8 : Int32) &&& 31).toUInt32).toInt32) &&& (3 : Int32))), .val (.ref s1), .val (.ref s2), .val (.ref p_), .val (.ref q_), .unset, .unset] [(.int (1 : Int32))])) (fun _ k => XS.goto X6.hh X6.hx rfl (pc0 := 242) (pc' := 246) rfl (hb hby at_242) (by decide) (by decide) k) ?_
                    exact J5 _ (Or.inl ⟨rfl, (chs_eq r1 r2).mpr ⟨hc212, Or.inl hc218, Or.inr hc238⟩⟩)
                  · refine Go.of (T' := T6) (g' := (mkF mM 245 #[.val (.int ch), .val (.int sel), .val (.long a), .second, .val (.long b), .second, .val (.long c), .second, .val (.long xx), .second, .val (.int len1), .val (.int len2), .val (.int c0), .val (.int c1), .val (.int d0), .val (.int d1), .val (.int sp), .val (.long a2), .second, .val (.long b2), .second, .val (.long c2), .second, .val (.int (((sel.toUInt32 >>> ((8 : Int32) &&& 31).toUInt32).toInt32) &&& (3 : Int32))), .val (.ref s1), .val (.ref s2), .val (.ref p_), .val (.ref q_), .unset, .unset] [])) (fun _ k => XS.icmpYes X6.hh X6.hx rfl (pc0 := 238) (pc' := 245) rfl (hb hby at_238) rfl (feq hc238).2 (by decide) (by decide) k) ?_
                    refine Go.of (T' := T6) (g' := (mkF mM 246 #[.val (.int ch), .val (.int sel), .val (.long a), .second, .val (.long b), .second, .val (.long c), .second, .val (.long xx), .second, .val (.int len1), .val (.int len2), .val (.int c0), .val (.int c1), .val (.int d0), .val (.int d1), .val (.int sp), .val (.long a2), .second, .val (.long b2), .second, .val (.long c2), .second, .val (.int (((sel.toUInt32 >>> ((8 : Int32) &&& 31).toUInt32).toInt32) &&& (3 : Int32))), .val (.ref s1), .val (.ref s2), .val (.ref p_), .val (.ref q_), .unset, .unset] [(.int (0 : Int32))])) (fun _ k => XS.iconst X6.hh X6.hx rfl (hb hby at_245) k) ?_
                    exact J5 _ (Or.inr ⟨rfl, fun q => ((chs_eq r1 r2).mp q).2.2.elim (fun r => hc231 r) (fun r => hc238 r)⟩)
              · refine Go.of (T' := T6) (g' := (mkF mM 221 #[.val (.int ch), .val (.int sel), .val (.long a), .second, .val (.long b), .second, .val (.long c), .second, .val (.long xx), .second, .val (.int len1), .val (.int len2), .val (.int c0), .val (.int c1), .val (.int d0), .val (.int d1), .val (.int sp), .val (.long a2), .second, .val (.long b2), .second, .val (.long c2), .second, .val (.int (((sel.toUInt32 >>> ((8 : Int32) &&& 31).toUInt32).toInt32) &&& (3 : Int32))), .val (.ref s1), .val (.ref s2), .val (.ref p_), .val (.ref q_), .unset, .unset] [])) (fun _ k => XS.icmpNo X6.hh X6.hx rfl (hb hby at_218) rfl (flt hc218).1 k) ?_
                refine Go.of (T' := T6) (g' := (mkF mM 223 #[.val (.int ch), .val (.int sel), .val (.long a), .second, .val (.long b), .second, .val (.long c), .second, .val (.long xx), .second, .val (.int len1), .val (.int len2), .val (.int c0), .val (.int c1), .val (.int d0), .val (.int d1), .val (.int sp), .val (.long a2), .second, .val (.long b2), .second, .val (.long c2), .second, .val (.int (((sel.toUInt32 >>> ((8 : Int32) &&& 31).toUInt32).toInt32) &&& (3 : Int32))), .val (.ref s1), .val (.ref s2), .val (.ref p_), .val (.ref q_), .unset, .unset] [(.int c0)])) (fun _ k => XS.iload X6.hh X6.hx rfl (hb hby at_221) rfl k) ?_
                refine Go.of (T' := T6) (g' := (mkF mM 225 #[.val (.int ch), .val (.int sel), .val (.long a), .second, .val (.long b), .second, .val (.long c), .second, .val (.long xx), .second, .val (.int len1), .val (.int len2), .val (.int c0), .val (.int c1), .val (.int d0), .val (.int d1), .val (.int sp), .val (.long a2), .second, .val (.long b2), .second, .val (.long c2), .second, .val (.int (((sel.toUInt32 >>> ((8 : Int32) &&& 31).toUInt32).toInt32) &&& (3 : Int32))), .val (.ref s1), .val (.ref s2), .val (.ref p_), .val (.ref q_), .unset, .unset] [(.int d0), (.int c0)])) (fun _ k => XS.iload X6.hh X6.hx rfl (hb hby at_223) rfl k) ?_
                by_cases hc225 : c0 = d0
                · refine Go.of (T' := T6) (g' := (mkF mM 228 #[.val (.int ch), .val (.int sel), .val (.long a), .second, .val (.long b), .second, .val (.long c), .second, .val (.long xx), .second, .val (.int len1), .val (.int len2), .val (.int c0), .val (.int c1), .val (.int d0), .val (.int d1), .val (.int sp), .val (.long a2), .second, .val (.long b2), .second, .val (.long c2), .second, .val (.int (((sel.toUInt32 >>> ((8 : Int32) &&& 31).toUInt32).toInt32) &&& (3 : Int32))), .val (.ref s1), .val (.ref s2), .val (.ref p_), .val (.ref q_), .unset, .unset] [])) (fun _ k => XS.icmpNo X6.hh X6.hx rfl (hb hby at_225) rfl (teq hc225).2 k) ?_
                  refine Go.of (T' := T6) (g' := (mkF mM 230 #[.val (.int ch), .val (.int sel), .val (.long a), .second, .val (.long b), .second, .val (.long c), .second, .val (.long xx), .second, .val (.int len1), .val (.int len2), .val (.int c0), .val (.int c1), .val (.int d0), .val (.int d1), .val (.int sp), .val (.long a2), .second, .val (.long b2), .second, .val (.long c2), .second, .val (.int (((sel.toUInt32 >>> ((8 : Int32) &&& 31).toUInt32).toInt32) &&& (3 : Int32))), .val (.ref s1), .val (.ref s2), .val (.ref p_), .val (.ref q_), .unset, .unset] [(.int len1)])) (fun _ k => XS.iload X6.hh X6.hx rfl (hb hby at_228) rfl k) ?_
                  refine Go.of (T' := T6) (g' := (mkF mM 231 #[.val (.int ch), .val (.int sel), .val (.long a), .second, .val (.long b), .second, .val (.long c), .second, .val (.long xx), .second, .val (.int len1), .val (.int len2), .val (.int c0), .val (.int c1), .val (.int d0), .val (.int d1), .val (.int sp), .val (.long a2), .second, .val (.long b2), .second, .val (.long c2), .second, .val (.int (((sel.toUInt32 >>> ((8 : Int32) &&& 31).toUInt32).toInt32) &&& (3 : Int32))), .val (.ref s1), .val (.ref s2), .val (.ref p_), .val (.ref q_), .unset, .unset] [(.int (2 : Int32)), (.int len1)])) (fun _ k => XS.iconst X6.hh X6.hx rfl (hb hby at_230) k) ?_
                  by_cases hc231 : len1 < (2 : Int32)
                  · refine Go.of (T' := T6) (g' := (mkF mM 241 #[.val (.int ch), .val (.int sel), .val (.long a), .second, .val (.long b), .second, .val (.long c), .second, .val (.long xx), .second, .val (.int len1), .val (.int len2), .val (.int c0), .val (.int c1), .val (.int d0), .val (.int d1), .val (.int sp), .val (.long a2), .second, .val (.long b2), .second, .val (.long c2), .second, .val (.int (((sel.toUInt32 >>> ((8 : Int32) &&& 31).toUInt32).toInt32) &&& (3 : Int32))), .val (.ref s1), .val (.ref s2), .val (.ref p_), .val (.ref q_), .unset, .unset] [])) (fun _ k => XS.icmpYes X6.hh X6.hx rfl (pc0 := 231) (pc' := 241) rfl (hb hby at_231) rfl (tlt hc231).1 (by decide) (by decide) k) ?_
                    refine Go.of (T' := T6) (g' := (mkF mM 242 #[.val (.int ch), .val (.int sel), .val (.long a), .second, .val (.long b), .second, .val (.long c), .second, .val (.long xx), .second, .val (.int len1), .val (.int len2), .val (.int c0), .val (.int c1), .val (.int d0), .val (.int d1), .val (.int sp), .val (.long a2), .second, .val (.long b2), .second, .val (.long c2), .second, .val (.int (((sel.toUInt32 >>> ((8 : Int32) &&& 31).toUInt32).toInt32) &&& (3 : Int32))), .val (.ref s1), .val (.ref s2), .val (.ref p_), .val (.ref q_), .unset, .unset] [(.int (1 : Int32))])) (fun _ k => XS.iconst X6.hh X6.hx rfl (hb hby at_241) k) ?_
                    refine Go.of (T' := T6) (g' := (mkF mM 246 #[.val (.int ch), .val (.int sel), .val (.long a), .second, .val (.long b), .second, .val (.long c), .second, .val (.long xx), .second, .val (.int len1), .val (.int len2), .val (.int c0), .val (.int c1), .val (.int d0), .val (.int d1), .val (.int sp), .val (.long a2), .second, .val (.long b2), .second, .val (.long c2), .second, .val (.int (((sel.toUInt32 >>> ((8 : Int32) &&& 31).toUInt32).toInt32) &&& (3 : Int32))), .val (.ref s1), .val (.ref s2), .val (.ref p_), .val (.ref q_), .unset, .unset] [(.int (1 : Int32))])) (fun _ k => XS.goto X6.hh X6.hx rfl (pc0 := 242) (pc' := 246) rfl (hb hby at_242) (by decide) (by decide) k) ?_
                    exact J5 _ (Or.inl ⟨rfl, (chs_eq r1 r2).mpr ⟨hc212, Or.inr hc225, Or.inl hc231⟩⟩)
                  · refine Go.of (T' := T6) (g' := (mkF mM 234 #[.val (.int ch), .val (.int sel), .val (.long a), .second, .val (.long b), .second, .val (.long c), .second, .val (.long xx), .second, .val (.int len1), .val (.int len2), .val (.int c0), .val (.int c1), .val (.int d0), .val (.int d1), .val (.int sp), .val (.long a2), .second, .val (.long b2), .second, .val (.long c2), .second, .val (.int (((sel.toUInt32 >>> ((8 : Int32) &&& 31).toUInt32).toInt32) &&& (3 : Int32))), .val (.ref s1), .val (.ref s2), .val (.ref p_), .val (.ref q_), .unset, .unset] [])) (fun _ k => XS.icmpNo X6.hh X6.hx rfl (hb hby at_231) rfl (flt hc231).1 k) ?_
                    refine Go.of (T' := T6) (g' := (mkF mM 236 #[.val (.int ch), .val (.int sel), .val (.long a), .second, .val (.long b), .second, .val (.long c), .second, .val (.long xx), .second, .val (.int len1), .val (.int len2), .val (.int c0), .val (.int c1), .val (.int d0), .val (.int d1), .val (.int sp), .val (.long a2), .second, .val (.long b2), .second, .val (.long c2), .second, .val (.int (((sel.toUInt32 >>> ((8 : Int32) &&& 31).toUInt32).toInt32) &&& (3 : Int32))), .val (.ref s1), .val (.ref s2), .val (.ref p_), .val (.ref q_), .unset, .unset] [(.int c1)])) (fun _ k => XS.iload X6.hh X6.hx rfl (hb hby at_234) rfl k) ?_
                    refine Go.of (T' := T6) (g' := (mkF mM 238 #[.val (.int ch), .val (.int sel), .val (.long a), .second, .val (.long b), .second, .val (.long c), .second, .val (.long xx), .second, .val (.int len1), .val (.int len2), .val (.int c0), .val (.int c1), .val (.int d0), .val (.int d1), .val (.int sp), .val (.long a2), .second, .val (.long b2), .second, .val (.long c2), .second, .val (.int (((sel.toUInt32 >>> ((8 : Int32) &&& 31).toUInt32).toInt32) &&& (3 : Int32))), .val (.ref s1), .val (.ref s2), .val (.ref p_), .val (.ref q_), .unset, .unset] [(.int d1), (.int c1)])) (fun _ k => XS.iload X6.hh X6.hx rfl (hb hby at_236) rfl k) ?_
                    by_cases hc238 : c1 = d1
                    · refine Go.of (T' := T6) (g' := (mkF mM 241 #[.val (.int ch), .val (.int sel), .val (.long a), .second, .val (.long b), .second, .val (.long c), .second, .val (.long xx), .second, .val (.int len1), .val (.int len2), .val (.int c0), .val (.int c1), .val (.int d0), .val (.int d1), .val (.int sp), .val (.long a2), .second, .val (.long b2), .second, .val (.long c2), .second, .val (.int (((sel.toUInt32 >>> ((8 : Int32) &&& 31).toUInt32).toInt32) &&& (3 : Int32))), .val (.ref s1), .val (.ref s2), .val (.ref p_), .val (.ref q_), .unset, .unset] [])) (fun _ k => XS.icmpNo X6.hh X6.hx rfl (hb hby at_238) rfl (teq hc238).2 k) ?_
                      refine Go.of (T' := T6) (g' := (mkF mM 242 #[.val (.int ch), .val (.int sel), .val (.long a), .second, .val (.long b), .second, .val (.long c), .second, .val (.long xx), .second, .val (.int len1), .val (.int len2), .val (.int c0), .val (.int c1), .val (.int d0), .val (.int d1), .val (.int sp), .val (.long a2), .second, .val (.long b2), .second, .val (.long c2), .second, .val (.int (((sel.toUInt32 >>> ((8 : Int32) &&& 31).toUInt32).toInt32) &&& (3 : Int32))), .val (.ref s1), .val (.ref s2), .val (.ref p_), .val (.ref q_), .unset, .unset] [(.int (1 : Int32))])) (fun _ k => XS.iconst X6.hh X6.hx rfl (hb hby at_241) k) ?_
                      refine Go.of (T' := T6) (g' := (mkF mM 246 #[.val (.int ch), .val (.int sel), .val (.long a), .second, .val (.long b), .second, .val (.long c), .second, .val (.long xx), .second, .val (.int len1), .val (.int len2), .val (.int c0), .val (.int c1), .val (.int d0), .val (.int d1), .val (.int sp), .val (.long a2), .second, .val (.long b2), .second, .val (.long c2), .second, .val (.int (((sel.toUInt32 >>> ((8 : Int32) &&& 31).toUInt32).toInt32) &&& (3 : Int32))), .val (.ref s1), .val (.ref s2), .val (.ref p_), .val (.ref q_), .unset, .unset] [(.int (1 : Int32))])) (fun _ k => XS.goto X6.hh X6.hx rfl (pc0 := 242) (pc' := 246) rfl (hb hby at_242) (by decide) (by decide) k) ?_
                      exact J5 _ (Or.inl ⟨rfl, (chs_eq r1 r2).mpr ⟨hc212, Or.inr hc225, Or.inr hc238⟩⟩)
                    · refine Go.of (T' := T6) (g' := (mkF mM 245 #[.val (.int ch), .val (.int sel), .val (.long a), .second, .val (.long b), .second, .val (.long c), .second, .val (.long xx), .second, .val (.int len1), .val (.int len2), .val (.int c0), .val (.int c1), .val (.int d0), .val (.int d1), .val (.int sp), .val (.long a2), .second, .val (.long b2), .second, .val (.long c2), .second, .val (.int (((sel.toUInt32 >>> ((8 : Int32) &&& 31).toUInt32).toInt32) &&& (3 : Int32))), .val (.ref s1), .val (.ref s2), .val (.ref p_), .val (.ref q_), .unset, .unset] [])) (fun _ k => XS.icmpYes X6.hh X6.hx rfl (pc0 := 238) (pc' := 245) rfl (hb hby at_238) rfl (feq hc238).2 (by decide) (by decide) k) ?_
                      refine Go.of (T' := T6) (g' := (mkF mM 246 #[.val (.int ch), .val (.int sel), .val (.long a), .second, .val (.long b), .second, .val (.long c), .second, .val (.long xx), .second, .val (.int len1), .val (.int len2), .val (.int c0), .val (.int c1), .val (.int d0), .val (.int d1), .val (.int sp), .val (.long a2), .second, .val (.long b2), .second, .val (.long c2), .second, .val (.int (((sel.toUInt32 >>> ((8 : Int32) &&& 31).toUInt32).toInt32) &&& (3 : Int32))), .val (.ref s1), .val (.ref s2), .val (.ref p_), .val (.ref q_), .unset, .unset] [(.int (0 : Int32))])) (fun _ k => XS.iconst X6.hh X6.hx rfl (hb hby at_245) k) ?_
                      exact J5 _ (Or.inr ⟨rfl, fun q => ((chs_eq r1 r2).mp q).2.2.elim (fun r => hc231 r) (fun r => hc238 r)⟩)
                · refine Go.of (T' := T6) (g' := (mkF mM 245 #[.val (.int ch), .val (.int sel), .val (.long a), .second, .val (.long b), .second, .val (.long c), .second, .val (.long xx), .second, .val (.int len1), .val (.int len2), .val (.int c0), .val (.int c1), .val (.int d0), .val (.int d1), .val (.int sp), .val (.long a2), .second, .val (.long b2), .second, .val (.long c2), .second, .val (.int (((sel.toUInt32 >>> ((8 : Int32) &&& 31).toUInt32).toInt32) &&& (3 : Int32))), .val (.ref s1), .val (.ref s2), .val (.ref p_), .val (.ref q_), .unset, .unset] [])) (fun _ k => XS.icmpYes X6.hh X6.hx rfl (pc0 := 225) (pc' := 245) rfl (hb hby at_225) rfl (feq hc225).2 (by decide) (by decide) k) ?_
                  refine Go.of (T' := T6) (g' := (mkF mM 246 #[.val (.int ch), .val (.int sel), .val (.long a), .second, .val (.long b), .second, .val (.long c), .second, .val (.long xx), .second, .val (.int len1), .val (.int len2), .val (.int c0), .val (.int c1), .val (.int d0), .val (.int d1), .val (.int sp), .val (.long a2), .second, .val (.long b2), .second, .val (.long c2), .second, .val (.int (((sel.toUInt32 >>> ((8 : Int32) &&& 31).toUInt32).toInt32) &&& (3 : Int32))), .val (.ref s1), .val (.ref s2), .val (.ref p_), .val (.ref q_), .unset, .unset] [(.int (0 : Int32))])) (fun _ k => XS.iconst X6.hh X6.hx rfl (hb hby at_245) k) ?_
                  exact J5 _ (Or.inr ⟨rfl, fun q => ((chs_eq r1 r2).mp q).2.1.elim (fun r => hc218 r) (fun r => hc225 r)⟩)
            · refine Go.of (T' := T6) (g' := (mkF mM 245 #[.val (.int ch), .val (.int sel), .val (.long a), .second, .val (.long b), .second, .val (.long c), .second, .val (.long xx), .second, .val (.int len1), .val (.int len2), .val (.int c0), .val (.int c1), .val (.int d0), .val (.int d1), .val (.int sp), .val (.long a2), .second, .val (.long b2), .second, .val (.long c2), .second, .val (.int (((sel.toUInt32 >>> ((8 : Int32) &&& 31).toUInt32).toInt32) &&& (3 : Int32))), .val (.ref s1), .val (.ref s2), .val (.ref p_), .val (.ref q_), .unset, .unset] [])) (fun _ k => XS.icmpYes X6.hh X6.hx rfl (pc0 := 212) (pc' := 245) rfl (hb hby at_212) rfl (feq hc212).2 (by decide) (by decide) k) ?_
              refine Go.of (T' := T6) (g' := (mkF mM 246 #[.val (.int ch), .val (.int sel), .val (.long a), .second, .val (.long b), .second, .val (.long c), .second, .val (.long xx), .second, .val (.int len1), .val (.int len2), .val (.int c0), .val (.int c1), .val (.int d0), .val (.int d1), .val (.int sp), .val (.long a2), .second, .val (.long b2), .second, .val (.long c2), .second, .val (.int (((sel.toUInt32 >>> ((8 : Int32) &&& 31).toUInt32).toInt32) &&& (3 : Int32))), .val (.ref s1), .val (.ref s2), .val (.ref p_), .val (.ref q_), .unset, .unset] [(.int (0 : Int32))])) (fun _ k => XS.iconst X6.hh X6.hx rfl (hb hby at_245) k) ?_
              exact J5 _ (Or.inr ⟨rfl, fun q => hc212 ((chs_eq r1 r2).mp q).1⟩)
          by_cases hc130 : (((sel.toUInt32 >>> ((7 : Int32) &&& 31).toUInt32).toInt32) &&& (1 : Int32)) = (0 : Int32)
          · refine Go.of (T' := T0) (g' := (mkF mM 138 #[.val (.int ch), .val (.int sel), .val (.long a), .second, .val (.long b), .second, .val (.long c), .second, .val (.long xx), .second, .val (.int len1), .val (.int len2), .val (.int c0), .val (.int c1), .val (.int d0), .val (.int d1), .val (.int sp), .val (.long a2), .second, .val (.long b2), .second, .unset, .unset, .unset, .unset, .unset, .unset, .unset, .unset, .unset] [])) (fun _ k => XS.ifYes X0.hh X0.hx rfl (pc0 := 130) (pc' := 138) rfl (hb hby at_130) rfl ((if0 _ _).trans (teq hc130).1) (by decide) (by decide) k) ?_
            refine Go.of (T' := T0) (g' := (mkF mM 140 #[.val (.int ch), .val (.int sel), .val (.long a), .second, .val (.long b), .second, .val (.long c), .second, .val (.long xx), .second, .val (.int len1), .val (.int len2), .val (.int c0), .val (.int c1), .val (.int d0), .val (.int d1), .val (.int sp), .val (.long a2), .second, .val (.long b2), .second, .unset, .unset, .unset, .unset, .unset, .unset, .unset, .unset, .unset] [(.long c)])) (fun _ k => XS.lload X0.hh X0.hx rfl (hb hby at_138) rfl k) ?_
            refine Go.of (T' := T0) (g' := (mkF mM 142 #[.val (.int ch), .val (.int sel), .val (.long a), .second, .val (.long b), .second, .val (.long c), .second, .val (.long xx), .second, .val (.int len1), .val (.int len2), .val (.int c0), .val (.int c1), .val (.int d0), .val (.int d1), .val (.int sp), .val (.long a2), .second, .val (.long b2), .second, .unset, .unset, .unset, .unset, .unset, .unset, .unset, .unset, .unset] [(.long xx), (.long c)])) (fun _ k => XS.lload X0.hh X0.hx rfl (hb hby at_140) rfl k) ?_
            refine Go.of (T' := T0) (g' := (mkF mM 143 #[.val (.int ch), .val (.int sel), .val (.long a), .second, .val (.long b), .second, .val (.long c), .second, .val (.long xx), .second, .val (.int len1), .val (.int len2), .val (.int c0), .val (.int c1), .val (.int d0), .val (.int d1), .val (.int sp), .val (.long a2), .second, .val (.long b2), .second, .unset, .unset, .unset, .unset, .unset, .unset, .unset, .unset, .unset] [(.long (c ^^^ xx))])) (fun _ k => XS.lxor X0.hh X0.hx rfl (hb hby at_142) rfl k) ?_
            exact J4 _
          · refine Go.of (T' := T0) (g' := (mkF mM 133 #[.val (.int ch), .val (.int sel), .val (.long a), .second, .val (.long b), .second, .val (.long c), .second, .val (.long xx), .second, .val (.int len1), .val (.int len2), .val (.int c0), .val (.int c1), .val (.int d0), .val (.int d1), .val (.int sp), .val (.long a2), .second, .val (.long b2), .second, .unset, .unset, .unset, .unset, .unset, .unset, .unset, .unset, .unset] [])) (fun _ k => XS.ifNo X0.hh X0.hx rfl (hb hby at_130) rfl ((if0 _ _).trans (feq hc130).1) k) ?_
            refine Go.of (T' := T0) (g' := (mkF mM 135 #[.val (.int ch), .val (.int sel), .val (.long a), .second, .val (.long b), .second, .val (.long c), .second, .val (.long xx), .second, .val (.int len1), .val (.int len2), .val (.int c0), .val (.int c1), .val (.int d0), .val (.int d1), .val (.int sp), .val (.long a2), .second, .val (.long b2), .second, .unset, .unset, .unset, .unset, .unset, .unset, .unset, .unset, .unset] [(.long c)])) (fun _ k => XS.lload X0.hh X0.hx rfl (hb hby at_133) rfl k) ?_
            refine Go.of (T' := T0) (g' := (mkF mM 143 #[.val (.int ch), .val (.int sel), .val (.long a), .second, .val (.long b), .second, .val (.long c), .second, .val (.long xx), .second, .val (.int len1), .val (.int len2), .val (.int c0), .val (.int c1), .val (.int d0), .val (.int d1), .val (.int sp), .val (.long a2), .second, .val (.long b2), .second, .unset, .unset, .unset, .unset, .unset, .unset, .unset, .unset, .unset] [(.long c)])) (fun _ k => XS.goto X0.hh X0.hx rfl (pc0 := 135) (pc' := 143) rfl (hb hby at_135) (by decide) (by decide) k) ?_
            exact J4 _
        by_cases hc109 : (((sel.toUInt32 >>> ((6 : Int32) &&& 31).toUInt32).toInt32) &&& (1 : Int32)) = (0 : Int32)
        · refine Go.of (T' := T0) (g' := (mkF mM 117 #[.val (.int ch), .val (.int sel), .val (.long a), .second, .val (.long b), .second, .val (.long c), .second, .val (.long xx), .second, .val (.int len1), .val (.int len2), .val (.int c0), .val (.int c1), .val (.int d0), .val (.int d1), .val (.int sp), .val (.long a2), .second, .unset, .unset, .unset, .unset, .unset, .unset, .unset, .unset, .unset, .unset, .unset] [])) (fun _ k => XS.ifYes X0.hh X0.hx rfl (pc0 := 109) (pc' := 117) rfl (hb hby at_109) rfl ((if0 _ _).trans (teq hc109).1) (by decide) (by decide) k) ?_
          refine Go.of (T' := T0) (g' := (mkF mM 119 #[.val (.int ch), .val (.int sel), .val (.long a), .second, .val (.long b), .second, .val (.long c), .second, .val (.long xx), .second, .val (.int len1), .val (.int len2), .val (.int c0), .val (.int c1), .val (.int d0), .val (.int d1), .val (.int sp), .val (.long a2), .second, .unset, .unset, .unset, .unset, .unset, .unset, .unset, .unset, .unset, .unset, .unset] [(.long b)])) (fun _ k => XS.lload X0.hh X0.hx rfl (hb hby at_117) rfl k) ?_
          refine Go.of (T' := T0) (g' := (mkF mM 121 #[.val (.int ch), .val (.int sel), .val (.long a), .second, .val (.long b), .second, .val (.long c), .second, .val (.long xx), .second, .val (.int len1), .val (.int len2), .val (.int c0), .val (.int c1), .val (.int d0), .val (.int d1), .val (.int sp), .val (.long a2), .second, .unset, .unset, .unset, .unset, .unset, .unset, .unset, .unset, .unset, .unset, .unset] [(.long xx), (.long b)])) (fun _ k => XS.lload X0.hh X0.hx rfl (hb hby at_119) rfl k) ?_
          refine Go.of (T' := T0) (g' := (mkF mM 122 #[.val (.int ch), .val (.int sel), .val (.long a), .second, .val (.long b), .second, .val (.long c), .second, .val (.long xx), .second, .val (.int len1), .val (.int len2), .val (.int c0), .val (.int c1), .val (.int d0), .val (.int d1), .val (.int sp), .val (.long a2), .second, .unset, .unset, .unset, .unset, .unset, .unset, .unset, .unset, .unset, .unset, .unset] [(.long (b - xx))])) (fun _ k => XS.lsub X0.hh X0.hx rfl (hb hby at_121) rfl k) ?_
          exact J3 _
        · refine Go.of (T' := T0) (g' := (mkF mM 112 #[.val (.int ch), .val (.int sel), .val (.long a), .second, .val (.long b), .second, .val (.long c), .second, .val (.long xx), .second, .val (.int len1), .val (.int len2), .val (.int c0), .val (.int c1), .val (.int d0), .val (.int d1), .val (.int sp), .val (.long a2), .second, .unset, .unset, .unset, .unset, .unset, .unset, .unset, .unset, .unset, .unset, .unset] [])) (fun _ k => XS.ifNo X0.hh X0.hx rfl (hb hby at_109) rfl ((if0 _ _).trans (feq hc109).1) k) ?_
          refine Go.of (T' := T0) (g' := (mkF mM 114 #[.val (.int ch), .val (.int sel), .val (.long a), .second, .val (.long b), .second, .val (.long c), .second, .val (.long xx), .second, .val (.int len1), .val (.int len2), .val (.int c0), .val (.int c1), .val (.int d0), .val (.int d1), .val (.int sp), .val (.long a2), .second, .unset, .unset, .unset, .unset, .unset, .unset, .unset, .unset, .unset, .unset, .unset] [(.long b)])) (fun _ k => XS.lload X0.hh X0.hx rfl (hb hby at_112) rfl k) ?_
          refine Go.of (T' := T0) (g' := (mkF mM 122 #[.val (.int ch), .val (.int sel), .val (.long a), .second, .val (.long b), .second, .val (.long c), .second, .val (.long xx), .second, .val (.int len1), .val (.int len2), .val (.int c0), .val (.int c1), .val (.int d0), .val (.int d1), .val (.int sp), .val (.long a2), .second, .unset, .unset, .unset, .unset, .unset, .unset, .unset, .unset, .unset, .unset, .unset] [(.long b)])) (fun _ k => XS.goto X0.hh X0.hx rfl (pc0 := 114) (pc' := 122) rfl (hb hby at_114) (by decide) (by decide) k) ?_
          exact J3 _
      by_cases hc90 : (((sel.toUInt32 >>> ((5 : Int32) &&& 31).toUInt32).toInt32) &&& (1 : Int32)) = (0 : Int32)
      · refine Go.of (T' := T0) (g' := (mkF mM 97 #[.val (.int ch), .val (.int sel), .val (.long a), .second, .val (.long b), .second, .val (.long c), .second, .val (.long xx), .second, .val (.int len1), .val (.int len2), .val (.int c0), .val (.int c1), .val (.int d0), .val (.int d1), .val (.int sp), .unset, .unset, .unset, .unset, .unset, .unset, .unset, .unset, .unset, .unset, .unset, .unset, .unset] [])) (fun _ k => XS.ifYes X0.hh X0.hx rfl (pc0 := 90) (pc' := 97) rfl (hb hby at_90) rfl ((if0 _ _).trans (teq hc90).1) (by decide) (by decide) k) ?_
        refine Go.of (T' := T0) (g' := (mkF mM 98 #[.val (.int ch), .val (.int sel), .val (.long a), .second, .val (.long b), .second, .val (.long c), .second, .val (.long xx), .second, .val (.int len1), .val (.int len2), .val (.int c0), .val (.int c1), .val (.int d0), .val (.int d1), .val (.int sp), .unset, .unset, .unset, .unset, .unset, .unset, .unset, .unset, .unset, .unset, .unset, .unset, .unset] [(.long a)])) (fun _ k => XS.lloadN X0.hh X0.hx rfl (hb hby at_97) rfl k) ?_
        refine Go.of (T' := T0) (g' := (mkF mM 100 #[.val (.int ch), .val (.int sel), .val (.long a), .second, .val (.long b), .second, .val (.long c), .second, .val (.long xx), .second, .val (.int len1), .val (.int len2), .val (.int c0), .val (.int c1), .val (.int d0), .val (.int d1), .val (.int sp), .unset, .unset, .unset, .unset, .unset, .unset, .unset, .unset, .unset, .unset, .unset, .unset, .unset] [(.long xx), (.long a)])) (fun _ k => XS.lload X0.hh X0.hx rfl (hb hby at_98) rfl k) ?_
        refine Go.of (T' := T0) (g' := (mkF mM 101 #[.val (.int ch), .val (.int sel), .val (.long a), .second, .val (.long b), .second, .val (.long c), .second, .val (.long xx), .second, .val (.int len1), .val (.int len2), .val (.int c0), .val (.int c1), .val (.int d0), .val (.int d1), .val (.int sp), .unset, .unset, .unset, .unset, .unset, .unset, .unset, .unset, .unset, .unset, .unset, .unset, .unset] [(.long (a + xx))])) (fun _ k => XS.ladd X0.hh X0.hx rfl (hb hby at_100) rfl k) ?_
        exact J2 _
      · refine Go.of (T' := T0) (g' := (mkF mM 93 #[.val (.int ch), .val (.int sel), .val (.long a), .second, .val (.long b), .second, .val (.long c), .second, .val (.long xx), .second, .val (.int len1), .val (.int len2), .val (.int c0), .val (.int c1), .val (.int d0), .val (.int d1), .val (.int sp), .unset, .unset, .unset, .unset, .unset, .unset, .unset, .unset, .unset, .unset, .unset, .unset, .unset] [])) (fun _ k => XS.ifNo X0.hh X0.hx rfl (hb hby at_90) rfl ((if0 _ _).trans (feq hc90).1) k) ?_
        refine Go.of (T' := T0) (g' := (mkF mM 94 #[.val (.int ch), .val (.int sel), .val (.long a), .second, .val (.long b), .second, .val (.long c), .second, .val (.long xx), .second, .val (.int len1), .val (.int len2), .val (.int c0), .val (.int c1), .val (.int d0), .val (.int d1), .val (.int sp), .unset, .unset, .unset, .unset, .unset, .unset, .unset, .unset, .unset, .unset, .unset, .unset, .unset] [(.long a)])) (fun _ k => XS.lloadN X0.hh X0.hx rfl (hb hby at_93) rfl k) ?_
        refine Go.of (T' := T0) (g' := (mkF mM 101 #[.val (.int ch), .val (.int sel), .val (.long a), .second, .val (.long b), .second, .val (.long c), .second, .val (.long xx), .second, .val (.int len1), .val (.int len2), .val (.int c0), .val (.int c1), .val (.int d0), .val (.int d1), .val (.int sp), .unset, .unset, .unset, .unset, .unset, .unset, .unset, .unset, .unset, .unset, .unset, .unset, .unset] [(.long a)])) (fun _ k => XS.goto X0.hh X0.hx rfl (pc0 := 94) (pc' := 101) rfl (hb hby at_94) (by decide) (by decide) k) ?_
        exact J2 _
    by_cases hc58 : (((sel.toUInt32 >>> ((4 : Int32) &&& 31).toUInt32).toInt32) &&& (1 : Int32)) = (0 : Int32)
    · refine Go.of (T' := T0) (g' := (mkF mM 65 #[.val (.int ch), .val (.int sel), .val (.long a), .second, .val (.long b), .second, .val (.long c), .second, .val (.long xx), .second, .val (.int len1), .val (.int len2), .val (.int c0), .val (.int c1), .val (.int d0), .val (.int d1), .unset, .unset, .unset, .unset, .unset, .unset, .unset, .unset, .unset, .unset, .unset, .unset, .unset, .unset] [])) (fun _ k => XS.ifYes X0.hh X0.hx rfl (pc0 := 58) (pc' := 65) rfl (hb hby at_58) rfl ((if0 _ _).trans (teq hc58).1) (by decide) (by decide) k) ?_
      refine Go.of (T' := T0) (g' := (mkF mM 66 #[.val (.int ch), .val (.int sel), .val (.long a), .second, .val (.long b), .second, .val (.long c), .second, .val (.long xx), .second, .val (.int len1), .val (.int len2), .val (.int c0), .val (.int c1), .val (.int d0), .val (.int d1), .unset, .unset, .unset, .unset, .unset, .unset, .unset, .unset, .unset, .unset, .unset, .unset, .unset, .unset] [(.int (0 : Int32))])) (fun _ k => XS.iconst X0.hh X0.hx rfl (hb hby at_65) k) ?_
      refine Go.of (T' := T0) (g' := (mkF mM 68 #[.val (.int ch), .val (.int sel), .val (.long a), .second, .val (.long b), .second, .val (.long c), .second, .val (.long xx), .second, .val (.int len1), .val (.int len2), .val (.int c0), .val (.int c1), .val (.int d0), .val (.int d1), .val (.int (0 : Int32)), .unset, .unset, .unset, .unset, .unset, .unset, .unset, .unset, .unset, .unset, .unset, .unset, .unset] [])) (fun _ k => XS.istore X0.hh X0.hx rfl (hb hby at_66) rfl (l' := #[.val (.int ch), .val (.int sel), .val (.long a), .second, .val (.long b), .second, .val (.long c), .second, .val (.long xx), .second, .val (.int len1), .val (.int len2), .val (.int c0), .val (.int c1), .val (.int d0), .val (.int d1), .val (.int (0 : Int32)), .unset, .unset, .unset, .unset, .unset, .unset, .unset, .unset, .unset, .unset, .unset, .unset, .unset]) rfl k) ?_
      refine Go.of (T' := T0) (g' := (mkF mM 70 #[.val (.int ch), .val (.int sel), .val (.long a), .second, .val (.long b), .second, .val (.long c), .second, .val (.long xx), .second, .val (.int len1), .val (.int len2), .val (.int c0), .val (.int c1), .val (.int d0), .val (.int d1), .val (.int (0 : Int32)), .unset, .unset, .unset, .unset, .unset, .unset, .unset, .unset, .unset, .unset, .unset, .unset, .unset] [(.int (0 : Int32))])) (fun _ k => XS.iload X0.hh X0.hx rfl (hb hby at_68) rfl k) ?_
      refine Go.of (T' := T0) (g' := (mkF mM 85 #[.val (.int ch), .val (.int sel), .val (.long a), .second, .val (.long b), .second, .val (.long c), .second, .val (.long xx), .second, .val (.int len1), .val (.int len2), .val (.int c0), .val (.int c1), .val (.int d0), .val (.int d1), .val (.int (0 : Int32)), .unset, .unset, .unset, .unset, .unset, .unset, .unset, .unset, .unset, .unset, .unset, .unset, .unset] [])) (fun _ k => XS.ifYes X0.hh X0.hx rfl (pc0 := 70) (pc' := 85) rfl (hb hby at_70) rfl ((if0 _ _).trans (teq rfl).1) (by decide) (by decide) k) ?_
      exact J1 _ _ _ _ r2 r5 r6
    · refine Go.of (T' := T0) (g' := (mkF mM 61 #[.val (.int ch), .val (.int sel), .val (.long a), .second, .val (.long b), .second, .val (.long c), .second, .val (.long xx), .second, .val (.int len1), .val (.int len2), .val (.int c0), .val (.int c1), .val (.int d0), .val (.int d1), .unset, .unset, .unset, .unset, .unset, .unset, .unset, .unset, .unset, .unset, .unset, .unset, .unset, .unset] [])) (fun _ k => XS.ifNo X0.hh X0.hx rfl (hb hby at_58) rfl ((if0 _ _).trans (feq hc58).1) k) ?_
      refine Go.of (T' := T0) (g' := (mkF mM 62 #[.val (.int ch), .val (.int sel), .val (.long a), .second, .val (.long b), .second, .val (.long c), .second, .val (.long xx), .second, .val (.int len1), .val (.int len2), .val (.int c0), .val (.int c1), .val (.int d0), .val (.int d1), .unset, .unset, .unset, .unset, .unset, .unset, .unset, .unset, .unset, .unset, .unset, .unset, .unset, .unset] [(.int (1 : Int32))])) (fun _ k => XS.iconst X0.hh X0.hx rfl (hb hby at_61) k) ?_
      refine Go.of (T' := T0) (g' := (mkF mM 66 #[.val (.int ch), .val (.int sel), .val (.long a), .second, .val (.long b), .second, .val (.long c), .second, .val (.long xx), .second, .val (.int len1), .val (.int len2), .val (.int c0), .val (.int c1), .val (.int d0), .val (.int d1), .unset, .unset, .unset, .unset, .unset, .unset, .unset, .unset, .unset, .unset, .unset, .unset, .unset, .unset] [(.int (1 : Int32))])) (fun _ k => XS.goto X0.hh X0.hx rfl (pc0 := 62) (pc' := 66) rfl (hb hby at_62) (by decide) (by decide) k) ?_
      refine Go.of (T' := T0) (g' := (mkF mM 68 #[.val (.int ch), .val (.int sel), .val (.long a), .second, .val (.long b), .second, .val (.long c), .second, .val (.long xx), .second, .val (.int len1), .val (.int len2), .val (.int c0), .val (.int c1), .val (.int d0), .val (.int d1), .val (.int (1 : Int32)), .unset, .unset, .unset, .unset, .unset, .unset, .unset, .unset, .unset, .unset, .unset, .unset, .unset] [])) (fun _ k => XS.istore X0.hh X0.hx rfl (hb hby at_66) rfl (l' := #[.val (.int ch), .val (.int sel), .val (.long a), .second, .val (.long b), .second, .val (.long c), .second, .val (.long xx), .second, .val (.int len1), .val (.int len2), .val (.int c0), .val (.int c1), .val (.int d0), .val (.int d1), .val (.int (1 : Int32)), .unset, .unset, .unset, .unset, .unset, .unset, .unset, .unset, .unset, .unset, .unset, .unset, .unset]) rfl k) ?_
      refine Go.of (T' := T0) (g' := (mkF mM 70 #[.val (.int ch), .val (.int sel), .val (.long a), .second, .val (.long b), .second, .val (.long c), .second, .val (.long xx), .second, .val (.int len1), .val (.int len2), .val (.int c0), .val (.int c1), .val (.int d0), .val (.int d1), .val (.int (1 : Int32)), .unset, .unset, .unset, .unset, .unset, .unset, .unset, .unset, .unset, .unset, .unset, .unset, .unset] [(.int (1 : Int32))])) (fun _ k => XS.iload X0.hh X0.hx rfl (hb hby at_68) rfl k) ?_
      refine Go.of (T' := T0) (g' := (mkF mM 73 #[.val (.int ch), .val (.int sel), .val (.long a), .second, .val (.long b), .second, .val (.long c), .second, .val (.long xx), .second, .val (.int len1), .val (.int len2), .val (.int c0), .val (.int c1), .val (.int d0), .val (.int d1), .val (.int (1 : Int32)), .unset, .unset, .unset, .unset, .unset, .unset, .unset, .unset, .unset, .unset, .unset, .unset, .unset] [])) (fun _ k => XS.ifNo X0.hh X0.hx rfl (hb hby at_70) rfl ((if0 _ _).trans (feq (by decide)).1) k) ?_
      refine Go.of (T' := T0) (g' := (mkF mM 75 #[.val (.int ch), .val (.int sel), .val (.long a), .second, .val (.long b), .second, .val (.long c), .second, .val (.long xx), .second, .val (.int len1), .val (.int len2), .val (.int c0), .val (.int c1), .val (.int d0), .val (.int d1), .val (.int (1 : Int32)), .unset, .unset, .unset, .unset, .unset, .unset, .unset, .unset, .unset, .unset, .unset, .unset, .unset] [(.int len1)])) (fun _ k => XS.iload X0.hh X0.hx rfl (hb hby at_73) rfl k) ?_
      refine Go.of (T' := T0) (g' := (mkF mM 77 #[.val (.int ch), .val (.int sel), .val (.long a), .second, .val (.long b), .second, .val (.long c), .second, .val (.long xx), .second, .val (.int len1), .val (.int len1), .val (.int c0), .val (.int c1), .val (.int d0), .val (.int d1), .val (.int (1 : Int32)), .unset, .unset, .unset, .unset, .unset, .unset, .unset, .unset, .unset, .unset, .unset, .unset, .unset] [])) (fun _ k => XS.istore X0.hh X0.hx rfl (hb hby at_75) rfl (l' := #[.val (.int ch), .val (.int sel), .val (.long a), .second, .val (.long b), .second, .val (.long c), .second, .val (.long xx), .second, .val (.int len1), .val (.int len1), .val (.int c0), .val (.int c1), .val (.int d0), .val (.int d1), .val (.int (1 : Int32)), .unset, .unset, .unset, .unset, .unset, .unset, .unset, .unset, .unset, .unset, .unset, .unset, .unset]) rfl k) ?_
      refine Go.of (T' := T0) (g' := (mkF mM 79 #[.val (.int ch), .val (.int sel), .val (.long a), .second, .val (.long b), .second, .val (.long c), .second, .val (.long xx), .second, .val (.int len1), .val (.int len1), .val (.int c0), .val (.int c1), .val (.int d0), .val (.int d1), .val (.int (1 : Int32)), .unset, .unset, .unset, .unset, .unset, .unset, .unset, .unset, .unset, .unset, .unset, .unset, .unset] [(.int c0)])) (fun _ k => XS.iload X0.hh X0.hx rfl (hb hby at_77) rfl k) ?_
      refine Go.of (T' := T0) (g' := (mkF mM 81 #[.val (.int ch), .val (.int sel), .val (.long a), .second, .val (.long b), .second, .val (.long c), .second, .val (.long xx), .second, .val (.int len1), .val (.int len1), .val (.int c0), .val (.int c1), .val (.int c0), .val (.int d1), .val (.int (1 : Int32)), .unset, .unset, .unset, .unset, .unset, .unset, .unset, .unset, .unset, .unset, .unset, .unset, .unset] [])) (fun _ k => XS.istore X0.hh X0.hx rfl (hb hby at_79) rfl (l' := #[.val (.int ch), .val (.int sel), .val (.long a), .second, .val (.long b), .second, .val (.long c), .second, .val (.long xx), .second, .val (.int len1), .val (.int len1), .val (.int c0), .val (.int c1), .val (.int c0), .val (.int d1), .val (.int (1 : Int32)), .unset, .unset, .unset, .unset, .unset, .unset, .unset, .unset, .unset, .unset, .unset, .unset, .unset]) rfl k) ?_
      refine Go.of (T' := T0) (g' := (mkF mM 83 #[.val (.int ch), .val (.int sel), .val (.long a), .second, .val (.long b), .second, .val (.long c), .second, .val (.long xx), .second, .val (.int len1), .val (.int len1), .val (.int c0), .val (.int c1), .val (.int c0), .val (.int d1), .val (.int (1 : Int32)), .unset, .unset, .unset, .unset, .unset, .unset, .unset, .unset, .unset, .unset, .unset, .unset, .unset] [(.int c1)])) (fun _ k => XS.iload X0.hh X0.hx rfl (hb hby at_81) rfl k) ?_
      refine Go.of (T' := T0) (g' := (mkF mM 85 #[.val (.int ch), .val (.int sel), .val (.long a), .second, .val (.long b), .second, .val (.long c), .second, .val (.long xx), .second, .val (.int len1), .val (.int len1), .val (.int c0), .val (.int c1), .val (.int c0), .val (.int c1), .val (.int (1 : Int32)), .unset, .unset, .unset, .unset, .unset, .unset, .unset, .unset, .unset, .unset, .unset, .unset, .unset] [])) (fun _ k => XS.istore X0.hh X0.hx rfl (hb hby at_83) rfl (l' := #[.val (.int ch), .val (.int sel), .val (.long a), .second, .val (.long b), .second, .val (.long c), .second, .val (.long xx), .second, .val (.int len1), .val (.int len1), .val (.int c0), .val (.int c1), .val (.int c0), .val (.int c1), .val (.int (1 : Int32)), .unset, .unset, .unset, .unset, .unset, .unset, .unset, .unset, .unset, .unset, .unset, .unset, .unset]) rfl k) ?_
      exact J1 _ _ _ _ r1 r3 r4
  exact J0 _ _ _ _ _ _ (rem3 _ (and_nn _ 3 (by decide)).1) (rem3 _ (and_nn _ 3 (by decide)).1) (r255 _) (r255 _) (r255 _) (r255 _)
set_option maxRecDepth 65536 in
set_option maxHeartbeats 40000000 in
theorem comes_1 {Post : Tables → Env → Array Value → State → Outcome → State → Prop} (hpost : ∀ tb e args s v u, (limb_1_1.after args s (.returned v) u = true ∧ limb_1_2.after args s (.returned v) u = true ∧ True) → FramedW s (.returned v) u (Jvm.fieldLocs frame_1_writes args s ++ Jvm.arrayLocs frame_1_arrays args s ++ Jvm.staticLocs frame_1_statics s) 32 1152 → Post tb e args s (.returned v) u) :
    ArmFor flags0 classFile x code maxLocals ret World_1 tables_1 room_1 Calls_1 rest_1 Pre_1 Post := by
  intro l hfl _ _ p e ha hc hk s m args below hf hA hF happ hP
  obtain ⟨hcalls, hrest, hpre⟩ := hP
  obtain ⟨-, -, -, hnamed, -, -, -, hat⟩ := (Spec.applies_iff hf).mp happ
  obtain ⟨hg, hn⟩ := and_e (Cond.before_iff.mp (show (Jvm.Cond.and given_1 narrow_1).before args s = true from hpre))
  obtain ⟨g_n, g_0⟩ := and_e hg
  obtain ⟨k_0, g_1⟩ := and_e g_0
  obtain ⟨k_1, g_2⟩ := and_e g_1
  obtain ⟨k_2, g_3⟩ := and_e g_2
  obtain ⟨k_3, g_4⟩ := and_e g_3
  obtain ⟨k_4, g_5⟩ := and_e g_4
  obtain ⟨w0, w1, w2, w3, w4, w5, rfl⟩ : ∃ w0 w1 w2 w3 w4 w5 : Value, args = #[w0, w1, w2, w3, w4, w5] := by
    have hs : args.size = 6 := by simpa [Cond.value, given_1] using g_n
    obtain ⟨L⟩ := args
    match L, hs with
    | [w0, w1, w2, w3, w4, w5], _ => exact ⟨w0, w1, w2, w3, w4, w5, rfl⟩
  have hw := fun d (hd : d ∈ tables_1) => atoms_spec (ws := Jvm.Cond.code x code maxLocals ret :: tables_1) hat d (List.mem_cons_of_mem _ hd)
  obtain ⟨hsets, hown0⟩ := atoms_of _ (rest_1_c_eq ▸ (show rest_1_c.before _ s = true from hrest))
  have hr0 := Cond.before_iff.mp hown0
  have hfit : Fit s := fun {y c} hc i hi => by
    obtain ⟨ha, rfl⟩ := Array.getElem?_eq_some_iff.mp hc
    have q := List.all_eq_true.mp ((Array.all_eq_true_iff_forall_mem.mp hF) _ (Array.getElem_mem ha)) i (List.mem_range.mpr hi)
    simpa [Array.getElem?_eq_getElem hi] using q
  obtain ⟨i_0, e_0⟩ := is_v k_0
  obtain rfl : w0 = (.int i_0) := Option.some.inj e_0
  obtain ⟨i_1, e_1⟩ := is_v k_1
  obtain rfl : w1 = (.int i_1) := Option.some.inj e_1
  obtain ⟨i_2, e_2⟩ := isL_v k_2
  obtain rfl : w2 = (.long i_2) := Option.some.inj e_2
  obtain ⟨i_3, e_3⟩ := isL_v k_3
  obtain rfl : w3 = (.long i_3) := Option.some.inj e_3
  obtain ⟨i_4, e_4⟩ := isL_v k_4
  obtain rfl : w4 = (.long i_4) := Option.some.inj e_4
  obtain ⟨i_5, e_5⟩ := isL_v g_5
  obtain rfl : w5 = (.long i_5) := Option.some.inj e_5
  have n_z := not_v (Cond.before_iff.mp (hsets _ (List.mem_of_getElem? (i := 2) rfl)))
  obtain ⟨i_z, e_z⟩ := is_v (Cond.before_iff.mp (hsets _ (List.mem_of_getElem? (i := 1) rfl)))
  have S_z : Sta s s.heap "java/lang/String" "COMPACT_STRINGS" "Z" (.int i_z) := Sta.start e_z (Or.inl (hsets _ (List.mem_of_getElem? (i := 0) rfl)))
  have c_z : ¬ (i_z = (0 : Int32)) := gotF (Cond.eq_ints e_z (Term.int_eval (0))) n_z

  have hCH : CHv s consts_1 s.vm s.heap := CHv.start (EW.cons (hw _ (List.mem_of_getElem? (i := 18) rfl)) (by decide +kernel) (EW.nil)) (fun p hp => hcalls.1 p hp) (hsets _ (List.mem_of_getElem? (i := 2) rfl)) (hw _ (List.mem_of_getElem? (i := 19) rfl)) (hw _ (List.mem_of_getElem? (i := 5) rfl))
  have G : Wld s _ := ⟨hw, EW.cons (hw _ (List.mem_of_getElem? (i := 18) rfl)) (by decide +kernel) (EW.nil), ⟨i_z, S_z, c_z⟩, trivial⟩
  obtain ⟨n, o, h1, h2, h3, v, L, rfl, ⟨hQ, N, -, -⟩, -, hq⟩ := law_rm l s _ G i_0 i_1 i_2 i_3 i_4 i_5 s.heap tables_1 p e ha hc hk s m _ below hf ((Spec.applies_iff_loose hf).mp happ).1 ⟨rfl, State.Warmed39.refl s, rfl, hCH, ext_refl _, all0⟩ trivial
  obtain rfl := hQ
  refine ⟨n, _, h1, h2, h3, hpost _ _ _ _ _ _ ⟨Cond.after_iff.mpr rfl, Cond.after_iff.mpr (eq_i res_at (Term.int_eval (1)) rfl), trivial⟩ ⟨hq.1, hq.2.1, hq.2.2.1, (hq.2.2.2.sift fun y hy => Or.inr (N y hy)).mono (by decide) (by decide)⟩⟩
theorem main_1_1 : Claimed_1_1 := comes_1 fun _ _ _ _ _ _ h hF => ⟨h.1, hF⟩
theorem main_1_2 : Claimed_1_2 := comes_1 fun _ _ _ _ _ _ h hF => ⟨h.2.1, hF⟩
end Jvm.Pilot.@@N@@
namespace Jvm.Pilot.@@N@@
open Jvm Jvm.ClassFile Sem Op Lib Jvm.Free Jvm.Stand Jvm.Pilot.@@N@@.Jvm.D
/-! MADE BY PROGRAM (witnessworld.py) out of the Statement's table words and the real class files: 20 classes; the members and pool entries that the words name. The judged class is class 1, her method 2. -/
namespace start1
open Jvm.ClassFile
def u (s : String) : CpInfo := .utf8 (stringToUtf16 s)
/-- a pool by its gaps: so many unusable entries, then the entry; so many at the end -/
def gap : Nat → List CpInfo → List CpInfo
  | 0, r => r
  | n + 1, r => .unusable :: gap n r
def poolList (es : List (Nat × CpInfo)) (last : Nat) : List CpInfo := es.foldr (fun e r => gap e.1 (e.2 :: r)) (gap last [])
def pool (es : List (Nat × CpInfo)) (last : Nat) : Array CpInfo := ⟨poolList es last⟩
def fileOf (pool : Array CpInfo) (this : Nat) (attrs : Array Attribute := #[]) (ms : Array MethodInfo := #[]) (fl : Nat := 33) (sup : Nat := 0) (ifs : Array Nat := #[]) (fds : Array FieldInfo := #[]) : ClassFile where
  minorVersion := 0
  majorVersion := 65
  constantPool := pool
  accessFlags := fl
  thisClass := this
  superClass := sup
  interfaces := ifs
  fields := fds
  methods := ms
  attributes := attrs
def plain (name : String) (sup : Option ClassId) : Class where
  name := name
  kind := .ordinary
  loader := none
  accessFlags := 33
  super := sup
  interfaces := #[]
  cf := none
  fields := #[]
  methods := #[]
  instanceTypes := #[]
  staticTypes := #[]
  resolved := #[]
  callSites := []
  init := .initialized
  statics := none
  mirror := none

def pool0 : Array CpInfo := pool [(5, u "<init>"), (0, u "()V"), (1, .class_ 10), (1, u "java/lang/Object")] 113

def k0c0 : Code := { maxStack := 0, maxLocals := 1, code := object_method_1_code, exceptionTable := #[], attributes := #[] }
def k0m0 : Method := { name := "<init>", desc := "()V", sig := { parameters := [], returnType := none }, accessFlags := 1, code := some k0c0 }
/-- java/lang/Object -/
def k0 : Class := { plain "java/lang/Object" none with
  accessFlags := 33
  interfaces := #[]
  cf := some (fileOf pool0 8 #[] #[{ accessFlags := 1, nameIndex := 5, descriptorIndex := 6, attributes := #[] }] 33 0 #[] #[])
  fields := #[]
  methods := #[k0m0]
  instanceTypes := #[]
  staticTypes := #[]
  resolved := Array.replicate 124 none
  statics := none }

def pool1 : Array CpInfo := pool [(2, .class_ 4), (1, u "java/lang/Object"), (0, u "<init>"), (0, u "()V"), (0, .class_ 8), (0, u "java/lang/String"), (0, .methodref 7 10), (0, .nameAndType 5 11), (0, u "([C)V"), (0, .methodref 13 14), (0, .class_ 15), (0, .nameAndType 16 17), (0, u "com/example/pathloom/pathloom/model/PathCountEqualsPinLaw"), (0, u "mk"), (0, u "(III)Ljava/lang/String;"), (0, .class_ 19), (0, u "com/example/pathloom/pathloom/model/PathCount"), (0, .methodref 18 21), (0, .nameAndType 5 22), (0, u "(Ljava/lang/String;JJJ)V"), (0, .methodref 18 24), (0, .nameAndType 25 26), (0, u "equals"), (0, u "(Ljava/lang/Object;)Z"), (3, u "law"), (0, u "(IIJJJJ)Z")] 2

def k1m0 : Method := { name := "<init>", desc := "()V", sig := { parameters := [], returnType := none }, accessFlags := 1, code := none }
def k1c1 : Code := { maxStack := 3, maxLocals := 4, code := method_2_code, exceptionTable := #[], attributes := #[] }
def k1m1 : Method := { name := "mk", desc := "(III)Ljava/lang/String;", sig := { parameters := [.int, .int, .int], returnType := some (.object "java/lang/String") }, accessFlags := 10, code := some k1c1 }
def k1c2 : Code := { maxStack := 9, maxLocals := 30, code := code, exceptionTable := #[], attributes := #[] }
def k1m2 : Method := { name := "law", desc := "(IIJJJJ)Z", sig := { parameters := [.int, .int, .long, .long, .long, .long], returnType := some .boolean }, accessFlags := 9, code := some k1c2 }
/-- com/example/pathloom/pathloom/model/PathCountEqualsPinLaw -/
def k1 : Class := { plain "com/example/pathloom/pathloom/model/PathCountEqualsPinLaw" (some 0) with
  accessFlags := 49
  interfaces := #[]
  cf := some (fileOf pool1 13 #[] #[{ accessFlags := 1, nameIndex := 5, descriptorIndex := 6, attributes := #[] }, { accessFlags := 10, nameIndex := 16, descriptorIndex := 17, attributes := #[] }, { accessFlags := 9, nameIndex := 30, descriptorIndex := 31, attributes := #[] }] 49 2 #[] #[])
  fields := #[]
  methods := #[k1m0, k1m1, k1m2]
  instanceTypes := #[]
  staticTypes := #[]
  resolved := Array.replicate 34 none
  statics := none }

def pool2 : Array CpInfo := pool [(1, .class_ 2), (0, u "java/io/Serializable"), (0, .class_ 4), (0, u "java/lang/Object")] 2

/-- java/io/Serializable -/
def k2 : Class := { plain "java/io/Serializable" (some 0) with
  accessFlags := 1537
  interfaces := #[]
  cf := some (fileOf pool2 1 #[] #[] 1537 3 #[] #[])
  fields := #[]
  methods := #[]
  instanceTypes := #[]
  staticTypes := #[]
  resolved := Array.replicate 7 none
  statics := none }

def pool3 : Array CpInfo := pool [(1, .class_ 2), (0, u "java/lang/Comparable"), (0, .class_ 4), (0, u "java/lang/Object")] 7

/-- java/lang/Comparable -/
def k3 : Class := { plain "java/lang/Comparable" (some 0) with
  accessFlags := 1537
  interfaces := #[]
  cf := some (fileOf pool3 1 #[] #[] 1537 3 #[] #[])
  fields := #[]
  methods := #[]
  instanceTypes := #[]
  staticTypes := #[]
  resolved := Array.replicate 12 none
  statics := none }

def pool4 : Array CpInfo := pool [(2, .class_ 4), (1, u "java/lang/CharSequence"), (42, .class_ 48), (0, u "java/lang/CharSequence$1CodePointIterator"), (10, .class_ 60), (0, u "java/lang/CharSequence$1CharIterator"), (5, .class_ 67), (0, u "java/lang/Object")] 63

/-- java/lang/CharSequence -/
def k4 : Class := { plain "java/lang/CharSequence" (some 0) with
  accessFlags := 1537
  interfaces := #[]
  cf := some (fileOf pool4 2 #[.nestMembers #[47, 59]] #[] 1537 66 #[] #[])
  fields := #[]
  methods := #[]
  instanceTypes := #[]
  staticTypes := #[]
  resolved := Array.replicate 131 none
  statics := none }

def pool5 : Array CpInfo := pool [(1, .class_ 2), (0, u "java/lang/constant/Constable"), (0, .class_ 4), (0, u "java/lang/Object")] 6

/-- java/lang/constant/Constable -/
def k5 : Class := { plain "java/lang/constant/Constable" (some 0) with
  accessFlags := 1537
  interfaces := #[]
  cf := some (fileOf pool5 1 #[] #[] 1537 3 #[] #[])
  fields := #[]
  methods := #[]
  instanceTypes := #[]
  staticTypes := #[]
  resolved := Array.replicate 11 none
  statics := none }

def pool6 : Array CpInfo := pool [(1, .class_ 2), (0, u "java/lang/constant/ConstantDesc"), (0, .class_ 4), (0, u "java/lang/Object")] 32

/-- java/lang/constant/ConstantDesc -/
def k6 : Class := { plain "java/lang/constant/ConstantDesc" (some 0) with
  accessFlags := 1537
  interfaces := #[]
  cf := some (fileOf pool6 1 #[] #[] 1537 3 #[] #[])
  fields := #[]
  methods := #[]
  instanceTypes := #[]
  staticTypes := #[]
  resolved := Array.replicate 37 none
  statics := none }

def pool7 : Array CpInfo := pool [(1, .methodref 2 3), (0, .class_ 4), (0, .nameAndType 5 6), (0, u "java/lang/Object"), (0, u "<init>"), (0, u "()V"), (0, .string 8), (0, u ""), (0, .fieldref 10 11), (0, .class_ 12), (0, .nameAndType 13 14), (0, u "java/lang/String"), (0, u "value"), (0, u "[B"), (0, .fieldref 10 16), (0, .nameAndType 17 18), (0, u "coder"), (0, u "B"), (2, u "hash"), (0, u "I"), (2, u "hashIsZero"), (0, u "Z"), (0, .methodref 10 28), (0, .nameAndType 5 29), (0, u "([CIILjava/lang/Void;)V"), (8, .fieldref 10 39), (0, .nameAndType 40 26), (0, u "COMPACT_STRINGS"), (1, .class_ 44), (1, u "java/lang/StringUTF16"), (0, u "compress"), (1, .methodref 42 48), (0, .nameAndType 49 50), (0, u "coderFromArrayLen"), (0, u "([BI)B"), (56, .class_ 109), (1, u "java/lang/StringLatin1"), (67, .methodref 42 178), (0, .nameAndType 45 179), (0, u "([CII)[B"), (361, .methodref 107 542), (0, .nameAndType 543 544), (0, u "equals"), (0, u "([B[B)Z"), (28, u "(Ljava/lang/Object;)Z"), (1, .class_ 576), (0, u "java/lang/CharSequence"), (22, u "CASE_INSENSITIVE_ORDER"), (0, u "Ljava/util/Comparator;"), (409, u "([C)V"), (90, u "serialPersistentFields"), (0, u "[Ljava/io/ObjectStreamField;"), (0, .class_ 1104), (0, u "java/lang/String$CaseInsensitiveComparator"), (1, .class_ 1107), (0, u "java/io/Serializable"), (0, .class_ 1109), (0, u "java/lang/Comparable"), (0, .class_ 1111), (0, u "java/lang/constant/Constable"), (0, .class_ 1113), (0, u "java/lang/constant/ConstantDesc"), (2, u "serialVersionUID"), (0, u "J"), (3, u "REPL"), (0, u "C"), (2, u "LATIN1"), (1, u "UTF16")] 323

def k7m0 : Method := { name := "<init>", desc := "()V", sig := { parameters := [], returnType := none }, accessFlags := 1, code := none }
def k7c1 : Code := { maxStack := 5, maxLocals := 2, code := jdk_42_method_3_code, exceptionTable := #[], attributes := #[] }
def k7m1 : Method := { name := "<init>", desc := "([C)V", sig := { parameters := [(.array .char)], returnType := none }, accessFlags := 1, code := some k7c1 }
def k7c2 : Code := { maxStack := 2, maxLocals := 3, code := jdk_42_method_66_code, exceptionTable := #[], attributes := #[] }
def k7m2 : Method := { name := "equals", desc := "(Ljava/lang/Object;)Z", sig := { parameters := [(.object "java/lang/Object")], returnType := some .boolean }, accessFlags := 1, code := some k7c2 }
def k7c3 : Code := { maxStack := 4, maxLocals := 6, code := jdk_42_method_149_code, exceptionTable := #[], attributes := #[] }
def k7m3 : Method := { name := "<init>", desc := "([CIILjava/lang/Void;)V", sig := { parameters := [(.array .char), .int, .int, (.object "java/lang/Void")], returnType := none }, accessFlags := 2, code := some k7c3 }
/-- java/lang/String -/
def k7 : Class := { plain "java/lang/String" (some 0) with
  accessFlags := 49
  interfaces := #[2, 3, 4, 5, 6]
  cf := some (fileOf pool7 10 #[.nestMembers #[1103]] #[{ accessFlags := 1, nameIndex := 5, descriptorIndex := 6, attributes := #[] }, { accessFlags := 1, nameIndex := 5, descriptorIndex := 1010, attributes := #[] }, { accessFlags := 1, nameIndex := 543, descriptorIndex := 573, attributes := #[] }, { accessFlags := 2, nameIndex := 5, descriptorIndex := 29, attributes := #[] }] 49 2 #[1106, 1108, 575, 1110, 1112] #[{ accessFlags := 18, nameIndex := 13, descriptorIndex := 14, attributes := #[] }, { accessFlags := 18, nameIndex := 17, descriptorIndex := 18, attributes := #[] }, { accessFlags := 2, nameIndex := 21, descriptorIndex := 22, attributes := #[] }, { accessFlags := 2, nameIndex := 25, descriptorIndex := 26, attributes := #[] }, { accessFlags := 26, nameIndex := 1116, descriptorIndex := 1117, attributes := #[] }, { accessFlags := 24, nameIndex := 40, descriptorIndex := 26, attributes := #[] }, { accessFlags := 26, nameIndex := 1101, descriptorIndex := 1102, attributes := #[] }, { accessFlags := 26, nameIndex := 1121, descriptorIndex := 1122, attributes := #[] }, { accessFlags := 25, nameIndex := 599, descriptorIndex := 600, attributes := #[] }, { accessFlags := 24, nameIndex := 1125, descriptorIndex := 18, attributes := #[] }, { accessFlags := 24, nameIndex := 1127, descriptorIndex := 18, attributes := #[] }])
  fields := #[{ name := "value", type := (.array .byte), accessFlags := 18, slot := 0, constantValue := 0 }, { name := "coder", type := .byte, accessFlags := 18, slot := 1, constantValue := 0 }, { name := "hash", type := .int, accessFlags := 2, slot := 2, constantValue := 0 }, { name := "hashIsZero", type := .boolean, accessFlags := 2, slot := 3, constantValue := 0 }, { name := "serialVersionUID", type := .long, accessFlags := 26, slot := 0, constantValue := 0 }, { name := "COMPACT_STRINGS", type := .boolean, accessFlags := 24, slot := 1, constantValue := 0 }, { name := "serialPersistentFields", type := (.array (.object "java/io/ObjectStreamField")), accessFlags := 26, slot := 2, constantValue := 0 }, { name := "REPL", type := .char, accessFlags := 26, slot := 3, constantValue := 0 }, { name := "CASE_INSENSITIVE_ORDER", type := (.object "java/util/Comparator"), accessFlags := 25, slot := 4, constantValue := 0 }, { name := "LATIN1", type := .byte, accessFlags := 24, slot := 5, constantValue := 0 }, { name := "UTF16", type := .byte, accessFlags := 24, slot := 6, constantValue := 0 }]
  methods := #[k7m0, k7m1, k7m2, k7m3]
  instanceTypes := #[(.array .byte), .byte, .int, .boolean]
  staticTypes := #[.long, .boolean, (.array (.object "java/io/ObjectStreamField")), .char, (.object "java/util/Comparator"), .byte, .byte]
  resolved := Array.replicate 1451 none
  statics := some 0 }

def pool8 : Array CpInfo := pool [(1, .methodref 2 3), (0, .class_ 4), (0, .nameAndType 5 6), (0, u "java/lang/Object"), (0, u "<init>"), (0, u "()V"), (0, .fieldref 8 9), (0, .class_ 10), (0, .nameAndType 11 12), (0, u "com/example/pathloom/pathloom/model/PathCount"), (0, u "path"), (0, u "Ljava/lang/String;"), (0, .fieldref 8 14), (0, .nameAndType 15 16), (0, u "instances"), (0, u "J"), (0, .fieldref 8 18), (0, .nameAndType 19 16), (0, u "carriers"), (0, .fieldref 8 21), (0, .nameAndType 22 16), (0, u "structured"), (2, u "(Ljava/lang/String;JJJ)V"), (0, .methodref 27 28), (0, .class_ 29), (0, .nameAndType 30 31), (0, u "java/lang/String"), (0, u "equals"), (0, u "(Ljava/lang/Object;)Z")] 27

def k8c0 : Code := { maxStack := 3, maxLocals := 8, code := prog_25_method_1_code, exceptionTable := #[], attributes := #[] }
def k8m0 : Method := { name := "<init>", desc := "(Ljava/lang/String;JJJ)V", sig := { parameters := [(.object "java/lang/String"), .long, .long, .long], returnType := none }, accessFlags := 1, code := some k8c0 }
def k8c1 : Code := { maxStack := 4, maxLocals := 3, code := prog_25_method_7_code, exceptionTable := #[], attributes := #[] }
def k8m1 : Method := { name := "equals", desc := "(Ljava/lang/Object;)Z", sig := { parameters := [(.object "java/lang/Object")], returnType := some .boolean }, accessFlags := 1, code := some k8c1 }
/-- com/example/pathloom/pathloom/model/PathCount -/
def k8 : Class := { plain "com/example/pathloom/pathloom/model/PathCount" (some 0) with
  accessFlags := 49
  interfaces := #[]
  cf := some (fileOf pool8 8 #[] #[{ accessFlags := 1, nameIndex := 5, descriptorIndex := 25, attributes := #[] }, { accessFlags := 1, nameIndex := 30, descriptorIndex := 31, attributes := #[] }] 49 2 #[] #[{ accessFlags := 18, nameIndex := 11, descriptorIndex := 12, attributes := #[] }, { accessFlags := 18, nameIndex := 15, descriptorIndex := 16, attributes := #[] }, { accessFlags := 18, nameIndex := 19, descriptorIndex := 16, attributes := #[] }, { accessFlags := 18, nameIndex := 22, descriptorIndex := 16, attributes := #[] }])
  fields := #[{ name := "path", type := (.object "java/lang/String"), accessFlags := 18, slot := 0, constantValue := 0 }, { name := "instances", type := .long, accessFlags := 18, slot := 1, constantValue := 0 }, { name := "carriers", type := .long, accessFlags := 18, slot := 2, constantValue := 0 }, { name := "structured", type := .long, accessFlags := 18, slot := 3, constantValue := 0 }]
  methods := #[k8m0, k8m1]
  instanceTypes := #[(.object "java/lang/String"), .long, .long, .long]
  staticTypes := #[]
  resolved := Array.replicate 59 none
  statics := none }

def pool9 : Array CpInfo := pool [(4, .class_ 6), (1, u "java/lang/Object"), (0, u "<init>"), (0, u "()V"), (5, .class_ 16), (1, u "java/lang/StringLatin1"), (104, u "$assertionsDisabled"), (0, u "Z"), (98, .class_ 223), (1, u "java/lang/StringLatin1$LinesSpliterator"), (57, u "equals"), (0, u "([B[B)Z"), (107, .class_ 391), (0, u "java/lang/StringLatin1$CharsSpliterator")] 3

def k9m0 : Method := { name := "<init>", desc := "()V", sig := { parameters := [], returnType := none }, accessFlags := 0, code := none }
def k9c1 : Code := { maxStack := 3, maxLocals := 3, code := jdk_43_method_13_code, exceptionTable := #[], attributes := #[] }
def k9m1 : Method := { name := "equals", desc := "([B[B)Z", sig := { parameters := [(.array .byte), (.array .byte)], returnType := some .boolean }, accessFlags := 9, code := some k9c1 }
/-- java/lang/StringLatin1 -/
def k9 : Class := { plain "java/lang/StringLatin1" (some 0) with
  accessFlags := 48
  interfaces := #[]
  cf := some (fileOf pool9 14 #[.nestMembers #[390, 221]] #[{ accessFlags := 0, nameIndex := 7, descriptorIndex := 8, attributes := #[] }, { accessFlags := 9, nameIndex := 281, descriptorIndex := 282, attributes := #[] }] 48 4 #[] #[{ accessFlags := 4120, nameIndex := 121, descriptorIndex := 122, attributes := #[] }])
  fields := #[{ name := "$assertionsDisabled", type := .boolean, accessFlags := 4120, slot := 0, constantValue := 0 }]
  methods := #[k9m0, k9m1]
  instanceTypes := #[]
  staticTypes := #[.boolean]
  resolved := Array.replicate 395 none
  statics := none }

def pool10 : Array CpInfo := pool [(6, .class_ 8), (1, u "java/lang/Object"), (0, u "<init>"), (0, u "()V"), (1, .class_ 14), (1, u "java/lang/StringUTF16"), (31, u "$assertionsDisabled"), (0, u "Z"), (13, u "HI_BYTE_SHIFT"), (0, u "I"), (2, u "LO_BYTE_SHIFT"), (49, .methodref 12 116), (0, .nameAndType 117 118), (0, u "compress"), (0, u "([CI[BII)I"), (3, u "([CII)[B"), (138, u "coderFromArrayLen"), (0, u "([BI)B"), (106, .class_ 371), (1, u "java/lang/StringUTF16$LinesSpliterator"), (58, u "MAX_LENGTH"), (196, .class_ 628), (0, u "java/lang/StringUTF16$CodePointsSpliterator"), (0, .class_ 630), (0, u "java/lang/StringUTF16$CharsSpliterator")] 4

def k10m0 : Method := { name := "<init>", desc := "()V", sig := { parameters := [], returnType := none }, accessFlags := 0, code := none }
def k10c1 : Code := { maxStack := 2, maxLocals := 2, code := jdk_52_method_15_code, exceptionTable := #[], attributes := #[] }
def k10m1 : Method := { name := "coderFromArrayLen", desc := "([BI)B", sig := { parameters := [(.array .byte), .int], returnType := some .byte }, accessFlags := 8, code := some k10c1 }
def k10c2 : Code := { maxStack := 5, maxLocals := 6, code := jdk_52_method_16_code, exceptionTable := #[], attributes := #[] }
def k10m2 : Method := { name := "compress", desc := "([CII)[B", sig := { parameters := [(.array .char), .int, .int], returnType := some (.array .byte) }, accessFlags := 9, code := some k10c2 }
def k10c3 : Code := { maxStack := 3, maxLocals := 7, code := jdk_52_method_21_code, exceptionTable := #[], attributes := #[] }
def k10m3 : Method := { name := "compress", desc := "([CI[BII)I", sig := { parameters := [(.array .char), .int, (.array .byte), .int, .int], returnType := some .int }, accessFlags := 9, code := some k10c3 }
/-- java/lang/StringUTF16 -/
def k10 : Class := { plain "java/lang/StringUTF16" (some 0) with
  accessFlags := 48
  interfaces := #[]
  cf := some (fileOf pool10 12 #[.nestMembers #[627, 629, 369]] #[{ accessFlags := 0, nameIndex := 9, descriptorIndex := 10, attributes := #[] }, { accessFlags := 8, nameIndex := 261, descriptorIndex := 262, attributes := #[] }, { accessFlags := 9, nameIndex := 117, descriptorIndex := 122, attributes := #[] }, { accessFlags := 9, nameIndex := 117, descriptorIndex := 118, attributes := #[] }] 48 6 #[] #[{ accessFlags := 26, nameIndex := 61, descriptorIndex := 62, attributes := #[] }, { accessFlags := 26, nameIndex := 65, descriptorIndex := 62, attributes := #[] }, { accessFlags := 24, nameIndex := 430, descriptorIndex := 62, attributes := #[] }, { accessFlags := 4120, nameIndex := 46, descriptorIndex := 47, attributes := #[] }])
  fields := #[{ name := "HI_BYTE_SHIFT", type := .int, accessFlags := 26, slot := 0, constantValue := 0 }, { name := "LO_BYTE_SHIFT", type := .int, accessFlags := 26, slot := 1, constantValue := 0 }, { name := "MAX_LENGTH", type := .int, accessFlags := 24, slot := 2, constantValue := 0 }, { name := "$assertionsDisabled", type := .boolean, accessFlags := 4120, slot := 3, constantValue := 0 }]
  methods := #[k10m0, k10m1, k10m2, k10m3]
  instanceTypes := #[]
  staticTypes := #[.int, .int, .int, .boolean]
  resolved := Array.replicate 635 none
  statics := none }

def pool11 : Array CpInfo := pool [(2, .class_ 4), (1, u "java/lang/Object"), (0, u "<init>"), (0, u "()V"), (17, .class_ 26), (1, u "jdk/internal/util/Preconditions"), (28, .class_ 56), (0, u "jdk/internal/util/Preconditions$4"), (57, .class_ 115), (0, u "jdk/internal/util/Preconditions$1"), (7, u "SIOOBE_FORMATTER"), (0, u "Ljava/util/function/BiFunction;"), (0, .class_ 126), (0, u "jdk/internal/util/Preconditions$2"), (3, u "AIOOBE_FORMATTER"), (0, .class_ 132), (0, u "jdk/internal/util/Preconditions$3"), (3, u "IOOBE_FORMATTER")] 57

def k11m0 : Method := { name := "<init>", desc := "()V", sig := { parameters := [], returnType := none }, accessFlags := 1, code := none }
/-- jdk/internal/util/Preconditions -/
def k11 : Class := { plain "jdk/internal/util/Preconditions" (some 0) with
  accessFlags := 33
  interfaces := #[]
  cf := some (fileOf pool11 24 #[.nestMembers #[55, 131, 125, 114]] #[{ accessFlags := 1, nameIndex := 5, descriptorIndex := 6, attributes := #[] }] 33 2 #[] #[{ accessFlags := 25, nameIndex := 123, descriptorIndex := 124, attributes := #[] }, { accessFlags := 25, nameIndex := 130, descriptorIndex := 124, attributes := #[] }, { accessFlags := 25, nameIndex := 136, descriptorIndex := 124, attributes := #[] }])
  fields := #[{ name := "SIOOBE_FORMATTER", type := (.object "java/util/function/BiFunction"), accessFlags := 25, slot := 0, constantValue := 0 }, { name := "AIOOBE_FORMATTER", type := (.object "java/util/function/BiFunction"), accessFlags := 25, slot := 1, constantValue := 0 }, { name := "IOOBE_FORMATTER", type := (.object "java/util/function/BiFunction"), accessFlags := 25, slot := 2, constantValue := 0 }]
  methods := #[k11m0]
  instanceTypes := #[]
  staticTypes := #[(.object "java/util/function/BiFunction"), (.object "java/util/function/BiFunction"), (.object "java/util/function/BiFunction")]
  resolved := Array.replicate 194 none
  statics := some 1 }

def pool12 : Array CpInfo := pool [(9, u "<init>"), (6, .class_ 18), (1, u "java/lang/Object"), (0, u "()V"), (1, .class_ 23), (1, u "jdk/internal/util/ArraysSupport"), (0, u "LOG2_ARRAY_LONG_INDEX_SCALE"), (0, u "I"), (2, u "U"), (0, u "Ljdk/internal/misc/Unsafe;"), (8, u "BIG_ENDIAN"), (0, u "Z"), (8, u "LOG2_BYTE_BIT_SIZE"), (4, u "LOG2_ARRAY_INT_INDEX_SCALE"), (54, u "JLA"), (0, u "Ljdk/internal/access/JavaLangAccess;"), (11, u "LOG2_ARRAY_BOOLEAN_INDEX_SCALE"), (9, u "LOG2_ARRAY_BYTE_INDEX_SCALE"), (5, u "LOG2_ARRAY_CHAR_INDEX_SCALE"), (5, u "LOG2_ARRAY_SHORT_INDEX_SCALE"), (18, u "LOG2_ARRAY_FLOAT_INDEX_SCALE"), (24, u "LOG2_ARRAY_DOUBLE_INDEX_SCALE"), (89, u "T_BOOLEAN"), (2, u "T_CHAR"), (1, u "T_FLOAT"), (1, u "T_DOUBLE"), (1, u "T_BYTE"), (1, u "T_SHORT"), (1, u "T_INT"), (1, u "T_LONG"), (1, u "SOFT_MAX_ARRAY_LENGTH")] 83

def k12m0 : Method := { name := "<init>", desc := "()V", sig := { parameters := [], returnType := none }, accessFlags := 2, code := none }
/-- jdk/internal/util/ArraysSupport -/
def k12 : Class := { plain "jdk/internal/util/ArraysSupport" (some 0) with
  accessFlags := 33
  interfaces := #[]
  cf := some (fileOf pool12 21 #[] #[{ accessFlags := 2, nameIndex := 9, descriptorIndex := 19, attributes := #[] }] 33 16 #[] #[{ accessFlags := 24, nameIndex := 28, descriptorIndex := 29, attributes := #[] }, { accessFlags := 26, nameIndex := 38, descriptorIndex := 39, attributes := #[] }, { accessFlags := 25, nameIndex := 121, descriptorIndex := 25, attributes := #[] }, { accessFlags := 25, nameIndex := 131, descriptorIndex := 25, attributes := #[] }, { accessFlags := 25, nameIndex := 137, descriptorIndex := 25, attributes := #[] }, { accessFlags := 25, nameIndex := 143, descriptorIndex := 25, attributes := #[] }, { accessFlags := 25, nameIndex := 53, descriptorIndex := 25, attributes := #[] }, { accessFlags := 25, nameIndex := 24, descriptorIndex := 25, attributes := #[] }, { accessFlags := 25, nameIndex := 162, descriptorIndex := 25, attributes := #[] }, { accessFlags := 25, nameIndex := 187, descriptorIndex := 25, attributes := #[] }, { accessFlags := 26, nameIndex := 48, descriptorIndex := 25, attributes := #[] }, { accessFlags := 25, nameIndex := 277, descriptorIndex := 25, attributes := #[] }, { accessFlags := 25, nameIndex := 280, descriptorIndex := 25, attributes := #[] }, { accessFlags := 25, nameIndex := 282, descriptorIndex := 25, attributes := #[] }, { accessFlags := 25, nameIndex := 284, descriptorIndex := 25, attributes := #[] }, { accessFlags := 25, nameIndex := 286, descriptorIndex := 25, attributes := #[] }, { accessFlags := 25, nameIndex := 288, descriptorIndex := 25, attributes := #[] }, { accessFlags := 25, nameIndex := 290, descriptorIndex := 25, attributes := #[] }, { accessFlags := 25, nameIndex := 292, descriptorIndex := 25, attributes := #[] }, { accessFlags := 26, nameIndex := 108, descriptorIndex := 109, attributes := #[] }, { accessFlags := 25, nameIndex := 294, descriptorIndex := 25, attributes := #[] }])
  fields := #[{ name := "U", type := (.object "jdk/internal/misc/Unsafe"), accessFlags := 24, slot := 0, constantValue := 0 }, { name := "BIG_ENDIAN", type := .boolean, accessFlags := 26, slot := 1, constantValue := 0 }, { name := "LOG2_ARRAY_BOOLEAN_INDEX_SCALE", type := .int, accessFlags := 25, slot := 2, constantValue := 0 }, { name := "LOG2_ARRAY_BYTE_INDEX_SCALE", type := .int, accessFlags := 25, slot := 3, constantValue := 0 }, { name := "LOG2_ARRAY_CHAR_INDEX_SCALE", type := .int, accessFlags := 25, slot := 4, constantValue := 0 }, { name := "LOG2_ARRAY_SHORT_INDEX_SCALE", type := .int, accessFlags := 25, slot := 5, constantValue := 0 }, { name := "LOG2_ARRAY_INT_INDEX_SCALE", type := .int, accessFlags := 25, slot := 6, constantValue := 0 }, { name := "LOG2_ARRAY_LONG_INDEX_SCALE", type := .int, accessFlags := 25, slot := 7, constantValue := 0 }, { name := "LOG2_ARRAY_FLOAT_INDEX_SCALE", type := .int, accessFlags := 25, slot := 8, constantValue := 0 }, { name := "LOG2_ARRAY_DOUBLE_INDEX_SCALE", type := .int, accessFlags := 25, slot := 9, constantValue := 0 }, { name := "LOG2_BYTE_BIT_SIZE", type := .int, accessFlags := 26, slot := 10, constantValue := 0 }, { name := "T_BOOLEAN", type := .int, accessFlags := 25, slot := 11, constantValue := 0 }, { name := "T_CHAR", type := .int, accessFlags := 25, slot := 12, constantValue := 0 }, { name := "T_FLOAT", type := .int, accessFlags := 25, slot := 13, constantValue := 0 }, { name := "T_DOUBLE", type := .int, accessFlags := 25, slot := 14, constantValue := 0 }, { name := "T_BYTE", type := .int, accessFlags := 25, slot := 15, constantValue := 0 }, { name := "T_SHORT", type := .int, accessFlags := 25, slot := 16, constantValue := 0 }, { name := "T_INT", type := .int, accessFlags := 25, slot := 17, constantValue := 0 }, { name := "T_LONG", type := .int, accessFlags := 25, slot := 18, constantValue := 0 }, { name := "JLA", type := (.object "jdk/internal/access/JavaLangAccess"), accessFlags := 26, slot := 19, constantValue := 0 }, { name := "SOFT_MAX_ARRAY_LENGTH", type := .int, accessFlags := 25, slot := 20, constantValue := 0 }]
  methods := #[k12m0]
  instanceTypes := #[]
  staticTypes := #[(.object "jdk/internal/misc/Unsafe"), .boolean, .int, .int, .int, .int, .int, .int, .int, .int, .int, .int, .int, .int, .int, .int, .int, .int, .int, (.object "jdk/internal/access/JavaLangAccess"), .int]
  resolved := Array.replicate 378 none
  statics := none }

def pool13 : Array CpInfo := pool [(1, u "java/lang/Cloneable"), (0, .class_ 1), (0, u "java/lang/Object"), (0, .class_ 3)] 3

/-- java/lang/Cloneable -/
def k13 : Class := { plain "java/lang/Cloneable" (some 0) with
  accessFlags := 1537
  interfaces := #[]
  cf := some (fileOf pool13 2 #[] #[] 1537 4 #[] #[])
  fields := #[]
  methods := #[]
  instanceTypes := #[]
  staticTypes := #[]
  resolved := Array.replicate 8 none
  statics := none }

/-- the primitive byte -/
def k14 : Class := { plain "byte" none with kind := .primitive 'B', accessFlags := 0x411 }
/-- [B -/
def k15 : Class := { plain "[B" (some 0) with kind := .array 14 .byte, interfaces := #[13, 2], accessFlags := 1041 }

/-- the primitive char -/
def k16 : Class := { plain "char" none with kind := .primitive 'C', accessFlags := 0x411 }
/-- [C -/
def k17 : Class := { plain "[C" (some 0) with kind := .array 16 .char, interfaces := #[13, 2], accessFlags := 1041 }

/-- the primitive int -/
def k18 : Class := { plain "int" none with kind := .primitive 'I', accessFlags := 0x411 }
/-- [I -/
def k19 : Class := { plain "[I" (some 0) with kind := .array 18 .int, interfaces := #[13, 2], accessFlags := 1041 }

def heap : Heap := #[{ cls := 7, slots := #[.long 0, .int 1, .null, .int 0, .null, .int 0, .int 0], vm := .statics 7 },
  { cls := 11, slots := #[.null, .null, .null], vm := .statics 11 }]
def classes : Array Class := #[k0, k1, k2, k3, k4, k5, k6, k7, k8, k9, k10, k11, k12, k13, k14, k15, k16, k17, k18, k19]
def interned : List (Array UInt16 × Addr) := []
def slotsUsed : Nat := 10
def theMethod : MethodId := ⟨1, 2⟩
def args0 : Array Value := #[.int 1, .int 2, .long 3, .long 2, .long 7, .long 5]
def aboutOver (below : List Frame) : State where
  vm := { classes := classes, interned := interned.toArray }
  heap := heap
  slotsUsed := slotsUsed
  threads := #[{ frames := .invoking theMethod args0 :: below }]
def below0 : List Frame := [.native { method := ⟨0, 0⟩, args := #[] }]
def about1 : State := aboutOver below0
def p0 : Program := .bare "" "" ""
def e0 : Env := launch0.env 0 0 0
theorem w_frames : about1.frames = Frame.invoking theMethod args0 :: below0 := rfl
set_option maxRecDepth 65536 in
theorem w_args : argsFit about1.vm theMethod args0 = true := by decide +kernel
set_option maxRecDepth 65536 in
theorem w_heap : heapFits about1 = true := by decide +kernel
set_option maxRecDepth 65536 in
theorem w_runnable : about1.curStatus? = some .runnable := by decide +kernel
set_option maxRecDepth 65536 in
theorem w_alone : about1.alone = true := by decide +kernel
set_option maxRecDepth 65536 in
theorem w_named : about1.methodNamed? x = some theMethod := by decide +kernel
set_option maxRecDepth 65536 in
theorem w_hears : about1.hears theMethod below0 = true := by decide +kernel
set_option maxRecDepth 65536 in
theorem w_ripe : about1.ripe theMethod args0 below0 = true := by decide +kernel
theorem w_running : about1.status = .running := rfl
set_option maxRecDepth 65536 in
theorem w_room : about1.hasRoom e0.platform room_1 = true :=
  launch0.hasRoom_least _ room_1 (by decide +kernel) (by decide +kernel) (by decide +kernel) (by decide +kernel) (by decide +kernel) (by decide +kernel)
theorem allAtoms_all (ts : List Jvm.Cond) (a : Array Jvm.Value) (st : Jvm.State) : (allAtoms ts).before a st = ts.all (fun c => c.before a st) := by
  induction ts with
  | nil => rfl
  | cons c t ih =>
    show (Jvm.Cond.and c (allAtoms t)).before a st = _
    rw [Jvm.Cond.before_and, ih, List.all_cons]
def words1 : List Jvm.Cond := Jvm.Cond.code x code maxLocals ret :: tables_1
/-- a 'code' word, met by the world's own term for the bytes: nothing is compared byte by byte -/
theorem code_word {y : MethodName} {bytes : ByteArray} {mx : Nat} {rt : Option FieldType} {a : Array Value} {s : State} {m : MethodId} {meth : Method} {c : Code} (h1 : s.methodNamed? y = some m) (h2 : s.vm.method? m = some meth) (h3 : meth.code = some c) (h4 : c.code = bytes)
    (h5 : (c.maxLocals == mx && c.exceptionTable.isEmpty && decide (c.maxStack ≤ mostOperands) && decide (meth.sig.returnType = rt) && !meth.locks && decide (parseMethodDescriptor y.desc = some meth.sig)) = true) : (Jvm.Cond.code y bytes mx rt).before a s = true := by
  simp only [Bool.and_eq_true, beq_iff_eq, Bool.not_eq_true', decide_eq_true_eq] at h5
  obtain ⟨⟨⟨⟨⟨g1, g2⟩, g3⟩, g4⟩, g5⟩, g6⟩ := h5
  simp [Cond.before, Cond.holds, Cond.value, h1, h2, h3, h4, g1, g2, g3, g4, g5, g6]
def isCode : Jvm.Cond → Bool
  | .code _ _ _ _ => true
  | _ => false
theorem all_split {L : List Jvm.Cond} {P : Jvm.Cond → Bool} (h1 : L.all (fun c => isCode c || P c) = true) (h2 : ∀ c ∈ L.filter isCode, P c = true) : L.all P = true := by
  refine List.all_eq_true.mpr fun c hc => ?_
  have h := List.all_eq_true.mp h1 c hc
  rcases Bool.eq_false_or_eq_true (isCode c) with hi | hi
  · exact h2 c (List.mem_filter.mpr ⟨hc, hi⟩)
  · simpa [hi] using h
set_option maxRecDepth 65536 in
theorem w_c0 : (Jvm.Cond.code x code maxLocals ret).before args0 about1 = true := code_word (m := ⟨1, 2⟩) (meth := k1m2) (c := k1c2) (by decide +kernel) rfl rfl rfl (by decide +kernel)
set_option maxRecDepth 65536 in
theorem w_c1 : (Jvm.Cond.code ({ cls := "com/example/pathloom/pathloom/model/PathCountEqualsPinLaw", name := "mk", desc := "(III)Ljava/lang/String;" } : Jvm.MethodName) method_2_code (4 : Nat) (Option.some (Jvm.ClassFile.FieldType.object "java/lang/String"))).before args0 about1 = true := code_word (m := ⟨1, 1⟩) (meth := k1m1) (c := k1c1) (by decide +kernel) rfl rfl rfl (by decide +kernel)
set_option maxRecDepth 65536 in
theorem w_c2 : (Jvm.Cond.code ({ cls := "java/lang/String", name := "<init>", desc := "([C)V" } : Jvm.MethodName) jdk_42_method_3_code (2 : Nat) (Option.none : Option Jvm.ClassFile.FieldType)).before args0 about1 = true := code_word (m := ⟨7, 1⟩) (meth := k7m1) (c := k7c1) (by decide +kernel) rfl rfl rfl (by decide +kernel)
set_option maxRecDepth 65536 in
theorem w_c3 : (Jvm.Cond.code ({ cls := "java/lang/String", name := "<init>", desc := "([CIILjava/lang/Void;)V" } : Jvm.MethodName) jdk_42_method_149_code (6 : Nat) (Option.none : Option Jvm.ClassFile.FieldType)).before args0 about1 = true := code_word (m := ⟨7, 3⟩) (meth := k7m3) (c := k7c3) (by decide +kernel) rfl rfl rfl (by decide +kernel)
set_option maxRecDepth 65536 in
theorem w_c4 : (Jvm.Cond.code ({ cls := "java/lang/Object", name := "<init>", desc := "()V" } : Jvm.MethodName) object_method_1_code (1 : Nat) (Option.none : Option Jvm.ClassFile.FieldType)).before args0 about1 = true := code_word (m := ⟨0, 0⟩) (meth := k0m0) (c := k0c0) (by decide +kernel) rfl rfl rfl (by decide +kernel)
set_option maxRecDepth 65536 in
theorem w_c5 : (Jvm.Cond.code ({ cls := "com/example/pathloom/pathloom/model/PathCount", name := "<init>", desc := "(Ljava/lang/String;JJJ)V" } : Jvm.MethodName) prog_25_method_1_code (8 : Nat) (Option.none : Option Jvm.ClassFile.FieldType)).before args0 about1 = true := code_word (m := ⟨8, 0⟩) (meth := k8m0) (c := k8c0) (by decide +kernel) rfl rfl rfl (by decide +kernel)
set_option maxRecDepth 65536 in
theorem w_c6 : (Jvm.Cond.code ({ cls := "com/example/pathloom/pathloom/model/PathCount", name := "equals", desc := "(Ljava/lang/Object;)Z" } : Jvm.MethodName) prog_25_method_7_code (3 : Nat) (Option.some Jvm.ClassFile.FieldType.boolean)).before args0 about1 = true := code_word (m := ⟨8, 1⟩) (meth := k8m1) (c := k8c1) (by decide +kernel) rfl rfl rfl (by decide +kernel)
set_option maxRecDepth 65536 in
theorem w_c7 : (Jvm.Cond.code ({ cls := "java/lang/String", name := "equals", desc := "(Ljava/lang/Object;)Z" } : Jvm.MethodName) jdk_42_method_66_code (3 : Nat) (Option.some Jvm.ClassFile.FieldType.boolean)).before args0 about1 = true := code_word (m := ⟨7, 2⟩) (meth := k7m2) (c := k7c2) (by decide +kernel) rfl rfl rfl (by decide +kernel)
set_option maxRecDepth 65536 in
theorem w_c8 : (Jvm.Cond.code ({ cls := "java/lang/StringLatin1", name := "equals", desc := "([B[B)Z" } : Jvm.MethodName) jdk_43_method_13_code (3 : Nat) (Option.some Jvm.ClassFile.FieldType.boolean)).before args0 about1 = true := code_word (m := ⟨9, 1⟩) (meth := k9m1) (c := k9c1) (by decide +kernel) rfl rfl rfl (by decide +kernel)
set_option maxRecDepth 65536 in
theorem w_c9 : (Jvm.Cond.code ({ cls := "java/lang/StringUTF16", name := "compress", desc := "([CII)[B" } : Jvm.MethodName) jdk_52_method_16_code (6 : Nat) (Option.some (Jvm.ClassFile.FieldType.array Jvm.ClassFile.FieldType.byte))).before args0 about1 = true := code_word (m := ⟨10, 2⟩) (meth := k10m2) (c := k10c2) (by decide +kernel) rfl rfl rfl (by decide +kernel)
set_option maxRecDepth 65536 in
theorem w_c10 : (Jvm.Cond.code ({ cls := "java/lang/StringUTF16", name := "compress", desc := "([CI[BII)I" } : Jvm.MethodName) jdk_52_method_21_code (7 : Nat) (Option.some Jvm.ClassFile.FieldType.int)).before args0 about1 = true := code_word (m := ⟨10, 3⟩) (meth := k10m3) (c := k10c3) (by decide +kernel) rfl rfl rfl (by decide +kernel)
set_option maxRecDepth 65536 in
theorem w_c11 : (Jvm.Cond.code ({ cls := "java/lang/StringUTF16", name := "coderFromArrayLen", desc := "([BI)B" } : Jvm.MethodName) jdk_52_method_15_code (2 : Nat) (Option.some Jvm.ClassFile.FieldType.byte)).before args0 about1 = true := code_word (m := ⟨10, 1⟩) (meth := k10m1) (c := k10c1) (by decide +kernel) rfl rfl rfl (by decide +kernel)
def codes1 : List Jvm.Cond := [Jvm.Cond.code x code maxLocals ret, Jvm.Cond.code ({ cls := "com/example/pathloom/pathloom/model/PathCountEqualsPinLaw", name := "mk", desc := "(III)Ljava/lang/String;" } : Jvm.MethodName) method_2_code (4 : Nat) (Option.some (Jvm.ClassFile.FieldType.object "java/lang/String")), Jvm.Cond.code ({ cls := "java/lang/String", name := "<init>", desc := "([C)V" } : Jvm.MethodName) jdk_42_method_3_code (2 : Nat) (Option.none : Option Jvm.ClassFile.FieldType), Jvm.Cond.code ({ cls := "java/lang/String", name := "<init>", desc := "([CIILjava/lang/Void;)V" } : Jvm.MethodName) jdk_42_method_149_code (6 : Nat) (Option.none : Option Jvm.ClassFile.FieldType), Jvm.Cond.code ({ cls := "java/lang/Object", name := "<init>", desc := "()V" } : Jvm.MethodName) object_method_1_code (1 : Nat) (Option.none : Option Jvm.ClassFile.FieldType), Jvm.Cond.code ({ cls := "com/example/pathloom/pathloom/model/PathCount", name := "<init>", desc := "(Ljava/lang/String;JJJ)V" } : Jvm.MethodName) prog_25_method_1_code (8 : Nat) (Option.none : Option Jvm.ClassFile.FieldType), Jvm.Cond.code ({ cls := "com/example/pathloom/pathloom/model/PathCount", name := "equals", desc := "(Ljava/lang/Object;)Z" } : Jvm.MethodName) prog_25_method_7_code (3 : Nat) (Option.some Jvm.ClassFile.FieldType.boolean), Jvm.Cond.code ({ cls := "java/lang/String", name := "equals", desc := "(Ljava/lang/Object;)Z" } : Jvm.MethodName) jdk_42_method_66_code (3 : Nat) (Option.some Jvm.ClassFile.FieldType.boolean), Jvm.Cond.code ({ cls := "java/lang/StringLatin1", name := "equals", desc := "([B[B)Z" } : Jvm.MethodName) jdk_43_method_13_code (3 : Nat) (Option.some Jvm.ClassFile.FieldType.boolean), Jvm.Cond.code ({ cls := "java/lang/StringUTF16", name := "compress", desc := "([CII)[B" } : Jvm.MethodName) jdk_52_method_16_code (6 : Nat) (Option.some (Jvm.ClassFile.FieldType.array Jvm.ClassFile.FieldType.byte)), Jvm.Cond.code ({ cls := "java/lang/StringUTF16", name := "compress", desc := "([CI[BII)I" } : Jvm.MethodName) jdk_52_method_21_code (7 : Nat) (Option.some Jvm.ClassFile.FieldType.int), Jvm.Cond.code ({ cls := "java/lang/StringUTF16", name := "coderFromArrayLen", desc := "([BI)B" } : Jvm.MethodName) jdk_52_method_15_code (2 : Nat) (Option.some Jvm.ClassFile.FieldType.byte)]
set_option maxRecDepth 65536 in
theorem codes_eq : words1.filter isCode = codes1 := rfl
theorem w_codes : ∀ c ∈ words1.filter isCode, c.before args0 about1 = true := by
  rw [codes_eq]
  intro c hc
  simp only [codes1, List.mem_cons, List.not_mem_nil, or_false] at hc
  rcases hc with rfl | rfl | rfl | rfl | rfl | rfl | rfl | rfl | rfl | rfl | rfl | rfl
  · exact w_c0
  · exact w_c1
  · exact w_c2
  · exact w_c3
  · exact w_c4
  · exact w_c5
  · exact w_c6
  · exact w_c7
  · exact w_c8
  · exact w_c9
  · exact w_c10
  · exact w_c11
set_option maxRecDepth 65536 in
theorem w_t1 : (words1.take 24).all (fun c => isCode c || c.before args0 about1) = true := by decide +kernel
set_option maxRecDepth 65536 in
theorem w_t2 : ((words1.drop 24).take 24).all (fun c => isCode c || c.before args0 about1) = true := by decide +kernel
set_option maxRecDepth 65536 in
theorem w_t3 : ((words1.drop 24).drop 24).all (fun c => isCode c || c.before args0 about1) = true := by decide +kernel
theorem w_tables : (allAtoms (Jvm.Cond.code x code maxLocals ret :: tables_1)).before args0 about1 = true := by
  rw [allAtoms_all]
  show words1.all (fun c => c.before args0 about1) = true
  refine all_split ?_ w_codes
  rw [← List.take_append_drop 24 words1, List.all_append, w_t1, ← List.take_append_drop 24 (words1.drop 24), List.all_append, w_t2, w_t3]
  rfl
set_option maxRecDepth 65536 in
theorem w_rest : rest_1_c.before args0 about1 = true := by decide +kernel
set_option maxRecDepth 65536 in
theorem w_case : (Jvm.Cond.and given_1 narrow_1).before args0 about1 = true := by decide +kernel
set_option maxRecDepth 65536 in
theorem w_consts : constsHeld consts_1 about1 := Jvm.Lit.constsHeldB_iff.mp (by decide +kernel)
theorem w_applies : (headSpec (Jvm.Cond.code x code maxLocals ret :: tables_1) room_1).applies x e0.platform about1 = true :=
  (Spec.applies_iff w_frames).mpr ⟨w_running, w_runnable, w_alone, w_named, w_hears, w_ripe, w_room, w_tables⟩
theorem atStart : AtStart classFile x code maxLocals ret World_1 tables_1 room_1 Calls_1 rest_1 Pre_1 launch0 p0 e0 about1 theMethod args0 below0 :=
  ⟨lists_1, trivial, launch0.admits_env _ _ _, launch0.least_env, fairChoices_fair.cas, fairChoices_fair.clock, w_frames, w_args, w_heap, w_applies, ⟨w_consts, trivial⟩, w_rest, w_case⟩
end start1
theorem witness_1 : WitnessClaimed_1 := ⟨start1.p0, start1.e0, start1.about1, start1.theMethod, start1.args0, start1.below0, start1.atStart⟩
end Jvm.Pilot.@@N@@
