import JvmDerived
import JvmDerived.Pilot.@@N@@Statement
import JvmDerived.Pilot.@@N@@Code
set_option linter.unusedVariables false
set_option linter.unusedSimpArgs false

namespace Jvm.Pilot.@@N@@
open Jvm Jvm.ClassFile Sem Op Lib Jvm.Free Jvm.Stand Jvm.LawKit Jvm.RoadKit Bundle Jvm.Pilot.@@N@@.Jvm.D
/-! MY OWN LAYER: the walk in continuation form -/
abbrev Bx : Type := Program × Launch × Env × Room × State × MethodId × Array Value × List Frame × Method × Code
def De (b : ByteArray) (pc : Nat) (i : Instr) (k n : Nat) : Prop := decode b pc = .ok (i, k) ∧ pc + k = n
def Go (B : Bx) (n0 : Nat) (Q : Option Value → Heap → Prop) (h : Heap) (ce sl pc : Nat) (Ls : Array Slot) (S : List Value) : Prop :=
  match B with
  | (p, l, e, R, s, m, args, below, meth, c) => ∀ (T : State) (locs : List Loc), Stand p l e R s m args below meth c T locs ce sl → T.heap = h → Fr n0 locs →
    ∃ s₂ o, Steps p.tables e below (T.setTop (mkF m pc Ls S)) s₂ ∧ s₂.status = .running ∧ Ended s₂ below o ∧ ∃ (v : Option Value) (L : List Loc), o = .returned v ∧ (Q v s₂.heap ∧ Fr n0 L) ∧ FrameEnd s o s₂ L R.cells R.slots
def Cx (B : Bx) (l0 : Launch) (Z : State) (a0 : Array Value) (R0 : Room) (y : MethodName) (b : ByteArray) (mx : Nat) (rt : Option FieldType) : Prop :=
  match B with
  | (p, l, e, R, s, m, args, below, meth, c) => l = l0 ∧ R = R0 ∧ p.tables.exec = Jvm.exec ∧ c.code = b ∧ c.maxLocals = mx ∧ s.vm.findClass y.cls = some m.cls ∧ meth.name = y.name ∧ meth.sig.returnType = rt ∧ meth.locks = false ∧ Z.Warmed39 s.vm ∧ ∀ d ∈ tables_1, d.before a0 Z = true
def QQ (n0 : Nat) (Q : Option Value → Heap → Prop) (v : Option Value) (h : Heap) (L : List Loc) : Prop := Q v h ∧ Fr n0 L
def Pays (l : Launch) (Z : State) (y : MethodName) (b : ByteArray) (mx : Nat) (rt : Option FieldType) (rm : Room) (as' : Array Value) (n0 : Nat) (h0 : Heap) (Q : Option Value → Heap → Prop) : Prop :=
  ∀ ws : List Jvm.Cond, MetFree l y (head1 (Jvm.Cond.code y b mx rt :: ws) rm) (fun a U => a = as' ∧ Z.Warmed39 U.vm ∧ U.heap = h0) (fun _ _ _ _ _ => True) (fun _ U o U' => ∃ v L, o = .returned v ∧ QQ n0 Q v U'.heap L ∧ FrameEnd U o U' L rm.cells rm.slots)
section Flow
variable {B : Bx} {n0 : Nat} {Q : Option Value → Heap → Prop} {h : Heap} {ce sl pc n : Nat} {Ls Ls' : Array Slot} {S S' : List Value} {l : Launch} {Z : State} {a0 : Array Value} {R : Room} {y : MethodName} {b : ByteArray} {mx : Nat} {rt : Option FieldType}
theorem Pays.mono {rm : Room} {as' : Array Value} {Q' : Option Value → Heap → Prop} (hM : Pays l Z y b mx rt rm as' n0 h Q) (hq : ∀ v h, Q v h → Q' v h) : Pays l Z y b mx rt rm as' n0 h Q' := by
  intro ws p e ha hc hk s m args below hf happ hP hK
  obtain ⟨k, o, h1, h2, h3, v, L, h4, h5, h6⟩ := hM ws p e ha hc hk s m args below hf happ hP hK
  exact ⟨k, o, h1, h2, h3, v, L, h4, ⟨hq _ _ h5.1, h5.2⟩, h6⟩
theorem Pays.of (hw : ∀ d ∈ tables_1, d.before a0 Z = true) (hp : plainFor y = true) {rm : Room} {as' : Array Value} (ef : ∀ m, entryFrame m as' mx = mkF m 0 Ls []) (hb : ∀ B, Cx B l Z a0 rm y b mx rt → Go B n0 Q h 0 0 0 Ls []) : Pays l Z y b mx rt rm as' n0 h Q := by
  intro ws
  refine MetFree.of_bodySF hp hisR ?_
  intro p e s m args below meth c s₁ Bd hml0 hP hK
  obtain ⟨rfl, hZ, hh⟩ := hP
  have X0 : Stand p l e rm s m args below meth c s₁ [] 0 0 := Stand.of_body Bd
  have e0 : s₁.heap = h := by rw [← hh, Bd.state]; rfl
  obtain ⟨s₂, o, st, r1, r2, v, L, r3, r4, r5⟩ := hb (p, l, e, rm, s, m, args, below, meth, c) ⟨rfl, rfl, Bd.exec, Bd.bytes, hml0, findClass_of_methodNamed Bd.named, (name_of_methodNamed Bd.named Bd.method).1, Bd.returns, BodyLoose.notSynchronized Bd, hZ, hw⟩ s₁ [] X0 e0 (Fr.nil n0)
  exact ⟨s₂, o, castTop (ef m) st, r1, r2, v, L, r3, r4, r5⟩
theorem iAloadN (C : Cx B l Z a0 R y b mx rt) {k : Fin 4} {v : Value} (hd : De b pc (.aload_n k) 1 n) (hl : Ls[k.val]? = some (.val v)) (hv : v.isRef = true) (K : Go B n0 Q h ce sl n Ls (v :: S)) : Go B n0 Q h ce sl pc Ls (S) := by
  obtain ⟨p, l', e, R', s, m, args, below, meth, c⟩ := B
  obtain ⟨rfl, rfl, hx, rfl, hml, hown, hnm, hret, hlk, hZ, hw⟩ := C
  intro T locs X eT N
  obtain ⟨hd, rfl⟩ := hd
  obtain ⟨s₂, o, st, r⟩ := K T locs X eT N
  exact ⟨s₂, o, XS.aloadN X.here hx rfl hd hl hv st, r⟩
theorem iAload (C : Cx B l Z a0 R y b mx rt) {k : Nat} {v : Value} (hd : De b pc (.aload k) 2 n) (hl : Ls[k]? = some (.val v)) (hv : v.isRef = true) (K : Go B n0 Q h ce sl n Ls (v :: S)) : Go B n0 Q h ce sl pc Ls (S) := by
  obtain ⟨p, l', e, R', s, m, args, below, meth, c⟩ := B
  obtain ⟨rfl, rfl, hx, rfl, hml, hown, hnm, hret, hlk, hZ, hw⟩ := C
  intro T locs X eT N
  obtain ⟨hd, rfl⟩ := hd
  obtain ⟨s₂, o, st, r⟩ := K T locs X eT N
  exact ⟨s₂, o, XS.aload X.here hx rfl hd hl hv st, r⟩
theorem iIloadN (C : Cx B l Z a0 R y b mx rt) {k : Fin 4} {v : Int32} (hd : De b pc (.iload_n k) 1 n) (hl : Ls[k.val]? = some (.val (.int v))) (K : Go B n0 Q h ce sl n Ls (.int v :: S)) : Go B n0 Q h ce sl pc Ls (S) := by
  obtain ⟨p, l', e, R', s, m, args, below, meth, c⟩ := B
  obtain ⟨rfl, rfl, hx, rfl, hml, hown, hnm, hret, hlk, hZ, hw⟩ := C
  intro T locs X eT N
  obtain ⟨hd, rfl⟩ := hd
  obtain ⟨s₂, o, st, r⟩ := K T locs X eT N
  exact ⟨s₂, o, XS.iloadN X.here hx rfl hd hl st, r⟩
theorem iIload (C : Cx B l Z a0 R y b mx rt) {k : Nat} {v : Int32} (hd : De b pc (.iload k) 2 n) (hl : Ls[k]? = some (.val (.int v))) (K : Go B n0 Q h ce sl n Ls (.int v :: S)) : Go B n0 Q h ce sl pc Ls (S) := by
  obtain ⟨p, l', e, R', s, m, args, below, meth, c⟩ := B
  obtain ⟨rfl, rfl, hx, rfl, hml, hown, hnm, hret, hlk, hZ, hw⟩ := C
  intro T locs X eT N
  obtain ⟨hd, rfl⟩ := hd
  obtain ⟨s₂, o, st, r⟩ := K T locs X eT N
  exact ⟨s₂, o, XS.iload X.here hx rfl hd hl st, r⟩
theorem iLloadN (C : Cx B l Z a0 R y b mx rt) {k : Fin 4} {v : Int64} (hd : De b pc (.lload_n k) 1 n) (hl : Ls[k.val]? = some (.val (.long v))) (K : Go B n0 Q h ce sl n Ls (.long v :: S)) : Go B n0 Q h ce sl pc Ls (S) := by
  obtain ⟨p, l', e, R', s, m, args, below, meth, c⟩ := B
  obtain ⟨rfl, rfl, hx, rfl, hml, hown, hnm, hret, hlk, hZ, hw⟩ := C
  intro T locs X eT N
  obtain ⟨hd, rfl⟩ := hd
  obtain ⟨s₂, o, st, r⟩ := K T locs X eT N
  exact ⟨s₂, o, XT.lloadN X.here hx rfl hd hl st, r⟩
theorem iLload (C : Cx B l Z a0 R y b mx rt) {k : Nat} {v : Int64} (hd : De b pc (.lload k) 2 n) (hl : Ls[k]? = some (.val (.long v))) (K : Go B n0 Q h ce sl n Ls (.long v :: S)) : Go B n0 Q h ce sl pc Ls (S) := by
  obtain ⟨p, l', e, R', s, m, args, below, meth, c⟩ := B
  obtain ⟨rfl, rfl, hx, rfl, hml, hown, hnm, hret, hlk, hZ, hw⟩ := C
  intro T locs X eT N
  obtain ⟨hd, rfl⟩ := hd
  obtain ⟨s₂, o, st, r⟩ := K T locs X eT N
  exact ⟨s₂, o, XT.lload X.here hx rfl hd hl st, r⟩
theorem iIconst (C : Cx B l Z a0 R y b mx rt) {i : Int} {v : Int32} (hd : De b pc (.iconst i) 1 n) (hv : Int32.ofInt i = v) (K : Go B n0 Q h ce sl n Ls (.int v :: S)) : Go B n0 Q h ce sl pc Ls (S) := by
  obtain ⟨p, l', e, R', s, m, args, below, meth, c⟩ := B
  obtain ⟨rfl, rfl, hx, rfl, hml, hown, hnm, hret, hlk, hZ, hw⟩ := C
  intro T locs X eT N
  obtain ⟨hd, rfl⟩ := hd
  subst hv
  obtain ⟨s₂, o, st, r⟩ := K T locs X eT N
  exact ⟨s₂, o, XS.iconst X.here hx rfl hd st, r⟩
theorem iBipush (C : Cx B l Z a0 R y b mx rt) {i : Int} {v : Int32} (hd : De b pc (.bipush i) 2 n) (hv : (Int8.ofInt i).toInt32 = v) (K : Go B n0 Q h ce sl n Ls (.int v :: S)) : Go B n0 Q h ce sl pc Ls (S) := by
  obtain ⟨p, l', e, R', s, m, args, below, meth, c⟩ := B
  obtain ⟨rfl, rfl, hx, rfl, hml, hown, hnm, hret, hlk, hZ, hw⟩ := C
  intro T locs X eT N
  obtain ⟨hd, rfl⟩ := hd
  subst hv
  obtain ⟨s₂, o, st, r⟩ := K T locs X eT N
  exact ⟨s₂, o, XS.bipush X.here hx rfl hd st, r⟩
theorem iSipush (C : Cx B l Z a0 R y b mx rt) {i : Int} {v : Int32} (hd : De b pc (.sipush i) 3 n) (hv : (Int16.ofInt i).toInt32 = v) (K : Go B n0 Q h ce sl n Ls (.int v :: S)) : Go B n0 Q h ce sl pc Ls (S) := by
  obtain ⟨p, l', e, R', s, m, args, below, meth, c⟩ := B
  obtain ⟨rfl, rfl, hx, rfl, hml, hown, hnm, hret, hlk, hZ, hw⟩ := C
  intro T locs X eT N
  obtain ⟨hd, rfl⟩ := hd
  subst hv
  obtain ⟨s₂, o, st, r⟩ := K T locs X eT N
  exact ⟨s₂, o, XS.sipush X.here hx rfl hd st, r⟩
theorem iNull (C : Cx B l Z a0 R y b mx rt)  (hd : De b pc (.aconst_null) 1 n) (K : Go B n0 Q h ce sl n Ls (.null :: S)) : Go B n0 Q h ce sl pc Ls (S) := by
  obtain ⟨p, l', e, R', s, m, args, below, meth, c⟩ := B
  obtain ⟨rfl, rfl, hx, rfl, hml, hown, hnm, hret, hlk, hZ, hw⟩ := C
  intro T locs X eT N
  obtain ⟨hd, rfl⟩ := hd
  obtain ⟨s₂, o, st, r⟩ := K T locs X eT N
  exact ⟨s₂, o, XS.aconstNull X.here hx rfl hd st, r⟩
theorem iIadd (C : Cx B l Z a0 R y b mx rt) {x z v : Int32} (hd : De b pc (.iadd) 1 n) (hv : x + z = v) (K : Go B n0 Q h ce sl n Ls (.int v :: S)) : Go B n0 Q h ce sl pc Ls (.int z :: .int x :: S) := by
  obtain ⟨p, l', e, R', s, m, args, below, meth, c⟩ := B
  obtain ⟨rfl, rfl, hx, rfl, hml, hown, hnm, hret, hlk, hZ, hw⟩ := C
  intro T locs X eT N
  obtain ⟨hd, rfl⟩ := hd
  subst hv
  obtain ⟨s₂, o, st, r⟩ := K T locs X eT N
  exact ⟨s₂, o, XS.iadd X.here hx rfl hd rfl st, r⟩
theorem iIsub (C : Cx B l Z a0 R y b mx rt) {x z v : Int32} (hd : De b pc (.isub) 1 n) (hv : x - z = v) (K : Go B n0 Q h ce sl n Ls (.int v :: S)) : Go B n0 Q h ce sl pc Ls (.int z :: .int x :: S) := by
  obtain ⟨p, l', e, R', s, m, args, below, meth, c⟩ := B
  obtain ⟨rfl, rfl, hx, rfl, hml, hown, hnm, hret, hlk, hZ, hw⟩ := C
  intro T locs X eT N
  obtain ⟨hd, rfl⟩ := hd
  subst hv
  obtain ⟨s₂, o, st, r⟩ := K T locs X eT N
  exact ⟨s₂, o, XS.isub X.here hx rfl hd rfl st, r⟩
theorem iIand (C : Cx B l Z a0 R y b mx rt) {x z v : Int32} (hd : De b pc (.iand) 1 n) (hv : x &&& z = v) (K : Go B n0 Q h ce sl n Ls (.int v :: S)) : Go B n0 Q h ce sl pc Ls (.int z :: .int x :: S) := by
  obtain ⟨p, l', e, R', s, m, args, below, meth, c⟩ := B
  obtain ⟨rfl, rfl, hx, rfl, hml, hown, hnm, hret, hlk, hZ, hw⟩ := C
  intro T locs X eT N
  obtain ⟨hd, rfl⟩ := hd
  subst hv
  obtain ⟨s₂, o, st, r⟩ := K T locs X eT N
  exact ⟨s₂, o, XS.iand X.here hx rfl hd rfl st, r⟩
theorem iImul (C : Cx B l Z a0 R y b mx rt) {x z v : Int32} (hd : De b pc (.imul) 1 n) (hv : x * z = v) (K : Go B n0 Q h ce sl n Ls (.int v :: S)) : Go B n0 Q h ce sl pc Ls (.int z :: .int x :: S) := by
  obtain ⟨p, l', e, R', s, m, args, below, meth, c⟩ := B
  obtain ⟨rfl, rfl, hx, rfl, hml, hown, hnm, hret, hlk, hZ, hw⟩ := C
  intro T locs X eT N
  obtain ⟨hd, rfl⟩ := hd
  subst hv
  obtain ⟨s₂, o, st, r⟩ := K T locs X eT N
  exact ⟨s₂, o, XS.imul X.here hx rfl hd rfl st, r⟩
theorem iIdiv (C : Cx B l Z a0 R y b mx rt) {x z v : Int32} (hd : De b pc (.idiv) 1 n) (hz : z ≠ 0) (hv : x / z = v) (K : Go B n0 Q h ce sl n Ls (.int v :: S)) : Go B n0 Q h ce sl pc Ls (.int z :: .int x :: S) := by
  obtain ⟨p, l', e, R', s, m, args, below, meth, c⟩ := B
  obtain ⟨rfl, rfl, hx, rfl, hml, hown, hnm, hret, hlk, hZ, hw⟩ := C
  intro T locs X eT N
  obtain ⟨hd, rfl⟩ := hd
  subst hv
  obtain ⟨s₂, o, st, r⟩ := K T locs X eT N
  exact ⟨s₂, o, XS.idiv X.here hx rfl hd rfl hz st, r⟩
theorem iIrem (C : Cx B l Z a0 R y b mx rt) {x z v : Int32} (hd : De b pc (.irem) 1 n) (hz : z ≠ 0) (hv : x % z = v) (K : Go B n0 Q h ce sl n Ls (.int v :: S)) : Go B n0 Q h ce sl pc Ls (.int z :: .int x :: S) := by
  obtain ⟨p, l', e, R', s, m, args, below, meth, c⟩ := B
  obtain ⟨rfl, rfl, hx, rfl, hml, hown, hnm, hret, hlk, hZ, hw⟩ := C
  intro T locs X eT N
  obtain ⟨hd, rfl⟩ := hd
  subst hv
  obtain ⟨s₂, o, st, r⟩ := K T locs X eT N
  exact ⟨s₂, o, iremM X hx rfl hd rfl hz st, r⟩
theorem iDup (C : Cx B l Z a0 R y b mx rt) {x : Value} (hd : De b pc (.dup) 1 n) (hc : x.category = 1) (K : Go B n0 Q h ce sl n Ls (x :: x :: S)) : Go B n0 Q h ce sl pc Ls (x :: S) := by
  obtain ⟨p, l', e, R', s, m, args, below, meth, c⟩ := B
  obtain ⟨rfl, rfl, hx, rfl, hml, hown, hnm, hret, hlk, hZ, hw⟩ := C
  intro T locs X eT N
  obtain ⟨hd, rfl⟩ := hd
  obtain ⟨s₂, o, st, r⟩ := K T locs X eT N
  exact ⟨s₂, o, XS.dup X.here hx rfl hd rfl hc st, r⟩
theorem iPop (C : Cx B l Z a0 R y b mx rt) {x : Value} (hd : De b pc (.pop) 1 n) (hc : x.category = 1) (K : Go B n0 Q h ce sl n Ls (S)) : Go B n0 Q h ce sl pc Ls (x :: S) := by
  obtain ⟨p, l', e, R', s, m, args, below, meth, c⟩ := B
  obtain ⟨rfl, rfl, hx, rfl, hml, hown, hnm, hret, hlk, hZ, hw⟩ := C
  intro T locs X eT N
  obtain ⟨hd, rfl⟩ := hd
  obtain ⟨s₂, o, st, r⟩ := K T locs X eT N
  exact ⟨s₂, o, XT.pop X.here hx rfl hd rfl hc st, r⟩
theorem iIstoreN (C : Cx B l Z a0 R y b mx rt) {k : Fin 4} {x : Int32} (hd : De b pc (.istore_n k) 1 n) (hl : storeLocals Ls k.val (.int x) = some Ls') (K : Go B n0 Q h ce sl n Ls' (S)) : Go B n0 Q h ce sl pc Ls (.int x :: S) := by
  obtain ⟨p, l', e, R', s, m, args, below, meth, c⟩ := B
  obtain ⟨rfl, rfl, hx, rfl, hml, hown, hnm, hret, hlk, hZ, hw⟩ := C
  intro T locs X eT N
  obtain ⟨hd, rfl⟩ := hd
  obtain ⟨s₂, o, st, r⟩ := K T locs X eT N
  exact ⟨s₂, o, XS.istoreN X.here hx rfl hd rfl hl st, r⟩
theorem iIstore (C : Cx B l Z a0 R y b mx rt) {k : Nat} {x : Int32} (hd : De b pc (.istore k) 2 n) (hl : storeLocals Ls k (.int x) = some Ls') (K : Go B n0 Q h ce sl n Ls' (S)) : Go B n0 Q h ce sl pc Ls (.int x :: S) := by
  obtain ⟨p, l', e, R', s, m, args, below, meth, c⟩ := B
  obtain ⟨rfl, rfl, hx, rfl, hml, hown, hnm, hret, hlk, hZ, hw⟩ := C
  intro T locs X eT N
  obtain ⟨hd, rfl⟩ := hd
  obtain ⟨s₂, o, st, r⟩ := K T locs X eT N
  exact ⟨s₂, o, XS.istore X.here hx rfl hd rfl hl st, r⟩
theorem iAstoreN (C : Cx B l Z a0 R y b mx rt) {k : Fin 4} {x : Value} (hd : De b pc (.astore_n k) 1 n) (hv : x.isRef = true) (hl : storeLocals Ls k.val x = some Ls') (K : Go B n0 Q h ce sl n Ls' (S)) : Go B n0 Q h ce sl pc Ls (x :: S) := by
  obtain ⟨p, l', e, R', s, m, args, below, meth, c⟩ := B
  obtain ⟨rfl, rfl, hx, rfl, hml, hown, hnm, hret, hlk, hZ, hw⟩ := C
  intro T locs X eT N
  obtain ⟨hd, rfl⟩ := hd
  obtain ⟨s₂, o, st, r⟩ := K T locs X eT N
  exact ⟨s₂, o, XS.astoreN X.here hx rfl hd rfl hv hl st, r⟩
theorem iAstore (C : Cx B l Z a0 R y b mx rt) {k : Nat} {x : Value} (hd : De b pc (.astore k) 2 n) (hv : x.isRef = true) (hl : storeLocals Ls k x = some Ls') (K : Go B n0 Q h ce sl n Ls' (S)) : Go B n0 Q h ce sl pc Ls (x :: S) := by
  obtain ⟨p, l', e, R', s, m, args, below, meth, c⟩ := B
  obtain ⟨rfl, rfl, hx, rfl, hml, hown, hnm, hret, hlk, hZ, hw⟩ := C
  intro T locs X eT N
  obtain ⟨hd, rfl⟩ := hd
  obtain ⟨s₂, o, st, r⟩ := K T locs X eT N
  exact ⟨s₂, o, XS.astore X.here hx rfl hd rfl hv hl st, r⟩
theorem iIinc (C : Cx B l Z a0 R y b mx rt) {k : Nat} {cst : Int} {x v : Int32} (hd : De b pc (.iinc k cst) 3 n) (hl : Ls[k]? = some (.val (.int x))) (hv : x + Int32.ofInt cst = v) (hl' : storeLocals Ls k (.int v) = some Ls') (K : Go B n0 Q h ce sl n Ls' (S)) : Go B n0 Q h ce sl pc Ls (S) := by
  obtain ⟨p, l', e, R', s, m, args, below, meth, c⟩ := B
  obtain ⟨rfl, rfl, hx, rfl, hml, hown, hnm, hret, hlk, hZ, hw⟩ := C
  intro T locs X eT N
  obtain ⟨hd, rfl⟩ := hd
  subst hv
  obtain ⟨s₂, o, st, r⟩ := K T locs X eT N
  exact ⟨s₂, o, XS.iinc X.here hx rfl hd hl hl' st, r⟩
theorem iI2b (C : Cx B l Z a0 R y b mx rt) {x v : Int32} (hd : De b pc (.i2b) 1 n) (hv : x.toInt8.toInt32 = v) (K : Go B n0 Q h ce sl n Ls (.int v :: S)) : Go B n0 Q h ce sl pc Ls (.int x :: S) := by
  obtain ⟨p, l', e, R', s, m, args, below, meth, c⟩ := B
  obtain ⟨rfl, rfl, hx, rfl, hml, hown, hnm, hret, hlk, hZ, hw⟩ := C
  intro T locs X eT N
  obtain ⟨hd, rfl⟩ := hd
  subst hv
  obtain ⟨s₂, o, st, r⟩ := K T locs X eT N
  exact ⟨s₂, o, XT.i2b X.here hx rfl hd rfl st, r⟩
theorem iI2c (C : Cx B l Z a0 R y b mx rt) {x v : Int32} (hd : De b pc (.i2c) 1 n) (hv : x.toUInt32.toUInt16.toUInt32.toInt32 = v) (K : Go B n0 Q h ce sl n Ls (.int v :: S)) : Go B n0 Q h ce sl pc Ls (.int x :: S) := by
  obtain ⟨p, l', e, R', s, m, args, below, meth, c⟩ := B
  obtain ⟨rfl, rfl, hx, rfl, hml, hown, hnm, hret, hlk, hZ, hw⟩ := C
  intro T locs X eT N
  obtain ⟨hd, rfl⟩ := hd
  subst hv
  obtain ⟨s₂, o, st, r⟩ := K T locs X eT N
  exact ⟨s₂, o, XT.i2c X.here hx rfl hd rfl st, r⟩
theorem iIushr (C : Cx B l Z a0 R y b mx rt) {x z v : Int32} (hd : De b pc (.iushr) 1 n) (hv : (x.toUInt32 >>> (z &&& 31).toUInt32).toInt32 = v) (K : Go B n0 Q h ce sl n Ls (.int v :: S)) : Go B n0 Q h ce sl pc Ls (.int z :: .int x :: S) := by
  obtain ⟨p, l', e, R', s, m, args, below, meth, c⟩ := B
  obtain ⟨rfl, rfl, hx, rfl, hml, hown, hnm, hret, hlk, hZ, hw⟩ := C
  intro T locs X eT N
  obtain ⟨hd, rfl⟩ := hd
  subst hv
  obtain ⟨s₂, o, st, r⟩ := K T locs X eT N
  exact ⟨s₂, o, XT.iushr X.here hx rfl hd rfl st, r⟩
theorem iIfF (C : Cx B l Z a0 R y b mx rt) {cd : ClassFile.Cond} {o : Int} {x : Int32} (hd : De b pc (.ifCond cd o) 3 n) (hc : ifCond.holds cd x = false) (K : Go B n0 Q h ce sl n Ls (S)) : Go B n0 Q h ce sl pc Ls (.int x :: S) := by
  obtain ⟨p, l', e, R', s, m, args, below, meth, c⟩ := B
  obtain ⟨rfl, rfl, hx, rfl, hml, hown, hnm, hret, hlk, hZ, hw⟩ := C
  intro T locs X eT N
  obtain ⟨hd, rfl⟩ := hd
  obtain ⟨s₂, o, st, r⟩ := K T locs X eT N
  exact ⟨s₂, o, XS.ifNo X.here hx rfl hd rfl hc st, r⟩
theorem iCmpF (C : Cx B l Z a0 R y b mx rt) {cd : ClassFile.Cond} {o : Int} {x z : Int32} (hd : De b pc (.if_icmp cd o) 3 n) (hc : if_icmp.holds cd x z = false) (K : Go B n0 Q h ce sl n Ls (S)) : Go B n0 Q h ce sl pc Ls (.int z :: .int x :: S) := by
  obtain ⟨p, l', e, R', s, m, args, below, meth, c⟩ := B
  obtain ⟨rfl, rfl, hx, rfl, hml, hown, hnm, hret, hlk, hZ, hw⟩ := C
  intro T locs X eT N
  obtain ⟨hd, rfl⟩ := hd
  obtain ⟨s₂, o, st, r⟩ := K T locs X eT N
  exact ⟨s₂, o, XS.icmpNo X.here hx rfl hd rfl hc st, r⟩
theorem iNullF (C : Cx B l Z a0 R y b mx rt) {o : Int} {a : Addr} (hd : De b pc (.ifnull o) 3 n) (K : Go B n0 Q h ce sl n Ls (S)) : Go B n0 Q h ce sl pc Ls (.ref a :: S) := by
  obtain ⟨p, l', e, R', s, m, args, below, meth, c⟩ := B
  obtain ⟨rfl, rfl, hx, rfl, hml, hown, hnm, hret, hlk, hZ, hw⟩ := C
  intro T locs X eT N
  obtain ⟨hd, rfl⟩ := hd
  obtain ⟨s₂, o, st, r⟩ := K T locs X eT N
  exact ⟨s₂, o, XS.ifnullNo X.here hx rfl hd rfl st, r⟩
theorem iNonnullF (C : Cx B l Z a0 R y b mx rt) {o : Int} (hd : De b pc (.ifnonnull o) 3 n) (K : Go B n0 Q h ce sl n Ls (S)) : Go B n0 Q h ce sl pc Ls (.null :: S) := by
  obtain ⟨p, l', e, R', s, m, args, below, meth, c⟩ := B
  obtain ⟨rfl, rfl, hx, rfl, hml, hown, hnm, hret, hlk, hZ, hw⟩ := C
  intro T locs X eT N
  obtain ⟨hd, rfl⟩ := hd
  obtain ⟨s₂, o, st, r⟩ := K T locs X eT N
  exact ⟨s₂, o, XT.ifnonnullNo X.here hx rfl hd rfl st, r⟩
theorem iAcmpF (C : Cx B l Z a0 R y b mx rt) {cd : ClassFile.ACond} {o : Int} {x z : Value} (hd : De b pc (.if_acmp cd o) 3 n) (hx1 : x.isRef = true) (hz1 : z.isRef = true) (hc : XT.acmp cd x z = false) (K : Go B n0 Q h ce sl n Ls (S)) : Go B n0 Q h ce sl pc Ls (z :: x :: S) := by
  obtain ⟨p, l', e, R', s, m, args, below, meth, c⟩ := B
  obtain ⟨rfl, rfl, hx, rfl, hml, hown, hnm, hret, hlk, hZ, hw⟩ := C
  intro T locs X eT N
  obtain ⟨hd, rfl⟩ := hd
  obtain ⟨s₂, o, st, r⟩ := K T locs X eT N
  exact ⟨s₂, o, XT.acmpNo X.here hx rfl hd rfl hx1 hz1 hc st, r⟩
theorem iGoto (C : Cx B l Z a0 R y b mx rt) {o : Int} {t : Nat} (hd : De b pc (.goto o) 3 n) (hj : 0 ≤ (pc : Int) + o ∧ ((pc : Int) + o).toNat = t) (K : Go B n0 Q h ce sl t Ls (S)) : Go B n0 Q h ce sl pc Ls (S) := by
  obtain ⟨p, l', e, R', s, m, args, below, meth, c⟩ := B
  obtain ⟨rfl, rfl, hx, rfl, hml, hown, hnm, hret, hlk, hZ, hw⟩ := C
  intro T locs X eT N
  obtain ⟨hd, rfl⟩ := hd
  obtain ⟨s₂, oo, st, r⟩ := K T locs X eT N
  exact ⟨s₂, oo, XS.goto X.here hx rfl rfl hd hj.1 hj.2 st, r⟩
theorem iIfT (C : Cx B l Z a0 R y b mx rt) {cd : ClassFile.Cond} {o : Int} {x : Int32} {t : Nat} (hd : De b pc (.ifCond cd o) 3 n) (hc : ifCond.holds cd x = true) (hj : 0 ≤ (pc : Int) + o ∧ ((pc : Int) + o).toNat = t) (K : Go B n0 Q h ce sl t Ls (S)) : Go B n0 Q h ce sl pc Ls (.int x :: S) := by
  obtain ⟨p, l', e, R', s, m, args, below, meth, c⟩ := B
  obtain ⟨rfl, rfl, hx, rfl, hml, hown, hnm, hret, hlk, hZ, hw⟩ := C
  intro T locs X eT N
  obtain ⟨hd, rfl⟩ := hd
  obtain ⟨s₂, oo, st, r⟩ := K T locs X eT N
  exact ⟨s₂, oo, XS.ifYes X.here hx rfl rfl hd rfl hc hj.1 hj.2 st, r⟩
theorem iCmpT (C : Cx B l Z a0 R y b mx rt) {cd : ClassFile.Cond} {o : Int} {x z : Int32} {t : Nat} (hd : De b pc (.if_icmp cd o) 3 n) (hc : if_icmp.holds cd x z = true) (hj : 0 ≤ (pc : Int) + o ∧ ((pc : Int) + o).toNat = t) (K : Go B n0 Q h ce sl t Ls (S)) : Go B n0 Q h ce sl pc Ls (.int z :: .int x :: S) := by
  obtain ⟨p, l', e, R', s, m, args, below, meth, c⟩ := B
  obtain ⟨rfl, rfl, hx, rfl, hml, hown, hnm, hret, hlk, hZ, hw⟩ := C
  intro T locs X eT N
  obtain ⟨hd, rfl⟩ := hd
  obtain ⟨s₂, oo, st, r⟩ := K T locs X eT N
  exact ⟨s₂, oo, XS.icmpYes X.here hx rfl rfl hd rfl hc hj.1 hj.2 st, r⟩
theorem iNullT (C : Cx B l Z a0 R y b mx rt) {o : Int} {t : Nat} (hd : De b pc (.ifnull o) 3 n) (hj : 0 ≤ (pc : Int) + o ∧ ((pc : Int) + o).toNat = t) (K : Go B n0 Q h ce sl t Ls (S)) : Go B n0 Q h ce sl pc Ls (.null :: S) := by
  obtain ⟨p, l', e, R', s, m, args, below, meth, c⟩ := B
  obtain ⟨rfl, rfl, hx, rfl, hml, hown, hnm, hret, hlk, hZ, hw⟩ := C
  intro T locs X eT N
  obtain ⟨hd, rfl⟩ := hd
  obtain ⟨s₂, oo, st, r⟩ := K T locs X eT N
  exact ⟨s₂, oo, XS.ifnullYes X.here hx rfl rfl hd rfl hj.1 hj.2 st, r⟩
theorem iNonnullT (C : Cx B l Z a0 R y b mx rt) {o : Int} {a : Addr} {t : Nat} (hd : De b pc (.ifnonnull o) 3 n) (hj : 0 ≤ (pc : Int) + o ∧ ((pc : Int) + o).toNat = t) (K : Go B n0 Q h ce sl t Ls (S)) : Go B n0 Q h ce sl pc Ls (.ref a :: S) := by
  obtain ⟨p, l', e, R', s, m, args, below, meth, c⟩ := B
  obtain ⟨rfl, rfl, hx, rfl, hml, hown, hnm, hret, hlk, hZ, hw⟩ := C
  intro T locs X eT N
  obtain ⟨hd, rfl⟩ := hd
  obtain ⟨s₂, oo, st, r⟩ := K T locs X eT N
  exact ⟨s₂, oo, XT.ifnonnullYes X.here hx rfl rfl hd rfl hj.1 hj.2 st, r⟩
theorem iAcmpT (C : Cx B l Z a0 R y b mx rt) {cd : ClassFile.ACond} {o : Int} {x z : Value} {t : Nat} (hd : De b pc (.if_acmp cd o) 3 n) (hx1 : x.isRef = true) (hz1 : z.isRef = true) (hc : XT.acmp cd x z = true) (hj : 0 ≤ (pc : Int) + o ∧ ((pc : Int) + o).toNat = t) (K : Go B n0 Q h ce sl t Ls (S)) : Go B n0 Q h ce sl pc Ls (z :: x :: S) := by
  obtain ⟨p, l', e, R', s, m, args, below, meth, c⟩ := B
  obtain ⟨rfl, rfl, hx, rfl, hml, hown, hnm, hret, hlk, hZ, hw⟩ := C
  intro T locs X eT N
  obtain ⟨hd, rfl⟩ := hd
  obtain ⟨s₂, oo, st, r⟩ := K T locs X eT N
  exact ⟨s₂, oo, XT.acmpYes X.here hx rfl rfl hd rfl hx1 hz1 hc hj.1 hj.2 st, r⟩
theorem iLdcI (C : Cx B l Z a0 R y b mx rt) {i : Nat} {v : Int32} (w : Jvm.Cond.constant y.cls i v ∈ tables_1) (hd : De b pc (.ldc i) 2 n) (K : Go B n0 Q h ce sl n Ls (.int v :: S)) : Go B n0 Q h ce sl pc Ls S := by
  obtain ⟨p, l', e, R', s, m, args, below, meth, c⟩ := B
  obtain ⟨rfl, rfl, hx, rfl, hml, hown, hnm, hret, hlk, hZ, hw⟩ := C
  intro T locs X eT N
  obtain ⟨hd, rfl⟩ := hd
  obtain ⟨s₂, o, st, r⟩ := K T locs X eT N
  exact ⟨s₂, o, X.ldcInt hx hown (mvT hZ (hw _ w)) (g := mkF m pc Ls S) rfl hd _ st, r⟩
theorem iGetS (C : Cx B l Z a0 R y b mx rt) {i : Nat} {O f d : String} {v : Value} (w : Jvm.Cond.fieldLink y.cls i O f d ∈ tables_1) (F : Sta Z h O f d v) (hd : De b pc (.getstatic i) 3 n) (K : Go B n0 Q h ce sl n Ls (v :: S)) : Go B n0 Q h ce sl pc Ls S := by
  obtain ⟨p, l', e, R', s, m, args, below, meth, c⟩ := B
  obtain ⟨rfl, rfl, hx, rfl, hml, hown, hnm, hret, hlk, hZ, hw⟩ := C
  intro T locs X eT N
  obtain ⟨hd, rfl⟩ := hd
  obtain ⟨T', X', e', st⟩ := getS X hx hZ (host := "") hown (hw _ w) Via.refl eT F (g := mkF m pc Ls S) rfl hd
  obtain ⟨s₂, o, st', r⟩ := K T' locs X' e' N
  exact ⟨s₂, o, st _ st', r⟩
theorem iGetF (C : Cx B l Z a0 R y b mx rt) {i : Nat} {O f d : String} {a : Addr} {v : Value} (w : Jvm.Cond.fieldLink y.cls i O f d ∈ tables_1) (F : Fld Z h a O f d v) (hd : De b pc (.getfield i) 3 n) (K : Go B n0 Q h ce sl n Ls (v :: S)) : Go B n0 Q h ce sl pc Ls (.ref a :: S) := by
  obtain ⟨p, l', e, R', s, m, args, below, meth, c⟩ := B
  obtain ⟨rfl, rfl, hx, rfl, hml, hown, hnm, hret, hlk, hZ, hw⟩ := C
  intro T locs X eT N
  obtain ⟨hd, rfl⟩ := hd
  obtain ⟨T', X', e', st⟩ := getF X hx hZ hown (host := "") (Or.inl (hw _ w)) Via.refl eT F (g := mkF m pc Ls (.ref a :: S)) rfl rfl hd
  obtain ⟨s₂, o, st', r⟩ := K T' locs X' e' N
  exact ⟨s₂, o, st _ st', r⟩
theorem iPutF (C : Cx B l Z a0 R y b mx rt) {i kk : Nat} {O f d CC : String} {a : Addr} {v old : Value} {ty : FieldType} (w : Jvm.Cond.fieldLink y.cls i O f d ∈ tables_1) (F : Fld Z h a O f d old) (E : Exa Z h a CC) (L : Jvm.Cond.lays CC O f d ∈ tables_1 ∨ (Jvm.Cond.laysFinal CC O f d ∈ tables_1 ∧ y.cls = O ∧ y.name = "<init>")) (wi : Jvm.Cond.instantiable CC kk ∈ tables_1) (hty : parseFieldDescriptor d = some ty) (hn : narrow ty v = v) (hf : fits ty v = true) (ha : n0 ≤ a) (hd : De b pc (.putfield i) 3 n) (K : ∀ h', Wr h h' a (Jvm.RoadKit.slotOf Z O f d) v → Go B n0 Q h' ce sl n Ls S) : Go B n0 Q h ce sl pc Ls (v :: .ref a :: S) := by
  obtain ⟨p, l', e, R', s, m, args, below, meth, c⟩ := B
  obtain ⟨rfl, rfl, hx, rfl, hml, hown, hnm, hret, hlk, hZ, hw⟩ := C
  intro T locs X eT N
  obtain ⟨hd, rfl⟩ := hd
  obtain ⟨T', h', X', e', W, st⟩ := putF X hx hZ hown (host := "") (Or.inl (hw _ w)) Via.refl eT F E (L.imp (fun q => hw _ q) fun q => ⟨hw _ q.1, q.2.1, hnm.trans q.2.2⟩) (hw _ wi) hty hn hf (g := mkF m pc Ls (v :: .ref a :: S)) rfl rfl hd
  obtain ⟨s₂, o, st', r⟩ := K h' W T' _ X' e' (Fr.snoc X' N ha)
  exact ⟨s₂, o, st _ st', r⟩
theorem iNew (C : Cx B l Z a0 R y b mx rt) {i kk ce' sl' : Nat} {CC : String} (w1 : Jvm.Cond.classLink y.cls i CC ∈ tables_1) (w2 : Jvm.Cond.instantiable CC kk ∈ tables_1) (w3 : Jvm.Cond.initialized CC ∈ tables_1) (hd : De b pc (.new i) 3 n) (hc : ce + 1 = ce' ∧ sl + kk = sl' ∧ ce' ≤ R.cells ∧ sl' ≤ R.slots) (K : ∀ (h' : Heap) (a : Addr), a = h.size → Ext h h' → Exa Z h' a CC → (∀ {O nm d : String} {ty : FieldType}, Laid Z a0 CC O nm d → parseFieldDescriptor d = some ty → Fld Z h' a O nm d (defaultValue ty)) → Go B n0 Q h' ce' sl' n Ls (.ref a :: S)) : Go B n0 Q h ce sl pc Ls S := by
  obtain ⟨p, l', e, R', s, m, args, below, meth, c⟩ := B
  obtain ⟨rfl, rfl, hx, rfl, hml, hown, hnm, hret, hlk, hZ, hw⟩ := C
  intro T locs X eT N
  obtain ⟨hd, rfl⟩ := hd
  obtain ⟨rfl, rfl, hc, hs⟩ := hc
  obtain ⟨T', h', X', e', E, A, D, -, st⟩ := newO X hx hZ hown (hw _ w1) (hw _ w2) (hw _ w3) eT (g := mkF m pc Ls S) rfl hd hc hs
  obtain ⟨s₂, o, st', r⟩ := K h' _ rfl E A D T' locs X' e' N
  exact ⟨s₂, o, st _ st', r⟩
theorem iInitO (C : Cx B l Z a0 R y b mx rt) {i W : Nat} {a : Addr} (w1 : Jvm.Cond.methodLink y.cls i Lib.objectInit ∈ tables_1) (w2 : Jvm.Cond.instanceMethod Lib.objectInit ∈ tables_1) (w3 : Jvm.Cond.code Lib.objectInit ⟨#[0xb1]⟩ 1 none ∈ tables_1) (hd : De b pc (.invokespecial i) 3 n) (hsz : Ls.size = mx) (hf : 1 ≤ R.frames) (hW : (S.map fun v => v.category).sum = W) (hl : W + 12 ≤ R.locals) (K : Go B n0 Q h ce sl n Ls S) : Go B n0 Q h ce sl pc Ls (.ref a :: S) := by
  obtain ⟨p, l', e, R', s, m, args, below, meth, c⟩ := B
  obtain ⟨rfl, rfl, hx, rfl, hml, hown, hnm, hret, hlk, hZ, hw⟩ := C
  intro T locs X eT N
  obtain ⟨hd, rfl⟩ := hd
  obtain ⟨T', X', e', st⟩ := initO X hx hZ hown (hw _ w1) (hw _ w2) (hw _ w3) eT (g := mkF m pc Ls (.ref a :: S)) rfl (by rw [hml]; exact hsz) rfl hd hf (W := W) (by show 2 * 0 + _ ≤ _; omega) hl
  obtain ⟨s₂, o, st', r⟩ := K T' locs X' e' N
  exact ⟨s₂, o, st _ st', r⟩
def Pay (l : Launch) (Z : State) (R : Room) (yc : MethodName) (len W : Nat) (as' : Array Value) (n0 : Nat) (h : Heap) (cc ss : Nat) (Qc : Option Value → Heap → Prop) : Prop :=
  ∀ (p : Program) (e : Env) (below : List Frame) (s : State) (args : Array Value), Z.Warmed39 s.vm → Back l R p e below s args yc len W (fun A a => a = as' ∧ A.U.heap = h ∧ A.cells + cc ≤ R.cells ∧ A.slots + ss ≤ R.slots) (fun A _ v B => ∃ L, QQ n0 Qc v B.U.heap L ∧ B.locs = A.locs ++ L ∧ B.cells = A.cells + cc ∧ B.slots = A.slots + ss)
theorem Pay.of {yc : MethodName} {cb : ByteArray} {cm len W : Nat} {cr : Option FieldType} {rm : Room} {as' : Array Value} {Qc : Option Value → Heap → Prop} (hM : Pays l Z yc cb cm cr rm as' n0 h Qc) (hw : ∀ d ∈ tables_1, d.before a0 Z = true) (w4 : Jvm.Cond.code yc cb cm cr ∈ tables_1) (w3 : Jvm.Cond.initialized yc.cls ∈ tables_1) (hr1 : rm.frames + 1 ≤ R.frames) (hr2 : W + (cm + 11) + rm.locals ≤ R.locals) : Pay l Z R yc len W as' n0 h rm.cells rm.slots Qc :=
  fun p e below s args hZ => backOf (W := W) (hM []) hZ (hw _ w4) (hw _ w3) hr1 hr2
theorem Cx.words (C : Cx B l Z a0 R y b mx rt) : ∀ d ∈ tables_1, d.before a0 Z = true := by
  obtain ⟨p, l', e, R', s, m, args, below, meth, c⟩ := B
  obtain ⟨rfl, rfl, hx, rfl, hml, hown, hnm, hret, hlk, hZ, hw⟩ := C
  exact hw
theorem iCallSB (C : Cx B l Z a0 R y b mx rt) {yc : MethodName} {as' : Array Value} {Qc : Option Value → Heap → Prop} {i W cc ss ce' sl' : Nat} {argsL : List Value} {cbx : ByteArray} {cmx : Nat} {crx : Option FieldType} (hM : Pay l Z R yc 3 W as' n0 h cc ss Qc) (w1 : Jvm.Cond.methodLink y.cls i yc ∈ tables_1) (w2 : Jvm.Cond.static yc ∈ tables_1) (w3 : Jvm.Cond.initialized yc.cls ∈ tables_1) (w4 : Jvm.Cond.code yc cbx cmx crx ∈ tables_1) (hy : yc.cls ≠ "java/lang/invoke/MethodHandle" ∧ yc.cls ≠ "java/lang/invoke/VarHandle") (hlen : ∀ sig, parseMethodDescriptor yc.desc = some sig → argsL.length = sig.parameters.length) (hS : S = argsL.reverse ++ S') (has : argsL.toArray = as') (hd : De b pc (.invokestatic i) 3 n) (hsz : Ls.size = mx) (hW : (S'.map fun v => v.category).sum = W) (hr : ce + cc = ce' ∧ sl + ss = sl' ∧ ce' ≤ R.cells ∧ sl' ≤ R.slots) (K : ∀ (v : Option Value) (h' : Heap), Qc v h' → Go B n0 Q h' ce' sl' n Ls (v.toList ++ S')) : Go B n0 Q h ce sl pc Ls S := by
  obtain ⟨p, l', e, R', s, m, args, below, meth, c⟩ := B
  obtain ⟨rfl, rfl, hx, rfl, hml, hown, hnm, hret, hlk, hZ, hw⟩ := C
  intro T locs X eT N
  obtain ⟨hd, rfl⟩ := hd
  obtain ⟨rfl, rfl, hr3, hr4⟩ := hr
  subst hS has
  obtain ⟨v, vm₁, ⟨T', L', k', n'⟩, -, X', ⟨Lc, hQ, l', y', z'⟩, st⟩ := Jvm.LawKit.callS X hx (y := yc) hown (mvT hZ (hw _ w1)) (mvT hZ (hw _ w2)) (mvT hZ (hw _ w3)) (mvT hZ (hw _ w4)) hy (hM p e below s args hZ) (g := mkF m pc Ls (argsL.reverse ++ S')) rfl (by rw [hml]; exact hsz) (argsL := argsL) (rest := S') hlen rfl (by show 2 * 0 + _ ≤ _; omega) hd (fun _ _ => ⟨rfl, eT, hr3, hr4⟩)
  dsimp only [Pt.U, Pt.locs, Pt.cells, Pt.slots] at X' l' y' z' st hQ
  subst l' y' z'
  obtain ⟨s₂, o, st', r⟩ := K v _ hQ.1 T' _ X' rfl (Fr.app N hQ.2)
  exact ⟨s₂, o, st _ st', r⟩
theorem iCallS (C : Cx B l Z a0 R y b mx rt) {yc : MethodName} {cb : ByteArray} {cm : Nat} {cr : Option FieldType} {rm : Room} {as' : Array Value} {Qc : Option Value → Heap → Prop} {i W ce' sl' : Nat} {argsL : List Value} (hM : Pays l Z yc cb cm cr rm as' n0 h Qc) (w1 : Jvm.Cond.methodLink y.cls i yc ∈ tables_1) (w2 : Jvm.Cond.static yc ∈ tables_1) (w3 : Jvm.Cond.initialized yc.cls ∈ tables_1) (w4 : Jvm.Cond.code yc cb cm cr ∈ tables_1) (hy : yc.cls ≠ "java/lang/invoke/MethodHandle" ∧ yc.cls ≠ "java/lang/invoke/VarHandle") (hlen : ∀ sig, parseMethodDescriptor yc.desc = some sig → argsL.length = sig.parameters.length) (hS : S = argsL.reverse ++ S') (has : argsL.toArray = as') (hd : De b pc (.invokestatic i) 3 n) (hsz : Ls.size = mx) (hW : (S'.map fun v => v.category).sum = W) (hr : rm.frames + 1 ≤ R.frames ∧ W + (cm + 11) + rm.locals ≤ R.locals ∧ ce + rm.cells = ce' ∧ sl + rm.slots = sl' ∧ ce' ≤ R.cells ∧ sl' ≤ R.slots) (K : ∀ (v : Option Value) (h' : Heap), Qc v h' → Go B n0 Q h' ce' sl' n Ls (v.toList ++ S')) : Go B n0 Q h ce sl pc Ls S :=
  iCallSB C (Pay.of hM C.words w4 w3 hr.1 hr.2.1) w1 w2 w3 w4 hy hlen hS has hd hsz hW hr.2.2 K
theorem iCallIB (C : Cx B l Z a0 R y b mx rt) {yc : MethodName} {as' : Array Value} {Qc : Option Value → Heap → Prop} {i W cc ss ce' sl' : Nat} {argsL : List Value} {a : Addr} {cbx : ByteArray} {cmx : Nat} (hM : Pay l Z R yc 3 W as' n0 h cc ss Qc) (hi : yc.name = "<init>") (w1 : Jvm.Cond.methodLink y.cls i yc ∈ tables_1) (w2 : Jvm.Cond.instanceMethod yc ∈ tables_1) (w4 : Jvm.Cond.code yc cbx cmx none ∈ tables_1) (hy : yc.cls ≠ "java/lang/invoke/MethodHandle" ∧ yc.cls ≠ "java/lang/invoke/VarHandle") (hlen : ∀ sig, parseMethodDescriptor yc.desc = some sig → argsL.length = sig.parameters.length) (hS : S = argsL.reverse ++ .ref a :: S') (has : (.ref a :: argsL).toArray = as') (hd : De b pc (.invokespecial i) 3 n) (hsz : Ls.size = mx) (hW : (S'.map fun v => v.category).sum = W) (hr : ce + cc = ce' ∧ sl + ss = sl' ∧ ce' ≤ R.cells ∧ sl' ≤ R.slots) (K : ∀ (v : Option Value) (h' : Heap), Qc v h' → Go B n0 Q h' ce' sl' n Ls (v.toList ++ S')) : Go B n0 Q h ce sl pc Ls S := by
  obtain ⟨p, l', e, R', s, m, args, below, meth, c⟩ := B
  obtain ⟨rfl, rfl, hx, rfl, hml, hown, hnm, hret, hlk, hZ, hw⟩ := C
  intro T locs X eT N
  obtain ⟨hd, rfl⟩ := hd
  obtain ⟨rfl, rfl, hr3, hr4⟩ := hr
  subst hS has
  obtain ⟨v, vm₁, ⟨T', L', k', n'⟩, -, X', ⟨Lc, hQ, l', y', z'⟩, st⟩ := X.specialBack hx (y := yc) hi hown (mvT hZ (hw _ w1)) (mvT hZ (hw _ w2)) (mvT hZ (hw _ w4)) hy (hM p e below s args hZ) (g := mkF m pc Ls (argsL.reverse ++ .ref a :: S')) rfl (by rw [hml]; exact hsz) (Steps.refl _) (a := a) (argsL := argsL) (rest := S') hlen rfl (by show 2 * 0 + _ ≤ _; omega) hd (fun _ _ => ⟨rfl, eT, hr3, hr4⟩)
  dsimp only [Pt.U, Pt.locs, Pt.cells, Pt.slots] at X' l' y' z' st hQ
  subst l' y' z'
  obtain ⟨s₂, o, st', r⟩ := K v _ hQ.1 T' _ X' rfl (Fr.app N hQ.2)
  exact ⟨s₂, o, st.trans st', r⟩
theorem iCallI (C : Cx B l Z a0 R y b mx rt) {yc : MethodName} {cb : ByteArray} {cm : Nat} {rm : Room} {as' : Array Value} {Qc : Option Value → Heap → Prop} {i W ce' sl' : Nat} {argsL : List Value} {a : Addr} (hM : Pays l Z yc cb cm none rm as' n0 h Qc) (hi : yc.name = "<init>") (w1 : Jvm.Cond.methodLink y.cls i yc ∈ tables_1) (w2 : Jvm.Cond.instanceMethod yc ∈ tables_1) (w3 : Jvm.Cond.initialized yc.cls ∈ tables_1) (w4 : Jvm.Cond.code yc cb cm none ∈ tables_1) (hy : yc.cls ≠ "java/lang/invoke/MethodHandle" ∧ yc.cls ≠ "java/lang/invoke/VarHandle") (hlen : ∀ sig, parseMethodDescriptor yc.desc = some sig → argsL.length = sig.parameters.length) (hS : S = argsL.reverse ++ .ref a :: S') (has : (.ref a :: argsL).toArray = as') (hd : De b pc (.invokespecial i) 3 n) (hsz : Ls.size = mx) (hW : (S'.map fun v => v.category).sum = W) (hr : rm.frames + 1 ≤ R.frames ∧ W + (cm + 11) + rm.locals ≤ R.locals ∧ ce + rm.cells = ce' ∧ sl + rm.slots = sl' ∧ ce' ≤ R.cells ∧ sl' ≤ R.slots) (K : ∀ (v : Option Value) (h' : Heap), Qc v h' → Go B n0 Q h' ce' sl' n Ls (v.toList ++ S')) : Go B n0 Q h ce sl pc Ls S :=
  iCallIB C (Pay.of hM C.words w4 w3 hr.1 hr.2.1) hi w1 w2 w4 hy hlen hS has hd hsz hW hr.2.2 K
theorem iCallVB (C : Cx B l Z a0 R y b mx rt) {yc : MethodName} {as' : Array Value} {Qc : Option Value → Heap → Prop} {i W cc ss ce' sl' : Nat} {argsL : List Value} {a : Addr} {CC : String} {yd : MethodName} (hM : Pay l Z R yc 3 W as' n0 h cc ss Qc) (E : Exa Z h a CC) (w1 : Jvm.Cond.methodLink y.cls i yd ∈ tables_1) (w2 : Jvm.Cond.declares yd ∈ tables_1) (wn : yd = yc ∨ ∃ SS, Jvm.Cond.superclass yd.cls SS ∈ tables_1) (w5 : Jvm.Cond.selects CC yd yc ∈ tables_1) (w6 : Jvm.Cond.instanceMethod yc ∈ tables_1) (hy : yd.cls ≠ "java/lang/invoke/MethodHandle" ∧ yd.cls ≠ "java/lang/invoke/VarHandle") (hlen : ∀ sig, parseMethodDescriptor yd.desc = some sig → argsL.length = sig.parameters.length) (hS : S = argsL.reverse ++ .ref a :: S') (has : (.ref a :: argsL).toArray = as') (hd : De b pc (.invokevirtual i) 3 n) (hsz : Ls.size = mx) (hW : (S'.map fun v => v.category).sum = W) (hr : ce + cc = ce' ∧ sl + ss = sl' ∧ ce' ≤ R.cells ∧ sl' ≤ R.slots) (K : ∀ (v : Option Value) (h' : Heap), Qc v h' → Go B n0 Q h' ce' sl' n Ls (v.toList ++ S')) : Go B n0 Q h ce sl pc Ls S := by
  obtain ⟨p, l', e, R', s, m, args, below, meth, c⟩ := B
  obtain ⟨rfl, rfl, hx, rfl, hml, hown, hnm, hret, hlk, hZ, hw⟩ := C
  intro T locs X eT N
  obtain ⟨hd, rfl⟩ := hd
  obtain ⟨rfl, rfl, hr3, hr4⟩ := hr
  subst hS has
  obtain ⟨cq, kq, q1, q2, q3⟩ := isOf hZ eT E
  have nf : NotFace s yd := by
    rcases wn with rfl | ⟨SS, wn⟩
    · exact notFace_of_selects (args := #[]) (mvT hZ (hw _ w5))
    · exact nf_super (args := #[]) (mvT hZ (hw _ wn))
  obtain ⟨v, vm₁, ⟨T', L', k', n'⟩, -, X', ⟨Lc, hQ, l', y', z'⟩, st⟩ := X.virtualBack hx (y := yd) (z := yc) hown (mvT hZ (hw _ w1)) (mvT hZ (hw _ w2)) nf (mvT hZ (hw _ w5)) (mvT hZ (hw _ w6)) hy (hM p e below s args hZ) q1 q3 (g := mkF m pc Ls (argsL.reverse ++ .ref a :: S')) rfl (by rw [hml]; exact hsz) (Steps.refl _) (argsL := argsL) (rest := S') hlen rfl (by show 2 * 0 + _ ≤ _; omega) hd (fun _ _ => ⟨rfl, eT, hr3, hr4⟩)
  dsimp only [Pt.U, Pt.locs, Pt.cells, Pt.slots] at X' l' y' z' st hQ
  subst l' y' z'
  obtain ⟨s₂, o, st', r⟩ := K v _ hQ.1 T' _ X' rfl (Fr.app N hQ.2)
  exact ⟨s₂, o, st.trans st', r⟩
theorem iCallV (C : Cx B l Z a0 R y b mx rt) {yc : MethodName} {cb : ByteArray} {cm : Nat} {cr : Option FieldType} {rm : Room} {as' : Array Value} {Qc : Option Value → Heap → Prop} {i W ce' sl' : Nat} {argsL : List Value} {a : Addr} {CC : String} {yd : MethodName} (hM : Pays l Z yc cb cm cr rm as' n0 h Qc) (E : Exa Z h a CC) (w1 : Jvm.Cond.methodLink y.cls i yd ∈ tables_1) (w2 : Jvm.Cond.declares yd ∈ tables_1) (wn : yd = yc ∨ ∃ SS, Jvm.Cond.superclass yd.cls SS ∈ tables_1) (w5 : Jvm.Cond.selects CC yd yc ∈ tables_1) (w6 : Jvm.Cond.instanceMethod yc ∈ tables_1) (w3 : Jvm.Cond.initialized yc.cls ∈ tables_1) (w4 : Jvm.Cond.code yc cb cm cr ∈ tables_1) (hy : yd.cls ≠ "java/lang/invoke/MethodHandle" ∧ yd.cls ≠ "java/lang/invoke/VarHandle") (hlen : ∀ sig, parseMethodDescriptor yd.desc = some sig → argsL.length = sig.parameters.length) (hS : S = argsL.reverse ++ .ref a :: S') (has : (.ref a :: argsL).toArray = as') (hd : De b pc (.invokevirtual i) 3 n) (hsz : Ls.size = mx) (hW : (S'.map fun v => v.category).sum = W) (hr : rm.frames + 1 ≤ R.frames ∧ W + (cm + 11) + rm.locals ≤ R.locals ∧ ce + rm.cells = ce' ∧ sl + rm.slots = sl' ∧ ce' ≤ R.cells ∧ sl' ≤ R.slots) (K : ∀ (v : Option Value) (h' : Heap), Qc v h' → Go B n0 Q h' ce' sl' n Ls (v.toList ++ S')) : Go B n0 Q h ce sl pc Ls S :=
  iCallVB C (Pay.of hM C.words w4 w3 hr.1 hr.2.1) E w1 w2 wn w5 w6 hy hlen hS has hd hsz hW hr.2.2 K
theorem iCallFB (C : Cx B l Z a0 R y b mx rt) {yc : MethodName} {as' : Array Value} {Qc : Option Value → Heap → Prop} {i W cc ss ce' sl' : Nat} {argsL : List Value} {a : Addr} {CC : String} {yd : MethodName} {cnt : Nat} (hM : Pay l Z R yc 5 W as' n0 h cc ss Qc) (E : Exa Z h a CC) (w1 : Jvm.Cond.methodLink y.cls i yd ∈ tables_1) (w2 : Jvm.Cond.declares yd ∈ tables_1) (w7 : Jvm.Cond.interfaceMethod yd.cls yd.cls yd.name yd.desc ∈ tables_1) (h7 : ((Jvm.Cond.interfaceMethod yd.cls yd.cls yd.name yd.desc).onTables && (Jvm.Cond.interfaceMethod yd.cls yd.cls yd.name yd.desc).keepsFace) = true) (w5 : Jvm.Cond.selects CC yd yc ∈ tables_1) (w6 : Jvm.Cond.instanceMethod yc ∈ tables_1) (w8 : Jvm.Cond.publicMethod yc ∈ tables_1) (w9 : Jvm.Cond.unhidden CC yd.name yd.desc ∈ tables_1) (w0 : Jvm.Cond.castable CC yd.cls ∈ tables_1) (hy : yd.cls ≠ "java/lang/invoke/MethodHandle" ∧ yd.cls ≠ "java/lang/invoke/VarHandle") (hlen : ∀ sig, parseMethodDescriptor yd.desc = some sig → argsL.length = sig.parameters.length) (hS : S = argsL.reverse ++ .ref a :: S') (has : (.ref a :: argsL).toArray = as') (hd : De b pc (.invokeinterface i cnt) 5 n) (hsz : Ls.size = mx) (hW : (S'.map fun v => v.category).sum = W) (hr : ce + cc = ce' ∧ sl + ss = sl' ∧ ce' ≤ R.cells ∧ sl' ≤ R.slots) (K : ∀ (v : Option Value) (h' : Heap), Qc v h' → Go B n0 Q h' ce' sl' n Ls (v.toList ++ S')) : Go B n0 Q h ce sl pc Ls S := by
  obtain ⟨p, l', e, R', s, m, args, below, meth, c⟩ := B
  obtain ⟨rfl, rfl, hx, rfl, hml, hown, hnm, hret, hlk, hZ, hw⟩ := C
  intro T locs X eT N
  obtain ⟨hd, rfl⟩ := hd
  obtain ⟨rfl, rfl, hr3, hr4⟩ := hr
  subst hS has
  obtain ⟨cq, kq, q1, q2, q3⟩ := isOf hZ eT E
  obtain ⟨v, vm₁, ⟨T', L', k', n'⟩, -, X', ⟨Lc, hQ, l', y', z'⟩, st⟩ := X.interfaceBack hx (xi := yd) (y := yc) hown (mvT hZ (hw _ w1)) (mvT hZ (hw _ w2)) (mvT hZ (hw _ w7) h7) (mvT hZ (hw _ w5)) (mvT hZ (hw _ w6)) (mvT hZ (hw _ w8)) (mvT hZ (hw _ w9)) (mvT hZ (hw _ w0)) hy (hM p e below s args hZ) q1 q2 q3 (g := mkF m pc Ls (argsL.reverse ++ .ref a :: S')) rfl (by rw [hml]; exact hsz) (Steps.refl _) (argsL := argsL) (rest := S') hlen rfl (by show 2 * 0 + _ ≤ _; omega) hd (fun _ _ => ⟨rfl, eT, hr3, hr4⟩)
  dsimp only [Pt.U, Pt.locs, Pt.cells, Pt.slots] at X' l' y' z' st hQ
  subst l' y' z'
  obtain ⟨s₂, o, st', r⟩ := K v _ hQ.1 T' _ X' rfl (Fr.app N hQ.2)
  exact ⟨s₂, o, st.trans st', r⟩
theorem iCallF (C : Cx B l Z a0 R y b mx rt) {yc : MethodName} {cb : ByteArray} {cm : Nat} {cr : Option FieldType} {rm : Room} {as' : Array Value} {Qc : Option Value → Heap → Prop} {i W ce' sl' : Nat} {argsL : List Value} {a : Addr} {CC : String} {yd : MethodName} {cnt : Nat} (hM : Pays l Z yc cb cm cr rm as' n0 h Qc) (E : Exa Z h a CC) (w1 : Jvm.Cond.methodLink y.cls i yd ∈ tables_1) (w2 : Jvm.Cond.declares yd ∈ tables_1) (w7 : Jvm.Cond.interfaceMethod yd.cls yd.cls yd.name yd.desc ∈ tables_1) (h7 : ((Jvm.Cond.interfaceMethod yd.cls yd.cls yd.name yd.desc).onTables && (Jvm.Cond.interfaceMethod yd.cls yd.cls yd.name yd.desc).keepsFace) = true) (w5 : Jvm.Cond.selects CC yd yc ∈ tables_1) (w6 : Jvm.Cond.instanceMethod yc ∈ tables_1) (w8 : Jvm.Cond.publicMethod yc ∈ tables_1) (w9 : Jvm.Cond.unhidden CC yd.name yd.desc ∈ tables_1) (w0 : Jvm.Cond.castable CC yd.cls ∈ tables_1) (w3 : Jvm.Cond.initialized yc.cls ∈ tables_1) (w4 : Jvm.Cond.code yc cb cm cr ∈ tables_1) (hy : yd.cls ≠ "java/lang/invoke/MethodHandle" ∧ yd.cls ≠ "java/lang/invoke/VarHandle") (hlen : ∀ sig, parseMethodDescriptor yd.desc = some sig → argsL.length = sig.parameters.length) (hS : S = argsL.reverse ++ .ref a :: S') (has : (.ref a :: argsL).toArray = as') (hd : De b pc (.invokeinterface i cnt) 5 n) (hsz : Ls.size = mx) (hW : (S'.map fun v => v.category).sum = W) (hr : rm.frames + 1 ≤ R.frames ∧ W + (cm + 11) + rm.locals ≤ R.locals ∧ ce + rm.cells = ce' ∧ sl + rm.slots = sl' ∧ ce' ≤ R.cells ∧ sl' ≤ R.slots) (K : ∀ (v : Option Value) (h' : Heap), Qc v h' → Go B n0 Q h' ce' sl' n Ls (v.toList ++ S')) : Go B n0 Q h ce sl pc Ls S :=
  iCallFB C (Pay.of hM C.words w4 w3 hr.1 hr.2.1) E w1 w2 w7 h7 w5 w6 w8 w9 w0 hy hlen hS has hd hsz hW hr.2.2 K
theorem iLen (C : Cx B l Z a0 R y b mx rt) {a : Addr} {cl : Cell} {ty : FieldType} {z : Int32} (A : Arr Z h a cl ty) (hz : cl.slots.size.toInt32 = z) (hd : De b pc (.arraylength) 1 n) (K : Go B n0 Q h ce sl n Ls (.int z :: S)) : Go B n0 Q h ce sl pc Ls (.ref a :: S) := by
  obtain ⟨p, l', e, R', s, m, args, below, meth, c⟩ := B
  obtain ⟨rfl, rfl, hx, rfl, hml, hown, hnm, hret, hlk, hZ, hw⟩ := C
  intro T locs X eT N
  obtain ⟨hd, rfl⟩ := hd
  subst hz
  obtain ⟨s₂, o, st, r⟩ := K T locs X eT N
  exact ⟨s₂, o, X.arraylength hx (by rw [eT]; exact A.1) (State.isArrayOf_alike hZ.alike A.2.1) (g := mkF m pc Ls (.ref a :: S)) rfl rfl hd _ st, r⟩
theorem iIaload (C : Cx B l Z a0 R y b mx rt) {a : Addr} {cl : Cell} {j : Int32} {v : Value} (A : Arr Z h a cl .int) (hj : ¬ (j < 0 ∨ cl.slots.size ≤ j.toNatClampNeg)) (hv : cl.slots[j.toNatClampNeg]? = some v) (hd : De b pc (.iaload) 1 n) (K : Go B n0 Q h ce sl n Ls (v :: S)) : Go B n0 Q h ce sl pc Ls (.int j :: .ref a :: S) := by
  obtain ⟨p, l', e, R', s, m, args, below, meth, c⟩ := B
  obtain ⟨rfl, rfl, hx, rfl, hml, hown, hnm, hret, hlk, hZ, hw⟩ := C
  intro T locs X eT N
  obtain ⟨hd, rfl⟩ := hd
  obtain ⟨s₂, o, st, r⟩ := K T locs X eT N
  exact ⟨s₂, o, X.iaload hx (by rw [eT]; exact A.1) (State.isArrayOf_alike hZ.alike A.2.1) A.2.2 hj hv (g := mkF m pc Ls (.int j :: .ref a :: S)) rfl rfl hd _ st, r⟩
theorem iCaload (C : Cx B l Z a0 R y b mx rt) {a : Addr} {cl : Cell} {j : Int32} {v : Value} (A : Arr Z h a cl .char) (hj : ¬ (j < 0 ∨ cl.slots.size ≤ j.toNatClampNeg)) (hv : cl.slots[j.toNatClampNeg]? = some v) (hd : De b pc (.caload) 1 n) (K : Go B n0 Q h ce sl n Ls (v :: S)) : Go B n0 Q h ce sl pc Ls (.int j :: .ref a :: S) := by
  obtain ⟨p, l', e, R', s, m, args, below, meth, c⟩ := B
  obtain ⟨rfl, rfl, hx, rfl, hml, hown, hnm, hret, hlk, hZ, hw⟩ := C
  intro T locs X eT N
  obtain ⟨hd, rfl⟩ := hd
  obtain ⟨s₂, o, st, r⟩ := K T locs X eT N
  exact ⟨s₂, o, X.caload hx (by rw [eT]; exact A.1) (State.isArrayOf_alike hZ.alike A.2.1) A.2.2 hj hv (g := mkF m pc Ls (.int j :: .ref a :: S)) rfl rfl hd _ st, r⟩
theorem iBaload (C : Cx B l Z a0 R y b mx rt) {a : Addr} {cl : Cell} {j : Int32} {v : Value} (A : Arr Z h a cl .byte) (hj : ¬ (j < 0 ∨ cl.slots.size ≤ j.toNatClampNeg)) (hv : cl.slots[j.toNatClampNeg]? = some v) (hd : De b pc (.baload) 1 n) (K : Go B n0 Q h ce sl n Ls (v :: S)) : Go B n0 Q h ce sl pc Ls (.int j :: .ref a :: S) := by
  obtain ⟨p, l', e, R', s, m, args, below, meth, c⟩ := B
  obtain ⟨rfl, rfl, hx, rfl, hml, hown, hnm, hret, hlk, hZ, hw⟩ := C
  intro T locs X eT N
  obtain ⟨hd, rfl⟩ := hd
  obtain ⟨s₂, o, st, r⟩ := K T locs X eT N
  exact ⟨s₂, o, X.baloadBytes hx (by rw [eT]; exact A.1) (State.isArrayOf_alike hZ.alike A.2.1) A.2.2 hj hv (g := mkF m pc Ls (.int j :: .ref a :: S)) rfl rfl hd _ st, r⟩
theorem iLaload (C : Cx B l Z a0 R y b mx rt) {a : Addr} {cl : Cell} {j : Int32} {v : Value} (A : Arr Z h a cl .long) (hj : ¬ (j < 0 ∨ cl.slots.size ≤ j.toNatClampNeg)) (hv : cl.slots[j.toNatClampNeg]? = some v) (hd : De b pc (.laload) 1 n) (K : Go B n0 Q h ce sl n Ls (v :: S)) : Go B n0 Q h ce sl pc Ls (.int j :: .ref a :: S) := by
  obtain ⟨p, l', e, R', s, m, args, below, meth, c⟩ := B
  obtain ⟨rfl, rfl, hx, rfl, hml, hown, hnm, hret, hlk, hZ, hw⟩ := C
  intro T locs X eT N
  obtain ⟨hd, rfl⟩ := hd
  obtain ⟨s₂, o, st, r⟩ := K T locs X eT N
  exact ⟨s₂, o, X.laload hx (by rw [eT]; exact A.1) (State.isArrayOf_alike hZ.alike A.2.1) A.2.2 hj hv (g := mkF m pc Ls (.int j :: .ref a :: S)) rfl rfl hd _ st, r⟩
theorem iAaload (C : Cx B l Z a0 R y b mx rt) {a : Addr} {cl : Cell} {j : Int32} {v : Value} {ty : FieldType} (hty : ty.isReference = true) (A : Arr Z h a cl ty) (hj : ¬ (j < 0 ∨ cl.slots.size ≤ j.toNatClampNeg)) (hv : cl.slots[j.toNatClampNeg]? = some v) (hd : De b pc (.aaload) 1 n) (K : Go B n0 Q h ce sl n Ls (v :: S)) : Go B n0 Q h ce sl pc Ls (.int j :: .ref a :: S) := by
  obtain ⟨p, l', e, R', s, m, args, below, meth, c⟩ := B
  obtain ⟨rfl, rfl, hx, rfl, hml, hown, hnm, hret, hlk, hZ, hw⟩ := C
  intro T locs X eT N
  obtain ⟨hd, rfl⟩ := hd
  obtain ⟨s₂, o, st, r⟩ := K T locs X eT N
  exact ⟨s₂, o, X.aaload hx (by rw [eT]; exact A.1) (State.isArrayOf_alike hZ.alike A.2.1) hty A.2.2 hj hv (g := mkF m pc Ls (.int j :: .ref a :: S)) rfl rfl hd _ st, r⟩
theorem iNewP (C : Cx B l Z a0 R y b mx rt) {aty : ArrayType} {z : Int32} {cap ce' sl' : Nat} (w : Jvm.Cond.arrayClass (newarray.typeOf aty) ∈ tables_1) (hd : De b pc (.newarray aty) 2 n) (hz : ¬ z < 0) (hcap : z.toNatClampNeg ≤ cap) (hb : cap * 8 ≤ 536870912) (hc : ce + 1 = ce' ∧ sl + cap = sl' ∧ ce' ≤ R.cells ∧ sl' ≤ R.slots) (K : ∀ (h' : Heap) (a : Addr) (k : ClassId), a = h.size → Ext h h' → Arv Z h' a k (newarray.typeOf aty) z [] (defaultValue (newarray.typeOf aty)) → Go B n0 Q h' ce' sl' n Ls (.ref a :: S)) : Go B n0 Q h ce sl pc Ls (.int z :: S) := by
  obtain ⟨p, l', e, R', s, m, args, below, meth, c⟩ := B
  obtain ⟨rfl, rfl, hx, rfl, hml, hown, hnm, hret, hlk, hZ, hw⟩ := C
  intro T locs X eT N
  obtain ⟨hd, rfl⟩ := hd
  obtain ⟨rfl, rfl, hc, hs⟩ := hc
  obtain ⟨T', h', kA, X', e', E, A, st⟩ := newP X hx hZ (hw _ w) eT (g := mkF m pc Ls (.int z :: S)) rfl hd rfl hz hcap hb hc hs
  obtain ⟨s₂, o, st', r⟩ := K h' _ kA rfl E (Arv.new A hz) T' locs X' e' N
  exact ⟨s₂, o, st _ st', r⟩
theorem iIastore (C : Cx B l Z a0 R y b mx rt) {a : Addr} {cl : Cell} {j : Int32} {x : Int32} (A : Arr Z h a cl .int) (hj : ¬ (j < 0 ∨ cl.slots.size ≤ j.toNatClampNeg)) (ha : n0 ≤ a) (hd : De b pc (.iastore) 1 n) (K : ∀ h', Wr h h' a j.toNatClampNeg (.int x) → Go B n0 Q h' ce sl n Ls S) : Go B n0 Q h ce sl pc Ls (.int x :: .int j :: .ref a :: S) := by
  obtain ⟨p, l', e, R', s, m, args, below, meth, c⟩ := B
  obtain ⟨rfl, rfl, hx, rfl, hml, hown, hnm, hret, hlk, hZ, hw⟩ := C
  intro T locs X eT N
  obtain ⟨hd, rfl⟩ := hd
  obtain ⟨T', h', X', e', W, st⟩ := stI X hx hZ eT A (j := j) hj (g := mkF m pc Ls (.int x :: .int j :: .ref a :: S)) rfl rfl hd
  obtain ⟨s₂, o, st', r⟩ := K h' W T' _ X' e' (Fr.snoc X' N ha)
  exact ⟨s₂, o, st _ st', r⟩
theorem iCastore (C : Cx B l Z a0 R y b mx rt) {a : Addr} {cl : Cell} {j : Int32} {x : Int32} (A : Arr Z h a cl .char) (hj : ¬ (j < 0 ∨ cl.slots.size ≤ j.toNatClampNeg)) (ha : n0 ≤ a) (hd : De b pc (.castore) 1 n) (K : ∀ h', Wr h h' a j.toNatClampNeg (.int (nar .char x)) → Go B n0 Q h' ce sl n Ls S) : Go B n0 Q h ce sl pc Ls (.int x :: .int j :: .ref a :: S) := by
  obtain ⟨p, l', e, R', s, m, args, below, meth, c⟩ := B
  obtain ⟨rfl, rfl, hx, rfl, hml, hown, hnm, hret, hlk, hZ, hw⟩ := C
  intro T locs X eT N
  obtain ⟨hd, rfl⟩ := hd
  obtain ⟨T', h', X', e', W, st⟩ := stC X hx hZ eT A (j := j) hj (g := mkF m pc Ls (.int x :: .int j :: .ref a :: S)) rfl rfl hd
  obtain ⟨s₂, o, st', r⟩ := K h' W T' _ X' e' (Fr.snoc X' N ha)
  exact ⟨s₂, o, st _ st', r⟩
theorem iBastore (C : Cx B l Z a0 R y b mx rt) {a : Addr} {cl : Cell} {j : Int32} {x : Int32} (A : Arr Z h a cl .byte) (hj : ¬ (j < 0 ∨ cl.slots.size ≤ j.toNatClampNeg)) (ha : n0 ≤ a) (hd : De b pc (.bastore) 1 n) (K : ∀ h', Wr h h' a j.toNatClampNeg (.int (nar .byte x)) → Go B n0 Q h' ce sl n Ls S) : Go B n0 Q h ce sl pc Ls (.int x :: .int j :: .ref a :: S) := by
  obtain ⟨p, l', e, R', s, m, args, below, meth, c⟩ := B
  obtain ⟨rfl, rfl, hx, rfl, hml, hown, hnm, hret, hlk, hZ, hw⟩ := C
  intro T locs X eT N
  obtain ⟨hd, rfl⟩ := hd
  obtain ⟨T', h', X', e', W, st⟩ := stB X hx hZ eT A (j := j) hj (g := mkF m pc Ls (.int x :: .int j :: .ref a :: S)) rfl rfl hd
  obtain ⟨s₂, o, st', r⟩ := K h' W T' _ X' e' (Fr.snoc X' N ha)
  exact ⟨s₂, o, st _ st', r⟩
theorem iLastore (C : Cx B l Z a0 R y b mx rt) {a : Addr} {cl : Cell} {j : Int32} {x : Int64} (A : Arr Z h a cl .long) (hj : ¬ (j < 0 ∨ cl.slots.size ≤ j.toNatClampNeg)) (ha : n0 ≤ a) (hd : De b pc (.lastore) 1 n) (K : ∀ h', Wr h h' a j.toNatClampNeg (.long x) → Go B n0 Q h' ce sl n Ls S) : Go B n0 Q h ce sl pc Ls (.long x :: .int j :: .ref a :: S) := by
  obtain ⟨p, l', e, R', s, m, args, below, meth, c⟩ := B
  obtain ⟨rfl, rfl, hx, rfl, hml, hown, hnm, hret, hlk, hZ, hw⟩ := C
  intro T locs X eT N
  obtain ⟨hd, rfl⟩ := hd
  obtain ⟨T', h', X', e', W, st⟩ := stJ X hx hZ eT A (j := j) hj (g := mkF m pc Ls (.long x :: .int j :: .ref a :: S)) rfl rfl hd
  obtain ⟨s₂, o, st', r⟩ := K h' W T' _ X' e' (Fr.snoc X' N ha)
  exact ⟨s₂, o, st _ st', r⟩
theorem iAastore (C : Cx B l Z a0 R y b mx rt) {a : Addr} {cl : Cell} {j : Int32} {v : Value} {ty : FieldType} (A : Arr Z h a cl ty) (hj : ¬ (j < 0 ∨ cl.slots.size ≤ j.toNatClampNeg)) (hty : ty.isReference = true) (F : Sto Z h a v) (ha : n0 ≤ a) (hd : De b pc (.aastore) 1 n) (K : ∀ h', Wr h h' a j.toNatClampNeg v → Go B n0 Q h' ce sl n Ls S) : Go B n0 Q h ce sl pc Ls (v :: .int j :: .ref a :: S) := by
  obtain ⟨p, l', e, R', s, m, args, below, meth, c⟩ := B
  obtain ⟨rfl, rfl, hx, rfl, hml, hown, hnm, hret, hlk, hZ, hw⟩ := C
  intro T locs X eT N
  obtain ⟨hd, rfl⟩ := hd
  obtain ⟨T', h', X', e', W, st⟩ := stR X hx hZ eT A (j := j) hj hty F (g := mkF m pc Ls (v :: .int j :: .ref a :: S)) rfl rfl hd
  obtain ⟨s₂, o, st', r⟩ := K h' W T' _ X' e' (Fr.snoc X' N ha)
  exact ⟨s₂, o, st _ st', r⟩
theorem iCast (C : Cx B l Z a0 R y b mx rt) {i : Nat} {a : Addr} {K0 : String} (w : Jvm.Cond.classLink y.cls i K0 ∈ tables_1) (F : Ins Z h a K0 true) (hd : De b pc (.checkcast i) 3 n) (K : Go B n0 Q h ce sl n Ls (.ref a :: S)) : Go B n0 Q h ce sl pc Ls (.ref a :: S) := by
  obtain ⟨p, l', e, R', s, m, args, below, meth, c⟩ := B
  obtain ⟨rfl, rfl, hx, rfl, hml, hown, hnm, hret, hlk, hZ, hw⟩ := C
  intro T locs X eT N
  obtain ⟨hd, rfl⟩ := hd
  obtain ⟨T', X', e', st⟩ := castY X hx hZ hown (hw _ w) eT F (g := mkF m pc Ls (.ref a :: S)) rfl rfl hd
  obtain ⟨s₂, o, st', r⟩ := K T' locs X' e' N
  exact ⟨s₂, o, st _ st', r⟩
theorem iInstY (C : Cx B l Z a0 R y b mx rt) {i : Nat} {a : Addr} {K0 : String} (w : Jvm.Cond.classLink y.cls i K0 ∈ tables_1) (F : Ins Z h a K0 true) (hd : De b pc (.instanceof i) 3 n) (K : Go B n0 Q h ce sl n Ls (.int 1 :: S)) : Go B n0 Q h ce sl pc Ls (.ref a :: S) := by
  obtain ⟨p, l', e, R', s, m, args, below, meth, c⟩ := B
  obtain ⟨rfl, rfl, hx, rfl, hml, hown, hnm, hret, hlk, hZ, hw⟩ := C
  intro T locs X eT N
  obtain ⟨hd, rfl⟩ := hd
  obtain ⟨T', X', e', st⟩ := instY X hx hZ hown (hw _ w) eT F (g := mkF m pc Ls (.ref a :: S)) rfl rfl hd
  obtain ⟨s₂, o, st', r⟩ := K T' locs X' e' N
  exact ⟨s₂, o, st _ st', r⟩
theorem iInstN (C : Cx B l Z a0 R y b mx rt) {i : Nat} {a : Addr} {K0 CC : String} (w : Jvm.Cond.classLink y.cls i K0 ∈ tables_1) (E : Exa Z h a CC) (F : ∃ c t, Z.vm.findClass CC = some c ∧ Z.vm.findClass K0 = some t ∧ Z.vm.assignable c t = false) (hd : De b pc (.instanceof i) 3 n) (K : Go B n0 Q h ce sl n Ls (.int 0 :: S)) : Go B n0 Q h ce sl pc Ls (.ref a :: S) := by
  obtain ⟨p, l', e, R', s, m, args, below, meth, c⟩ := B
  obtain ⟨rfl, rfl, hx, rfl, hml, hown, hnm, hret, hlk, hZ, hw⟩ := C
  intro T locs X eT N
  obtain ⟨hd, rfl⟩ := hd
  obtain ⟨T', X', e', st⟩ := instNo X hx hZ hown (hw _ w) eT E F (g := mkF m pc Ls (.ref a :: S)) rfl rfl hd
  obtain ⟨s₂, o, st', r⟩ := K T' locs X' e' N
  exact ⟨s₂, o, st _ st', r⟩
theorem iRetV  (C : Cx B l Z a0 R y b mx none) (hd : De b pc (.return_) 1 n) (hc : ce ≤ R.cells ∧ sl ≤ R.slots) (hQ : Q none h) : Go B n0 Q h ce sl pc Ls ([]) := by
  obtain ⟨p, l', e, R', s, m, args, below, meth, c⟩ := B
  obtain ⟨rfl, rfl, hx, rfl, hml, hown, hnm, hret, hlk, hZ, hw⟩ := C
  intro T locs X eT N
  obtain ⟨hd, rfl⟩ := hd
  obtain ⟨fs, hr, hrun, hended, hW, hsame⟩ := X.leave (v := none) (fun q => by first | rfl | (rw [hret] at q; cases q)) hlk
  exact ⟨_, _, X.returnOut hx hret hd hr, hrun, hended, _, _, rfl, ⟨eT ▸ hQ, N⟩, ⟨_, rfl⟩, hW, hsame.mono hc.1 hc.2⟩
theorem iRetZ {z : Int32} {t : FieldType} (C : Cx B l Z a0 R y b mx (some t)) (hd : De b pc (.ireturn) 1 n) (ht : t = .boolean ∨ t = .byte ∨ t = .char ∨ t = .short) (hc : ce ≤ R.cells ∧ sl ≤ R.slots) (hQ : Q (some (.int (nar t z))) h) : Go B n0 Q h ce sl pc Ls (.int z :: S) := by
  obtain ⟨p, l', e, R', s, m, args, below, meth, c⟩ := B
  obtain ⟨rfl, rfl, hx, rfl, hml, hown, hnm, hret, hlk, hZ, hw⟩ := C
  intro T locs X eT N
  obtain ⟨hd, rfl⟩ := hd
  obtain ⟨fs, hr, hrun, hended, hW, hsame⟩ := X.leave (v := (some (.int (nar t z)))) (fun q => by first | rfl | (rw [hret] at q; cases q)) hlk
  exact ⟨_, _, retN X hx hret ht hd hr, hrun, hended, _, _, rfl, ⟨eT ▸ hQ, N⟩, ⟨_, rfl⟩, hW, hsame.mono hc.1 hc.2⟩
theorem iRetI {z : Int32} (C : Cx B l Z a0 R y b mx (some .int)) (hd : De b pc (.ireturn) 1 n) (hc : ce ≤ R.cells ∧ sl ≤ R.slots) (hQ : Q (some (.int z)) h) : Go B n0 Q h ce sl pc Ls (.int z :: S) := by
  obtain ⟨p, l', e, R', s, m, args, below, meth, c⟩ := B
  obtain ⟨rfl, rfl, hx, rfl, hml, hown, hnm, hret, hlk, hZ, hw⟩ := C
  intro T locs X eT N
  obtain ⟨hd, rfl⟩ := hd
  obtain ⟨fs, hr, hrun, hended, hW, hsame⟩ := X.leave (v := (some (.int z))) (fun q => by first | rfl | (rw [hret] at q; cases q)) hlk
  exact ⟨_, _, retOut X hx hret rfl (Or.inl ⟨rfl, Or.inl rfl, z, rfl⟩) hd hr, hrun, hended, _, _, rfl, ⟨eT ▸ hQ, N⟩, ⟨_, rfl⟩, hW, hsame.mono hc.1 hc.2⟩
theorem iRetA {w : Value} {t : FieldType} (C : Cx B l Z a0 R y b mx (some t)) (hd : De b pc (.areturn) 1 n) (ht : t.isReference = true) (hw' : w.isRef = true) (hna : narrow t w = w) (hc : ce ≤ R.cells ∧ sl ≤ R.slots) (hQ : Q (some w) h) : Go B n0 Q h ce sl pc Ls (w :: S) := by
  obtain ⟨p, l', e, R', s, m, args, below, meth, c⟩ := B
  obtain ⟨rfl, rfl, hx, rfl, hml, hown, hnm, hret, hlk, hZ, hw⟩ := C
  intro T locs X eT N
  obtain ⟨hd, rfl⟩ := hd
  obtain ⟨fs, hr, hrun, hended, hW, hsame⟩ := X.leave (v := (some w)) (fun q => by first | rfl | (rw [hret] at q; cases q)) hlk
  exact ⟨_, _, retOut X hx hret hna (Or.inr (Or.inr (Or.inr (Or.inr ⟨rfl, ht, hw'⟩)))) hd hr, hrun, hended, _, _, rfl, ⟨eT ▸ hQ, N⟩, ⟨_, rfl⟩, hW, hsame.mono hc.1 hc.2⟩
theorem iRetJ {z : Int64} (C : Cx B l Z a0 R y b mx (some .long)) (hd : De b pc (.lreturn) 1 n) (hc : ce ≤ R.cells ∧ sl ≤ R.slots) (hQ : Q (some (.long z)) h) : Go B n0 Q h ce sl pc Ls (.long z :: S) := by
  obtain ⟨p, l', e, R', s, m, args, below, meth, c⟩ := B
  obtain ⟨rfl, rfl, hx, rfl, hml, hown, hnm, hret, hlk, hZ, hw⟩ := C
  intro T locs X eT N
  obtain ⟨hd, rfl⟩ := hd
  obtain ⟨fs, hr, hrun, hended, hW, hsame⟩ := X.leave (v := (some (.long z))) (fun q => by first | rfl | (rw [hret] at q; cases q)) hlk
  exact ⟨_, _, retOut X hx hret rfl (Or.inr (Or.inl ⟨rfl, rfl, z, rfl⟩)) hd hr, hrun, hended, _, _, rfl, ⟨eT ▸ hQ, N⟩, ⟨_, rfl⟩, hW, hsame.mono hc.1 hc.2⟩
theorem oFresh {a : Addr} (O : Old Z n0 h) (g : a = h.size) : n0 ≤ a := by
  have q1 := O.1
  have q2 := O.2.1
  subst g
  omega
theorem oNe {a a' : Addr} (q : a < h.size) (g : a' = h.size) : a ≠ a' := Nat.ne_of_lt (g ▸ q)
theorem acE {x z : Value} (q : x = z) : XT.acmp .eq x z = true ∧ XT.acmp .ne x z = false := by
  show decide (x = z) = true ∧ decide (x ≠ z) = false
  simp [q]
theorem acN {x z : Value} (q : ¬ x = z) : XT.acmp .eq x z = false ∧ XT.acmp .ne x z = true := by
  show decide (x = z) = false ∧ decide (x ≠ z) = true
  simp [q]
theorem acNr {a a' : Addr} (q : ¬ a = a') : XT.acmp .eq (.ref a) (.ref a') = false ∧ XT.acmp .ne (.ref a) (.ref a') = true := acN fun r => q (Value.ref.inj r)
def QP (r : Option Value) (h0 : Heap) (v : Option Value) (h : Heap) : Prop := v = r ∧ h0 = h
theorem eqI_v {args : Array Value} {first s : State} {o : Option Outcome} {idx : List Nat} {t : Term} {k : Int32} (q : (Jvm.Cond.eq t (.int k)).value args first o s idx = some true) : t.eval args first o idx s = some (.int k) := by
  obtain ⟨x, z, e1, e2, k1, k2⟩ := cmp_v (Or.inl q)
  have e3 : (Term.int k).eval args first o idx s = some (.int k) := Term.int_eval k
  cases e3.symm.trans e2
  obtain ⟨w, rfl⟩ := k2
  have e4 := Cond.eq_ints (args := args) (first := first) (o := o) (s := s) (idx := idx) e1 e2
  rw [e1, gotT e4 q]
theorem eqQ_v {args : Array Value} {first s : State} {o : Option Outcome} {idx : List Nat} {t u : Term} {a' : Addr} (q : (Jvm.Cond.eq t u).value args first o s idx = some true) (e2 : u.eval args first o idx s = some (.ref a')) : t.eval args first o idx s = some (.ref a') := by
  obtain ⟨x, z, e1, e3, k1, k2⟩ := cmp_v (Or.inl q)
  cases e2.symm.trans e3
  have e4 := gotT (eq_R e1 e2 k2.2 rfl) q
  rw [e1, e4]
theorem oLen {args : Array Value} {s : State} {t : Term} {k : Int32} {a : Addr} {cl : Cell} (q : (Term.length t).eval args s none [] s = some (.int k)) (ev : t.eval args s none [] s = some (.ref a)) (hc : s.heap[a]? = some cl) : cl.slots.size.toInt32 = k := by
  obtain ⟨c', e1, e3⟩ := length_at q ev
  cases hc.symm.trans e1
  exact e3
theorem oOld {a a' : Addr} (O : Old Z n0 h) (q : a < Z.heap.size) (r : n0 ≤ a') : a ≠ a' := O.ne q r
theorem eqR_v {args : Array Value} {first s : State} {o : Option Outcome} {idx : List Nat} {t u : Term} {a a' : Addr} (q : (Jvm.Cond.eq t u).value args first o s idx = some true) (e1 : t.eval args first o idx s = some (.ref a)) (e2 : u.eval args first o idx s = some (.ref a')) : a = a' := Value.ref.inj (gotT (eq_R e1 e2 rfl rfl) q)
end Flow

theorem tw0 : (Jvm.Cond.fieldLink "com/example/kilit/kilit/engine/StandardIsolationLevelOfPinLaw" (13 : Nat) "com/example/kilit/kilit/engine/IsolationLevel" "READ_COMMITTED" "Lcom/example/kilit/kilit/engine/IsolationLevel;") ∈ tables_1 := List.mem_of_getElem? (i := 0) rfl
theorem tw1 : (Jvm.Cond.initialized "com/example/kilit/kilit/engine/IsolationLevel") ∈ tables_1 := List.mem_of_getElem? (i := 1) rfl
theorem tw2 : (Jvm.Cond.laysStatic "com/example/kilit/kilit/engine/IsolationLevel" "READ_COMMITTED" "Lcom/example/kilit/kilit/engine/IsolationLevel;") ∈ tables_1 := List.mem_of_getElem? (i := 2) rfl
theorem tw3 : (Jvm.Cond.fieldLink "com/example/kilit/kilit/engine/StandardIsolationLevelOfPinLaw" (21 : Nat) "com/example/kilit/kilit/engine/StandardIsolationLevel" "READ_COMMITTED" "Lcom/example/kilit/kilit/engine/StandardIsolationLevel;") ∈ tables_1 := List.mem_of_getElem? (i := 3) rfl
theorem tw4 : (Jvm.Cond.initialized "com/example/kilit/kilit/engine/StandardIsolationLevel") ∈ tables_1 := List.mem_of_getElem? (i := 4) rfl
theorem tw5 : (Jvm.Cond.laysStatic "com/example/kilit/kilit/engine/StandardIsolationLevel" "READ_COMMITTED" "Lcom/example/kilit/kilit/engine/StandardIsolationLevel;") ∈ tables_1 := List.mem_of_getElem? (i := 5) rfl
theorem tw6 : (Jvm.Cond.methodLink "com/example/kilit/kilit/engine/StandardIsolationLevelOfPinLaw" (23 : Nat) ({ cls := "com/example/kilit/kilit/engine/StandardIsolationLevel", name := "of", desc := "(Lcom/example/kilit/kilit/engine/IsolationLevel;)Lcom/example/kilit/kilit/engine/StandardIsolationLevel;" } : Jvm.MethodName)) ∈ tables_1 := List.mem_of_getElem? (i := 6) rfl
theorem tw7 : (Jvm.Cond.static ({ cls := "com/example/kilit/kilit/engine/StandardIsolationLevel", name := "of", desc := "(Lcom/example/kilit/kilit/engine/IsolationLevel;)Lcom/example/kilit/kilit/engine/StandardIsolationLevel;" } : Jvm.MethodName)) ∈ tables_1 := List.mem_of_getElem? (i := 7) rfl
theorem tw8 : (Jvm.Cond.code ({ cls := "com/example/kilit/kilit/engine/StandardIsolationLevel", name := "of", desc := "(Lcom/example/kilit/kilit/engine/IsolationLevel;)Lcom/example/kilit/kilit/engine/StandardIsolationLevel;" } : Jvm.MethodName) prog_86_method_5_code (6 : Nat) (Option.some (Jvm.ClassFile.FieldType.object "com/example/kilit/kilit/engine/StandardIsolationLevel"))) ∈ tables_1 := List.mem_of_getElem? (i := 8) rfl
theorem tw9 : (Jvm.Cond.fieldLink "com/example/kilit/kilit/engine/StandardIsolationLevel" (39 : Nat) "com/example/kilit/kilit/engine/StandardIsolationLevel" "LEVELS" "[Lcom/example/kilit/kilit/engine/StandardIsolationLevel;") ∈ tables_1 := List.mem_of_getElem? (i := 9) rfl
theorem tw10 : (Jvm.Cond.laysStatic "com/example/kilit/kilit/engine/StandardIsolationLevel" "LEVELS" "[Lcom/example/kilit/kilit/engine/StandardIsolationLevel;") ∈ tables_1 := List.mem_of_getElem? (i := 10) rfl
theorem tw11 : (Jvm.Cond.laysStatic "com/example/kilit/kilit/engine/StandardIsolationLevel" "READ_UNCOMMITTED" "Lcom/example/kilit/kilit/engine/StandardIsolationLevel;") ∈ tables_1 := List.mem_of_getElem? (i := 11) rfl
theorem tw12 : (Jvm.Cond.fieldLink "com/example/kilit/kilit/engine/StandardIsolationLevel" (35 : Nat) "com/example/kilit/kilit/engine/StandardIsolationLevel" "servedBy" "Lcom/example/kilit/kilit/engine/IsolationLevel;") ∈ tables_1 := List.mem_of_getElem? (i := 12) rfl
theorem tw14 : (Jvm.Cond.laysStatic "com/example/kilit/kilit/engine/StandardIsolationLevel" "REPEATABLE_READ" "Lcom/example/kilit/kilit/engine/StandardIsolationLevel;") ∈ tables_1 := List.mem_of_getElem? (i := 14) rfl
theorem tw15 : (Jvm.Cond.laysStatic "com/example/kilit/kilit/engine/IsolationLevel" "SERIALIZABLE" "Lcom/example/kilit/kilit/engine/IsolationLevel;") ∈ tables_1 := List.mem_of_getElem? (i := 15) rfl
theorem tw16 : (Jvm.Cond.laysStatic "com/example/kilit/kilit/engine/StandardIsolationLevel" "SERIALIZABLE" "Lcom/example/kilit/kilit/engine/StandardIsolationLevel;") ∈ tables_1 := List.mem_of_getElem? (i := 16) rfl
theorem tw17 : (Jvm.Cond.methodLink "com/example/kilit/kilit/engine/StandardIsolationLevelOfPinLaw" (27 : Nat) ({ cls := "com/example/kilit/kilit/engine/StandardIsolationLevel", name := "servedBy", desc := "()Lcom/example/kilit/kilit/engine/IsolationLevel;" } : Jvm.MethodName)) ∈ tables_1 := List.mem_of_getElem? (i := 17) rfl
theorem tw18 : (Jvm.Cond.declares ({ cls := "com/example/kilit/kilit/engine/StandardIsolationLevel", name := "servedBy", desc := "()Lcom/example/kilit/kilit/engine/IsolationLevel;" } : Jvm.MethodName)) ∈ tables_1 := List.mem_of_getElem? (i := 18) rfl
theorem tw19 : (Jvm.Cond.instanceMethod ({ cls := "com/example/kilit/kilit/engine/StandardIsolationLevel", name := "servedBy", desc := "()Lcom/example/kilit/kilit/engine/IsolationLevel;" } : Jvm.MethodName)) ∈ tables_1 := List.mem_of_getElem? (i := 19) rfl
theorem tw20 : (Jvm.Cond.selects "com/example/kilit/kilit/engine/StandardIsolationLevel" ({ cls := "com/example/kilit/kilit/engine/StandardIsolationLevel", name := "servedBy", desc := "()Lcom/example/kilit/kilit/engine/IsolationLevel;" } : Jvm.MethodName) ({ cls := "com/example/kilit/kilit/engine/StandardIsolationLevel", name := "servedBy", desc := "()Lcom/example/kilit/kilit/engine/IsolationLevel;" } : Jvm.MethodName)) ∈ tables_1 := List.mem_of_getElem? (i := 20) rfl
theorem tw21 : (Jvm.Cond.code ({ cls := "com/example/kilit/kilit/engine/StandardIsolationLevel", name := "servedBy", desc := "()Lcom/example/kilit/kilit/engine/IsolationLevel;" } : Jvm.MethodName) prog_86_method_4_code (1 : Nat) (Option.some (Jvm.ClassFile.FieldType.object "com/example/kilit/kilit/engine/IsolationLevel"))) ∈ tables_1 := List.mem_of_getElem? (i := 21) rfl
theorem tw22 : (Jvm.Cond.fieldLink "com/example/kilit/kilit/engine/StandardIsolationLevelOfPinLaw" (7 : Nat) "com/example/kilit/kilit/engine/IsolationLevel" "SERIALIZABLE" "Lcom/example/kilit/kilit/engine/IsolationLevel;") ∈ tables_1 := List.mem_of_getElem? (i := 22) rfl
theorem tw23 : (Jvm.Cond.fieldLink "com/example/kilit/kilit/engine/StandardIsolationLevelOfPinLaw" (16 : Nat) "com/example/kilit/kilit/engine/StandardIsolationLevel" "SERIALIZABLE" "Lcom/example/kilit/kilit/engine/StandardIsolationLevel;") ∈ tables_1 := List.mem_of_getElem? (i := 23) rfl
theorem d0_0 : De code 0 (.iload_n 0) 1 1 := ⟨by decide +kernel, rfl⟩
theorem d0_1 : De code 1 (.iconst 1) 1 2 := ⟨by decide +kernel, rfl⟩
theorem d0_2 : De code 2 (.iand) 1 3 := ⟨by decide +kernel, rfl⟩
theorem d0_3 : De code 3 (.ifCond .eq 7) 3 6 := ⟨by decide +kernel, rfl⟩
theorem d0_6 : De code 6 (.iconst 1) 1 7 := ⟨by decide +kernel, rfl⟩
theorem d0_7 : De code 7 (.goto 4) 3 10 := ⟨by decide +kernel, rfl⟩
theorem d0_10 : De code 10 (.iconst 0) 1 11 := ⟨by decide +kernel, rfl⟩
theorem d0_11 : De code 11 (.istore_n 1) 1 12 := ⟨by decide +kernel, rfl⟩
theorem d0_12 : De code 12 (.iload_n 1) 1 13 := ⟨by decide +kernel, rfl⟩
theorem d0_13 : De code 13 (.ifCond .eq 9) 3 16 := ⟨by decide +kernel, rfl⟩
theorem d0_16 : De code 16 (.getstatic 7) 3 19 := ⟨by decide +kernel, rfl⟩
theorem d0_19 : De code 19 (.goto 6) 3 22 := ⟨by decide +kernel, rfl⟩
theorem d0_22 : De code 22 (.getstatic 13) 3 25 := ⟨by decide +kernel, rfl⟩
theorem d0_25 : De code 25 (.astore_n 2) 1 26 := ⟨by decide +kernel, rfl⟩
theorem d0_26 : De code 26 (.iload_n 1) 1 27 := ⟨by decide +kernel, rfl⟩
theorem d0_27 : De code 27 (.ifCond .eq 9) 3 30 := ⟨by decide +kernel, rfl⟩
theorem d0_30 : De code 30 (.getstatic 16) 3 33 := ⟨by decide +kernel, rfl⟩
theorem d0_33 : De code 33 (.goto 6) 3 36 := ⟨by decide +kernel, rfl⟩
theorem d0_36 : De code 36 (.getstatic 21) 3 39 := ⟨by decide +kernel, rfl⟩
theorem d0_39 : De code 39 (.astore_n 3) 1 40 := ⟨by decide +kernel, rfl⟩
theorem d0_40 : De code 40 (.aload_n 2) 1 41 := ⟨by decide +kernel, rfl⟩
theorem d0_41 : De code 41 (.invokestatic 23) 3 44 := ⟨by decide +kernel, rfl⟩
theorem d0_44 : De code 44 (.astore 4) 2 46 := ⟨by decide +kernel, rfl⟩
theorem d0_46 : De code 46 (.aload 4) 2 48 := ⟨by decide +kernel, rfl⟩
theorem d0_48 : De code 48 (.aload_n 3) 1 49 := ⟨by decide +kernel, rfl⟩
theorem d0_49 : De code 49 (.if_acmp .eq 5) 3 52 := ⟨by decide +kernel, rfl⟩
theorem d0_54 : De code 54 (.aload 4) 2 56 := ⟨by decide +kernel, rfl⟩
theorem d0_56 : De code 56 (.invokevirtual 27) 3 59 := ⟨by decide +kernel, rfl⟩
theorem d0_59 : De code 59 (.aload_n 2) 1 60 := ⟨by decide +kernel, rfl⟩
theorem d0_60 : De code 60 (.if_acmp .ne 7) 3 63 := ⟨by decide +kernel, rfl⟩
theorem d0_63 : De code 63 (.iconst 1) 1 64 := ⟨by decide +kernel, rfl⟩
theorem d0_64 : De code 64 (.goto 4) 3 67 := ⟨by decide +kernel, rfl⟩
theorem d0_68 : De code 68 (.ireturn) 1 69 := ⟨by decide +kernel, rfl⟩
theorem d1_0 : De prog_86_method_5_code 0 (.aconst_null) 1 1 := ⟨by decide +kernel, rfl⟩
theorem d1_1 : De prog_86_method_5_code 1 (.astore_n 1) 1 2 := ⟨by decide +kernel, rfl⟩
theorem d1_2 : De prog_86_method_5_code 2 (.getstatic 39) 3 5 := ⟨by decide +kernel, rfl⟩
theorem d1_5 : De prog_86_method_5_code 5 (.astore_n 2) 1 6 := ⟨by decide +kernel, rfl⟩
theorem d1_6 : De prog_86_method_5_code 6 (.aload_n 2) 1 7 := ⟨by decide +kernel, rfl⟩
theorem d1_7 : De prog_86_method_5_code 7 (.arraylength) 1 8 := ⟨by decide +kernel, rfl⟩
theorem d1_8 : De prog_86_method_5_code 8 (.istore_n 3) 1 9 := ⟨by decide +kernel, rfl⟩
theorem d1_9 : De prog_86_method_5_code 9 (.iconst 0) 1 10 := ⟨by decide +kernel, rfl⟩
theorem d1_10 : De prog_86_method_5_code 10 (.istore 4) 2 12 := ⟨by decide +kernel, rfl⟩
theorem d1_12 : De prog_86_method_5_code 12 (.iload 4) 2 14 := ⟨by decide +kernel, rfl⟩
theorem d1_14 : De prog_86_method_5_code 14 (.iload_n 3) 1 15 := ⟨by decide +kernel, rfl⟩
theorem d1_15 : De prog_86_method_5_code 15 (.if_icmp .ge 27) 3 18 := ⟨by decide +kernel, rfl⟩
theorem d1_18 : De prog_86_method_5_code 18 (.aload_n 2) 1 19 := ⟨by decide +kernel, rfl⟩
theorem d1_19 : De prog_86_method_5_code 19 (.iload 4) 2 21 := ⟨by decide +kernel, rfl⟩
theorem d1_21 : De prog_86_method_5_code 21 (.aaload) 1 22 := ⟨by decide +kernel, rfl⟩
theorem d1_22 : De prog_86_method_5_code 22 (.astore 5) 2 24 := ⟨by decide +kernel, rfl⟩
theorem d1_24 : De prog_86_method_5_code 24 (.aload 5) 2 26 := ⟨by decide +kernel, rfl⟩
theorem d1_26 : De prog_86_method_5_code 26 (.getfield 35) 3 29 := ⟨by decide +kernel, rfl⟩
theorem d1_29 : De prog_86_method_5_code 29 (.aload_n 0) 1 30 := ⟨by decide +kernel, rfl⟩
theorem d1_30 : De prog_86_method_5_code 30 (.if_acmp .ne 6) 3 33 := ⟨by decide +kernel, rfl⟩
theorem d1_33 : De prog_86_method_5_code 33 (.aload 5) 2 35 := ⟨by decide +kernel, rfl⟩
theorem d1_35 : De prog_86_method_5_code 35 (.astore_n 1) 1 36 := ⟨by decide +kernel, rfl⟩
theorem d1_36 : De prog_86_method_5_code 36 (.iinc 4 1) 3 39 := ⟨by decide +kernel, rfl⟩
theorem d1_39 : De prog_86_method_5_code 39 (.goto (-27)) 3 42 := ⟨by decide +kernel, rfl⟩
theorem d1_42 : De prog_86_method_5_code 42 (.aload_n 1) 1 43 := ⟨by decide +kernel, rfl⟩
theorem d1_43 : De prog_86_method_5_code 43 (.areturn) 1 44 := ⟨by decide +kernel, rfl⟩
theorem d2_0 : De prog_86_method_4_code 0 (.aload_n 0) 1 1 := ⟨by decide +kernel, rfl⟩
theorem d2_1 : De prog_86_method_4_code 1 (.getfield 35) 3 4 := ⟨by decide +kernel, rfl⟩
theorem d2_4 : De prog_86_method_4_code 4 (.areturn) 1 5 := ⟨by decide +kernel, rfl⟩
theorem pd0 : parseMethodDescriptor "(Lcom/example/kilit/kilit/engine/IsolationLevel;)Lcom/example/kilit/kilit/engine/StandardIsolationLevel;" = some ⟨[(.object "com/example/kilit/kilit/engine/IsolationLevel")], some (.object "com/example/kilit/kilit/engine/StandardIsolationLevel")⟩ := by decide +kernel
theorem pd1 : parseMethodDescriptor "()Lcom/example/kilit/kilit/engine/IsolationLevel;" = some ⟨[], some (.object "com/example/kilit/kilit/engine/IsolationLevel")⟩ := by decide +kernel
theorem pn0 : plainName "com/example/kilit/kilit/engine/StandardIsolationLevel" = true := by first | (simp [plainName, overriddenIn]; done) | decide +kernel
theorem pn1 : plainName "com/example/kilit/kilit/engine/StandardIsolationLevelOfPinLaw" = true := by first | (simp [plainName, overriddenIn]; done) | decide +kernel
def GG (Z : State) (ga1 ga2 ga3 ga4 ga5 ga6 ga7 : Addr) (gc3 : Cell) : Prop := Sta Z Z.heap "com/example/kilit/kilit/engine/IsolationLevel" "READ_COMMITTED" "Lcom/example/kilit/kilit/engine/IsolationLevel;" (.ref ga1) ∧ Exa Z Z.heap ga1 "com/example/kilit/kilit/engine/IsolationLevel" ∧ Sta Z Z.heap "com/example/kilit/kilit/engine/StandardIsolationLevel" "READ_COMMITTED" "Lcom/example/kilit/kilit/engine/StandardIsolationLevel;" (.ref ga2) ∧ Exa Z Z.heap ga2 "com/example/kilit/kilit/engine/StandardIsolationLevel" ∧ Sta Z Z.heap "com/example/kilit/kilit/engine/StandardIsolationLevel" "LEVELS" "[Lcom/example/kilit/kilit/engine/StandardIsolationLevel;" (.ref ga3) ∧ Arr Z Z.heap ga3 gc3 (Jvm.ClassFile.FieldType.object "com/example/kilit/kilit/engine/StandardIsolationLevel") ∧ Sta Z Z.heap "com/example/kilit/kilit/engine/StandardIsolationLevel" "READ_UNCOMMITTED" "Lcom/example/kilit/kilit/engine/StandardIsolationLevel;" (.ref ga4) ∧ Exa Z Z.heap ga4 "com/example/kilit/kilit/engine/StandardIsolationLevel" ∧ Sta Z Z.heap "com/example/kilit/kilit/engine/StandardIsolationLevel" "REPEATABLE_READ" "Lcom/example/kilit/kilit/engine/StandardIsolationLevel;" (.ref ga5) ∧ Exa Z Z.heap ga5 "com/example/kilit/kilit/engine/StandardIsolationLevel" ∧ Sta Z Z.heap "com/example/kilit/kilit/engine/IsolationLevel" "SERIALIZABLE" "Lcom/example/kilit/kilit/engine/IsolationLevel;" (.ref ga6) ∧ Exa Z Z.heap ga6 "com/example/kilit/kilit/engine/IsolationLevel" ∧ Sta Z Z.heap "com/example/kilit/kilit/engine/StandardIsolationLevel" "SERIALIZABLE" "Lcom/example/kilit/kilit/engine/StandardIsolationLevel;" (.ref ga7) ∧ Exa Z Z.heap ga7 "com/example/kilit/kilit/engine/StandardIsolationLevel" ∧ gc3.slots.size.toInt32 = (4 : Int32) ∧ (¬ ((0 : Int32) < 0 ∨ gc3.slots.size ≤ (0 : Int32).toNatClampNeg) ∧ gc3.slots[(0 : Int32).toNatClampNeg]? = some (.ref ga4)) ∧ Fld Z Z.heap ga4 "com/example/kilit/kilit/engine/StandardIsolationLevel" "servedBy" "Lcom/example/kilit/kilit/engine/IsolationLevel;" (.ref ga1) ∧ (¬ ((1 : Int32) < 0 ∨ gc3.slots.size ≤ (1 : Int32).toNatClampNeg) ∧ gc3.slots[(1 : Int32).toNatClampNeg]? = some (.ref ga2)) ∧ Fld Z Z.heap ga2 "com/example/kilit/kilit/engine/StandardIsolationLevel" "servedBy" "Lcom/example/kilit/kilit/engine/IsolationLevel;" (.ref ga1) ∧ (¬ ((2 : Int32) < 0 ∨ gc3.slots.size ≤ (2 : Int32).toNatClampNeg) ∧ gc3.slots[(2 : Int32).toNatClampNeg]? = some (.ref ga5)) ∧ Fld Z Z.heap ga5 "com/example/kilit/kilit/engine/StandardIsolationLevel" "servedBy" "Lcom/example/kilit/kilit/engine/IsolationLevel;" (.ref ga6) ∧ Fld Z Z.heap ga6 "java/lang/Enum" "ordinal" "I" (.int (1 : Int32)) ∧ Fld Z Z.heap ga1 "java/lang/Enum" "ordinal" "I" (.int (0 : Int32)) ∧ (¬ ((3 : Int32) < 0 ∨ gc3.slots.size ≤ (3 : Int32).toNatClampNeg) ∧ gc3.slots[(3 : Int32).toNatClampNeg]? = some (.ref ga7)) ∧ Fld Z Z.heap ga7 "com/example/kilit/kilit/engine/StandardIsolationLevel" "servedBy" "Lcom/example/kilit/kilit/engine/IsolationLevel;" (.ref ga6)
theorem ef_rm1_0 (m : MethodId) (x0 : Addr) : entryFrame m #[(.ref x0)] 6 = mkF m 0 #[(.val (.ref x0)), .unset, .unset, .unset, .unset, .unset] [] := by first | (simp [entryFrame, mkF, argsToLocals, Value.category]; done) | rfl
set_option maxRecDepth 65536 in
set_option maxHeartbeats 4000000 in
theorem rm1_0 {l : Launch} {Z : State} {a0 : Array Value} (hw : ∀ d ∈ tables_1, d.before a0 Z = true) {n0 : Nat} {h0 : Heap}  {ga1 ga2 ga3 ga4 ga5 ga6 ga7 : Addr} {gc3 : Cell} (G : GG Z ga1 ga2 ga3 ga4 ga5 ga6 ga7 gc3) (O : Old Z n0 h0) :
    Pays l Z (⟨"com/example/kilit/kilit/engine/StandardIsolationLevel", "of", "(Lcom/example/kilit/kilit/engine/IsolationLevel;)Lcom/example/kilit/kilit/engine/StandardIsolationLevel;"⟩ : MethodName) prog_86_method_5_code 6 (some (.object "com/example/kilit/kilit/engine/StandardIsolationLevel")) ({ frames := 0, cells := 0, slots := 0, locals := 0 } : Room) #[(.ref ga1)] n0 h0 (QP (some (.ref ga2)) h0) := by
  refine Pays.of hw (plainFor_of_name pn0) (fun m => ef_rm1_0 m ga1) fun B C => ?_
  refine iNull C d1_0 ?_
  refine iAstoreN C d1_1 (Ls' := #[(.val (.ref ga1)), (.val .null), .unset, .unset, .unset, .unset]) rfl rfl ?_
  refine iGetS C tw9 (G.2.2.2.2.1.ext O.2) d1_2 ?_
  refine iAstoreN C d1_5 (Ls' := #[(.val (.ref ga1)), (.val .null), (.val (.ref ga3)), .unset, .unset, .unset]) rfl rfl ?_
  refine iAloadN C d1_6 rfl rfl ?_
  refine iLen C (G.2.2.2.2.2.1.ext O.2) G.2.2.2.2.2.2.2.2.2.2.2.2.2.2.1 d1_7 ?_
  refine iIstoreN C d1_8 (Ls' := #[(.val (.ref ga1)), (.val .null), (.val (.ref ga3)), (.val (.int (4 : Int32))), .unset, .unset]) rfl ?_
  refine iIconst C d1_9 (v := (0 : Int32)) (by decide) ?_
  refine iIstore C d1_10 (Ls' := #[(.val (.ref ga1)), (.val .null), (.val (.ref ga3)), (.val (.int (4 : Int32))), (.val (.int (0 : Int32))), .unset]) rfl ?_
  refine iIload C d1_12 rfl ?_
  refine iIloadN C d1_14 rfl ?_
  refine iCmpF C d1_15 (by decide) ?_
  refine iAloadN C d1_18 rfl rfl ?_
  refine iIload C d1_19 rfl ?_
  refine iAaload C (v := (.ref ga4)) rfl (G.2.2.2.2.2.1.ext O.2) G.2.2.2.2.2.2.2.2.2.2.2.2.2.2.2.1.1 G.2.2.2.2.2.2.2.2.2.2.2.2.2.2.2.1.2 d1_21 ?_
  refine iAstore C d1_22 (Ls' := #[(.val (.ref ga1)), (.val .null), (.val (.ref ga3)), (.val (.int (4 : Int32))), (.val (.int (0 : Int32))), (.val (.ref ga4))]) rfl rfl ?_
  refine iAload C d1_24 rfl rfl ?_
  refine iGetF C tw12 (G.2.2.2.2.2.2.2.2.2.2.2.2.2.2.2.2.1.ext O.2) d1_26 ?_
  refine iAloadN C d1_29 rfl rfl ?_
  refine iAcmpF C d1_30 rfl rfl (acE rfl).2 ?_
  refine iAload C d1_33 rfl rfl ?_
  refine iAstoreN C d1_35 (Ls' := #[(.val (.ref ga1)), (.val (.ref ga4)), (.val (.ref ga3)), (.val (.int (4 : Int32))), (.val (.int (0 : Int32))), (.val (.ref ga4))]) rfl rfl ?_
  refine iIinc C d1_36 rfl (v := (1 : Int32)) (by decide) (Ls' := #[(.val (.ref ga1)), (.val (.ref ga4)), (.val (.ref ga3)), (.val (.int (4 : Int32))), (.val (.int (1 : Int32))), (.val (.ref ga4))]) rfl ?_
  refine iGoto C (t := 12) d1_39 ⟨by decide, by decide⟩ ?_
  refine iIload C d1_12 rfl ?_
  refine iIloadN C d1_14 rfl ?_
  refine iCmpF C d1_15 (by decide) ?_
  refine iAloadN C d1_18 rfl rfl ?_
  refine iIload C d1_19 rfl ?_
  refine iAaload C (v := (.ref ga2)) rfl (G.2.2.2.2.2.1.ext O.2) G.2.2.2.2.2.2.2.2.2.2.2.2.2.2.2.2.2.1.1 G.2.2.2.2.2.2.2.2.2.2.2.2.2.2.2.2.2.1.2 d1_21 ?_
  refine iAstore C d1_22 (Ls' := #[(.val (.ref ga1)), (.val (.ref ga4)), (.val (.ref ga3)), (.val (.int (4 : Int32))), (.val (.int (1 : Int32))), (.val (.ref ga2))]) rfl rfl ?_
  refine iAload C d1_24 rfl rfl ?_
  refine iGetF C tw12 (G.2.2.2.2.2.2.2.2.2.2.2.2.2.2.2.2.2.2.1.ext O.2) d1_26 ?_
  refine iAloadN C d1_29 rfl rfl ?_
  refine iAcmpF C d1_30 rfl rfl (acE rfl).2 ?_
  refine iAload C d1_33 rfl rfl ?_
  refine iAstoreN C d1_35 (Ls' := #[(.val (.ref ga1)), (.val (.ref ga2)), (.val (.ref ga3)), (.val (.int (4 : Int32))), (.val (.int (1 : Int32))), (.val (.ref ga2))]) rfl rfl ?_
  refine iIinc C d1_36 rfl (v := (2 : Int32)) (by decide) (Ls' := #[(.val (.ref ga1)), (.val (.ref ga2)), (.val (.ref ga3)), (.val (.int (4 : Int32))), (.val (.int (2 : Int32))), (.val (.ref ga2))]) rfl ?_
  refine iGoto C (t := 12) d1_39 ⟨by decide, by decide⟩ ?_
  refine iIload C d1_12 rfl ?_
  refine iIloadN C d1_14 rfl ?_
  refine iCmpF C d1_15 (by decide) ?_
  refine iAloadN C d1_18 rfl rfl ?_
  refine iIload C d1_19 rfl ?_
  refine iAaload C (v := (.ref ga5)) rfl (G.2.2.2.2.2.1.ext O.2) G.2.2.2.2.2.2.2.2.2.2.2.2.2.2.2.2.2.2.2.1.1 G.2.2.2.2.2.2.2.2.2.2.2.2.2.2.2.2.2.2.2.1.2 d1_21 ?_
  refine iAstore C d1_22 (Ls' := #[(.val (.ref ga1)), (.val (.ref ga2)), (.val (.ref ga3)), (.val (.int (4 : Int32))), (.val (.int (2 : Int32))), (.val (.ref ga5))]) rfl rfl ?_
  refine iAload C d1_24 rfl rfl ?_
  refine iGetF C tw12 (G.2.2.2.2.2.2.2.2.2.2.2.2.2.2.2.2.2.2.2.2.1.ext O.2) d1_26 ?_
  refine iAloadN C d1_29 rfl rfl ?_
  refine iAcmpT C (t := 36) d1_30 rfl rfl (acNr (Fld.ne G.2.2.2.2.2.2.2.2.2.2.2.2.2.2.2.2.2.2.2.2.2.1 G.2.2.2.2.2.2.2.2.2.2.2.2.2.2.2.2.2.2.2.2.2.2.1 (by simp))).2 ⟨by decide, by decide⟩ ?_
  refine iIinc C d1_36 rfl (v := (3 : Int32)) (by decide) (Ls' := #[(.val (.ref ga1)), (.val (.ref ga2)), (.val (.ref ga3)), (.val (.int (4 : Int32))), (.val (.int (3 : Int32))), (.val (.ref ga5))]) rfl ?_
  refine iGoto C (t := 12) d1_39 ⟨by decide, by decide⟩ ?_
  refine iIload C d1_12 rfl ?_
  refine iIloadN C d1_14 rfl ?_
  refine iCmpF C d1_15 (by decide) ?_
  refine iAloadN C d1_18 rfl rfl ?_
  refine iIload C d1_19 rfl ?_
  refine iAaload C (v := (.ref ga7)) rfl (G.2.2.2.2.2.1.ext O.2) G.2.2.2.2.2.2.2.2.2.2.2.2.2.2.2.2.2.2.2.2.2.2.2.1.1 G.2.2.2.2.2.2.2.2.2.2.2.2.2.2.2.2.2.2.2.2.2.2.2.1.2 d1_21 ?_
  refine iAstore C d1_22 (Ls' := #[(.val (.ref ga1)), (.val (.ref ga2)), (.val (.ref ga3)), (.val (.int (4 : Int32))), (.val (.int (3 : Int32))), (.val (.ref ga7))]) rfl rfl ?_
  refine iAload C d1_24 rfl rfl ?_
  refine iGetF C tw12 (G.2.2.2.2.2.2.2.2.2.2.2.2.2.2.2.2.2.2.2.2.2.2.2.2.ext O.2) d1_26 ?_
  refine iAloadN C d1_29 rfl rfl ?_
  refine iAcmpT C (t := 36) d1_30 rfl rfl (acNr (Fld.ne G.2.2.2.2.2.2.2.2.2.2.2.2.2.2.2.2.2.2.2.2.2.1 G.2.2.2.2.2.2.2.2.2.2.2.2.2.2.2.2.2.2.2.2.2.2.1 (by simp))).2 ⟨by decide, by decide⟩ ?_
  refine iIinc C d1_36 rfl (v := (4 : Int32)) (by decide) (Ls' := #[(.val (.ref ga1)), (.val (.ref ga2)), (.val (.ref ga3)), (.val (.int (4 : Int32))), (.val (.int (4 : Int32))), (.val (.ref ga7))]) rfl ?_
  refine iGoto C (t := 12) d1_39 ⟨by decide, by decide⟩ ?_
  refine iIload C d1_12 rfl ?_
  refine iIloadN C d1_14 rfl ?_
  refine iCmpT C (t := 42) d1_15 (by decide) ⟨by decide, by decide⟩ ?_
  refine iAloadN C d1_42 rfl rfl ?_
  refine iRetA C d1_43 rfl rfl rfl ⟨by decide, by decide⟩ ?_
  exact ⟨rfl, rfl⟩
theorem ef_rm1_1 (m : MethodId) (x0 : Addr) : entryFrame m #[(.ref x0)] 6 = mkF m 0 #[(.val (.ref x0)), .unset, .unset, .unset, .unset, .unset] [] := by first | (simp [entryFrame, mkF, argsToLocals, Value.category]; done) | rfl
set_option maxRecDepth 65536 in
set_option maxHeartbeats 4000000 in
theorem rm1_1 {l : Launch} {Z : State} {a0 : Array Value} (hw : ∀ d ∈ tables_1, d.before a0 Z = true) {n0 : Nat} {h0 : Heap}  {ga1 ga2 ga3 ga4 ga5 ga6 ga7 : Addr} {gc3 : Cell} (G : GG Z ga1 ga2 ga3 ga4 ga5 ga6 ga7 gc3) (O : Old Z n0 h0) :
    Pays l Z (⟨"com/example/kilit/kilit/engine/StandardIsolationLevel", "of", "(Lcom/example/kilit/kilit/engine/IsolationLevel;)Lcom/example/kilit/kilit/engine/StandardIsolationLevel;"⟩ : MethodName) prog_86_method_5_code 6 (some (.object "com/example/kilit/kilit/engine/StandardIsolationLevel")) ({ frames := 0, cells := 0, slots := 0, locals := 0 } : Room) #[(.ref ga6)] n0 h0 (QP (some (.ref ga7)) h0) := by
  refine Pays.of hw (plainFor_of_name pn0) (fun m => ef_rm1_1 m ga6) fun B C => ?_
  refine iNull C d1_0 ?_
  refine iAstoreN C d1_1 (Ls' := #[(.val (.ref ga6)), (.val .null), .unset, .unset, .unset, .unset]) rfl rfl ?_
  refine iGetS C tw9 (G.2.2.2.2.1.ext O.2) d1_2 ?_
  refine iAstoreN C d1_5 (Ls' := #[(.val (.ref ga6)), (.val .null), (.val (.ref ga3)), .unset, .unset, .unset]) rfl rfl ?_
  refine iAloadN C d1_6 rfl rfl ?_
  refine iLen C (G.2.2.2.2.2.1.ext O.2) G.2.2.2.2.2.2.2.2.2.2.2.2.2.2.1 d1_7 ?_
  refine iIstoreN C d1_8 (Ls' := #[(.val (.ref ga6)), (.val .null), (.val (.ref ga3)), (.val (.int (4 : Int32))), .unset, .unset]) rfl ?_
  refine iIconst C d1_9 (v := (0 : Int32)) (by decide) ?_
  refine iIstore C d1_10 (Ls' := #[(.val (.ref ga6)), (.val .null), (.val (.ref ga3)), (.val (.int (4 : Int32))), (.val (.int (0 : Int32))), .unset]) rfl ?_
  refine iIload C d1_12 rfl ?_
  refine iIloadN C d1_14 rfl ?_
  refine iCmpF C d1_15 (by decide) ?_
  refine iAloadN C d1_18 rfl rfl ?_
  refine iIload C d1_19 rfl ?_
  refine iAaload C (v := (.ref ga4)) rfl (G.2.2.2.2.2.1.ext O.2) G.2.2.2.2.2.2.2.2.2.2.2.2.2.2.2.1.1 G.2.2.2.2.2.2.2.2.2.2.2.2.2.2.2.1.2 d1_21 ?_
  refine iAstore C d1_22 (Ls' := #[(.val (.ref ga6)), (.val .null), (.val (.ref ga3)), (.val (.int (4 : Int32))), (.val (.int (0 : Int32))), (.val (.ref ga4))]) rfl rfl ?_
  refine iAload C d1_24 rfl rfl ?_
  refine iGetF C tw12 (G.2.2.2.2.2.2.2.2.2.2.2.2.2.2.2.2.1.ext O.2) d1_26 ?_
  refine iAloadN C d1_29 rfl rfl ?_
  refine iAcmpT C (t := 36) d1_30 rfl rfl (acNr (Fld.ne G.2.2.2.2.2.2.2.2.2.2.2.2.2.2.2.2.2.2.2.2.2.2.1 G.2.2.2.2.2.2.2.2.2.2.2.2.2.2.2.2.2.2.2.2.2.1 (by simp))).2 ⟨by decide, by decide⟩ ?_
  refine iIinc C d1_36 rfl (v := (1 : Int32)) (by decide) (Ls' := #[(.val (.ref ga6)), (.val .null), (.val (.ref ga3)), (.val (.int (4 : Int32))), (.val (.int (1 : Int32))), (.val (.ref ga4))]) rfl ?_
  refine iGoto C (t := 12) d1_39 ⟨by decide, by decide⟩ ?_
  refine iIload C d1_12 rfl ?_
  refine iIloadN C d1_14 rfl ?_
  refine iCmpF C d1_15 (by decide) ?_
  refine iAloadN C d1_18 rfl rfl ?_
  refine iIload C d1_19 rfl ?_
  refine iAaload C (v := (.ref ga2)) rfl (G.2.2.2.2.2.1.ext O.2) G.2.2.2.2.2.2.2.2.2.2.2.2.2.2.2.2.2.1.1 G.2.2.2.2.2.2.2.2.2.2.2.2.2.2.2.2.2.1.2 d1_21 ?_
  refine iAstore C d1_22 (Ls' := #[(.val (.ref ga6)), (.val .null), (.val (.ref ga3)), (.val (.int (4 : Int32))), (.val (.int (1 : Int32))), (.val (.ref ga2))]) rfl rfl ?_
  refine iAload C d1_24 rfl rfl ?_
  refine iGetF C tw12 (G.2.2.2.2.2.2.2.2.2.2.2.2.2.2.2.2.2.2.1.ext O.2) d1_26 ?_
  refine iAloadN C d1_29 rfl rfl ?_
  refine iAcmpT C (t := 36) d1_30 rfl rfl (acNr (Fld.ne G.2.2.2.2.2.2.2.2.2.2.2.2.2.2.2.2.2.2.2.2.2.2.1 G.2.2.2.2.2.2.2.2.2.2.2.2.2.2.2.2.2.2.2.2.2.1 (by simp))).2 ⟨by decide, by decide⟩ ?_
  refine iIinc C d1_36 rfl (v := (2 : Int32)) (by decide) (Ls' := #[(.val (.ref ga6)), (.val .null), (.val (.ref ga3)), (.val (.int (4 : Int32))), (.val (.int (2 : Int32))), (.val (.ref ga2))]) rfl ?_
  refine iGoto C (t := 12) d1_39 ⟨by decide, by decide⟩ ?_
  refine iIload C d1_12 rfl ?_
  refine iIloadN C d1_14 rfl ?_
  refine iCmpF C d1_15 (by decide) ?_
  refine iAloadN C d1_18 rfl rfl ?_
  refine iIload C d1_19 rfl ?_
  refine iAaload C (v := (.ref ga5)) rfl (G.2.2.2.2.2.1.ext O.2) G.2.2.2.2.2.2.2.2.2.2.2.2.2.2.2.2.2.2.2.1.1 G.2.2.2.2.2.2.2.2.2.2.2.2.2.2.2.2.2.2.2.1.2 d1_21 ?_
  refine iAstore C d1_22 (Ls' := #[(.val (.ref ga6)), (.val .null), (.val (.ref ga3)), (.val (.int (4 : Int32))), (.val (.int (2 : Int32))), (.val (.ref ga5))]) rfl rfl ?_
  refine iAload C d1_24 rfl rfl ?_
  refine iGetF C tw12 (G.2.2.2.2.2.2.2.2.2.2.2.2.2.2.2.2.2.2.2.2.1.ext O.2) d1_26 ?_
  refine iAloadN C d1_29 rfl rfl ?_
  refine iAcmpF C d1_30 rfl rfl (acE rfl).2 ?_
  refine iAload C d1_33 rfl rfl ?_
  refine iAstoreN C d1_35 (Ls' := #[(.val (.ref ga6)), (.val (.ref ga5)), (.val (.ref ga3)), (.val (.int (4 : Int32))), (.val (.int (2 : Int32))), (.val (.ref ga5))]) rfl rfl ?_
  refine iIinc C d1_36 rfl (v := (3 : Int32)) (by decide) (Ls' := #[(.val (.ref ga6)), (.val (.ref ga5)), (.val (.ref ga3)), (.val (.int (4 : Int32))), (.val (.int (3 : Int32))), (.val (.ref ga5))]) rfl ?_
  refine iGoto C (t := 12) d1_39 ⟨by decide, by decide⟩ ?_
  refine iIload C d1_12 rfl ?_
  refine iIloadN C d1_14 rfl ?_
  refine iCmpF C d1_15 (by decide) ?_
  refine iAloadN C d1_18 rfl rfl ?_
  refine iIload C d1_19 rfl ?_
  refine iAaload C (v := (.ref ga7)) rfl (G.2.2.2.2.2.1.ext O.2) G.2.2.2.2.2.2.2.2.2.2.2.2.2.2.2.2.2.2.2.2.2.2.2.1.1 G.2.2.2.2.2.2.2.2.2.2.2.2.2.2.2.2.2.2.2.2.2.2.2.1.2 d1_21 ?_
  refine iAstore C d1_22 (Ls' := #[(.val (.ref ga6)), (.val (.ref ga5)), (.val (.ref ga3)), (.val (.int (4 : Int32))), (.val (.int (3 : Int32))), (.val (.ref ga7))]) rfl rfl ?_
  refine iAload C d1_24 rfl rfl ?_
  refine iGetF C tw12 (G.2.2.2.2.2.2.2.2.2.2.2.2.2.2.2.2.2.2.2.2.2.2.2.2.ext O.2) d1_26 ?_
  refine iAloadN C d1_29 rfl rfl ?_
  refine iAcmpF C d1_30 rfl rfl (acE rfl).2 ?_
  refine iAload C d1_33 rfl rfl ?_
  refine iAstoreN C d1_35 (Ls' := #[(.val (.ref ga6)), (.val (.ref ga7)), (.val (.ref ga3)), (.val (.int (4 : Int32))), (.val (.int (3 : Int32))), (.val (.ref ga7))]) rfl rfl ?_
  refine iIinc C d1_36 rfl (v := (4 : Int32)) (by decide) (Ls' := #[(.val (.ref ga6)), (.val (.ref ga7)), (.val (.ref ga3)), (.val (.int (4 : Int32))), (.val (.int (4 : Int32))), (.val (.ref ga7))]) rfl ?_
  refine iGoto C (t := 12) d1_39 ⟨by decide, by decide⟩ ?_
  refine iIload C d1_12 rfl ?_
  refine iIloadN C d1_14 rfl ?_
  refine iCmpT C (t := 42) d1_15 (by decide) ⟨by decide, by decide⟩ ?_
  refine iAloadN C d1_42 rfl rfl ?_
  refine iRetA C d1_43 rfl rfl rfl ⟨by decide, by decide⟩ ?_
  exact ⟨rfl, rfl⟩
theorem ef_rm2_0 (m : MethodId) (x0 : Addr) : entryFrame m #[(.ref x0)] 1 = mkF m 0 #[(.val (.ref x0))] [] := by first | (simp [entryFrame, mkF, argsToLocals, Value.category]; done) | rfl
set_option maxRecDepth 65536 in
set_option maxHeartbeats 4000000 in
theorem rm2_0 {l : Launch} {Z : State} {a0 : Array Value} (hw : ∀ d ∈ tables_1, d.before a0 Z = true) {n0 : Nat} {h0 : Heap}  {ga1 ga2 ga3 ga4 ga5 ga6 ga7 : Addr} {gc3 : Cell} (G : GG Z ga1 ga2 ga3 ga4 ga5 ga6 ga7 gc3) (O : Old Z n0 h0) :
    Pays l Z (⟨"com/example/kilit/kilit/engine/StandardIsolationLevel", "servedBy", "()Lcom/example/kilit/kilit/engine/IsolationLevel;"⟩ : MethodName) prog_86_method_4_code 1 (some (.object "com/example/kilit/kilit/engine/IsolationLevel")) ({ frames := 0, cells := 0, slots := 0, locals := 0 } : Room) #[(.ref ga2)] n0 h0 (QP (some (.ref ga1)) h0) := by
  refine Pays.of hw (plainFor_of_name pn0) (fun m => ef_rm2_0 m ga2) fun B C => ?_
  refine iAloadN C d2_0 rfl rfl ?_
  refine iGetF C tw12 (G.2.2.2.2.2.2.2.2.2.2.2.2.2.2.2.2.2.2.1.ext O.2) d2_1 ?_
  refine iRetA C d2_4 rfl rfl rfl ⟨by decide, by decide⟩ ?_
  exact ⟨rfl, rfl⟩
theorem ef_rm2_1 (m : MethodId) (x0 : Addr) : entryFrame m #[(.ref x0)] 1 = mkF m 0 #[(.val (.ref x0))] [] := by first | (simp [entryFrame, mkF, argsToLocals, Value.category]; done) | rfl
set_option maxRecDepth 65536 in
set_option maxHeartbeats 4000000 in
theorem rm2_1 {l : Launch} {Z : State} {a0 : Array Value} (hw : ∀ d ∈ tables_1, d.before a0 Z = true) {n0 : Nat} {h0 : Heap}  {ga1 ga2 ga3 ga4 ga5 ga6 ga7 : Addr} {gc3 : Cell} (G : GG Z ga1 ga2 ga3 ga4 ga5 ga6 ga7 gc3) (O : Old Z n0 h0) :
    Pays l Z (⟨"com/example/kilit/kilit/engine/StandardIsolationLevel", "servedBy", "()Lcom/example/kilit/kilit/engine/IsolationLevel;"⟩ : MethodName) prog_86_method_4_code 1 (some (.object "com/example/kilit/kilit/engine/IsolationLevel")) ({ frames := 0, cells := 0, slots := 0, locals := 0 } : Room) #[(.ref ga7)] n0 h0 (QP (some (.ref ga6)) h0) := by
  refine Pays.of hw (plainFor_of_name pn0) (fun m => ef_rm2_1 m ga7) fun B C => ?_
  refine iAloadN C d2_0 rfl rfl ?_
  refine iGetF C tw12 (G.2.2.2.2.2.2.2.2.2.2.2.2.2.2.2.2.2.2.2.2.2.2.2.2.ext O.2) d2_1 ?_
  refine iRetA C d2_4 rfl rfl rfl ⟨by decide, by decide⟩ ?_
  exact ⟨rfl, rfl⟩
theorem ef_rm0 (m : MethodId) (x0 : Int32) : entryFrame m #[(.int x0)] maxLocals = mkF m 0 #[(.val (.int x0)), .unset, .unset, .unset, .unset] [] := by first | (simp [entryFrame, mkF, argsToLocals, Value.category, maxLocals]; done) | rfl
set_option maxRecDepth 65536 in
set_option maxHeartbeats 4000000 in
theorem rm0 {l : Launch} {Z : State} {a0 : Array Value} (hw : ∀ d ∈ tables_1, d.before a0 Z = true) {n0 : Nat} {h0 : Heap} (p : Int32) {ga1 ga2 ga3 ga4 ga5 ga6 ga7 : Addr} {gc3 : Cell} (G : GG Z ga1 ga2 ga3 ga4 ga5 ga6 ga7 gc3) (O : Old Z n0 h0) :
    Pays l Z x code maxLocals ret room_1 #[(.int p)] n0 h0 (fun v _ => v = some (.int 1)) := by
  refine Pays.of hw (plainFor_of_name pn1) (fun m => ef_rm0 m p) fun B C => ?_
  refine iIloadN C d0_0 rfl ?_
  refine iIconst C d0_1 (v := (1 : Int32)) (by decide) ?_
  refine iIand C d0_2 rfl ?_
  by_cases hc1 : (p &&& (1 : Int32)) = (0 : Int32)
  · refine iIfT C (t := 10) d0_3 ((if0 _ _).trans (teq hc1).1) ⟨by decide, by decide⟩ ?_
    refine iIconst C d0_10 (v := (0 : Int32)) (by decide) ?_
    refine iIstoreN C d0_11 (Ls' := #[(.val (.int p)), (.val (.int (0 : Int32))), .unset, .unset, .unset]) rfl ?_
    refine iIloadN C d0_12 rfl ?_
    refine iIfT C (t := 22) d0_13 (by decide) ⟨by decide, by decide⟩ ?_
    refine iGetS C tw0 (G.1.ext O.2) d0_22 ?_
    refine iAstoreN C d0_25 (Ls' := #[(.val (.int p)), (.val (.int (0 : Int32))), (.val (.ref ga1)), .unset, .unset]) rfl rfl ?_
    refine iIloadN C d0_26 rfl ?_
    refine iIfT C (t := 36) d0_27 (by decide) ⟨by decide, by decide⟩ ?_
    refine iGetS C tw3 (G.2.2.1.ext O.2) d0_36 ?_
    refine iAstoreN C d0_39 (Ls' := #[(.val (.int p)), (.val (.int (0 : Int32))), (.val (.ref ga1)), (.val (.ref ga2)), .unset]) rfl rfl ?_
    refine iAloadN C d0_40 rfl rfl ?_
    refine iCallS C (rm1_0 hw G O) tw6 tw7 tw4 tw8 ⟨by decide, by decide⟩ (argsL := [(.ref ga1)]) (S' := []) (lenOf pd0 rfl) rfl rfl d0_41 rfl (W := 0) rfl ⟨by decide, by decide, rfl, rfl, by decide, by decide⟩ fun v2 h2 q2 => ?_
    obtain ⟨rfl, rfl⟩ := q2
    show Go B n0 _ h0 0 0 44 #[(.val (.int p)), (.val (.int (0 : Int32))), (.val (.ref ga1)), (.val (.ref ga2)), .unset] [(.ref ga2)]
    refine iAstore C d0_44 (Ls' := #[(.val (.int p)), (.val (.int (0 : Int32))), (.val (.ref ga1)), (.val (.ref ga2)), (.val (.ref ga2))]) rfl rfl ?_
    refine iAload C d0_46 rfl rfl ?_
    refine iAloadN C d0_48 rfl rfl ?_
    refine iAcmpT C (t := 54) d0_49 rfl rfl (acE rfl).1 ⟨by decide, by decide⟩ ?_
    refine iAload C d0_54 rfl rfl ?_
    refine iCallV C (rm2_0 hw G O) (G.2.2.2.1.ext O.2) tw17 tw18 (Or.inl rfl) tw20 tw19 tw4 tw21 ⟨by decide, by decide⟩ (argsL := []) (S' := []) (lenOf pd1 rfl) rfl rfl d0_56 rfl (W := 0) rfl ⟨by decide, by decide, rfl, rfl, by decide, by decide⟩ fun v3 h3 q3 => ?_
    obtain ⟨rfl, rfl⟩ := q3
    show Go B n0 _ h0 0 0 59 #[(.val (.int p)), (.val (.int (0 : Int32))), (.val (.ref ga1)), (.val (.ref ga2)), (.val (.ref ga2))] [(.ref ga1)]
    refine iAloadN C d0_59 rfl rfl ?_
    refine iAcmpF C d0_60 rfl rfl (acE rfl).2 ?_
    refine iIconst C d0_63 (v := (1 : Int32)) (by decide) ?_
    refine iGoto C (t := 68) d0_64 ⟨by decide, by decide⟩ ?_
    refine iRetZ C d0_68 (by simp) ⟨by decide, by decide⟩ ?_
    exact rfl
  · refine iIfF C d0_3 ((if0 _ _).trans (feq hc1).1) ?_
    refine iIconst C d0_6 (v := (1 : Int32)) (by decide) ?_
    refine iGoto C (t := 11) d0_7 ⟨by decide, by decide⟩ ?_
    refine iIstoreN C d0_11 (Ls' := #[(.val (.int p)), (.val (.int (1 : Int32))), .unset, .unset, .unset]) rfl ?_
    refine iIloadN C d0_12 rfl ?_
    refine iIfF C d0_13 (by decide) ?_
    refine iGetS C tw22 (G.2.2.2.2.2.2.2.2.2.2.1.ext O.2) d0_16 ?_
    refine iGoto C (t := 25) d0_19 ⟨by decide, by decide⟩ ?_
    refine iAstoreN C d0_25 (Ls' := #[(.val (.int p)), (.val (.int (1 : Int32))), (.val (.ref ga6)), .unset, .unset]) rfl rfl ?_
    refine iIloadN C d0_26 rfl ?_
    refine iIfF C d0_27 (by decide) ?_
    refine iGetS C tw23 (G.2.2.2.2.2.2.2.2.2.2.2.2.1.ext O.2) d0_30 ?_
    refine iGoto C (t := 39) d0_33 ⟨by decide, by decide⟩ ?_
    refine iAstoreN C d0_39 (Ls' := #[(.val (.int p)), (.val (.int (1 : Int32))), (.val (.ref ga6)), (.val (.ref ga7)), .unset]) rfl rfl ?_
    refine iAloadN C d0_40 rfl rfl ?_
    refine iCallS C (rm1_1 hw G O) tw6 tw7 tw4 tw8 ⟨by decide, by decide⟩ (argsL := [(.ref ga6)]) (S' := []) (lenOf pd0 rfl) rfl rfl d0_41 rfl (W := 0) rfl ⟨by decide, by decide, rfl, rfl, by decide, by decide⟩ fun v4 h4 q4 => ?_
    obtain ⟨rfl, rfl⟩ := q4
    show Go B n0 _ h0 0 0 44 #[(.val (.int p)), (.val (.int (1 : Int32))), (.val (.ref ga6)), (.val (.ref ga7)), .unset] [(.ref ga7)]
    refine iAstore C d0_44 (Ls' := #[(.val (.int p)), (.val (.int (1 : Int32))), (.val (.ref ga6)), (.val (.ref ga7)), (.val (.ref ga7))]) rfl rfl ?_
    refine iAload C d0_46 rfl rfl ?_
    refine iAloadN C d0_48 rfl rfl ?_
    refine iAcmpT C (t := 54) d0_49 rfl rfl (acE rfl).1 ⟨by decide, by decide⟩ ?_
    refine iAload C d0_54 rfl rfl ?_
    refine iCallV C (rm2_1 hw G O) (G.2.2.2.2.2.2.2.2.2.2.2.2.2.1.ext O.2) tw17 tw18 (Or.inl rfl) tw20 tw19 tw4 tw21 ⟨by decide, by decide⟩ (argsL := []) (S' := []) (lenOf pd1 rfl) rfl rfl d0_56 rfl (W := 0) rfl ⟨by decide, by decide, rfl, rfl, by decide, by decide⟩ fun v5 h5 q5 => ?_
    obtain ⟨rfl, rfl⟩ := q5
    show Go B n0 _ h0 0 0 59 #[(.val (.int p)), (.val (.int (1 : Int32))), (.val (.ref ga6)), (.val (.ref ga7)), (.val (.ref ga7))] [(.ref ga6)]
    refine iAloadN C d0_59 rfl rfl ?_
    refine iAcmpF C d0_60 rfl rfl (acE rfl).2 ?_
    refine iIconst C d0_63 (v := (1 : Int32)) (by decide) ?_
    refine iGoto C (t := 68) d0_64 ⟨by decide, by decide⟩ ?_
    refine iRetZ C d0_68 (by simp) ⟨by decide, by decide⟩ ?_
    exact rfl
set_option maxRecDepth 65536 in
set_option maxHeartbeats 4000000 in
theorem comes_1 {Post : Tables → Env → Array Value → State → Outcome → State → Prop} (hpost : ∀ tb e args s v u, (limb_1_1.after args s (.returned v) u = true ∧ limb_1_2.after args s (.returned v) u = true ∧ True) → FrameEnd s (.returned v) u (Jvm.fieldLocs frame_1_writes args s ++ Jvm.arrayLocs frame_1_arrays args s ++ Jvm.staticLocs frame_1_statics s) 0 0 → Post tb e args s (.returned v) u) :
    ArmFor flags0 classFile x code maxLocals ret World_1 tables_1 room_1 Calls_1 rest_1 Pre_1 Post := by
  intro l hfl _ _ p e ha hc hk s m args below hf hA hF happ hP
  obtain ⟨hcalls, hrest, hpre⟩ := hP
  obtain ⟨-, -, -, hnamed, -, -, -, hat⟩ := (Spec.applies_iff hf).mp happ
  obtain ⟨hg, hn⟩ := and_e (Cond.before_iff.mp (show (Jvm.Cond.and given_1 narrow_1).before args s = true from hpre))
  obtain ⟨hg_1, hg_2⟩ := and_e hg
  obtain ⟨w0, rfl⟩ : ∃ w0 : Value, args = #[w0] := by
    have hs : args.size = 1 := by simpa [Cond.value, given_1] using hg_1
    obtain ⟨L⟩ := args
    match L, hs with
    | [w0], _ => exact ⟨w0, rfl⟩
  have hw := fun d (hd : d ∈ tables_1) => atoms_spec (ws := Jvm.Cond.code x code maxLocals ret :: tables_1) hat d (List.mem_cons_of_mem _ hd)
  have hfit : Fit s := fun {y c} hc i hi => by
    obtain ⟨ha, rfl⟩ := Array.getElem?_eq_some_iff.mp hc
    have q := List.all_eq_true.mp ((Array.all_eq_true_iff_forall_mem.mp hF) _ (Array.getElem_mem ha)) i (List.mem_range.mpr hi)
    simpa [Array.getElem?_eq_getElem hi] using q
  obtain ⟨i0, ei0⟩ := is_v hg_2
  obtain rfl : w0 = (.int i0) := Option.some.inj ei0
  obtain ⟨hn_1, hn_2⟩ := and_e hn
  obtain ⟨hn_3, hn_4⟩ := and_e hn_2
  obtain ⟨hn_5, hn_6⟩ := and_e hn_4
  obtain ⟨hn_7, hn_8⟩ := and_e hn_6
  obtain ⟨hn_9, hn_10⟩ := and_e hn_8
  obtain ⟨hn_11, hn_12⟩ := and_e hn_10
  obtain ⟨hn_13, hn_14⟩ := and_e hn_12
  obtain ⟨hn_15, hn_16⟩ := and_e hn_14
  obtain ⟨hn_17, hn_18⟩ := and_e hn_16
  obtain ⟨hn_19, hn_20⟩ := and_e hn_18
  obtain ⟨hn_21, hn_22⟩ := and_e hn_20
  obtain ⟨hn_23, hn_24⟩ := and_e hn_22
  obtain ⟨hn_25, hn_26⟩ := and_e hn_24
  obtain ⟨hn_27, hn_28⟩ := and_e hn_26
  obtain ⟨hn_29, hn_30⟩ := and_e hn_28
  obtain ⟨hn_31, hn_32⟩ := and_e hn_30
  obtain ⟨hn_33, hn_34⟩ := and_e hn_32
  obtain ⟨ga1, ge1⟩ := exa_v hn_1
  obtain ⟨ga2, ge2⟩ := exa_v hn_3
  obtain ⟨ga3, ge3⟩ := arr_v hn_5
  obtain ⟨gc3, gA3⟩ := Arr.start ge3 hn_5
  obtain ⟨ga4, ge4⟩ := exa_v hn_9
  obtain ⟨ga5, ge5⟩ := exa_v hn_19
  obtain ⟨ga6, ge6⟩ := exa_v hn_23
  obtain ⟨ga7, ge7⟩ := exa_v hn_31
  have G : GG s ga1 ga2 ga3 ga4 ga5 ga6 ga7 gc3 := ⟨Sta.start ge1 (Or.inr ⟨hw _ tw1, hw _ tw2⟩), Exa.start ge1 hn_1, Sta.start ge2 (Or.inr ⟨hw _ tw4, hw _ tw5⟩), Exa.start ge2 hn_3, Sta.start ge3 (Or.inr ⟨hw _ tw4, hw _ tw10⟩), gA3, Sta.start ge4 (Or.inr ⟨hw _ tw4, hw _ tw11⟩), Exa.start ge4 hn_9, Sta.start ge5 (Or.inr ⟨hw _ tw4, hw _ tw14⟩), Exa.start ge5 hn_19, Sta.start ge6 (Or.inr ⟨hw _ tw1, hw _ tw15⟩), Exa.start ge6 hn_23, Sta.start ge7 (Or.inr ⟨hw _ tw4, hw _ tw16⟩), Exa.start ge7 hn_31, oLen (eqI_v hn_7) ge3 gA3.1, elem_in (eqQ_v hn_11 ge4) ge3 (Term.int_eval _) gA3.1, Fld.start ((fld_at ge4).symm.trans (eqQ_v hn_13 ge1)), elem_in (eqQ_v hn_15 ge2) ge3 (Term.int_eval _) gA3.1, Fld.start ((fld_at ge2).symm.trans (eqQ_v hn_17 ge1)), elem_in (eqQ_v hn_21 ge5) ge3 (Term.int_eval _) gA3.1, Fld.start ((fld_at ge5).symm.trans (eqQ_v hn_25 ge6)), Fld.start ((fld_at ge6).symm.trans (eqI_v hn_27)), Fld.start ((fld_at ge1).symm.trans (eqI_v hn_29)), elem_in (eqQ_v hn_33 ge7) ge3 (Term.int_eval _) gA3.1, Fld.start ((fld_at ge7).symm.trans (eqQ_v hn_34 ge6))⟩
  obtain ⟨n, o, h1, h2, h3, _, L, rfl, ⟨rfl, N⟩, hq⟩ := (rm0 (l := l) (Z := s) hw (n0 := s.heap.size) (h0 := s.heap) i0 G (Old.start s)) tables_1 p e ha hc hk s m _ below hf ((Spec.applies_iff_loose hf).mp happ).1 ⟨rfl, State.Warmed39.refl s, rfl⟩ trivial
  refine ⟨n, _, h1, h2, h3, hpost _ _ _ _ _ _ ⟨Cond.after_iff.mpr rfl, Cond.after_iff.mpr (eq_i res_at (Term.int_eval (1)) rfl), trivial⟩ ⟨hq.1, hq.2.1, (hq.2.2.sift fun y hy => Or.inr (N y hy)).mono (by decide) (by decide)⟩⟩
theorem main_1_1 : Claimed_1_1 := comes_1 fun _ _ _ _ _ _ h hF => ⟨h.1, hF⟩
theorem main_1_2 : Claimed_1_2 := comes_1 fun _ _ _ _ _ _ h hF => ⟨h.2.1, hF⟩
end Jvm.Pilot.@@N@@
namespace Jvm.Pilot.@@N@@
open Jvm Jvm.ClassFile Sem Op Lib Jvm.Free Jvm.Stand Jvm.Pilot.@@N@@.Jvm.D
/-! MADE BY PROGRAM (witnessworld.py) out of the Statement's table words and the real class files: 14 classes; the members and pool entries that the words name. The judged class is class 1, her method 1. -/
namespace start1
open Jvm.ClassFile
def u (s : String) : CpInfo := .utf8 (stringToUtf16 s)
/-- a pool by its gaps: so many unusable entries, then the entry; so many at the end -/
def gap : Nat → List CpInfo → List CpInfo
  | 0, r => r
  | n + 1, r => .unusable :: gap n r
def poolList (es : List (Nat × CpInfo)) (last : Nat) : List CpInfo := es.foldr (fun e r => gap e.1 (e.2 :: r)) (gap last [])
def pool (es : List (Nat × CpInfo)) (last : Nat) : Array CpInfo := ⟨poolList es last⟩
def fileOf (pool : Array CpInfo) (this : Nat) (attrs : Array Attribute := #[]) (ms : Array MethodInfo := #[]) (fl : Nat := 33) (sup : Nat := 0) (ifs : Array Nat := #[]) (fds : Array FieldInfo := #[]) : ClassFile where
  minorVersion := 0
  majorVersion := 65
  constantPool := pool
  accessFlags := fl
  thisClass := this
  superClass := sup
  interfaces := ifs
  fields := fds
  methods := ms
  attributes := attrs
def plain (name : String) (sup : Option ClassId) : Class where
  name := name
  kind := .ordinary
  loader := none
  accessFlags := 33
  super := sup
  interfaces := #[]
  cf := none
  fields := #[]
  methods := #[]
  instanceTypes := #[]
  staticTypes := #[]
  resolved := #[]
  callSites := []
  init := .initialized
  statics := none
  mirror := none

def pool0 : Array CpInfo := pool [(5, u "<init>"), (0, u "()V"), (1, .class_ 10), (1, u "java/lang/Object")] 113

def k0m0 : Method := { name := "<init>", desc := "()V", sig := { parameters := [], returnType := none }, accessFlags := 1, code := none }
/-- java/lang/Object -/
def k0 : Class := { plain "java/lang/Object" none with
  accessFlags := 33
  interfaces := #[]
  cf := some (fileOf pool0 8 #[] #[{ accessFlags := 1, nameIndex := 5, descriptorIndex := 6, attributes := #[] }] 33 0 #[] #[])
  fields := #[]
  methods := #[k0m0]
  instanceTypes := #[]
  staticTypes := #[]
  resolved := Array.replicate 124 none
  statics := none }

def pool1 : Array CpInfo := pool [(2, .class_ 4), (1, u "java/lang/Object"), (0, u "<init>"), (0, u "()V"), (0, .fieldref 8 9), (0, .class_ 10), (0, .nameAndType 11 12), (0, u "com/example/kilit/kilit/engine/IsolationLevel"), (0, u "SERIALIZABLE"), (0, u "Lcom/example/kilit/kilit/engine/IsolationLevel;"), (0, .fieldref 8 14), (0, .nameAndType 15 12), (0, u "READ_COMMITTED"), (0, .fieldref 17 18), (0, .class_ 19), (0, .nameAndType 11 20), (0, u "com/example/kilit/kilit/engine/StandardIsolationLevel"), (0, u "Lcom/example/kilit/kilit/engine/StandardIsolationLevel;"), (0, .fieldref 17 22), (0, .nameAndType 15 20), (0, .methodref 17 24), (0, .nameAndType 25 26), (0, u "of"), (0, u "(Lcom/example/kilit/kilit/engine/IsolationLevel;)Lcom/example/kilit/kilit/engine/StandardIsolationLevel;"), (0, .methodref 17 28), (0, .nameAndType 29 30), (0, u "servedBy"), (0, u "()Lcom/example/kilit/kilit/engine/IsolationLevel;"), (0, .class_ 32), (0, u "com/example/kilit/kilit/engine/StandardIsolationLevelOfPinLaw"), (2, u "law"), (0, u "(I)Z")] 3

def k1m0 : Method := { name := "<init>", desc := "()V", sig := { parameters := [], returnType := none }, accessFlags := 1, code := none }
def k1c1 : Code := { maxStack := 2, maxLocals := 5, code := code, exceptionTable := #[], attributes := #[] }
def k1m1 : Method := { name := "law", desc := "(I)Z", sig := { parameters := [.int], returnType := some .boolean }, accessFlags := 9, code := some k1c1 }
/-- com/example/kilit/kilit/engine/StandardIsolationLevelOfPinLaw -/
def k1 : Class := { plain "com/example/kilit/kilit/engine/StandardIsolationLevelOfPinLaw" (some 0) with
  accessFlags := 49
  interfaces := #[]
  cf := some (fileOf pool1 31 #[] #[{ accessFlags := 1, nameIndex := 5, descriptorIndex := 6, attributes := #[] }, { accessFlags := 9, nameIndex := 35, descriptorIndex := 36, attributes := #[] }] 49 2 #[] #[])
  fields := #[]
  methods := #[k1m0, k1m1]
  instanceTypes := #[]
  staticTypes := #[]
  resolved := Array.replicate 40 none
  statics := none }

def pool2 : Array CpInfo := pool [(1, .class_ 2), (0, u "java/lang/constant/Constable"), (0, .class_ 4), (0, u "java/lang/Object")] 6

/-- java/lang/constant/Constable -/
def k2 : Class := { plain "java/lang/constant/Constable" (some 0) with
  accessFlags := 1537
  interfaces := #[]
  cf := some (fileOf pool2 1 #[] #[] 1537 3 #[] #[])
  fields := #[]
  methods := #[]
  instanceTypes := #[]
  staticTypes := #[]
  resolved := Array.replicate 11 none
  statics := none }

def pool3 : Array CpInfo := pool [(1, .class_ 2), (0, u "java/lang/Comparable"), (0, .class_ 4), (0, u "java/lang/Object")] 7

/-- java/lang/Comparable -/
def k3 : Class := { plain "java/lang/Comparable" (some 0) with
  accessFlags := 1537
  interfaces := #[]
  cf := some (fileOf pool3 1 #[] #[] 1537 3 #[] #[])
  fields := #[]
  methods := #[]
  instanceTypes := #[]
  staticTypes := #[]
  resolved := Array.replicate 12 none
  statics := none }

def pool4 : Array CpInfo := pool [(1, .class_ 2), (0, u "java/io/Serializable"), (0, .class_ 4), (0, u "java/lang/Object")] 2

/-- java/io/Serializable -/
def k4 : Class := { plain "java/io/Serializable" (some 0) with
  accessFlags := 1537
  interfaces := #[]
  cf := some (fileOf pool4 1 #[] #[] 1537 3 #[] #[])
  fields := #[]
  methods := #[]
  instanceTypes := #[]
  staticTypes := #[]
  resolved := Array.replicate 7 none
  statics := none }

def pool5 : Array CpInfo := pool [(2, .class_ 4), (1, u "java/lang/Enum"), (0, u "name"), (0, u "Ljava/lang/String;"), (2, u "ordinal"), (0, u "I"), (1, .class_ 14), (1, u "java/lang/Object"), (4, u "hash"), (86, .class_ 108), (1, u "java/lang/Enum$EnumDesc"), (2, .class_ 112), (0, u "java/lang/constant/Constable"), (0, .class_ 114), (0, u "java/lang/Comparable"), (0, .class_ 116), (0, u "java/io/Serializable")] 87

/-- java/lang/Enum -/
def k5 : Class := { plain "java/lang/Enum" (some 0) with
  accessFlags := 1057
  interfaces := #[2, 3, 4]
  cf := some (fileOf pool5 2 #[.nestMembers #[106]] #[] 1057 12 #[111, 113, 115] #[{ accessFlags := 18, nameIndex := 5, descriptorIndex := 6, attributes := #[] }, { accessFlags := 18, nameIndex := 9, descriptorIndex := 10, attributes := #[] }, { accessFlags := 2, nameIndex := 19, descriptorIndex := 10, attributes := #[] }])
  fields := #[{ name := "name", type := (.object "java/lang/String"), accessFlags := 18, slot := 0, constantValue := 0 }, { name := "ordinal", type := .int, accessFlags := 18, slot := 1, constantValue := 0 }, { name := "hash", type := .int, accessFlags := 2, slot := 2, constantValue := 0 }]
  methods := #[]
  instanceTypes := #[(.object "java/lang/String"), .int, .int]
  staticTypes := #[]
  resolved := Array.replicate 204 none
  statics := none }

def pool6 : Array CpInfo := pool [(1, .class_ 2), (0, u "com/example/kilit/kilit/engine/IsolationLevel"), (2, u "READ_COMMITTED"), (0, u "Lcom/example/kilit/kilit/engine/IsolationLevel;"), (2, u "SERIALIZABLE"), (2, u "$VALUES"), (0, u "[Lcom/example/kilit/kilit/engine/IsolationLevel;"), (6, .class_ 22), (1, u "java/lang/Enum")] 24

/-- com/example/kilit/kilit/engine/IsolationLevel -/
def k6 : Class := { plain "com/example/kilit/kilit/engine/IsolationLevel" (some 5) with
  accessFlags := 16433
  interfaces := #[]
  cf := some (fileOf pool6 1 #[] #[] 16433 20 #[] #[{ accessFlags := 16409, nameIndex := 5, descriptorIndex := 6, attributes := #[] }, { accessFlags := 16409, nameIndex := 9, descriptorIndex := 6, attributes := #[] }, { accessFlags := 4122, nameIndex := 12, descriptorIndex := 13, attributes := #[] }])
  fields := #[{ name := "READ_COMMITTED", type := (.object "com/example/kilit/kilit/engine/IsolationLevel"), accessFlags := 16409, slot := 0, constantValue := 0 }, { name := "SERIALIZABLE", type := (.object "com/example/kilit/kilit/engine/IsolationLevel"), accessFlags := 16409, slot := 1, constantValue := 0 }, { name := "$VALUES", type := (.array (.object "com/example/kilit/kilit/engine/IsolationLevel")), accessFlags := 4122, slot := 2, constantValue := 0 }]
  methods := #[]
  instanceTypes := #[(.object "java/lang/String"), .int, .int]
  staticTypes := #[(.object "com/example/kilit/kilit/engine/IsolationLevel"), (.object "com/example/kilit/kilit/engine/IsolationLevel"), (.array (.object "com/example/kilit/kilit/engine/IsolationLevel"))]
  resolved := Array.replicate 47 none
  statics := some 0 }

def pool7 : Array CpInfo := pool [(1, .class_ 2), (0, u "com/example/kilit/kilit/engine/StandardIsolationLevel"), (2, u "READ_UNCOMMITTED"), (0, u "Lcom/example/kilit/kilit/engine/StandardIsolationLevel;"), (2, u "READ_COMMITTED"), (2, u "REPEATABLE_READ"), (2, u "SERIALIZABLE"), (2, u "$VALUES"), (0, u "[Lcom/example/kilit/kilit/engine/StandardIsolationLevel;"), (6, .class_ 28), (1, u "java/lang/Enum"), (6, .fieldref 1 36), (0, .nameAndType 37 38), (0, u "servedBy"), (0, u "Lcom/example/kilit/kilit/engine/IsolationLevel;"), (0, .fieldref 1 40), (0, .nameAndType 41 19), (0, u "LEVELS"), (26, u "()Lcom/example/kilit/kilit/engine/IsolationLevel;"), (0, u "of"), (0, u "(Lcom/example/kilit/kilit/engine/IsolationLevel;)Lcom/example/kilit/kilit/engine/StandardIsolationLevel;")] 6

def k7c0 : Code := { maxStack := 1, maxLocals := 1, code := prog_86_method_4_code, exceptionTable := #[], attributes := #[] }
def k7m0 : Method := { name := "servedBy", desc := "()Lcom/example/kilit/kilit/engine/IsolationLevel;", sig := { parameters := [], returnType := some (.object "com/example/kilit/kilit/engine/IsolationLevel") }, accessFlags := 1, code := some k7c0 }
def k7c1 : Code := { maxStack := 2, maxLocals := 6, code := prog_86_method_5_code, exceptionTable := #[], attributes := #[] }
def k7m1 : Method := { name := "of", desc := "(Lcom/example/kilit/kilit/engine/IsolationLevel;)Lcom/example/kilit/kilit/engine/StandardIsolationLevel;", sig := { parameters := [(.object "com/example/kilit/kilit/engine/IsolationLevel")], returnType := some (.object "com/example/kilit/kilit/engine/StandardIsolationLevel") }, accessFlags := 9, code := some k7c1 }
/-- com/example/kilit/kilit/engine/StandardIsolationLevel -/
def k7 : Class := { plain "com/example/kilit/kilit/engine/StandardIsolationLevel" (some 5) with
  accessFlags := 16433
  interfaces := #[]
  cf := some (fileOf pool7 1 #[] #[{ accessFlags := 1, nameIndex := 37, descriptorIndex := 68, attributes := #[] }, { accessFlags := 9, nameIndex := 69, descriptorIndex := 70, attributes := #[] }] 16433 26 #[] #[{ accessFlags := 16409, nameIndex := 5, descriptorIndex := 6, attributes := #[] }, { accessFlags := 16409, nameIndex := 9, descriptorIndex := 6, attributes := #[] }, { accessFlags := 16409, nameIndex := 12, descriptorIndex := 6, attributes := #[] }, { accessFlags := 16409, nameIndex := 15, descriptorIndex := 6, attributes := #[] }, { accessFlags := 26, nameIndex := 41, descriptorIndex := 19, attributes := #[] }, { accessFlags := 18, nameIndex := 37, descriptorIndex := 38, attributes := #[] }, { accessFlags := 4122, nameIndex := 18, descriptorIndex := 19, attributes := #[] }])
  fields := #[{ name := "READ_UNCOMMITTED", type := (.object "com/example/kilit/kilit/engine/StandardIsolationLevel"), accessFlags := 16409, slot := 0, constantValue := 0 }, { name := "READ_COMMITTED", type := (.object "com/example/kilit/kilit/engine/StandardIsolationLevel"), accessFlags := 16409, slot := 1, constantValue := 0 }, { name := "REPEATABLE_READ", type := (.object "com/example/kilit/kilit/engine/StandardIsolationLevel"), accessFlags := 16409, slot := 2, constantValue := 0 }, { name := "SERIALIZABLE", type := (.object "com/example/kilit/kilit/engine/StandardIsolationLevel"), accessFlags := 16409, slot := 3, constantValue := 0 }, { name := "LEVELS", type := (.array (.object "com/example/kilit/kilit/engine/StandardIsolationLevel")), accessFlags := 26, slot := 4, constantValue := 0 }, { name := "servedBy", type := (.object "com/example/kilit/kilit/engine/IsolationLevel"), accessFlags := 18, slot := 3, constantValue := 0 }, { name := "$VALUES", type := (.array (.object "com/example/kilit/kilit/engine/StandardIsolationLevel")), accessFlags := 4122, slot := 5, constantValue := 0 }]
  methods := #[k7m0, k7m1]
  instanceTypes := #[(.object "java/lang/String"), .int, .int, (.object "com/example/kilit/kilit/engine/IsolationLevel")]
  staticTypes := #[(.object "com/example/kilit/kilit/engine/StandardIsolationLevel"), (.object "com/example/kilit/kilit/engine/StandardIsolationLevel"), (.object "com/example/kilit/kilit/engine/StandardIsolationLevel"), (.object "com/example/kilit/kilit/engine/StandardIsolationLevel"), (.array (.object "com/example/kilit/kilit/engine/StandardIsolationLevel")), (.array (.object "com/example/kilit/kilit/engine/StandardIsolationLevel"))]
  resolved := Array.replicate 77 none
  statics := some 1 }

def pool8 : Array CpInfo := pool [(1, u "java/lang/Cloneable"), (0, .class_ 1), (0, u "java/lang/Object"), (0, .class_ 3)] 3

/-- java/lang/Cloneable -/
def k8 : Class := { plain "java/lang/Cloneable" (some 0) with
  accessFlags := 1537
  interfaces := #[]
  cf := some (fileOf pool8 2 #[] #[] 1537 4 #[] #[])
  fields := #[]
  methods := #[]
  instanceTypes := #[]
  staticTypes := #[]
  resolved := Array.replicate 8 none
  statics := none }

/-- the primitive byte -/
def k9 : Class := { plain "byte" none with kind := .primitive 'B', accessFlags := 0x411 }
/-- [B -/
def k10 : Class := { plain "[B" (some 0) with kind := .array 9 .byte, interfaces := #[8, 4], accessFlags := 1041 }

/-- the primitive int -/
def k11 : Class := { plain "int" none with kind := .primitive 'I', accessFlags := 0x411 }
/-- [I -/
def k12 : Class := { plain "[I" (some 0) with kind := .array 11 .int, interfaces := #[8, 4], accessFlags := 1041 }

/-- [Lcom/example/kilit/kilit/engine/StandardIsolationLevel; -/
def k13 : Class := { plain "[Lcom/example/kilit/kilit/engine/StandardIsolationLevel;" (some 0) with kind := .array 7 (.object "com/example/kilit/kilit/engine/StandardIsolationLevel"), interfaces := #[8, 4], accessFlags := 1041 }

def heap : Heap := #[{ cls := 6, slots := #[.ref 3, .ref 4, .null], vm := .statics 6 },
  { cls := 7, slots := #[.ref 5, .ref 6, .ref 7, .ref 8, .ref 2, .null], vm := .statics 7 },
  { cls := 13, slots := #[.ref 5, .ref 6, .ref 7, .ref 8], vm := .none },
  { cls := 6, slots := #[.null, .int 0, .int 0], vm := .none },
  { cls := 6, slots := #[.null, .int 1, .int 0], vm := .none },
  { cls := 7, slots := #[.null, .int 0, .int 0, .ref 3], vm := .none },
  { cls := 7, slots := #[.null, .int 1, .int 0, .ref 3], vm := .none },
  { cls := 7, slots := #[.null, .int 2, .int 0, .ref 4], vm := .none },
  { cls := 7, slots := #[.null, .int 3, .int 0, .ref 4], vm := .none }]
def classes : Array Class := #[k0, k1, k2, k3, k4, k5, k6, k7, k8, k9, k10, k11, k12, k13]
def interned : List (Array UInt16 × Addr) := []
def slotsUsed : Nat := 35
def theMethod : MethodId := ⟨1, 1⟩
def args0 : Array Value := #[.int 5]
def aboutOver (below : List Frame) : State where
  vm := { classes := classes, interned := interned.toArray }
  heap := heap
  slotsUsed := slotsUsed
  threads := #[{ frames := .invoking theMethod args0 :: below }]
def below0 : List Frame := [.native { method := ⟨0, 0⟩, args := #[] }]
def about1 : State := aboutOver below0
def p0 : Program := .bare "" "" ""
def e0 : Env := launch0.env 0 0 0
theorem w_frames : about1.frames = Frame.invoking theMethod args0 :: below0 := rfl
set_option maxRecDepth 65536 in
theorem w_args : argsFit about1.vm theMethod args0 = true := by decide +kernel
set_option maxRecDepth 65536 in
theorem w_heap : heapFits about1 = true := by decide +kernel
set_option maxRecDepth 65536 in
theorem w_runnable : about1.curStatus? = some .runnable := by decide +kernel
set_option maxRecDepth 65536 in
theorem w_alone : about1.alone = true := by decide +kernel
set_option maxRecDepth 65536 in
theorem w_named : about1.methodNamed? x = some theMethod := by decide +kernel
set_option maxRecDepth 65536 in
theorem w_hears : about1.hears theMethod below0 = true := by decide +kernel
set_option maxRecDepth 65536 in
theorem w_ripe : about1.ripe theMethod args0 below0 = true := by decide +kernel
theorem w_running : about1.status = .running := rfl
set_option maxRecDepth 65536 in
theorem w_room : about1.hasRoom e0.platform room_1 = true :=
  launch0.hasRoom_least _ room_1 (by decide +kernel) (by decide +kernel) (by decide +kernel) (by decide +kernel) (by decide +kernel) (by decide +kernel)
theorem allAtoms_all (ts : List Jvm.Cond) (a : Array Jvm.Value) (st : Jvm.State) : (allAtoms ts).before a st = ts.all (fun c => c.before a st) := by
  induction ts with
  | nil => rfl
  | cons c t ih =>
    show (Jvm.Cond.and c (allAtoms t)).before a st = _
    rw [Jvm.Cond.before_and, ih, List.all_cons]
def words1 : List Jvm.Cond := Jvm.Cond.code x code maxLocals ret :: tables_1
/-- a 'code' word, met by the world's own term for the bytes: nothing is compared byte by byte -/
theorem code_word {y : MethodName} {bytes : ByteArray} {mx : Nat} {rt : Option FieldType} {a : Array Value} {s : State} {m : MethodId} {meth : Method} {c : Code} (h1 : s.methodNamed? y = some m) (h2 : s.vm.method? m = some meth) (h3 : meth.code = some c) (h4 : c.code = bytes)
    (h5 : (c.maxLocals == mx && c.exceptionTable.isEmpty && decide (c.maxStack ≤ mostOperands) && decide (meth.sig.returnType = rt) && !meth.locks && decide (parseMethodDescriptor y.desc = some meth.sig)) = true) : (Jvm.Cond.code y bytes mx rt).before a s = true := by
  simp only [Bool.and_eq_true, beq_iff_eq, Bool.not_eq_true', decide_eq_true_eq] at h5
  obtain ⟨⟨⟨⟨⟨g1, g2⟩, g3⟩, g4⟩, g5⟩, g6⟩ := h5
  simp [Cond.before, Cond.holds, Cond.value, h1, h2, h3, h4, g1, g2, g3, g4, g5, g6]
def isCode : Jvm.Cond → Bool
  | .code _ _ _ _ => true
  | _ => false
theorem all_split {L : List Jvm.Cond} {P : Jvm.Cond → Bool} (h1 : L.all (fun c => isCode c || P c) = true) (h2 : ∀ c ∈ L.filter isCode, P c = true) : L.all P = true := by
  refine List.all_eq_true.mpr fun c hc => ?_
  have h := List.all_eq_true.mp h1 c hc
  rcases Bool.eq_false_or_eq_true (isCode c) with hi | hi
  · exact h2 c (List.mem_filter.mpr ⟨hc, hi⟩)
  · simpa [hi] using h
set_option maxRecDepth 65536 in
theorem w_c0 : (Jvm.Cond.code x code maxLocals ret).before args0 about1 = true := code_word (m := ⟨1, 1⟩) (meth := k1m1) (c := k1c1) (by decide +kernel) rfl rfl rfl (by decide +kernel)
set_option maxRecDepth 65536 in
theorem w_c1 : (Jvm.Cond.code ({ cls := "com/example/kilit/kilit/engine/StandardIsolationLevel", name := "of", desc := "(Lcom/example/kilit/kilit/engine/IsolationLevel;)Lcom/example/kilit/kilit/engine/StandardIsolationLevel;" } : Jvm.MethodName) prog_86_method_5_code (6 : Nat) (Option.some (Jvm.ClassFile.FieldType.object "com/example/kilit/kilit/engine/StandardIsolationLevel"))).before args0 about1 = true := code_word (m := ⟨7, 1⟩) (meth := k7m1) (c := k7c1) (by decide +kernel) rfl rfl rfl (by decide +kernel)
set_option maxRecDepth 65536 in
theorem w_c2 : (Jvm.Cond.code ({ cls := "com/example/kilit/kilit/engine/StandardIsolationLevel", name := "servedBy", desc := "()Lcom/example/kilit/kilit/engine/IsolationLevel;" } : Jvm.MethodName) prog_86_method_4_code (1 : Nat) (Option.some (Jvm.ClassFile.FieldType.object "com/example/kilit/kilit/engine/IsolationLevel"))).before args0 about1 = true := code_word (m := ⟨7, 0⟩) (meth := k7m0) (c := k7c0) (by decide +kernel) rfl rfl rfl (by decide +kernel)
def codes1 : List Jvm.Cond := [Jvm.Cond.code x code maxLocals ret, Jvm.Cond.code ({ cls := "com/example/kilit/kilit/engine/StandardIsolationLevel", name := "of", desc := "(Lcom/example/kilit/kilit/engine/IsolationLevel;)Lcom/example/kilit/kilit/engine/StandardIsolationLevel;" } : Jvm.MethodName) prog_86_method_5_code (6 : Nat) (Option.some (Jvm.ClassFile.FieldType.object "com/example/kilit/kilit/engine/StandardIsolationLevel")), Jvm.Cond.code ({ cls := "com/example/kilit/kilit/engine/StandardIsolationLevel", name := "servedBy", desc := "()Lcom/example/kilit/kilit/engine/IsolationLevel;" } : Jvm.MethodName) prog_86_method_4_code (1 : Nat) (Option.some (Jvm.ClassFile.FieldType.object "com/example/kilit/kilit/engine/IsolationLevel"))]
set_option maxRecDepth 65536 in
theorem codes_eq : words1.filter isCode = codes1 := rfl
theorem w_codes : ∀ c ∈ words1.filter isCode, c.before args0 about1 = true := by
  rw [codes_eq]
  intro c hc
  simp only [codes1, List.mem_cons, List.not_mem_nil, or_false] at hc
  rcases hc with rfl | rfl | rfl
  · exact w_c0
  · exact w_c1
  · exact w_c2
set_option maxRecDepth 65536 in
theorem w_t1 : (words1.take 24).all (fun c => isCode c || c.before args0 about1) = true := by decide +kernel
set_option maxRecDepth 65536 in
theorem w_t2 : (words1.drop 24).all (fun c => isCode c || c.before args0 about1) = true := by decide +kernel
theorem w_tables : (allAtoms (Jvm.Cond.code x code maxLocals ret :: tables_1)).before args0 about1 = true := by
  rw [allAtoms_all]
  show words1.all (fun c => c.before args0 about1) = true
  refine all_split ?_ w_codes
  rw [← List.take_append_drop 24 words1, List.all_append, w_t1, w_t2]
  rfl
set_option maxRecDepth 65536 in
theorem w_case : (Jvm.Cond.and given_1 narrow_1).before args0 about1 = true := by decide +kernel
theorem w_applies : (headSpec (Jvm.Cond.code x code maxLocals ret :: tables_1) room_1).applies x e0.platform about1 = true :=
  (Spec.applies_iff w_frames).mpr ⟨w_running, w_runnable, w_alone, w_named, w_hears, w_ripe, w_room, w_tables⟩
theorem atStart : AtStart classFile x code maxLocals ret World_1 tables_1 room_1 Calls_1 rest_1 Pre_1 launch0 p0 e0 about1 theMethod args0 below0 :=
  ⟨lists_1, trivial, launch0.admits_env _ _ _, launch0.least_env, fairChoices_fair.cas, fairChoices_fair.clock, w_frames, w_args, w_heap, w_applies, trivial, trivial, w_case⟩
end start1
theorem witness_1 : WitnessClaimed_1 := ⟨start1.p0, start1.e0, start1.about1, start1.theMethod, start1.args0, start1.below0, start1.atStart⟩
end Jvm.Pilot.@@N@@
