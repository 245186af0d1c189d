import JvmDerived
import JvmDerived.Pilot.@@N@@Statement
import JvmDerived.Pilot.@@N@@Code
set_option linter.unusedVariables false
set_option linter.unusedSimpArgs false

namespace Jvm.Pilot.@@N@@
open Jvm Jvm.ClassFile Sem Op Lib Jvm.Free Jvm.Stand Jvm.LawKit Jvm.RoadKit Bundle Jvm.Pilot.@@N@@.Jvm.D
/-! MY OWN LAYER: the walk in continuation form -/
abbrev Bx : Type := Program × Launch × Env × Room × State × MethodId × Array Value × List Frame × Method × Code
def De (b : ByteArray) (pc : Nat) (i : Instr) (k n : Nat) : Prop := decode b pc = .ok (i, k) ∧ pc + k = n
def Go (B : Bx) (n0 : Nat) (Q : Option Value → Heap → Prop) (h : Heap) (ce sl pc : Nat) (Ls : Array Slot) (S : List Value) : Prop :=
  match B with
  | (p, l, e, R, s, m, args, below, meth, c) => ∀ (T : State) (locs : List Loc), Stand p l e R s m args below meth c T locs ce sl → T.heap = h → Fr n0 locs →
    ∃ s₂ o, Steps p.tables e below (T.setTop (mkF m pc Ls S)) s₂ ∧ s₂.status = .running ∧ Ended s₂ below o ∧ ∃ (v : Option Value) (L : List Loc), o = .returned v ∧ (Q v s₂.heap ∧ Fr n0 L) ∧ FrameEnd s o s₂ L R.cells R.slots
def Cx (B : Bx) (l0 : Launch) (Z : State) (a0 : Array Value) (R0 : Room) (y : MethodName) (b : ByteArray) (mx : Nat) (rt : Option FieldType) : Prop :=
  match B with
  | (p, l, e, R, s, m, args, below, meth, c) => l = l0 ∧ R = R0 ∧ p.tables.exec = Jvm.exec ∧ c.code = b ∧ c.maxLocals = mx ∧ s.vm.findClass y.cls = some m.cls ∧ meth.name = y.name ∧ meth.sig.returnType = rt ∧ meth.locks = false ∧ Z.Warmed39 s.vm ∧ ∀ d ∈ tables_1, d.before a0 Z = true
def QQ (n0 : Nat) (Q : Option Value → Heap → Prop) (v : Option Value) (h : Heap) (L : List Loc) : Prop := Q v h ∧ Fr n0 L
def Pays (l : Launch) (Z : State) (y : MethodName) (b : ByteArray) (mx : Nat) (rt : Option FieldType) (rm : Room) (as' : Array Value) (n0 : Nat) (h0 : Heap) (Q : Option Value → Heap → Prop) : Prop :=
  ∀ ws : List Jvm.Cond, MetFree l y (head1 (Jvm.Cond.code y b mx rt :: ws) rm) (fun a U => a = as' ∧ Z.Warmed39 U.vm ∧ U.heap = h0) (fun _ _ _ _ _ => True) (fun _ U o U' => ∃ v L, o = .returned v ∧ QQ n0 Q v U'.heap L ∧ FrameEnd U o U' L rm.cells rm.slots)
section Flow
variable {B : Bx} {n0 : Nat} {Q : Option Value → Heap → Prop} {h : Heap} {ce sl pc n : Nat} {Ls Ls' : Array Slot} {S S' : List Value} {l : Launch} {Z : State} {a0 : Array Value} {R : Room} {y : MethodName} {b : ByteArray} {mx : Nat} {rt : Option FieldType}
theorem Pays.mono {rm : Room} {as' : Array Value} {Q' : Option Value → Heap → Prop} (hM : Pays l Z y b mx rt rm as' n0 h Q) (hq : ∀ v h, Q v h → Q' v h) : Pays l Z y b mx rt rm as' n0 h Q' := by
  intro ws p e ha hc hk s m args below hf happ hP hK
  obtain ⟨k, o, h1, h2, h3, v, L, h4, h5, h6⟩ := hM ws p e ha hc hk s m args below hf happ hP hK
  exact ⟨k, o, h1, h2, h3, v, L, h4, ⟨hq _ _ h5.1, h5.2⟩, h6⟩
theorem Pays.of (hw : ∀ d ∈ tables_1, d.before a0 Z = true) (hp : plainFor y = true) {rm : Room} {as' : Array Value} (ef : ∀ m, entryFrame m as' mx = mkF m 0 Ls []) (hb : ∀ B, Cx B l Z a0 rm y b mx rt → Go B n0 Q h 0 0 0 Ls []) : Pays l Z y b mx rt rm as' n0 h Q := by
  intro ws
  refine MetFree.of_bodySF hp hisR ?_
  intro p e s m args below meth c s₁ Bd hml0 hP hK
  obtain ⟨rfl, hZ, hh⟩ := hP
  have X0 : Stand p l e rm s m args below meth c s₁ [] 0 0 := Stand.of_body Bd
  have e0 : s₁.heap = h := by rw [← hh, Bd.state]; rfl
  obtain ⟨s₂, o, st, r1, r2, v, L, r3, r4, r5⟩ := hb (p, l, e, rm, s, m, args, below, meth, c) ⟨rfl, rfl, Bd.exec, Bd.bytes, hml0, findClass_of_methodNamed Bd.named, (name_of_methodNamed Bd.named Bd.method).1, Bd.returns, BodyLoose.notSynchronized Bd, hZ, hw⟩ s₁ [] X0 e0 (Fr.nil n0)
  exact ⟨s₂, o, castTop (ef m) st, r1, r2, v, L, r3, r4, r5⟩
theorem iAloadN (C : Cx B l Z a0 R y b mx rt) {k : Fin 4} {v : Value} (hd : De b pc (.aload_n k) 1 n) (hl : Ls[k.val]? = some (.val v)) (hv : v.isRef = true) (K : Go B n0 Q h ce sl n Ls (v :: S)) : Go B n0 Q h ce sl pc Ls (S) := by
  obtain ⟨p, l', e, R', s, m, args, below, meth, c⟩ := B
  obtain ⟨rfl, rfl, hx, rfl, hml, hown, hnm, hret, hlk, hZ, hw⟩ := C
  intro T locs X eT N
  obtain ⟨hd, rfl⟩ := hd
  obtain ⟨s₂, o, st, r⟩ := K T locs X eT N
  exact ⟨s₂, o, XS.aloadN X.here hx rfl hd hl hv st, r⟩
theorem iAload (C : Cx B l Z a0 R y b mx rt) {k : Nat} {v : Value} (hd : De b pc (.aload k) 2 n) (hl : Ls[k]? = some (.val v)) (hv : v.isRef = true) (K : Go B n0 Q h ce sl n Ls (v :: S)) : Go B n0 Q h ce sl pc Ls (S) := by
  obtain ⟨p, l', e, R', s, m, args, below, meth, c⟩ := B
  obtain ⟨rfl, rfl, hx, rfl, hml, hown, hnm, hret, hlk, hZ, hw⟩ := C
  intro T locs X eT N
  obtain ⟨hd, rfl⟩ := hd
  obtain ⟨s₂, o, st, r⟩ := K T locs X eT N
  exact ⟨s₂, o, XS.aload X.here hx rfl hd hl hv st, r⟩
theorem iIloadN (C : Cx B l Z a0 R y b mx rt) {k : Fin 4} {v : Int32} (hd : De b pc (.iload_n k) 1 n) (hl : Ls[k.val]? = some (.val (.int v))) (K : Go B n0 Q h ce sl n Ls (.int v :: S)) : Go B n0 Q h ce sl pc Ls (S) := by
  obtain ⟨p, l', e, R', s, m, args, below, meth, c⟩ := B
  obtain ⟨rfl, rfl, hx, rfl, hml, hown, hnm, hret, hlk, hZ, hw⟩ := C
  intro T locs X eT N
  obtain ⟨hd, rfl⟩ := hd
  obtain ⟨s₂, o, st, r⟩ := K T locs X eT N
  exact ⟨s₂, o, XS.iloadN X.here hx rfl hd hl st, r⟩
theorem iIload (C : Cx B l Z a0 R y b mx rt) {k : Nat} {v : Int32} (hd : De b pc (.iload k) 2 n) (hl : Ls[k]? = some (.val (.int v))) (K : Go B n0 Q h ce sl n Ls (.int v :: S)) : Go B n0 Q h ce sl pc Ls (S) := by
  obtain ⟨p, l', e, R', s, m, args, below, meth, c⟩ := B
  obtain ⟨rfl, rfl, hx, rfl, hml, hown, hnm, hret, hlk, hZ, hw⟩ := C
  intro T locs X eT N
  obtain ⟨hd, rfl⟩ := hd
  obtain ⟨s₂, o, st, r⟩ := K T locs X eT N
  exact ⟨s₂, o, XS.iload X.here hx rfl hd hl st, r⟩
theorem iLloadN (C : Cx B l Z a0 R y b mx rt) {k : Fin 4} {v : Int64} (hd : De b pc (.lload_n k) 1 n) (hl : Ls[k.val]? = some (.val (.long v))) (K : Go B n0 Q h ce sl n Ls (.long v :: S)) : Go B n0 Q h ce sl pc Ls (S) := by
  obtain ⟨p, l', e, R', s, m, args, below, meth, c⟩ := B
  obtain ⟨rfl, rfl, hx, rfl, hml, hown, hnm, hret, hlk, hZ, hw⟩ := C
  intro T locs X eT N
  obtain ⟨hd, rfl⟩ := hd
  obtain ⟨s₂, o, st, r⟩ := K T locs X eT N
  exact ⟨s₂, o, XT.lloadN X.here hx rfl hd hl st, r⟩
theorem iLload (C : Cx B l Z a0 R y b mx rt) {k : Nat} {v : Int64} (hd : De b pc (.lload k) 2 n) (hl : Ls[k]? = some (.val (.long v))) (K : Go B n0 Q h ce sl n Ls (.long v :: S)) : Go B n0 Q h ce sl pc Ls (S) := by
  obtain ⟨p, l', e, R', s, m, args, below, meth, c⟩ := B
  obtain ⟨rfl, rfl, hx, rfl, hml, hown, hnm, hret, hlk, hZ, hw⟩ := C
  intro T locs X eT N
  obtain ⟨hd, rfl⟩ := hd
  obtain ⟨s₂, o, st, r⟩ := K T locs X eT N
  exact ⟨s₂, o, XT.lload X.here hx rfl hd hl st, r⟩
theorem iIconst (C : Cx B l Z a0 R y b mx rt) {i : Int} {v : Int32} (hd : De b pc (.iconst i) 1 n) (hv : Int32.ofInt i = v) (K : Go B n0 Q h ce sl n Ls (.int v :: S)) : Go B n0 Q h ce sl pc Ls (S) := by
  obtain ⟨p, l', e, R', s, m, args, below, meth, c⟩ := B
  obtain ⟨rfl, rfl, hx, rfl, hml, hown, hnm, hret, hlk, hZ, hw⟩ := C
  intro T locs X eT N
  obtain ⟨hd, rfl⟩ := hd
  subst hv
  obtain ⟨s₂, o, st, r⟩ := K T locs X eT N
  exact ⟨s₂, o, XS.iconst X.here hx rfl hd st, r⟩
theorem iBipush (C : Cx B l Z a0 R y b mx rt) {i : Int} {v : Int32} (hd : De b pc (.bipush i) 2 n) (hv : (Int8.ofInt i).toInt32 = v) (K : Go B n0 Q h ce sl n Ls (.int v :: S)) : Go B n0 Q h ce sl pc Ls (S) := by
  obtain ⟨p, l', e, R', s, m, args, below, meth, c⟩ := B
  obtain ⟨rfl, rfl, hx, rfl, hml, hown, hnm, hret, hlk, hZ, hw⟩ := C
  intro T locs X eT N
  obtain ⟨hd, rfl⟩ := hd
  subst hv
  obtain ⟨s₂, o, st, r⟩ := K T locs X eT N
  exact ⟨s₂, o, XS.bipush X.here hx rfl hd st, r⟩
theorem iSipush (C : Cx B l Z a0 R y b mx rt) {i : Int} {v : Int32} (hd : De b pc (.sipush i) 3 n) (hv : (Int16.ofInt i).toInt32 = v) (K : Go B n0 Q h ce sl n Ls (.int v :: S)) : Go B n0 Q h ce sl pc Ls (S) := by
  obtain ⟨p, l', e, R', s, m, args, below, meth, c⟩ := B
  obtain ⟨rfl, rfl, hx, rfl, hml, hown, hnm, hret, hlk, hZ, hw⟩ := C
  intro T locs X eT N
  obtain ⟨hd, rfl⟩ := hd
  subst hv
  obtain ⟨s₂, o, st, r⟩ := K T locs X eT N
  exact ⟨s₂, o, XS.sipush X.here hx rfl hd st, r⟩
theorem iNull (C : Cx B l Z a0 R y b mx rt)  (hd : De b pc (.aconst_null) 1 n) (K : Go B n0 Q h ce sl n Ls (.null :: S)) : Go B n0 Q h ce sl pc Ls (S) := by
  obtain ⟨p, l', e, R', s, m, args, below, meth, c⟩ := B
  obtain ⟨rfl, rfl, hx, rfl, hml, hown, hnm, hret, hlk, hZ, hw⟩ := C
  intro T locs X eT N
  obtain ⟨hd, rfl⟩ := hd
  obtain ⟨s₂, o, st, r⟩ := K T locs X eT N
  exact ⟨s₂, o, XS.aconstNull X.here hx rfl hd st, r⟩
theorem iIadd (C : Cx B l Z a0 R y b mx rt) {x z v : Int32} (hd : De b pc (.iadd) 1 n) (hv : x + z = v) (K : Go B n0 Q h ce sl n Ls (.int v :: S)) : Go B n0 Q h ce sl pc Ls (.int z :: .int x :: S) := by
  obtain ⟨p, l', e, R', s, m, args, below, meth, c⟩ := B
  obtain ⟨rfl, rfl, hx, rfl, hml, hown, hnm, hret, hlk, hZ, hw⟩ := C
  intro T locs X eT N
  obtain ⟨hd, rfl⟩ := hd
  subst hv
  obtain ⟨s₂, o, st, r⟩ := K T locs X eT N
  exact ⟨s₂, o, XS.iadd X.here hx rfl hd rfl st, r⟩
theorem iIsub (C : Cx B l Z a0 R y b mx rt) {x z v : Int32} (hd : De b pc (.isub) 1 n) (hv : x - z = v) (K : Go B n0 Q h ce sl n Ls (.int v :: S)) : Go B n0 Q h ce sl pc Ls (.int z :: .int x :: S) := by
  obtain ⟨p, l', e, R', s, m, args, below, meth, c⟩ := B
  obtain ⟨rfl, rfl, hx, rfl, hml, hown, hnm, hret, hlk, hZ, hw⟩ := C
  intro T locs X eT N
  obtain ⟨hd, rfl⟩ := hd
  subst hv
  obtain ⟨s₂, o, st, r⟩ := K T locs X eT N
  exact ⟨s₂, o, XS.isub X.here hx rfl hd rfl st, r⟩
theorem iIand (C : Cx B l Z a0 R y b mx rt) {x z v : Int32} (hd : De b pc (.iand) 1 n) (hv : x &&& z = v) (K : Go B n0 Q h ce sl n Ls (.int v :: S)) : Go B n0 Q h ce sl pc Ls (.int z :: .int x :: S) := by
  obtain ⟨p, l', e, R', s, m, args, below, meth, c⟩ := B
  obtain ⟨rfl, rfl, hx, rfl, hml, hown, hnm, hret, hlk, hZ, hw⟩ := C
  intro T locs X eT N
  obtain ⟨hd, rfl⟩ := hd
  subst hv
  obtain ⟨s₂, o, st, r⟩ := K T locs X eT N
  exact ⟨s₂, o, XS.iand X.here hx rfl hd rfl st, r⟩
theorem iImul (C : Cx B l Z a0 R y b mx rt) {x z v : Int32} (hd : De b pc (.imul) 1 n) (hv : x * z = v) (K : Go B n0 Q h ce sl n Ls (.int v :: S)) : Go B n0 Q h ce sl pc Ls (.int z :: .int x :: S) := by
  obtain ⟨p, l', e, R', s, m, args, below, meth, c⟩ := B
  obtain ⟨rfl, rfl, hx, rfl, hml, hown, hnm, hret, hlk, hZ, hw⟩ := C
  intro T locs X eT N
  obtain ⟨hd, rfl⟩ := hd
  subst hv
  obtain ⟨s₂, o, st, r⟩ := K T locs X eT N
  exact ⟨s₂, o, XS.imul X.here hx rfl hd rfl st, r⟩
theorem iIdiv (C : Cx B l Z a0 R y b mx rt) {x z v : Int32} (hd : De b pc (.idiv) 1 n) (hz : z ≠ 0) (hv : x / z = v) (K : Go B n0 Q h ce sl n Ls (.int v :: S)) : Go B n0 Q h ce sl pc Ls (.int z :: .int x :: S) := by
  obtain ⟨p, l', e, R', s, m, args, below, meth, c⟩ := B
  obtain ⟨rfl, rfl, hx, rfl, hml, hown, hnm, hret, hlk, hZ, hw⟩ := C
  intro T locs X eT N
  obtain ⟨hd, rfl⟩ := hd
  subst hv
  obtain ⟨s₂, o, st, r⟩ := K T locs X eT N
  exact ⟨s₂, o, XS.idiv X.here hx rfl hd rfl hz st, r⟩
theorem iIrem (C : Cx B l Z a0 R y b mx rt) {x z v : Int32} (hd : De b pc (.irem) 1 n) (hz : z ≠ 0) (hv : x % z = v) (K : Go B n0 Q h ce sl n Ls (.int v :: S)) : Go B n0 Q h ce sl pc Ls (.int z :: .int x :: S) := by
  obtain ⟨p, l', e, R', s, m, args, below, meth, c⟩ := B
  obtain ⟨rfl, rfl, hx, rfl, hml, hown, hnm, hret, hlk, hZ, hw⟩ := C
  intro T locs X eT N
  obtain ⟨hd, rfl⟩ := hd
  subst hv
  obtain ⟨s₂, o, st, r⟩ := K T locs X eT N
  exact ⟨s₂, o, iremM X hx rfl hd rfl hz st, r⟩
theorem iDup (C : Cx B l Z a0 R y b mx rt) {x : Value} (hd : De b pc (.dup) 1 n) (hc : x.category = 1) (K : Go B n0 Q h ce sl n Ls (x :: x :: S)) : Go B n0 Q h ce sl pc Ls (x :: S) := by
  obtain ⟨p, l', e, R', s, m, args, below, meth, c⟩ := B
  obtain ⟨rfl, rfl, hx, rfl, hml, hown, hnm, hret, hlk, hZ, hw⟩ := C
  intro T locs X eT N
  obtain ⟨hd, rfl⟩ := hd
  obtain ⟨s₂, o, st, r⟩ := K T locs X eT N
  exact ⟨s₂, o, XS.dup X.here hx rfl hd rfl hc st, r⟩
theorem iPop (C : Cx B l Z a0 R y b mx rt) {x : Value} (hd : De b pc (.pop) 1 n) (hc : x.category = 1) (K : Go B n0 Q h ce sl n Ls (S)) : Go B n0 Q h ce sl pc Ls (x :: S) := by
  obtain ⟨p, l', e, R', s, m, args, below, meth, c⟩ := B
  obtain ⟨rfl, rfl, hx, rfl, hml, hown, hnm, hret, hlk, hZ, hw⟩ := C
  intro T locs X eT N
  obtain ⟨hd, rfl⟩ := hd
  obtain ⟨s₂, o, st, r⟩ := K T locs X eT N
  exact ⟨s₂, o, XT.pop X.here hx rfl hd rfl hc st, r⟩
theorem iIstoreN (C : Cx B l Z a0 R y b mx rt) {k : Fin 4} {x : Int32} (hd : De b pc (.istore_n k) 1 n) (hl : storeLocals Ls k.val (.int x) = some Ls') (K : Go B n0 Q h ce sl n Ls' (S)) : Go B n0 Q h ce sl pc Ls (.int x :: S) := by
  obtain ⟨p, l', e, R', s, m, args, below, meth, c⟩ := B
  obtain ⟨rfl, rfl, hx, rfl, hml, hown, hnm, hret, hlk, hZ, hw⟩ := C
  intro T locs X eT N
  obtain ⟨hd, rfl⟩ := hd
  obtain ⟨s₂, o, st, r⟩ := K T locs X eT N
  exact ⟨s₂, o, XS.istoreN X.here hx rfl hd rfl hl st, r⟩
theorem iIstore (C : Cx B l Z a0 R y b mx rt) {k : Nat} {x : Int32} (hd : De b pc (.istore k) 2 n) (hl : storeLocals Ls k (.int x) = some Ls') (K : Go B n0 Q h ce sl n Ls' (S)) : Go B n0 Q h ce sl pc Ls (.int x :: S) := by
  obtain ⟨p, l', e, R', s, m, args, below, meth, c⟩ := B
  obtain ⟨rfl, rfl, hx, rfl, hml, hown, hnm, hret, hlk, hZ, hw⟩ := C
  intro T locs X eT N
  obtain ⟨hd, rfl⟩ := hd
  obtain ⟨s₂, o, st, r⟩ := K T locs X eT N
  exact ⟨s₂, o, XS.istore X.here hx rfl hd rfl hl st, r⟩
theorem iAstoreN (C : Cx B l Z a0 R y b mx rt) {k : Fin 4} {x : Value} (hd : De b pc (.astore_n k) 1 n) (hv : x.isRef = true) (hl : storeLocals Ls k.val x = some Ls') (K : Go B n0 Q h ce sl n Ls' (S)) : Go B n0 Q h ce sl pc Ls (x :: S) := by
  obtain ⟨p, l', e, R', s, m, args, below, meth, c⟩ := B
  obtain ⟨rfl, rfl, hx, rfl, hml, hown, hnm, hret, hlk, hZ, hw⟩ := C
  intro T locs X eT N
  obtain ⟨hd, rfl⟩ := hd
  obtain ⟨s₂, o, st, r⟩ := K T locs X eT N
  exact ⟨s₂, o, XS.astoreN X.here hx rfl hd rfl hv hl st, r⟩
theorem iAstore (C : Cx B l Z a0 R y b mx rt) {k : Nat} {x : Value} (hd : De b pc (.astore k) 2 n) (hv : x.isRef = true) (hl : storeLocals Ls k x = some Ls') (K : Go B n0 Q h ce sl n Ls' (S)) : Go B n0 Q h ce sl pc Ls (x :: S) := by
  obtain ⟨p, l', e, R', s, m, args, below, meth, c⟩ := B
  obtain ⟨rfl, rfl, hx, rfl, hml, hown, hnm, hret, hlk, hZ, hw⟩ := C
  intro T locs X eT N
  obtain ⟨hd, rfl⟩ := hd
  obtain ⟨s₂, o, st, r⟩ := K T locs X eT N
  exact ⟨s₂, o, XS.astore X.here hx rfl hd rfl hv hl st, r⟩
theorem iIinc (C : Cx B l Z a0 R y b mx rt) {k : Nat} {cst : Int} {x v : Int32} (hd : De b pc (.iinc k cst) 3 n) (hl : Ls[k]? = some (.val (.int x))) (hv : x + Int32.ofInt cst = v) (hl' : storeLocals Ls k (.int v) = some Ls') (K : Go B n0 Q h ce sl n Ls' (S)) : Go B n0 Q h ce sl pc Ls (S) := by
  obtain ⟨p, l', e, R', s, m, args, below, meth, c⟩ := B
  obtain ⟨rfl, rfl, hx, rfl, hml, hown, hnm, hret, hlk, hZ, hw⟩ := C
  intro T locs X eT N
  obtain ⟨hd, rfl⟩ := hd
  subst hv
  obtain ⟨s₂, o, st, r⟩ := K T locs X eT N
  exact ⟨s₂, o, XS.iinc X.here hx rfl hd hl hl' st, r⟩
theorem iI2b (C : Cx B l Z a0 R y b mx rt) {x v : Int32} (hd : De b pc (.i2b) 1 n) (hv : x.toInt8.toInt32 = v) (K : Go B n0 Q h ce sl n Ls (.int v :: S)) : Go B n0 Q h ce sl pc Ls (.int x :: S) := by
  obtain ⟨p, l', e, R', s, m, args, below, meth, c⟩ := B
  obtain ⟨rfl, rfl, hx, rfl, hml, hown, hnm, hret, hlk, hZ, hw⟩ := C
  intro T locs X eT N
  obtain ⟨hd, rfl⟩ := hd
  subst hv
  obtain ⟨s₂, o, st, r⟩ := K T locs X eT N
  exact ⟨s₂, o, XT.i2b X.here hx rfl hd rfl st, r⟩
theorem iI2c (C : Cx B l Z a0 R y b mx rt) {x v : Int32} (hd : De b pc (.i2c) 1 n) (hv : x.toUInt32.toUInt16.toUInt32.toInt32 = v) (K : Go B n0 Q h ce sl n Ls (.int v :: S)) : Go B n0 Q h ce sl pc Ls (.int x :: S) := by
  obtain ⟨p, l', e, R', s, m, args, below, meth, c⟩ := B
  obtain ⟨rfl, rfl, hx, rfl, hml, hown, hnm, hret, hlk, hZ, hw⟩ := C
  intro T locs X eT N
  obtain ⟨hd, rfl⟩ := hd
  subst hv
  obtain ⟨s₂, o, st, r⟩ := K T locs X eT N
  exact ⟨s₂, o, XT.i2c X.here hx rfl hd rfl st, r⟩
theorem iIushr (C : Cx B l Z a0 R y b mx rt) {x z v : Int32} (hd : De b pc (.iushr) 1 n) (hv : (x.toUInt32 >>> (z &&& 31).toUInt32).toInt32 = v) (K : Go B n0 Q h ce sl n Ls (.int v :: S)) : Go B n0 Q h ce sl pc Ls (.int z :: .int x :: S) := by
  obtain ⟨p, l', e, R', s, m, args, below, meth, c⟩ := B
  obtain ⟨rfl, rfl, hx, rfl, hml, hown, hnm, hret, hlk, hZ, hw⟩ := C
  intro T locs X eT N
  obtain ⟨hd, rfl⟩ := hd
  subst hv
  obtain ⟨s₂, o, st, r⟩ := K T locs X eT N
  exact ⟨s₂, o, XT.iushr X.here hx rfl hd rfl st, r⟩
theorem iIfF (C : Cx B l Z a0 R y b mx rt) {cd : ClassFile.Cond} {o : Int} {x : Int32} (hd : De b pc (.ifCond cd o) 3 n) (hc : ifCond.holds cd x = false) (K : Go B n0 Q h ce sl n Ls (S)) : Go B n0 Q h ce sl pc Ls (.int x :: S) := by
  obtain ⟨p, l', e, R', s, m, args, below, meth, c⟩ := B
  obtain ⟨rfl, rfl, hx, rfl, hml, hown, hnm, hret, hlk, hZ, hw⟩ := C
  intro T locs X eT N
  obtain ⟨hd, rfl⟩ := hd
  obtain ⟨s₂, o, st, r⟩ := K T locs X eT N
  exact ⟨s₂, o, XS.ifNo X.here hx rfl hd rfl hc st, r⟩
theorem iCmpF (C : Cx B l Z a0 R y b mx rt) {cd : ClassFile.Cond} {o : Int} {x z : Int32} (hd : De b pc (.if_icmp cd o) 3 n) (hc : if_icmp.holds cd x z = false) (K : Go B n0 Q h ce sl n Ls (S)) : Go B n0 Q h ce sl pc Ls (.int z :: .int x :: S) := by
  obtain ⟨p, l', e, R', s, m, args, below, meth, c⟩ := B
  obtain ⟨rfl, rfl, hx, rfl, hml, hown, hnm, hret, hlk, hZ, hw⟩ := C
  intro T locs X eT N
  obtain ⟨hd, rfl⟩ := hd
  obtain ⟨s₂, o, st, r⟩ := K T locs X eT N
  exact ⟨s₂, o, XS.icmpNo X.here hx rfl hd rfl hc st, r⟩
theorem iNullF (C : Cx B l Z a0 R y b mx rt) {o : Int} {a : Addr} (hd : De b pc (.ifnull o) 3 n) (K : Go B n0 Q h ce sl n Ls (S)) : Go B n0 Q h ce sl pc Ls (.ref a :: S) := by
  obtain ⟨p, l', e, R', s, m, args, below, meth, c⟩ := B
  obtain ⟨rfl, rfl, hx, rfl, hml, hown, hnm, hret, hlk, hZ, hw⟩ := C
  intro T locs X eT N
  obtain ⟨hd, rfl⟩ := hd
  obtain ⟨s₂, o, st, r⟩ := K T locs X eT N
  exact ⟨s₂, o, XS.ifnullNo X.here hx rfl hd rfl st, r⟩
theorem iNonnullF (C : Cx B l Z a0 R y b mx rt) {o : Int} (hd : De b pc (.ifnonnull o) 3 n) (K : Go B n0 Q h ce sl n Ls (S)) : Go B n0 Q h ce sl pc Ls (.null :: S) := by
  obtain ⟨p, l', e, R', s, m, args, below, meth, c⟩ := B
  obtain ⟨rfl, rfl, hx, rfl, hml, hown, hnm, hret, hlk, hZ, hw⟩ := C
  intro T locs X eT N
  obtain ⟨hd, rfl⟩ := hd
  obtain ⟨s₂, o, st, r⟩ := K T locs X eT N
  exact ⟨s₂, o, XT.ifnonnullNo X.here hx rfl hd rfl st, r⟩
theorem iAcmpF (C : Cx B l Z a0 R y b mx rt) {cd : ClassFile.ACond} {o : Int} {x z : Value} (hd : De b pc (.if_acmp cd o) 3 n) (hx1 : x.isRef = true) (hz1 : z.isRef = true) (hc : XT.acmp cd x z = false) (K : Go B n0 Q h ce sl n Ls (S)) : Go B n0 Q h ce sl pc Ls (z :: x :: S) := by
  obtain ⟨p, l', e, R', s, m, args, below, meth, c⟩ := B
  obtain ⟨rfl, rfl, hx, rfl, hml, hown, hnm, hret, hlk, hZ, hw⟩ := C
  intro T locs X eT N
  obtain ⟨hd, rfl⟩ := hd
  obtain ⟨s₂, o, st, r⟩ := K T locs X eT N
  exact ⟨s₂, o, XT.acmpNo X.here hx rfl hd rfl hx1 hz1 hc st, r⟩
theorem iGoto (C : Cx B l Z a0 R y b mx rt) {o : Int} {t : Nat} (hd : De b pc (.goto o) 3 n) (hj : 0 ≤ (pc : Int) + o ∧ ((pc : Int) + o).toNat = t) (K : Go B n0 Q h ce sl t Ls (S)) : Go B n0 Q h ce sl pc Ls (S) := by
  obtain ⟨p, l', e, R', s, m, args, below, meth, c⟩ := B
  obtain ⟨rfl, rfl, hx, rfl, hml, hown, hnm, hret, hlk, hZ, hw⟩ := C
  intro T locs X eT N
  obtain ⟨hd, rfl⟩ := hd
  obtain ⟨s₂, oo, st, r⟩ := K T locs X eT N
  exact ⟨s₂, oo, XS.goto X.here hx rfl rfl hd hj.1 hj.2 st, r⟩
theorem iIfT (C : Cx B l Z a0 R y b mx rt) {cd : ClassFile.Cond} {o : Int} {x : Int32} {t : Nat} (hd : De b pc (.ifCond cd o) 3 n) (hc : ifCond.holds cd x = true) (hj : 0 ≤ (pc : Int) + o ∧ ((pc : Int) + o).toNat = t) (K : Go B n0 Q h ce sl t Ls (S)) : Go B n0 Q h ce sl pc Ls (.int x :: S) := by
  obtain ⟨p, l', e, R', s, m, args, below, meth, c⟩ := B
  obtain ⟨rfl, rfl, hx, rfl, hml, hown, hnm, hret, hlk, hZ, hw⟩ := C
  intro T locs X eT N
  obtain ⟨hd, rfl⟩ := hd
  obtain ⟨s₂, oo, st, r⟩ := K T locs X eT N
  exact ⟨s₂, oo, XS.ifYes X.here hx rfl rfl hd rfl hc hj.1 hj.2 st, r⟩
theorem iCmpT (C : Cx B l Z a0 R y b mx rt) {cd : ClassFile.Cond} {o : Int} {x z : Int32} {t : Nat} (hd : De b pc (.if_icmp cd o) 3 n) (hc : if_icmp.holds cd x z = true) (hj : 0 ≤ (pc : Int) + o ∧ ((pc : Int) + o).toNat = t) (K : Go B n0 Q h ce sl t Ls (S)) : Go B n0 Q h ce sl pc Ls (.int z :: .int x :: S) := by
  obtain ⟨p, l', e, R', s, m, args, below, meth, c⟩ := B
  obtain ⟨rfl, rfl, hx, rfl, hml, hown, hnm, hret, hlk, hZ, hw⟩ := C
  intro T locs X eT N
  obtain ⟨hd, rfl⟩ := hd
  obtain ⟨s₂, oo, st, r⟩ := K T locs X eT N
  exact ⟨s₂, oo, XS.icmpYes X.here hx rfl rfl hd rfl hc hj.1 hj.2 st, r⟩
theorem iNullT (C : Cx B l Z a0 R y b mx rt) {o : Int} {t : Nat} (hd : De b pc (.ifnull o) 3 n) (hj : 0 ≤ (pc : Int) + o ∧ ((pc : Int) + o).toNat = t) (K : Go B n0 Q h ce sl t Ls (S)) : Go B n0 Q h ce sl pc Ls (.null :: S) := by
  obtain ⟨p, l', e, R', s, m, args, below, meth, c⟩ := B
  obtain ⟨rfl, rfl, hx, rfl, hml, hown, hnm, hret, hlk, hZ, hw⟩ := C
  intro T locs X eT N
  obtain ⟨hd, rfl⟩ := hd
  obtain ⟨s₂, oo, st, r⟩ := K T locs X eT N
  exact ⟨s₂, oo, XS.ifnullYes X.here hx rfl rfl hd rfl hj.1 hj.2 st, r⟩
theorem iNonnullT (C : Cx B l Z a0 R y b mx rt) {o : Int} {a : Addr} {t : Nat} (hd : De b pc (.ifnonnull o) 3 n) (hj : 0 ≤ (pc : Int) + o ∧ ((pc : Int) + o).toNat = t) (K : Go B n0 Q h ce sl t Ls (S)) : Go B n0 Q h ce sl pc Ls (.ref a :: S) := by
  obtain ⟨p, l', e, R', s, m, args, below, meth, c⟩ := B
  obtain ⟨rfl, rfl, hx, rfl, hml, hown, hnm, hret, hlk, hZ, hw⟩ := C
  intro T locs X eT N
  obtain ⟨hd, rfl⟩ := hd
  obtain ⟨s₂, oo, st, r⟩ := K T locs X eT N
  exact ⟨s₂, oo, XT.ifnonnullYes X.here hx rfl rfl hd rfl hj.1 hj.2 st, r⟩
theorem iAcmpT (C : Cx B l Z a0 R y b mx rt) {cd : ClassFile.ACond} {o : Int} {x z : Value} {t : Nat} (hd : De b pc (.if_acmp cd o) 3 n) (hx1 : x.isRef = true) (hz1 : z.isRef = true) (hc : XT.acmp cd x z = true) (hj : 0 ≤ (pc : Int) + o ∧ ((pc : Int) + o).toNat = t) (K : Go B n0 Q h ce sl t Ls (S)) : Go B n0 Q h ce sl pc Ls (z :: x :: S) := by
  obtain ⟨p, l', e, R', s, m, args, below, meth, c⟩ := B
  obtain ⟨rfl, rfl, hx, rfl, hml, hown, hnm, hret, hlk, hZ, hw⟩ := C
  intro T locs X eT N
  obtain ⟨hd, rfl⟩ := hd
  obtain ⟨s₂, oo, st, r⟩ := K T locs X eT N
  exact ⟨s₂, oo, XT.acmpYes X.here hx rfl rfl hd rfl hx1 hz1 hc hj.1 hj.2 st, r⟩
theorem iLdcI (C : Cx B l Z a0 R y b mx rt) {i : Nat} {v : Int32} (w : Jvm.Cond.constant y.cls i v ∈ tables_1) (hd : De b pc (.ldc i) 2 n) (K : Go B n0 Q h ce sl n Ls (.int v :: S)) : Go B n0 Q h ce sl pc Ls S := by
  obtain ⟨p, l', e, R', s, m, args, below, meth, c⟩ := B
  obtain ⟨rfl, rfl, hx, rfl, hml, hown, hnm, hret, hlk, hZ, hw⟩ := C
  intro T locs X eT N
  obtain ⟨hd, rfl⟩ := hd
  obtain ⟨s₂, o, st, r⟩ := K T locs X eT N
  exact ⟨s₂, o, X.ldcInt hx hown (mvT hZ (hw _ w)) (g := mkF m pc Ls S) rfl hd _ st, r⟩
theorem iGetS (C : Cx B l Z a0 R y b mx rt) {i : Nat} {O f d : String} {v : Value} (w : Jvm.Cond.fieldLink y.cls i O f d ∈ tables_1) (F : Sta Z h O f d v) (hd : De b pc (.getstatic i) 3 n) (K : Go B n0 Q h ce sl n Ls (v :: S)) : Go B n0 Q h ce sl pc Ls S := by
  obtain ⟨p, l', e, R', s, m, args, below, meth, c⟩ := B
  obtain ⟨rfl, rfl, hx, rfl, hml, hown, hnm, hret, hlk, hZ, hw⟩ := C
  intro T locs X eT N
  obtain ⟨hd, rfl⟩ := hd
  obtain ⟨T', X', e', st⟩ := getS X hx hZ (host := "") hown (hw _ w) Via.refl eT F (g := mkF m pc Ls S) rfl hd
  obtain ⟨s₂, o, st', r⟩ := K T' locs X' e' N
  exact ⟨s₂, o, st _ st', r⟩
theorem iGetF (C : Cx B l Z a0 R y b mx rt) {i : Nat} {O f d : String} {a : Addr} {v : Value} (w : Jvm.Cond.fieldLink y.cls i O f d ∈ tables_1) (F : Fld Z h a O f d v) (hd : De b pc (.getfield i) 3 n) (K : Go B n0 Q h ce sl n Ls (v :: S)) : Go B n0 Q h ce sl pc Ls (.ref a :: S) := by
  obtain ⟨p, l', e, R', s, m, args, below, meth, c⟩ := B
  obtain ⟨rfl, rfl, hx, rfl, hml, hown, hnm, hret, hlk, hZ, hw⟩ := C
  intro T locs X eT N
  obtain ⟨hd, rfl⟩ := hd
  obtain ⟨T', X', e', st⟩ := getF X hx hZ hown (host := "") (Or.inl (hw _ w)) Via.refl eT F (g := mkF m pc Ls (.ref a :: S)) rfl rfl hd
  obtain ⟨s₂, o, st', r⟩ := K T' locs X' e' N
  exact ⟨s₂, o, st _ st', r⟩
theorem iPutF (C : Cx B l Z a0 R y b mx rt) {i kk : Nat} {O f d CC : String} {a : Addr} {v old : Value} {ty : FieldType} (w : Jvm.Cond.fieldLink y.cls i O f d ∈ tables_1) (F : Fld Z h a O f d old) (E : Exa Z h a CC) (L : Jvm.Cond.lays CC O f d ∈ tables_1 ∨ (Jvm.Cond.laysFinal CC O f d ∈ tables_1 ∧ y.cls = O ∧ y.name = "<init>")) (wi : Jvm.Cond.instantiable CC kk ∈ tables_1) (hty : parseFieldDescriptor d = some ty) (hn : narrow ty v = v) (hf : fits ty v = true) (ha : n0 ≤ a) (hd : De b pc (.putfield i) 3 n) (K : ∀ h', Wr h h' a (Jvm.RoadKit.slotOf Z O f d) v → Go B n0 Q h' ce sl n Ls S) : Go B n0 Q h ce sl pc Ls (v :: .ref a :: S) := by
  obtain ⟨p, l', e, R', s, m, args, below, meth, c⟩ := B
  obtain ⟨rfl, rfl, hx, rfl, hml, hown, hnm, hret, hlk, hZ, hw⟩ := C
  intro T locs X eT N
  obtain ⟨hd, rfl⟩ := hd
  obtain ⟨T', h', X', e', W, st⟩ := putF X hx hZ hown (host := "") (Or.inl (hw _ w)) Via.refl eT F E (L.imp (fun q => hw _ q) fun q => ⟨hw _ q.1, q.2.1, hnm.trans q.2.2⟩) (hw _ wi) hty hn hf (g := mkF m pc Ls (v :: .ref a :: S)) rfl rfl hd
  obtain ⟨s₂, o, st', r⟩ := K h' W T' _ X' e' (Fr.snoc X' N ha)
  exact ⟨s₂, o, st _ st', r⟩
theorem iNew (C : Cx B l Z a0 R y b mx rt) {i kk ce' sl' : Nat} {CC : String} (w1 : Jvm.Cond.classLink y.cls i CC ∈ tables_1) (w2 : Jvm.Cond.instantiable CC kk ∈ tables_1) (w3 : Jvm.Cond.initialized CC ∈ tables_1) (hd : De b pc (.new i) 3 n) (hc : ce + 1 = ce' ∧ sl + kk = sl' ∧ ce' ≤ R.cells ∧ sl' ≤ R.slots) (K : ∀ (h' : Heap) (a : Addr), a = h.size → Ext h h' → Exa Z h' a CC → (∀ {O nm d : String} {ty : FieldType}, Laid Z a0 CC O nm d → parseFieldDescriptor d = some ty → Fld Z h' a O nm d (defaultValue ty)) → Go B n0 Q h' ce' sl' n Ls (.ref a :: S)) : Go B n0 Q h ce sl pc Ls S := by
  obtain ⟨p, l', e, R', s, m, args, below, meth, c⟩ := B
  obtain ⟨rfl, rfl, hx, rfl, hml, hown, hnm, hret, hlk, hZ, hw⟩ := C
  intro T locs X eT N
  obtain ⟨hd, rfl⟩ := hd
  obtain ⟨rfl, rfl, hc, hs⟩ := hc
  obtain ⟨T', h', X', e', E, A, D, -, st⟩ := newO X hx hZ hown (hw _ w1) (hw _ w2) (hw _ w3) eT (g := mkF m pc Ls S) rfl hd hc hs
  obtain ⟨s₂, o, st', r⟩ := K h' _ rfl E A D T' locs X' e' N
  exact ⟨s₂, o, st _ st', r⟩
theorem iInitO (C : Cx B l Z a0 R y b mx rt) {i W : Nat} {a : Addr} (w1 : Jvm.Cond.methodLink y.cls i Lib.objectInit ∈ tables_1) (w2 : Jvm.Cond.instanceMethod Lib.objectInit ∈ tables_1) (w3 : Jvm.Cond.code Lib.objectInit ⟨#[0xb1]⟩ 1 none ∈ tables_1) (hd : De b pc (.invokespecial i) 3 n) (hsz : Ls.size = mx) (hf : 1 ≤ R.frames) (hW : (S.map fun v => v.category).sum = W) (hl : W + 12 ≤ R.locals) (K : Go B n0 Q h ce sl n Ls S) : Go B n0 Q h ce sl pc Ls (.ref a :: S) := by
  obtain ⟨p, l', e, R', s, m, args, below, meth, c⟩ := B
  obtain ⟨rfl, rfl, hx, rfl, hml, hown, hnm, hret, hlk, hZ, hw⟩ := C
  intro T locs X eT N
  obtain ⟨hd, rfl⟩ := hd
  obtain ⟨T', X', e', st⟩ := initO X hx hZ hown (hw _ w1) (hw _ w2) (hw _ w3) eT (g := mkF m pc Ls (.ref a :: S)) rfl (by rw [hml]; exact hsz) rfl hd hf (W := W) (by show 2 * 0 + _ ≤ _; omega) hl
  obtain ⟨s₂, o, st', r⟩ := K T' locs X' e' N
  exact ⟨s₂, o, st _ st', r⟩
def Pay (l : Launch) (Z : State) (R : Room) (yc : MethodName) (len W : Nat) (as' : Array Value) (n0 : Nat) (h : Heap) (cc ss : Nat) (Qc : Option Value → Heap → Prop) : Prop :=
  ∀ (p : Program) (e : Env) (below : List Frame) (s : State) (args : Array Value), Z.Warmed39 s.vm → Back l R p e below s args yc len W (fun A a => a = as' ∧ A.U.heap = h ∧ A.cells + cc ≤ R.cells ∧ A.slots + ss ≤ R.slots) (fun A _ v B => ∃ L, QQ n0 Qc v B.U.heap L ∧ B.locs = A.locs ++ L ∧ B.cells = A.cells + cc ∧ B.slots = A.slots + ss)
theorem Pay.of {yc : MethodName} {cb : ByteArray} {cm len W : Nat} {cr : Option FieldType} {rm : Room} {as' : Array Value} {Qc : Option Value → Heap → Prop} (hM : Pays l Z yc cb cm cr rm as' n0 h Qc) (hw : ∀ d ∈ tables_1, d.before a0 Z = true) (w4 : Jvm.Cond.code yc cb cm cr ∈ tables_1) (w3 : Jvm.Cond.initialized yc.cls ∈ tables_1) (hr1 : rm.frames + 1 ≤ R.frames) (hr2 : W + (cm + 11) + rm.locals ≤ R.locals) : Pay l Z R yc len W as' n0 h rm.cells rm.slots Qc :=
  fun p e below s args hZ => backOf (W := W) (hM []) hZ (hw _ w4) (hw _ w3) hr1 hr2
theorem Cx.words (C : Cx B l Z a0 R y b mx rt) : ∀ d ∈ tables_1, d.before a0 Z = true := by
  obtain ⟨p, l', e, R', s, m, args, below, meth, c⟩ := B
  obtain ⟨rfl, rfl, hx, rfl, hml, hown, hnm, hret, hlk, hZ, hw⟩ := C
  exact hw
theorem iCallSB (C : Cx B l Z a0 R y b mx rt) {yc : MethodName} {as' : Array Value} {Qc : Option Value → Heap → Prop} {i W cc ss ce' sl' : Nat} {argsL : List Value} {cbx : ByteArray} {cmx : Nat} {crx : Option FieldType} (hM : Pay l Z R yc 3 W as' n0 h cc ss Qc) (w1 : Jvm.Cond.methodLink y.cls i yc ∈ tables_1) (w2 : Jvm.Cond.static yc ∈ tables_1) (w3 : Jvm.Cond.initialized yc.cls ∈ tables_1) (w4 : Jvm.Cond.code yc cbx cmx crx ∈ tables_1) (hy : yc.cls ≠ "java/lang/invoke/MethodHandle" ∧ yc.cls ≠ "java/lang/invoke/VarHandle") (hlen : ∀ sig, parseMethodDescriptor yc.desc = some sig → argsL.length = sig.parameters.length) (hS : S = argsL.reverse ++ S') (has : argsL.toArray = as') (hd : De b pc (.invokestatic i) 3 n) (hsz : Ls.size = mx) (hW : (S'.map fun v => v.category).sum = W) (hr : ce + cc = ce' ∧ sl + ss = sl' ∧ ce' ≤ R.cells ∧ sl' ≤ R.slots) (K : ∀ (v : Option Value) (h' : Heap), Qc v h' → Go B n0 Q h' ce' sl' n Ls (v.toList ++ S')) : Go B n0 Q h ce sl pc Ls S := by
  obtain ⟨p, l', e, R', s, m, args, below, meth, c⟩ := B
  obtain ⟨rfl, rfl, hx, rfl, hml, hown, hnm, hret, hlk, hZ, hw⟩ := C
  intro T locs X eT N
  obtain ⟨hd, rfl⟩ := hd
  obtain ⟨rfl, rfl, hr3, hr4⟩ := hr
  subst hS has
  obtain ⟨v, vm₁, ⟨T', L', k', n'⟩, -, X', ⟨Lc, hQ, l', y', z'⟩, st⟩ := Jvm.LawKit.callS X hx (y := yc) hown (mvT hZ (hw _ w1)) (mvT hZ (hw _ w2)) (mvT hZ (hw _ w3)) (mvT hZ (hw _ w4)) hy (hM p e below s args hZ) (g := mkF m pc Ls (argsL.reverse ++ S')) rfl (by rw [hml]; exact hsz) (argsL := argsL) (rest := S') hlen rfl (by show 2 * 0 + _ ≤ _; omega) hd (fun _ _ => ⟨rfl, eT, hr3, hr4⟩)
  dsimp only [Pt.U, Pt.locs, Pt.cells, Pt.slots] at X' l' y' z' st hQ
  subst l' y' z'
  obtain ⟨s₂, o, st', r⟩ := K v _ hQ.1 T' _ X' rfl (Fr.app N hQ.2)
  exact ⟨s₂, o, st _ st', r⟩
theorem iCallS (C : Cx B l Z a0 R y b mx rt) {yc : MethodName} {cb : ByteArray} {cm : Nat} {cr : Option FieldType} {rm : Room} {as' : Array Value} {Qc : Option Value → Heap → Prop} {i W ce' sl' : Nat} {argsL : List Value} (hM : Pays l Z yc cb cm cr rm as' n0 h Qc) (w1 : Jvm.Cond.methodLink y.cls i yc ∈ tables_1) (w2 : Jvm.Cond.static yc ∈ tables_1) (w3 : Jvm.Cond.initialized yc.cls ∈ tables_1) (w4 : Jvm.Cond.code yc cb cm cr ∈ tables_1) (hy : yc.cls ≠ "java/lang/invoke/MethodHandle" ∧ yc.cls ≠ "java/lang/invoke/VarHandle") (hlen : ∀ sig, parseMethodDescriptor yc.desc = some sig → argsL.length = sig.parameters.length) (hS : S = argsL.reverse ++ S') (has : argsL.toArray = as') (hd : De b pc (.invokestatic i) 3 n) (hsz : Ls.size = mx) (hW : (S'.map fun v => v.category).sum = W) (hr : rm.frames + 1 ≤ R.frames ∧ W + (cm + 11) + rm.locals ≤ R.locals ∧ ce + rm.cells = ce' ∧ sl + rm.slots = sl' ∧ ce' ≤ R.cells ∧ sl' ≤ R.slots) (K : ∀ (v : Option Value) (h' : Heap), Qc v h' → Go B n0 Q h' ce' sl' n Ls (v.toList ++ S')) : Go B n0 Q h ce sl pc Ls S :=
  iCallSB C (Pay.of hM C.words w4 w3 hr.1 hr.2.1) w1 w2 w3 w4 hy hlen hS has hd hsz hW hr.2.2 K
theorem iCallIB (C : Cx B l Z a0 R y b mx rt) {yc : MethodName} {as' : Array Value} {Qc : Option Value → Heap → Prop} {i W cc ss ce' sl' : Nat} {argsL : List Value} {a : Addr} {cbx : ByteArray} {cmx : Nat} (hM : Pay l Z R yc 3 W as' n0 h cc ss Qc) (hi : yc.name = "<init>") (w1 : Jvm.Cond.methodLink y.cls i yc ∈ tables_1) (w2 : Jvm.Cond.instanceMethod yc ∈ tables_1) (w4 : Jvm.Cond.code yc cbx cmx none ∈ tables_1) (hy : yc.cls ≠ "java/lang/invoke/MethodHandle" ∧ yc.cls ≠ "java/lang/invoke/VarHandle") (hlen : ∀ sig, parseMethodDescriptor yc.desc = some sig → argsL.length = sig.parameters.length) (hS : S = argsL.reverse ++ .ref a :: S') (has : (.ref a :: argsL).toArray = as') (hd : De b pc (.invokespecial i) 3 n) (hsz : Ls.size = mx) (hW : (S'.map fun v => v.category).sum = W) (hr : ce + cc = ce' ∧ sl + ss = sl' ∧ ce' ≤ R.cells ∧ sl' ≤ R.slots) (K : ∀ (v : Option Value) (h' : Heap), Qc v h' → Go B n0 Q h' ce' sl' n Ls (v.toList ++ S')) : Go B n0 Q h ce sl pc Ls S := by
  obtain ⟨p, l', e, R', s, m, args, below, meth, c⟩ := B
  obtain ⟨rfl, rfl, hx, rfl, hml, hown, hnm, hret, hlk, hZ, hw⟩ := C
  intro T locs X eT N
  obtain ⟨hd, rfl⟩ := hd
  obtain ⟨rfl, rfl, hr3, hr4⟩ := hr
  subst hS has
  obtain ⟨v, vm₁, ⟨T', L', k', n'⟩, -, X', ⟨Lc, hQ, l', y', z'⟩, st⟩ := X.specialBack hx (y := yc) hi hown (mvT hZ (hw _ w1)) (mvT hZ (hw _ w2)) (mvT hZ (hw _ w4)) hy (hM p e below s args hZ) (g := mkF m pc Ls (argsL.reverse ++ .ref a :: S')) rfl (by rw [hml]; exact hsz) (Steps.refl _) (a := a) (argsL := argsL) (rest := S') hlen rfl (by show 2 * 0 + _ ≤ _; omega) hd (fun _ _ => ⟨rfl, eT, hr3, hr4⟩)
  dsimp only [Pt.U, Pt.locs, Pt.cells, Pt.slots] at X' l' y' z' st hQ
  subst l' y' z'
  obtain ⟨s₂, o, st', r⟩ := K v _ hQ.1 T' _ X' rfl (Fr.app N hQ.2)
  exact ⟨s₂, o, st.trans st', r⟩
theorem iCallI (C : Cx B l Z a0 R y b mx rt) {yc : MethodName} {cb : ByteArray} {cm : Nat} {rm : Room} {as' : Array Value} {Qc : Option Value → Heap → Prop} {i W ce' sl' : Nat} {argsL : List Value} {a : Addr} (hM : Pays l Z yc cb cm none rm as' n0 h Qc) (hi : yc.name = "<init>") (w1 : Jvm.Cond.methodLink y.cls i yc ∈ tables_1) (w2 : Jvm.Cond.instanceMethod yc ∈ tables_1) (w3 : Jvm.Cond.initialized yc.cls ∈ tables_1) (w4 : Jvm.Cond.code yc cb cm none ∈ tables_1) (hy : yc.cls ≠ "java/lang/invoke/MethodHandle" ∧ yc.cls ≠ "java/lang/invoke/VarHandle") (hlen : ∀ sig, parseMethodDescriptor yc.desc = some sig → argsL.length = sig.parameters.length) (hS : S = argsL.reverse ++ .ref a :: S') (has : (.ref a :: argsL).toArray = as') (hd : De b pc (.invokespecial i) 3 n) (hsz : Ls.size = mx) (hW : (S'.map fun v => v.category).sum = W) (hr : rm.frames + 1 ≤ R.frames ∧ W + (cm + 11) + rm.locals ≤ R.locals ∧ ce + rm.cells = ce' ∧ sl + rm.slots = sl' ∧ ce' ≤ R.cells ∧ sl' ≤ R.slots) (K : ∀ (v : Option Value) (h' : Heap), Qc v h' → Go B n0 Q h' ce' sl' n Ls (v.toList ++ S')) : Go B n0 Q h ce sl pc Ls S :=
  iCallIB C (Pay.of hM C.words w4 w3 hr.1 hr.2.1) hi w1 w2 w4 hy hlen hS has hd hsz hW hr.2.2 K
theorem iCallVB (C : Cx B l Z a0 R y b mx rt) {yc : MethodName} {as' : Array Value} {Qc : Option Value → Heap → Prop} {i W cc ss ce' sl' : Nat} {argsL : List Value} {a : Addr} {CC : String} {yd : MethodName} (hM : Pay l Z R yc 3 W as' n0 h cc ss Qc) (E : Exa Z h a CC) (w1 : Jvm.Cond.methodLink y.cls i yd ∈ tables_1) (w2 : Jvm.Cond.declares yd ∈ tables_1) (wn : yd = yc ∨ ∃ SS, Jvm.Cond.superclass yd.cls SS ∈ tables_1) (w5 : Jvm.Cond.selects CC yd yc ∈ tables_1) (w6 : Jvm.Cond.instanceMethod yc ∈ tables_1) (hy : yd.cls ≠ "java/lang/invoke/MethodHandle" ∧ yd.cls ≠ "java/lang/invoke/VarHandle") (hlen : ∀ sig, parseMethodDescriptor yd.desc = some sig → argsL.length = sig.parameters.length) (hS : S = argsL.reverse ++ .ref a :: S') (has : (.ref a :: argsL).toArray = as') (hd : De b pc (.invokevirtual i) 3 n) (hsz : Ls.size = mx) (hW : (S'.map fun v => v.category).sum = W) (hr : ce + cc = ce' ∧ sl + ss = sl' ∧ ce' ≤ R.cells ∧ sl' ≤ R.slots) (K : ∀ (v : Option Value) (h' : Heap), Qc v h' → Go B n0 Q h' ce' sl' n Ls (v.toList ++ S')) : Go B n0 Q h ce sl pc Ls S := by
  obtain ⟨p, l', e, R', s, m, args, below, meth, c⟩ := B
  obtain ⟨rfl, rfl, hx, rfl, hml, hown, hnm, hret, hlk, hZ, hw⟩ := C
  intro T locs X eT N
  obtain ⟨hd, rfl⟩ := hd
  obtain ⟨rfl, rfl, hr3, hr4⟩ := hr
  subst hS has
  obtain ⟨cq, kq, q1, q2, q3⟩ := isOf hZ eT E
  have nf : NotFace s yd := by
    rcases wn with rfl | ⟨SS, wn⟩
    · exact notFace_of_selects (args := #[]) (mvT hZ (hw _ w5))
    · exact nf_super (args := #[]) (mvT hZ (hw _ wn))
  obtain ⟨v, vm₁, ⟨T', L', k', n'⟩, -, X', ⟨Lc, hQ, l', y', z'⟩, st⟩ := X.virtualBack hx (y := yd) (z := yc) hown (mvT hZ (hw _ w1)) (mvT hZ (hw _ w2)) nf (mvT hZ (hw _ w5)) (mvT hZ (hw _ w6)) hy (hM p e below s args hZ) q1 q3 (g := mkF m pc Ls (argsL.reverse ++ .ref a :: S')) rfl (by rw [hml]; exact hsz) (Steps.refl _) (argsL := argsL) (rest := S') hlen rfl (by show 2 * 0 + _ ≤ _; omega) hd (fun _ _ => ⟨rfl, eT, hr3, hr4⟩)
  dsimp only [Pt.U, Pt.locs, Pt.cells, Pt.slots] at X' l' y' z' st hQ
  subst l' y' z'
  obtain ⟨s₂, o, st', r⟩ := K v _ hQ.1 T' _ X' rfl (Fr.app N hQ.2)
  exact ⟨s₂, o, st.trans st', r⟩
theorem iCallV (C : Cx B l Z a0 R y b mx rt) {yc : MethodName} {cb : ByteArray} {cm : Nat} {cr : Option FieldType} {rm : Room} {as' : Array Value} {Qc : Option Value → Heap → Prop} {i W ce' sl' : Nat} {argsL : List Value} {a : Addr} {CC : String} {yd : MethodName} (hM : Pays l Z yc cb cm cr rm as' n0 h Qc) (E : Exa Z h a CC) (w1 : Jvm.Cond.methodLink y.cls i yd ∈ tables_1) (w2 : Jvm.Cond.declares yd ∈ tables_1) (wn : yd = yc ∨ ∃ SS, Jvm.Cond.superclass yd.cls SS ∈ tables_1) (w5 : Jvm.Cond.selects CC yd yc ∈ tables_1) (w6 : Jvm.Cond.instanceMethod yc ∈ tables_1) (w3 : Jvm.Cond.initialized yc.cls ∈ tables_1) (w4 : Jvm.Cond.code yc cb cm cr ∈ tables_1) (hy : yd.cls ≠ "java/lang/invoke/MethodHandle" ∧ yd.cls ≠ "java/lang/invoke/VarHandle") (hlen : ∀ sig, parseMethodDescriptor yd.desc = some sig → argsL.length = sig.parameters.length) (hS : S = argsL.reverse ++ .ref a :: S') (has : (.ref a :: argsL).toArray = as') (hd : De b pc (.invokevirtual i) 3 n) (hsz : Ls.size = mx) (hW : (S'.map fun v => v.category).sum = W) (hr : rm.frames + 1 ≤ R.frames ∧ W + (cm + 11) + rm.locals ≤ R.locals ∧ ce + rm.cells = ce' ∧ sl + rm.slots = sl' ∧ ce' ≤ R.cells ∧ sl' ≤ R.slots) (K : ∀ (v : Option Value) (h' : Heap), Qc v h' → Go B n0 Q h' ce' sl' n Ls (v.toList ++ S')) : Go B n0 Q h ce sl pc Ls S :=
  iCallVB C (Pay.of hM C.words w4 w3 hr.1 hr.2.1) E w1 w2 wn w5 w6 hy hlen hS has hd hsz hW hr.2.2 K
theorem iCallFB (C : Cx B l Z a0 R y b mx rt) {yc : MethodName} {as' : Array Value} {Qc : Option Value → Heap → Prop} {i W cc ss ce' sl' : Nat} {argsL : List Value} {a : Addr} {CC : String} {yd : MethodName} {cnt : Nat} (hM : Pay l Z R yc 5 W as' n0 h cc ss Qc) (E : Exa Z h a CC) (w1 : Jvm.Cond.methodLink y.cls i yd ∈ tables_1) (w2 : Jvm.Cond.declares yd ∈ tables_1) (w7 : Jvm.Cond.interfaceMethod yd.cls yd.cls yd.name yd.desc ∈ tables_1) (h7 : ((Jvm.Cond.interfaceMethod yd.cls yd.cls yd.name yd.desc).onTables && (Jvm.Cond.interfaceMethod yd.cls yd.cls yd.name yd.desc).keepsFace) = true) (w5 : Jvm.Cond.selects CC yd yc ∈ tables_1) (w6 : Jvm.Cond.instanceMethod yc ∈ tables_1) (w8 : Jvm.Cond.publicMethod yc ∈ tables_1) (w9 : Jvm.Cond.unhidden CC yd.name yd.desc ∈ tables_1) (w0 : Jvm.Cond.castable CC yd.cls ∈ tables_1) (hy : yd.cls ≠ "java/lang/invoke/MethodHandle" ∧ yd.cls ≠ "java/lang/invoke/VarHandle") (hlen : ∀ sig, parseMethodDescriptor yd.desc = some sig → argsL.length = sig.parameters.length) (hS : S = argsL.reverse ++ .ref a :: S') (has : (.ref a :: argsL).toArray = as') (hd : De b pc (.invokeinterface i cnt) 5 n) (hsz : Ls.size = mx) (hW : (S'.map fun v => v.category).sum = W) (hr : ce + cc = ce' ∧ sl + ss = sl' ∧ ce' ≤ R.cells ∧ sl' ≤ R.slots) (K : ∀ (v : Option Value) (h' : Heap), Qc v h' → Go B n0 Q h' ce' sl' n Ls (v.toList ++ S')) : Go B n0 Q h ce sl pc Ls S := by
  obtain ⟨p, l', e, R', s, m, args, below, meth, c⟩ := B
  obtain ⟨rfl, rfl, hx, rfl, hml, hown, hnm, hret, hlk, hZ, hw⟩ := C
  intro T locs X eT N
  obtain ⟨hd, rfl⟩ := hd
  obtain ⟨rfl, rfl, hr3, hr4⟩ := hr
  subst hS has
  obtain ⟨cq, kq, q1, q2, q3⟩ := isOf hZ eT E
  obtain ⟨v, vm₁, ⟨T', L', k', n'⟩, -, X', ⟨Lc, hQ, l', y', z'⟩, st⟩ := X.interfaceBack hx (xi := yd) (y := yc) hown (mvT hZ (hw _ w1)) (mvT hZ (hw _ w2)) (mvT hZ (hw _ w7) h7) (mvT hZ (hw _ w5)) (mvT hZ (hw _ w6)) (mvT hZ (hw _ w8)) (mvT hZ (hw _ w9)) (mvT hZ (hw _ w0)) hy (hM p e below s args hZ) q1 q2 q3 (g := mkF m pc Ls (argsL.reverse ++ .ref a :: S')) rfl (by rw [hml]; exact hsz) (Steps.refl _) (argsL := argsL) (rest := S') hlen rfl (by show 2 * 0 + _ ≤ _; omega) hd (fun _ _ => ⟨rfl, eT, hr3, hr4⟩)
  dsimp only [Pt.U, Pt.locs, Pt.cells, Pt.slots] at X' l' y' z' st hQ
  subst l' y' z'
  obtain ⟨s₂, o, st', r⟩ := K v _ hQ.1 T' _ X' rfl (Fr.app N hQ.2)
  exact ⟨s₂, o, st.trans st', r⟩
theorem iCallF (C : Cx B l Z a0 R y b mx rt) {yc : MethodName} {cb : ByteArray} {cm : Nat} {cr : Option FieldType} {rm : Room} {as' : Array Value} {Qc : Option Value → Heap → Prop} {i W ce' sl' : Nat} {argsL : List Value} {a : Addr} {CC : String} {yd : MethodName} {cnt : Nat} (hM : Pays l Z yc cb cm cr rm as' n0 h Qc) (E : Exa Z h a CC) (w1 : Jvm.Cond.methodLink y.cls i yd ∈ tables_1) (w2 : Jvm.Cond.declares yd ∈ tables_1) (w7 : Jvm.Cond.interfaceMethod yd.cls yd.cls yd.name yd.desc ∈ tables_1) (h7 : ((Jvm.Cond.interfaceMethod yd.cls yd.cls yd.name yd.desc).onTables && (Jvm.Cond.interfaceMethod yd.cls yd.cls yd.name yd.desc).keepsFace) = true) (w5 : Jvm.Cond.selects CC yd yc ∈ tables_1) (w6 : Jvm.Cond.instanceMethod yc ∈ tables_1) (w8 : Jvm.Cond.publicMethod yc ∈ tables_1) (w9 : Jvm.Cond.unhidden CC yd.name yd.desc ∈ tables_1) (w0 : Jvm.Cond.castable CC yd.cls ∈ tables_1) (w3 : Jvm.Cond.initialized yc.cls ∈ tables_1) (w4 : Jvm.Cond.code yc cb cm cr ∈ tables_1) (hy : yd.cls ≠ "java/lang/invoke/MethodHandle" ∧ yd.cls ≠ "java/lang/invoke/VarHandle") (hlen : ∀ sig, parseMethodDescriptor yd.desc = some sig → argsL.length = sig.parameters.length) (hS : S = argsL.reverse ++ .ref a :: S') (has : (.ref a :: argsL).toArray = as') (hd : De b pc (.invokeinterface i cnt) 5 n) (hsz : Ls.size = mx) (hW : (S'.map fun v => v.category).sum = W) (hr : rm.frames + 1 ≤ R.frames ∧ W + (cm + 11) + rm.locals ≤ R.locals ∧ ce + rm.cells = ce' ∧ sl + rm.slots = sl' ∧ ce' ≤ R.cells ∧ sl' ≤ R.slots) (K : ∀ (v : Option Value) (h' : Heap), Qc v h' → Go B n0 Q h' ce' sl' n Ls (v.toList ++ S')) : Go B n0 Q h ce sl pc Ls S :=
  iCallFB C (Pay.of hM C.words w4 w3 hr.1 hr.2.1) E w1 w2 w7 h7 w5 w6 w8 w9 w0 hy hlen hS has hd hsz hW hr.2.2 K
theorem iLen (C : Cx B l Z a0 R y b mx rt) {a : Addr} {cl : Cell} {ty : FieldType} {z : Int32} (A : Arr Z h a cl ty) (hz : cl.slots.size.toInt32 = z) (hd : De b pc (.arraylength) 1 n) (K : Go B n0 Q h ce sl n Ls (.int z :: S)) : Go B n0 Q h ce sl pc Ls (.ref a :: S) := by
  obtain ⟨p, l', e, R', s, m, args, below, meth, c⟩ := B
  obtain ⟨rfl, rfl, hx, rfl, hml, hown, hnm, hret, hlk, hZ, hw⟩ := C
  intro T locs X eT N
  obtain ⟨hd, rfl⟩ := hd
  subst hz
  obtain ⟨s₂, o, st, r⟩ := K T locs X eT N
  exact ⟨s₂, o, X.arraylength hx (by rw [eT]; exact A.1) (State.isArrayOf_alike hZ.alike A.2.1) (g := mkF m pc Ls (.ref a :: S)) rfl rfl hd _ st, r⟩
theorem iIaload (C : Cx B l Z a0 R y b mx rt) {a : Addr} {cl : Cell} {j : Int32} {v : Value} (A : Arr Z h a cl .int) (hj : ¬ (j < 0 ∨ cl.slots.size ≤ j.toNatClampNeg)) (hv : cl.slots[j.toNatClampNeg]? = some v) (hd : De b pc (.iaload) 1 n) (K : Go B n0 Q h ce sl n Ls (v :: S)) : Go B n0 Q h ce sl pc Ls (.int j :: .ref a :: S) := by
  obtain ⟨p, l', e, R', s, m, args, below, meth, c⟩ := B
  obtain ⟨rfl, rfl, hx, rfl, hml, hown, hnm, hret, hlk, hZ, hw⟩ := C
  intro T locs X eT N
  obtain ⟨hd, rfl⟩ := hd
  obtain ⟨s₂, o, st, r⟩ := K T locs X eT N
  exact ⟨s₂, o, X.iaload hx (by rw [eT]; exact A.1) (State.isArrayOf_alike hZ.alike A.2.1) A.2.2 hj hv (g := mkF m pc Ls (.int j :: .ref a :: S)) rfl rfl hd _ st, r⟩
theorem iCaload (C : Cx B l Z a0 R y b mx rt) {a : Addr} {cl : Cell} {j : Int32} {v : Value} (A : Arr Z h a cl .char) (hj : ¬ (j < 0 ∨ cl.slots.size ≤ j.toNatClampNeg)) (hv : cl.slots[j.toNatClampNeg]? = some v) (hd : De b pc (.caload) 1 n) (K : Go B n0 Q h ce sl n Ls (v :: S)) : Go B n0 Q h ce sl pc Ls (.int j :: .ref a :: S) := by
  obtain ⟨p, l', e, R', s, m, args, below, meth, c⟩ := B
  obtain ⟨rfl, rfl, hx, rfl, hml, hown, hnm, hret, hlk, hZ, hw⟩ := C
  intro T locs X eT N
  obtain ⟨hd, rfl⟩ := hd
  obtain ⟨s₂, o, st, r⟩ := K T locs X eT N
  exact ⟨s₂, o, X.caload hx (by rw [eT]; exact A.1) (State.isArrayOf_alike hZ.alike A.2.1) A.2.2 hj hv (g := mkF m pc Ls (.int j :: .ref a :: S)) rfl rfl hd _ st, r⟩
theorem iBaload (C : Cx B l Z a0 R y b mx rt) {a : Addr} {cl : Cell} {j : Int32} {v : Value} (A : Arr Z h a cl .byte) (hj : ¬ (j < 0 ∨ cl.slots.size ≤ j.toNatClampNeg)) (hv : cl.slots[j.toNatClampNeg]? = some v) (hd : De b pc (.baload) 1 n) (K : Go B n0 Q h ce sl n Ls (v :: S)) : Go B n0 Q h ce sl pc Ls (.int j :: .ref a :: S) := by
  obtain ⟨p, l', e, R', s, m, args, below, meth, c⟩ := B
  obtain ⟨rfl, rfl, hx, rfl, hml, hown, hnm, hret, hlk, hZ, hw⟩ := C
  intro T locs X eT N
  obtain ⟨hd, rfl⟩ := hd
  obtain ⟨s₂, o, st, r⟩ := K T locs X eT N
  exact ⟨s₂, o, X.baloadBytes hx (by rw [eT]; exact A.1) (State.isArrayOf_alike hZ.alike A.2.1) A.2.2 hj hv (g := mkF m pc Ls (.int j :: .ref a :: S)) rfl rfl hd _ st, r⟩
theorem iLaload (C : Cx B l Z a0 R y b mx rt) {a : Addr} {cl : Cell} {j : Int32} {v : Value} (A : Arr Z h a cl .long) (hj : ¬ (j < 0 ∨ cl.slots.size ≤ j.toNatClampNeg)) (hv : cl.slots[j.toNatClampNeg]? = some v) (hd : De b pc (.laload) 1 n) (K : Go B n0 Q h ce sl n Ls (v :: S)) : Go B n0 Q h ce sl pc Ls (.int j :: .ref a :: S) := by
  obtain ⟨p, l', e, R', s, m, args, below, meth, c⟩ := B
  obtain ⟨rfl, rfl, hx, rfl, hml, hown, hnm, hret, hlk, hZ, hw⟩ := C
  intro T locs X eT N
  obtain ⟨hd, rfl⟩ := hd
  obtain ⟨s₂, o, st, r⟩ := K T locs X eT N
  exact ⟨s₂, o, X.laload hx (by rw [eT]; exact A.1) (State.isArrayOf_alike hZ.alike A.2.1) A.2.2 hj hv (g := mkF m pc Ls (.int j :: .ref a :: S)) rfl rfl hd _ st, r⟩
theorem iAaload (C : Cx B l Z a0 R y b mx rt) {a : Addr} {cl : Cell} {j : Int32} {v : Value} {ty : FieldType} (hty : ty.isReference = true) (A : Arr Z h a cl ty) (hj : ¬ (j < 0 ∨ cl.slots.size ≤ j.toNatClampNeg)) (hv : cl.slots[j.toNatClampNeg]? = some v) (hd : De b pc (.aaload) 1 n) (K : Go B n0 Q h ce sl n Ls (v :: S)) : Go B n0 Q h ce sl pc Ls (.int j :: .ref a :: S) := by
  obtain ⟨p, l', e, R', s, m, args, below, meth, c⟩ := B
  obtain ⟨rfl, rfl, hx, rfl, hml, hown, hnm, hret, hlk, hZ, hw⟩ := C
  intro T locs X eT N
  obtain ⟨hd, rfl⟩ := hd
  obtain ⟨s₂, o, st, r⟩ := K T locs X eT N
  exact ⟨s₂, o, X.aaload hx (by rw [eT]; exact A.1) (State.isArrayOf_alike hZ.alike A.2.1) hty A.2.2 hj hv (g := mkF m pc Ls (.int j :: .ref a :: S)) rfl rfl hd _ st, r⟩
theorem iNewP (C : Cx B l Z a0 R y b mx rt) {aty : ArrayType} {z : Int32} {cap ce' sl' : Nat} (w : Jvm.Cond.arrayClass (newarray.typeOf aty) ∈ tables_1) (hd : De b pc (.newarray aty) 2 n) (hz : ¬ z < 0) (hcap : z.toNatClampNeg ≤ cap) (hb : cap * 8 ≤ 536870912) (hc : ce + 1 = ce' ∧ sl + cap = sl' ∧ ce' ≤ R.cells ∧ sl' ≤ R.slots) (K : ∀ (h' : Heap) (a : Addr) (k : ClassId), a = h.size → Ext h h' → Arv Z h' a k (newarray.typeOf aty) z [] (defaultValue (newarray.typeOf aty)) → Go B n0 Q h' ce' sl' n Ls (.ref a :: S)) : Go B n0 Q h ce sl pc Ls (.int z :: S) := by
  obtain ⟨p, l', e, R', s, m, args, below, meth, c⟩ := B
  obtain ⟨rfl, rfl, hx, rfl, hml, hown, hnm, hret, hlk, hZ, hw⟩ := C
  intro T locs X eT N
  obtain ⟨hd, rfl⟩ := hd
  obtain ⟨rfl, rfl, hc, hs⟩ := hc
  obtain ⟨T', h', kA, X', e', E, A, st⟩ := newP X hx hZ (hw _ w) eT (g := mkF m pc Ls (.int z :: S)) rfl hd rfl hz hcap hb hc hs
  obtain ⟨s₂, o, st', r⟩ := K h' _ kA rfl E (Arv.new A hz) T' locs X' e' N
  exact ⟨s₂, o, st _ st', r⟩
theorem iIastore (C : Cx B l Z a0 R y b mx rt) {a : Addr} {cl : Cell} {j : Int32} {x : Int32} (A : Arr Z h a cl .int) (hj : ¬ (j < 0 ∨ cl.slots.size ≤ j.toNatClampNeg)) (ha : n0 ≤ a) (hd : De b pc (.iastore) 1 n) (K : ∀ h', Wr h h' a j.toNatClampNeg (.int x) → Go B n0 Q h' ce sl n Ls S) : Go B n0 Q h ce sl pc Ls (.int x :: .int j :: .ref a :: S) := by
  obtain ⟨p, l', e, R', s, m, args, below, meth, c⟩ := B
  obtain ⟨rfl, rfl, hx, rfl, hml, hown, hnm, hret, hlk, hZ, hw⟩ := C
  intro T locs X eT N
  obtain ⟨hd, rfl⟩ := hd
  obtain ⟨T', h', X', e', W, st⟩ := stI X hx hZ eT A (j := j) hj (g := mkF m pc Ls (.int x :: .int j :: .ref a :: S)) rfl rfl hd
  obtain ⟨s₂, o, st', r⟩ := K h' W T' _ X' e' (Fr.snoc X' N ha)
  exact ⟨s₂, o, st _ st', r⟩
theorem iCastore (C : Cx B l Z a0 R y b mx rt) {a : Addr} {cl : Cell} {j : Int32} {x : Int32} (A : Arr Z h a cl .char) (hj : ¬ (j < 0 ∨ cl.slots.size ≤ j.toNatClampNeg)) (ha : n0 ≤ a) (hd : De b pc (.castore) 1 n) (K : ∀ h', Wr h h' a j.toNatClampNeg (.int (nar .char x)) → Go B n0 Q h' ce sl n Ls S) : Go B n0 Q h ce sl pc Ls (.int x :: .int j :: .ref a :: S) := by
  obtain ⟨p, l', e, R', s, m, args, below, meth, c⟩ := B
  obtain ⟨rfl, rfl, hx, rfl, hml, hown, hnm, hret, hlk, hZ, hw⟩ := C
  intro T locs X eT N
  obtain ⟨hd, rfl⟩ := hd
  obtain ⟨T', h', X', e', W, st⟩ := stC X hx hZ eT A (j := j) hj (g := mkF m pc Ls (.int x :: .int j :: .ref a :: S)) rfl rfl hd
  obtain ⟨s₂, o, st', r⟩ := K h' W T' _ X' e' (Fr.snoc X' N ha)
  exact ⟨s₂, o, st _ st', r⟩
theorem iBastore (C : Cx B l Z a0 R y b mx rt) {a : Addr} {cl : Cell} {j : Int32} {x : Int32} (A : Arr Z h a cl .byte) (hj : ¬ (j < 0 ∨ cl.slots.size ≤ j.toNatClampNeg)) (ha : n0 ≤ a) (hd : De b pc (.bastore) 1 n) (K : ∀ h', Wr h h' a j.toNatClampNeg (.int (nar .byte x)) → Go B n0 Q h' ce sl n Ls S) : Go B n0 Q h ce sl pc Ls (.int x :: .int j :: .ref a :: S) := by
  obtain ⟨p, l', e, R', s, m, args, below, meth, c⟩ := B
  obtain ⟨rfl, rfl, hx, rfl, hml, hown, hnm, hret, hlk, hZ, hw⟩ := C
  intro T locs X eT N
  obtain ⟨hd, rfl⟩ := hd
  obtain ⟨T', h', X', e', W, st⟩ := stB X hx hZ eT A (j := j) hj (g := mkF m pc Ls (.int x :: .int j :: .ref a :: S)) rfl rfl hd
  obtain ⟨s₂, o, st', r⟩ := K h' W T' _ X' e' (Fr.snoc X' N ha)
  exact ⟨s₂, o, st _ st', r⟩
theorem iLastore (C : Cx B l Z a0 R y b mx rt) {a : Addr} {cl : Cell} {j : Int32} {x : Int64} (A : Arr Z h a cl .long) (hj : ¬ (j < 0 ∨ cl.slots.size ≤ j.toNatClampNeg)) (ha : n0 ≤ a) (hd : De b pc (.lastore) 1 n) (K : ∀ h', Wr h h' a j.toNatClampNeg (.long x) → Go B n0 Q h' ce sl n Ls S) : Go B n0 Q h ce sl pc Ls (.long x :: .int j :: .ref a :: S) := by
  obtain ⟨p, l', e, R', s, m, args, below, meth, c⟩ := B
  obtain ⟨rfl, rfl, hx, rfl, hml, hown, hnm, hret, hlk, hZ, hw⟩ := C
  intro T locs X eT N
  obtain ⟨hd, rfl⟩ := hd
  obtain ⟨T', h', X', e', W, st⟩ := stJ X hx hZ eT A (j := j) hj (g := mkF m pc Ls (.long x :: .int j :: .ref a :: S)) rfl rfl hd
  obtain ⟨s₂, o, st', r⟩ := K h' W T' _ X' e' (Fr.snoc X' N ha)
  exact ⟨s₂, o, st _ st', r⟩
theorem iAastore (C : Cx B l Z a0 R y b mx rt) {a : Addr} {cl : Cell} {j : Int32} {v : Value} {ty : FieldType} (A : Arr Z h a cl ty) (hj : ¬ (j < 0 ∨ cl.slots.size ≤ j.toNatClampNeg)) (hty : ty.isReference = true) (F : Sto Z h a v) (ha : n0 ≤ a) (hd : De b pc (.aastore) 1 n) (K : ∀ h', Wr h h' a j.toNatClampNeg v → Go B n0 Q h' ce sl n Ls S) : Go B n0 Q h ce sl pc Ls (v :: .int j :: .ref a :: S) := by
  obtain ⟨p, l', e, R', s, m, args, below, meth, c⟩ := B
  obtain ⟨rfl, rfl, hx, rfl, hml, hown, hnm, hret, hlk, hZ, hw⟩ := C
  intro T locs X eT N
  obtain ⟨hd, rfl⟩ := hd
  obtain ⟨T', h', X', e', W, st⟩ := stR X hx hZ eT A (j := j) hj hty F (g := mkF m pc Ls (v :: .int j :: .ref a :: S)) rfl rfl hd
  obtain ⟨s₂, o, st', r⟩ := K h' W T' _ X' e' (Fr.snoc X' N ha)
  exact ⟨s₂, o, st _ st', r⟩
theorem iCast (C : Cx B l Z a0 R y b mx rt) {i : Nat} {a : Addr} {K0 : String} (w : Jvm.Cond.classLink y.cls i K0 ∈ tables_1) (F : Ins Z h a K0 true) (hd : De b pc (.checkcast i) 3 n) (K : Go B n0 Q h ce sl n Ls (.ref a :: S)) : Go B n0 Q h ce sl pc Ls (.ref a :: S) := by
  obtain ⟨p, l', e, R', s, m, args, below, meth, c⟩ := B
  obtain ⟨rfl, rfl, hx, rfl, hml, hown, hnm, hret, hlk, hZ, hw⟩ := C
  intro T locs X eT N
  obtain ⟨hd, rfl⟩ := hd
  obtain ⟨T', X', e', st⟩ := castY X hx hZ hown (hw _ w) eT F (g := mkF m pc Ls (.ref a :: S)) rfl rfl hd
  obtain ⟨s₂, o, st', r⟩ := K T' locs X' e' N
  exact ⟨s₂, o, st _ st', r⟩
theorem iInstY (C : Cx B l Z a0 R y b mx rt) {i : Nat} {a : Addr} {K0 : String} (w : Jvm.Cond.classLink y.cls i K0 ∈ tables_1) (F : Ins Z h a K0 true) (hd : De b pc (.instanceof i) 3 n) (K : Go B n0 Q h ce sl n Ls (.int 1 :: S)) : Go B n0 Q h ce sl pc Ls (.ref a :: S) := by
  obtain ⟨p, l', e, R', s, m, args, below, meth, c⟩ := B
  obtain ⟨rfl, rfl, hx, rfl, hml, hown, hnm, hret, hlk, hZ, hw⟩ := C
  intro T locs X eT N
  obtain ⟨hd, rfl⟩ := hd
  obtain ⟨T', X', e', st⟩ := instY X hx hZ hown (hw _ w) eT F (g := mkF m pc Ls (.ref a :: S)) rfl rfl hd
  obtain ⟨s₂, o, st', r⟩ := K T' locs X' e' N
  exact ⟨s₂, o, st _ st', r⟩
theorem iInstN (C : Cx B l Z a0 R y b mx rt) {i : Nat} {a : Addr} {K0 CC : String} (w : Jvm.Cond.classLink y.cls i K0 ∈ tables_1) (E : Exa Z h a CC) (F : ∃ c t, Z.vm.findClass CC = some c ∧ Z.vm.findClass K0 = some t ∧ Z.vm.assignable c t = false) (hd : De b pc (.instanceof i) 3 n) (K : Go B n0 Q h ce sl n Ls (.int 0 :: S)) : Go B n0 Q h ce sl pc Ls (.ref a :: S) := by
  obtain ⟨p, l', e, R', s, m, args, below, meth, c⟩ := B
  obtain ⟨rfl, rfl, hx, rfl, hml, hown, hnm, hret, hlk, hZ, hw⟩ := C
  intro T locs X eT N
  obtain ⟨hd, rfl⟩ := hd
  obtain ⟨T', X', e', st⟩ := instNo X hx hZ hown (hw _ w) eT E F (g := mkF m pc Ls (.ref a :: S)) rfl rfl hd
  obtain ⟨s₂, o, st', r⟩ := K T' locs X' e' N
  exact ⟨s₂, o, st _ st', r⟩
theorem iRetV  (C : Cx B l Z a0 R y b mx none) (hd : De b pc (.return_) 1 n) (hc : ce ≤ R.cells ∧ sl ≤ R.slots) (hQ : Q none h) : Go B n0 Q h ce sl pc Ls ([]) := by
  obtain ⟨p, l', e, R', s, m, args, below, meth, c⟩ := B
  obtain ⟨rfl, rfl, hx, rfl, hml, hown, hnm, hret, hlk, hZ, hw⟩ := C
  intro T locs X eT N
  obtain ⟨hd, rfl⟩ := hd
  obtain ⟨fs, hr, hrun, hended, hW, hsame⟩ := X.leave (v := none) (fun q => by first | rfl | (rw [hret] at q; cases q)) hlk
  exact ⟨_, _, X.returnOut hx hret hd hr, hrun, hended, _, _, rfl, ⟨eT ▸ hQ, N⟩, ⟨_, rfl⟩, hW, hsame.mono hc.1 hc.2⟩
theorem iRetZ {z : Int32} {t : FieldType} (C : Cx B l Z a0 R y b mx (some t)) (hd : De b pc (.ireturn) 1 n) (ht : t = .boolean ∨ t = .byte ∨ t = .char ∨ t = .short) (hc : ce ≤ R.cells ∧ sl ≤ R.slots) (hQ : Q (some (.int (nar t z))) h) : Go B n0 Q h ce sl pc Ls (.int z :: S) := by
  obtain ⟨p, l', e, R', s, m, args, below, meth, c⟩ := B
  obtain ⟨rfl, rfl, hx, rfl, hml, hown, hnm, hret, hlk, hZ, hw⟩ := C
  intro T locs X eT N
  obtain ⟨hd, rfl⟩ := hd
  obtain ⟨fs, hr, hrun, hended, hW, hsame⟩ := X.leave (v := (some (.int (nar t z)))) (fun q => by first | rfl | (rw [hret] at q; cases q)) hlk
  exact ⟨_, _, retN X hx hret ht hd hr, hrun, hended, _, _, rfl, ⟨eT ▸ hQ, N⟩, ⟨_, rfl⟩, hW, hsame.mono hc.1 hc.2⟩
theorem iRetI {z : Int32} (C : Cx B l Z a0 R y b mx (some .int)) (hd : De b pc (.ireturn) 1 n) (hc : ce ≤ R.cells ∧ sl ≤ R.slots) (hQ : Q (some (.int z)) h) : Go B n0 Q h ce sl pc Ls (.int z :: S) := by
  obtain ⟨p, l', e, R', s, m, args, below, meth, c⟩ := B
  obtain ⟨rfl, rfl, hx, rfl, hml, hown, hnm, hret, hlk, hZ, hw⟩ := C
  intro T locs X eT N
  obtain ⟨hd, rfl⟩ := hd
  obtain ⟨fs, hr, hrun, hended, hW, hsame⟩ := X.leave (v := (some (.int z))) (fun q => by first | rfl | (rw [hret] at q; cases q)) hlk
  exact ⟨_, _, retOut X hx hret rfl (Or.inl ⟨rfl, Or.inl rfl, z, rfl⟩) hd hr, hrun, hended, _, _, rfl, ⟨eT ▸ hQ, N⟩, ⟨_, rfl⟩, hW, hsame.mono hc.1 hc.2⟩
theorem iRetA {w : Value} {t : FieldType} (C : Cx B l Z a0 R y b mx (some t)) (hd : De b pc (.areturn) 1 n) (ht : t.isReference = true) (hw' : w.isRef = true) (hna : narrow t w = w) (hc : ce ≤ R.cells ∧ sl ≤ R.slots) (hQ : Q (some w) h) : Go B n0 Q h ce sl pc Ls (w :: S) := by
  obtain ⟨p, l', e, R', s, m, args, below, meth, c⟩ := B
  obtain ⟨rfl, rfl, hx, rfl, hml, hown, hnm, hret, hlk, hZ, hw⟩ := C
  intro T locs X eT N
  obtain ⟨hd, rfl⟩ := hd
  obtain ⟨fs, hr, hrun, hended, hW, hsame⟩ := X.leave (v := (some w)) (fun q => by first | rfl | (rw [hret] at q; cases q)) hlk
  exact ⟨_, _, retOut X hx hret hna (Or.inr (Or.inr (Or.inr (Or.inr ⟨rfl, ht, hw'⟩)))) hd hr, hrun, hended, _, _, rfl, ⟨eT ▸ hQ, N⟩, ⟨_, rfl⟩, hW, hsame.mono hc.1 hc.2⟩
theorem iRetJ {z : Int64} (C : Cx B l Z a0 R y b mx (some .long)) (hd : De b pc (.lreturn) 1 n) (hc : ce ≤ R.cells ∧ sl ≤ R.slots) (hQ : Q (some (.long z)) h) : Go B n0 Q h ce sl pc Ls (.long z :: S) := by
  obtain ⟨p, l', e, R', s, m, args, below, meth, c⟩ := B
  obtain ⟨rfl, rfl, hx, rfl, hml, hown, hnm, hret, hlk, hZ, hw⟩ := C
  intro T locs X eT N
  obtain ⟨hd, rfl⟩ := hd
  obtain ⟨fs, hr, hrun, hended, hW, hsame⟩ := X.leave (v := (some (.long z))) (fun q => by first | rfl | (rw [hret] at q; cases q)) hlk
  exact ⟨_, _, retOut X hx hret rfl (Or.inr (Or.inl ⟨rfl, rfl, z, rfl⟩)) hd hr, hrun, hended, _, _, rfl, ⟨eT ▸ hQ, N⟩, ⟨_, rfl⟩, hW, hsame.mono hc.1 hc.2⟩
theorem oFresh {a : Addr} (O : Old Z n0 h) (g : a = h.size) : n0 ≤ a := by
  have q1 := O.1
  have q2 := O.2.1
  subst g
  omega
theorem oNe {a a' : Addr} (q : a < h.size) (g : a' = h.size) : a ≠ a' := Nat.ne_of_lt (g ▸ q)
theorem acE {x z : Value} (q : x = z) : XT.acmp .eq x z = true ∧ XT.acmp .ne x z = false := by
  show decide (x = z) = true ∧ decide (x ≠ z) = false
  simp [q]
theorem acN {x z : Value} (q : ¬ x = z) : XT.acmp .eq x z = false ∧ XT.acmp .ne x z = true := by
  show decide (x = z) = false ∧ decide (x ≠ z) = true
  simp [q]
theorem acNr {a a' : Addr} (q : ¬ a = a') : XT.acmp .eq (.ref a) (.ref a') = false ∧ XT.acmp .ne (.ref a) (.ref a') = true := acN fun r => q (Value.ref.inj r)
def QP (r : Option Value) (h0 : Heap) (v : Option Value) (h : Heap) : Prop := v = r ∧ h0 = h
theorem eqI_v {args : Array Value} {first s : State} {o : Option Outcome} {idx : List Nat} {t : Term} {k : Int32} (q : (Jvm.Cond.eq t (.int k)).value args first o s idx = some true) : t.eval args first o idx s = some (.int k) := by
  obtain ⟨x, z, e1, e2, k1, k2⟩ := cmp_v (Or.inl q)
  have e3 : (Term.int k).eval args first o idx s = some (.int k) := Term.int_eval k
  cases e3.symm.trans e2
  obtain ⟨w, rfl⟩ := k2
  have e4 := Cond.eq_ints (args := args) (first := first) (o := o) (s := s) (idx := idx) e1 e2
  rw [e1, gotT e4 q]
theorem eqQ_v {args : Array Value} {first s : State} {o : Option Outcome} {idx : List Nat} {t u : Term} {a' : Addr} (q : (Jvm.Cond.eq t u).value args first o s idx = some true) (e2 : u.eval args first o idx s = some (.ref a')) : t.eval args first o idx s = some (.ref a') := by
  obtain ⟨x, z, e1, e3, k1, k2⟩ := cmp_v (Or.inl q)
  cases e2.symm.trans e3
  have e4 := gotT (eq_R e1 e2 k2.2 rfl) q
  rw [e1, e4]
theorem oLen {args : Array Value} {s : State} {t : Term} {k : Int32} {a : Addr} {cl : Cell} (q : (Term.length t).eval args s none [] s = some (.int k)) (ev : t.eval args s none [] s = some (.ref a)) (hc : s.heap[a]? = some cl) : cl.slots.size.toInt32 = k := by
  obtain ⟨c', e1, e3⟩ := length_at q ev
  cases hc.symm.trans e1
  exact e3
theorem oOld {a a' : Addr} (O : Old Z n0 h) (q : a < Z.heap.size) (r : n0 ≤ a') : a ≠ a' := O.ne q r
theorem eqR_v {args : Array Value} {first s : State} {o : Option Outcome} {idx : List Nat} {t u : Term} {a a' : Addr} (q : (Jvm.Cond.eq t u).value args first o s idx = some true) (e1 : t.eval args first o idx s = some (.ref a)) (e2 : u.eval args first o idx s = some (.ref a')) : a = a' := Value.ref.inj (gotT (eq_R e1 e2 rfl rfl) q)
end Flow

theorem tw0 : (Jvm.Cond.methodLink "com/example/kilit/kilit/engine/KindComparesWithPinLaw" (22 : Nat) ({ cls := "com/example/kilit/kilit/engine/KindComparesWithPinLaw", name := "kindOf", desc := "(I)Lcom/example/kilit/kilit/engine/ColumnType$Kind;" } : Jvm.MethodName)) ∈ tables_1 := List.mem_of_getElem? (i := 0) rfl
theorem tw1 : (Jvm.Cond.static ({ cls := "com/example/kilit/kilit/engine/KindComparesWithPinLaw", name := "kindOf", desc := "(I)Lcom/example/kilit/kilit/engine/ColumnType$Kind;" } : Jvm.MethodName)) ∈ tables_1 := List.mem_of_getElem? (i := 1) rfl
theorem tw2 : (Jvm.Cond.initialized "com/example/kilit/kilit/engine/KindComparesWithPinLaw") ∈ tables_1 := List.mem_of_getElem? (i := 2) rfl
theorem tw3 : (Jvm.Cond.code ({ cls := "com/example/kilit/kilit/engine/KindComparesWithPinLaw", name := "kindOf", desc := "(I)Lcom/example/kilit/kilit/engine/ColumnType$Kind;" } : Jvm.MethodName) method_2_code (2 : Nat) (Option.some (Jvm.ClassFile.FieldType.object "com/example/kilit/kilit/engine/ColumnType$Kind"))) ∈ tables_1 := List.mem_of_getElem? (i := 3) rfl
theorem tw4 : (Jvm.Cond.fieldLink "com/example/kilit/kilit/engine/KindComparesWithPinLaw" (7 : Nat) "com/example/kilit/kilit/engine/ColumnType$Kind" "INT" "Lcom/example/kilit/kilit/engine/ColumnType$Kind;") ∈ tables_1 := List.mem_of_getElem? (i := 4) rfl
theorem tw5 : (Jvm.Cond.initialized "com/example/kilit/kilit/engine/ColumnType$Kind") ∈ tables_1 := List.mem_of_getElem? (i := 5) rfl
theorem tw6 : (Jvm.Cond.laysStatic "com/example/kilit/kilit/engine/ColumnType$Kind" "INT" "Lcom/example/kilit/kilit/engine/ColumnType$Kind;") ∈ tables_1 := List.mem_of_getElem? (i := 6) rfl
theorem tw7 : (Jvm.Cond.fieldLink "com/example/kilit/kilit/engine/KindComparesWithPinLaw" (19 : Nat) "com/example/kilit/kilit/engine/ColumnType$Kind" "VARCHAR" "Lcom/example/kilit/kilit/engine/ColumnType$Kind;") ∈ tables_1 := List.mem_of_getElem? (i := 7) rfl
theorem tw8 : (Jvm.Cond.laysStatic "com/example/kilit/kilit/engine/ColumnType$Kind" "VARCHAR" "Lcom/example/kilit/kilit/engine/ColumnType$Kind;") ∈ tables_1 := List.mem_of_getElem? (i := 8) rfl
theorem tw9 : (Jvm.Cond.methodLink "com/example/kilit/kilit/engine/KindComparesWithPinLaw" (28 : Nat) ({ cls := "com/example/kilit/kilit/engine/ColumnType$Kind", name := "comparesWith", desc := "(Lcom/example/kilit/kilit/engine/ColumnType$Kind;)Z" } : Jvm.MethodName)) ∈ tables_1 := List.mem_of_getElem? (i := 9) rfl
theorem tw10 : (Jvm.Cond.declares ({ cls := "com/example/kilit/kilit/engine/ColumnType$Kind", name := "comparesWith", desc := "(Lcom/example/kilit/kilit/engine/ColumnType$Kind;)Z" } : Jvm.MethodName)) ∈ tables_1 := List.mem_of_getElem? (i := 10) rfl
theorem tw11 : (Jvm.Cond.instanceMethod ({ cls := "com/example/kilit/kilit/engine/ColumnType$Kind", name := "comparesWith", desc := "(Lcom/example/kilit/kilit/engine/ColumnType$Kind;)Z" } : Jvm.MethodName)) ∈ tables_1 := List.mem_of_getElem? (i := 11) rfl
theorem tw12 : (Jvm.Cond.selects "com/example/kilit/kilit/engine/ColumnType$Kind" ({ cls := "com/example/kilit/kilit/engine/ColumnType$Kind", name := "comparesWith", desc := "(Lcom/example/kilit/kilit/engine/ColumnType$Kind;)Z" } : Jvm.MethodName) ({ cls := "com/example/kilit/kilit/engine/ColumnType$Kind", name := "comparesWith", desc := "(Lcom/example/kilit/kilit/engine/ColumnType$Kind;)Z" } : Jvm.MethodName)) ∈ tables_1 := List.mem_of_getElem? (i := 12) rfl
theorem tw13 : (Jvm.Cond.code ({ cls := "com/example/kilit/kilit/engine/ColumnType$Kind", name := "comparesWith", desc := "(Lcom/example/kilit/kilit/engine/ColumnType$Kind;)Z" } : Jvm.MethodName) prog_22_method_6_code (2 : Nat) (Option.some Jvm.ClassFile.FieldType.boolean)) ∈ tables_1 := List.mem_of_getElem? (i := 13) rfl
theorem tw14 : (Jvm.Cond.fieldLink "com/example/kilit/kilit/engine/ColumnType$Kind" (47 : Nat) "com/example/kilit/kilit/engine/ColumnType$Kind" "number" "Z") ∈ tables_1 := List.mem_of_getElem? (i := 14) rfl
theorem tw16 : (Jvm.Cond.fieldLink "com/example/kilit/kilit/engine/KindComparesWithPinLaw" (16 : Nat) "com/example/kilit/kilit/engine/ColumnType$Kind" "DOUBLE" "Lcom/example/kilit/kilit/engine/ColumnType$Kind;") ∈ tables_1 := List.mem_of_getElem? (i := 16) rfl
theorem tw17 : (Jvm.Cond.laysStatic "com/example/kilit/kilit/engine/ColumnType$Kind" "DOUBLE" "Lcom/example/kilit/kilit/engine/ColumnType$Kind;") ∈ tables_1 := List.mem_of_getElem? (i := 17) rfl
theorem tw18 : (Jvm.Cond.fieldLink "com/example/kilit/kilit/engine/KindComparesWithPinLaw" (13 : Nat) "com/example/kilit/kilit/engine/ColumnType$Kind" "NUMBER" "Lcom/example/kilit/kilit/engine/ColumnType$Kind;") ∈ tables_1 := List.mem_of_getElem? (i := 18) rfl
theorem tw19 : (Jvm.Cond.laysStatic "com/example/kilit/kilit/engine/ColumnType$Kind" "NUMBER" "Lcom/example/kilit/kilit/engine/ColumnType$Kind;") ∈ tables_1 := List.mem_of_getElem? (i := 19) rfl
theorem d0_0 : De code 0 (.iload_n 0) 1 1 := ⟨by decide +kernel, rfl⟩
theorem d0_1 : De code 1 (.iconst 3) 1 2 := ⟨by decide +kernel, rfl⟩
theorem d0_2 : De code 2 (.iand) 1 3 := ⟨by decide +kernel, rfl⟩
theorem d0_3 : De code 3 (.istore_n 2) 1 4 := ⟨by decide +kernel, rfl⟩
theorem d0_4 : De code 4 (.iload_n 1) 1 5 := ⟨by decide +kernel, rfl⟩
theorem d0_5 : De code 5 (.iconst 3) 1 6 := ⟨by decide +kernel, rfl⟩
theorem d0_6 : De code 6 (.iand) 1 7 := ⟨by decide +kernel, rfl⟩
theorem d0_7 : De code 7 (.istore_n 3) 1 8 := ⟨by decide +kernel, rfl⟩
theorem d0_8 : De code 8 (.iload_n 2) 1 9 := ⟨by decide +kernel, rfl⟩
theorem d0_9 : De code 9 (.invokestatic 22) 3 12 := ⟨by decide +kernel, rfl⟩
theorem d0_12 : De code 12 (.astore 4) 2 14 := ⟨by decide +kernel, rfl⟩
theorem d0_14 : De code 14 (.iload_n 3) 1 15 := ⟨by decide +kernel, rfl⟩
theorem d0_15 : De code 15 (.invokestatic 22) 3 18 := ⟨by decide +kernel, rfl⟩
theorem d0_18 : De code 18 (.astore 5) 2 20 := ⟨by decide +kernel, rfl⟩
theorem d0_20 : De code 20 (.iload_n 2) 1 21 := ⟨by decide +kernel, rfl⟩
theorem d0_21 : De code 21 (.iconst 3) 1 22 := ⟨by decide +kernel, rfl⟩
theorem d0_22 : De code 22 (.if_icmp .ge 7) 3 25 := ⟨by decide +kernel, rfl⟩
theorem d0_25 : De code 25 (.iconst 1) 1 26 := ⟨by decide +kernel, rfl⟩
theorem d0_26 : De code 26 (.goto 4) 3 29 := ⟨by decide +kernel, rfl⟩
theorem d0_29 : De code 29 (.iconst 0) 1 30 := ⟨by decide +kernel, rfl⟩
theorem d0_30 : De code 30 (.istore 6) 2 32 := ⟨by decide +kernel, rfl⟩
theorem d0_32 : De code 32 (.iload_n 3) 1 33 := ⟨by decide +kernel, rfl⟩
theorem d0_33 : De code 33 (.iconst 3) 1 34 := ⟨by decide +kernel, rfl⟩
theorem d0_34 : De code 34 (.if_icmp .ge 7) 3 37 := ⟨by decide +kernel, rfl⟩
theorem d0_37 : De code 37 (.iconst 1) 1 38 := ⟨by decide +kernel, rfl⟩
theorem d0_38 : De code 38 (.goto 4) 3 41 := ⟨by decide +kernel, rfl⟩
theorem d0_41 : De code 41 (.iconst 0) 1 42 := ⟨by decide +kernel, rfl⟩
theorem d0_42 : De code 42 (.istore 7) 2 44 := ⟨by decide +kernel, rfl⟩
theorem d0_44 : De code 44 (.iload_n 2) 1 45 := ⟨by decide +kernel, rfl⟩
theorem d0_45 : De code 45 (.iload_n 3) 1 46 := ⟨by decide +kernel, rfl⟩
theorem d0_46 : De code 46 (.if_icmp .eq 13) 3 49 := ⟨by decide +kernel, rfl⟩
theorem d0_49 : De code 49 (.iload 6) 2 51 := ⟨by decide +kernel, rfl⟩
theorem d0_51 : De code 51 (.ifCond .eq 12) 3 54 := ⟨by decide +kernel, rfl⟩
theorem d0_54 : De code 54 (.iload 7) 2 56 := ⟨by decide +kernel, rfl⟩
theorem d0_56 : De code 56 (.ifCond .eq 7) 3 59 := ⟨by decide +kernel, rfl⟩
theorem d0_59 : De code 59 (.iconst 1) 1 60 := ⟨by decide +kernel, rfl⟩
theorem d0_60 : De code 60 (.goto 4) 3 63 := ⟨by decide +kernel, rfl⟩
theorem d0_63 : De code 63 (.iconst 0) 1 64 := ⟨by decide +kernel, rfl⟩
theorem d0_64 : De code 64 (.istore 8) 2 66 := ⟨by decide +kernel, rfl⟩
theorem d0_66 : De code 66 (.aload 4) 2 68 := ⟨by decide +kernel, rfl⟩
theorem d0_68 : De code 68 (.aload 5) 2 70 := ⟨by decide +kernel, rfl⟩
theorem d0_70 : De code 70 (.invokevirtual 28) 3 73 := ⟨by decide +kernel, rfl⟩
theorem d0_73 : De code 73 (.iload 8) 2 75 := ⟨by decide +kernel, rfl⟩
theorem d0_75 : De code 75 (.if_icmp .ne 7) 3 78 := ⟨by decide +kernel, rfl⟩
theorem d0_78 : De code 78 (.iconst 1) 1 79 := ⟨by decide +kernel, rfl⟩
theorem d0_79 : De code 79 (.goto 4) 3 82 := ⟨by decide +kernel, rfl⟩
theorem d0_83 : De code 83 (.ireturn) 1 84 := ⟨by decide +kernel, rfl⟩
theorem d1_0 : De method_2_code 0 (.iload_n 0) 1 1 := ⟨by decide +kernel, rfl⟩
theorem d1_1 : De method_2_code 1 (.ifCond .ne 10) 3 4 := ⟨by decide +kernel, rfl⟩
theorem d1_4 : De method_2_code 4 (.getstatic 7) 3 7 := ⟨by decide +kernel, rfl⟩
theorem d1_7 : De method_2_code 7 (.astore_n 1) 1 8 := ⟨by decide +kernel, rfl⟩
theorem d1_8 : De method_2_code 8 (.goto 31) 3 11 := ⟨by decide +kernel, rfl⟩
theorem d1_11 : De method_2_code 11 (.iload_n 0) 1 12 := ⟨by decide +kernel, rfl⟩
theorem d1_12 : De method_2_code 12 (.iconst 1) 1 13 := ⟨by decide +kernel, rfl⟩
theorem d1_13 : De method_2_code 13 (.if_icmp .ne 10) 3 16 := ⟨by decide +kernel, rfl⟩
theorem d1_16 : De method_2_code 16 (.getstatic 13) 3 19 := ⟨by decide +kernel, rfl⟩
theorem d1_19 : De method_2_code 19 (.astore_n 1) 1 20 := ⟨by decide +kernel, rfl⟩
theorem d1_20 : De method_2_code 20 (.goto 19) 3 23 := ⟨by decide +kernel, rfl⟩
theorem d1_23 : De method_2_code 23 (.iload_n 0) 1 24 := ⟨by decide +kernel, rfl⟩
theorem d1_24 : De method_2_code 24 (.iconst 2) 1 25 := ⟨by decide +kernel, rfl⟩
theorem d1_25 : De method_2_code 25 (.if_icmp .ne 10) 3 28 := ⟨by decide +kernel, rfl⟩
theorem d1_28 : De method_2_code 28 (.getstatic 16) 3 31 := ⟨by decide +kernel, rfl⟩
theorem d1_31 : De method_2_code 31 (.astore_n 1) 1 32 := ⟨by decide +kernel, rfl⟩
theorem d1_32 : De method_2_code 32 (.goto 7) 3 35 := ⟨by decide +kernel, rfl⟩
theorem d1_35 : De method_2_code 35 (.getstatic 19) 3 38 := ⟨by decide +kernel, rfl⟩
theorem d1_38 : De method_2_code 38 (.astore_n 1) 1 39 := ⟨by decide +kernel, rfl⟩
theorem d1_39 : De method_2_code 39 (.aload_n 1) 1 40 := ⟨by decide +kernel, rfl⟩
theorem d1_40 : De method_2_code 40 (.areturn) 1 41 := ⟨by decide +kernel, rfl⟩
theorem d2_0 : De prog_22_method_6_code 0 (.aload_n 1) 1 1 := ⟨by decide +kernel, rfl⟩
theorem d2_1 : De prog_22_method_6_code 1 (.aload_n 0) 1 2 := ⟨by decide +kernel, rfl⟩
theorem d2_2 : De prog_22_method_6_code 2 (.if_acmp .eq 17) 3 5 := ⟨by decide +kernel, rfl⟩
theorem d2_5 : De prog_22_method_6_code 5 (.aload_n 1) 1 6 := ⟨by decide +kernel, rfl⟩
theorem d2_6 : De prog_22_method_6_code 6 (.getfield 47) 3 9 := ⟨by decide +kernel, rfl⟩
theorem d2_9 : De prog_22_method_6_code 9 (.ifCond .eq 14) 3 12 := ⟨by decide +kernel, rfl⟩
theorem d2_12 : De prog_22_method_6_code 12 (.aload_n 0) 1 13 := ⟨by decide +kernel, rfl⟩
theorem d2_13 : De prog_22_method_6_code 13 (.getfield 47) 3 16 := ⟨by decide +kernel, rfl⟩
theorem d2_16 : De prog_22_method_6_code 16 (.ifCond .eq 7) 3 19 := ⟨by decide +kernel, rfl⟩
theorem d2_19 : De prog_22_method_6_code 19 (.iconst 1) 1 20 := ⟨by decide +kernel, rfl⟩
theorem d2_20 : De prog_22_method_6_code 20 (.goto 4) 3 23 := ⟨by decide +kernel, rfl⟩
theorem d2_23 : De prog_22_method_6_code 23 (.iconst 0) 1 24 := ⟨by decide +kernel, rfl⟩
theorem d2_24 : De prog_22_method_6_code 24 (.ireturn) 1 25 := ⟨by decide +kernel, rfl⟩
theorem pd0 : parseMethodDescriptor "(I)Lcom/example/kilit/kilit/engine/ColumnType$Kind;" = some ⟨[.int], some (.object "com/example/kilit/kilit/engine/ColumnType$Kind")⟩ := by decide +kernel
theorem pd1 : parseMethodDescriptor "(Lcom/example/kilit/kilit/engine/ColumnType$Kind;)Z" = some ⟨[(.object "com/example/kilit/kilit/engine/ColumnType$Kind")], some .boolean⟩ := by decide +kernel
theorem pn0 : plainName "com/example/kilit/kilit/engine/KindComparesWithPinLaw" = true := by first | (simp [plainName, overriddenIn]; done) | decide +kernel
theorem pn1 : plainName "com/example/kilit/kilit/engine/ColumnType$Kind" = true := by first | (simp [plainName, overriddenIn]; done) | decide +kernel
def GG (Z : State) (ga1 ga2 ga3 ga4 : Addr) : Prop := Sta Z Z.heap "com/example/kilit/kilit/engine/ColumnType$Kind" "INT" "Lcom/example/kilit/kilit/engine/ColumnType$Kind;" (.ref ga1) ∧ Exa Z Z.heap ga1 "com/example/kilit/kilit/engine/ColumnType$Kind" ∧ Sta Z Z.heap "com/example/kilit/kilit/engine/ColumnType$Kind" "VARCHAR" "Lcom/example/kilit/kilit/engine/ColumnType$Kind;" (.ref ga2) ∧ Exa Z Z.heap ga2 "com/example/kilit/kilit/engine/ColumnType$Kind" ∧ Sta Z Z.heap "com/example/kilit/kilit/engine/ColumnType$Kind" "DOUBLE" "Lcom/example/kilit/kilit/engine/ColumnType$Kind;" (.ref ga3) ∧ Exa Z Z.heap ga3 "com/example/kilit/kilit/engine/ColumnType$Kind" ∧ Sta Z Z.heap "com/example/kilit/kilit/engine/ColumnType$Kind" "NUMBER" "Lcom/example/kilit/kilit/engine/ColumnType$Kind;" (.ref ga4) ∧ Exa Z Z.heap ga4 "com/example/kilit/kilit/engine/ColumnType$Kind" ∧ Fld Z Z.heap ga2 "java/lang/Enum" "ordinal" "I" (.int (3 : Int32)) ∧ Fld Z Z.heap ga1 "java/lang/Enum" "ordinal" "I" (.int (0 : Int32)) ∧ Fld Z Z.heap ga2 "com/example/kilit/kilit/engine/ColumnType$Kind" "number" "Z" (.int (0 : Int32)) ∧ Fld Z Z.heap ga4 "java/lang/Enum" "ordinal" "I" (.int (1 : Int32)) ∧ Fld Z Z.heap ga3 "java/lang/Enum" "ordinal" "I" (.int (2 : Int32)) ∧ Fld Z Z.heap ga4 "com/example/kilit/kilit/engine/ColumnType$Kind" "number" "Z" (.int (1 : Int32)) ∧ Fld Z Z.heap ga3 "com/example/kilit/kilit/engine/ColumnType$Kind" "number" "Z" (.int (1 : Int32)) ∧ Fld Z Z.heap ga1 "com/example/kilit/kilit/engine/ColumnType$Kind" "number" "Z" (.int (1 : Int32))
theorem ef_rm1_0 (m : MethodId)  : entryFrame m #[(.int (0 : Int32))] 2 = mkF m 0 #[(.val (.int (0 : Int32))), .unset] [] := by first | (simp [entryFrame, mkF, argsToLocals, Value.category]; done) | rfl
set_option maxRecDepth 65536 in
set_option maxHeartbeats 4000000 in
theorem rm1_0 {l : Launch} {Z : State} {a0 : Array Value} (hw : ∀ d ∈ tables_1, d.before a0 Z = true) {n0 : Nat} {h0 : Heap}  {ga1 ga2 ga3 ga4 : Addr} (G : GG Z ga1 ga2 ga3 ga4) (O : Old Z n0 h0) :
    Pays l Z (⟨"com/example/kilit/kilit/engine/KindComparesWithPinLaw", "kindOf", "(I)Lcom/example/kilit/kilit/engine/ColumnType$Kind;"⟩ : MethodName) method_2_code 2 (some (.object "com/example/kilit/kilit/engine/ColumnType$Kind")) ({ frames := 0, cells := 0, slots := 0, locals := 0 } : Room) #[(.int (0 : Int32))] n0 h0 (QP (some (.ref ga1)) h0) := by
  refine Pays.of hw (plainFor_of_name pn0) (fun m => ef_rm1_0 m ) fun B C => ?_
  refine iIloadN C d1_0 rfl ?_
  refine iIfF C d1_1 (by decide) ?_
  refine iGetS C tw4 (G.1.ext O.2) d1_4 ?_
  refine iAstoreN C d1_7 (Ls' := #[(.val (.int (0 : Int32))), (.val (.ref ga1))]) rfl rfl ?_
  refine iGoto C (t := 39) d1_8 ⟨by decide, by decide⟩ ?_
  refine iAloadN C d1_39 rfl rfl ?_
  refine iRetA C d1_40 rfl rfl rfl ⟨by decide, by decide⟩ ?_
  exact ⟨rfl, rfl⟩
theorem ef_rm1_1 (m : MethodId)  : entryFrame m #[(.int (1 : Int32))] 2 = mkF m 0 #[(.val (.int (1 : Int32))), .unset] [] := by first | (simp [entryFrame, mkF, argsToLocals, Value.category]; done) | rfl
set_option maxRecDepth 65536 in
set_option maxHeartbeats 4000000 in
theorem rm1_1 {l : Launch} {Z : State} {a0 : Array Value} (hw : ∀ d ∈ tables_1, d.before a0 Z = true) {n0 : Nat} {h0 : Heap}  {ga1 ga2 ga3 ga4 : Addr} (G : GG Z ga1 ga2 ga3 ga4) (O : Old Z n0 h0) :
    Pays l Z (⟨"com/example/kilit/kilit/engine/KindComparesWithPinLaw", "kindOf", "(I)Lcom/example/kilit/kilit/engine/ColumnType$Kind;"⟩ : MethodName) method_2_code 2 (some (.object "com/example/kilit/kilit/engine/ColumnType$Kind")) ({ frames := 0, cells := 0, slots := 0, locals := 0 } : Room) #[(.int (1 : Int32))] n0 h0 (QP (some (.ref ga4)) h0) := by
  refine Pays.of hw (plainFor_of_name pn0) (fun m => ef_rm1_1 m ) fun B C => ?_
  refine iIloadN C d1_0 rfl ?_
  refine iIfT C (t := 11) d1_1 (by decide) ⟨by decide, by decide⟩ ?_
  refine iIloadN C d1_11 rfl ?_
  refine iIconst C d1_12 (v := (1 : Int32)) (by decide) ?_
  refine iCmpF C d1_13 (by decide) ?_
  refine iGetS C tw18 (G.2.2.2.2.2.2.1.ext O.2) d1_16 ?_
  refine iAstoreN C d1_19 (Ls' := #[(.val (.int (1 : Int32))), (.val (.ref ga4))]) rfl rfl ?_
  refine iGoto C (t := 39) d1_20 ⟨by decide, by decide⟩ ?_
  refine iAloadN C d1_39 rfl rfl ?_
  refine iRetA C d1_40 rfl rfl rfl ⟨by decide, by decide⟩ ?_
  exact ⟨rfl, rfl⟩
theorem ef_rm1_2 (m : MethodId)  : entryFrame m #[(.int (2 : Int32))] 2 = mkF m 0 #[(.val (.int (2 : Int32))), .unset] [] := by first | (simp [entryFrame, mkF, argsToLocals, Value.category]; done) | rfl
set_option maxRecDepth 65536 in
set_option maxHeartbeats 4000000 in
theorem rm1_2 {l : Launch} {Z : State} {a0 : Array Value} (hw : ∀ d ∈ tables_1, d.before a0 Z = true) {n0 : Nat} {h0 : Heap}  {ga1 ga2 ga3 ga4 : Addr} (G : GG Z ga1 ga2 ga3 ga4) (O : Old Z n0 h0) :
    Pays l Z (⟨"com/example/kilit/kilit/engine/KindComparesWithPinLaw", "kindOf", "(I)Lcom/example/kilit/kilit/engine/ColumnType$Kind;"⟩ : MethodName) method_2_code 2 (some (.object "com/example/kilit/kilit/engine/ColumnType$Kind")) ({ frames := 0, cells := 0, slots := 0, locals := 0 } : Room) #[(.int (2 : Int32))] n0 h0 (QP (some (.ref ga3)) h0) := by
  refine Pays.of hw (plainFor_of_name pn0) (fun m => ef_rm1_2 m ) fun B C => ?_
  refine iIloadN C d1_0 rfl ?_
  refine iIfT C (t := 11) d1_1 (by decide) ⟨by decide, by decide⟩ ?_
  refine iIloadN C d1_11 rfl ?_
  refine iIconst C d1_12 (v := (1 : Int32)) (by decide) ?_
  refine iCmpT C (t := 23) d1_13 (by decide) ⟨by decide, by decide⟩ ?_
  refine iIloadN C d1_23 rfl ?_
  refine iIconst C d1_24 (v := (2 : Int32)) (by decide) ?_
  refine iCmpF C d1_25 (by decide) ?_
  refine iGetS C tw16 (G.2.2.2.2.1.ext O.2) d1_28 ?_
  refine iAstoreN C d1_31 (Ls' := #[(.val (.int (2 : Int32))), (.val (.ref ga3))]) rfl rfl ?_
  refine iGoto C (t := 39) d1_32 ⟨by decide, by decide⟩ ?_
  refine iAloadN C d1_39 rfl rfl ?_
  refine iRetA C d1_40 rfl rfl rfl ⟨by decide, by decide⟩ ?_
  exact ⟨rfl, rfl⟩
theorem ef_rm1_3 (m : MethodId)  : entryFrame m #[(.int (3 : Int32))] 2 = mkF m 0 #[(.val (.int (3 : Int32))), .unset] [] := by first | (simp [entryFrame, mkF, argsToLocals, Value.category]; done) | rfl
set_option maxRecDepth 65536 in
set_option maxHeartbeats 4000000 in
theorem rm1_3 {l : Launch} {Z : State} {a0 : Array Value} (hw : ∀ d ∈ tables_1, d.before a0 Z = true) {n0 : Nat} {h0 : Heap}  {ga1 ga2 ga3 ga4 : Addr} (G : GG Z ga1 ga2 ga3 ga4) (O : Old Z n0 h0) :
    Pays l Z (⟨"com/example/kilit/kilit/engine/KindComparesWithPinLaw", "kindOf", "(I)Lcom/example/kilit/kilit/engine/ColumnType$Kind;"⟩ : MethodName) method_2_code 2 (some (.object "com/example/kilit/kilit/engine/ColumnType$Kind")) ({ frames := 0, cells := 0, slots := 0, locals := 0 } : Room) #[(.int (3 : Int32))] n0 h0 (QP (some (.ref ga2)) h0) := by
  refine Pays.of hw (plainFor_of_name pn0) (fun m => ef_rm1_3 m ) fun B C => ?_
  refine iIloadN C d1_0 rfl ?_
  refine iIfT C (t := 11) d1_1 (by decide) ⟨by decide, by decide⟩ ?_
  refine iIloadN C d1_11 rfl ?_
  refine iIconst C d1_12 (v := (1 : Int32)) (by decide) ?_
  refine iCmpT C (t := 23) d1_13 (by decide) ⟨by decide, by decide⟩ ?_
  refine iIloadN C d1_23 rfl ?_
  refine iIconst C d1_24 (v := (2 : Int32)) (by decide) ?_
  refine iCmpT C (t := 35) d1_25 (by decide) ⟨by decide, by decide⟩ ?_
  refine iGetS C tw7 (G.2.2.1.ext O.2) d1_35 ?_
  refine iAstoreN C d1_38 (Ls' := #[(.val (.int (3 : Int32))), (.val (.ref ga2))]) rfl rfl ?_
  refine iAloadN C d1_39 rfl rfl ?_
  refine iRetA C d1_40 rfl rfl rfl ⟨by decide, by decide⟩ ?_
  exact ⟨rfl, rfl⟩
theorem ef_rm2_0_0 (m : MethodId) (x0 : Addr) (x1 : Addr) : entryFrame m #[(.ref x0), (.ref x1)] 2 = mkF m 0 #[(.val (.ref x0)), (.val (.ref x1))] [] := by first | (simp [entryFrame, mkF, argsToLocals, Value.category]; done) | rfl
set_option maxRecDepth 65536 in
set_option maxHeartbeats 4000000 in
theorem rm2_0_0 {l : Launch} {Z : State} {a0 : Array Value} (hw : ∀ d ∈ tables_1, d.before a0 Z = true) {n0 : Nat} {h0 : Heap}  {ga1 ga2 ga3 ga4 : Addr} (G : GG Z ga1 ga2 ga3 ga4) (O : Old Z n0 h0) :
    Pays l Z (⟨"com/example/kilit/kilit/engine/ColumnType$Kind", "comparesWith", "(Lcom/example/kilit/kilit/engine/ColumnType$Kind;)Z"⟩ : MethodName) prog_22_method_6_code 2 (some .boolean) ({ frames := 0, cells := 0, slots := 0, locals := 0 } : Room) #[(.ref ga1), (.ref ga1)] n0 h0 (QP (some (.int (1 : Int32))) h0) := by
  refine Pays.of hw (plainFor_of_name pn1) (fun m => ef_rm2_0_0 m ga1 ga1) fun B C => ?_
  refine iAloadN C d2_0 rfl rfl ?_
  refine iAloadN C d2_1 rfl rfl ?_
  refine iAcmpT C (t := 19) d2_2 rfl rfl (acE rfl).1 ⟨by decide, by decide⟩ ?_
  refine iIconst C d2_19 (v := (1 : Int32)) (by decide) ?_
  refine iGoto C (t := 24) d2_20 ⟨by decide, by decide⟩ ?_
  refine iRetZ C d2_24 (by simp) ⟨by decide, by decide⟩ ?_
  exact ⟨rfl, rfl⟩
theorem ef_rm2_0_1 (m : MethodId) (x0 : Addr) (x1 : Addr) : entryFrame m #[(.ref x0), (.ref x1)] 2 = mkF m 0 #[(.val (.ref x0)), (.val (.ref x1))] [] := by first | (simp [entryFrame, mkF, argsToLocals, Value.category]; done) | rfl
set_option maxRecDepth 65536 in
set_option maxHeartbeats 4000000 in
theorem rm2_0_1 {l : Launch} {Z : State} {a0 : Array Value} (hw : ∀ d ∈ tables_1, d.before a0 Z = true) {n0 : Nat} {h0 : Heap}  {ga1 ga2 ga3 ga4 : Addr} (G : GG Z ga1 ga2 ga3 ga4) (O : Old Z n0 h0) :
    Pays l Z (⟨"com/example/kilit/kilit/engine/ColumnType$Kind", "comparesWith", "(Lcom/example/kilit/kilit/engine/ColumnType$Kind;)Z"⟩ : MethodName) prog_22_method_6_code 2 (some .boolean) ({ frames := 0, cells := 0, slots := 0, locals := 0 } : Room) #[(.ref ga1), (.ref ga4)] n0 h0 (QP (some (.int (1 : Int32))) h0) := by
  refine Pays.of hw (plainFor_of_name pn1) (fun m => ef_rm2_0_1 m ga1 ga4) fun B C => ?_
  refine iAloadN C d2_0 rfl rfl ?_
  refine iAloadN C d2_1 rfl rfl ?_
  refine iAcmpF C d2_2 rfl rfl (acNr (Fld.ne G.2.2.2.2.2.2.2.2.2.2.2.1 G.2.2.2.2.2.2.2.2.2.1 (by simp))).1 ?_
  refine iAloadN C d2_5 rfl rfl ?_
  refine iGetF C tw14 (G.2.2.2.2.2.2.2.2.2.2.2.2.2.1.ext O.2) d2_6 ?_
  refine iIfF C d2_9 (by decide) ?_
  refine iAloadN C d2_12 rfl rfl ?_
  refine iGetF C tw14 (G.2.2.2.2.2.2.2.2.2.2.2.2.2.2.2.ext O.2) d2_13 ?_
  refine iIfF C d2_16 (by decide) ?_
  refine iIconst C d2_19 (v := (1 : Int32)) (by decide) ?_
  refine iGoto C (t := 24) d2_20 ⟨by decide, by decide⟩ ?_
  refine iRetZ C d2_24 (by simp) ⟨by decide, by decide⟩ ?_
  exact ⟨rfl, rfl⟩
theorem ef_rm2_0_2 (m : MethodId) (x0 : Addr) (x1 : Addr) : entryFrame m #[(.ref x0), (.ref x1)] 2 = mkF m 0 #[(.val (.ref x0)), (.val (.ref x1))] [] := by first | (simp [entryFrame, mkF, argsToLocals, Value.category]; done) | rfl
set_option maxRecDepth 65536 in
set_option maxHeartbeats 4000000 in
theorem rm2_0_2 {l : Launch} {Z : State} {a0 : Array Value} (hw : ∀ d ∈ tables_1, d.before a0 Z = true) {n0 : Nat} {h0 : Heap}  {ga1 ga2 ga3 ga4 : Addr} (G : GG Z ga1 ga2 ga3 ga4) (O : Old Z n0 h0) :
    Pays l Z (⟨"com/example/kilit/kilit/engine/ColumnType$Kind", "comparesWith", "(Lcom/example/kilit/kilit/engine/ColumnType$Kind;)Z"⟩ : MethodName) prog_22_method_6_code 2 (some .boolean) ({ frames := 0, cells := 0, slots := 0, locals := 0 } : Room) #[(.ref ga1), (.ref ga3)] n0 h0 (QP (some (.int (1 : Int32))) h0) := by
  refine Pays.of hw (plainFor_of_name pn1) (fun m => ef_rm2_0_2 m ga1 ga3) fun B C => ?_
  refine iAloadN C d2_0 rfl rfl ?_
  refine iAloadN C d2_1 rfl rfl ?_
  refine iAcmpF C d2_2 rfl rfl (acNr (Fld.ne G.2.2.2.2.2.2.2.2.2.2.2.2.1 G.2.2.2.2.2.2.2.2.2.1 (by simp))).1 ?_
  refine iAloadN C d2_5 rfl rfl ?_
  refine iGetF C tw14 (G.2.2.2.2.2.2.2.2.2.2.2.2.2.2.1.ext O.2) d2_6 ?_
  refine iIfF C d2_9 (by decide) ?_
  refine iAloadN C d2_12 rfl rfl ?_
  refine iGetF C tw14 (G.2.2.2.2.2.2.2.2.2.2.2.2.2.2.2.ext O.2) d2_13 ?_
  refine iIfF C d2_16 (by decide) ?_
  refine iIconst C d2_19 (v := (1 : Int32)) (by decide) ?_
  refine iGoto C (t := 24) d2_20 ⟨by decide, by decide⟩ ?_
  refine iRetZ C d2_24 (by simp) ⟨by decide, by decide⟩ ?_
  exact ⟨rfl, rfl⟩
theorem ef_rm2_0_3 (m : MethodId) (x0 : Addr) (x1 : Addr) : entryFrame m #[(.ref x0), (.ref x1)] 2 = mkF m 0 #[(.val (.ref x0)), (.val (.ref x1))] [] := by first | (simp [entryFrame, mkF, argsToLocals, Value.category]; done) | rfl
set_option maxRecDepth 65536 in
set_option maxHeartbeats 4000000 in
theorem rm2_0_3 {l : Launch} {Z : State} {a0 : Array Value} (hw : ∀ d ∈ tables_1, d.before a0 Z = true) {n0 : Nat} {h0 : Heap}  {ga1 ga2 ga3 ga4 : Addr} (G : GG Z ga1 ga2 ga3 ga4) (O : Old Z n0 h0) :
    Pays l Z (⟨"com/example/kilit/kilit/engine/ColumnType$Kind", "comparesWith", "(Lcom/example/kilit/kilit/engine/ColumnType$Kind;)Z"⟩ : MethodName) prog_22_method_6_code 2 (some .boolean) ({ frames := 0, cells := 0, slots := 0, locals := 0 } : Room) #[(.ref ga1), (.ref ga2)] n0 h0 (QP (some (.int (0 : Int32))) h0) := by
  refine Pays.of hw (plainFor_of_name pn1) (fun m => ef_rm2_0_3 m ga1 ga2) fun B C => ?_
  refine iAloadN C d2_0 rfl rfl ?_
  refine iAloadN C d2_1 rfl rfl ?_
  refine iAcmpF C d2_2 rfl rfl (acNr (Fld.ne G.2.2.2.2.2.2.2.2.1 G.2.2.2.2.2.2.2.2.2.1 (by simp))).1 ?_
  refine iAloadN C d2_5 rfl rfl ?_
  refine iGetF C tw14 (G.2.2.2.2.2.2.2.2.2.2.1.ext O.2) d2_6 ?_
  refine iIfT C (t := 23) d2_9 (by decide) ⟨by decide, by decide⟩ ?_
  refine iIconst C d2_23 (v := (0 : Int32)) (by decide) ?_
  refine iRetZ C d2_24 (by simp) ⟨by decide, by decide⟩ ?_
  exact ⟨rfl, rfl⟩
theorem ef_rm2_1_0 (m : MethodId) (x0 : Addr) (x1 : Addr) : entryFrame m #[(.ref x0), (.ref x1)] 2 = mkF m 0 #[(.val (.ref x0)), (.val (.ref x1))] [] := by first | (simp [entryFrame, mkF, argsToLocals, Value.category]; done) | rfl
set_option maxRecDepth 65536 in
set_option maxHeartbeats 4000000 in
theorem rm2_1_0 {l : Launch} {Z : State} {a0 : Array Value} (hw : ∀ d ∈ tables_1, d.before a0 Z = true) {n0 : Nat} {h0 : Heap}  {ga1 ga2 ga3 ga4 : Addr} (G : GG Z ga1 ga2 ga3 ga4) (O : Old Z n0 h0) :
    Pays l Z (⟨"com/example/kilit/kilit/engine/ColumnType$Kind", "comparesWith", "(Lcom/example/kilit/kilit/engine/ColumnType$Kind;)Z"⟩ : MethodName) prog_22_method_6_code 2 (some .boolean) ({ frames := 0, cells := 0, slots := 0, locals := 0 } : Room) #[(.ref ga4), (.ref ga1)] n0 h0 (QP (some (.int (1 : Int32))) h0) := by
  refine Pays.of hw (plainFor_of_name pn1) (fun m => ef_rm2_1_0 m ga4 ga1) fun B C => ?_
  refine iAloadN C d2_0 rfl rfl ?_
  refine iAloadN C d2_1 rfl rfl ?_
  refine iAcmpF C d2_2 rfl rfl (acNr (Fld.ne G.2.2.2.2.2.2.2.2.2.1 G.2.2.2.2.2.2.2.2.2.2.2.1 (by simp))).1 ?_
  refine iAloadN C d2_5 rfl rfl ?_
  refine iGetF C tw14 (G.2.2.2.2.2.2.2.2.2.2.2.2.2.2.2.ext O.2) d2_6 ?_
  refine iIfF C d2_9 (by decide) ?_
  refine iAloadN C d2_12 rfl rfl ?_
  refine iGetF C tw14 (G.2.2.2.2.2.2.2.2.2.2.2.2.2.1.ext O.2) d2_13 ?_
  refine iIfF C d2_16 (by decide) ?_
  refine iIconst C d2_19 (v := (1 : Int32)) (by decide) ?_
  refine iGoto C (t := 24) d2_20 ⟨by decide, by decide⟩ ?_
  refine iRetZ C d2_24 (by simp) ⟨by decide, by decide⟩ ?_
  exact ⟨rfl, rfl⟩
theorem ef_rm2_1_1 (m : MethodId) (x0 : Addr) (x1 : Addr) : entryFrame m #[(.ref x0), (.ref x1)] 2 = mkF m 0 #[(.val (.ref x0)), (.val (.ref x1))] [] := by first | (simp [entryFrame, mkF, argsToLocals, Value.category]; done) | rfl
set_option maxRecDepth 65536 in
set_option maxHeartbeats 4000000 in
theorem rm2_1_1 {l : Launch} {Z : State} {a0 : Array Value} (hw : ∀ d ∈ tables_1, d.before a0 Z = true) {n0 : Nat} {h0 : Heap}  {ga1 ga2 ga3 ga4 : Addr} (G : GG Z ga1 ga2 ga3 ga4) (O : Old Z n0 h0) :
    Pays l Z (⟨"com/example/kilit/kilit/engine/ColumnType$Kind", "comparesWith", "(Lcom/example/kilit/kilit/engine/ColumnType$Kind;)Z"⟩ : MethodName) prog_22_method_6_code 2 (some .boolean) ({ frames := 0, cells := 0, slots := 0, locals := 0 } : Room) #[(.ref ga4), (.ref ga4)] n0 h0 (QP (some (.int (1 : Int32))) h0) := by
  refine Pays.of hw (plainFor_of_name pn1) (fun m => ef_rm2_1_1 m ga4 ga4) fun B C => ?_
  refine iAloadN C d2_0 rfl rfl ?_
  refine iAloadN C d2_1 rfl rfl ?_
  refine iAcmpT C (t := 19) d2_2 rfl rfl (acE rfl).1 ⟨by decide, by decide⟩ ?_
  refine iIconst C d2_19 (v := (1 : Int32)) (by decide) ?_
  refine iGoto C (t := 24) d2_20 ⟨by decide, by decide⟩ ?_
  refine iRetZ C d2_24 (by simp) ⟨by decide, by decide⟩ ?_
  exact ⟨rfl, rfl⟩
theorem ef_rm2_1_2 (m : MethodId) (x0 : Addr) (x1 : Addr) : entryFrame m #[(.ref x0), (.ref x1)] 2 = mkF m 0 #[(.val (.ref x0)), (.val (.ref x1))] [] := by first | (simp [entryFrame, mkF, argsToLocals, Value.category]; done) | rfl
set_option maxRecDepth 65536 in
set_option maxHeartbeats 4000000 in
theorem rm2_1_2 {l : Launch} {Z : State} {a0 : Array Value} (hw : ∀ d ∈ tables_1, d.before a0 Z = true) {n0 : Nat} {h0 : Heap}  {ga1 ga2 ga3 ga4 : Addr} (G : GG Z ga1 ga2 ga3 ga4) (O : Old Z n0 h0) :
    Pays l Z (⟨"com/example/kilit/kilit/engine/ColumnType$Kind", "comparesWith", "(Lcom/example/kilit/kilit/engine/ColumnType$Kind;)Z"⟩ : MethodName) prog_22_method_6_code 2 (some .boolean) ({ frames := 0, cells := 0, slots := 0, locals := 0 } : Room) #[(.ref ga4), (.ref ga3)] n0 h0 (QP (some (.int (1 : Int32))) h0) := by
  refine Pays.of hw (plainFor_of_name pn1) (fun m => ef_rm2_1_2 m ga4 ga3) fun B C => ?_
  refine iAloadN C d2_0 rfl rfl ?_
  refine iAloadN C d2_1 rfl rfl ?_
  refine iAcmpF C d2_2 rfl rfl (acNr (Fld.ne G.2.2.2.2.2.2.2.2.2.2.2.2.1 G.2.2.2.2.2.2.2.2.2.2.2.1 (by simp))).1 ?_
  refine iAloadN C d2_5 rfl rfl ?_
  refine iGetF C tw14 (G.2.2.2.2.2.2.2.2.2.2.2.2.2.2.1.ext O.2) d2_6 ?_
  refine iIfF C d2_9 (by decide) ?_
  refine iAloadN C d2_12 rfl rfl ?_
  refine iGetF C tw14 (G.2.2.2.2.2.2.2.2.2.2.2.2.2.1.ext O.2) d2_13 ?_
  refine iIfF C d2_16 (by decide) ?_
  refine iIconst C d2_19 (v := (1 : Int32)) (by decide) ?_
  refine iGoto C (t := 24) d2_20 ⟨by decide, by decide⟩ ?_
  refine iRetZ C d2_24 (by simp) ⟨by decide, by decide⟩ ?_
  exact ⟨rfl, rfl⟩
theorem ef_rm2_1_3 (m : MethodId) (x0 : Addr) (x1 : Addr) : entryFrame m #[(.ref x0), (.ref x1)] 2 = mkF m 0 #[(.val (.ref x0)), (.val (.ref x1))] [] := by first | (simp [entryFrame, mkF, argsToLocals, Value.category]; done) | rfl
set_option maxRecDepth 65536 in
set_option maxHeartbeats 4000000 in
theorem rm2_1_3 {l : Launch} {Z : State} {a0 : Array Value} (hw : ∀ d ∈ tables_1, d.before a0 Z = true) {n0 : Nat} {h0 : Heap}  {ga1 ga2 ga3 ga4 : Addr} (G : GG Z ga1 ga2 ga3 ga4) (O : Old Z n0 h0) :
    Pays l Z (⟨"com/example/kilit/kilit/engine/ColumnType$Kind", "comparesWith", "(Lcom/example/kilit/kilit/engine/ColumnType$Kind;)Z"⟩ : MethodName) prog_22_method_6_code 2 (some .boolean) ({ frames := 0, cells := 0, slots := 0, locals := 0 } : Room) #[(.ref ga4), (.ref ga2)] n0 h0 (QP (some (.int (0 : Int32))) h0) := by
  refine Pays.of hw (plainFor_of_name pn1) (fun m => ef_rm2_1_3 m ga4 ga2) fun B C => ?_
  refine iAloadN C d2_0 rfl rfl ?_
  refine iAloadN C d2_1 rfl rfl ?_
  refine iAcmpF C d2_2 rfl rfl (acNr (Fld.ne G.2.2.2.2.2.2.2.2.1 G.2.2.2.2.2.2.2.2.2.2.2.1 (by simp))).1 ?_
  refine iAloadN C d2_5 rfl rfl ?_
  refine iGetF C tw14 (G.2.2.2.2.2.2.2.2.2.2.1.ext O.2) d2_6 ?_
  refine iIfT C (t := 23) d2_9 (by decide) ⟨by decide, by decide⟩ ?_
  refine iIconst C d2_23 (v := (0 : Int32)) (by decide) ?_
  refine iRetZ C d2_24 (by simp) ⟨by decide, by decide⟩ ?_
  exact ⟨rfl, rfl⟩
theorem ef_rm2_2_0 (m : MethodId) (x0 : Addr) (x1 : Addr) : entryFrame m #[(.ref x0), (.ref x1)] 2 = mkF m 0 #[(.val (.ref x0)), (.val (.ref x1))] [] := by first | (simp [entryFrame, mkF, argsToLocals, Value.category]; done) | rfl
set_option maxRecDepth 65536 in
set_option maxHeartbeats 4000000 in
theorem rm2_2_0 {l : Launch} {Z : State} {a0 : Array Value} (hw : ∀ d ∈ tables_1, d.before a0 Z = true) {n0 : Nat} {h0 : Heap}  {ga1 ga2 ga3 ga4 : Addr} (G : GG Z ga1 ga2 ga3 ga4) (O : Old Z n0 h0) :
    Pays l Z (⟨"com/example/kilit/kilit/engine/ColumnType$Kind", "comparesWith", "(Lcom/example/kilit/kilit/engine/ColumnType$Kind;)Z"⟩ : MethodName) prog_22_method_6_code 2 (some .boolean) ({ frames := 0, cells := 0, slots := 0, locals := 0 } : Room) #[(.ref ga3), (.ref ga1)] n0 h0 (QP (some (.int (1 : Int32))) h0) := by
  refine Pays.of hw (plainFor_of_name pn1) (fun m => ef_rm2_2_0 m ga3 ga1) fun B C => ?_
  refine iAloadN C d2_0 rfl rfl ?_
  refine iAloadN C d2_1 rfl rfl ?_
  refine iAcmpF C d2_2 rfl rfl (acNr (Fld.ne G.2.2.2.2.2.2.2.2.2.1 G.2.2.2.2.2.2.2.2.2.2.2.2.1 (by simp))).1 ?_
  refine iAloadN C d2_5 rfl rfl ?_
  refine iGetF C tw14 (G.2.2.2.2.2.2.2.2.2.2.2.2.2.2.2.ext O.2) d2_6 ?_
  refine iIfF C d2_9 (by decide) ?_
  refine iAloadN C d2_12 rfl rfl ?_
  refine iGetF C tw14 (G.2.2.2.2.2.2.2.2.2.2.2.2.2.2.1.ext O.2) d2_13 ?_
  refine iIfF C d2_16 (by decide) ?_
  refine iIconst C d2_19 (v := (1 : Int32)) (by decide) ?_
  refine iGoto C (t := 24) d2_20 ⟨by decide, by decide⟩ ?_
  refine iRetZ C d2_24 (by simp) ⟨by decide, by decide⟩ ?_
  exact ⟨rfl, rfl⟩
theorem ef_rm2_2_1 (m : MethodId) (x0 : Addr) (x1 : Addr) : entryFrame m #[(.ref x0), (.ref x1)] 2 = mkF m 0 #[(.val (.ref x0)), (.val (.ref x1))] [] := by first | (simp [entryFrame, mkF, argsToLocals, Value.category]; done) | rfl
set_option maxRecDepth 65536 in
set_option maxHeartbeats 4000000 in
theorem rm2_2_1 {l : Launch} {Z : State} {a0 : Array Value} (hw : ∀ d ∈ tables_1, d.before a0 Z = true) {n0 : Nat} {h0 : Heap}  {ga1 ga2 ga3 ga4 : Addr} (G : GG Z ga1 ga2 ga3 ga4) (O : Old Z n0 h0) :
    Pays l Z (⟨"com/example/kilit/kilit/engine/ColumnType$Kind", "comparesWith", "(Lcom/example/kilit/kilit/engine/ColumnType$Kind;)Z"⟩ : MethodName) prog_22_method_6_code 2 (some .boolean) ({ frames := 0, cells := 0, slots := 0, locals := 0 } : Room) #[(.ref ga3), (.ref ga4)] n0 h0 (QP (some (.int (1 : Int32))) h0) := by
  refine Pays.of hw (plainFor_of_name pn1) (fun m => ef_rm2_2_1 m ga3 ga4) fun B C => ?_
  refine iAloadN C d2_0 rfl rfl ?_
  refine iAloadN C d2_1 rfl rfl ?_
  refine iAcmpF C d2_2 rfl rfl (acNr (Fld.ne G.2.2.2.2.2.2.2.2.2.2.2.1 G.2.2.2.2.2.2.2.2.2.2.2.2.1 (by simp))).1 ?_
  refine iAloadN C d2_5 rfl rfl ?_
  refine iGetF C tw14 (G.2.2.2.2.2.2.2.2.2.2.2.2.2.1.ext O.2) d2_6 ?_
  refine iIfF C d2_9 (by decide) ?_
  refine iAloadN C d2_12 rfl rfl ?_
  refine iGetF C tw14 (G.2.2.2.2.2.2.2.2.2.2.2.2.2.2.1.ext O.2) d2_13 ?_
  refine iIfF C d2_16 (by decide) ?_
  refine iIconst C d2_19 (v := (1 : Int32)) (by decide) ?_
  refine iGoto C (t := 24) d2_20 ⟨by decide, by decide⟩ ?_
  refine iRetZ C d2_24 (by simp) ⟨by decide, by decide⟩ ?_
  exact ⟨rfl, rfl⟩
theorem ef_rm2_2_2 (m : MethodId) (x0 : Addr) (x1 : Addr) : entryFrame m #[(.ref x0), (.ref x1)] 2 = mkF m 0 #[(.val (.ref x0)), (.val (.ref x1))] [] := by first | (simp [entryFrame, mkF, argsToLocals, Value.category]; done) | rfl
set_option maxRecDepth 65536 in
set_option maxHeartbeats 4000000 in
theorem rm2_2_2 {l : Launch} {Z : State} {a0 : Array Value} (hw : ∀ d ∈ tables_1, d.before a0 Z = true) {n0 : Nat} {h0 : Heap}  {ga1 ga2 ga3 ga4 : Addr} (G : GG Z ga1 ga2 ga3 ga4) (O : Old Z n0 h0) :
    Pays l Z (⟨"com/example/kilit/kilit/engine/ColumnType$Kind", "comparesWith", "(Lcom/example/kilit/kilit/engine/ColumnType$Kind;)Z"⟩ : MethodName) prog_22_method_6_code 2 (some .boolean) ({ frames := 0, cells := 0, slots := 0, locals := 0 } : Room) #[(.ref ga3), (.ref ga3)] n0 h0 (QP (some (.int (1 : Int32))) h0) := by
  refine Pays.of hw (plainFor_of_name pn1) (fun m => ef_rm2_2_2 m ga3 ga3) fun B C => ?_
  refine iAloadN C d2_0 rfl rfl ?_
  refine iAloadN C d2_1 rfl rfl ?_
  refine iAcmpT C (t := 19) d2_2 rfl rfl (acE rfl).1 ⟨by decide, by decide⟩ ?_
  refine iIconst C d2_19 (v := (1 : Int32)) (by decide) ?_
  refine iGoto C (t := 24) d2_20 ⟨by decide, by decide⟩ ?_
  refine iRetZ C d2_24 (by simp) ⟨by decide, by decide⟩ ?_
  exact ⟨rfl, rfl⟩
theorem ef_rm2_2_3 (m : MethodId) (x0 : Addr) (x1 : Addr) : entryFrame m #[(.ref x0), (.ref x1)] 2 = mkF m 0 #[(.val (.ref x0)), (.val (.ref x1))] [] := by first | (simp [entryFrame, mkF, argsToLocals, Value.category]; done) | rfl
set_option maxRecDepth 65536 in
set_option maxHeartbeats 4000000 in
theorem rm2_2_3 {l : Launch} {Z : State} {a0 : Array Value} (hw : ∀ d ∈ tables_1, d.before a0 Z = true) {n0 : Nat} {h0 : Heap}  {ga1 ga2 ga3 ga4 : Addr} (G : GG Z ga1 ga2 ga3 ga4) (O : Old Z n0 h0) :
    Pays l Z (⟨"com/example/kilit/kilit/engine/ColumnType$Kind", "comparesWith", "(Lcom/example/kilit/kilit/engine/ColumnType$Kind;)Z"⟩ : MethodName) prog_22_method_6_code 2 (some .boolean) ({ frames := 0, cells := 0, slots := 0, locals := 0 } : Room) #[(.ref ga3), (.ref ga2)] n0 h0 (QP (some (.int (0 : Int32))) h0) := by
  refine Pays.of hw (plainFor_of_name pn1) (fun m => ef_rm2_2_3 m ga3 ga2) fun B C => ?_
  refine iAloadN C d2_0 rfl rfl ?_
  refine iAloadN C d2_1 rfl rfl ?_
  refine iAcmpF C d2_2 rfl rfl (acNr (Fld.ne G.2.2.2.2.2.2.2.2.1 G.2.2.2.2.2.2.2.2.2.2.2.2.1 (by simp))).1 ?_
  refine iAloadN C d2_5 rfl rfl ?_
  refine iGetF C tw14 (G.2.2.2.2.2.2.2.2.2.2.1.ext O.2) d2_6 ?_
  refine iIfT C (t := 23) d2_9 (by decide) ⟨by decide, by decide⟩ ?_
  refine iIconst C d2_23 (v := (0 : Int32)) (by decide) ?_
  refine iRetZ C d2_24 (by simp) ⟨by decide, by decide⟩ ?_
  exact ⟨rfl, rfl⟩
theorem ef_rm2_3_0 (m : MethodId) (x0 : Addr) (x1 : Addr) : entryFrame m #[(.ref x0), (.ref x1)] 2 = mkF m 0 #[(.val (.ref x0)), (.val (.ref x1))] [] := by first | (simp [entryFrame, mkF, argsToLocals, Value.category]; done) | rfl
set_option maxRecDepth 65536 in
set_option maxHeartbeats 4000000 in
theorem rm2_3_0 {l : Launch} {Z : State} {a0 : Array Value} (hw : ∀ d ∈ tables_1, d.before a0 Z = true) {n0 : Nat} {h0 : Heap}  {ga1 ga2 ga3 ga4 : Addr} (G : GG Z ga1 ga2 ga3 ga4) (O : Old Z n0 h0) :
    Pays l Z (⟨"com/example/kilit/kilit/engine/ColumnType$Kind", "comparesWith", "(Lcom/example/kilit/kilit/engine/ColumnType$Kind;)Z"⟩ : MethodName) prog_22_method_6_code 2 (some .boolean) ({ frames := 0, cells := 0, slots := 0, locals := 0 } : Room) #[(.ref ga2), (.ref ga1)] n0 h0 (QP (some (.int (0 : Int32))) h0) := by
  refine Pays.of hw (plainFor_of_name pn1) (fun m => ef_rm2_3_0 m ga2 ga1) fun B C => ?_
  refine iAloadN C d2_0 rfl rfl ?_
  refine iAloadN C d2_1 rfl rfl ?_
  refine iAcmpF C d2_2 rfl rfl (acNr (Fld.ne G.2.2.2.2.2.2.2.2.2.1 G.2.2.2.2.2.2.2.2.1 (by simp))).1 ?_
  refine iAloadN C d2_5 rfl rfl ?_
  refine iGetF C tw14 (G.2.2.2.2.2.2.2.2.2.2.2.2.2.2.2.ext O.2) d2_6 ?_
  refine iIfF C d2_9 (by decide) ?_
  refine iAloadN C d2_12 rfl rfl ?_
  refine iGetF C tw14 (G.2.2.2.2.2.2.2.2.2.2.1.ext O.2) d2_13 ?_
  refine iIfT C (t := 23) d2_16 (by decide) ⟨by decide, by decide⟩ ?_
  refine iIconst C d2_23 (v := (0 : Int32)) (by decide) ?_
  refine iRetZ C d2_24 (by simp) ⟨by decide, by decide⟩ ?_
  exact ⟨rfl, rfl⟩
theorem ef_rm2_3_1 (m : MethodId) (x0 : Addr) (x1 : Addr) : entryFrame m #[(.ref x0), (.ref x1)] 2 = mkF m 0 #[(.val (.ref x0)), (.val (.ref x1))] [] := by first | (simp [entryFrame, mkF, argsToLocals, Value.category]; done) | rfl
set_option maxRecDepth 65536 in
set_option maxHeartbeats 4000000 in
theorem rm2_3_1 {l : Launch} {Z : State} {a0 : Array Value} (hw : ∀ d ∈ tables_1, d.before a0 Z = true) {n0 : Nat} {h0 : Heap}  {ga1 ga2 ga3 ga4 : Addr} (G : GG Z ga1 ga2 ga3 ga4) (O : Old Z n0 h0) :
    Pays l Z (⟨"com/example/kilit/kilit/engine/ColumnType$Kind", "comparesWith", "(Lcom/example/kilit/kilit/engine/ColumnType$Kind;)Z"⟩ : MethodName) prog_22_method_6_code 2 (some .boolean) ({ frames := 0, cells := 0, slots := 0, locals := 0 } : Room) #[(.ref ga2), (.ref ga4)] n0 h0 (QP (some (.int (0 : Int32))) h0) := by
  refine Pays.of hw (plainFor_of_name pn1) (fun m => ef_rm2_3_1 m ga2 ga4) fun B C => ?_
  refine iAloadN C d2_0 rfl rfl ?_
  refine iAloadN C d2_1 rfl rfl ?_
  refine iAcmpF C d2_2 rfl rfl (acNr (Fld.ne G.2.2.2.2.2.2.2.2.2.2.2.1 G.2.2.2.2.2.2.2.2.1 (by simp))).1 ?_
  refine iAloadN C d2_5 rfl rfl ?_
  refine iGetF C tw14 (G.2.2.2.2.2.2.2.2.2.2.2.2.2.1.ext O.2) d2_6 ?_
  refine iIfF C d2_9 (by decide) ?_
  refine iAloadN C d2_12 rfl rfl ?_
  refine iGetF C tw14 (G.2.2.2.2.2.2.2.2.2.2.1.ext O.2) d2_13 ?_
  refine iIfT C (t := 23) d2_16 (by decide) ⟨by decide, by decide⟩ ?_
  refine iIconst C d2_23 (v := (0 : Int32)) (by decide) ?_
  refine iRetZ C d2_24 (by simp) ⟨by decide, by decide⟩ ?_
  exact ⟨rfl, rfl⟩
theorem ef_rm2_3_2 (m : MethodId) (x0 : Addr) (x1 : Addr) : entryFrame m #[(.ref x0), (.ref x1)] 2 = mkF m 0 #[(.val (.ref x0)), (.val (.ref x1))] [] := by first | (simp [entryFrame, mkF, argsToLocals, Value.category]; done) | rfl
set_option maxRecDepth 65536 in
set_option maxHeartbeats 4000000 in
theorem rm2_3_2 {l : Launch} {Z : State} {a0 : Array Value} (hw : ∀ d ∈ tables_1, d.before a0 Z = true) {n0 : Nat} {h0 : Heap}  {ga1 ga2 ga3 ga4 : Addr} (G : GG Z ga1 ga2 ga3 ga4) (O : Old Z n0 h0) :
    Pays l Z (⟨"com/example/kilit/kilit/engine/ColumnType$Kind", "comparesWith", "(Lcom/example/kilit/kilit/engine/ColumnType$Kind;)Z"⟩ : MethodName) prog_22_method_6_code 2 (some .boolean) ({ frames := 0, cells := 0, slots := 0, locals := 0 } : Room) #[(.ref ga2), (.ref ga3)] n0 h0 (QP (some (.int (0 : Int32))) h0) := by
  refine Pays.of hw (plainFor_of_name pn1) (fun m => ef_rm2_3_2 m ga2 ga3) fun B C => ?_
  refine iAloadN C d2_0 rfl rfl ?_
  refine iAloadN C d2_1 rfl rfl ?_
  refine iAcmpF C d2_2 rfl rfl (acNr (Fld.ne G.2.2.2.2.2.2.2.2.2.2.2.2.1 G.2.2.2.2.2.2.2.2.1 (by simp))).1 ?_
  refine iAloadN C d2_5 rfl rfl ?_
  refine iGetF C tw14 (G.2.2.2.2.2.2.2.2.2.2.2.2.2.2.1.ext O.2) d2_6 ?_
  refine iIfF C d2_9 (by decide) ?_
  refine iAloadN C d2_12 rfl rfl ?_
  refine iGetF C tw14 (G.2.2.2.2.2.2.2.2.2.2.1.ext O.2) d2_13 ?_
  refine iIfT C (t := 23) d2_16 (by decide) ⟨by decide, by decide⟩ ?_
  refine iIconst C d2_23 (v := (0 : Int32)) (by decide) ?_
  refine iRetZ C d2_24 (by simp) ⟨by decide, by decide⟩ ?_
  exact ⟨rfl, rfl⟩
theorem ef_rm2_3_3 (m : MethodId) (x0 : Addr) (x1 : Addr) : entryFrame m #[(.ref x0), (.ref x1)] 2 = mkF m 0 #[(.val (.ref x0)), (.val (.ref x1))] [] := by first | (simp [entryFrame, mkF, argsToLocals, Value.category]; done) | rfl
set_option maxRecDepth 65536 in
set_option maxHeartbeats 4000000 in
theorem rm2_3_3 {l : Launch} {Z : State} {a0 : Array Value} (hw : ∀ d ∈ tables_1, d.before a0 Z = true) {n0 : Nat} {h0 : Heap}  {ga1 ga2 ga3 ga4 : Addr} (G : GG Z ga1 ga2 ga3 ga4) (O : Old Z n0 h0) :
    Pays l Z (⟨"com/example/kilit/kilit/engine/ColumnType$Kind", "comparesWith", "(Lcom/example/kilit/kilit/engine/ColumnType$Kind;)Z"⟩ : MethodName) prog_22_method_6_code 2 (some .boolean) ({ frames := 0, cells := 0, slots := 0, locals := 0 } : Room) #[(.ref ga2), (.ref ga2)] n0 h0 (QP (some (.int (1 : Int32))) h0) := by
  refine Pays.of hw (plainFor_of_name pn1) (fun m => ef_rm2_3_3 m ga2 ga2) fun B C => ?_
  refine iAloadN C d2_0 rfl rfl ?_
  refine iAloadN C d2_1 rfl rfl ?_
  refine iAcmpT C (t := 19) d2_2 rfl rfl (acE rfl).1 ⟨by decide, by decide⟩ ?_
  refine iIconst C d2_19 (v := (1 : Int32)) (by decide) ?_
  refine iGoto C (t := 24) d2_20 ⟨by decide, by decide⟩ ?_
  refine iRetZ C d2_24 (by simp) ⟨by decide, by decide⟩ ?_
  exact ⟨rfl, rfl⟩
theorem own_four (p : Int32) : (p &&& 3) = 0 ∨ (p &&& 3) = 1 ∨ (p &&& 3) = 2 ∨ (p &&& 3) = 3 := by
  have e1 := c_mask p 3 2 (by decide) (by decide)
  simp only [← Int32.toInt_inj]
  have q0 : (0 : Int32).toInt = 0 := by decide
  have q1 : (1 : Int32).toInt = 1 := by decide
  have q2 : (2 : Int32).toInt = 2 := by decide
  have q3 : (3 : Int32).toInt = 3 := by decide
  omega
theorem ef_rm0 (m : MethodId) (x0 : Int32) (x1 : Int32) : entryFrame m #[(.int x0), (.int x1)] maxLocals = mkF m 0 #[(.val (.int x0)), (.val (.int x1)), .unset, .unset, .unset, .unset, .unset, .unset, .unset] [] := by first | (simp [entryFrame, mkF, argsToLocals, Value.category, maxLocals]; done) | rfl
set_option maxRecDepth 65536 in
set_option maxHeartbeats 4000000 in
theorem rm0 {l : Launch} {Z : State} {a0 : Array Value} (hw : ∀ d ∈ tables_1, d.before a0 Z = true) {n0 : Nat} {h0 : Heap} (p r : Int32) {ga1 ga2 ga3 ga4 : Addr} (G : GG Z ga1 ga2 ga3 ga4) (O : Old Z n0 h0) :
    Pays l Z x code maxLocals ret room_1 #[(.int p), (.int r)] n0 h0 (fun v _ => v = some (.int 1)) := by
  refine Pays.of hw (plainFor_of_name pn0) (fun m => ef_rm0 m p r) fun B C => ?_
  refine iIloadN C d0_0 rfl ?_
  refine iIconst C d0_1 (v := (3 : Int32)) (by decide) ?_
  refine iIand C d0_2 rfl ?_
  rcases own_four p with q | q | q | q
  · rw [q]
    refine iIstoreN C d0_3 (Ls' := #[(.val (.int p)), (.val (.int r)), (.val (.int (0 : Int32))), .unset, .unset, .unset, .unset, .unset, .unset]) rfl ?_
    refine iIloadN C d0_4 rfl ?_
    refine iIconst C d0_5 (v := (3 : Int32)) (by decide) ?_
    refine iIand C d0_6 rfl ?_
    rcases own_four r with q | q | q | q
    · rw [q]
      refine iIstoreN C d0_7 (Ls' := #[(.val (.int p)), (.val (.int r)), (.val (.int (0 : Int32))), (.val (.int (0 : Int32))), .unset, .unset, .unset, .unset, .unset]) rfl ?_
      refine iIloadN C d0_8 rfl ?_
      refine iCallS C (rm1_0 hw G O) tw0 tw1 tw2 tw3 ⟨by decide, by decide⟩ (argsL := [(.int (0 : Int32))]) (S' := []) (lenOf pd0 rfl) rfl rfl d0_9 rfl (W := 0) rfl ⟨by decide, by decide, rfl, rfl, by decide, by decide⟩ fun v1 h1 q1 => ?_
      obtain ⟨rfl, rfl⟩ := q1
      show Go B n0 _ h0 0 0 12 #[(.val (.int p)), (.val (.int r)), (.val (.int (0 : Int32))), (.val (.int (0 : Int32))), .unset, .unset, .unset, .unset, .unset] [(.ref ga1)]
      refine iAstore C d0_12 (Ls' := #[(.val (.int p)), (.val (.int r)), (.val (.int (0 : Int32))), (.val (.int (0 : Int32))), (.val (.ref ga1)), .unset, .unset, .unset, .unset]) rfl rfl ?_
      refine iIloadN C d0_14 rfl ?_
      refine iCallS C (rm1_0 hw G O) tw0 tw1 tw2 tw3 ⟨by decide, by decide⟩ (argsL := [(.int (0 : Int32))]) (S' := []) (lenOf pd0 rfl) rfl rfl d0_15 rfl (W := 0) rfl ⟨by decide, by decide, rfl, rfl, by decide, by decide⟩ fun v2 h2 q2 => ?_
      obtain ⟨rfl, rfl⟩ := q2
      show Go B n0 _ h0 0 0 18 #[(.val (.int p)), (.val (.int r)), (.val (.int (0 : Int32))), (.val (.int (0 : Int32))), (.val (.ref ga1)), .unset, .unset, .unset, .unset] [(.ref ga1)]
      refine iAstore C d0_18 (Ls' := #[(.val (.int p)), (.val (.int r)), (.val (.int (0 : Int32))), (.val (.int (0 : Int32))), (.val (.ref ga1)), (.val (.ref ga1)), .unset, .unset, .unset]) rfl rfl ?_
      refine iIloadN C d0_20 rfl ?_
      refine iIconst C d0_21 (v := (3 : Int32)) (by decide) ?_
      refine iCmpF C d0_22 (by decide) ?_
      refine iIconst C d0_25 (v := (1 : Int32)) (by decide) ?_
      refine iGoto C (t := 30) d0_26 ⟨by decide, by decide⟩ ?_
      refine iIstore C d0_30 (Ls' := #[(.val (.int p)), (.val (.int r)), (.val (.int (0 : Int32))), (.val (.int (0 : Int32))), (.val (.ref ga1)), (.val (.ref ga1)), (.val (.int (1 : Int32))), .unset, .unset]) rfl ?_
      refine iIloadN C d0_32 rfl ?_
      refine iIconst C d0_33 (v := (3 : Int32)) (by decide) ?_
      refine iCmpF C d0_34 (by decide) ?_
      refine iIconst C d0_37 (v := (1 : Int32)) (by decide) ?_
      refine iGoto C (t := 42) d0_38 ⟨by decide, by decide⟩ ?_
      refine iIstore C d0_42 (Ls' := #[(.val (.int p)), (.val (.int r)), (.val (.int (0 : Int32))), (.val (.int (0 : Int32))), (.val (.ref ga1)), (.val (.ref ga1)), (.val (.int (1 : Int32))), (.val (.int (1 : Int32))), .unset]) rfl ?_
      refine iIloadN C d0_44 rfl ?_
      refine iIloadN C d0_45 rfl ?_
      refine iCmpT C (t := 59) d0_46 (by decide) ⟨by decide, by decide⟩ ?_
      refine iIconst C d0_59 (v := (1 : Int32)) (by decide) ?_
      refine iGoto C (t := 64) d0_60 ⟨by decide, by decide⟩ ?_
      refine iIstore C d0_64 (Ls' := #[(.val (.int p)), (.val (.int r)), (.val (.int (0 : Int32))), (.val (.int (0 : Int32))), (.val (.ref ga1)), (.val (.ref ga1)), (.val (.int (1 : Int32))), (.val (.int (1 : Int32))), (.val (.int (1 : Int32)))]) rfl ?_
      refine iAload C d0_66 rfl rfl ?_
      refine iAload C d0_68 rfl rfl ?_
      refine iCallV C (rm2_0_0 hw G O) (G.2.1.ext O.2) tw9 tw10 (Or.inl rfl) tw12 tw11 tw5 tw13 ⟨by decide, by decide⟩ (argsL := [(.ref ga1)]) (S' := []) (lenOf pd1 rfl) rfl rfl d0_70 rfl (W := 0) rfl ⟨by decide, by decide, rfl, rfl, by decide, by decide⟩ fun v3 h3 q3 => ?_
      obtain ⟨rfl, rfl⟩ := q3
      show Go B n0 _ h0 0 0 73 #[(.val (.int p)), (.val (.int r)), (.val (.int (0 : Int32))), (.val (.int (0 : Int32))), (.val (.ref ga1)), (.val (.ref ga1)), (.val (.int (1 : Int32))), (.val (.int (1 : Int32))), (.val (.int (1 : Int32)))] [(.int (1 : Int32))]
      refine iIload C d0_73 rfl ?_
      refine iCmpF C d0_75 (by decide) ?_
      refine iIconst C d0_78 (v := (1 : Int32)) (by decide) ?_
      refine iGoto C (t := 83) d0_79 ⟨by decide, by decide⟩ ?_
      refine iRetZ C d0_83 (by simp) ⟨by decide, by decide⟩ ?_
      exact rfl
    · rw [q]
      refine iIstoreN C d0_7 (Ls' := #[(.val (.int p)), (.val (.int r)), (.val (.int (0 : Int32))), (.val (.int (1 : Int32))), .unset, .unset, .unset, .unset, .unset]) rfl ?_
      refine iIloadN C d0_8 rfl ?_
      refine iCallS C (rm1_0 hw G O) tw0 tw1 tw2 tw3 ⟨by decide, by decide⟩ (argsL := [(.int (0 : Int32))]) (S' := []) (lenOf pd0 rfl) rfl rfl d0_9 rfl (W := 0) rfl ⟨by decide, by decide, rfl, rfl, by decide, by decide⟩ fun v4 h4 q4 => ?_
      obtain ⟨rfl, rfl⟩ := q4
      show Go B n0 _ h0 0 0 12 #[(.val (.int p)), (.val (.int r)), (.val (.int (0 : Int32))), (.val (.int (1 : Int32))), .unset, .unset, .unset, .unset, .unset] [(.ref ga1)]
      refine iAstore C d0_12 (Ls' := #[(.val (.int p)), (.val (.int r)), (.val (.int (0 : Int32))), (.val (.int (1 : Int32))), (.val (.ref ga1)), .unset, .unset, .unset, .unset]) rfl rfl ?_
      refine iIloadN C d0_14 rfl ?_
      refine iCallS C (rm1_1 hw G O) tw0 tw1 tw2 tw3 ⟨by decide, by decide⟩ (argsL := [(.int (1 : Int32))]) (S' := []) (lenOf pd0 rfl) rfl rfl d0_15 rfl (W := 0) rfl ⟨by decide, by decide, rfl, rfl, by decide, by decide⟩ fun v5 h5 q5 => ?_
      obtain ⟨rfl, rfl⟩ := q5
      show Go B n0 _ h0 0 0 18 #[(.val (.int p)), (.val (.int r)), (.val (.int (0 : Int32))), (.val (.int (1 : Int32))), (.val (.ref ga1)), .unset, .unset, .unset, .unset] [(.ref ga4)]
      refine iAstore C d0_18 (Ls' := #[(.val (.int p)), (.val (.int r)), (.val (.int (0 : Int32))), (.val (.int (1 : Int32))), (.val (.ref ga1)), (.val (.ref ga4)), .unset, .unset, .unset]) rfl rfl ?_
      refine iIloadN C d0_20 rfl ?_
      refine iIconst C d0_21 (v := (3 : Int32)) (by decide) ?_
      refine iCmpF C d0_22 (by decide) ?_
      refine iIconst C d0_25 (v := (1 : Int32)) (by decide) ?_
      refine iGoto C (t := 30) d0_26 ⟨by decide, by decide⟩ ?_
      refine iIstore C d0_30 (Ls' := #[(.val (.int p)), (.val (.int r)), (.val (.int (0 : Int32))), (.val (.int (1 : Int32))), (.val (.ref ga1)), (.val (.ref ga4)), (.val (.int (1 : Int32))), .unset, .unset]) rfl ?_
      refine iIloadN C d0_32 rfl ?_
      refine iIconst C d0_33 (v := (3 : Int32)) (by decide) ?_
      refine iCmpF C d0_34 (by decide) ?_
      refine iIconst C d0_37 (v := (1 : Int32)) (by decide) ?_
      refine iGoto C (t := 42) d0_38 ⟨by decide, by decide⟩ ?_
      refine iIstore C d0_42 (Ls' := #[(.val (.int p)), (.val (.int r)), (.val (.int (0 : Int32))), (.val (.int (1 : Int32))), (.val (.ref ga1)), (.val (.ref ga4)), (.val (.int (1 : Int32))), (.val (.int (1 : Int32))), .unset]) rfl ?_
      refine iIloadN C d0_44 rfl ?_
      refine iIloadN C d0_45 rfl ?_
      refine iCmpF C d0_46 (by decide) ?_
      refine iIload C d0_49 rfl ?_
      refine iIfF C d0_51 (by decide) ?_
      refine iIload C d0_54 rfl ?_
      refine iIfF C d0_56 (by decide) ?_
      refine iIconst C d0_59 (v := (1 : Int32)) (by decide) ?_
      refine iGoto C (t := 64) d0_60 ⟨by decide, by decide⟩ ?_
      refine iIstore C d0_64 (Ls' := #[(.val (.int p)), (.val (.int r)), (.val (.int (0 : Int32))), (.val (.int (1 : Int32))), (.val (.ref ga1)), (.val (.ref ga4)), (.val (.int (1 : Int32))), (.val (.int (1 : Int32))), (.val (.int (1 : Int32)))]) rfl ?_
      refine iAload C d0_66 rfl rfl ?_
      refine iAload C d0_68 rfl rfl ?_
      refine iCallV C (rm2_0_1 hw G O) (G.2.1.ext O.2) tw9 tw10 (Or.inl rfl) tw12 tw11 tw5 tw13 ⟨by decide, by decide⟩ (argsL := [(.ref ga4)]) (S' := []) (lenOf pd1 rfl) rfl rfl d0_70 rfl (W := 0) rfl ⟨by decide, by decide, rfl, rfl, by decide, by decide⟩ fun v6 h6 q6 => ?_
      obtain ⟨rfl, rfl⟩ := q6
      show Go B n0 _ h0 0 0 73 #[(.val (.int p)), (.val (.int r)), (.val (.int (0 : Int32))), (.val (.int (1 : Int32))), (.val (.ref ga1)), (.val (.ref ga4)), (.val (.int (1 : Int32))), (.val (.int (1 : Int32))), (.val (.int (1 : Int32)))] [(.int (1 : Int32))]
      refine iIload C d0_73 rfl ?_
      refine iCmpF C d0_75 (by decide) ?_
      refine iIconst C d0_78 (v := (1 : Int32)) (by decide) ?_
      refine iGoto C (t := 83) d0_79 ⟨by decide, by decide⟩ ?_
      refine iRetZ C d0_83 (by simp) ⟨by decide, by decide⟩ ?_
      exact rfl
    · rw [q]
      refine iIstoreN C d0_7 (Ls' := #[(.val (.int p)), (.val (.int r)), (.val (.int (0 : Int32))), (.val (.int (2 : Int32))), .unset, .unset, .unset, .unset, .unset]) rfl ?_
      refine iIloadN C d0_8 rfl ?_
      refine iCallS C (rm1_0 hw G O) tw0 tw1 tw2 tw3 ⟨by decide, by decide⟩ (argsL := [(.int (0 : Int32))]) (S' := []) (lenOf pd0 rfl) rfl rfl d0_9 rfl (W := 0) rfl ⟨by decide, by decide, rfl, rfl, by decide, by decide⟩ fun v7 h7 q7 => ?_
      obtain ⟨rfl, rfl⟩ := q7
      show Go B n0 _ h0 0 0 12 #[(.val (.int p)), (.val (.int r)), (.val (.int (0 : Int32))), (.val (.int (2 : Int32))), .unset, .unset, .unset, .unset, .unset] [(.ref ga1)]
      refine iAstore C d0_12 (Ls' := #[(.val (.int p)), (.val (.int r)), (.val (.int (0 : Int32))), (.val (.int (2 : Int32))), (.val (.ref ga1)), .unset, .unset, .unset, .unset]) rfl rfl ?_
      refine iIloadN C d0_14 rfl ?_
      refine iCallS C (rm1_2 hw G O) tw0 tw1 tw2 tw3 ⟨by decide, by decide⟩ (argsL := [(.int (2 : Int32))]) (S' := []) (lenOf pd0 rfl) rfl rfl d0_15 rfl (W := 0) rfl ⟨by decide, by decide, rfl, rfl, by decide, by decide⟩ fun v8 h8 q8 => ?_
      obtain ⟨rfl, rfl⟩ := q8
      show Go B n0 _ h0 0 0 18 #[(.val (.int p)), (.val (.int r)), (.val (.int (0 : Int32))), (.val (.int (2 : Int32))), (.val (.ref ga1)), .unset, .unset, .unset, .unset] [(.ref ga3)]
      refine iAstore C d0_18 (Ls' := #[(.val (.int p)), (.val (.int r)), (.val (.int (0 : Int32))), (.val (.int (2 : Int32))), (.val (.ref ga1)), (.val (.ref ga3)), .unset, .unset, .unset]) rfl rfl ?_
      refine iIloadN C d0_20 rfl ?_
      refine iIconst C d0_21 (v := (3 : Int32)) (by decide) ?_
      refine iCmpF C d0_22 (by decide) ?_
      refine iIconst C d0_25 (v := (1 : Int32)) (by decide) ?_
      refine iGoto C (t := 30) d0_26 ⟨by decide, by decide⟩ ?_
      refine iIstore C d0_30 (Ls' := #[(.val (.int p)), (.val (.int r)), (.val (.int (0 : Int32))), (.val (.int (2 : Int32))), (.val (.ref ga1)), (.val (.ref ga3)), (.val (.int (1 : Int32))), .unset, .unset]) rfl ?_
      refine iIloadN C d0_32 rfl ?_
      refine iIconst C d0_33 (v := (3 : Int32)) (by decide) ?_
      refine iCmpF C d0_34 (by decide) ?_
      refine iIconst C d0_37 (v := (1 : Int32)) (by decide) ?_
      refine iGoto C (t := 42) d0_38 ⟨by decide, by decide⟩ ?_
      refine iIstore C d0_42 (Ls' := #[(.val (.int p)), (.val (.int r)), (.val (.int (0 : Int32))), (.val (.int (2 : Int32))), (.val (.ref ga1)), (.val (.ref ga3)), (.val (.int (1 : Int32))), (.val (.int (1 : Int32))), .unset]) rfl ?_
      refine iIloadN C d0_44 rfl ?_
      refine iIloadN C d0_45 rfl ?_
      refine iCmpF C d0_46 (by decide) ?_
      refine iIload C d0_49 rfl ?_
      refine iIfF C d0_51 (by decide) ?_
      refine iIload C d0_54 rfl ?_
      refine iIfF C d0_56 (by decide) ?_
      refine iIconst C d0_59 (v := (1 : Int32)) (by decide) ?_
      refine iGoto C (t := 64) d0_60 ⟨by decide, by decide⟩ ?_
      refine iIstore C d0_64 (Ls' := #[(.val (.int p)), (.val (.int r)), (.val (.int (0 : Int32))), (.val (.int (2 : Int32))), (.val (.ref ga1)), (.val (.ref ga3)), (.val (.int (1 : Int32))), (.val (.int (1 : Int32))), (.val (.int (1 : Int32)))]) rfl ?_
      refine iAload C d0_66 rfl rfl ?_
      refine iAload C d0_68 rfl rfl ?_
      refine iCallV C (rm2_0_2 hw G O) (G.2.1.ext O.2) tw9 tw10 (Or.inl rfl) tw12 tw11 tw5 tw13 ⟨by decide, by decide⟩ (argsL := [(.ref ga3)]) (S' := []) (lenOf pd1 rfl) rfl rfl d0_70 rfl (W := 0) rfl ⟨by decide, by decide, rfl, rfl, by decide, by decide⟩ fun v9 h9 q9 => ?_
      obtain ⟨rfl, rfl⟩ := q9
      show Go B n0 _ h0 0 0 73 #[(.val (.int p)), (.val (.int r)), (.val (.int (0 : Int32))), (.val (.int (2 : Int32))), (.val (.ref ga1)), (.val (.ref ga3)), (.val (.int (1 : Int32))), (.val (.int (1 : Int32))), (.val (.int (1 : Int32)))] [(.int (1 : Int32))]
      refine iIload C d0_73 rfl ?_
      refine iCmpF C d0_75 (by decide) ?_
      refine iIconst C d0_78 (v := (1 : Int32)) (by decide) ?_
      refine iGoto C (t := 83) d0_79 ⟨by decide, by decide⟩ ?_
      refine iRetZ C d0_83 (by simp) ⟨by decide, by decide⟩ ?_
      exact rfl
    · rw [q]
      refine iIstoreN C d0_7 (Ls' := #[(.val (.int p)), (.val (.int r)), (.val (.int (0 : Int32))), (.val (.int (3 : Int32))), .unset, .unset, .unset, .unset, .unset]) rfl ?_
      refine iIloadN C d0_8 rfl ?_
      refine iCallS C (rm1_0 hw G O) tw0 tw1 tw2 tw3 ⟨by decide, by decide⟩ (argsL := [(.int (0 : Int32))]) (S' := []) (lenOf pd0 rfl) rfl rfl d0_9 rfl (W := 0) rfl ⟨by decide, by decide, rfl, rfl, by decide, by decide⟩ fun v10 h10 q10 => ?_
      obtain ⟨rfl, rfl⟩ := q10
      show Go B n0 _ h0 0 0 12 #[(.val (.int p)), (.val (.int r)), (.val (.int (0 : Int32))), (.val (.int (3 : Int32))), .unset, .unset, .unset, .unset, .unset] [(.ref ga1)]
      refine iAstore C d0_12 (Ls' := #[(.val (.int p)), (.val (.int r)), (.val (.int (0 : Int32))), (.val (.int (3 : Int32))), (.val (.ref ga1)), .unset, .unset, .unset, .unset]) rfl rfl ?_
      refine iIloadN C d0_14 rfl ?_
      refine iCallS C (rm1_3 hw G O) tw0 tw1 tw2 tw3 ⟨by decide, by decide⟩ (argsL := [(.int (3 : Int32))]) (S' := []) (lenOf pd0 rfl) rfl rfl d0_15 rfl (W := 0) rfl ⟨by decide, by decide, rfl, rfl, by decide, by decide⟩ fun v11 h11 q11 => ?_
      obtain ⟨rfl, rfl⟩ := q11
      show Go B n0 _ h0 0 0 18 #[(.val (.int p)), (.val (.int r)), (.val (.int (0 : Int32))), (.val (.int (3 : Int32))), (.val (.ref ga1)), .unset, .unset, .unset, .unset] [(.ref ga2)]
      refine iAstore C d0_18 (Ls' := #[(.val (.int p)), (.val (.int r)), (.val (.int (0 : Int32))), (.val (.int (3 : Int32))), (.val (.ref ga1)), (.val (.ref ga2)), .unset, .unset, .unset]) rfl rfl ?_
      refine iIloadN C d0_20 rfl ?_
      refine iIconst C d0_21 (v := (3 : Int32)) (by decide) ?_
      refine iCmpF C d0_22 (by decide) ?_
      refine iIconst C d0_25 (v := (1 : Int32)) (by decide) ?_
      refine iGoto C (t := 30) d0_26 ⟨by decide, by decide⟩ ?_
      refine iIstore C d0_30 (Ls' := #[(.val (.int p)), (.val (.int r)), (.val (.int (0 : Int32))), (.val (.int (3 : Int32))), (.val (.ref ga1)), (.val (.ref ga2)), (.val (.int (1 : Int32))), .unset, .unset]) rfl ?_
      refine iIloadN C d0_32 rfl ?_
      refine iIconst C d0_33 (v := (3 : Int32)) (by decide) ?_
      refine iCmpT C (t := 41) d0_34 (by decide) ⟨by decide, by decide⟩ ?_
      refine iIconst C d0_41 (v := (0 : Int32)) (by decide) ?_
      refine iIstore C d0_42 (Ls' := #[(.val (.int p)), (.val (.int r)), (.val (.int (0 : Int32))), (.val (.int (3 : Int32))), (.val (.ref ga1)), (.val (.ref ga2)), (.val (.int (1 : Int32))), (.val (.int (0 : Int32))), .unset]) rfl ?_
      refine iIloadN C d0_44 rfl ?_
      refine iIloadN C d0_45 rfl ?_
      refine iCmpF C d0_46 (by decide) ?_
      refine iIload C d0_49 rfl ?_
      refine iIfF C d0_51 (by decide) ?_
      refine iIload C d0_54 rfl ?_
      refine iIfT C (t := 63) d0_56 (by decide) ⟨by decide, by decide⟩ ?_
      refine iIconst C d0_63 (v := (0 : Int32)) (by decide) ?_
      refine iIstore C d0_64 (Ls' := #[(.val (.int p)), (.val (.int r)), (.val (.int (0 : Int32))), (.val (.int (3 : Int32))), (.val (.ref ga1)), (.val (.ref ga2)), (.val (.int (1 : Int32))), (.val (.int (0 : Int32))), (.val (.int (0 : Int32)))]) rfl ?_
      refine iAload C d0_66 rfl rfl ?_
      refine iAload C d0_68 rfl rfl ?_
      refine iCallV C (rm2_0_3 hw G O) (G.2.1.ext O.2) tw9 tw10 (Or.inl rfl) tw12 tw11 tw5 tw13 ⟨by decide, by decide⟩ (argsL := [(.ref ga2)]) (S' := []) (lenOf pd1 rfl) rfl rfl d0_70 rfl (W := 0) rfl ⟨by decide, by decide, rfl, rfl, by decide, by decide⟩ fun v12 h12 q12 => ?_
      obtain ⟨rfl, rfl⟩ := q12
      show Go B n0 _ h0 0 0 73 #[(.val (.int p)), (.val (.int r)), (.val (.int (0 : Int32))), (.val (.int (3 : Int32))), (.val (.ref ga1)), (.val (.ref ga2)), (.val (.int (1 : Int32))), (.val (.int (0 : Int32))), (.val (.int (0 : Int32)))] [(.int (0 : Int32))]
      refine iIload C d0_73 rfl ?_
      refine iCmpF C d0_75 (by decide) ?_
      refine iIconst C d0_78 (v := (1 : Int32)) (by decide) ?_
      refine iGoto C (t := 83) d0_79 ⟨by decide, by decide⟩ ?_
      refine iRetZ C d0_83 (by simp) ⟨by decide, by decide⟩ ?_
      exact rfl
  · rw [q]
    refine iIstoreN C d0_3 (Ls' := #[(.val (.int p)), (.val (.int r)), (.val (.int (1 : Int32))), .unset, .unset, .unset, .unset, .unset, .unset]) rfl ?_
    refine iIloadN C d0_4 rfl ?_
    refine iIconst C d0_5 (v := (3 : Int32)) (by decide) ?_
    refine iIand C d0_6 rfl ?_
    rcases own_four r with q | q | q | q
    · rw [q]
      refine iIstoreN C d0_7 (Ls' := #[(.val (.int p)), (.val (.int r)), (.val (.int (1 : Int32))), (.val (.int (0 : Int32))), .unset, .unset, .unset, .unset, .unset]) rfl ?_
      refine iIloadN C d0_8 rfl ?_
      refine iCallS C (rm1_1 hw G O) tw0 tw1 tw2 tw3 ⟨by decide, by decide⟩ (argsL := [(.int (1 : Int32))]) (S' := []) (lenOf pd0 rfl) rfl rfl d0_9 rfl (W := 0) rfl ⟨by decide, by decide, rfl, rfl, by decide, by decide⟩ fun v13 h13 q13 => ?_
      obtain ⟨rfl, rfl⟩ := q13
      show Go B n0 _ h0 0 0 12 #[(.val (.int p)), (.val (.int r)), (.val (.int (1 : Int32))), (.val (.int (0 : Int32))), .unset, .unset, .unset, .unset, .unset] [(.ref ga4)]
      refine iAstore C d0_12 (Ls' := #[(.val (.int p)), (.val (.int r)), (.val (.int (1 : Int32))), (.val (.int (0 : Int32))), (.val (.ref ga4)), .unset, .unset, .unset, .unset]) rfl rfl ?_
      refine iIloadN C d0_14 rfl ?_
      refine iCallS C (rm1_0 hw G O) tw0 tw1 tw2 tw3 ⟨by decide, by decide⟩ (argsL := [(.int (0 : Int32))]) (S' := []) (lenOf pd0 rfl) rfl rfl d0_15 rfl (W := 0) rfl ⟨by decide, by decide, rfl, rfl, by decide, by decide⟩ fun v14 h14 q14 => ?_
      obtain ⟨rfl, rfl⟩ := q14
      show Go B n0 _ h0 0 0 18 #[(.val (.int p)), (.val (.int r)), (.val (.int (1 : Int32))), (.val (.int (0 : Int32))), (.val (.ref ga4)), .unset, .unset, .unset, .unset] [(.ref ga1)]
      refine iAstore C d0_18 (Ls' := #[(.val (.int p)), (.val (.int r)), (.val (.int (1 : Int32))), (.val (.int (0 : Int32))), (.val (.ref ga4)), (.val (.ref ga1)), .unset, .unset, .unset]) rfl rfl ?_
      refine iIloadN C d0_20 rfl ?_
      refine iIconst C d0_21 (v := (3 : Int32)) (by decide) ?_
      refine iCmpF C d0_22 (by decide) ?_
      refine iIconst C d0_25 (v := (1 : Int32)) (by decide) ?_
      refine iGoto C (t := 30) d0_26 ⟨by decide, by decide⟩ ?_
      refine iIstore C d0_30 (Ls' := #[(.val (.int p)), (.val (.int r)), (.val (.int (1 : Int32))), (.val (.int (0 : Int32))), (.val (.ref ga4)), (.val (.ref ga1)), (.val (.int (1 : Int32))), .unset, .unset]) rfl ?_
      refine iIloadN C d0_32 rfl ?_
      refine iIconst C d0_33 (v := (3 : Int32)) (by decide) ?_
      refine iCmpF C d0_34 (by decide) ?_
      refine iIconst C d0_37 (v := (1 : Int32)) (by decide) ?_
      refine iGoto C (t := 42) d0_38 ⟨by decide, by decide⟩ ?_
      refine iIstore C d0_42 (Ls' := #[(.val (.int p)), (.val (.int r)), (.val (.int (1 : Int32))), (.val (.int (0 : Int32))), (.val (.ref ga4)), (.val (.ref ga1)), (.val (.int (1 : Int32))), (.val (.int (1 : Int32))), .unset]) rfl ?_
      refine iIloadN C d0_44 rfl ?_
      refine iIloadN C d0_45 rfl ?_
      refine iCmpF C d0_46 (by decide) ?_
      refine iIload C d0_49 rfl ?_
      refine iIfF C d0_51 (by decide) ?_
      refine iIload C d0_54 rfl ?_
      refine iIfF C d0_56 (by decide) ?_
      refine iIconst C d0_59 (v := (1 : Int32)) (by decide) ?_
      refine iGoto C (t := 64) d0_60 ⟨by decide, by decide⟩ ?_
      refine iIstore C d0_64 (Ls' := #[(.val (.int p)), (.val (.int r)), (.val (.int (1 : Int32))), (.val (.int (0 : Int32))), (.val (.ref ga4)), (.val (.ref ga1)), (.val (.int (1 : Int32))), (.val (.int (1 : Int32))), (.val (.int (1 : Int32)))]) rfl ?_
      refine iAload C d0_66 rfl rfl ?_
      refine iAload C d0_68 rfl rfl ?_
      refine iCallV C (rm2_1_0 hw G O) (G.2.2.2.2.2.2.2.1.ext O.2) tw9 tw10 (Or.inl rfl) tw12 tw11 tw5 tw13 ⟨by decide, by decide⟩ (argsL := [(.ref ga1)]) (S' := []) (lenOf pd1 rfl) rfl rfl d0_70 rfl (W := 0) rfl ⟨by decide, by decide, rfl, rfl, by decide, by decide⟩ fun v15 h15 q15 => ?_
      obtain ⟨rfl, rfl⟩ := q15
      show Go B n0 _ h0 0 0 73 #[(.val (.int p)), (.val (.int r)), (.val (.int (1 : Int32))), (.val (.int (0 : Int32))), (.val (.ref ga4)), (.val (.ref ga1)), (.val (.int (1 : Int32))), (.val (.int (1 : Int32))), (.val (.int (1 : Int32)))] [(.int (1 : Int32))]
      refine iIload C d0_73 rfl ?_
      refine iCmpF C d0_75 (by decide) ?_
      refine iIconst C d0_78 (v := (1 : Int32)) (by decide) ?_
      refine iGoto C (t := 83) d0_79 ⟨by decide, by decide⟩ ?_
      refine iRetZ C d0_83 (by simp) ⟨by decide, by decide⟩ ?_
      exact rfl
    · rw [q]
      refine iIstoreN C d0_7 (Ls' := #[(.val (.int p)), (.val (.int r)), (.val (.int (1 : Int32))), (.val (.int (1 : Int32))), .unset, .unset, .unset, .unset, .unset]) rfl ?_
      refine iIloadN C d0_8 rfl ?_
      refine iCallS C (rm1_1 hw G O) tw0 tw1 tw2 tw3 ⟨by decide, by decide⟩ (argsL := [(.int (1 : Int32))]) (S' := []) (lenOf pd0 rfl) rfl rfl d0_9 rfl (W := 0) rfl ⟨by decide, by decide, rfl, rfl, by decide, by decide⟩ fun v16 h16 q16 => ?_
      obtain ⟨rfl, rfl⟩ := q16
      show Go B n0 _ h0 0 0 12 #[(.val (.int p)), (.val (.int r)), (.val (.int (1 : Int32))), (.val (.int (1 : Int32))), .unset, .unset, .unset, .unset, .unset] [(.ref ga4)]
      refine iAstore C d0_12 (Ls' := #[(.val (.int p)), (.val (.int r)), (.val (.int (1 : Int32))), (.val (.int (1 : Int32))), (.val (.ref ga4)), .unset, .unset, .unset, .unset]) rfl rfl ?_
      refine iIloadN C d0_14 rfl ?_
      refine iCallS C (rm1_1 hw G O) tw0 tw1 tw2 tw3 ⟨by decide, by decide⟩ (argsL := [(.int (1 : Int32))]) (S' := []) (lenOf pd0 rfl) rfl rfl d0_15 rfl (W := 0) rfl ⟨by decide, by decide, rfl, rfl, by decide, by decide⟩ fun v17 h17 q17 => ?_
      obtain ⟨rfl, rfl⟩ := q17
      show Go B n0 _ h0 0 0 18 #[(.val (.int p)), (.val (.int r)), (.val (.int (1 : Int32))), (.val (.int (1 : Int32))), (.val (.ref ga4)), .unset, .unset, .unset, .unset] [(.ref ga4)]
      refine iAstore C d0_18 (Ls' := #[(.val (.int p)), (.val (.int r)), (.val (.int (1 : Int32))), (.val (.int (1 : Int32))), (.val (.ref ga4)), (.val (.ref ga4)), .unset, .unset, .unset]) rfl rfl ?_
      refine iIloadN C d0_20 rfl ?_
      refine iIconst C d0_21 (v := (3 : Int32)) (by decide) ?_
      refine iCmpF C d0_22 (by decide) ?_
      refine iIconst C d0_25 (v := (1 : Int32)) (by decide) ?_
      refine iGoto C (t := 30) d0_26 ⟨by decide, by decide⟩ ?_
      refine iIstore C d0_30 (Ls' := #[(.val (.int p)), (.val (.int r)), (.val (.int (1 : Int32))), (.val (.int (1 : Int32))), (.val (.ref ga4)), (.val (.ref ga4)), (.val (.int (1 : Int32))), .unset, .unset]) rfl ?_
      refine iIloadN C d0_32 rfl ?_
      refine iIconst C d0_33 (v := (3 : Int32)) (by decide) ?_
      refine iCmpF C d0_34 (by decide) ?_
      refine iIconst C d0_37 (v := (1 : Int32)) (by decide) ?_
      refine iGoto C (t := 42) d0_38 ⟨by decide, by decide⟩ ?_
      refine iIstore C d0_42 (Ls' := #[(.val (.int p)), (.val (.int r)), (.val (.int (1 : Int32))), (.val (.int (1 : Int32))), (.val (.ref ga4)), (.val (.ref ga4)), (.val (.int (1 : Int32))), (.val (.int (1 : Int32))), .unset]) rfl ?_
      refine iIloadN C d0_44 rfl ?_
      refine iIloadN C d0_45 rfl ?_
      refine iCmpT C (t := 59) d0_46 (by decide) ⟨by decide, by decide⟩ ?_
      refine iIconst C d0_59 (v := (1 : Int32)) (by decide) ?_
      refine iGoto C (t := 64) d0_60 ⟨by decide, by decide⟩ ?_
      refine iIstore C d0_64 (Ls' := #[(.val (.int p)), (.val (.int r)), (.val (.int (1 : Int32))), (.val (.int (1 : Int32))), (.val (.ref ga4)), (.val (.ref ga4)), (.val (.int (1 : Int32))), (.val (.int (1 : Int32))), (.val (.int (1 : Int32)))]) rfl ?_
      refine iAload C d0_66 rfl rfl ?_
      refine iAload C d0_68 rfl rfl ?_
      refine iCallV C (rm2_1_1 hw G O) (G.2.2.2.2.2.2.2.1.ext O.2) tw9 tw10 (Or.inl rfl) tw12 tw11 tw5 tw13 ⟨by decide, by decide⟩ (argsL := [(.ref ga4)]) (S' := []) (lenOf pd1 rfl) rfl rfl d0_70 rfl (W := 0) rfl ⟨by decide, by decide, rfl, rfl, by decide, by decide⟩ fun v18 h18 q18 => ?_
      obtain ⟨rfl, rfl⟩ := q18
      show Go B n0 _ h0 0 0 73 #[(.val (.int p)), (.val (.int r)), (.val (.int (1 : Int32))), (.val (.int (1 : Int32))), (.val (.ref ga4)), (.val (.ref ga4)), (.val (.int (1 : Int32))), (.val (.int (1 : Int32))), (.val (.int (1 : Int32)))] [(.int (1 : Int32))]
      refine iIload C d0_73 rfl ?_
      refine iCmpF C d0_75 (by decide) ?_
      refine iIconst C d0_78 (v := (1 : Int32)) (by decide) ?_
      refine iGoto C (t := 83) d0_79 ⟨by decide, by decide⟩ ?_
      refine iRetZ C d0_83 (by simp) ⟨by decide, by decide⟩ ?_
      exact rfl
    · rw [q]
      refine iIstoreN C d0_7 (Ls' := #[(.val (.int p)), (.val (.int r)), (.val (.int (1 : Int32))), (.val (.int (2 : Int32))), .unset, .unset, .unset, .unset, .unset]) rfl ?_
      refine iIloadN C d0_8 rfl ?_
      refine iCallS C (rm1_1 hw G O) tw0 tw1 tw2 tw3 ⟨by decide, by decide⟩ (argsL := [(.int (1 : Int32))]) (S' := []) (lenOf pd0 rfl) rfl rfl d0_9 rfl (W := 0) rfl ⟨by decide, by decide, rfl, rfl, by decide, by decide⟩ fun v19 h19 q19 => ?_
      obtain ⟨rfl, rfl⟩ := q19
      show Go B n0 _ h0 0 0 12 #[(.val (.int p)), (.val (.int r)), (.val (.int (1 : Int32))), (.val (.int (2 : Int32))), .unset, .unset, .unset, .unset, .unset] [(.ref ga4)]
      refine iAstore C d0_12 (Ls' := #[(.val (.int p)), (.val (.int r)), (.val (.int (1 : Int32))), (.val (.int (2 : Int32))), (.val (.ref ga4)), .unset, .unset, .unset, .unset]) rfl rfl ?_
      refine iIloadN C d0_14 rfl ?_
      refine iCallS C (rm1_2 hw G O) tw0 tw1 tw2 tw3 ⟨by decide, by decide⟩ (argsL := [(.int (2 : Int32))]) (S' := []) (lenOf pd0 rfl) rfl rfl d0_15 rfl (W := 0) rfl ⟨by decide, by decide, rfl, rfl, by decide, by decide⟩ fun v20 h20 q20 => ?_
      obtain ⟨rfl, rfl⟩ := q20
      show Go B n0 _ h0 0 0 18 #[(.val (.int p)), (.val (.int r)), (.val (.int (1 : Int32))), (.val (.int (2 : Int32))), (.val (.ref ga4)), .unset, .unset, .unset, .unset] [(.ref ga3)]
      refine iAstore C d0_18 (Ls' := #[(.val (.int p)), (.val (.int r)), (.val (.int (1 : Int32))), (.val (.int (2 : Int32))), (.val (.ref ga4)), (.val (.ref ga3)), .unset, .unset, .unset]) rfl rfl ?_
      refine iIloadN C d0_20 rfl ?_
      refine iIconst C d0_21 (v := (3 : Int32)) (by decide) ?_
      refine iCmpF C d0_22 (by decide) ?_
      refine iIconst C d0_25 (v := (1 : Int32)) (by decide) ?_
      refine iGoto C (t := 30) d0_26 ⟨by decide, by decide⟩ ?_
      refine iIstore C d0_30 (Ls' := #[(.val (.int p)), (.val (.int r)), (.val (.int (1 : Int32))), (.val (.int (2 : Int32))), (.val (.ref ga4)), (.val (.ref ga3)), (.val (.int (1 : Int32))), .unset, .unset]) rfl ?_
      refine iIloadN C d0_32 rfl ?_
      refine iIconst C d0_33 (v := (3 : Int32)) (by decide) ?_
      refine iCmpF C d0_34 (by decide) ?_
      refine iIconst C d0_37 (v := (1 : Int32)) (by decide) ?_
      refine iGoto C (t := 42) d0_38 ⟨by decide, by decide⟩ ?_
      refine iIstore C d0_42 (Ls' := #[(.val (.int p)), (.val (.int r)), (.val (.int (1 : Int32))), (.val (.int (2 : Int32))), (.val (.ref ga4)), (.val (.ref ga3)), (.val (.int (1 : Int32))), (.val (.int (1 : Int32))), .unset]) rfl ?_
      refine iIloadN C d0_44 rfl ?_
      refine iIloadN C d0_45 rfl ?_
      refine iCmpF C d0_46 (by decide) ?_
      refine iIload C d0_49 rfl ?_
      refine iIfF C d0_51 (by decide) ?_
      refine iIload C d0_54 rfl ?_
      refine iIfF C d0_56 (by decide) ?_
      refine iIconst C d0_59 (v := (1 : Int32)) (by decide) ?_
      refine iGoto C (t := 64) d0_60 ⟨by decide, by decide⟩ ?_
      refine iIstore C d0_64 (Ls' := #[(.val (.int p)), (.val (.int r)), (.val (.int (1 : Int32))), (.val (.int (2 : Int32))), (.val (.ref ga4)), (.val (.ref ga3)), (.val (.int (1 : Int32))), (.val (.int (1 : Int32))), (.val (.int (1 : Int32)))]) rfl ?_
      refine iAload C d0_66 rfl rfl ?_
      refine iAload C d0_68 rfl rfl ?_
      refine iCallV C (rm2_1_2 hw G O) (G.2.2.2.2.2.2.2.1.ext O.2) tw9 tw10 (Or.inl rfl) tw12 tw11 tw5 tw13 ⟨by decide, by decide⟩ (argsL := [(.ref ga3)]) (S' := []) (lenOf pd1 rfl) rfl rfl d0_70 rfl (W := 0) rfl ⟨by decide, by decide, rfl, rfl, by decide, by decide⟩ fun v21 h21 q21 => ?_
      obtain ⟨rfl, rfl⟩ := q21
      show Go B n0 _ h0 0 0 73 #[(.val (.int p)), (.val (.int r)), (.val (.int (1 : Int32))), (.val (.int (2 : Int32))), (.val (.ref ga4)), (.val (.ref ga3)), (.val (.int (1 : Int32))), (.val (.int (1 : Int32))), (.val (.int (1 : Int32)))] [(.int (1 : Int32))]
      refine iIload C d0_73 rfl ?_
      refine iCmpF C d0_75 (by decide) ?_
      refine iIconst C d0_78 (v := (1 : Int32)) (by decide) ?_
      refine iGoto C (t := 83) d0_79 ⟨by decide, by decide⟩ ?_
      refine iRetZ C d0_83 (by simp) ⟨by decide, by decide⟩ ?_
      exact rfl
    · rw [q]
      refine iIstoreN C d0_7 (Ls' := #[(.val (.int p)), (.val (.int r)), (.val (.int (1 : Int32))), (.val (.int (3 : Int32))), .unset, .unset, .unset, .unset, .unset]) rfl ?_
      refine iIloadN C d0_8 rfl ?_
      refine iCallS C (rm1_1 hw G O) tw0 tw1 tw2 tw3 ⟨by decide, by decide⟩ (argsL := [(.int (1 : Int32))]) (S' := []) (lenOf pd0 rfl) rfl rfl d0_9 rfl (W := 0) rfl ⟨by decide, by decide, rfl, rfl, by decide, by decide⟩ fun v22 h22 q22 => ?_
      obtain ⟨rfl, rfl⟩ := q22
      show Go B n0 _ h0 0 0 12 #[(.val (.int p)), (.val (.int r)), (.val (.int (1 : Int32))), (.val (.int (3 : Int32))), .unset, .unset, .unset, .unset, .unset] [(.ref ga4)]
      refine iAstore C d0_12 (Ls' := #[(.val (.int p)), (.val (.int r)), (.val (.int (1 : Int32))), (.val (.int (3 : Int32))), (.val (.ref ga4)), .unset, .unset, .unset, .unset]) rfl rfl ?_
      refine iIloadN C d0_14 rfl ?_
      refine iCallS C (rm1_3 hw G O) tw0 tw1 tw2 tw3 ⟨by decide, by decide⟩ (argsL := [(.int (3 : Int32))]) (S' := []) (lenOf pd0 rfl) rfl rfl d0_15 rfl (W := 0) rfl ⟨by decide, by decide, rfl, rfl, by decide, by decide⟩ fun v23 h23 q23 => ?_
      obtain ⟨rfl, rfl⟩ := q23
      show Go B n0 _ h0 0 0 18 #[(.val (.int p)), (.val (.int r)), (.val (.int (1 : Int32))), (.val (.int (3 : Int32))), (.val (.ref ga4)), .unset, .unset, .unset, .unset] [(.ref ga2)]
      refine iAstore C d0_18 (Ls' := #[(.val (.int p)), (.val (.int r)), (.val (.int (1 : Int32))), (.val (.int (3 : Int32))), (.val (.ref ga4)), (.val (.ref ga2)), .unset, .unset, .unset]) rfl rfl ?_
      refine iIloadN C d0_20 rfl ?_
      refine iIconst C d0_21 (v := (3 : Int32)) (by decide) ?_
      refine iCmpF C d0_22 (by decide) ?_
      refine iIconst C d0_25 (v := (1 : Int32)) (by decide) ?_
      refine iGoto C (t := 30) d0_26 ⟨by decide, by decide⟩ ?_
      refine iIstore C d0_30 (Ls' := #[(.val (.int p)), (.val (.int r)), (.val (.int (1 : Int32))), (.val (.int (3 : Int32))), (.val (.ref ga4)), (.val (.ref ga2)), (.val (.int (1 : Int32))), .unset, .unset]) rfl ?_
      refine iIloadN C d0_32 rfl ?_
      refine iIconst C d0_33 (v := (3 : Int32)) (by decide) ?_
      refine iCmpT C (t := 41) d0_34 (by decide) ⟨by decide, by decide⟩ ?_
      refine iIconst C d0_41 (v := (0 : Int32)) (by decide) ?_
      refine iIstore C d0_42 (Ls' := #[(.val (.int p)), (.val (.int r)), (.val (.int (1 : Int32))), (.val (.int (3 : Int32))), (.val (.ref ga4)), (.val (.ref ga2)), (.val (.int (1 : Int32))), (.val (.int (0 : Int32))), .unset]) rfl ?_
      refine iIloadN C d0_44 rfl ?_
      refine iIloadN C d0_45 rfl ?_
      refine iCmpF C d0_46 (by decide) ?_
      refine iIload C d0_49 rfl ?_
      refine iIfF C d0_51 (by decide) ?_
      refine iIload C d0_54 rfl ?_
      refine iIfT C (t := 63) d0_56 (by decide) ⟨by decide, by decide⟩ ?_
      refine iIconst C d0_63 (v := (0 : Int32)) (by decide) ?_
      refine iIstore C d0_64 (Ls' := #[(.val (.int p)), (.val (.int r)), (.val (.int (1 : Int32))), (.val (.int (3 : Int32))), (.val (.ref ga4)), (.val (.ref ga2)), (.val (.int (1 : Int32))), (.val (.int (0 : Int32))), (.val (.int (0 : Int32)))]) rfl ?_
      refine iAload C d0_66 rfl rfl ?_
      refine iAload C d0_68 rfl rfl ?_
      refine iCallV C (rm2_1_3 hw G O) (G.2.2.2.2.2.2.2.1.ext O.2) tw9 tw10 (Or.inl rfl) tw12 tw11 tw5 tw13 ⟨by decide, by decide⟩ (argsL := [(.ref ga2)]) (S' := []) (lenOf pd1 rfl) rfl rfl d0_70 rfl (W := 0) rfl ⟨by decide, by decide, rfl, rfl, by decide, by decide⟩ fun v24 h24 q24 => ?_
      obtain ⟨rfl, rfl⟩ := q24
      show Go B n0 _ h0 0 0 73 #[(.val (.int p)), (.val (.int r)), (.val (.int (1 : Int32))), (.val (.int (3 : Int32))), (.val (.ref ga4)), (.val (.ref ga2)), (.val (.int (1 : Int32))), (.val (.int (0 : Int32))), (.val (.int (0 : Int32)))] [(.int (0 : Int32))]
      refine iIload C d0_73 rfl ?_
      refine iCmpF C d0_75 (by decide) ?_
      refine iIconst C d0_78 (v := (1 : Int32)) (by decide) ?_
      refine iGoto C (t := 83) d0_79 ⟨by decide, by decide⟩ ?_
      refine iRetZ C d0_83 (by simp) ⟨by decide, by decide⟩ ?_
      exact rfl
  · rw [q]
    refine iIstoreN C d0_3 (Ls' := #[(.val (.int p)), (.val (.int r)), (.val (.int (2 : Int32))), .unset, .unset, .unset, .unset, .unset, .unset]) rfl ?_
    refine iIloadN C d0_4 rfl ?_
    refine iIconst C d0_5 (v := (3 : Int32)) (by decide) ?_
    refine iIand C d0_6 rfl ?_
    rcases own_four r with q | q | q | q
    · rw [q]
      refine iIstoreN C d0_7 (Ls' := #[(.val (.int p)), (.val (.int r)), (.val (.int (2 : Int32))), (.val (.int (0 : Int32))), .unset, .unset, .unset, .unset, .unset]) rfl ?_
      refine iIloadN C d0_8 rfl ?_
      refine iCallS C (rm1_2 hw G O) tw0 tw1 tw2 tw3 ⟨by decide, by decide⟩ (argsL := [(.int (2 : Int32))]) (S' := []) (lenOf pd0 rfl) rfl rfl d0_9 rfl (W := 0) rfl ⟨by decide, by decide, rfl, rfl, by decide, by decide⟩ fun v25 h25 q25 => ?_
      obtain ⟨rfl, rfl⟩ := q25
      show Go B n0 _ h0 0 0 12 #[(.val (.int p)), (.val (.int r)), (.val (.int (2 : Int32))), (.val (.int (0 : Int32))), .unset, .unset, .unset, .unset, .unset] [(.ref ga3)]
      refine iAstore C d0_12 (Ls' := #[(.val (.int p)), (.val (.int r)), (.val (.int (2 : Int32))), (.val (.int (0 : Int32))), (.val (.ref ga3)), .unset, .unset, .unset, .unset]) rfl rfl ?_
      refine iIloadN C d0_14 rfl ?_
      refine iCallS C (rm1_0 hw G O) tw0 tw1 tw2 tw3 ⟨by decide, by decide⟩ (argsL := [(.int (0 : Int32))]) (S' := []) (lenOf pd0 rfl) rfl rfl d0_15 rfl (W := 0) rfl ⟨by decide, by decide, rfl, rfl, by decide, by decide⟩ fun v26 h26 q26 => ?_
      obtain ⟨rfl, rfl⟩ := q26
      show Go B n0 _ h0 0 0 18 #[(.val (.int p)), (.val (.int r)), (.val (.int (2 : Int32))), (.val (.int (0 : Int32))), (.val (.ref ga3)), .unset, .unset, .unset, .unset] [(.ref ga1)]
      refine iAstore C d0_18 (Ls' := #[(.val (.int p)), (.val (.int r)), (.val (.int (2 : Int32))), (.val (.int (0 : Int32))), (.val (.ref ga3)), (.val (.ref ga1)), .unset, .unset, .unset]) rfl rfl ?_
      refine iIloadN C d0_20 rfl ?_
      refine iIconst C d0_21 (v := (3 : Int32)) (by decide) ?_
      refine iCmpF C d0_22 (by decide) ?_
      refine iIconst C d0_25 (v := (1 : Int32)) (by decide) ?_
      refine iGoto C (t := 30) d0_26 ⟨by decide, by decide⟩ ?_
      refine iIstore C d0_30 (Ls' := #[(.val (.int p)), (.val (.int r)), (.val (.int (2 : Int32))), (.val (.int (0 : Int32))), (.val (.ref ga3)), (.val (.ref ga1)), (.val (.int (1 : Int32))), .unset, .unset]) rfl ?_
      refine iIloadN C d0_32 rfl ?_
      refine iIconst C d0_33 (v := (3 : Int32)) (by decide) ?_
      refine iCmpF C d0_34 (by decide) ?_
      refine iIconst C d0_37 (v := (1 : Int32)) (by decide) ?_
      refine iGoto C (t := 42) d0_38 ⟨by decide, by decide⟩ ?_
      refine iIstore C d0_42 (Ls' := #[(.val (.int p)), (.val (.int r)), (.val (.int (2 : Int32))), (.val (.int (0 : Int32))), (.val (.ref ga3)), (.val (.ref ga1)), (.val (.int (1 : Int32))), (.val (.int (1 : Int32))), .unset]) rfl ?_
      refine iIloadN C d0_44 rfl ?_
      refine iIloadN C d0_45 rfl ?_
      refine iCmpF C d0_46 (by decide) ?_
      refine iIload C d0_49 rfl ?_
      refine iIfF C d0_51 (by decide) ?_
      refine iIload C d0_54 rfl ?_
      refine iIfF C d0_56 (by decide) ?_
      refine iIconst C d0_59 (v := (1 : Int32)) (by decide) ?_
      refine iGoto C (t := 64) d0_60 ⟨by decide, by decide⟩ ?_
      refine iIstore C d0_64 (Ls' := #[(.val (.int p)), (.val (.int r)), (.val (.int (2 : Int32))), (.val (.int (0 : Int32))), (.val (.ref ga3)), (.val (.ref ga1)), (.val (.int (1 : Int32))), (.val (.int (1 : Int32))), (.val (.int (1 : Int32)))]) rfl ?_
      refine iAload C d0_66 rfl rfl ?_
      refine iAload C d0_68 rfl rfl ?_
      refine iCallV C (rm2_2_0 hw G O) (G.2.2.2.2.2.1.ext O.2) tw9 tw10 (Or.inl rfl) tw12 tw11 tw5 tw13 ⟨by decide, by decide⟩ (argsL := [(.ref ga1)]) (S' := []) (lenOf pd1 rfl) rfl rfl d0_70 rfl (W := 0) rfl ⟨by decide, by decide, rfl, rfl, by decide, by decide⟩ fun v27 h27 q27 => ?_
      obtain ⟨rfl, rfl⟩ := q27
      show Go B n0 _ h0 0 0 73 #[(.val (.int p)), (.val (.int r)), (.val (.int (2 : Int32))), (.val (.int (0 : Int32))), (.val (.ref ga3)), (.val (.ref ga1)), (.val (.int (1 : Int32))), (.val (.int (1 : Int32))), (.val (.int (1 : Int32)))] [(.int (1 : Int32))]
      refine iIload C d0_73 rfl ?_
      refine iCmpF C d0_75 (by decide) ?_
      refine iIconst C d0_78 (v := (1 : Int32)) (by decide) ?_
      refine iGoto C (t := 83) d0_79 ⟨by decide, by decide⟩ ?_
      refine iRetZ C d0_83 (by simp) ⟨by decide, by decide⟩ ?_
      exact rfl
    · rw [q]
      refine iIstoreN C d0_7 (Ls' := #[(.val (.int p)), (.val (.int r)), (.val (.int (2 : Int32))), (.val (.int (1 : Int32))), .unset, .unset, .unset, .unset, .unset]) rfl ?_
      refine iIloadN C d0_8 rfl ?_
      refine iCallS C (rm1_2 hw G O) tw0 tw1 tw2 tw3 ⟨by decide, by decide⟩ (argsL := [(.int (2 : Int32))]) (S' := []) (lenOf pd0 rfl) rfl rfl d0_9 rfl (W := 0) rfl ⟨by decide, by decide, rfl, rfl, by decide, by decide⟩ fun v28 h28 q28 => ?_
      obtain ⟨rfl, rfl⟩ := q28
      show Go B n0 _ h0 0 0 12 #[(.val (.int p)), (.val (.int r)), (.val (.int (2 : Int32))), (.val (.int (1 : Int32))), .unset, .unset, .unset, .unset, .unset] [(.ref ga3)]
      refine iAstore C d0_12 (Ls' := #[(.val (.int p)), (.val (.int r)), (.val (.int (2 : Int32))), (.val (.int (1 : Int32))), (.val (.ref ga3)), .unset, .unset, .unset, .unset]) rfl rfl ?_
      refine iIloadN C d0_14 rfl ?_
      refine iCallS C (rm1_1 hw G O) tw0 tw1 tw2 tw3 ⟨by decide, by decide⟩ (argsL := [(.int (1 : Int32))]) (S' := []) (lenOf pd0 rfl) rfl rfl d0_15 rfl (W := 0) rfl ⟨by decide, by decide, rfl, rfl, by decide, by decide⟩ fun v29 h29 q29 => ?_
      obtain ⟨rfl, rfl⟩ := q29
      show Go B n0 _ h0 0 0 18 #[(.val (.int p)), (.val (.int r)), (.val (.int (2 : Int32))), (.val (.int (1 : Int32))), (.val (.ref ga3)), .unset, .unset, .unset, .unset] [(.ref ga4)]
      refine iAstore C d0_18 (Ls' := #[(.val (.int p)), (.val (.int r)), (.val (.int (2 : Int32))), (.val (.int (1 : Int32))), (.val (.ref ga3)), (.val (.ref ga4)), .unset, .unset, .unset]) rfl rfl ?_
      refine iIloadN C d0_20 rfl ?_
      refine iIconst C d0_21 (v := (3 : Int32)) (by decide) ?_
      refine iCmpF C d0_22 (by decide) ?_
      refine iIconst C d0_25 (v := (1 : Int32)) (by decide) ?_
      refine iGoto C (t := 30) d0_26 ⟨by decide, by decide⟩ ?_
      refine iIstore C d0_30 (Ls' := #[(.val (.int p)), (.val (.int r)), (.val (.int (2 : Int32))), (.val (.int (1 : Int32))), (.val (.ref ga3)), (.val (.ref ga4)), (.val (.int (1 : Int32))), .unset, .unset]) rfl ?_
      refine iIloadN C d0_32 rfl ?_
      refine iIconst C d0_33 (v := (3 : Int32)) (by decide) ?_
      refine iCmpF C d0_34 (by decide) ?_
      refine iIconst C d0_37 (v := (1 : Int32)) (by decide) ?_
      refine iGoto C (t := 42) d0_38 ⟨by decide, by decide⟩ ?_
      refine iIstore C d0_42 (Ls' := #[(.val (.int p)), (.val (.int r)), (.val (.int (2 : Int32))), (.val (.int (1 : Int32))), (.val (.ref ga3)), (.val (.ref ga4)), (.val (.int (1 : Int32))), (.val (.int (1 : Int32))), .unset]) rfl ?_
      refine iIloadN C d0_44 rfl ?_
      refine iIloadN C d0_45 rfl ?_
      refine iCmpF C d0_46 (by decide) ?_
      refine iIload C d0_49 rfl ?_
      refine iIfF C d0_51 (by decide) ?_
      refine iIload C d0_54 rfl ?_
      refine iIfF C d0_56 (by decide) ?_
      refine iIconst C d0_59 (v := (1 : Int32)) (by decide) ?_
      refine iGoto C (t := 64) d0_60 ⟨by decide, by decide⟩ ?_
      refine iIstore C d0_64 (Ls' := #[(.val (.int p)), (.val (.int r)), (.val (.int (2 : Int32))), (.val (.int (1 : Int32))), (.val (.ref ga3)), (.val (.ref ga4)), (.val (.int (1 : Int32))), (.val (.int (1 : Int32))), (.val (.int (1 : Int32)))]) rfl ?_
      refine iAload C d0_66 rfl rfl ?_
      refine iAload C d0_68 rfl rfl ?_
      refine iCallV C (rm2_2_1 hw G O) (G.2.2.2.2.2.1.ext O.2) tw9 tw10 (Or.inl rfl) tw12 tw11 tw5 tw13 ⟨by decide, by decide⟩ (argsL := [(.ref ga4)]) (S' := []) (lenOf pd1 rfl) rfl rfl d0_70 rfl (W := 0) rfl ⟨by decide, by decide, rfl, rfl, by decide, by decide⟩ fun v30 h30 q30 => ?_
      obtain ⟨rfl, rfl⟩ := q30
      show Go B n0 _ h0 0 0 73 #[(.val (.int p)), (.val (.int r)), (.val (.int (2 : Int32))), (.val (.int (1 : Int32))), (.val (.ref ga3)), (.val (.ref ga4)), (.val (.int (1 : Int32))), (.val (.int (1 : Int32))), (.val (.int (1 : Int32)))] [(.int (1 : Int32))]
      refine iIload C d0_73 rfl ?_
      refine iCmpF C d0_75 (by decide) ?_
      refine iIconst C d0_78 (v := (1 : Int32)) (by decide) ?_
      refine iGoto C (t := 83) d0_79 ⟨by decide, by decide⟩ ?_
      refine iRetZ C d0_83 (by simp) ⟨by decide, by decide⟩ ?_
      exact rfl
    · rw [q]
      refine iIstoreN C d0_7 (Ls' := #[(.val (.int p)), (.val (.int r)), (.val (.int (2 : Int32))), (.val (.int (2 : Int32))), .unset, .unset, .unset, .unset, .unset]) rfl ?_
      refine iIloadN C d0_8 rfl ?_
      refine iCallS C (rm1_2 hw G O) tw0 tw1 tw2 tw3 ⟨by decide, by decide⟩ (argsL := [(.int (2 : Int32))]) (S' := []) (lenOf pd0 rfl) rfl rfl d0_9 rfl (W := 0) rfl ⟨by decide, by decide, rfl, rfl, by decide, by decide⟩ fun v31 h31 q31 => ?_
      obtain ⟨rfl, rfl⟩ := q31
      show Go B n0 _ h0 0 0 12 #[(.val (.int p)), (.val (.int r)), (.val (.int (2 : Int32))), (.val (.int (2 : Int32))), .unset, .unset, .unset, .unset, .unset] [(.ref ga3)]
      refine iAstore C d0_12 (Ls' := #[(.val (.int p)), (.val (.int r)), (.val (.int (2 : Int32))), (.val (.int (2 : Int32))), (.val (.ref ga3)), .unset, .unset, .unset, .unset]) rfl rfl ?_
      refine iIloadN C d0_14 rfl ?_
      refine iCallS C (rm1_2 hw G O) tw0 tw1 tw2 tw3 ⟨by decide, by decide⟩ (argsL := [(.int (2 : Int32))]) (S' := []) (lenOf pd0 rfl) rfl rfl d0_15 rfl (W := 0) rfl ⟨by decide, by decide, rfl, rfl, by decide, by decide⟩ fun v32 h32 q32 => ?_
      obtain ⟨rfl, rfl⟩ := q32
      show Go B n0 _ h0 0 0 18 #[(.val (.int p)), (.val (.int r)), (.val (.int (2 : Int32))), (.val (.int (2 : Int32))), (.val (.ref ga3)), .unset, .unset, .unset, .unset] [(.ref ga3)]
      refine iAstore C d0_18 (Ls' := #[(.val (.int p)), (.val (.int r)), (.val (.int (2 : Int32))), (.val (.int (2 : Int32))), (.val (.ref ga3)), (.val (.ref ga3)), .unset, .unset, .unset]) rfl rfl ?_
      refine iIloadN C d0_20 rfl ?_
      refine iIconst C d0_21 (v := (3 : Int32)) (by decide) ?_
      refine iCmpF C d0_22 (by decide) ?_
      refine iIconst C d0_25 (v := (1 : Int32)) (by decide) ?_
      refine iGoto C (t := 30) d0_26 ⟨by decide, by decide⟩ ?_
      refine iIstore C d0_30 (Ls' := #[(.val (.int p)), (.val (.int r)), (.val (.int (2 : Int32))), (.val (.int (2 : Int32))), (.val (.ref ga3)), (.val (.ref ga3)), (.val (.int (1 : Int32))), .unset, .unset]) rfl ?_
      refine iIloadN C d0_32 rfl ?_
      refine iIconst C d0_33 (v := (3 : Int32)) (by decide) ?_
      refine iCmpF C d0_34 (by decide) ?_
      refine iIconst C d0_37 (v := (1 : Int32)) (by decide) ?_
      refine iGoto C (t := 42) d0_38 ⟨by decide, by decide⟩ ?_
      refine iIstore C d0_42 (Ls' := #[(.val (.int p)), (.val (.int r)), (.val (.int (2 : Int32))), (.val (.int (2 : Int32))), (.val (.ref ga3)), (.val (.ref ga3)), (.val (.int (1 : Int32))), (.val (.int (1 : Int32))), .unset]) rfl ?_
      refine iIloadN C d0_44 rfl ?_
      refine iIloadN C d0_45 rfl ?_
      refine iCmpT C (t := 59) d0_46 (by decide) ⟨by decide, by decide⟩ ?_
      refine iIconst C d0_59 (v := (1 : Int32)) (by decide) ?_
      refine iGoto C (t := 64) d0_60 ⟨by decide, by decide⟩ ?_
      refine iIstore C d0_64 (Ls' := #[(.val (.int p)), (.val (.int r)), (.val (.int (2 : Int32))), (.val (.int (2 : Int32))), (.val (.ref ga3)), (.val (.ref ga3)), (.val (.int (1 : Int32))), (.val (.int (1 : Int32))), (.val (.int (1 : Int32)))]) rfl ?_
      refine iAload C d0_66 rfl rfl ?_
      refine iAload C d0_68 rfl rfl ?_
      refine iCallV C (rm2_2_2 hw G O) (G.2.2.2.2.2.1.ext O.2) tw9 tw10 (Or.inl rfl) tw12 tw11 tw5 tw13 ⟨by decide, by decide⟩ (argsL := [(.ref ga3)]) (S' := []) (lenOf pd1 rfl) rfl rfl d0_70 rfl (W := 0) rfl ⟨by decide, by decide, rfl, rfl, by decide, by decide⟩ fun v33 h33 q33 => ?_
      obtain ⟨rfl, rfl⟩ := q33
      show Go B n0 _ h0 0 0 73 #[(.val (.int p)), (.val (.int r)), (.val (.int (2 : Int32))), (.val (.int (2 : Int32))), (.val (.ref ga3)), (.val (.ref ga3)), (.val (.int (1 : Int32))), (.val (.int (1 : Int32))), (.val (.int (1 : Int32)))] [(.int (1 : Int32))]
      refine iIload C d0_73 rfl ?_
      refine iCmpF C d0_75 (by decide) ?_
      refine iIconst C d0_78 (v := (1 : Int32)) (by decide) ?_
      refine iGoto C (t := 83) d0_79 ⟨by decide, by decide⟩ ?_
      refine iRetZ C d0_83 (by simp) ⟨by decide, by decide⟩ ?_
      exact rfl
    · rw [q]
      refine iIstoreN C d0_7 (Ls' := #[(.val (.int p)), (.val (.int r)), (.val (.int (2 : Int32))), (.val (.int (3 : Int32))), .unset, .unset, .unset, .unset, .unset]) rfl ?_
      refine iIloadN C d0_8 rfl ?_
      refine iCallS C (rm1_2 hw G O) tw0 tw1 tw2 tw3 ⟨by decide, by decide⟩ (argsL := [(.int (2 : Int32))]) (S' := []) (lenOf pd0 rfl) rfl rfl d0_9 rfl (W := 0) rfl ⟨by decide, by decide, rfl, rfl, by decide, by decide⟩ fun v34 h34 q34 => ?_
      obtain ⟨rfl, rfl⟩ := q34
      show Go B n0 _ h0 0 0 12 #[(.val (.int p)), (.val (.int r)), (.val (.int (2 : Int32))), (.val (.int (3 : Int32))), .unset, .unset, .unset, .unset, .unset] [(.ref ga3)]
      refine iAstore C d0_12 (Ls' := #[(.val (.int p)), (.val (.int r)), (.val (.int (2 : Int32))), (.val (.int (3 : Int32))), (.val (.ref ga3)), .unset, .unset, .unset, .unset]) rfl rfl ?_
      refine iIloadN C d0_14 rfl ?_
      refine iCallS C (rm1_3 hw G O) tw0 tw1 tw2 tw3 ⟨by decide, by decide⟩ (argsL := [(.int (3 : Int32))]) (S' := []) (lenOf pd0 rfl) rfl rfl d0_15 rfl (W := 0) rfl ⟨by decide, by decide, rfl, rfl, by decide, by decide⟩ fun v35 h35 q35 => ?_
      obtain ⟨rfl, rfl⟩ := q35
      show Go B n0 _ h0 0 0 18 #[(.val (.int p)), (.val (.int r)), (.val (.int (2 : Int32))), (.val (.int (3 : Int32))), (.val (.ref ga3)), .unset, .unset, .unset, .unset] [(.ref ga2)]
      refine iAstore C d0_18 (Ls' := #[(.val (.int p)), (.val (.int r)), (.val (.int (2 : Int32))), (.val (.int (3 : Int32))), (.val (.ref ga3)), (.val (.ref ga2)), .unset, .unset, .unset]) rfl rfl ?_
      refine iIloadN C d0_20 rfl ?_
      refine iIconst C d0_21 (v := (3 : Int32)) (by decide) ?_
      refine iCmpF C d0_22 (by decide) ?_
      refine iIconst C d0_25 (v := (1 : Int32)) (by decide) ?_
      refine iGoto C (t := 30) d0_26 ⟨by decide, by decide⟩ ?_
      refine iIstore C d0_30 (Ls' := #[(.val (.int p)), (.val (.int r)), (.val (.int (2 : Int32))), (.val (.int (3 : Int32))), (.val (.ref ga3)), (.val (.ref ga2)), (.val (.int (1 : Int32))), .unset, .unset]) rfl ?_
      refine iIloadN C d0_32 rfl ?_
      refine iIconst C d0_33 (v := (3 : Int32)) (by decide) ?_
      refine iCmpT C (t := 41) d0_34 (by decide) ⟨by decide, by decide⟩ ?_
      refine iIconst C d0_41 (v := (0 : Int32)) (by decide) ?_
      refine iIstore C d0_42 (Ls' := #[(.val (.int p)), (.val (.int r)), (.val (.int (2 : Int32))), (.val (.int (3 : Int32))), (.val (.ref ga3)), (.val (.ref ga2)), (.val (.int (1 : Int32))), (.val (.int (0 : Int32))), .unset]) rfl ?_
      refine iIloadN C d0_44 rfl ?_
      refine iIloadN C d0_45 rfl ?_
      refine iCmpF C d0_46 (by decide) ?_
      refine iIload C d0_49 rfl ?_
      refine iIfF C d0_51 (by decide) ?_
      refine iIload C d0_54 rfl ?_
      refine iIfT C (t := 63) d0_56 (by decide) ⟨by decide, by decide⟩ ?_
      refine iIconst C d0_63 (v := (0 : Int32)) (by decide) ?_
      refine iIstore C d0_64 (Ls' := #[(.val (.int p)), (.val (.int r)), (.val (.int (2 : Int32))), (.val (.int (3 : Int32))), (.val (.ref ga3)), (.val (.ref ga2)), (.val (.int (1 : Int32))), (.val (.int (0 : Int32))), (.val (.int (0 : Int32)))]) rfl ?_
      refine iAload C d0_66 rfl rfl ?_
      refine iAload C d0_68 rfl rfl ?_
      refine iCallV C (rm2_2_3 hw G O) (G.2.2.2.2.2.1.ext O.2) tw9 tw10 (Or.inl rfl) tw12 tw11 tw5 tw13 ⟨by decide, by decide⟩ (argsL := [(.ref ga2)]) (S' := []) (lenOf pd1 rfl) rfl rfl d0_70 rfl (W := 0) rfl ⟨by decide, by decide, rfl, rfl, by decide, by decide⟩ fun v36 h36 q36 => ?_
      obtain ⟨rfl, rfl⟩ := q36
      show Go B n0 _ h0 0 0 73 #[(.val (.int p)), (.val (.int r)), (.val (.int (2 : Int32))), (.val (.int (3 : Int32))), (.val (.ref ga3)), (.val (.ref ga2)), (.val (.int (1 : Int32))), (.val (.int (0 : Int32))), (.val (.int (0 : Int32)))] [(.int (0 : Int32))]
      refine iIload C d0_73 rfl ?_
      refine iCmpF C d0_75 (by decide) ?_
      refine iIconst C d0_78 (v := (1 : Int32)) (by decide) ?_
      refine iGoto C (t := 83) d0_79 ⟨by decide, by decide⟩ ?_
      refine iRetZ C d0_83 (by simp) ⟨by decide, by decide⟩ ?_
      exact rfl
  · rw [q]
    refine iIstoreN C d0_3 (Ls' := #[(.val (.int p)), (.val (.int r)), (.val (.int (3 : Int32))), .unset, .unset, .unset, .unset, .unset, .unset]) rfl ?_
    refine iIloadN C d0_4 rfl ?_
    refine iIconst C d0_5 (v := (3 : Int32)) (by decide) ?_
    refine iIand C d0_6 rfl ?_
    rcases own_four r with q | q | q | q
    · rw [q]
      refine iIstoreN C d0_7 (Ls' := #[(.val (.int p)), (.val (.int r)), (.val (.int (3 : Int32))), (.val (.int (0 : Int32))), .unset, .unset, .unset, .unset, .unset]) rfl ?_
      refine iIloadN C d0_8 rfl ?_
      refine iCallS C (rm1_3 hw G O) tw0 tw1 tw2 tw3 ⟨by decide, by decide⟩ (argsL := [(.int (3 : Int32))]) (S' := []) (lenOf pd0 rfl) rfl rfl d0_9 rfl (W := 0) rfl ⟨by decide, by decide, rfl, rfl, by decide, by decide⟩ fun v37 h37 q37 => ?_
      obtain ⟨rfl, rfl⟩ := q37
      show Go B n0 _ h0 0 0 12 #[(.val (.int p)), (.val (.int r)), (.val (.int (3 : Int32))), (.val (.int (0 : Int32))), .unset, .unset, .unset, .unset, .unset] [(.ref ga2)]
      refine iAstore C d0_12 (Ls' := #[(.val (.int p)), (.val (.int r)), (.val (.int (3 : Int32))), (.val (.int (0 : Int32))), (.val (.ref ga2)), .unset, .unset, .unset, .unset]) rfl rfl ?_
      refine iIloadN C d0_14 rfl ?_
      refine iCallS C (rm1_0 hw G O) tw0 tw1 tw2 tw3 ⟨by decide, by decide⟩ (argsL := [(.int (0 : Int32))]) (S' := []) (lenOf pd0 rfl) rfl rfl d0_15 rfl (W := 0) rfl ⟨by decide, by decide, rfl, rfl, by decide, by decide⟩ fun v38 h38 q38 => ?_
      obtain ⟨rfl, rfl⟩ := q38
      show Go B n0 _ h0 0 0 18 #[(.val (.int p)), (.val (.int r)), (.val (.int (3 : Int32))), (.val (.int (0 : Int32))), (.val (.ref ga2)), .unset, .unset, .unset, .unset] [(.ref ga1)]
      refine iAstore C d0_18 (Ls' := #[(.val (.int p)), (.val (.int r)), (.val (.int (3 : Int32))), (.val (.int (0 : Int32))), (.val (.ref ga2)), (.val (.ref ga1)), .unset, .unset, .unset]) rfl rfl ?_
      refine iIloadN C d0_20 rfl ?_
      refine iIconst C d0_21 (v := (3 : Int32)) (by decide) ?_
      refine iCmpT C (t := 29) d0_22 (by decide) ⟨by decide, by decide⟩ ?_
      refine iIconst C d0_29 (v := (0 : Int32)) (by decide) ?_
      refine iIstore C d0_30 (Ls' := #[(.val (.int p)), (.val (.int r)), (.val (.int (3 : Int32))), (.val (.int (0 : Int32))), (.val (.ref ga2)), (.val (.ref ga1)), (.val (.int (0 : Int32))), .unset, .unset]) rfl ?_
      refine iIloadN C d0_32 rfl ?_
      refine iIconst C d0_33 (v := (3 : Int32)) (by decide) ?_
      refine iCmpF C d0_34 (by decide) ?_
      refine iIconst C d0_37 (v := (1 : Int32)) (by decide) ?_
      refine iGoto C (t := 42) d0_38 ⟨by decide, by decide⟩ ?_
      refine iIstore C d0_42 (Ls' := #[(.val (.int p)), (.val (.int r)), (.val (.int (3 : Int32))), (.val (.int (0 : Int32))), (.val (.ref ga2)), (.val (.ref ga1)), (.val (.int (0 : Int32))), (.val (.int (1 : Int32))), .unset]) rfl ?_
      refine iIloadN C d0_44 rfl ?_
      refine iIloadN C d0_45 rfl ?_
      refine iCmpF C d0_46 (by decide) ?_
      refine iIload C d0_49 rfl ?_
      refine iIfT C (t := 63) d0_51 (by decide) ⟨by decide, by decide⟩ ?_
      refine iIconst C d0_63 (v := (0 : Int32)) (by decide) ?_
      refine iIstore C d0_64 (Ls' := #[(.val (.int p)), (.val (.int r)), (.val (.int (3 : Int32))), (.val (.int (0 : Int32))), (.val (.ref ga2)), (.val (.ref ga1)), (.val (.int (0 : Int32))), (.val (.int (1 : Int32))), (.val (.int (0 : Int32)))]) rfl ?_
      refine iAload C d0_66 rfl rfl ?_
      refine iAload C d0_68 rfl rfl ?_
      refine iCallV C (rm2_3_0 hw G O) (G.2.2.2.1.ext O.2) tw9 tw10 (Or.inl rfl) tw12 tw11 tw5 tw13 ⟨by decide, by decide⟩ (argsL := [(.ref ga1)]) (S' := []) (lenOf pd1 rfl) rfl rfl d0_70 rfl (W := 0) rfl ⟨by decide, by decide, rfl, rfl, by decide, by decide⟩ fun v39 h39 q39 => ?_
      obtain ⟨rfl, rfl⟩ := q39
      show Go B n0 _ h0 0 0 73 #[(.val (.int p)), (.val (.int r)), (.val (.int (3 : Int32))), (.val (.int (0 : Int32))), (.val (.ref ga2)), (.val (.ref ga1)), (.val (.int (0 : Int32))), (.val (.int (1 : Int32))), (.val (.int (0 : Int32)))] [(.int (0 : Int32))]
      refine iIload C d0_73 rfl ?_
      refine iCmpF C d0_75 (by decide) ?_
      refine iIconst C d0_78 (v := (1 : Int32)) (by decide) ?_
      refine iGoto C (t := 83) d0_79 ⟨by decide, by decide⟩ ?_
      refine iRetZ C d0_83 (by simp) ⟨by decide, by decide⟩ ?_
      exact rfl
    · rw [q]
      refine iIstoreN C d0_7 (Ls' := #[(.val (.int p)), (.val (.int r)), (.val (.int (3 : Int32))), (.val (.int (1 : Int32))), .unset, .unset, .unset, .unset, .unset]) rfl ?_
      refine iIloadN C d0_8 rfl ?_
      refine iCallS C (rm1_3 hw G O) tw0 tw1 tw2 tw3 ⟨by decide, by decide⟩ (argsL := [(.int (3 : Int32))]) (S' := []) (lenOf pd0 rfl) rfl rfl d0_9 rfl (W := 0) rfl ⟨by decide, by decide, rfl, rfl, by decide, by decide⟩ fun v40 h40 q40 => ?_
      obtain ⟨rfl, rfl⟩ := q40
      show Go B n0 _ h0 0 0 12 #[(.val (.int p)), (.val (.int r)), (.val (.int (3 : Int32))), (.val (.int (1 : Int32))), .unset, .unset, .unset, .unset, .unset] [(.ref ga2)]
      refine iAstore C d0_12 (Ls' := #[(.val (.int p)), (.val (.int r)), (.val (.int (3 : Int32))), (.val (.int (1 : Int32))), (.val (.ref ga2)), .unset, .unset, .unset, .unset]) rfl rfl ?_
      refine iIloadN C d0_14 rfl ?_
      refine iCallS C (rm1_1 hw G O) tw0 tw1 tw2 tw3 ⟨by decide, by decide⟩ (argsL := [(.int (1 : Int32))]) (S' := []) (lenOf pd0 rfl) rfl rfl d0_15 rfl (W := 0) rfl ⟨by decide, by decide, rfl, rfl, by decide, by decide⟩ fun v41 h41 q41 => ?_
      obtain ⟨rfl, rfl⟩ := q41
      show Go B n0 _ h0 0 0 18 #[(.val (.int p)), (.val (.int r)), (.val (.int (3 : Int32))), (.val (.int (1 : Int32))), (.val (.ref ga2)), .unset, .unset, .unset, .unset] [(.ref ga4)]
      refine iAstore C d0_18 (Ls' := #[(.val (.int p)), (.val (.int r)), (.val (.int (3 : Int32))), (.val (.int (1 : Int32))), (.val (.ref ga2)), (.val (.ref ga4)), .unset, .unset, .unset]) rfl rfl ?_
      refine iIloadN C d0_20 rfl ?_
      refine iIconst C d0_21 (v := (3 : Int32)) (by decide) ?_
      refine iCmpT C (t := 29) d0_22 (by decide) ⟨by decide, by decide⟩ ?_
      refine iIconst C d0_29 (v := (0 : Int32)) (by decide) ?_
      refine iIstore C d0_30 (Ls' := #[(.val (.int p)), (.val (.int r)), (.val (.int (3 : Int32))), (.val (.int (1 : Int32))), (.val (.ref ga2)), (.val (.ref ga4)), (.val (.int (0 : Int32))), .unset, .unset]) rfl ?_
      refine iIloadN C d0_32 rfl ?_
      refine iIconst C d0_33 (v := (3 : Int32)) (by decide) ?_
      refine iCmpF C d0_34 (by decide) ?_
      refine iIconst C d0_37 (v := (1 : Int32)) (by decide) ?_
      refine iGoto C (t := 42) d0_38 ⟨by decide, by decide⟩ ?_
      refine iIstore C d0_42 (Ls' := #[(.val (.int p)), (.val (.int r)), (.val (.int (3 : Int32))), (.val (.int (1 : Int32))), (.val (.ref ga2)), (.val (.ref ga4)), (.val (.int (0 : Int32))), (.val (.int (1 : Int32))), .unset]) rfl ?_
      refine iIloadN C d0_44 rfl ?_
      refine iIloadN C d0_45 rfl ?_
      refine iCmpF C d0_46 (by decide) ?_
      refine iIload C d0_49 rfl ?_
      refine iIfT C (t := 63) d0_51 (by decide) ⟨by decide, by decide⟩ ?_
      refine iIconst C d0_63 (v := (0 : Int32)) (by decide) ?_
      refine iIstore C d0_64 (Ls' := #[(.val (.int p)), (.val (.int r)), (.val (.int (3 : Int32))), (.val (.int (1 : Int32))), (.val (.ref ga2)), (.val (.ref ga4)), (.val (.int (0 : Int32))), (.val (.int (1 : Int32))), (.val (.int (0 : Int32)))]) rfl ?_
      refine iAload C d0_66 rfl rfl ?_
      refine iAload C d0_68 rfl rfl ?_
      refine iCallV C (rm2_3_1 hw G O) (G.2.2.2.1.ext O.2) tw9 tw10 (Or.inl rfl) tw12 tw11 tw5 tw13 ⟨by decide, by decide⟩ (argsL := [(.ref ga4)]) (S' := []) (lenOf pd1 rfl) rfl rfl d0_70 rfl (W := 0) rfl ⟨by decide, by decide, rfl, rfl, by decide, by decide⟩ fun v42 h42 q42 => ?_
      obtain ⟨rfl, rfl⟩ := q42
      show Go B n0 _ h0 0 0 73 #[(.val (.int p)), (.val (.int r)), (.val (.int (3 : Int32))), (.val (.int (1 : Int32))), (.val (.ref ga2)), (.val (.ref ga4)), (.val (.int (0 : Int32))), (.val (.int (1 : Int32))), (.val (.int (0 : Int32)))] [(.int (0 : Int32))]
      refine iIload C d0_73 rfl ?_
      refine iCmpF C d0_75 (by decide) ?_
      refine iIconst C d0_78 (v := (1 : Int32)) (by decide) ?_
      refine iGoto C (t := 83) d0_79 ⟨by decide, by decide⟩ ?_
      refine iRetZ C d0_83 (by simp) ⟨by decide, by decide⟩ ?_
      exact rfl
    · rw [q]
      refine iIstoreN C d0_7 (Ls' := #[(.val (.int p)), (.val (.int r)), (.val (.int (3 : Int32))), (.val (.int (2 : Int32))), .unset, .unset, .unset, .unset, .unset]) rfl ?_
      refine iIloadN C d0_8 rfl ?_
      refine iCallS C (rm1_3 hw G O) tw0 tw1 tw2 tw3 ⟨by decide, by decide⟩ (argsL := [(.int (3 : Int32))]) (S' := []) (lenOf pd0 rfl) rfl rfl d0_9 rfl (W := 0) rfl ⟨by decide, by decide, rfl, rfl, by decide, by decide⟩ fun v43 h43 q43 => ?_
      obtain ⟨rfl, rfl⟩ := q43
      show Go B n0 _ h0 0 0 12 #[(.val (.int p)), (.val (.int r)), (.val (.int (3 : Int32))), (.val (.int (2 : Int32))), .unset, .unset, .unset, .unset, .unset] [(.ref ga2)]
      refine iAstore C d0_12 (Ls' := #[(.val (.int p)), (.val (.int r)), (.val (.int (3 : Int32))), (.val (.int (2 : Int32))), (.val (.ref ga2)), .unset, .unset, .unset, .unset]) rfl rfl ?_
      refine iIloadN C d0_14 rfl ?_
      refine iCallS C (rm1_2 hw G O) tw0 tw1 tw2 tw3 ⟨by decide, by decide⟩ (argsL := [(.int (2 : Int32))]) (S' := []) (lenOf pd0 rfl) rfl rfl d0_15 rfl (W := 0) rfl ⟨by decide, by decide, rfl, rfl, by decide, by decide⟩ fun v44 h44 q44 => ?_
      obtain ⟨rfl, rfl⟩ := q44
      show Go B n0 _ h0 0 0 18 #[(.val (.int p)), (.val (.int r)), (.val (.int (3 : Int32))), (.val (.int (2 : Int32))), (.val (.ref ga2)), .unset, .unset, .unset, .unset] [(.ref ga3)]
      refine iAstore C d0_18 (Ls' := #[(.val (.int p)), (.val (.int r)), (.val (.int (3 : Int32))), (.val (.int (2 : Int32))), (.val (.ref ga2)), (.val (.ref ga3)), .unset, .unset, .unset]) rfl rfl ?_
      refine iIloadN C d0_20 rfl ?_
      refine iIconst C d0_21 (v := (3 : Int32)) (by decide) ?_
      refine iCmpT C (t := 29) d0_22 (by decide) ⟨by decide, by decide⟩ ?_
      refine iIconst C d0_29 (v := (0 : Int32)) (by decide) ?_
      refine iIstore C d0_30 (Ls' := #[(.val (.int p)), (.val (.int r)), (.val (.int (3 : Int32))), (.val (.int (2 : Int32))), (.val (.ref ga2)), (.val (.ref ga3)), (.val (.int (0 : Int32))), .unset, .unset]) rfl ?_
      refine iIloadN C d0_32 rfl ?_
      refine iIconst C d0_33 (v := (3 : Int32)) (by decide) ?_
      refine iCmpF C d0_34 (by decide) ?_
      refine iIconst C d0_37 (v := (1 : Int32)) (by decide) ?_
      refine iGoto C (t := 42) d0_38 ⟨by decide, by decide⟩ ?_
      refine iIstore C d0_42 (Ls' := #[(.val (.int p)), (.val (.int r)), (.val (.int (3 : Int32))), (.val (.int (2 : Int32))), (.val (.ref ga2)), (.val (.ref ga3)), (.val (.int (0 : Int32))), (.val (.int (1 : Int32))), .unset]) rfl ?_
      refine iIloadN C d0_44 rfl ?_
      refine iIloadN C d0_45 rfl ?_
      refine iCmpF C d0_46 (by decide) ?_
      refine iIload C d0_49 rfl ?_
      refine iIfT C (t := 63) d0_51 (by decide) ⟨by decide, by decide⟩ ?_
      refine iIconst C d0_63 (v := (0 : Int32)) (by decide) ?_
      refine iIstore C d0_64 (Ls' := #[(.val (.int p)), (.val (.int r)), (.val (.int (3 : Int32))), (.val (.int (2 : Int32))), (.val (.ref ga2)), (.val (.ref ga3)), (.val (.int (0 : Int32))), (.val (.int (1 : Int32))), (.val (.int (0 : Int32)))]) rfl ?_
      refine iAload C d0_66 rfl rfl ?_
      refine iAload C d0_68 rfl rfl ?_
      refine iCallV C (rm2_3_2 hw G O) (G.2.2.2.1.ext O.2) tw9 tw10 (Or.inl rfl) tw12 tw11 tw5 tw13 ⟨by decide, by decide⟩ (argsL := [(.ref ga3)]) (S' := []) (lenOf pd1 rfl) rfl rfl d0_70 rfl (W := 0) rfl ⟨by decide, by decide, rfl, rfl, by decide, by decide⟩ fun v45 h45 q45 => ?_
      obtain ⟨rfl, rfl⟩ := q45
      show Go B n0 _ h0 0 0 73 #[(.val (.int p)), (.val (.int r)), (.val (.int (3 : Int32))), (.val (.int (2 : Int32))), (.val (.ref ga2)), (.val (.ref ga3)), (.val (.int (0 : Int32))), (.val (.int (1 : Int32))), (.val (.int (0 : Int32)))] [(.int (0 : Int32))]
      refine iIload C d0_73 rfl ?_
      refine iCmpF C d0_75 (by decide) ?_
      refine iIconst C d0_78 (v := (1 : Int32)) (by decide) ?_
      refine iGoto C (t := 83) d0_79 ⟨by decide, by decide⟩ ?_
      refine iRetZ C d0_83 (by simp) ⟨by decide, by decide⟩ ?_
      exact rfl
    · rw [q]
      refine iIstoreN C d0_7 (Ls' := #[(.val (.int p)), (.val (.int r)), (.val (.int (3 : Int32))), (.val (.int (3 : Int32))), .unset, .unset, .unset, .unset, .unset]) rfl ?_
      refine iIloadN C d0_8 rfl ?_
      refine iCallS C (rm1_3 hw G O) tw0 tw1 tw2 tw3 ⟨by decide, by decide⟩ (argsL := [(.int (3 : Int32))]) (S' := []) (lenOf pd0 rfl) rfl rfl d0_9 rfl (W := 0) rfl ⟨by decide, by decide, rfl, rfl, by decide, by decide⟩ fun v46 h46 q46 => ?_
      obtain ⟨rfl, rfl⟩ := q46
      show Go B n0 _ h0 0 0 12 #[(.val (.int p)), (.val (.int r)), (.val (.int (3 : Int32))), (.val (.int (3 : Int32))), .unset, .unset, .unset, .unset, .unset] [(.ref ga2)]
      refine iAstore C d0_12 (Ls' := #[(.val (.int p)), (.val (.int r)), (.val (.int (3 : Int32))), (.val (.int (3 : Int32))), (.val (.ref ga2)), .unset, .unset, .unset, .unset]) rfl rfl ?_
      refine iIloadN C d0_14 rfl ?_
      refine iCallS C (rm1_3 hw G O) tw0 tw1 tw2 tw3 ⟨by decide, by decide⟩ (argsL := [(.int (3 : Int32))]) (S' := []) (lenOf pd0 rfl) rfl rfl d0_15 rfl (W := 0) rfl ⟨by decide, by decide, rfl, rfl, by decide, by decide⟩ fun v47 h47 q47 => ?_
      obtain ⟨rfl, rfl⟩ := q47
      show Go B n0 _ h0 0 0 18 #[(.val (.int p)), (.val (.int r)), (.val (.int (3 : Int32))), (.val (.int (3 : Int32))), (.val (.ref ga2)), .unset, .unset, .unset, .unset] [(.ref ga2)]
      refine iAstore C d0_18 (Ls' := #[(.val (.int p)), (.val (.int r)), (.val (.int (3 : Int32))), (.val (.int (3 : Int32))), (.val (.ref ga2)), (.val (.ref ga2)), .unset, .unset, .unset]) rfl rfl ?_
      refine iIloadN C d0_20 rfl ?_
      refine iIconst C d0_21 (v := (3 : Int32)) (by decide) ?_
      refine iCmpT C (t := 29) d0_22 (by decide) ⟨by decide, by decide⟩ ?_
      refine iIconst C d0_29 (v := (0 : Int32)) (by decide) ?_
      refine iIstore C d0_30 (Ls' := #[(.val (.int p)), (.val (.int r)), (.val (.int (3 : Int32))), (.val (.int (3 : Int32))), (.val (.ref ga2)), (.val (.ref ga2)), (.val (.int (0 : Int32))), .unset, .unset]) rfl ?_
      refine iIloadN C d0_32 rfl ?_
      refine iIconst C d0_33 (v := (3 : Int32)) (by decide) ?_
      refine iCmpT C (t := 41) d0_34 (by decide) ⟨by decide, by decide⟩ ?_
      refine iIconst C d0_41 (v := (0 : Int32)) (by decide) ?_
      refine iIstore C d0_42 (Ls' := #[(.val (.int p)), (.val (.int r)), (.val (.int (3 : Int32))), (.val (.int (3 : Int32))), (.val (.ref ga2)), (.val (.ref ga2)), (.val (.int (0 : Int32))), (.val (.int (0 : Int32))), .unset]) rfl ?_
      refine iIloadN C d0_44 rfl ?_
      refine iIloadN C d0_45 rfl ?_
      refine iCmpT C (t := 59) d0_46 (by decide) ⟨by decide, by decide⟩ ?_
      refine iIconst C d0_59 (v := (1 : Int32)) (by decide) ?_
      refine iGoto C (t := 64) d0_60 ⟨by decide, by decide⟩ ?_
      refine iIstore C d0_64 (Ls' := #[(.val (.int p)), (.val (.int r)), (.val (.int (3 : Int32))), (.val (.int (3 : Int32))), (.val (.ref ga2)), (.val (.ref ga2)), (.val (.int (0 : Int32))), (.val (.int (0 : Int32))), (.val (.int (1 : Int32)))]) rfl ?_
      refine iAload C d0_66 rfl rfl ?_
      refine iAload C d0_68 rfl rfl ?_
      refine iCallV C (rm2_3_3 hw G O) (G.2.2.2.1.ext O.2) tw9 tw10 (Or.inl rfl) tw12 tw11 tw5 tw13 ⟨by decide, by decide⟩ (argsL := [(.ref ga2)]) (S' := []) (lenOf pd1 rfl) rfl rfl d0_70 rfl (W := 0) rfl ⟨by decide, by decide, rfl, rfl, by decide, by decide⟩ fun v48 h48 q48 => ?_
      obtain ⟨rfl, rfl⟩ := q48
      show Go B n0 _ h0 0 0 73 #[(.val (.int p)), (.val (.int r)), (.val (.int (3 : Int32))), (.val (.int (3 : Int32))), (.val (.ref ga2)), (.val (.ref ga2)), (.val (.int (0 : Int32))), (.val (.int (0 : Int32))), (.val (.int (1 : Int32)))] [(.int (1 : Int32))]
      refine iIload C d0_73 rfl ?_
      refine iCmpF C d0_75 (by decide) ?_
      refine iIconst C d0_78 (v := (1 : Int32)) (by decide) ?_
      refine iGoto C (t := 83) d0_79 ⟨by decide, by decide⟩ ?_
      refine iRetZ C d0_83 (by simp) ⟨by decide, by decide⟩ ?_
      exact rfl
set_option maxRecDepth 65536 in
set_option maxHeartbeats 4000000 in
theorem comes_1 {Post : Tables → Env → Array Value → State → Outcome → State → Prop} (hpost : ∀ tb e args s v u, (limb_1_1.after args s (.returned v) u = true ∧ limb_1_2.after args s (.returned v) u = true ∧ True) → FrameEnd s (.returned v) u (Jvm.fieldLocs frame_1_writes args s ++ Jvm.arrayLocs frame_1_arrays args s ++ Jvm.staticLocs frame_1_statics s) 0 0 → Post tb e args s (.returned v) u) :
    ArmFor flags0 classFile x code maxLocals ret World_1 tables_1 room_1 Calls_1 rest_1 Pre_1 Post := by
  intro l hfl _ _ p e ha hc hk s m args below hf hA hF happ hP
  obtain ⟨hcalls, hrest, hpre⟩ := hP
  obtain ⟨-, -, -, hnamed, -, -, -, hat⟩ := (Spec.applies_iff hf).mp happ
  obtain ⟨hg, hn⟩ := and_e (Cond.before_iff.mp (show (Jvm.Cond.and given_1 narrow_1).before args s = true from hpre))
  obtain ⟨hg_1, hg_2⟩ := and_e hg
  obtain ⟨hg_3, hg_4⟩ := and_e hg_2
  obtain ⟨w0, w1, rfl⟩ : ∃ w0 w1 : Value, args = #[w0, w1] := by
    have hs : args.size = 2 := by simpa [Cond.value, given_1] using hg_1
    obtain ⟨L⟩ := args
    match L, hs with
    | [w0, w1], _ => exact ⟨w0, w1, rfl⟩
  have hw := fun d (hd : d ∈ tables_1) => atoms_spec (ws := Jvm.Cond.code x code maxLocals ret :: tables_1) hat d (List.mem_cons_of_mem _ hd)
  have hfit : Fit s := fun {y c} hc i hi => by
    obtain ⟨ha, rfl⟩ := Array.getElem?_eq_some_iff.mp hc
    have q := List.all_eq_true.mp ((Array.all_eq_true_iff_forall_mem.mp hF) _ (Array.getElem_mem ha)) i (List.mem_range.mpr hi)
    simpa [Array.getElem?_eq_getElem hi] using q
  obtain ⟨i0, ei0⟩ := is_v hg_3
  obtain rfl : w0 = (.int i0) := Option.some.inj ei0
  obtain ⟨i1, ei1⟩ := is_v hg_4
  obtain rfl : w1 = (.int i1) := Option.some.inj ei1
  obtain ⟨hn_1, hn_2⟩ := and_e hn
  obtain ⟨hn_3, hn_4⟩ := and_e hn_2
  obtain ⟨hn_5, hn_6⟩ := and_e hn_4
  obtain ⟨hn_7, hn_8⟩ := and_e hn_6
  obtain ⟨hn_9, hn_10⟩ := and_e hn_8
  obtain ⟨hn_11, hn_12⟩ := and_e hn_10
  obtain ⟨hn_13, hn_14⟩ := and_e hn_12
  obtain ⟨hn_15, hn_16⟩ := and_e hn_14
  obtain ⟨hn_17, hn_18⟩ := and_e hn_16
  obtain ⟨hn_19, hn_20⟩ := and_e hn_18
  obtain ⟨hn_21, hn_22⟩ := and_e hn_20
  obtain ⟨ga1, ge1⟩ := exa_v hn_1
  obtain ⟨ga2, ge2⟩ := exa_v hn_3
  obtain ⟨ga3, ge3⟩ := exa_v hn_11
  obtain ⟨ga4, ge4⟩ := exa_v hn_13
  have G : GG s ga1 ga2 ga3 ga4 := ⟨Sta.start ge1 (Or.inr ⟨hw _ tw5, hw _ tw6⟩), Exa.start ge1 hn_1, Sta.start ge2 (Or.inr ⟨hw _ tw5, hw _ tw8⟩), Exa.start ge2 hn_3, Sta.start ge3 (Or.inr ⟨hw _ tw5, hw _ tw17⟩), Exa.start ge3 hn_11, Sta.start ge4 (Or.inr ⟨hw _ tw5, hw _ tw19⟩), Exa.start ge4 hn_13, Fld.start ((fld_at ge2).symm.trans (eqI_v hn_5)), Fld.start ((fld_at ge1).symm.trans (eqI_v hn_7)), Fld.start ((fld_at ge2).symm.trans (eqI_v hn_9)), Fld.start ((fld_at ge4).symm.trans (eqI_v hn_15)), Fld.start ((fld_at ge3).symm.trans (eqI_v hn_17)), Fld.start ((fld_at ge4).symm.trans (eqI_v hn_19)), Fld.start ((fld_at ge3).symm.trans (eqI_v hn_21)), Fld.start ((fld_at ge1).symm.trans (eqI_v hn_22))⟩
  obtain ⟨n, o, h1, h2, h3, _, L, rfl, ⟨rfl, N⟩, hq⟩ := (rm0 (l := l) (Z := s) hw (n0 := s.heap.size) (h0 := s.heap) i0 i1 G (Old.start s)) tables_1 p e ha hc hk s m _ below hf ((Spec.applies_iff_loose hf).mp happ).1 ⟨rfl, State.Warmed39.refl s, rfl⟩ trivial
  refine ⟨n, _, h1, h2, h3, hpost _ _ _ _ _ _ ⟨Cond.after_iff.mpr rfl, Cond.after_iff.mpr (eq_i res_at (Term.int_eval (1)) rfl), trivial⟩ ⟨hq.1, hq.2.1, (hq.2.2.sift fun y hy => Or.inr (N y hy)).mono (by decide) (by decide)⟩⟩
theorem main_1_1 : Claimed_1_1 := comes_1 fun _ _ _ _ _ _ h hF => ⟨h.1, hF⟩
theorem main_1_2 : Claimed_1_2 := comes_1 fun _ _ _ _ _ _ h hF => ⟨h.2.1, hF⟩
end Jvm.Pilot.@@N@@
namespace Jvm.Pilot.@@N@@
open Jvm Jvm.ClassFile Sem Op Lib Jvm.Free Jvm.Stand Jvm.Pilot.@@N@@.Jvm.D
/-! MADE BY PROGRAM (witnessworld.py) out of the Statement's table words and the real class files: 12 classes; the members and pool entries that the words name. The judged class is class 1, her method 2. -/
namespace start1
open Jvm.ClassFile
def u (s : String) : CpInfo := .utf8 (stringToUtf16 s)
/-- a pool by its gaps: so many unusable entries, then the entry; so many at the end -/
def gap : Nat → List CpInfo → List CpInfo
  | 0, r => r
  | n + 1, r => .unusable :: gap n r
def poolList (es : List (Nat × CpInfo)) (last : Nat) : List CpInfo := es.foldr (fun e r => gap e.1 (e.2 :: r)) (gap last [])
def pool (es : List (Nat × CpInfo)) (last : Nat) : Array CpInfo := ⟨poolList es last⟩
def fileOf (pool : Array CpInfo) (this : Nat) (attrs : Array Attribute := #[]) (ms : Array MethodInfo := #[]) (fl : Nat := 33) (sup : Nat := 0) (ifs : Array Nat := #[]) (fds : Array FieldInfo := #[]) : ClassFile where
  minorVersion := 0
  majorVersion := 65
  constantPool := pool
  accessFlags := fl
  thisClass := this
  superClass := sup
  interfaces := ifs
  fields := fds
  methods := ms
  attributes := attrs
def plain (name : String) (sup : Option ClassId) : Class where
  name := name
  kind := .ordinary
  loader := none
  accessFlags := 33
  super := sup
  interfaces := #[]
  cf := none
  fields := #[]
  methods := #[]
  instanceTypes := #[]
  staticTypes := #[]
  resolved := #[]
  callSites := []
  init := .initialized
  statics := none
  mirror := none

def pool0 : Array CpInfo := pool [(5, u "<init>"), (0, u "()V"), (1, .class_ 10), (1, u "java/lang/Object")] 113

def k0m0 : Method := { name := "<init>", desc := "()V", sig := { parameters := [], returnType := none }, accessFlags := 1, code := none }
/-- java/lang/Object -/
def k0 : Class := { plain "java/lang/Object" none with
  accessFlags := 33
  interfaces := #[]
  cf := some (fileOf pool0 8 #[] #[{ accessFlags := 1, nameIndex := 5, descriptorIndex := 6, attributes := #[] }] 33 0 #[] #[])
  fields := #[]
  methods := #[k0m0]
  instanceTypes := #[]
  staticTypes := #[]
  resolved := Array.replicate 124 none
  statics := none }

def pool1 : Array CpInfo := pool [(2, .class_ 4), (1, u "java/lang/Object"), (0, u "<init>"), (0, u "()V"), (0, .fieldref 8 9), (0, .class_ 10), (0, .nameAndType 11 12), (0, u "com/example/kilit/kilit/engine/ColumnType$Kind"), (0, u "INT"), (0, u "Lcom/example/kilit/kilit/engine/ColumnType$Kind;"), (0, .fieldref 8 14), (0, .nameAndType 15 12), (0, u "NUMBER"), (0, .fieldref 8 17), (0, .nameAndType 18 12), (0, u "DOUBLE"), (0, .fieldref 8 20), (0, .nameAndType 21 12), (0, u "VARCHAR"), (0, .methodref 23 24), (0, .class_ 25), (0, .nameAndType 26 27), (0, u "com/example/kilit/kilit/engine/KindComparesWithPinLaw"), (0, u "kindOf"), (0, u "(I)Lcom/example/kilit/kilit/engine/ColumnType$Kind;"), (0, .methodref 8 29), (0, .nameAndType 30 31), (0, u "comparesWith"), (0, u "(Lcom/example/kilit/kilit/engine/ColumnType$Kind;)Z"), (3, u "law"), (0, u "(II)Z")] 6

def k1m0 : Method := { name := "<init>", desc := "()V", sig := { parameters := [], returnType := none }, accessFlags := 2, code := none }
def k1c1 : Code := { maxStack := 2, maxLocals := 2, code := method_2_code, exceptionTable := #[], attributes := #[] }
def k1m1 : Method := { name := "kindOf", desc := "(I)Lcom/example/kilit/kilit/engine/ColumnType$Kind;", sig := { parameters := [.int], returnType := some (.object "com/example/kilit/kilit/engine/ColumnType$Kind") }, accessFlags := 10, code := some k1c1 }
def k1c2 : Code := { maxStack := 2, maxLocals := 9, code := code, exceptionTable := #[], attributes := #[] }
def k1m2 : Method := { name := "law", desc := "(II)Z", sig := { parameters := [.int, .int], returnType := some .boolean }, accessFlags := 9, code := some k1c2 }
/-- com/example/kilit/kilit/engine/KindComparesWithPinLaw -/
def k1 : Class := { plain "com/example/kilit/kilit/engine/KindComparesWithPinLaw" (some 0) with
  accessFlags := 49
  interfaces := #[]
  cf := some (fileOf pool1 23 #[] #[{ accessFlags := 2, nameIndex := 5, descriptorIndex := 6, attributes := #[] }, { accessFlags := 10, nameIndex := 26, descriptorIndex := 27, attributes := #[] }, { accessFlags := 9, nameIndex := 35, descriptorIndex := 36, attributes := #[] }] 49 2 #[] #[])
  fields := #[]
  methods := #[k1m0, k1m1, k1m2]
  instanceTypes := #[]
  staticTypes := #[]
  resolved := Array.replicate 43 none
  statics := none }

def pool2 : Array CpInfo := pool [(1, .class_ 2), (0, u "java/lang/constant/Constable"), (0, .class_ 4), (0, u "java/lang/Object")] 6

/-- java/lang/constant/Constable -/
def k2 : Class := { plain "java/lang/constant/Constable" (some 0) with
  accessFlags := 1537
  interfaces := #[]
  cf := some (fileOf pool2 1 #[] #[] 1537 3 #[] #[])
  fields := #[]
  methods := #[]
  instanceTypes := #[]
  staticTypes := #[]
  resolved := Array.replicate 11 none
  statics := none }

def pool3 : Array CpInfo := pool [(1, .class_ 2), (0, u "java/lang/Comparable"), (0, .class_ 4), (0, u "java/lang/Object")] 7

/-- java/lang/Comparable -/
def k3 : Class := { plain "java/lang/Comparable" (some 0) with
  accessFlags := 1537
  interfaces := #[]
  cf := some (fileOf pool3 1 #[] #[] 1537 3 #[] #[])
  fields := #[]
  methods := #[]
  instanceTypes := #[]
  staticTypes := #[]
  resolved := Array.replicate 12 none
  statics := none }

def pool4 : Array CpInfo := pool [(1, .class_ 2), (0, u "java/io/Serializable"), (0, .class_ 4), (0, u "java/lang/Object")] 2

/-- java/io/Serializable -/
def k4 : Class := { plain "java/io/Serializable" (some 0) with
  accessFlags := 1537
  interfaces := #[]
  cf := some (fileOf pool4 1 #[] #[] 1537 3 #[] #[])
  fields := #[]
  methods := #[]
  instanceTypes := #[]
  staticTypes := #[]
  resolved := Array.replicate 7 none
  statics := none }

def pool5 : Array CpInfo := pool [(2, .class_ 4), (1, u "java/lang/Enum"), (0, u "name"), (0, u "Ljava/lang/String;"), (2, u "ordinal"), (0, u "I"), (1, .class_ 14), (1, u "java/lang/Object"), (4, u "hash"), (86, .class_ 108), (1, u "java/lang/Enum$EnumDesc"), (2, .class_ 112), (0, u "java/lang/constant/Constable"), (0, .class_ 114), (0, u "java/lang/Comparable"), (0, .class_ 116), (0, u "java/io/Serializable")] 87

/-- java/lang/Enum -/
def k5 : Class := { plain "java/lang/Enum" (some 0) with
  accessFlags := 1057
  interfaces := #[2, 3, 4]
  cf := some (fileOf pool5 2 #[.nestMembers #[106]] #[] 1057 12 #[111, 113, 115] #[{ accessFlags := 18, nameIndex := 5, descriptorIndex := 6, attributes := #[] }, { accessFlags := 18, nameIndex := 9, descriptorIndex := 10, attributes := #[] }, { accessFlags := 2, nameIndex := 19, descriptorIndex := 10, attributes := #[] }])
  fields := #[{ name := "name", type := (.object "java/lang/String"), accessFlags := 18, slot := 0, constantValue := 0 }, { name := "ordinal", type := .int, accessFlags := 18, slot := 1, constantValue := 0 }, { name := "hash", type := .int, accessFlags := 2, slot := 2, constantValue := 0 }]
  methods := #[]
  instanceTypes := #[(.object "java/lang/String"), .int, .int]
  staticTypes := #[]
  resolved := Array.replicate 204 none
  statics := none }

def pool6 : Array CpInfo := pool [(1, .class_ 2), (0, u "com/example/kilit/kilit/engine/ColumnType$Kind"), (2, u "INT"), (0, u "Lcom/example/kilit/kilit/engine/ColumnType$Kind;"), (2, u "NUMBER"), (2, u "DOUBLE"), (2, u "VARCHAR"), (2, u "$VALUES"), (0, u "[Lcom/example/kilit/kilit/engine/ColumnType$Kind;"), (6, .class_ 28), (1, u "java/lang/Enum"), (8, u "valueClass"), (0, u "Ljava/lang/Class;"), (8, .fieldref 1 48), (0, .nameAndType 49 50), (0, u "number"), (0, u "Z"), (2, u "ALL"), (56, u "NUMBERS"), (0, u "Ljava/util/Set;"), (12, u "comparesWith"), (0, u "(Lcom/example/kilit/kilit/engine/ColumnType$Kind;)Z"), (9, .class_ 136), (0, u "com/example/kilit/kilit/engine/ColumnType")] 20

def k6c0 : Code := { maxStack := 2, maxLocals := 2, code := prog_22_method_6_code, exceptionTable := #[], attributes := #[] }
def k6m0 : Method := { name := "comparesWith", desc := "(Lcom/example/kilit/kilit/engine/ColumnType$Kind;)Z", sig := { parameters := [(.object "com/example/kilit/kilit/engine/ColumnType$Kind")], returnType := some .boolean }, accessFlags := 0, code := some k6c0 }
/-- com/example/kilit/kilit/engine/ColumnType$Kind -/
def k6 : Class := { plain "com/example/kilit/kilit/engine/ColumnType$Kind" (some 5) with
  accessFlags := 16433
  interfaces := #[]
  cf := some (fileOf pool6 1 #[.nestHost 135] #[{ accessFlags := 0, nameIndex := 124, descriptorIndex := 125, attributes := #[] }] 16433 26 #[] #[{ accessFlags := 16409, nameIndex := 5, descriptorIndex := 6, attributes := #[] }, { accessFlags := 16409, nameIndex := 9, descriptorIndex := 6, attributes := #[] }, { accessFlags := 16409, nameIndex := 12, descriptorIndex := 6, attributes := #[] }, { accessFlags := 16409, nameIndex := 15, descriptorIndex := 6, attributes := #[] }, { accessFlags := 26, nameIndex := 53, descriptorIndex := 19, attributes := #[] }, { accessFlags := 24, nameIndex := 110, descriptorIndex := 111, attributes := #[] }, { accessFlags := 18, nameIndex := 37, descriptorIndex := 38, attributes := #[] }, { accessFlags := 18, nameIndex := 49, descriptorIndex := 50, attributes := #[] }, { accessFlags := 4122, nameIndex := 18, descriptorIndex := 19, attributes := #[] }])
  fields := #[{ name := "INT", type := (.object "com/example/kilit/kilit/engine/ColumnType$Kind"), accessFlags := 16409, slot := 0, constantValue := 0 }, { name := "NUMBER", type := (.object "com/example/kilit/kilit/engine/ColumnType$Kind"), accessFlags := 16409, slot := 1, constantValue := 0 }, { name := "DOUBLE", type := (.object "com/example/kilit/kilit/engine/ColumnType$Kind"), accessFlags := 16409, slot := 2, constantValue := 0 }, { name := "VARCHAR", type := (.object "com/example/kilit/kilit/engine/ColumnType$Kind"), accessFlags := 16409, slot := 3, constantValue := 0 }, { name := "ALL", type := (.array (.object "com/example/kilit/kilit/engine/ColumnType$Kind")), accessFlags := 26, slot := 4, constantValue := 0 }, { name := "NUMBERS", type := (.object "java/util/Set"), accessFlags := 24, slot := 5, constantValue := 0 }, { name := "valueClass", type := (.object "java/lang/Class"), accessFlags := 18, slot := 3, constantValue := 0 }, { name := "number", type := .boolean, accessFlags := 18, slot := 4, constantValue := 0 }, { name := "$VALUES", type := (.array (.object "com/example/kilit/kilit/engine/ColumnType$Kind")), accessFlags := 4122, slot := 6, constantValue := 0 }]
  methods := #[k6m0]
  instanceTypes := #[(.object "java/lang/String"), .int, .int, (.object "java/lang/Class"), .boolean]
  staticTypes := #[(.object "com/example/kilit/kilit/engine/ColumnType$Kind"), (.object "com/example/kilit/kilit/engine/ColumnType$Kind"), (.object "com/example/kilit/kilit/engine/ColumnType$Kind"), (.object "com/example/kilit/kilit/engine/ColumnType$Kind"), (.array (.object "com/example/kilit/kilit/engine/ColumnType$Kind")), (.object "java/util/Set"), (.array (.object "com/example/kilit/kilit/engine/ColumnType$Kind"))]
  resolved := Array.replicate 157 none
  statics := some 0 }

def pool7 : Array CpInfo := pool [(1, u "java/lang/Cloneable"), (0, .class_ 1), (0, u "java/lang/Object"), (0, .class_ 3)] 3

/-- java/lang/Cloneable -/
def k7 : Class := { plain "java/lang/Cloneable" (some 0) with
  accessFlags := 1537
  interfaces := #[]
  cf := some (fileOf pool7 2 #[] #[] 1537 4 #[] #[])
  fields := #[]
  methods := #[]
  instanceTypes := #[]
  staticTypes := #[]
  resolved := Array.replicate 8 none
  statics := none }

/-- the primitive byte -/
def k8 : Class := { plain "byte" none with kind := .primitive 'B', accessFlags := 0x411 }
/-- [B -/
def k9 : Class := { plain "[B" (some 0) with kind := .array 8 .byte, interfaces := #[7, 4], accessFlags := 1041 }

/-- the primitive int -/
def k10 : Class := { plain "int" none with kind := .primitive 'I', accessFlags := 0x411 }
/-- [I -/
def k11 : Class := { plain "[I" (some 0) with kind := .array 10 .int, interfaces := #[7, 4], accessFlags := 1041 }

def heap : Heap := #[{ cls := 6, slots := #[.ref 1, .ref 2, .ref 3, .ref 4, .null, .null, .null], vm := .statics 6 },
  { cls := 6, slots := #[.null, .int 0, .int 0, .null, .int 1], vm := .none },
  { cls := 6, slots := #[.null, .int 1, .int 0, .null, .int 1], vm := .none },
  { cls := 6, slots := #[.null, .int 2, .int 0, .null, .int 1], vm := .none },
  { cls := 6, slots := #[.null, .int 3, .int 0, .null, .int 0], vm := .none }]
def classes : Array Class := #[k0, k1, k2, k3, k4, k5, k6, k7, k8, k9, k10, k11]
def interned : List (Array UInt16 × Addr) := []
def slotsUsed : Nat := 27
def theMethod : MethodId := ⟨1, 2⟩
def args0 : Array Value := #[.int 5, .int 6]
def aboutOver (below : List Frame) : State where
  vm := { classes := classes, interned := interned.toArray }
  heap := heap
  slotsUsed := slotsUsed
  threads := #[{ frames := .invoking theMethod args0 :: below }]
def below0 : List Frame := [.native { method := ⟨0, 0⟩, args := #[] }]
def about1 : State := aboutOver below0
def p0 : Program := .bare "" "" ""
def e0 : Env := launch0.env 0 0 0
theorem w_frames : about1.frames = Frame.invoking theMethod args0 :: below0 := rfl
set_option maxRecDepth 65536 in
theorem w_args : argsFit about1.vm theMethod args0 = true := by decide +kernel
set_option maxRecDepth 65536 in
theorem w_heap : heapFits about1 = true := by decide +kernel
set_option maxRecDepth 65536 in
theorem w_runnable : about1.curStatus? = some .runnable := by decide +kernel
set_option maxRecDepth 65536 in
theorem w_alone : about1.alone = true := by decide +kernel
set_option maxRecDepth 65536 in
theorem w_named : about1.methodNamed? x = some theMethod := by decide +kernel
set_option maxRecDepth 65536 in
theorem w_hears : about1.hears theMethod below0 = true := by decide +kernel
set_option maxRecDepth 65536 in
theorem w_ripe : about1.ripe theMethod args0 below0 = true := by decide +kernel
theorem w_running : about1.status = .running := rfl
set_option maxRecDepth 65536 in
theorem w_room : about1.hasRoom e0.platform room_1 = true :=
  launch0.hasRoom_least _ room_1 (by decide +kernel) (by decide +kernel) (by decide +kernel) (by decide +kernel) (by decide +kernel) (by decide +kernel)
theorem allAtoms_all (ts : List Jvm.Cond) (a : Array Jvm.Value) (st : Jvm.State) : (allAtoms ts).before a st = ts.all (fun c => c.before a st) := by
  induction ts with
  | nil => rfl
  | cons c t ih =>
    show (Jvm.Cond.and c (allAtoms t)).before a st = _
    rw [Jvm.Cond.before_and, ih, List.all_cons]
def words1 : List Jvm.Cond := Jvm.Cond.code x code maxLocals ret :: tables_1
/-- a 'code' word, met by the world's own term for the bytes: nothing is compared byte by byte -/
theorem code_word {y : MethodName} {bytes : ByteArray} {mx : Nat} {rt : Option FieldType} {a : Array Value} {s : State} {m : MethodId} {meth : Method} {c : Code} (h1 : s.methodNamed? y = some m) (h2 : s.vm.method? m = some meth) (h3 : meth.code = some c) (h4 : c.code = bytes)
    (h5 : (c.maxLocals == mx && c.exceptionTable.isEmpty && decide (c.maxStack ≤ mostOperands) && decide (meth.sig.returnType = rt) && !meth.locks && decide (parseMethodDescriptor y.desc = some meth.sig)) = true) : (Jvm.Cond.code y bytes mx rt).before a s = true := by
  simp only [Bool.and_eq_true, beq_iff_eq, Bool.not_eq_true', decide_eq_true_eq] at h5
  obtain ⟨⟨⟨⟨⟨g1, g2⟩, g3⟩, g4⟩, g5⟩, g6⟩ := h5
  simp [Cond.before, Cond.holds, Cond.value, h1, h2, h3, h4, g1, g2, g3, g4, g5, g6]
def isCode : Jvm.Cond → Bool
  | .code _ _ _ _ => true
  | _ => false
theorem all_split {L : List Jvm.Cond} {P : Jvm.Cond → Bool} (h1 : L.all (fun c => isCode c || P c) = true) (h2 : ∀ c ∈ L.filter isCode, P c = true) : L.all P = true := by
  refine List.all_eq_true.mpr fun c hc => ?_
  have h := List.all_eq_true.mp h1 c hc
  rcases Bool.eq_false_or_eq_true (isCode c) with hi | hi
  · exact h2 c (List.mem_filter.mpr ⟨hc, hi⟩)
  · simpa [hi] using h
set_option maxRecDepth 65536 in
theorem w_c0 : (Jvm.Cond.code x code maxLocals ret).before args0 about1 = true := code_word (m := ⟨1, 2⟩) (meth := k1m2) (c := k1c2) (by decide +kernel) rfl rfl rfl (by decide +kernel)
set_option maxRecDepth 65536 in
theorem w_c1 : (Jvm.Cond.code ({ cls := "com/example/kilit/kilit/engine/KindComparesWithPinLaw", name := "kindOf", desc := "(I)Lcom/example/kilit/kilit/engine/ColumnType$Kind;" } : Jvm.MethodName) method_2_code (2 : Nat) (Option.some (Jvm.ClassFile.FieldType.object "com/example/kilit/kilit/engine/ColumnType$Kind"))).before args0 about1 = true := code_word (m := ⟨1, 1⟩) (meth := k1m1) (c := k1c1) (by decide +kernel) rfl rfl rfl (by decide +kernel)
set_option maxRecDepth 65536 in
theorem w_c2 : (Jvm.Cond.code ({ cls := "com/example/kilit/kilit/engine/ColumnType$Kind", name := "comparesWith", desc := "(Lcom/example/kilit/kilit/engine/ColumnType$Kind;)Z" } : Jvm.MethodName) prog_22_method_6_code (2 : Nat) (Option.some Jvm.ClassFile.FieldType.boolean)).before args0 about1 = true := code_word (m := ⟨6, 0⟩) (meth := k6m0) (c := k6c0) (by decide +kernel) rfl rfl rfl (by decide +kernel)
def codes1 : List Jvm.Cond := [Jvm.Cond.code x code maxLocals ret, Jvm.Cond.code ({ cls := "com/example/kilit/kilit/engine/KindComparesWithPinLaw", name := "kindOf", desc := "(I)Lcom/example/kilit/kilit/engine/ColumnType$Kind;" } : Jvm.MethodName) method_2_code (2 : Nat) (Option.some (Jvm.ClassFile.FieldType.object "com/example/kilit/kilit/engine/ColumnType$Kind")), Jvm.Cond.code ({ cls := "com/example/kilit/kilit/engine/ColumnType$Kind", name := "comparesWith", desc := "(Lcom/example/kilit/kilit/engine/ColumnType$Kind;)Z" } : Jvm.MethodName) prog_22_method_6_code (2 : Nat) (Option.some Jvm.ClassFile.FieldType.boolean)]
set_option maxRecDepth 65536 in
theorem codes_eq : words1.filter isCode = codes1 := rfl
theorem w_codes : ∀ c ∈ words1.filter isCode, c.before args0 about1 = true := by
  rw [codes_eq]
  intro c hc
  simp only [codes1, List.mem_cons, List.not_mem_nil, or_false] at hc
  rcases hc with rfl | rfl | rfl
  · exact w_c0
  · exact w_c1
  · exact w_c2
set_option maxRecDepth 65536 in
theorem w_t1 : words1.all (fun c => isCode c || c.before args0 about1) = true := by decide +kernel
theorem w_tables : (allAtoms (Jvm.Cond.code x code maxLocals ret :: tables_1)).before args0 about1 = true := by
  rw [allAtoms_all]
  show words1.all (fun c => c.before args0 about1) = true
  refine all_split ?_ w_codes
  rw [w_t1]
set_option maxRecDepth 65536 in
theorem w_case : (Jvm.Cond.and given_1 narrow_1).before args0 about1 = true := by decide +kernel
theorem w_applies : (headSpec (Jvm.Cond.code x code maxLocals ret :: tables_1) room_1).applies x e0.platform about1 = true :=
  (Spec.applies_iff w_frames).mpr ⟨w_running, w_runnable, w_alone, w_named, w_hears, w_ripe, w_room, w_tables⟩
theorem atStart : AtStart classFile x code maxLocals ret World_1 tables_1 room_1 Calls_1 rest_1 Pre_1 launch0 p0 e0 about1 theMethod args0 below0 :=
  ⟨lists_1, trivial, launch0.admits_env _ _ _, launch0.least_env, fairChoices_fair.cas, fairChoices_fair.clock, w_frames, w_args, w_heap, w_applies, trivial, trivial, w_case⟩
end start1
theorem witness_1 : WitnessClaimed_1 := ⟨start1.p0, start1.e0, start1.about1, start1.theMethod, start1.args0, start1.below0, start1.atStart⟩
end Jvm.Pilot.@@N@@
