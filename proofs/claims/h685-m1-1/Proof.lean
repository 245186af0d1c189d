import JvmDerived
import JvmDerived.Pilot.@@N@@Statement
import JvmDerived.Pilot.@@N@@Code
set_option linter.unusedVariables false
set_option linter.unusedSimpArgs false

namespace Jvm.Pilot.@@N@@
open Jvm Jvm.ClassFile Sem Op Lib Jvm.Free Jvm.Stand Jvm.LawKit Jvm.RoadKit Bundle Jvm.Pilot.@@N@@.Jvm.D
/-! MY OWN LAYER: the walk in continuation form -/
abbrev Bx : Type := Program × Launch × Env × Room × State × MethodId × Array Value × List Frame × Method × Code
def De (b : ByteArray) (pc : Nat) (i : Instr) (k n : Nat) : Prop := decode b pc = .ok (i, k) ∧ pc + k = n
def Go (B : Bx) (n0 : Nat) (Q : Option Value → Heap → Prop) (h : Heap) (ce sl pc : Nat) (Ls : Array Slot) (S : List Value) : Prop :=
  match B with
  | (p, l, e, R, s, m, args, below, meth, c) => ∀ (T : State) (locs : List Loc), Stand p l e R s m args below meth c T locs ce sl → T.heap = h → Fr n0 locs →
    ∃ s₂ o, Steps p.tables e below (T.setTop (mkF m pc Ls S)) s₂ ∧ s₂.status = .running ∧ Ended s₂ below o ∧ ∃ (v : Option Value) (L : List Loc), o = .returned v ∧ (Q v s₂.heap ∧ Fr n0 L) ∧ FrameEnd s o s₂ L R.cells R.slots
def Cx (B : Bx) (l0 : Launch) (Z : State) (a0 : Array Value) (R0 : Room) (y : MethodName) (b : ByteArray) (mx : Nat) (rt : Option FieldType) : Prop :=
  match B with
  | (p, l, e, R, s, m, args, below, meth, c) => l = l0 ∧ R = R0 ∧ p.tables.exec = Jvm.exec ∧ c.code = b ∧ c.maxLocals = mx ∧ s.vm.findClass y.cls = some m.cls ∧ meth.name = y.name ∧ meth.sig.returnType = rt ∧ meth.locks = false ∧ Z.Warmed39 s.vm ∧ ∀ d ∈ tables_1, d.before a0 Z = true
def QQ (n0 : Nat) (Q : Option Value → Heap → Prop) (v : Option Value) (h : Heap) (L : List Loc) : Prop := Q v h ∧ Fr n0 L
def Pays (l : Launch) (Z : State) (y : MethodName) (b : ByteArray) (mx : Nat) (rt : Option FieldType) (rm : Room) (as' : Array Value) (n0 : Nat) (h0 : Heap) (Q : Option Value → Heap → Prop) : Prop :=
  ∀ ws : List Jvm.Cond, MetFree l y (head1 (Jvm.Cond.code y b mx rt :: ws) rm) (fun a U => a = as' ∧ Z.Warmed39 U.vm ∧ U.heap = h0) (fun _ _ _ _ _ => True) (fun _ U o U' => ∃ v L, o = .returned v ∧ QQ n0 Q v U'.heap L ∧ FrameEnd U o U' L rm.cells rm.slots)
section Flow
variable {B : Bx} {n0 : Nat} {Q : Option Value → Heap → Prop} {h : Heap} {ce sl pc n : Nat} {Ls Ls' : Array Slot} {S S' : List Value} {l : Launch} {Z : State} {a0 : Array Value} {R : Room} {y : MethodName} {b : ByteArray} {mx : Nat} {rt : Option FieldType}
theorem Pays.mono {rm : Room} {as' : Array Value} {Q' : Option Value → Heap → Prop} (hM : Pays l Z y b mx rt rm as' n0 h Q) (hq : ∀ v h, Q v h → Q' v h) : Pays l Z y b mx rt rm as' n0 h Q' := by
  intro ws p e ha hc hk s m args below hf happ hP hK
  obtain ⟨k, o, h1, h2, h3, v, L, h4, h5, h6⟩ := hM ws p e ha hc hk s m args below hf happ hP hK
  exact ⟨k, o, h1, h2, h3, v, L, h4, ⟨hq _ _ h5.1, h5.2⟩, h6⟩
theorem Pays.of (hw : ∀ d ∈ tables_1, d.before a0 Z = true) (hp : plainFor y = true) {rm : Room} {as' : Array Value} (ef : ∀ m, entryFrame m as' mx = mkF m 0 Ls []) (hb : ∀ B, Cx B l Z a0 rm y b mx rt → Go B n0 Q h 0 0 0 Ls []) : Pays l Z y b mx rt rm as' n0 h Q := by
  intro ws
  refine MetFree.of_bodySF hp hisR ?_
  intro p e s m args below meth c s₁ Bd hml0 hP hK
  obtain ⟨rfl, hZ, hh⟩ := hP
  have X0 : Stand p l e rm s m args below meth c s₁ [] 0 0 := Stand.of_body Bd
  have e0 : s₁.heap = h := by rw [← hh, Bd.state]; rfl
  obtain ⟨s₂, o, st, r1, r2, v, L, r3, r4, r5⟩ := hb (p, l, e, rm, s, m, args, below, meth, c) ⟨rfl, rfl, Bd.exec, Bd.bytes, hml0, findClass_of_methodNamed Bd.named, (name_of_methodNamed Bd.named Bd.method).1, Bd.returns, BodyLoose.notSynchronized Bd, hZ, hw⟩ s₁ [] X0 e0 (Fr.nil n0)
  exact ⟨s₂, o, castTop (ef m) st, r1, r2, v, L, r3, r4, r5⟩
theorem iAloadN (C : Cx B l Z a0 R y b mx rt) {k : Fin 4} {v : Value} (hd : De b pc (.aload_n k) 1 n) (hl : Ls[k.val]? = some (.val v)) (hv : v.isRef = true) (K : Go B n0 Q h ce sl n Ls (v :: S)) : Go B n0 Q h ce sl pc Ls (S) := by
  obtain ⟨p, l', e, R', s, m, args, below, meth, c⟩ := B
  obtain ⟨rfl, rfl, hx, rfl, hml, hown, hnm, hret, hlk, hZ, hw⟩ := C
  intro T locs X eT N
  obtain ⟨hd, rfl⟩ := hd
  obtain ⟨s₂, o, st, r⟩ := K T locs X eT N
  exact ⟨s₂, o, XS.aloadN X.here hx rfl hd hl hv st, r⟩
theorem iAload (C : Cx B l Z a0 R y b mx rt) {k : Nat} {v : Value} (hd : De b pc (.aload k) 2 n) (hl : Ls[k]? = some (.val v)) (hv : v.isRef = true) (K : Go B n0 Q h ce sl n Ls (v :: S)) : Go B n0 Q h ce sl pc Ls (S) := by
  obtain ⟨p, l', e, R', s, m, args, below, meth, c⟩ := B
  obtain ⟨rfl, rfl, hx, rfl, hml, hown, hnm, hret, hlk, hZ, hw⟩ := C
  intro T locs X eT N
  obtain ⟨hd, rfl⟩ := hd
  obtain ⟨s₂, o, st, r⟩ := K T locs X eT N
  exact ⟨s₂, o, XS.aload X.here hx rfl hd hl hv st, r⟩
theorem iIloadN (C : Cx B l Z a0 R y b mx rt) {k : Fin 4} {v : Int32} (hd : De b pc (.iload_n k) 1 n) (hl : Ls[k.val]? = some (.val (.int v))) (K : Go B n0 Q h ce sl n Ls (.int v :: S)) : Go B n0 Q h ce sl pc Ls (S) := by
  obtain ⟨p, l', e, R', s, m, args, below, meth, c⟩ := B
  obtain ⟨rfl, rfl, hx, rfl, hml, hown, hnm, hret, hlk, hZ, hw⟩ := C
  intro T locs X eT N
  obtain ⟨hd, rfl⟩ := hd
  obtain ⟨s₂, o, st, r⟩ := K T locs X eT N
  exact ⟨s₂, o, XS.iloadN X.here hx rfl hd hl st, r⟩
theorem iIload (C : Cx B l Z a0 R y b mx rt) {k : Nat} {v : Int32} (hd : De b pc (.iload k) 2 n) (hl : Ls[k]? = some (.val (.int v))) (K : Go B n0 Q h ce sl n Ls (.int v :: S)) : Go B n0 Q h ce sl pc Ls (S) := by
  obtain ⟨p, l', e, R', s, m, args, below, meth, c⟩ := B
  obtain ⟨rfl, rfl, hx, rfl, hml, hown, hnm, hret, hlk, hZ, hw⟩ := C
  intro T locs X eT N
  obtain ⟨hd, rfl⟩ := hd
  obtain ⟨s₂, o, st, r⟩ := K T locs X eT N
  exact ⟨s₂, o, XS.iload X.here hx rfl hd hl st, r⟩
theorem iLloadN (C : Cx B l Z a0 R y b mx rt) {k : Fin 4} {v : Int64} (hd : De b pc (.lload_n k) 1 n) (hl : Ls[k.val]? = some (.val (.long v))) (K : Go B n0 Q h ce sl n Ls (.long v :: S)) : Go B n0 Q h ce sl pc Ls (S) := by
  obtain ⟨p, l', e, R', s, m, args, below, meth, c⟩ := B
  obtain ⟨rfl, rfl, hx, rfl, hml, hown, hnm, hret, hlk, hZ, hw⟩ := C
  intro T locs X eT N
  obtain ⟨hd, rfl⟩ := hd
  obtain ⟨s₂, o, st, r⟩ := K T locs X eT N
  exact ⟨s₂, o, XT.lloadN X.here hx rfl hd hl st, r⟩
theorem iLload (C : Cx B l Z a0 R y b mx rt) {k : Nat} {v : Int64} (hd : De b pc (.lload k) 2 n) (hl : Ls[k]? = some (.val (.long v))) (K : Go B n0 Q h ce sl n Ls (.long v :: S)) : Go B n0 Q h ce sl pc Ls (S) := by
  obtain ⟨p, l', e, R', s, m, args, below, meth, c⟩ := B
  obtain ⟨rfl, rfl, hx, rfl, hml, hown, hnm, hret, hlk, hZ, hw⟩ := C
  intro T locs X eT N
  obtain ⟨hd, rfl⟩ := hd
  obtain ⟨s₂, o, st, r⟩ := K T locs X eT N
  exact ⟨s₂, o, XT.lload X.here hx rfl hd hl st, r⟩
theorem iIconst (C : Cx B l Z a0 R y b mx rt) {i : Int} {v : Int32} (hd : De b pc (.iconst i) 1 n) (hv : Int32.ofInt i = v) (K : Go B n0 Q h ce sl n Ls (.int v :: S)) : Go B n0 Q h ce sl pc Ls (S) := by
  obtain ⟨p, l', e, R', s, m, args, below, meth, c⟩ := B
  obtain ⟨rfl, rfl, hx, rfl, hml, hown, hnm, hret, hlk, hZ, hw⟩ := C
  intro T locs X eT N
  obtain ⟨hd, rfl⟩ := hd
  subst hv
  obtain ⟨s₂, o, st, r⟩ := K T locs X eT N
  exact ⟨s₂, o, XS.iconst X.here hx rfl hd st, r⟩
theorem iBipush (C : Cx B l Z a0 R y b mx rt) {i : Int} {v : Int32} (hd : De b pc (.bipush i) 2 n) (hv : (Int8.ofInt i).toInt32 = v) (K : Go B n0 Q h ce sl n Ls (.int v :: S)) : Go B n0 Q h ce sl pc Ls (S) := by
  obtain ⟨p, l', e, R', s, m, args, below, meth, c⟩ := B
  obtain ⟨rfl, rfl, hx, rfl, hml, hown, hnm, hret, hlk, hZ, hw⟩ := C
  intro T locs X eT N
  obtain ⟨hd, rfl⟩ := hd
  subst hv
  obtain ⟨s₂, o, st, r⟩ := K T locs X eT N
  exact ⟨s₂, o, XS.bipush X.here hx rfl hd st, r⟩
theorem iSipush (C : Cx B l Z a0 R y b mx rt) {i : Int} {v : Int32} (hd : De b pc (.sipush i) 3 n) (hv : (Int16.ofInt i).toInt32 = v) (K : Go B n0 Q h ce sl n Ls (.int v :: S)) : Go B n0 Q h ce sl pc Ls (S) := by
  obtain ⟨p, l', e, R', s, m, args, below, meth, c⟩ := B
  obtain ⟨rfl, rfl, hx, rfl, hml, hown, hnm, hret, hlk, hZ, hw⟩ := C
  intro T locs X eT N
  obtain ⟨hd, rfl⟩ := hd
  subst hv
  obtain ⟨s₂, o, st, r⟩ := K T locs X eT N
  exact ⟨s₂, o, XS.sipush X.here hx rfl hd st, r⟩
theorem iNull (C : Cx B l Z a0 R y b mx rt)  (hd : De b pc (.aconst_null) 1 n) (K : Go B n0 Q h ce sl n Ls (.null :: S)) : Go B n0 Q h ce sl pc Ls (S) := by
  obtain ⟨p, l', e, R', s, m, args, below, meth, c⟩ := B
  obtain ⟨rfl, rfl, hx, rfl, hml, hown, hnm, hret, hlk, hZ, hw⟩ := C
  intro T locs X eT N
  obtain ⟨hd, rfl⟩ := hd
  obtain ⟨s₂, o, st, r⟩ := K T locs X eT N
  exact ⟨s₂, o, XS.aconstNull X.here hx rfl hd st, r⟩
theorem iIadd (C : Cx B l Z a0 R y b mx rt) {x z v : Int32} (hd : De b pc (.iadd) 1 n) (hv : x + z = v) (K : Go B n0 Q h ce sl n Ls (.int v :: S)) : Go B n0 Q h ce sl pc Ls (.int z :: .int x :: S) := by
  obtain ⟨p, l', e, R', s, m, args, below, meth, c⟩ := B
  obtain ⟨rfl, rfl, hx, rfl, hml, hown, hnm, hret, hlk, hZ, hw⟩ := C
  intro T locs X eT N
  obtain ⟨hd, rfl⟩ := hd
  subst hv
  obtain ⟨s₂, o, st, r⟩ := K T locs X eT N
  exact ⟨s₂, o, XS.iadd X.here hx rfl hd rfl st, r⟩
theorem iIsub (C : Cx B l Z a0 R y b mx rt) {x z v : Int32} (hd : De b pc (.isub) 1 n) (hv : x - z = v) (K : Go B n0 Q h ce sl n Ls (.int v :: S)) : Go B n0 Q h ce sl pc Ls (.int z :: .int x :: S) := by
  obtain ⟨p, l', e, R', s, m, args, below, meth, c⟩ := B
  obtain ⟨rfl, rfl, hx, rfl, hml, hown, hnm, hret, hlk, hZ, hw⟩ := C
  intro T locs X eT N
  obtain ⟨hd, rfl⟩ := hd
  subst hv
  obtain ⟨s₂, o, st, r⟩ := K T locs X eT N
  exact ⟨s₂, o, XS.isub X.here hx rfl hd rfl st, r⟩
theorem iIand (C : Cx B l Z a0 R y b mx rt) {x z v : Int32} (hd : De b pc (.iand) 1 n) (hv : x &&& z = v) (K : Go B n0 Q h ce sl n Ls (.int v :: S)) : Go B n0 Q h ce sl pc Ls (.int z :: .int x :: S) := by
  obtain ⟨p, l', e, R', s, m, args, below, meth, c⟩ := B
  obtain ⟨rfl, rfl, hx, rfl, hml, hown, hnm, hret, hlk, hZ, hw⟩ := C
  intro T locs X eT N
  obtain ⟨hd, rfl⟩ := hd
  subst hv
  obtain ⟨s₂, o, st, r⟩ := K T locs X eT N
  exact ⟨s₂, o, XS.iand X.here hx rfl hd rfl st, r⟩
theorem iImul (C : Cx B l Z a0 R y b mx rt) {x z v : Int32} (hd : De b pc (.imul) 1 n) (hv : x * z = v) (K : Go B n0 Q h ce sl n Ls (.int v :: S)) : Go B n0 Q h ce sl pc Ls (.int z :: .int x :: S) := by
  obtain ⟨p, l', e, R', s, m, args, below, meth, c⟩ := B
  obtain ⟨rfl, rfl, hx, rfl, hml, hown, hnm, hret, hlk, hZ, hw⟩ := C
  intro T locs X eT N
  obtain ⟨hd, rfl⟩ := hd
  subst hv
  obtain ⟨s₂, o, st, r⟩ := K T locs X eT N
  exact ⟨s₂, o, XS.imul X.here hx rfl hd rfl st, r⟩
theorem iIdiv (C : Cx B l Z a0 R y b mx rt) {x z v : Int32} (hd : De b pc (.idiv) 1 n) (hz : z ≠ 0) (hv : x / z = v) (K : Go B n0 Q h ce sl n Ls (.int v :: S)) : Go B n0 Q h ce sl pc Ls (.int z :: .int x :: S) := by
  obtain ⟨p, l', e, R', s, m, args, below, meth, c⟩ := B
  obtain ⟨rfl, rfl, hx, rfl, hml, hown, hnm, hret, hlk, hZ, hw⟩ := C
  intro T locs X eT N
  obtain ⟨hd, rfl⟩ := hd
  subst hv
  obtain ⟨s₂, o, st, r⟩ := K T locs X eT N
  exact ⟨s₂, o, XS.idiv X.here hx rfl hd rfl hz st, r⟩
theorem iIrem (C : Cx B l Z a0 R y b mx rt) {x z v : Int32} (hd : De b pc (.irem) 1 n) (hz : z ≠ 0) (hv : x % z = v) (K : Go B n0 Q h ce sl n Ls (.int v :: S)) : Go B n0 Q h ce sl pc Ls (.int z :: .int x :: S) := by
  obtain ⟨p, l', e, R', s, m, args, below, meth, c⟩ := B
  obtain ⟨rfl, rfl, hx, rfl, hml, hown, hnm, hret, hlk, hZ, hw⟩ := C
  intro T locs X eT N
  obtain ⟨hd, rfl⟩ := hd
  subst hv
  obtain ⟨s₂, o, st, r⟩ := K T locs X eT N
  exact ⟨s₂, o, iremM X hx rfl hd rfl hz st, r⟩
theorem iDup (C : Cx B l Z a0 R y b mx rt) {x : Value} (hd : De b pc (.dup) 1 n) (hc : x.category = 1) (K : Go B n0 Q h ce sl n Ls (x :: x :: S)) : Go B n0 Q h ce sl pc Ls (x :: S) := by
  obtain ⟨p, l', e, R', s, m, args, below, meth, c⟩ := B
  obtain ⟨rfl, rfl, hx, rfl, hml, hown, hnm, hret, hlk, hZ, hw⟩ := C
  intro T locs X eT N
  obtain ⟨hd, rfl⟩ := hd
  obtain ⟨s₂, o, st, r⟩ := K T locs X eT N
  exact ⟨s₂, o, XS.dup X.here hx rfl hd rfl hc st, r⟩
theorem iPop (C : Cx B l Z a0 R y b mx rt) {x : Value} (hd : De b pc (.pop) 1 n) (hc : x.category = 1) (K : Go B n0 Q h ce sl n Ls (S)) : Go B n0 Q h ce sl pc Ls (x :: S) := by
  obtain ⟨p, l', e, R', s, m, args, below, meth, c⟩ := B
  obtain ⟨rfl, rfl, hx, rfl, hml, hown, hnm, hret, hlk, hZ, hw⟩ := C
  intro T locs X eT N
  obtain ⟨hd, rfl⟩ := hd
  obtain ⟨s₂, o, st, r⟩ := K T locs X eT N
  exact ⟨s₂, o, XT.pop X.here hx rfl hd rfl hc st, r⟩
theorem iIstoreN (C : Cx B l Z a0 R y b mx rt) {k : Fin 4} {x : Int32} (hd : De b pc (.istore_n k) 1 n) (hl : storeLocals Ls k.val (.int x) = some Ls') (K : Go B n0 Q h ce sl n Ls' (S)) : Go B n0 Q h ce sl pc Ls (.int x :: S) := by
  obtain ⟨p, l', e, R', s, m, args, below, meth, c⟩ := B
  obtain ⟨rfl, rfl, hx, rfl, hml, hown, hnm, hret, hlk, hZ, hw⟩ := C
  intro T locs X eT N
  obtain ⟨hd, rfl⟩ := hd
  obtain ⟨s₂, o, st, r⟩ := K T locs X eT N
  exact ⟨s₂, o, XS.istoreN X.here hx rfl hd rfl hl st, r⟩
theorem iIstore (C : Cx B l Z a0 R y b mx rt) {k : Nat} {x : Int32} (hd : De b pc (.istore k) 2 n) (hl : storeLocals Ls k (.int x) = some Ls') (K : Go B n0 Q h ce sl n Ls' (S)) : Go B n0 Q h ce sl pc Ls (.int x :: S) := by
  obtain ⟨p, l', e, R', s, m, args, below, meth, c⟩ := B
  obtain ⟨rfl, rfl, hx, rfl, hml, hown, hnm, hret, hlk, hZ, hw⟩ := C
  intro T locs X eT N
  obtain ⟨hd, rfl⟩ := hd
  obtain ⟨s₂, o, st, r⟩ := K T locs X eT N
  exact ⟨s₂, o, XS.istore X.here hx rfl hd rfl hl st, r⟩
theorem iAstoreN (C : Cx B l Z a0 R y b mx rt) {k : Fin 4} {x : Value} (hd : De b pc (.astore_n k) 1 n) (hv : x.isRef = true) (hl : storeLocals Ls k.val x = some Ls') (K : Go B n0 Q h ce sl n Ls' (S)) : Go B n0 Q h ce sl pc Ls (x :: S) := by
  obtain ⟨p, l', e, R', s, m, args, below, meth, c⟩ := B
  obtain ⟨rfl, rfl, hx, rfl, hml, hown, hnm, hret, hlk, hZ, hw⟩ := C
  intro T locs X eT N
  obtain ⟨hd, rfl⟩ := hd
  obtain ⟨s₂, o, st, r⟩ := K T locs X eT N
  exact ⟨s₂, o, XS.astoreN X.here hx rfl hd rfl hv hl st, r⟩
theorem iAstore (C : Cx B l Z a0 R y b mx rt) {k : Nat} {x : Value} (hd : De b pc (.astore k) 2 n) (hv : x.isRef = true) (hl : storeLocals Ls k x = some Ls') (K : Go B n0 Q h ce sl n Ls' (S)) : Go B n0 Q h ce sl pc Ls (x :: S) := by
  obtain ⟨p, l', e, R', s, m, args, below, meth, c⟩ := B
  obtain ⟨rfl, rfl, hx, rfl, hml, hown, hnm, hret, hlk, hZ, hw⟩ := C
  intro T locs X eT N
  obtain ⟨hd, rfl⟩ := hd
  obtain ⟨s₂, o, st, r⟩ := K T locs X eT N
  exact ⟨s₂, o, XS.astore X.here hx rfl hd rfl hv hl st, r⟩
theorem iIinc (C : Cx B l Z a0 R y b mx rt) {k : Nat} {cst : Int} {x v : Int32} (hd : De b pc (.iinc k cst) 3 n) (hl : Ls[k]? = some (.val (.int x))) (hv : x + Int32.ofInt cst = v) (hl' : storeLocals Ls k (.int v) = some Ls') (K : Go B n0 Q h ce sl n Ls' (S)) : Go B n0 Q h ce sl pc Ls (S) := by
  obtain ⟨p, l', e, R', s, m, args, below, meth, c⟩ := B
  obtain ⟨rfl, rfl, hx, rfl, hml, hown, hnm, hret, hlk, hZ, hw⟩ := C
  intro T locs X eT N
  obtain ⟨hd, rfl⟩ := hd
  subst hv
  obtain ⟨s₂, o, st, r⟩ := K T locs X eT N
  exact ⟨s₂, o, XS.iinc X.here hx rfl hd hl hl' st, r⟩
theorem iI2b (C : Cx B l Z a0 R y b mx rt) {x v : Int32} (hd : De b pc (.i2b) 1 n) (hv : x.toInt8.toInt32 = v) (K : Go B n0 Q h ce sl n Ls (.int v :: S)) : Go B n0 Q h ce sl pc Ls (.int x :: S) := by
  obtain ⟨p, l', e, R', s, m, args, below, meth, c⟩ := B
  obtain ⟨rfl, rfl, hx, rfl, hml, hown, hnm, hret, hlk, hZ, hw⟩ := C
  intro T locs X eT N
  obtain ⟨hd, rfl⟩ := hd
  subst hv
  obtain ⟨s₂, o, st, r⟩ := K T locs X eT N
  exact ⟨s₂, o, XT.i2b X.here hx rfl hd rfl st, r⟩
theorem iI2c (C : Cx B l Z a0 R y b mx rt) {x v : Int32} (hd : De b pc (.i2c) 1 n) (hv : x.toUInt32.toUInt16.toUInt32.toInt32 = v) (K : Go B n0 Q h ce sl n Ls (.int v :: S)) : Go B n0 Q h ce sl pc Ls (.int x :: S) := by
  obtain ⟨p, l', e, R', s, m, args, below, meth, c⟩ := B
  obtain ⟨rfl, rfl, hx, rfl, hml, hown, hnm, hret, hlk, hZ, hw⟩ := C
  intro T locs X eT N
  obtain ⟨hd, rfl⟩ := hd
  subst hv
  obtain ⟨s₂, o, st, r⟩ := K T locs X eT N
  exact ⟨s₂, o, XT.i2c X.here hx rfl hd rfl st, r⟩
theorem iIushr (C : Cx B l Z a0 R y b mx rt) {x z v : Int32} (hd : De b pc (.iushr) 1 n) (hv : (x.toUInt32 >>> (z &&& 31).toUInt32).toInt32 = v) (K : Go B n0 Q h ce sl n Ls (.int v :: S)) : Go B n0 Q h ce sl pc Ls (.int z :: .int x :: S) := by
  obtain ⟨p, l', e, R', s, m, args, below, meth, c⟩ := B
  obtain ⟨rfl, rfl, hx, rfl, hml, hown, hnm, hret, hlk, hZ, hw⟩ := C
  intro T locs X eT N
  obtain ⟨hd, rfl⟩ := hd
  subst hv
  obtain ⟨s₂, o, st, r⟩ := K T locs X eT N
  exact ⟨s₂, o, XT.iushr X.here hx rfl hd rfl st, r⟩
theorem iIfF (C : Cx B l Z a0 R y b mx rt) {cd : ClassFile.Cond} {o : Int} {x : Int32} (hd : De b pc (.ifCond cd o) 3 n) (hc : ifCond.holds cd x = false) (K : Go B n0 Q h ce sl n Ls (S)) : Go B n0 Q h ce sl pc Ls (.int x :: S) := by
  obtain ⟨p, l', e, R', s, m, args, below, meth, c⟩ := B
  obtain ⟨rfl, rfl, hx, rfl, hml, hown, hnm, hret, hlk, hZ, hw⟩ := C
  intro T locs X eT N
  obtain ⟨hd, rfl⟩ := hd
  obtain ⟨s₂, o, st, r⟩ := K T locs X eT N
  exact ⟨s₂, o, XS.ifNo X.here hx rfl hd rfl hc st, r⟩
theorem iCmpF (C : Cx B l Z a0 R y b mx rt) {cd : ClassFile.Cond} {o : Int} {x z : Int32} (hd : De b pc (.if_icmp cd o) 3 n) (hc : if_icmp.holds cd x z = false) (K : Go B n0 Q h ce sl n Ls (S)) : Go B n0 Q h ce sl pc Ls (.int z :: .int x :: S) := by
  obtain ⟨p, l', e, R', s, m, args, below, meth, c⟩ := B
  obtain ⟨rfl, rfl, hx, rfl, hml, hown, hnm, hret, hlk, hZ, hw⟩ := C
  intro T locs X eT N
  obtain ⟨hd, rfl⟩ := hd
  obtain ⟨s₂, o, st, r⟩ := K T locs X eT N
  exact ⟨s₂, o, XS.icmpNo X.here hx rfl hd rfl hc st, r⟩
theorem iNullF (C : Cx B l Z a0 R y b mx rt) {o : Int} {a : Addr} (hd : De b pc (.ifnull o) 3 n) (K : Go B n0 Q h ce sl n Ls (S)) : Go B n0 Q h ce sl pc Ls (.ref a :: S) := by
  obtain ⟨p, l', e, R', s, m, args, below, meth, c⟩ := B
  obtain ⟨rfl, rfl, hx, rfl, hml, hown, hnm, hret, hlk, hZ, hw⟩ := C
  intro T locs X eT N
  obtain ⟨hd, rfl⟩ := hd
  obtain ⟨s₂, o, st, r⟩ := K T locs X eT N
  exact ⟨s₂, o, XS.ifnullNo X.here hx rfl hd rfl st, r⟩
theorem iNonnullF (C : Cx B l Z a0 R y b mx rt) {o : Int} (hd : De b pc (.ifnonnull o) 3 n) (K : Go B n0 Q h ce sl n Ls (S)) : Go B n0 Q h ce sl pc Ls (.null :: S) := by
  obtain ⟨p, l', e, R', s, m, args, below, meth, c⟩ := B
  obtain ⟨rfl, rfl, hx, rfl, hml, hown, hnm, hret, hlk, hZ, hw⟩ := C
  intro T locs X eT N
  obtain ⟨hd, rfl⟩ := hd
  obtain ⟨s₂, o, st, r⟩ := K T locs X eT N
  exact ⟨s₂, o, XT.ifnonnullNo X.here hx rfl hd rfl st, r⟩
theorem iAcmpF (C : Cx B l Z a0 R y b mx rt) {cd : ClassFile.ACond} {o : Int} {x z : Value} (hd : De b pc (.if_acmp cd o) 3 n) (hx1 : x.isRef = true) (hz1 : z.isRef = true) (hc : XT.acmp cd x z = false) (K : Go B n0 Q h ce sl n Ls (S)) : Go B n0 Q h ce sl pc Ls (z :: x :: S) := by
  obtain ⟨p, l', e, R', s, m, args, below, meth, c⟩ := B
  obtain ⟨rfl, rfl, hx, rfl, hml, hown, hnm, hret, hlk, hZ, hw⟩ := C
  intro T locs X eT N
  obtain ⟨hd, rfl⟩ := hd
  obtain ⟨s₂, o, st, r⟩ := K T locs X eT N
  exact ⟨s₂, o, XT.acmpNo X.here hx rfl hd rfl hx1 hz1 hc st, r⟩
theorem iGoto (C : Cx B l Z a0 R y b mx rt) {o : Int} {t : Nat} (hd : De b pc (.goto o) 3 n) (hj : 0 ≤ (pc : Int) + o ∧ ((pc : Int) + o).toNat = t) (K : Go B n0 Q h ce sl t Ls (S)) : Go B n0 Q h ce sl pc Ls (S) := by
  obtain ⟨p, l', e, R', s, m, args, below, meth, c⟩ := B
  obtain ⟨rfl, rfl, hx, rfl, hml, hown, hnm, hret, hlk, hZ, hw⟩ := C
  intro T locs X eT N
  obtain ⟨hd, rfl⟩ := hd
  obtain ⟨s₂, oo, st, r⟩ := K T locs X eT N
  exact ⟨s₂, oo, XS.goto X.here hx rfl rfl hd hj.1 hj.2 st, r⟩
theorem iIfT (C : Cx B l Z a0 R y b mx rt) {cd : ClassFile.Cond} {o : Int} {x : Int32} {t : Nat} (hd : De b pc (.ifCond cd o) 3 n) (hc : ifCond.holds cd x = true) (hj : 0 ≤ (pc : Int) + o ∧ ((pc : Int) + o).toNat = t) (K : Go B n0 Q h ce sl t Ls (S)) : Go B n0 Q h ce sl pc Ls (.int x :: S) := by
  obtain ⟨p, l', e, R', s, m, args, below, meth, c⟩ := B
  obtain ⟨rfl, rfl, hx, rfl, hml, hown, hnm, hret, hlk, hZ, hw⟩ := C
  intro T locs X eT N
  obtain ⟨hd, rfl⟩ := hd
  obtain ⟨s₂, oo, st, r⟩ := K T locs X eT N
  exact ⟨s₂, oo, XS.ifYes X.here hx rfl rfl hd rfl hc hj.1 hj.2 st, r⟩
theorem iCmpT (C : Cx B l Z a0 R y b mx rt) {cd : ClassFile.Cond} {o : Int} {x z : Int32} {t : Nat} (hd : De b pc (.if_icmp cd o) 3 n) (hc : if_icmp.holds cd x z = true) (hj : 0 ≤ (pc : Int) + o ∧ ((pc : Int) + o).toNat = t) (K : Go B n0 Q h ce sl t Ls (S)) : Go B n0 Q h ce sl pc Ls (.int z :: .int x :: S) := by
  obtain ⟨p, l', e, R', s, m, args, below, meth, c⟩ := B
  obtain ⟨rfl, rfl, hx, rfl, hml, hown, hnm, hret, hlk, hZ, hw⟩ := C
  intro T locs X eT N
  obtain ⟨hd, rfl⟩ := hd
  obtain ⟨s₂, oo, st, r⟩ := K T locs X eT N
  exact ⟨s₂, oo, XS.icmpYes X.here hx rfl rfl hd rfl hc hj.1 hj.2 st, r⟩
theorem iNullT (C : Cx B l Z a0 R y b mx rt) {o : Int} {t : Nat} (hd : De b pc (.ifnull o) 3 n) (hj : 0 ≤ (pc : Int) + o ∧ ((pc : Int) + o).toNat = t) (K : Go B n0 Q h ce sl t Ls (S)) : Go B n0 Q h ce sl pc Ls (.null :: S) := by
  obtain ⟨p, l', e, R', s, m, args, below, meth, c⟩ := B
  obtain ⟨rfl, rfl, hx, rfl, hml, hown, hnm, hret, hlk, hZ, hw⟩ := C
  intro T locs X eT N
  obtain ⟨hd, rfl⟩ := hd
  obtain ⟨s₂, oo, st, r⟩ := K T locs X eT N
  exact ⟨s₂, oo, XS.ifnullYes X.here hx rfl rfl hd rfl hj.1 hj.2 st, r⟩
theorem iNonnullT (C : Cx B l Z a0 R y b mx rt) {o : Int} {a : Addr} {t : Nat} (hd : De b pc (.ifnonnull o) 3 n) (hj : 0 ≤ (pc : Int) + o ∧ ((pc : Int) + o).toNat = t) (K : Go B n0 Q h ce sl t Ls (S)) : Go B n0 Q h ce sl pc Ls (.ref a :: S) := by
  obtain ⟨p, l', e, R', s, m, args, below, meth, c⟩ := B
  obtain ⟨rfl, rfl, hx, rfl, hml, hown, hnm, hret, hlk, hZ, hw⟩ := C
  intro T locs X eT N
  obtain ⟨hd, rfl⟩ := hd
  obtain ⟨s₂, oo, st, r⟩ := K T locs X eT N
  exact ⟨s₂, oo, XT.ifnonnullYes X.here hx rfl rfl hd rfl hj.1 hj.2 st, r⟩
theorem iAcmpT (C : Cx B l Z a0 R y b mx rt) {cd : ClassFile.ACond} {o : Int} {x z : Value} {t : Nat} (hd : De b pc (.if_acmp cd o) 3 n) (hx1 : x.isRef = true) (hz1 : z.isRef = true) (hc : XT.acmp cd x z = true) (hj : 0 ≤ (pc : Int) + o ∧ ((pc : Int) + o).toNat = t) (K : Go B n0 Q h ce sl t Ls (S)) : Go B n0 Q h ce sl pc Ls (z :: x :: S) := by
  obtain ⟨p, l', e, R', s, m, args, below, meth, c⟩ := B
  obtain ⟨rfl, rfl, hx, rfl, hml, hown, hnm, hret, hlk, hZ, hw⟩ := C
  intro T locs X eT N
  obtain ⟨hd, rfl⟩ := hd
  obtain ⟨s₂, oo, st, r⟩ := K T locs X eT N
  exact ⟨s₂, oo, XT.acmpYes X.here hx rfl rfl hd rfl hx1 hz1 hc hj.1 hj.2 st, r⟩
theorem iLdcI (C : Cx B l Z a0 R y b mx rt) {i : Nat} {v : Int32} (w : Jvm.Cond.constant y.cls i v ∈ tables_1) (hd : De b pc (.ldc i) 2 n) (K : Go B n0 Q h ce sl n Ls (.int v :: S)) : Go B n0 Q h ce sl pc Ls S := by
  obtain ⟨p, l', e, R', s, m, args, below, meth, c⟩ := B
  obtain ⟨rfl, rfl, hx, rfl, hml, hown, hnm, hret, hlk, hZ, hw⟩ := C
  intro T locs X eT N
  obtain ⟨hd, rfl⟩ := hd
  obtain ⟨s₂, o, st, r⟩ := K T locs X eT N
  exact ⟨s₂, o, X.ldcInt hx hown (mvT hZ (hw _ w)) (g := mkF m pc Ls S) rfl hd _ st, r⟩
theorem iGetS (C : Cx B l Z a0 R y b mx rt) {i : Nat} {O f d : String} {v : Value} (w : Jvm.Cond.fieldLink y.cls i O f d ∈ tables_1) (F : Sta Z h O f d v) (hd : De b pc (.getstatic i) 3 n) (K : Go B n0 Q h ce sl n Ls (v :: S)) : Go B n0 Q h ce sl pc Ls S := by
  obtain ⟨p, l', e, R', s, m, args, below, meth, c⟩ := B
  obtain ⟨rfl, rfl, hx, rfl, hml, hown, hnm, hret, hlk, hZ, hw⟩ := C
  intro T locs X eT N
  obtain ⟨hd, rfl⟩ := hd
  obtain ⟨T', X', e', st⟩ := getS X hx hZ (host := "") hown (hw _ w) Via.refl eT F (g := mkF m pc Ls S) rfl hd
  obtain ⟨s₂, o, st', r⟩ := K T' locs X' e' N
  exact ⟨s₂, o, st _ st', r⟩
theorem iGetF (C : Cx B l Z a0 R y b mx rt) {i : Nat} {O f d : String} {a : Addr} {v : Value} (w : Jvm.Cond.fieldLink y.cls i O f d ∈ tables_1) (F : Fld Z h a O f d v) (hd : De b pc (.getfield i) 3 n) (K : Go B n0 Q h ce sl n Ls (v :: S)) : Go B n0 Q h ce sl pc Ls (.ref a :: S) := by
  obtain ⟨p, l', e, R', s, m, args, below, meth, c⟩ := B
  obtain ⟨rfl, rfl, hx, rfl, hml, hown, hnm, hret, hlk, hZ, hw⟩ := C
  intro T locs X eT N
  obtain ⟨hd, rfl⟩ := hd
  obtain ⟨T', X', e', st⟩ := getF X hx hZ hown (host := "") (Or.inl (hw _ w)) Via.refl eT F (g := mkF m pc Ls (.ref a :: S)) rfl rfl hd
  obtain ⟨s₂, o, st', r⟩ := K T' locs X' e' N
  exact ⟨s₂, o, st _ st', r⟩
theorem iPutF (C : Cx B l Z a0 R y b mx rt) {i kk : Nat} {O f d CC : String} {a : Addr} {v old : Value} {ty : FieldType} (w : Jvm.Cond.fieldLink y.cls i O f d ∈ tables_1) (F : Fld Z h a O f d old) (E : Exa Z h a CC) (L : Jvm.Cond.lays CC O f d ∈ tables_1 ∨ (Jvm.Cond.laysFinal CC O f d ∈ tables_1 ∧ y.cls = O ∧ y.name = "<init>")) (wi : Jvm.Cond.instantiable CC kk ∈ tables_1) (hty : parseFieldDescriptor d = some ty) (hn : narrow ty v = v) (hf : fits ty v = true) (ha : n0 ≤ a) (hd : De b pc (.putfield i) 3 n) (K : ∀ h', Wr h h' a (Jvm.RoadKit.slotOf Z O f d) v → Go B n0 Q h' ce sl n Ls S) : Go B n0 Q h ce sl pc Ls (v :: .ref a :: S) := by
  obtain ⟨p, l', e, R', s, m, args, below, meth, c⟩ := B
  obtain ⟨rfl, rfl, hx, rfl, hml, hown, hnm, hret, hlk, hZ, hw⟩ := C
  intro T locs X eT N
  obtain ⟨hd, rfl⟩ := hd
  obtain ⟨T', h', X', e', W, st⟩ := putF X hx hZ hown (host := "") (Or.inl (hw _ w)) Via.refl eT F E (L.imp (fun q => hw _ q) fun q => ⟨hw _ q.1, q.2.1, hnm.trans q.2.2⟩) (hw _ wi) hty hn hf (g := mkF m pc Ls (v :: .ref a :: S)) rfl rfl hd
  obtain ⟨s₂, o, st', r⟩ := K h' W T' _ X' e' (Fr.snoc X' N ha)
  exact ⟨s₂, o, st _ st', r⟩
theorem iNew (C : Cx B l Z a0 R y b mx rt) {i kk ce' sl' : Nat} {CC : String} (w1 : Jvm.Cond.classLink y.cls i CC ∈ tables_1) (w2 : Jvm.Cond.instantiable CC kk ∈ tables_1) (w3 : Jvm.Cond.initialized CC ∈ tables_1) (hd : De b pc (.new i) 3 n) (hc : ce + 1 = ce' ∧ sl + kk = sl' ∧ ce' ≤ R.cells ∧ sl' ≤ R.slots) (K : ∀ (h' : Heap) (a : Addr), a = h.size → Ext h h' → Exa Z h' a CC → (∀ {O nm d : String} {ty : FieldType}, Laid Z a0 CC O nm d → parseFieldDescriptor d = some ty → Fld Z h' a O nm d (defaultValue ty)) → Go B n0 Q h' ce' sl' n Ls (.ref a :: S)) : Go B n0 Q h ce sl pc Ls S := by
  obtain ⟨p, l', e, R', s, m, args, below, meth, c⟩ := B
  obtain ⟨rfl, rfl, hx, rfl, hml, hown, hnm, hret, hlk, hZ, hw⟩ := C
  intro T locs X eT N
  obtain ⟨hd, rfl⟩ := hd
  obtain ⟨rfl, rfl, hc, hs⟩ := hc
  obtain ⟨T', h', X', e', E, A, D, -, st⟩ := newO X hx hZ hown (hw _ w1) (hw _ w2) (hw _ w3) eT (g := mkF m pc Ls S) rfl hd hc hs
  obtain ⟨s₂, o, st', r⟩ := K h' _ rfl E A D T' locs X' e' N
  exact ⟨s₂, o, st _ st', r⟩
theorem iInitO (C : Cx B l Z a0 R y b mx rt) {i W : Nat} {a : Addr} (w1 : Jvm.Cond.methodLink y.cls i Lib.objectInit ∈ tables_1) (w2 : Jvm.Cond.instanceMethod Lib.objectInit ∈ tables_1) (w3 : Jvm.Cond.code Lib.objectInit ⟨#[0xb1]⟩ 1 none ∈ tables_1) (hd : De b pc (.invokespecial i) 3 n) (hsz : Ls.size = mx) (hf : 1 ≤ R.frames) (hW : (S.map fun v => v.category).sum = W) (hl : W + 12 ≤ R.locals) (K : Go B n0 Q h ce sl n Ls S) : Go B n0 Q h ce sl pc Ls (.ref a :: S) := by
  obtain ⟨p, l', e, R', s, m, args, below, meth, c⟩ := B
  obtain ⟨rfl, rfl, hx, rfl, hml, hown, hnm, hret, hlk, hZ, hw⟩ := C
  intro T locs X eT N
  obtain ⟨hd, rfl⟩ := hd
  obtain ⟨T', X', e', st⟩ := initO X hx hZ hown (hw _ w1) (hw _ w2) (hw _ w3) eT (g := mkF m pc Ls (.ref a :: S)) rfl (by rw [hml]; exact hsz) rfl hd hf (W := W) (by show 2 * 0 + _ ≤ _; omega) hl
  obtain ⟨s₂, o, st', r⟩ := K T' locs X' e' N
  exact ⟨s₂, o, st _ st', r⟩
def Pay (l : Launch) (Z : State) (R : Room) (yc : MethodName) (len W : Nat) (as' : Array Value) (n0 : Nat) (h : Heap) (cc ss : Nat) (Qc : Option Value → Heap → Prop) : Prop :=
  ∀ (p : Program) (e : Env) (below : List Frame) (s : State) (args : Array Value), Z.Warmed39 s.vm → Back l R p e below s args yc len W (fun A a => a = as' ∧ A.U.heap = h ∧ A.cells + cc ≤ R.cells ∧ A.slots + ss ≤ R.slots) (fun A _ v B => ∃ L, QQ n0 Qc v B.U.heap L ∧ B.locs = A.locs ++ L ∧ B.cells = A.cells + cc ∧ B.slots = A.slots + ss)
theorem Pay.of {yc : MethodName} {cb : ByteArray} {cm len W : Nat} {cr : Option FieldType} {rm : Room} {as' : Array Value} {Qc : Option Value → Heap → Prop} (hM : Pays l Z yc cb cm cr rm as' n0 h Qc) (hw : ∀ d ∈ tables_1, d.before a0 Z = true) (w4 : Jvm.Cond.code yc cb cm cr ∈ tables_1) (w3 : Jvm.Cond.initialized yc.cls ∈ tables_1) (hr1 : rm.frames + 1 ≤ R.frames) (hr2 : W + (cm + 11) + rm.locals ≤ R.locals) : Pay l Z R yc len W as' n0 h rm.cells rm.slots Qc :=
  fun p e below s args hZ => backOf (W := W) (hM []) hZ (hw _ w4) (hw _ w3) hr1 hr2
theorem Cx.words (C : Cx B l Z a0 R y b mx rt) : ∀ d ∈ tables_1, d.before a0 Z = true := by
  obtain ⟨p, l', e, R', s, m, args, below, meth, c⟩ := B
  obtain ⟨rfl, rfl, hx, rfl, hml, hown, hnm, hret, hlk, hZ, hw⟩ := C
  exact hw
theorem iCallSB (C : Cx B l Z a0 R y b mx rt) {yc : MethodName} {as' : Array Value} {Qc : Option Value → Heap → Prop} {i W cc ss ce' sl' : Nat} {argsL : List Value} {cbx : ByteArray} {cmx : Nat} {crx : Option FieldType} (hM : Pay l Z R yc 3 W as' n0 h cc ss Qc) (w1 : Jvm.Cond.methodLink y.cls i yc ∈ tables_1) (w2 : Jvm.Cond.static yc ∈ tables_1) (w3 : Jvm.Cond.initialized yc.cls ∈ tables_1) (w4 : Jvm.Cond.code yc cbx cmx crx ∈ tables_1) (hy : yc.cls ≠ "java/lang/invoke/MethodHandle" ∧ yc.cls ≠ "java/lang/invoke/VarHandle") (hlen : ∀ sig, parseMethodDescriptor yc.desc = some sig → argsL.length = sig.parameters.length) (hS : S = argsL.reverse ++ S') (has : argsL.toArray = as') (hd : De b pc (.invokestatic i) 3 n) (hsz : Ls.size = mx) (hW : (S'.map fun v => v.category).sum = W) (hr : ce + cc = ce' ∧ sl + ss = sl' ∧ ce' ≤ R.cells ∧ sl' ≤ R.slots) (K : ∀ (v : Option Value) (h' : Heap), Qc v h' → Go B n0 Q h' ce' sl' n Ls (v.toList ++ S')) : Go B n0 Q h ce sl pc Ls S := by
  obtain ⟨p, l', e, R', s, m, args, below, meth, c⟩ := B
  obtain ⟨rfl, rfl, hx, rfl, hml, hown, hnm, hret, hlk, hZ, hw⟩ := C
  intro T locs X eT N
  obtain ⟨hd, rfl⟩ := hd
  obtain ⟨rfl, rfl, hr3, hr4⟩ := hr
  subst hS has
  obtain ⟨v, vm₁, ⟨T', L', k', n'⟩, -, X', ⟨Lc, hQ, l', y', z'⟩, st⟩ := Jvm.LawKit.callS X hx (y := yc) hown (mvT hZ (hw _ w1)) (mvT hZ (hw _ w2)) (mvT hZ (hw _ w3)) (mvT hZ (hw _ w4)) hy (hM p e below s args hZ) (g := mkF m pc Ls (argsL.reverse ++ S')) rfl (by rw [hml]; exact hsz) (argsL := argsL) (rest := S') hlen rfl (by show 2 * 0 + _ ≤ _; omega) hd (fun _ _ => ⟨rfl, eT, hr3, hr4⟩)
  dsimp only [Pt.U, Pt.locs, Pt.cells, Pt.slots] at X' l' y' z' st hQ
  subst l' y' z'
  obtain ⟨s₂, o, st', r⟩ := K v _ hQ.1 T' _ X' rfl (Fr.app N hQ.2)
  exact ⟨s₂, o, st _ st', r⟩
theorem iCallS (C : Cx B l Z a0 R y b mx rt) {yc : MethodName} {cb : ByteArray} {cm : Nat} {cr : Option FieldType} {rm : Room} {as' : Array Value} {Qc : Option Value → Heap → Prop} {i W ce' sl' : Nat} {argsL : List Value} (hM : Pays l Z yc cb cm cr rm as' n0 h Qc) (w1 : Jvm.Cond.methodLink y.cls i yc ∈ tables_1) (w2 : Jvm.Cond.static yc ∈ tables_1) (w3 : Jvm.Cond.initialized yc.cls ∈ tables_1) (w4 : Jvm.Cond.code yc cb cm cr ∈ tables_1) (hy : yc.cls ≠ "java/lang/invoke/MethodHandle" ∧ yc.cls ≠ "java/lang/invoke/VarHandle") (hlen : ∀ sig, parseMethodDescriptor yc.desc = some sig → argsL.length = sig.parameters.length) (hS : S = argsL.reverse ++ S') (has : argsL.toArray = as') (hd : De b pc (.invokestatic i) 3 n) (hsz : Ls.size = mx) (hW : (S'.map fun v => v.category).sum = W) (hr : rm.frames + 1 ≤ R.frames ∧ W + (cm + 11) + rm.locals ≤ R.locals ∧ ce + rm.cells = ce' ∧ sl + rm.slots = sl' ∧ ce' ≤ R.cells ∧ sl' ≤ R.slots) (K : ∀ (v : Option Value) (h' : Heap), Qc v h' → Go B n0 Q h' ce' sl' n Ls (v.toList ++ S')) : Go B n0 Q h ce sl pc Ls S :=
  iCallSB C (Pay.of hM C.words w4 w3 hr.1 hr.2.1) w1 w2 w3 w4 hy hlen hS has hd hsz hW hr.2.2 K
theorem iCallIB (C : Cx B l Z a0 R y b mx rt) {yc : MethodName} {as' : Array Value} {Qc : Option Value → Heap → Prop} {i W cc ss ce' sl' : Nat} {argsL : List Value} {a : Addr} {cbx : ByteArray} {cmx : Nat} (hM : Pay l Z R yc 3 W as' n0 h cc ss Qc) (hi : yc.name = "<init>") (w1 : Jvm.Cond.methodLink y.cls i yc ∈ tables_1) (w2 : Jvm.Cond.instanceMethod yc ∈ tables_1) (w4 : Jvm.Cond.code yc cbx cmx none ∈ tables_1) (hy : yc.cls ≠ "java/lang/invoke/MethodHandle" ∧ yc.cls ≠ "java/lang/invoke/VarHandle") (hlen : ∀ sig, parseMethodDescriptor yc.desc = some sig → argsL.length = sig.parameters.length) (hS : S = argsL.reverse ++ .ref a :: S') (has : (.ref a :: argsL).toArray = as') (hd : De b pc (.invokespecial i) 3 n) (hsz : Ls.size = mx) (hW : (S'.map fun v => v.category).sum = W) (hr : ce + cc = ce' ∧ sl + ss = sl' ∧ ce' ≤ R.cells ∧ sl' ≤ R.slots) (K : ∀ (v : Option Value) (h' : Heap), Qc v h' → Go B n0 Q h' ce' sl' n Ls (v.toList ++ S')) : Go B n0 Q h ce sl pc Ls S := by
  obtain ⟨p, l', e, R', s, m, args, below, meth, c⟩ := B
  obtain ⟨rfl, rfl, hx, rfl, hml, hown, hnm, hret, hlk, hZ, hw⟩ := C
  intro T locs X eT N
  obtain ⟨hd, rfl⟩ := hd
  obtain ⟨rfl, rfl, hr3, hr4⟩ := hr
  subst hS has
  obtain ⟨v, vm₁, ⟨T', L', k', n'⟩, -, X', ⟨Lc, hQ, l', y', z'⟩, st⟩ := X.specialBack hx (y := yc) hi hown (mvT hZ (hw _ w1)) (mvT hZ (hw _ w2)) (mvT hZ (hw _ w4)) hy (hM p e below s args hZ) (g := mkF m pc Ls (argsL.reverse ++ .ref a :: S')) rfl (by rw [hml]; exact hsz) (Steps.refl _) (a := a) (argsL := argsL) (rest := S') hlen rfl (by show 2 * 0 + _ ≤ _; omega) hd (fun _ _ => ⟨rfl, eT, hr3, hr4⟩)
  dsimp only [Pt.U, Pt.locs, Pt.cells, Pt.slots] at X' l' y' z' st hQ
  subst l' y' z'
  obtain ⟨s₂, o, st', r⟩ := K v _ hQ.1 T' _ X' rfl (Fr.app N hQ.2)
  exact ⟨s₂, o, st.trans st', r⟩
theorem iCallI (C : Cx B l Z a0 R y b mx rt) {yc : MethodName} {cb : ByteArray} {cm : Nat} {rm : Room} {as' : Array Value} {Qc : Option Value → Heap → Prop} {i W ce' sl' : Nat} {argsL : List Value} {a : Addr} (hM : Pays l Z yc cb cm none rm as' n0 h Qc) (hi : yc.name = "<init>") (w1 : Jvm.Cond.methodLink y.cls i yc ∈ tables_1) (w2 : Jvm.Cond.instanceMethod yc ∈ tables_1) (w3 : Jvm.Cond.initialized yc.cls ∈ tables_1) (w4 : Jvm.Cond.code yc cb cm none ∈ tables_1) (hy : yc.cls ≠ "java/lang/invoke/MethodHandle" ∧ yc.cls ≠ "java/lang/invoke/VarHandle") (hlen : ∀ sig, parseMethodDescriptor yc.desc = some sig → argsL.length = sig.parameters.length) (hS : S = argsL.reverse ++ .ref a :: S') (has : (.ref a :: argsL).toArray = as') (hd : De b pc (.invokespecial i) 3 n) (hsz : Ls.size = mx) (hW : (S'.map fun v => v.category).sum = W) (hr : rm.frames + 1 ≤ R.frames ∧ W + (cm + 11) + rm.locals ≤ R.locals ∧ ce + rm.cells = ce' ∧ sl + rm.slots = sl' ∧ ce' ≤ R.cells ∧ sl' ≤ R.slots) (K : ∀ (v : Option Value) (h' : Heap), Qc v h' → Go B n0 Q h' ce' sl' n Ls (v.toList ++ S')) : Go B n0 Q h ce sl pc Ls S :=
  iCallIB C (Pay.of hM C.words w4 w3 hr.1 hr.2.1) hi w1 w2 w4 hy hlen hS has hd hsz hW hr.2.2 K
theorem iCallVB (C : Cx B l Z a0 R y b mx rt) {yc : MethodName} {as' : Array Value} {Qc : Option Value → Heap → Prop} {i W cc ss ce' sl' : Nat} {argsL : List Value} {a : Addr} {CC : String} {yd : MethodName} (hM : Pay l Z R yc 3 W as' n0 h cc ss Qc) (E : Exa Z h a CC) (w1 : Jvm.Cond.methodLink y.cls i yd ∈ tables_1) (w2 : Jvm.Cond.declares yd ∈ tables_1) (wn : yd = yc ∨ ∃ SS, Jvm.Cond.superclass yd.cls SS ∈ tables_1) (w5 : Jvm.Cond.selects CC yd yc ∈ tables_1) (w6 : Jvm.Cond.instanceMethod yc ∈ tables_1) (hy : yd.cls ≠ "java/lang/invoke/MethodHandle" ∧ yd.cls ≠ "java/lang/invoke/VarHandle") (hlen : ∀ sig, parseMethodDescriptor yd.desc = some sig → argsL.length = sig.parameters.length) (hS : S = argsL.reverse ++ .ref a :: S') (has : (.ref a :: argsL).toArray = as') (hd : De b pc (.invokevirtual i) 3 n) (hsz : Ls.size = mx) (hW : (S'.map fun v => v.category).sum = W) (hr : ce + cc = ce' ∧ sl + ss = sl' ∧ ce' ≤ R.cells ∧ sl' ≤ R.slots) (K : ∀ (v : Option Value) (h' : Heap), Qc v h' → Go B n0 Q h' ce' sl' n Ls (v.toList ++ S')) : Go B n0 Q h ce sl pc Ls S := by
  obtain ⟨p, l', e, R', s, m, args, below, meth, c⟩ := B
  obtain ⟨rfl, rfl, hx, rfl, hml, hown, hnm, hret, hlk, hZ, hw⟩ := C
  intro T locs X eT N
  obtain ⟨hd, rfl⟩ := hd
  obtain ⟨rfl, rfl, hr3, hr4⟩ := hr
  subst hS has
  obtain ⟨cq, kq, q1, q2, q3⟩ := isOf hZ eT E
  have nf : NotFace s yd := by
    rcases wn with rfl | ⟨SS, wn⟩
    · exact notFace_of_selects (args := #[]) (mvT hZ (hw _ w5))
    · exact nf_super (args := #[]) (mvT hZ (hw _ wn))
  obtain ⟨v, vm₁, ⟨T', L', k', n'⟩, -, X', ⟨Lc, hQ, l', y', z'⟩, st⟩ := X.virtualBack hx (y := yd) (z := yc) hown (mvT hZ (hw _ w1)) (mvT hZ (hw _ w2)) nf (mvT hZ (hw _ w5)) (mvT hZ (hw _ w6)) hy (hM p e below s args hZ) q1 q3 (g := mkF m pc Ls (argsL.reverse ++ .ref a :: S')) rfl (by rw [hml]; exact hsz) (Steps.refl _) (argsL := argsL) (rest := S') hlen rfl (by show 2 * 0 + _ ≤ _; omega) hd (fun _ _ => ⟨rfl, eT, hr3, hr4⟩)
  dsimp only [Pt.U, Pt.locs, Pt.cells, Pt.slots] at X' l' y' z' st hQ
  subst l' y' z'
  obtain ⟨s₂, o, st', r⟩ := K v _ hQ.1 T' _ X' rfl (Fr.app N hQ.2)
  exact ⟨s₂, o, st.trans st', r⟩
theorem iCallV (C : Cx B l Z a0 R y b mx rt) {yc : MethodName} {cb : ByteArray} {cm : Nat} {cr : Option FieldType} {rm : Room} {as' : Array Value} {Qc : Option Value → Heap → Prop} {i W ce' sl' : Nat} {argsL : List Value} {a : Addr} {CC : String} {yd : MethodName} (hM : Pays l Z yc cb cm cr rm as' n0 h Qc) (E : Exa Z h a CC) (w1 : Jvm.Cond.methodLink y.cls i yd ∈ tables_1) (w2 : Jvm.Cond.declares yd ∈ tables_1) (wn : yd = yc ∨ ∃ SS, Jvm.Cond.superclass yd.cls SS ∈ tables_1) (w5 : Jvm.Cond.selects CC yd yc ∈ tables_1) (w6 : Jvm.Cond.instanceMethod yc ∈ tables_1) (w3 : Jvm.Cond.initialized yc.cls ∈ tables_1) (w4 : Jvm.Cond.code yc cb cm cr ∈ tables_1) (hy : yd.cls ≠ "java/lang/invoke/MethodHandle" ∧ yd.cls ≠ "java/lang/invoke/VarHandle") (hlen : ∀ sig, parseMethodDescriptor yd.desc = some sig → argsL.length = sig.parameters.length) (hS : S = argsL.reverse ++ .ref a :: S') (has : (.ref a :: argsL).toArray = as') (hd : De b pc (.invokevirtual i) 3 n) (hsz : Ls.size = mx) (hW : (S'.map fun v => v.category).sum = W) (hr : rm.frames + 1 ≤ R.frames ∧ W + (cm + 11) + rm.locals ≤ R.locals ∧ ce + rm.cells = ce' ∧ sl + rm.slots = sl' ∧ ce' ≤ R.cells ∧ sl' ≤ R.slots) (K : ∀ (v : Option Value) (h' : Heap), Qc v h' → Go B n0 Q h' ce' sl' n Ls (v.toList ++ S')) : Go B n0 Q h ce sl pc Ls S :=
  iCallVB C (Pay.of hM C.words w4 w3 hr.1 hr.2.1) E w1 w2 wn w5 w6 hy hlen hS has hd hsz hW hr.2.2 K
theorem iCallFB (C : Cx B l Z a0 R y b mx rt) {yc : MethodName} {as' : Array Value} {Qc : Option Value → Heap → Prop} {i W cc ss ce' sl' : Nat} {argsL : List Value} {a : Addr} {CC : String} {yd : MethodName} {cnt : Nat} (hM : Pay l Z R yc 5 W as' n0 h cc ss Qc) (E : Exa Z h a CC) (w1 : Jvm.Cond.methodLink y.cls i yd ∈ tables_1) (w2 : Jvm.Cond.declares yd ∈ tables_1) (w7 : Jvm.Cond.interfaceMethod yd.cls yd.cls yd.name yd.desc ∈ tables_1) (h7 : ((Jvm.Cond.interfaceMethod yd.cls yd.cls yd.name yd.desc).onTables && (Jvm.Cond.interfaceMethod yd.cls yd.cls yd.name yd.desc).keepsFace) = true) (w5 : Jvm.Cond.selects CC yd yc ∈ tables_1) (w6 : Jvm.Cond.instanceMethod yc ∈ tables_1) (w8 : Jvm.Cond.publicMethod yc ∈ tables_1) (w9 : Jvm.Cond.unhidden CC yd.name yd.desc ∈ tables_1) (w0 : Jvm.Cond.castable CC yd.cls ∈ tables_1) (hy : yd.cls ≠ "java/lang/invoke/MethodHandle" ∧ yd.cls ≠ "java/lang/invoke/VarHandle") (hlen : ∀ sig, parseMethodDescriptor yd.desc = some sig → argsL.length = sig.parameters.length) (hS : S = argsL.reverse ++ .ref a :: S') (has : (.ref a :: argsL).toArray = as') (hd : De b pc (.invokeinterface i cnt) 5 n) (hsz : Ls.size = mx) (hW : (S'.map fun v => v.category).sum = W) (hr : ce + cc = ce' ∧ sl + ss = sl' ∧ ce' ≤ R.cells ∧ sl' ≤ R.slots) (K : ∀ (v : Option Value) (h' : Heap), Qc v h' → Go B n0 Q h' ce' sl' n Ls (v.toList ++ S')) : Go B n0 Q h ce sl pc Ls S := by
  obtain ⟨p, l', e, R', s, m, args, below, meth, c⟩ := B
  obtain ⟨rfl, rfl, hx, rfl, hml, hown, hnm, hret, hlk, hZ, hw⟩ := C
  intro T locs X eT N
  obtain ⟨hd, rfl⟩ := hd
  obtain ⟨rfl, rfl, hr3, hr4⟩ := hr
  subst hS has
  obtain ⟨cq, kq, q1, q2, q3⟩ := isOf hZ eT E
  obtain ⟨v, vm₁, ⟨T', L', k', n'⟩, -, X', ⟨Lc, hQ, l', y', z'⟩, st⟩ := X.interfaceBack hx (xi := yd) (y := yc) hown (mvT hZ (hw _ w1)) (mvT hZ (hw _ w2)) (mvT hZ (hw _ w7) h7) (mvT hZ (hw _ w5)) (mvT hZ (hw _ w6)) (mvT hZ (hw _ w8)) (mvT hZ (hw _ w9)) (mvT hZ (hw _ w0)) hy (hM p e below s args hZ) q1 q2 q3 (g := mkF m pc Ls (argsL.reverse ++ .ref a :: S')) rfl (by rw [hml]; exact hsz) (Steps.refl _) (argsL := argsL) (rest := S') hlen rfl (by show 2 * 0 + _ ≤ _; omega) hd (fun _ _ => ⟨rfl, eT, hr3, hr4⟩)
  dsimp only [Pt.U, Pt.locs, Pt.cells, Pt.slots] at X' l' y' z' st hQ
  subst l' y' z'
  obtain ⟨s₂, o, st', r⟩ := K v _ hQ.1 T' _ X' rfl (Fr.app N hQ.2)
  exact ⟨s₂, o, st.trans st', r⟩
theorem iCallF (C : Cx B l Z a0 R y b mx rt) {yc : MethodName} {cb : ByteArray} {cm : Nat} {cr : Option FieldType} {rm : Room} {as' : Array Value} {Qc : Option Value → Heap → Prop} {i W ce' sl' : Nat} {argsL : List Value} {a : Addr} {CC : String} {yd : MethodName} {cnt : Nat} (hM : Pays l Z yc cb cm cr rm as' n0 h Qc) (E : Exa Z h a CC) (w1 : Jvm.Cond.methodLink y.cls i yd ∈ tables_1) (w2 : Jvm.Cond.declares yd ∈ tables_1) (w7 : Jvm.Cond.interfaceMethod yd.cls yd.cls yd.name yd.desc ∈ tables_1) (h7 : ((Jvm.Cond.interfaceMethod yd.cls yd.cls yd.name yd.desc).onTables && (Jvm.Cond.interfaceMethod yd.cls yd.cls yd.name yd.desc).keepsFace) = true) (w5 : Jvm.Cond.selects CC yd yc ∈ tables_1) (w6 : Jvm.Cond.instanceMethod yc ∈ tables_1) (w8 : Jvm.Cond.publicMethod yc ∈ tables_1) (w9 : Jvm.Cond.unhidden CC yd.name yd.desc ∈ tables_1) (w0 : Jvm.Cond.castable CC yd.cls ∈ tables_1) (w3 : Jvm.Cond.initialized yc.cls ∈ tables_1) (w4 : Jvm.Cond.code yc cb cm cr ∈ tables_1) (hy : yd.cls ≠ "java/lang/invoke/MethodHandle" ∧ yd.cls ≠ "java/lang/invoke/VarHandle") (hlen : ∀ sig, parseMethodDescriptor yd.desc = some sig → argsL.length = sig.parameters.length) (hS : S = argsL.reverse ++ .ref a :: S') (has : (.ref a :: argsL).toArray = as') (hd : De b pc (.invokeinterface i cnt) 5 n) (hsz : Ls.size = mx) (hW : (S'.map fun v => v.category).sum = W) (hr : rm.frames + 1 ≤ R.frames ∧ W + (cm + 11) + rm.locals ≤ R.locals ∧ ce + rm.cells = ce' ∧ sl + rm.slots = sl' ∧ ce' ≤ R.cells ∧ sl' ≤ R.slots) (K : ∀ (v : Option Value) (h' : Heap), Qc v h' → Go B n0 Q h' ce' sl' n Ls (v.toList ++ S')) : Go B n0 Q h ce sl pc Ls S :=
  iCallFB C (Pay.of hM C.words w4 w3 hr.1 hr.2.1) E w1 w2 w7 h7 w5 w6 w8 w9 w0 hy hlen hS has hd hsz hW hr.2.2 K
theorem iLen (C : Cx B l Z a0 R y b mx rt) {a : Addr} {cl : Cell} {ty : FieldType} {z : Int32} (A : Arr Z h a cl ty) (hz : cl.slots.size.toInt32 = z) (hd : De b pc (.arraylength) 1 n) (K : Go B n0 Q h ce sl n Ls (.int z :: S)) : Go B n0 Q h ce sl pc Ls (.ref a :: S) := by
  obtain ⟨p, l', e, R', s, m, args, below, meth, c⟩ := B
  obtain ⟨rfl, rfl, hx, rfl, hml, hown, hnm, hret, hlk, hZ, hw⟩ := C
  intro T locs X eT N
  obtain ⟨hd, rfl⟩ := hd
  subst hz
  obtain ⟨s₂, o, st, r⟩ := K T locs X eT N
  exact ⟨s₂, o, X.arraylength hx (by rw [eT]; exact A.1) (State.isArrayOf_alike hZ.alike A.2.1) (g := mkF m pc Ls (.ref a :: S)) rfl rfl hd _ st, r⟩
theorem iIaload (C : Cx B l Z a0 R y b mx rt) {a : Addr} {cl : Cell} {j : Int32} {v : Value} (A : Arr Z h a cl .int) (hj : ¬ (j < 0 ∨ cl.slots.size ≤ j.toNatClampNeg)) (hv : cl.slots[j.toNatClampNeg]? = some v) (hd : De b pc (.iaload) 1 n) (K : Go B n0 Q h ce sl n Ls (v :: S)) : Go B n0 Q h ce sl pc Ls (.int j :: .ref a :: S) := by
  obtain ⟨p, l', e, R', s, m, args, below, meth, c⟩ := B
  obtain ⟨rfl, rfl, hx, rfl, hml, hown, hnm, hret, hlk, hZ, hw⟩ := C
  intro T locs X eT N
  obtain ⟨hd, rfl⟩ := hd
  obtain ⟨s₂, o, st, r⟩ := K T locs X eT N
  exact ⟨s₂, o, X.iaload hx (by rw [eT]; exact A.1) (State.isArrayOf_alike hZ.alike A.2.1) A.2.2 hj hv (g := mkF m pc Ls (.int j :: .ref a :: S)) rfl rfl hd _ st, r⟩
theorem iCaload (C : Cx B l Z a0 R y b mx rt) {a : Addr} {cl : Cell} {j : Int32} {v : Value} (A : Arr Z h a cl .char) (hj : ¬ (j < 0 ∨ cl.slots.size ≤ j.toNatClampNeg)) (hv : cl.slots[j.toNatClampNeg]? = some v) (hd : De b pc (.caload) 1 n) (K : Go B n0 Q h ce sl n Ls (v :: S)) : Go B n0 Q h ce sl pc Ls (.int j :: .ref a :: S) := by
  obtain ⟨p, l', e, R', s, m, args, below, meth, c⟩ := B
  obtain ⟨rfl, rfl, hx, rfl, hml, hown, hnm, hret, hlk, hZ, hw⟩ := C
  intro T locs X eT N
  obtain ⟨hd, rfl⟩ := hd
  obtain ⟨s₂, o, st, r⟩ := K T locs X eT N
  exact ⟨s₂, o, X.caload hx (by rw [eT]; exact A.1) (State.isArrayOf_alike hZ.alike A.2.1) A.2.2 hj hv (g := mkF m pc Ls (.int j :: .ref a :: S)) rfl rfl hd _ st, r⟩
theorem iBaload (C : Cx B l Z a0 R y b mx rt) {a : Addr} {cl : Cell} {j : Int32} {v : Value} (A : Arr Z h a cl .byte) (hj : ¬ (j < 0 ∨ cl.slots.size ≤ j.toNatClampNeg)) (hv : cl.slots[j.toNatClampNeg]? = some v) (hd : De b pc (.baload) 1 n) (K : Go B n0 Q h ce sl n Ls (v :: S)) : Go B n0 Q h ce sl pc Ls (.int j :: .ref a :: S) := by
  obtain ⟨p, l', e, R', s, m, args, below, meth, c⟩ := B
  obtain ⟨rfl, rfl, hx, rfl, hml, hown, hnm, hret, hlk, hZ, hw⟩ := C
  intro T locs X eT N
  obtain ⟨hd, rfl⟩ := hd
  obtain ⟨s₂, o, st, r⟩ := K T locs X eT N
  exact ⟨s₂, o, X.baloadBytes hx (by rw [eT]; exact A.1) (State.isArrayOf_alike hZ.alike A.2.1) A.2.2 hj hv (g := mkF m pc Ls (.int j :: .ref a :: S)) rfl rfl hd _ st, r⟩
theorem iLaload (C : Cx B l Z a0 R y b mx rt) {a : Addr} {cl : Cell} {j : Int32} {v : Value} (A : Arr Z h a cl .long) (hj : ¬ (j < 0 ∨ cl.slots.size ≤ j.toNatClampNeg)) (hv : cl.slots[j.toNatClampNeg]? = some v) (hd : De b pc (.laload) 1 n) (K : Go B n0 Q h ce sl n Ls (v :: S)) : Go B n0 Q h ce sl pc Ls (.int j :: .ref a :: S) := by
  obtain ⟨p, l', e, R', s, m, args, below, meth, c⟩ := B
  obtain ⟨rfl, rfl, hx, rfl, hml, hown, hnm, hret, hlk, hZ, hw⟩ := C
  intro T locs X eT N
  obtain ⟨hd, rfl⟩ := hd
  obtain ⟨s₂, o, st, r⟩ := K T locs X eT N
  exact ⟨s₂, o, X.laload hx (by rw [eT]; exact A.1) (State.isArrayOf_alike hZ.alike A.2.1) A.2.2 hj hv (g := mkF m pc Ls (.int j :: .ref a :: S)) rfl rfl hd _ st, r⟩
theorem iAaload (C : Cx B l Z a0 R y b mx rt) {a : Addr} {cl : Cell} {j : Int32} {v : Value} {ty : FieldType} (hty : ty.isReference = true) (A : Arr Z h a cl ty) (hj : ¬ (j < 0 ∨ cl.slots.size ≤ j.toNatClampNeg)) (hv : cl.slots[j.toNatClampNeg]? = some v) (hd : De b pc (.aaload) 1 n) (K : Go B n0 Q h ce sl n Ls (v :: S)) : Go B n0 Q h ce sl pc Ls (.int j :: .ref a :: S) := by
  obtain ⟨p, l', e, R', s, m, args, below, meth, c⟩ := B
  obtain ⟨rfl, rfl, hx, rfl, hml, hown, hnm, hret, hlk, hZ, hw⟩ := C
  intro T locs X eT N
  obtain ⟨hd, rfl⟩ := hd
  obtain ⟨s₂, o, st, r⟩ := K T locs X eT N
  exact ⟨s₂, o, X.aaload hx (by rw [eT]; exact A.1) (State.isArrayOf_alike hZ.alike A.2.1) hty A.2.2 hj hv (g := mkF m pc Ls (.int j :: .ref a :: S)) rfl rfl hd _ st, r⟩
theorem iNewP (C : Cx B l Z a0 R y b mx rt) {aty : ArrayType} {z : Int32} {cap ce' sl' : Nat} (w : Jvm.Cond.arrayClass (newarray.typeOf aty) ∈ tables_1) (hd : De b pc (.newarray aty) 2 n) (hz : ¬ z < 0) (hcap : z.toNatClampNeg ≤ cap) (hb : cap * 8 ≤ 536870912) (hc : ce + 1 = ce' ∧ sl + cap = sl' ∧ ce' ≤ R.cells ∧ sl' ≤ R.slots) (K : ∀ (h' : Heap) (a : Addr) (k : ClassId), a = h.size → Ext h h' → Arv Z h' a k (newarray.typeOf aty) z [] (defaultValue (newarray.typeOf aty)) → Go B n0 Q h' ce' sl' n Ls (.ref a :: S)) : Go B n0 Q h ce sl pc Ls (.int z :: S) := by
  obtain ⟨p, l', e, R', s, m, args, below, meth, c⟩ := B
  obtain ⟨rfl, rfl, hx, rfl, hml, hown, hnm, hret, hlk, hZ, hw⟩ := C
  intro T locs X eT N
  obtain ⟨hd, rfl⟩ := hd
  obtain ⟨rfl, rfl, hc, hs⟩ := hc
  obtain ⟨T', h', kA, X', e', E, A, st⟩ := newP X hx hZ (hw _ w) eT (g := mkF m pc Ls (.int z :: S)) rfl hd rfl hz hcap hb hc hs
  obtain ⟨s₂, o, st', r⟩ := K h' _ kA rfl E (Arv.new A hz) T' locs X' e' N
  exact ⟨s₂, o, st _ st', r⟩
theorem iIastore (C : Cx B l Z a0 R y b mx rt) {a : Addr} {cl : Cell} {j : Int32} {x : Int32} (A : Arr Z h a cl .int) (hj : ¬ (j < 0 ∨ cl.slots.size ≤ j.toNatClampNeg)) (ha : n0 ≤ a) (hd : De b pc (.iastore) 1 n) (K : ∀ h', Wr h h' a j.toNatClampNeg (.int x) → Go B n0 Q h' ce sl n Ls S) : Go B n0 Q h ce sl pc Ls (.int x :: .int j :: .ref a :: S) := by
  obtain ⟨p, l', e, R', s, m, args, below, meth, c⟩ := B
  obtain ⟨rfl, rfl, hx, rfl, hml, hown, hnm, hret, hlk, hZ, hw⟩ := C
  intro T locs X eT N
  obtain ⟨hd, rfl⟩ := hd
  obtain ⟨T', h', X', e', W, st⟩ := stI X hx hZ eT A (j := j) hj (g := mkF m pc Ls (.int x :: .int j :: .ref a :: S)) rfl rfl hd
  obtain ⟨s₂, o, st', r⟩ := K h' W T' _ X' e' (Fr.snoc X' N ha)
  exact ⟨s₂, o, st _ st', r⟩
theorem iCastore (C : Cx B l Z a0 R y b mx rt) {a : Addr} {cl : Cell} {j : Int32} {x : Int32} (A : Arr Z h a cl .char) (hj : ¬ (j < 0 ∨ cl.slots.size ≤ j.toNatClampNeg)) (ha : n0 ≤ a) (hd : De b pc (.castore) 1 n) (K : ∀ h', Wr h h' a j.toNatClampNeg (.int (nar .char x)) → Go B n0 Q h' ce sl n Ls S) : Go B n0 Q h ce sl pc Ls (.int x :: .int j :: .ref a :: S) := by
  obtain ⟨p, l', e, R', s, m, args, below, meth, c⟩ := B
  obtain ⟨rfl, rfl, hx, rfl, hml, hown, hnm, hret, hlk, hZ, hw⟩ := C
  intro T locs X eT N
  obtain ⟨hd, rfl⟩ := hd
  obtain ⟨T', h', X', e', W, st⟩ := stC X hx hZ eT A (j := j) hj (g := mkF m pc Ls (.int x :: .int j :: .ref a :: S)) rfl rfl hd
  obtain ⟨s₂, o, st', r⟩ := K h' W T' _ X' e' (Fr.snoc X' N ha)
  exact ⟨s₂, o, st _ st', r⟩
theorem iBastore (C : Cx B l Z a0 R y b mx rt) {a : Addr} {cl : Cell} {j : Int32} {x : Int32} (A : Arr Z h a cl .byte) (hj : ¬ (j < 0 ∨ cl.slots.size ≤ j.toNatClampNeg)) (ha : n0 ≤ a) (hd : De b pc (.bastore) 1 n) (K : ∀ h', Wr h h' a j.toNatClampNeg (.int (nar .byte x)) → Go B n0 Q h' ce sl n Ls S) : Go B n0 Q h ce sl pc Ls (.int x :: .int j :: .ref a :: S) := by
  obtain ⟨p, l', e, R', s, m, args, below, meth, c⟩ := B
  obtain ⟨rfl, rfl, hx, rfl, hml, hown, hnm, hret, hlk, hZ, hw⟩ := C
  intro T locs X eT N
  obtain ⟨hd, rfl⟩ := hd
  obtain ⟨T', h', X', e', W, st⟩ := stB X hx hZ eT A (j := j) hj (g := mkF m pc Ls (.int x :: .int j :: .ref a :: S)) rfl rfl hd
  obtain ⟨s₂, o, st', r⟩ := K h' W T' _ X' e' (Fr.snoc X' N ha)
  exact ⟨s₂, o, st _ st', r⟩
theorem iLastore (C : Cx B l Z a0 R y b mx rt) {a : Addr} {cl : Cell} {j : Int32} {x : Int64} (A : Arr Z h a cl .long) (hj : ¬ (j < 0 ∨ cl.slots.size ≤ j.toNatClampNeg)) (ha : n0 ≤ a) (hd : De b pc (.lastore) 1 n) (K : ∀ h', Wr h h' a j.toNatClampNeg (.long x) → Go B n0 Q h' ce sl n Ls S) : Go B n0 Q h ce sl pc Ls (.long x :: .int j :: .ref a :: S) := by
  obtain ⟨p, l', e, R', s, m, args, below, meth, c⟩ := B
  obtain ⟨rfl, rfl, hx, rfl, hml, hown, hnm, hret, hlk, hZ, hw⟩ := C
  intro T locs X eT N
  obtain ⟨hd, rfl⟩ := hd
  obtain ⟨T', h', X', e', W, st⟩ := stJ X hx hZ eT A (j := j) hj (g := mkF m pc Ls (.long x :: .int j :: .ref a :: S)) rfl rfl hd
  obtain ⟨s₂, o, st', r⟩ := K h' W T' _ X' e' (Fr.snoc X' N ha)
  exact ⟨s₂, o, st _ st', r⟩
theorem iAastore (C : Cx B l Z a0 R y b mx rt) {a : Addr} {cl : Cell} {j : Int32} {v : Value} {ty : FieldType} (A : Arr Z h a cl ty) (hj : ¬ (j < 0 ∨ cl.slots.size ≤ j.toNatClampNeg)) (hty : ty.isReference = true) (F : Sto Z h a v) (ha : n0 ≤ a) (hd : De b pc (.aastore) 1 n) (K : ∀ h', Wr h h' a j.toNatClampNeg v → Go B n0 Q h' ce sl n Ls S) : Go B n0 Q h ce sl pc Ls (v :: .int j :: .ref a :: S) := by
  obtain ⟨p, l', e, R', s, m, args, below, meth, c⟩ := B
  obtain ⟨rfl, rfl, hx, rfl, hml, hown, hnm, hret, hlk, hZ, hw⟩ := C
  intro T locs X eT N
  obtain ⟨hd, rfl⟩ := hd
  obtain ⟨T', h', X', e', W, st⟩ := stR X hx hZ eT A (j := j) hj hty F (g := mkF m pc Ls (v :: .int j :: .ref a :: S)) rfl rfl hd
  obtain ⟨s₂, o, st', r⟩ := K h' W T' _ X' e' (Fr.snoc X' N ha)
  exact ⟨s₂, o, st _ st', r⟩
theorem iCast (C : Cx B l Z a0 R y b mx rt) {i : Nat} {a : Addr} {K0 : String} (w : Jvm.Cond.classLink y.cls i K0 ∈ tables_1) (F : Ins Z h a K0 true) (hd : De b pc (.checkcast i) 3 n) (K : Go B n0 Q h ce sl n Ls (.ref a :: S)) : Go B n0 Q h ce sl pc Ls (.ref a :: S) := by
  obtain ⟨p, l', e, R', s, m, args, below, meth, c⟩ := B
  obtain ⟨rfl, rfl, hx, rfl, hml, hown, hnm, hret, hlk, hZ, hw⟩ := C
  intro T locs X eT N
  obtain ⟨hd, rfl⟩ := hd
  obtain ⟨T', X', e', st⟩ := castY X hx hZ hown (hw _ w) eT F (g := mkF m pc Ls (.ref a :: S)) rfl rfl hd
  obtain ⟨s₂, o, st', r⟩ := K T' locs X' e' N
  exact ⟨s₂, o, st _ st', r⟩
theorem iInstY (C : Cx B l Z a0 R y b mx rt) {i : Nat} {a : Addr} {K0 : String} (w : Jvm.Cond.classLink y.cls i K0 ∈ tables_1) (F : Ins Z h a K0 true) (hd : De b pc (.instanceof i) 3 n) (K : Go B n0 Q h ce sl n Ls (.int 1 :: S)) : Go B n0 Q h ce sl pc Ls (.ref a :: S) := by
  obtain ⟨p, l', e, R', s, m, args, below, meth, c⟩ := B
  obtain ⟨rfl, rfl, hx, rfl, hml, hown, hnm, hret, hlk, hZ, hw⟩ := C
  intro T locs X eT N
  obtain ⟨hd, rfl⟩ := hd
  obtain ⟨T', X', e', st⟩ := instY X hx hZ hown (hw _ w) eT F (g := mkF m pc Ls (.ref a :: S)) rfl rfl hd
  obtain ⟨s₂, o, st', r⟩ := K T' locs X' e' N
  exact ⟨s₂, o, st _ st', r⟩
theorem iInstN (C : Cx B l Z a0 R y b mx rt) {i : Nat} {a : Addr} {K0 CC : String} (w : Jvm.Cond.classLink y.cls i K0 ∈ tables_1) (E : Exa Z h a CC) (F : ∃ c t, Z.vm.findClass CC = some c ∧ Z.vm.findClass K0 = some t ∧ Z.vm.assignable c t = false) (hd : De b pc (.instanceof i) 3 n) (K : Go B n0 Q h ce sl n Ls (.int 0 :: S)) : Go B n0 Q h ce sl pc Ls (.ref a :: S) := by
  obtain ⟨p, l', e, R', s, m, args, below, meth, c⟩ := B
  obtain ⟨rfl, rfl, hx, rfl, hml, hown, hnm, hret, hlk, hZ, hw⟩ := C
  intro T locs X eT N
  obtain ⟨hd, rfl⟩ := hd
  obtain ⟨T', X', e', st⟩ := instNo X hx hZ hown (hw _ w) eT E F (g := mkF m pc Ls (.ref a :: S)) rfl rfl hd
  obtain ⟨s₂, o, st', r⟩ := K T' locs X' e' N
  exact ⟨s₂, o, st _ st', r⟩
theorem iRetV  (C : Cx B l Z a0 R y b mx none) (hd : De b pc (.return_) 1 n) (hc : ce ≤ R.cells ∧ sl ≤ R.slots) (hQ : Q none h) : Go B n0 Q h ce sl pc Ls ([]) := by
  obtain ⟨p, l', e, R', s, m, args, below, meth, c⟩ := B
  obtain ⟨rfl, rfl, hx, rfl, hml, hown, hnm, hret, hlk, hZ, hw⟩ := C
  intro T locs X eT N
  obtain ⟨hd, rfl⟩ := hd
  obtain ⟨fs, hr, hrun, hended, hW, hsame⟩ := X.leave (v := none) (fun q => by first | rfl | (rw [hret] at q; cases q)) hlk
  exact ⟨_, _, X.returnOut hx hret hd hr, hrun, hended, _, _, rfl, ⟨eT ▸ hQ, N⟩, ⟨_, rfl⟩, hW, hsame.mono hc.1 hc.2⟩
theorem iRetZ {z : Int32} {t : FieldType} (C : Cx B l Z a0 R y b mx (some t)) (hd : De b pc (.ireturn) 1 n) (ht : t = .boolean ∨ t = .byte ∨ t = .char ∨ t = .short) (hc : ce ≤ R.cells ∧ sl ≤ R.slots) (hQ : Q (some (.int (nar t z))) h) : Go B n0 Q h ce sl pc Ls (.int z :: S) := by
  obtain ⟨p, l', e, R', s, m, args, below, meth, c⟩ := B
  obtain ⟨rfl, rfl, hx, rfl, hml, hown, hnm, hret, hlk, hZ, hw⟩ := C
  intro T locs X eT N
  obtain ⟨hd, rfl⟩ := hd
  obtain ⟨fs, hr, hrun, hended, hW, hsame⟩ := X.leave (v := (some (.int (nar t z)))) (fun q => by first | rfl | (rw [hret] at q; cases q)) hlk
  exact ⟨_, _, retN X hx hret ht hd hr, hrun, hended, _, _, rfl, ⟨eT ▸ hQ, N⟩, ⟨_, rfl⟩, hW, hsame.mono hc.1 hc.2⟩
theorem iRetI {z : Int32} (C : Cx B l Z a0 R y b mx (some .int)) (hd : De b pc (.ireturn) 1 n) (hc : ce ≤ R.cells ∧ sl ≤ R.slots) (hQ : Q (some (.int z)) h) : Go B n0 Q h ce sl pc Ls (.int z :: S) := by
  obtain ⟨p, l', e, R', s, m, args, below, meth, c⟩ := B
  obtain ⟨rfl, rfl, hx, rfl, hml, hown, hnm, hret, hlk, hZ, hw⟩ := C
  intro T locs X eT N
  obtain ⟨hd, rfl⟩ := hd
  obtain ⟨fs, hr, hrun, hended, hW, hsame⟩ := X.leave (v := (some (.int z))) (fun q => by first | rfl | (rw [hret] at q; cases q)) hlk
  exact ⟨_, _, retOut X hx hret rfl (Or.inl ⟨rfl, Or.inl rfl, z, rfl⟩) hd hr, hrun, hended, _, _, rfl, ⟨eT ▸ hQ, N⟩, ⟨_, rfl⟩, hW, hsame.mono hc.1 hc.2⟩
theorem iRetA {w : Value} {t : FieldType} (C : Cx B l Z a0 R y b mx (some t)) (hd : De b pc (.areturn) 1 n) (ht : t.isReference = true) (hw' : w.isRef = true) (hna : narrow t w = w) (hc : ce ≤ R.cells ∧ sl ≤ R.slots) (hQ : Q (some w) h) : Go B n0 Q h ce sl pc Ls (w :: S) := by
  obtain ⟨p, l', e, R', s, m, args, below, meth, c⟩ := B
  obtain ⟨rfl, rfl, hx, rfl, hml, hown, hnm, hret, hlk, hZ, hw⟩ := C
  intro T locs X eT N
  obtain ⟨hd, rfl⟩ := hd
  obtain ⟨fs, hr, hrun, hended, hW, hsame⟩ := X.leave (v := (some w)) (fun q => by first | rfl | (rw [hret] at q; cases q)) hlk
  exact ⟨_, _, retOut X hx hret hna (Or.inr (Or.inr (Or.inr (Or.inr ⟨rfl, ht, hw'⟩)))) hd hr, hrun, hended, _, _, rfl, ⟨eT ▸ hQ, N⟩, ⟨_, rfl⟩, hW, hsame.mono hc.1 hc.2⟩
theorem iRetJ {z : Int64} (C : Cx B l Z a0 R y b mx (some .long)) (hd : De b pc (.lreturn) 1 n) (hc : ce ≤ R.cells ∧ sl ≤ R.slots) (hQ : Q (some (.long z)) h) : Go B n0 Q h ce sl pc Ls (.long z :: S) := by
  obtain ⟨p, l', e, R', s, m, args, below, meth, c⟩ := B
  obtain ⟨rfl, rfl, hx, rfl, hml, hown, hnm, hret, hlk, hZ, hw⟩ := C
  intro T locs X eT N
  obtain ⟨hd, rfl⟩ := hd
  obtain ⟨fs, hr, hrun, hended, hW, hsame⟩ := X.leave (v := (some (.long z))) (fun q => by first | rfl | (rw [hret] at q; cases q)) hlk
  exact ⟨_, _, retOut X hx hret rfl (Or.inr (Or.inl ⟨rfl, rfl, z, rfl⟩)) hd hr, hrun, hended, _, _, rfl, ⟨eT ▸ hQ, N⟩, ⟨_, rfl⟩, hW, hsame.mono hc.1 hc.2⟩
theorem oFresh {a : Addr} (O : Old Z n0 h) (g : a = h.size) : n0 ≤ a := by
  have q1 := O.1
  have q2 := O.2.1
  subst g
  omega
theorem oNe {a a' : Addr} (q : a < h.size) (g : a' = h.size) : a ≠ a' := Nat.ne_of_lt (g ▸ q)
theorem acE {x z : Value} (q : x = z) : XT.acmp .eq x z = true ∧ XT.acmp .ne x z = false := by
  show decide (x = z) = true ∧ decide (x ≠ z) = false
  simp [q]
theorem acN {x z : Value} (q : ¬ x = z) : XT.acmp .eq x z = false ∧ XT.acmp .ne x z = true := by
  show decide (x = z) = false ∧ decide (x ≠ z) = true
  simp [q]
theorem acNr {a a' : Addr} (q : ¬ a = a') : XT.acmp .eq (.ref a) (.ref a') = false ∧ XT.acmp .ne (.ref a) (.ref a') = true := acN fun r => q (Value.ref.inj r)
def QP (r : Option Value) (h0 : Heap) (v : Option Value) (h : Heap) : Prop := v = r ∧ h0 = h
theorem eqI_v {args : Array Value} {first s : State} {o : Option Outcome} {idx : List Nat} {t : Term} {k : Int32} (q : (Jvm.Cond.eq t (.int k)).value args first o s idx = some true) : t.eval args first o idx s = some (.int k) := by
  obtain ⟨x, z, e1, e2, k1, k2⟩ := cmp_v (Or.inl q)
  have e3 : (Term.int k).eval args first o idx s = some (.int k) := Term.int_eval k
  cases e3.symm.trans e2
  obtain ⟨w, rfl⟩ := k2
  have e4 := Cond.eq_ints (args := args) (first := first) (o := o) (s := s) (idx := idx) e1 e2
  rw [e1, gotT e4 q]
theorem eqQ_v {args : Array Value} {first s : State} {o : Option Outcome} {idx : List Nat} {t u : Term} {a' : Addr} (q : (Jvm.Cond.eq t u).value args first o s idx = some true) (e2 : u.eval args first o idx s = some (.ref a')) : t.eval args first o idx s = some (.ref a') := by
  obtain ⟨x, z, e1, e3, k1, k2⟩ := cmp_v (Or.inl q)
  cases e2.symm.trans e3
  have e4 := gotT (eq_R e1 e2 k2.2 rfl) q
  rw [e1, e4]
theorem oLen {args : Array Value} {s : State} {t : Term} {k : Int32} {a : Addr} {cl : Cell} (q : (Term.length t).eval args s none [] s = some (.int k)) (ev : t.eval args s none [] s = some (.ref a)) (hc : s.heap[a]? = some cl) : cl.slots.size.toInt32 = k := by
  obtain ⟨c', e1, e3⟩ := length_at q ev
  cases hc.symm.trans e1
  exact e3
theorem oOld {a a' : Addr} (O : Old Z n0 h) (q : a < Z.heap.size) (r : n0 ≤ a') : a ≠ a' := O.ne q r
theorem eqR_v {args : Array Value} {first s : State} {o : Option Outcome} {idx : List Nat} {t u : Term} {a a' : Addr} (q : (Jvm.Cond.eq t u).value args first o s idx = some true) (e1 : t.eval args first o idx s = some (.ref a)) (e2 : u.eval args first o idx s = some (.ref a')) : a = a' := Value.ref.inj (gotT (eq_R e1 e2 rfl rfl) q)
end Flow

theorem tw0 : (Jvm.Cond.constant "com/example/hedgeline/hedgeline/MarketTimeIntervalOfPinLaw" (7 : Nat) (2147483647 : Int32)) ∈ tables_1 := List.mem_of_getElem? (i := 0) rfl
theorem tw1 : (Jvm.Cond.methodLink "com/example/hedgeline/hedgeline/MarketTimeIntervalOfPinLaw" (8 : Nat) ({ cls := "com/example/hedgeline/hedgeline/MarketTime", name := "intervalOf", desc := "(I)I" } : Jvm.MethodName)) ∈ tables_1 := List.mem_of_getElem? (i := 1) rfl
theorem tw2 : (Jvm.Cond.static ({ cls := "com/example/hedgeline/hedgeline/MarketTime", name := "intervalOf", desc := "(I)I" } : Jvm.MethodName)) ∈ tables_1 := List.mem_of_getElem? (i := 2) rfl
theorem tw3 : (Jvm.Cond.initialized "com/example/hedgeline/hedgeline/MarketTime") ∈ tables_1 := List.mem_of_getElem? (i := 3) rfl
theorem tw4 : (Jvm.Cond.code ({ cls := "com/example/hedgeline/hedgeline/MarketTime", name := "intervalOf", desc := "(I)I" } : Jvm.MethodName) prog_37_method_2_code (2 : Nat) (Option.some Jvm.ClassFile.FieldType.int)) ∈ tables_1 := List.mem_of_getElem? (i := 4) rfl
theorem tw5 : (Jvm.Cond.fieldLink "com/example/hedgeline/hedgeline/MarketTime" (18 : Nat) "com/example/hedgeline/hedgeline/MarketTime" "FIRST_HOUR" "[I") ∈ tables_1 := List.mem_of_getElem? (i := 5) rfl
theorem tw6 : (Jvm.Cond.laysStatic "com/example/hedgeline/hedgeline/MarketTime" "FIRST_HOUR" "[I") ∈ tables_1 := List.mem_of_getElem? (i := 6) rfl
theorem tw7 : (Jvm.Cond.methodLink "com/example/hedgeline/hedgeline/MarketTimeIntervalOfPinLaw" (14 : Nat) ({ cls := "com/example/hedgeline/hedgeline/MarketTimeIntervalOfPinLaw", name := "expected", desc := "(I)I" } : Jvm.MethodName)) ∈ tables_1 := List.mem_of_getElem? (i := 7) rfl
theorem tw8 : (Jvm.Cond.static ({ cls := "com/example/hedgeline/hedgeline/MarketTimeIntervalOfPinLaw", name := "expected", desc := "(I)I" } : Jvm.MethodName)) ∈ tables_1 := List.mem_of_getElem? (i := 8) rfl
theorem tw9 : (Jvm.Cond.initialized "com/example/hedgeline/hedgeline/MarketTimeIntervalOfPinLaw") ∈ tables_1 := List.mem_of_getElem? (i := 9) rfl
theorem tw10 : (Jvm.Cond.code ({ cls := "com/example/hedgeline/hedgeline/MarketTimeIntervalOfPinLaw", name := "expected", desc := "(I)I" } : Jvm.MethodName) method_2_code (1 : Nat) (Option.some Jvm.ClassFile.FieldType.int)) ∈ tables_1 := List.mem_of_getElem? (i := 10) rfl
theorem d0_0 : De code 0 (.iload_n 0) 1 1 := ⟨by decide +kernel, rfl⟩
theorem d0_1 : De code 1 (.ldc 7) 2 3 := ⟨by decide +kernel, rfl⟩
theorem d0_3 : De code 3 (.iand) 1 4 := ⟨by decide +kernel, rfl⟩
theorem d0_4 : De code 4 (.bipush 24) 2 6 := ⟨by decide +kernel, rfl⟩
theorem d0_6 : De code 6 (.irem) 1 7 := ⟨by decide +kernel, rfl⟩
theorem d0_7 : De code 7 (.iconst 1) 1 8 := ⟨by decide +kernel, rfl⟩
theorem d0_8 : De code 8 (.iadd) 1 9 := ⟨by decide +kernel, rfl⟩
theorem d0_9 : De code 9 (.istore_n 1) 1 10 := ⟨by decide +kernel, rfl⟩
theorem d0_10 : De code 10 (.iload_n 1) 1 11 := ⟨by decide +kernel, rfl⟩
theorem d0_11 : De code 11 (.invokestatic 8) 3 14 := ⟨by decide +kernel, rfl⟩
theorem d0_14 : De code 14 (.iload_n 1) 1 15 := ⟨by decide +kernel, rfl⟩
theorem d0_15 : De code 15 (.invokestatic 14) 3 18 := ⟨by decide +kernel, rfl⟩
theorem d0_18 : De code 18 (.if_icmp .ne 7) 3 21 := ⟨by decide +kernel, rfl⟩
theorem d0_21 : De code 21 (.iconst 1) 1 22 := ⟨by decide +kernel, rfl⟩
theorem d0_22 : De code 22 (.goto 4) 3 25 := ⟨by decide +kernel, rfl⟩
theorem d0_26 : De code 26 (.ireturn) 1 27 := ⟨by decide +kernel, rfl⟩
theorem d1_0 : De prog_37_method_2_code 0 (.iload_n 0) 1 1 := ⟨by decide +kernel, rfl⟩
theorem d1_1 : De prog_37_method_2_code 1 (.iconst 1) 1 2 := ⟨by decide +kernel, rfl⟩
theorem d1_2 : De prog_37_method_2_code 2 (.if_icmp .lt 9) 3 5 := ⟨by decide +kernel, rfl⟩
theorem d1_5 : De prog_37_method_2_code 5 (.iload_n 0) 1 6 := ⟨by decide +kernel, rfl⟩
theorem d1_6 : De prog_37_method_2_code 6 (.bipush 24) 2 8 := ⟨by decide +kernel, rfl⟩
theorem d1_8 : De prog_37_method_2_code 8 (.if_icmp .le 17) 3 11 := ⟨by decide +kernel, rfl⟩
theorem d1_25 : De prog_37_method_2_code 25 (.iconst 5) 1 26 := ⟨by decide +kernel, rfl⟩
theorem d1_26 : De prog_37_method_2_code 26 (.istore_n 1) 1 27 := ⟨by decide +kernel, rfl⟩
theorem d1_27 : De prog_37_method_2_code 27 (.getstatic 18) 3 30 := ⟨by decide +kernel, rfl⟩
theorem d1_30 : De prog_37_method_2_code 30 (.iload_n 1) 1 31 := ⟨by decide +kernel, rfl⟩
theorem d1_31 : De prog_37_method_2_code 31 (.iaload) 1 32 := ⟨by decide +kernel, rfl⟩
theorem d1_32 : De prog_37_method_2_code 32 (.iload_n 0) 1 33 := ⟨by decide +kernel, rfl⟩
theorem d1_33 : De prog_37_method_2_code 33 (.if_icmp .le 9) 3 36 := ⟨by decide +kernel, rfl⟩
theorem d1_36 : De prog_37_method_2_code 36 (.iinc 1 (-1)) 3 39 := ⟨by decide +kernel, rfl⟩
theorem d1_39 : De prog_37_method_2_code 39 (.goto (-12)) 3 42 := ⟨by decide +kernel, rfl⟩
theorem d1_42 : De prog_37_method_2_code 42 (.iload_n 1) 1 43 := ⟨by decide +kernel, rfl⟩
theorem d1_43 : De prog_37_method_2_code 43 (.ireturn) 1 44 := ⟨by decide +kernel, rfl⟩
theorem d2_0 : De method_2_code 0 (.iload_n 0) 1 1 := ⟨by decide +kernel, rfl⟩
theorem d2_1 : De method_2_code 1 (.bipush 16) 2 3 := ⟨by decide +kernel, rfl⟩
theorem d2_3 : De method_2_code 3 (.if_icmp .gt 11) 3 6 := ⟨by decide +kernel, rfl⟩
theorem d2_6 : De method_2_code 6 (.iload_n 0) 1 7 := ⟨by decide +kernel, rfl⟩
theorem d2_7 : De method_2_code 7 (.iconst 1) 1 8 := ⟨by decide +kernel, rfl⟩
theorem d2_8 : De method_2_code 8 (.isub) 1 9 := ⟨by decide +kernel, rfl⟩
theorem d2_9 : De method_2_code 9 (.iconst 4) 1 10 := ⟨by decide +kernel, rfl⟩
theorem d2_10 : De method_2_code 10 (.idiv) 1 11 := ⟨by decide +kernel, rfl⟩
theorem d2_11 : De method_2_code 11 (.iconst 1) 1 12 := ⟨by decide +kernel, rfl⟩
theorem d2_12 : De method_2_code 12 (.iadd) 1 13 := ⟨by decide +kernel, rfl⟩
theorem d2_13 : De method_2_code 13 (.ireturn) 1 14 := ⟨by decide +kernel, rfl⟩
theorem d2_14 : De method_2_code 14 (.iconst 5) 1 15 := ⟨by decide +kernel, rfl⟩
theorem d2_15 : De method_2_code 15 (.ireturn) 1 16 := ⟨by decide +kernel, rfl⟩
theorem pd0 : parseMethodDescriptor "(I)I" = some ⟨[.int], some .int⟩ := by decide +kernel
theorem pn0 : plainName "com/example/hedgeline/hedgeline/MarketTime" = true := by first | (simp [plainName, overriddenIn]; done) | decide +kernel
theorem pn1 : plainName "com/example/hedgeline/hedgeline/MarketTimeIntervalOfPinLaw" = true := by first | (simp [plainName, overriddenIn]; done) | decide +kernel
def GG (Z : State) (ga1 : Addr) (gc1 : Cell) : Prop := Sta Z Z.heap "com/example/hedgeline/hedgeline/MarketTime" "FIRST_HOUR" "[I" (.ref ga1) ∧ Arr Z Z.heap ga1 gc1 Jvm.ClassFile.FieldType.int ∧ gc1.slots.size.toInt32 = (6 : Int32) ∧ (¬ ((0 : Int32) < 0 ∨ gc1.slots.size ≤ (0 : Int32).toNatClampNeg) ∧ gc1.slots[(0 : Int32).toNatClampNeg]? = some (.int (0 : Int32))) ∧ (¬ ((1 : Int32) < 0 ∨ gc1.slots.size ≤ (1 : Int32).toNatClampNeg) ∧ gc1.slots[(1 : Int32).toNatClampNeg]? = some (.int (1 : Int32))) ∧ (¬ ((2 : Int32) < 0 ∨ gc1.slots.size ≤ (2 : Int32).toNatClampNeg) ∧ gc1.slots[(2 : Int32).toNatClampNeg]? = some (.int (5 : Int32))) ∧ (¬ ((3 : Int32) < 0 ∨ gc1.slots.size ≤ (3 : Int32).toNatClampNeg) ∧ gc1.slots[(3 : Int32).toNatClampNeg]? = some (.int (9 : Int32))) ∧ (¬ ((4 : Int32) < 0 ∨ gc1.slots.size ≤ (4 : Int32).toNatClampNeg) ∧ gc1.slots[(4 : Int32).toNatClampNeg]? = some (.int (13 : Int32))) ∧ (¬ ((5 : Int32) < 0 ∨ gc1.slots.size ≤ (5 : Int32).toNatClampNeg) ∧ gc1.slots[(5 : Int32).toNatClampNeg]? = some (.int (17 : Int32)))
def own_ivl (p : Int32) : Int32 := if p < 17 then (if p < 13 then (if p < 9 then (if p < 5 then 1 else 2) else 3) else 4) else 5
def own_exp (p : Int32) : Int32 := if 16 < p then 5 else (p - 1) / 4 + 1
theorem own_24 (t : Int32) (h1 : ¬ t < 1) (h2 : ¬ 24 < t) : t = 1 ∨ t = 2 ∨ t = 3 ∨ t = 4 ∨ t = 5 ∨ t = 6 ∨ t = 7 ∨ t = 8 ∨ t = 9 ∨ t = 10 ∨ t = 11 ∨ t = 12 ∨ t = 13 ∨ t = 14 ∨ t = 15 ∨ t = 16 ∨ t = 17 ∨ t = 18 ∨ t = 19 ∨ t = 20 ∨ t = 21 ∨ t = 22 ∨ t = 23 ∨ t = 24 := by
  rw [Int32.lt_iff_toInt_lt] at h1 h2
  have q1 : (1 : Int32).toInt = 1 := by decide
  have q2 : (2 : Int32).toInt = 2 := by decide
  have q3 : (3 : Int32).toInt = 3 := by decide
  have q4 : (4 : Int32).toInt = 4 := by decide
  have q5 : (5 : Int32).toInt = 5 := by decide
  have q6 : (6 : Int32).toInt = 6 := by decide
  have q7 : (7 : Int32).toInt = 7 := by decide
  have q8 : (8 : Int32).toInt = 8 := by decide
  have q9 : (9 : Int32).toInt = 9 := by decide
  have q10 : (10 : Int32).toInt = 10 := by decide
  have q11 : (11 : Int32).toInt = 11 := by decide
  have q12 : (12 : Int32).toInt = 12 := by decide
  have q13 : (13 : Int32).toInt = 13 := by decide
  have q14 : (14 : Int32).toInt = 14 := by decide
  have q15 : (15 : Int32).toInt = 15 := by decide
  have q16 : (16 : Int32).toInt = 16 := by decide
  have q17 : (17 : Int32).toInt = 17 := by decide
  have q18 : (18 : Int32).toInt = 18 := by decide
  have q19 : (19 : Int32).toInt = 19 := by decide
  have q20 : (20 : Int32).toInt = 20 := by decide
  have q21 : (21 : Int32).toInt = 21 := by decide
  have q22 : (22 : Int32).toInt = 22 := by decide
  have q23 : (23 : Int32).toInt = 23 := by decide
  have q24 : (24 : Int32).toInt = 24 := by decide
  simp only [← Int32.toInt_inj]
  omega
theorem own_eq (t : Int32) (h1 : ¬ t < 1) (h2 : ¬ 24 < t) : own_ivl t = own_exp t := by
  rcases own_24 t h1 h2 with rfl | rfl | rfl | rfl | rfl | rfl | rfl | rfl | rfl | rfl | rfl | rfl | rfl | rfl | rfl | rfl | rfl | rfl | rfl | rfl | rfl | rfl | rfl | rfl <;> decide
theorem own_hour (p : Int32) : ¬ ((p &&& 2147483647) % 24 + 1) < 1 ∧ ¬ 24 < ((p &&& 2147483647) % 24 + 1) := by
  have e1 := c_mask p 2147483647 31 (by decide) (by decide)
  have e2 := (c_irem (p &&& 2147483647) 24 24 (by decide)).1 (by omega)
  have e3 := c_iadd ((p &&& 2147483647) % 24) 1
  have e4 := rng32 ((p &&& 2147483647) % 24 + 1)
  rw [Int32.lt_iff_toInt_lt, Int32.lt_iff_toInt_lt]
  have q1 : (1 : Int32).toInt = 1 := by decide
  have q2 : (24 : Int32).toInt = 24 := by decide
  omega
theorem ef_rm1 (m : MethodId) (x0 : Int32) : entryFrame m #[(.int x0)] 2 = mkF m 0 #[(.val (.int x0)), .unset] [] := by first | (simp [entryFrame, mkF, argsToLocals, Value.category]; done) | rfl
set_option maxRecDepth 65536 in
set_option maxHeartbeats 4000000 in
theorem rm1 {l : Launch} {Z : State} {a0 : Array Value} (hw : ∀ d ∈ tables_1, d.before a0 Z = true) {n0 : Nat} {h0 : Heap} (p : Int32) (h1 : ¬ p < 1) (h2 : ¬ 24 < p) {ga1 : Addr} {gc1 : Cell} (G : GG Z ga1 gc1) (O : Old Z n0 h0) :
    Pays l Z (⟨"com/example/hedgeline/hedgeline/MarketTime", "intervalOf", "(I)I"⟩ : MethodName) prog_37_method_2_code 2 (some .int) ({ frames := 0, cells := 0, slots := 0, locals := 0 } : Room) #[(.int p)] n0 h0 (QP (some (.int (own_ivl p))) h0) := by
  refine Pays.of hw (plainFor_of_name pn0) (fun m => ef_rm1 m p) fun B C => ?_
  refine iIloadN C d1_0 rfl ?_
  refine iIconst C d1_1 (v := (1 : Int32)) (by decide) ?_
  refine iCmpF C d1_2 (flt h1).1 ?_
  refine iIloadN C d1_5 rfl ?_
  refine iBipush C d1_6 (v := (24 : Int32)) (by decide) ?_
  refine iCmpT C (t := 25) d1_8 (flt h2).2.2.2 ⟨by decide, by decide⟩ ?_
  refine iIconst C d1_25 (v := (5 : Int32)) (by decide) ?_
  refine iIstoreN C d1_26 (Ls' := #[(.val (.int p)), (.val (.int (5 : Int32)))]) rfl ?_
  refine iGetS C tw5 (G.1.ext O.2) d1_27 ?_
  refine iIloadN C d1_30 rfl ?_
  refine iIaload C (G.2.1.ext O.2) G.2.2.2.2.2.2.2.2.1 G.2.2.2.2.2.2.2.2.2 d1_31 ?_
  refine iIloadN C d1_32 rfl ?_
  by_cases hc1 : p < (17 : Int32)
  · refine iCmpF C d1_33 (tlt hc1).2.2.2 ?_
    refine iIinc C d1_36 rfl (v := (4 : Int32)) (by decide) (Ls' := #[(.val (.int p)), (.val (.int (4 : Int32)))]) rfl ?_
    refine iGoto C (t := 27) d1_39 ⟨by decide, by decide⟩ ?_
    refine iGetS C tw5 (G.1.ext O.2) d1_27 ?_
    refine iIloadN C d1_30 rfl ?_
    refine iIaload C (G.2.1.ext O.2) G.2.2.2.2.2.2.2.1.1 G.2.2.2.2.2.2.2.1.2 d1_31 ?_
    refine iIloadN C d1_32 rfl ?_
    by_cases hc2 : p < (13 : Int32)
    · refine iCmpF C d1_33 (tlt hc2).2.2.2 ?_
      refine iIinc C d1_36 rfl (v := (3 : Int32)) (by decide) (Ls' := #[(.val (.int p)), (.val (.int (3 : Int32)))]) rfl ?_
      refine iGoto C (t := 27) d1_39 ⟨by decide, by decide⟩ ?_
      refine iGetS C tw5 (G.1.ext O.2) d1_27 ?_
      refine iIloadN C d1_30 rfl ?_
      refine iIaload C (G.2.1.ext O.2) G.2.2.2.2.2.2.1.1 G.2.2.2.2.2.2.1.2 d1_31 ?_
      refine iIloadN C d1_32 rfl ?_
      by_cases hc3 : p < (9 : Int32)
      · refine iCmpF C d1_33 (tlt hc3).2.2.2 ?_
        refine iIinc C d1_36 rfl (v := (2 : Int32)) (by decide) (Ls' := #[(.val (.int p)), (.val (.int (2 : Int32)))]) rfl ?_
        refine iGoto C (t := 27) d1_39 ⟨by decide, by decide⟩ ?_
        refine iGetS C tw5 (G.1.ext O.2) d1_27 ?_
        refine iIloadN C d1_30 rfl ?_
        refine iIaload C (G.2.1.ext O.2) G.2.2.2.2.2.1.1 G.2.2.2.2.2.1.2 d1_31 ?_
        refine iIloadN C d1_32 rfl ?_
        by_cases hc4 : p < (5 : Int32)
        · refine iCmpF C d1_33 (tlt hc4).2.2.2 ?_
          refine iIinc C d1_36 rfl (v := (1 : Int32)) (by decide) (Ls' := #[(.val (.int p)), (.val (.int (1 : Int32)))]) rfl ?_
          refine iGoto C (t := 27) d1_39 ⟨by decide, by decide⟩ ?_
          refine iGetS C tw5 (G.1.ext O.2) d1_27 ?_
          refine iIloadN C d1_30 rfl ?_
          refine iIaload C (G.2.1.ext O.2) G.2.2.2.2.1.1 G.2.2.2.2.1.2 d1_31 ?_
          refine iIloadN C d1_32 rfl ?_
          refine iCmpT C (t := 42) d1_33 (flt h1).2.2.2 ⟨by decide, by decide⟩ ?_
          refine iIloadN C d1_42 rfl ?_
          refine iRetI C d1_43 ⟨by decide, by decide⟩ ?_
          exact ⟨by simp only [own_ivl, hc1, hc2, hc3, hc4, if_true, if_false], rfl⟩
        · refine iCmpT C (t := 42) d1_33 (flt hc4).2.2.2 ⟨by decide, by decide⟩ ?_
          refine iIloadN C d1_42 rfl ?_
          refine iRetI C d1_43 ⟨by decide, by decide⟩ ?_
          exact ⟨by simp only [own_ivl, hc1, hc2, hc3, hc4, if_true, if_false], rfl⟩
      · refine iCmpT C (t := 42) d1_33 (flt hc3).2.2.2 ⟨by decide, by decide⟩ ?_
        refine iIloadN C d1_42 rfl ?_
        refine iRetI C d1_43 ⟨by decide, by decide⟩ ?_
        exact ⟨by simp only [own_ivl, hc1, hc2, hc3, if_true, if_false], rfl⟩
    · refine iCmpT C (t := 42) d1_33 (flt hc2).2.2.2 ⟨by decide, by decide⟩ ?_
      refine iIloadN C d1_42 rfl ?_
      refine iRetI C d1_43 ⟨by decide, by decide⟩ ?_
      exact ⟨by simp only [own_ivl, hc1, hc2, if_true, if_false], rfl⟩
  · refine iCmpT C (t := 42) d1_33 (flt hc1).2.2.2 ⟨by decide, by decide⟩ ?_
    refine iIloadN C d1_42 rfl ?_
    refine iRetI C d1_43 ⟨by decide, by decide⟩ ?_
    exact ⟨by simp only [own_ivl, hc1, if_true, if_false], rfl⟩
theorem ef_rm2 (m : MethodId) (x0 : Int32) : entryFrame m #[(.int x0)] 1 = mkF m 0 #[(.val (.int x0))] [] := by first | (simp [entryFrame, mkF, argsToLocals, Value.category]; done) | rfl
set_option maxRecDepth 65536 in
set_option maxHeartbeats 4000000 in
theorem rm2 {l : Launch} {Z : State} {a0 : Array Value} (hw : ∀ d ∈ tables_1, d.before a0 Z = true) {n0 : Nat} {h0 : Heap} (p : Int32)  :
    Pays l Z (⟨"com/example/hedgeline/hedgeline/MarketTimeIntervalOfPinLaw", "expected", "(I)I"⟩ : MethodName) method_2_code 1 (some .int) ({ frames := 0, cells := 0, slots := 0, locals := 0 } : Room) #[(.int p)] n0 h0 (QP (some (.int (own_exp p))) h0) := by
  refine Pays.of hw (plainFor_of_name pn1) (fun m => ef_rm2 m p) fun B C => ?_
  refine iIloadN C d2_0 rfl ?_
  refine iBipush C d2_1 (v := (16 : Int32)) (by decide) ?_
  by_cases hc1 : (16 : Int32) < p
  · refine iCmpT C (t := 14) d2_3 (tlt hc1).2.2.1 ⟨by decide, by decide⟩ ?_
    refine iIconst C d2_14 (v := (5 : Int32)) (by decide) ?_
    refine iRetI C d2_15 ⟨by decide, by decide⟩ ?_
    exact ⟨by simp only [own_exp, hc1, if_true, if_false], rfl⟩
  · refine iCmpF C d2_3 (flt hc1).2.2.1 ?_
    refine iIloadN C d2_6 rfl ?_
    refine iIconst C d2_7 (v := (1 : Int32)) (by decide) ?_
    refine iIsub C d2_8 rfl ?_
    refine iIconst C d2_9 (v := (4 : Int32)) (by decide) ?_
    refine iIdiv C d2_10 (by decide) rfl ?_
    refine iIconst C d2_11 (v := (1 : Int32)) (by decide) ?_
    refine iIadd C d2_12 rfl ?_
    refine iRetI C d2_13 ⟨by decide, by decide⟩ ?_
    exact ⟨by simp only [own_exp, hc1, if_true, if_false], rfl⟩
theorem ef_rm0 (m : MethodId) (x0 : Int32) : entryFrame m #[(.int x0)] maxLocals = mkF m 0 #[(.val (.int x0)), .unset] [] := by first | (simp [entryFrame, mkF, argsToLocals, Value.category, maxLocals]; done) | rfl
set_option maxRecDepth 65536 in
set_option maxHeartbeats 4000000 in
theorem rm0 {l : Launch} {Z : State} {a0 : Array Value} (hw : ∀ d ∈ tables_1, d.before a0 Z = true) {n0 : Nat} {h0 : Heap} (p : Int32) {ga1 : Addr} {gc1 : Cell} (G : GG Z ga1 gc1) (O : Old Z n0 h0) :
    Pays l Z x code maxLocals ret room_1 #[(.int p)] n0 h0 (fun v _ => v = some (.int 1)) := by
  refine Pays.of hw (plainFor_of_name pn1) (fun m => ef_rm0 m p) fun B C => ?_
  refine iIloadN C d0_0 rfl ?_
  refine iLdcI C tw0 d0_1 ?_
  refine iIand C d0_3 rfl ?_
  refine iBipush C d0_4 (v := (24 : Int32)) (by decide) ?_
  refine iIrem C d0_6 (by decide) rfl ?_
  refine iIconst C d0_7 (v := (1 : Int32)) (by decide) ?_
  refine iIadd C d0_8 rfl ?_
  refine iIstoreN C d0_9 (Ls' := #[(.val (.int p)), (.val (.int (((p &&& (2147483647 : Int32)) % (24 : Int32)) + (1 : Int32))))]) rfl ?_
  refine iIloadN C d0_10 rfl ?_
  refine iCallS C (rm1 hw (((p &&& (2147483647 : Int32)) % (24 : Int32)) + (1 : Int32)) (own_hour p).1 (own_hour p).2 G O) tw1 tw2 tw3 tw4 ⟨by decide, by decide⟩ (argsL := [(.int (((p &&& (2147483647 : Int32)) % (24 : Int32)) + (1 : Int32)))]) (S' := []) (lenOf pd0 rfl) rfl rfl d0_11 rfl (W := 0) rfl ⟨by decide, by decide, rfl, rfl, by decide, by decide⟩ fun v1 h1 q1 => ?_
  obtain ⟨rfl, rfl⟩ := q1
  show Go B n0 _ h0 0 0 14 #[(.val (.int p)), (.val (.int (((p &&& (2147483647 : Int32)) % (24 : Int32)) + (1 : Int32))))] [(.int (own_ivl (((p &&& (2147483647 : Int32)) % (24 : Int32)) + (1 : Int32))))]
  refine iIloadN C d0_14 rfl ?_
  refine iCallS C (rm2 hw (((p &&& (2147483647 : Int32)) % (24 : Int32)) + (1 : Int32))) tw7 tw8 tw9 tw10 ⟨by decide, by decide⟩ (argsL := [(.int (((p &&& (2147483647 : Int32)) % (24 : Int32)) + (1 : Int32)))]) (S' := [(.int (own_ivl (((p &&& (2147483647 : Int32)) % (24 : Int32)) + (1 : Int32))))]) (lenOf pd0 rfl) rfl rfl d0_15 rfl (W := 1) rfl ⟨by decide, by decide, rfl, rfl, by decide, by decide⟩ fun v2 h2 q2 => ?_
  obtain ⟨rfl, rfl⟩ := q2
  show Go B n0 _ h0 0 0 18 #[(.val (.int p)), (.val (.int (((p &&& (2147483647 : Int32)) % (24 : Int32)) + (1 : Int32))))] [(.int (own_exp (((p &&& (2147483647 : Int32)) % (24 : Int32)) + (1 : Int32)))), (.int (own_ivl (((p &&& (2147483647 : Int32)) % (24 : Int32)) + (1 : Int32))))]
  refine iCmpF C d0_18 (teq (own_eq _ (own_hour p).1 (own_hour p).2)).2 ?_
  refine iIconst C d0_21 (v := (1 : Int32)) (by decide) ?_
  refine iGoto C (t := 26) d0_22 ⟨by decide, by decide⟩ ?_
  refine iRetZ C d0_26 (by simp) ⟨by decide, by decide⟩ ?_
  exact rfl
set_option maxRecDepth 65536 in
set_option maxHeartbeats 4000000 in
theorem comes_1 {Post : Tables → Env → Array Value → State → Outcome → State → Prop} (hpost : ∀ tb e args s v u, (limb_1_1.after args s (.returned v) u = true ∧ limb_1_2.after args s (.returned v) u = true ∧ True) → FrameEnd s (.returned v) u (Jvm.fieldLocs frame_1_writes args s ++ Jvm.arrayLocs frame_1_arrays args s ++ Jvm.staticLocs frame_1_statics s) 0 0 → Post tb e args s (.returned v) u) :
    ArmFor flags0 classFile x code maxLocals ret World_1 tables_1 room_1 Calls_1 rest_1 Pre_1 Post := by
  intro l hfl _ _ p e ha hc hk s m args below hf hA hF happ hP
  obtain ⟨hcalls, hrest, hpre⟩ := hP
  obtain ⟨-, -, -, hnamed, -, -, -, hat⟩ := (Spec.applies_iff hf).mp happ
  obtain ⟨hg, hn⟩ := and_e (Cond.before_iff.mp (show (Jvm.Cond.and given_1 narrow_1).before args s = true from hpre))
  obtain ⟨hg_1, hg_2⟩ := and_e hg
  obtain ⟨w0, rfl⟩ : ∃ w0 : Value, args = #[w0] := by
    have hs : args.size = 1 := by simpa [Cond.value, given_1] using hg_1
    obtain ⟨L⟩ := args
    match L, hs with
    | [w0], _ => exact ⟨w0, rfl⟩
  have hw := fun d (hd : d ∈ tables_1) => atoms_spec (ws := Jvm.Cond.code x code maxLocals ret :: tables_1) hat d (List.mem_cons_of_mem _ hd)
  have hfit : Fit s := fun {y c} hc i hi => by
    obtain ⟨ha, rfl⟩ := Array.getElem?_eq_some_iff.mp hc
    have q := List.all_eq_true.mp ((Array.all_eq_true_iff_forall_mem.mp hF) _ (Array.getElem_mem ha)) i (List.mem_range.mpr hi)
    simpa [Array.getElem?_eq_getElem hi] using q
  obtain ⟨i0, ei0⟩ := is_v hg_2
  obtain rfl : w0 = (.int i0) := Option.some.inj ei0
  obtain ⟨hn_1, hn_2⟩ := and_e hn
  obtain ⟨hn_3, hn_4⟩ := and_e hn_2
  obtain ⟨hn_5, hn_6⟩ := and_e hn_4
  obtain ⟨hn_7, hn_8⟩ := and_e hn_6
  obtain ⟨hn_9, hn_10⟩ := and_e hn_8
  obtain ⟨hn_11, hn_12⟩ := and_e hn_10
  obtain ⟨hn_13, hn_14⟩ := and_e hn_12
  obtain ⟨ga1, ge1⟩ := arr_v hn_1
  obtain ⟨gc1, gA1⟩ := Arr.start ge1 hn_1
  have G : GG s ga1 gc1 := ⟨Sta.start ge1 (Or.inr ⟨hw _ tw3, hw _ tw6⟩), gA1, oLen (eqI_v hn_3) ge1 gA1.1, elem_in (eqI_v hn_5) ge1 (Term.int_eval _) gA1.1, elem_in (eqI_v hn_7) ge1 (Term.int_eval _) gA1.1, elem_in (eqI_v hn_9) ge1 (Term.int_eval _) gA1.1, elem_in (eqI_v hn_11) ge1 (Term.int_eval _) gA1.1, elem_in (eqI_v hn_13) ge1 (Term.int_eval _) gA1.1, elem_in (eqI_v hn_14) ge1 (Term.int_eval _) gA1.1⟩
  obtain ⟨n, o, h1, h2, h3, _, L, rfl, ⟨rfl, N⟩, hq⟩ := (rm0 (l := l) (Z := s) hw (n0 := s.heap.size) (h0 := s.heap) i0 G (Old.start s)) tables_1 p e ha hc hk s m _ below hf ((Spec.applies_iff_loose hf).mp happ).1 ⟨rfl, State.Warmed39.refl s, rfl⟩ trivial
  refine ⟨n, _, h1, h2, h3, hpost _ _ _ _ _ _ ⟨Cond.after_iff.mpr rfl, Cond.after_iff.mpr (eq_i res_at (Term.int_eval (1)) rfl), trivial⟩ ⟨hq.1, hq.2.1, (hq.2.2.sift fun y hy => Or.inr (N y hy)).mono (by decide) (by decide)⟩⟩
theorem main_1_1 : Claimed_1_1 := comes_1 fun _ _ _ _ _ _ h hF => ⟨h.1, hF⟩
theorem main_1_2 : Claimed_1_2 := comes_1 fun _ _ _ _ _ _ h hF => ⟨h.2.1, hF⟩
end Jvm.Pilot.@@N@@
namespace Jvm.Pilot.@@N@@
open Jvm Jvm.ClassFile Sem Op Lib Jvm.Free Jvm.Stand Jvm.Pilot.@@N@@.Jvm.D
/-! MADE BY PROGRAM (witnessworld.py) out of the Statement's table words and the real class files: 9 classes; the members and pool entries that the words name. The judged class is class 1, her method 2. -/
namespace start1
open Jvm.ClassFile
def u (s : String) : CpInfo := .utf8 (stringToUtf16 s)
/-- a pool by its gaps: so many unusable entries, then the entry; so many at the end -/
def gap : Nat → List CpInfo → List CpInfo
  | 0, r => r
  | n + 1, r => .unusable :: gap n r
def poolList (es : List (Nat × CpInfo)) (last : Nat) : List CpInfo := es.foldr (fun e r => gap e.1 (e.2 :: r)) (gap last [])
def pool (es : List (Nat × CpInfo)) (last : Nat) : Array CpInfo := ⟨poolList es last⟩
def fileOf (pool : Array CpInfo) (this : Nat) (attrs : Array Attribute := #[]) (ms : Array MethodInfo := #[]) (fl : Nat := 33) (sup : Nat := 0) (ifs : Array Nat := #[]) (fds : Array FieldInfo := #[]) : ClassFile where
  minorVersion := 0
  majorVersion := 65
  constantPool := pool
  accessFlags := fl
  thisClass := this
  superClass := sup
  interfaces := ifs
  fields := fds
  methods := ms
  attributes := attrs
def plain (name : String) (sup : Option ClassId) : Class where
  name := name
  kind := .ordinary
  loader := none
  accessFlags := 33
  super := sup
  interfaces := #[]
  cf := none
  fields := #[]
  methods := #[]
  instanceTypes := #[]
  staticTypes := #[]
  resolved := #[]
  callSites := []
  init := .initialized
  statics := none
  mirror := none

def pool0 : Array CpInfo := pool [(5, u "<init>"), (0, u "()V"), (1, .class_ 10), (1, u "java/lang/Object")] 113

def k0m0 : Method := { name := "<init>", desc := "()V", sig := { parameters := [], returnType := none }, accessFlags := 1, code := none }
/-- java/lang/Object -/
def k0 : Class := { plain "java/lang/Object" none with
  accessFlags := 33
  interfaces := #[]
  cf := some (fileOf pool0 8 #[] #[{ accessFlags := 1, nameIndex := 5, descriptorIndex := 6, attributes := #[] }] 33 0 #[] #[])
  fields := #[]
  methods := #[k0m0]
  instanceTypes := #[]
  staticTypes := #[]
  resolved := Array.replicate 124 none
  statics := none }

def pool1 : Array CpInfo := pool [(2, .class_ 4), (1, u "java/lang/Object"), (0, u "<init>"), (0, u "()V"), (0, .integer 2147483647), (0, .methodref 9 10), (0, .class_ 11), (0, .nameAndType 12 13), (0, u "com/example/hedgeline/hedgeline/MarketTime"), (0, u "intervalOf"), (0, u "(I)I"), (0, .methodref 15 16), (0, .class_ 17), (0, .nameAndType 18 13), (0, u "com/example/hedgeline/hedgeline/MarketTimeIntervalOfPinLaw"), (0, u "expected"), (3, u "law"), (0, u "(I)Z")] 2

def k1m0 : Method := { name := "<init>", desc := "()V", sig := { parameters := [], returnType := none }, accessFlags := 2, code := none }
def k1c1 : Code := { maxStack := 2, maxLocals := 1, code := method_2_code, exceptionTable := #[], attributes := #[] }
def k1m1 : Method := { name := "expected", desc := "(I)I", sig := { parameters := [.int], returnType := some .int }, accessFlags := 10, code := some k1c1 }
def k1c2 : Code := { maxStack := 2, maxLocals := 2, code := code, exceptionTable := #[], attributes := #[] }
def k1m2 : Method := { name := "law", desc := "(I)Z", sig := { parameters := [.int], returnType := some .boolean }, accessFlags := 9, code := some k1c2 }
/-- com/example/hedgeline/hedgeline/MarketTimeIntervalOfPinLaw -/
def k1 : Class := { plain "com/example/hedgeline/hedgeline/MarketTimeIntervalOfPinLaw" (some 0) with
  accessFlags := 49
  interfaces := #[]
  cf := some (fileOf pool1 15 #[] #[{ accessFlags := 2, nameIndex := 5, descriptorIndex := 6, attributes := #[] }, { accessFlags := 10, nameIndex := 18, descriptorIndex := 13, attributes := #[] }, { accessFlags := 9, nameIndex := 22, descriptorIndex := 23, attributes := #[] }] 49 2 #[] #[])
  fields := #[]
  methods := #[k1m0, k1m1, k1m2]
  instanceTypes := #[]
  staticTypes := #[]
  resolved := Array.replicate 26 none
  statics := none }

def pool2 : Array CpInfo := pool [(2, .class_ 4), (1, u "java/lang/Object"), (0, u "<init>"), (0, u "()V"), (0, .class_ 8), (0, u "com/example/hedgeline/hedgeline/MarketTime"), (9, .fieldref 7 19), (0, .nameAndType 20 21), (0, u "FIRST_HOUR"), (0, u "[I"), (7, u "(I)I"), (7, u "SCHEDULES"), (0, u "I"), (2, u "INTERVALS"), (0, u "HOURS"), (3, u "intervalOf")] 27

def k2m0 : Method := { name := "<init>", desc := "()V", sig := { parameters := [], returnType := none }, accessFlags := 2, code := none }
def k2c1 : Code := { maxStack := 3, maxLocals := 2, code := prog_37_method_2_code, exceptionTable := #[], attributes := #[] }
def k2m1 : Method := { name := "intervalOf", desc := "(I)I", sig := { parameters := [.int], returnType := some .int }, accessFlags := 8, code := some k2c1 }
/-- com/example/hedgeline/hedgeline/MarketTime -/
def k2 : Class := { plain "com/example/hedgeline/hedgeline/MarketTime" (some 0) with
  accessFlags := 48
  interfaces := #[]
  cf := some (fileOf pool2 7 #[] #[{ accessFlags := 2, nameIndex := 5, descriptorIndex := 6, attributes := #[] }, { accessFlags := 8, nameIndex := 46, descriptorIndex := 29, attributes := #[] }] 48 2 #[] #[{ accessFlags := 24, nameIndex := 37, descriptorIndex := 38, attributes := #[] }, { accessFlags := 24, nameIndex := 41, descriptorIndex := 38, attributes := #[] }, { accessFlags := 24, nameIndex := 42, descriptorIndex := 38, attributes := #[] }, { accessFlags := 26, nameIndex := 20, descriptorIndex := 21, attributes := #[] }])
  fields := #[{ name := "SCHEDULES", type := .int, accessFlags := 24, slot := 0, constantValue := 0 }, { name := "INTERVALS", type := .int, accessFlags := 24, slot := 1, constantValue := 0 }, { name := "HOURS", type := .int, accessFlags := 24, slot := 2, constantValue := 0 }, { name := "FIRST_HOUR", type := (.array .int), accessFlags := 26, slot := 3, constantValue := 0 }]
  methods := #[k2m0, k2m1]
  instanceTypes := #[]
  staticTypes := #[.int, .int, .int, (.array .int)]
  resolved := Array.replicate 74 none
  statics := some 0 }

def pool3 : Array CpInfo := pool [(1, u "java/lang/Cloneable"), (0, .class_ 1), (0, u "java/lang/Object"), (0, .class_ 3)] 3

/-- java/lang/Cloneable -/
def k3 : Class := { plain "java/lang/Cloneable" (some 0) with
  accessFlags := 1537
  interfaces := #[]
  cf := some (fileOf pool3 2 #[] #[] 1537 4 #[] #[])
  fields := #[]
  methods := #[]
  instanceTypes := #[]
  staticTypes := #[]
  resolved := Array.replicate 8 none
  statics := none }

def pool4 : Array CpInfo := pool [(1, u "java/io/Serializable"), (0, .class_ 1), (0, u "java/lang/Object"), (0, .class_ 3)] 3

/-- java/io/Serializable -/
def k4 : Class := { plain "java/io/Serializable" (some 0) with
  accessFlags := 1537
  interfaces := #[]
  cf := some (fileOf pool4 2 #[] #[] 1537 4 #[] #[])
  fields := #[]
  methods := #[]
  instanceTypes := #[]
  staticTypes := #[]
  resolved := Array.replicate 8 none
  statics := none }

/-- the primitive byte -/
def k5 : Class := { plain "byte" none with kind := .primitive 'B', accessFlags := 0x411 }
/-- [B -/
def k6 : Class := { plain "[B" (some 0) with kind := .array 5 .byte, interfaces := #[3, 4], accessFlags := 1041 }

/-- the primitive int -/
def k7 : Class := { plain "int" none with kind := .primitive 'I', accessFlags := 0x411 }
/-- [I -/
def k8 : Class := { plain "[I" (some 0) with kind := .array 7 .int, interfaces := #[3, 4], accessFlags := 1041 }

def heap : Heap := #[{ cls := 2, slots := #[.int 0, .int 0, .int 0, .ref 1], vm := .statics 2 },
  { cls := 8, slots := #[.int 0, .int 1, .int 5, .int 9, .int 13, .int 17], vm := .none }]
def classes : Array Class := #[k0, k1, k2, k3, k4, k5, k6, k7, k8]
def interned : List (Array UInt16 × Addr) := []
def slotsUsed : Nat := 10
def theMethod : MethodId := ⟨1, 2⟩
def args0 : Array Value := #[.int 5]
def aboutOver (below : List Frame) : State where
  vm := { classes := classes, interned := interned.toArray }
  heap := heap
  slotsUsed := slotsUsed
  threads := #[{ frames := .invoking theMethod args0 :: below }]
def below0 : List Frame := [.native { method := ⟨0, 0⟩, args := #[] }]
def about1 : State := aboutOver below0
def p0 : Program := .bare "" "" ""
def e0 : Env := launch0.env 0 0 0
theorem w_frames : about1.frames = Frame.invoking theMethod args0 :: below0 := rfl
set_option maxRecDepth 65536 in
theorem w_args : argsFit about1.vm theMethod args0 = true := by decide +kernel
set_option maxRecDepth 65536 in
theorem w_heap : heapFits about1 = true := by decide +kernel
set_option maxRecDepth 65536 in
theorem w_runnable : about1.curStatus? = some .runnable := by decide +kernel
set_option maxRecDepth 65536 in
theorem w_alone : about1.alone = true := by decide +kernel
set_option maxRecDepth 65536 in
theorem w_named : about1.methodNamed? x = some theMethod := by decide +kernel
set_option maxRecDepth 65536 in
theorem w_hears : about1.hears theMethod below0 = true := by decide +kernel
set_option maxRecDepth 65536 in
theorem w_ripe : about1.ripe theMethod args0 below0 = true := by decide +kernel
theorem w_running : about1.status = .running := rfl
set_option maxRecDepth 65536 in
theorem w_room : about1.hasRoom e0.platform room_1 = true :=
  launch0.hasRoom_least _ room_1 (by decide +kernel) (by decide +kernel) (by decide +kernel) (by decide +kernel) (by decide +kernel) (by decide +kernel)
theorem allAtoms_all (ts : List Jvm.Cond) (a : Array Jvm.Value) (st : Jvm.State) : (allAtoms ts).before a st = ts.all (fun c => c.before a st) := by
  induction ts with
  | nil => rfl
  | cons c t ih =>
    show (Jvm.Cond.and c (allAtoms t)).before a st = _
    rw [Jvm.Cond.before_and, ih, List.all_cons]
def words1 : List Jvm.Cond := Jvm.Cond.code x code maxLocals ret :: tables_1
/-- a 'code' word, met by the world's own term for the bytes: nothing is compared byte by byte -/
theorem code_word {y : MethodName} {bytes : ByteArray} {mx : Nat} {rt : Option FieldType} {a : Array Value} {s : State} {m : MethodId} {meth : Method} {c : Code} (h1 : s.methodNamed? y = some m) (h2 : s.vm.method? m = some meth) (h3 : meth.code = some c) (h4 : c.code = bytes)
    (h5 : (c.maxLocals == mx && c.exceptionTable.isEmpty && decide (c.maxStack ≤ mostOperands) && decide (meth.sig.returnType = rt) && !meth.locks && decide (parseMethodDescriptor y.desc = some meth.sig)) = true) : (Jvm.Cond.code y bytes mx rt).before a s = true := by
  simp only [Bool.and_eq_true, beq_iff_eq, Bool.not_eq_true', decide_eq_true_eq] at h5
  obtain ⟨⟨⟨⟨⟨g1, g2⟩, g3⟩, g4⟩, g5⟩, g6⟩ := h5
  simp [Cond.before, Cond.holds, Cond.value, h1, h2, h3, h4, g1, g2, g3, g4, g5, g6]
def isCode : Jvm.Cond → Bool
  | .code _ _ _ _ => true
  | _ => false
theorem all_split {L : List Jvm.Cond} {P : Jvm.Cond → Bool} (h1 : L.all (fun c => isCode c || P c) = true) (h2 : ∀ c ∈ L.filter isCode, P c = true) : L.all P = true := by
  refine List.all_eq_true.mpr fun c hc => ?_
  have h := List.all_eq_true.mp h1 c hc
  rcases Bool.eq_false_or_eq_true (isCode c) with hi | hi
  · exact h2 c (List.mem_filter.mpr ⟨hc, hi⟩)
  · simpa [hi] using h
set_option maxRecDepth 65536 in
theorem w_c0 : (Jvm.Cond.code x code maxLocals ret).before args0 about1 = true := code_word (m := ⟨1, 2⟩) (meth := k1m2) (c := k1c2) (by decide +kernel) rfl rfl rfl (by decide +kernel)
set_option maxRecDepth 65536 in
theorem w_c1 : (Jvm.Cond.code ({ cls := "com/example/hedgeline/hedgeline/MarketTime", name := "intervalOf", desc := "(I)I" } : Jvm.MethodName) prog_37_method_2_code (2 : Nat) (Option.some Jvm.ClassFile.FieldType.int)).before args0 about1 = true := code_word (m := ⟨2, 1⟩) (meth := k2m1) (c := k2c1) (by decide +kernel) rfl rfl rfl (by decide +kernel)
set_option maxRecDepth 65536 in
theorem w_c2 : (Jvm.Cond.code ({ cls := "com/example/hedgeline/hedgeline/MarketTimeIntervalOfPinLaw", name := "expected", desc := "(I)I" } : Jvm.MethodName) method_2_code (1 : Nat) (Option.some Jvm.ClassFile.FieldType.int)).before args0 about1 = true := code_word (m := ⟨1, 1⟩) (meth := k1m1) (c := k1c1) (by decide +kernel) rfl rfl rfl (by decide +kernel)
def codes1 : List Jvm.Cond := [Jvm.Cond.code x code maxLocals ret, Jvm.Cond.code ({ cls := "com/example/hedgeline/hedgeline/MarketTime", name := "intervalOf", desc := "(I)I" } : Jvm.MethodName) prog_37_method_2_code (2 : Nat) (Option.some Jvm.ClassFile.FieldType.int), Jvm.Cond.code ({ cls := "com/example/hedgeline/hedgeline/MarketTimeIntervalOfPinLaw", name := "expected", desc := "(I)I" } : Jvm.MethodName) method_2_code (1 : Nat) (Option.some Jvm.ClassFile.FieldType.int)]
set_option maxRecDepth 65536 in
theorem codes_eq : words1.filter isCode = codes1 := rfl
theorem w_codes : ∀ c ∈ words1.filter isCode, c.before args0 about1 = true := by
  rw [codes_eq]
  intro c hc
  simp only [codes1, List.mem_cons, List.not_mem_nil, or_false] at hc
  rcases hc with rfl | rfl | rfl
  · exact w_c0
  · exact w_c1
  · exact w_c2
set_option maxRecDepth 65536 in
theorem w_t1 : words1.all (fun c => isCode c || c.before args0 about1) = true := by decide +kernel
theorem w_tables : (allAtoms (Jvm.Cond.code x code maxLocals ret :: tables_1)).before args0 about1 = true := by
  rw [allAtoms_all]
  show words1.all (fun c => c.before args0 about1) = true
  refine all_split ?_ w_codes
  rw [w_t1]
set_option maxRecDepth 65536 in
theorem w_case : (Jvm.Cond.and given_1 narrow_1).before args0 about1 = true := by decide +kernel
theorem w_applies : (headSpec (Jvm.Cond.code x code maxLocals ret :: tables_1) room_1).applies x e0.platform about1 = true :=
  (Spec.applies_iff w_frames).mpr ⟨w_running, w_runnable, w_alone, w_named, w_hears, w_ripe, w_room, w_tables⟩
theorem atStart : AtStart classFile x code maxLocals ret World_1 tables_1 room_1 Calls_1 rest_1 Pre_1 launch0 p0 e0 about1 theMethod args0 below0 :=
  ⟨lists_1, trivial, launch0.admits_env _ _ _, launch0.least_env, fairChoices_fair.cas, fairChoices_fair.clock, w_frames, w_args, w_heap, w_applies, trivial, trivial, w_case⟩
end start1
theorem witness_1 : WitnessClaimed_1 := ⟨start1.p0, start1.e0, start1.about1, start1.theMethod, start1.args0, start1.below0, start1.atStart⟩
end Jvm.Pilot.@@N@@
