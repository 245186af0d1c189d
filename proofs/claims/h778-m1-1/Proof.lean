import JvmDerived
import JvmDerived.Pilot.@@N@@Statement
import JvmDerived.Pilot.@@N@@Code
set_option linter.unusedVariables false
set_option linter.unusedSimpArgs false

namespace Jvm.Pilot.@@N@@
open Jvm Jvm.ClassFile Sem Op Lib Jvm.Free Jvm.Stand Jvm.LawKit Jvm.RoadKit Bundle Jvm.Pilot.@@N@@.Jvm.D
/-! MY OWN LAYER: the walk in continuation form -/
abbrev Bx : Type := Program × Launch × Env × Room × State × MethodId × Array Value × List Frame × Method × Code
def De (b : ByteArray) (pc : Nat) (i : Instr) (k n : Nat) : Prop := decode b pc = .ok (i, k) ∧ pc + k = n
def Go (B : Bx) (n0 : Nat) (Q : Option Value → Heap → Prop) (h : Heap) (ce sl pc : Nat) (Ls : Array Slot) (S : List Value) : Prop :=
  match B with
  | (p, l, e, R, s, m, args, below, meth, c) => ∀ (T : State) (locs : List Loc), Stand p l e R s m args below meth c T locs ce sl → T.heap = h → Fr n0 locs →
    ∃ s₂ o, Steps p.tables e below (T.setTop (mkF m pc Ls S)) s₂ ∧ s₂.status = .running ∧ Ended s₂ below o ∧ ∃ (v : Option Value) (L : List Loc), o = .returned v ∧ (Q v s₂.heap ∧ Fr n0 L) ∧ FrameEnd s o s₂ L R.cells R.slots
def Cx (B : Bx) (l0 : Launch) (Z : State) (a0 : Array Value) (R0 : Room) (y : MethodName) (b : ByteArray) (mx : Nat) (rt : Option FieldType) : Prop :=
  match B with
  | (p, l, e, R, s, m, args, below, meth, c) => l = l0 ∧ R = R0 ∧ p.tables.exec = Jvm.exec ∧ c.code = b ∧ c.maxLocals = mx ∧ s.vm.findClass y.cls = some m.cls ∧ meth.name = y.name ∧ meth.sig.returnType = rt ∧ meth.locks = false ∧ Z.Warmed39 s.vm ∧ ∀ d ∈ tables_1, d.before a0 Z = true
def QQ (n0 : Nat) (Q : Option Value → Heap → Prop) (v : Option Value) (h : Heap) (L : List Loc) : Prop := Q v h ∧ Fr n0 L
def Pays (l : Launch) (Z : State) (y : MethodName) (b : ByteArray) (mx : Nat) (rt : Option FieldType) (rm : Room) (as' : Array Value) (n0 : Nat) (h0 : Heap) (Q : Option Value → Heap → Prop) : Prop :=
  ∀ ws : List Jvm.Cond, MetFree l y (head1 (Jvm.Cond.code y b mx rt :: ws) rm) (fun a U => a = as' ∧ Z.Warmed39 U.vm ∧ U.heap = h0) (fun _ _ _ _ _ => True) (fun _ U o U' => ∃ v L, o = .returned v ∧ QQ n0 Q v U'.heap L ∧ FrameEnd U o U' L rm.cells rm.slots)
section Flow
variable {B : Bx} {n0 : Nat} {Q : Option Value → Heap → Prop} {h : Heap} {ce sl pc n : Nat} {Ls Ls' : Array Slot} {S S' : List Value} {l : Launch} {Z : State} {a0 : Array Value} {R : Room} {y : MethodName} {b : ByteArray} {mx : Nat} {rt : Option FieldType}
theorem Pays.mono {rm : Room} {as' : Array Value} {Q' : Option Value → Heap → Prop} (hM : Pays l Z y b mx rt rm as' n0 h Q) (hq : ∀ v h, Q v h → Q' v h) : Pays l Z y b mx rt rm as' n0 h Q' := by
  intro ws p e ha hc hk s m args below hf happ hP hK
  obtain ⟨k, o, h1, h2, h3, v, L, h4, h5, h6⟩ := hM ws p e ha hc hk s m args below hf happ hP hK
  exact ⟨k, o, h1, h2, h3, v, L, h4, ⟨hq _ _ h5.1, h5.2⟩, h6⟩
theorem Pays.of (hw : ∀ d ∈ tables_1, d.before a0 Z = true) (hp : plainFor y = true) {rm : Room} {as' : Array Value} (ef : ∀ m, entryFrame m as' mx = mkF m 0 Ls []) (hb : ∀ B, Cx B l Z a0 rm y b mx rt → Go B n0 Q h 0 0 0 Ls []) : Pays l Z y b mx rt rm as' n0 h Q := by
  intro ws
  refine MetFree.of_bodySF hp hisR ?_
  intro p e s m args below meth c s₁ Bd hml0 hP hK
  obtain ⟨rfl, hZ, hh⟩ := hP
  have X0 : Stand p l e rm s m args below meth c s₁ [] 0 0 := Stand.of_body Bd
  have e0 : s₁.heap = h := by rw [← hh, Bd.state]; rfl
  obtain ⟨s₂, o, st, r1, r2, v, L, r3, r4, r5⟩ := hb (p, l, e, rm, s, m, args, below, meth, c) ⟨rfl, rfl, Bd.exec, Bd.bytes, hml0, findClass_of_methodNamed Bd.named, (name_of_methodNamed Bd.named Bd.method).1, Bd.returns, BodyLoose.notSynchronized Bd, hZ, hw⟩ s₁ [] X0 e0 (Fr.nil n0)
  exact ⟨s₂, o, castTop (ef m) st, r1, r2, v, L, r3, r4, r5⟩
theorem iAloadN (C : Cx B l Z a0 R y b mx rt) {k : Fin 4} {v : Value} (hd : De b pc (.aload_n k) 1 n) (hl : Ls[k.val]? = some (.val v)) (hv : v.isRef = true) (K : Go B n0 Q h ce sl n Ls (v :: S)) : Go B n0 Q h ce sl pc Ls (S) := by
  obtain ⟨p, l', e, R', s, m, args, below, meth, c⟩ := B
  obtain ⟨rfl, rfl, hx, rfl, hml, hown, hnm, hret, hlk, hZ, hw⟩ := C
  intro T locs X eT N
  obtain ⟨hd, rfl⟩ := hd
  obtain ⟨s₂, o, st, r⟩ := K T locs X eT N
  exact ⟨s₂, o, XS.aloadN X.here hx rfl hd hl hv st, r⟩
theorem iAload (C : Cx B l Z a0 R y b mx rt) {k : Nat} {v : Value} (hd : De b pc (.aload k) 2 n) (hl : Ls[k]? = some (.val v)) (hv : v.isRef = true) (K : Go B n0 Q h ce sl n Ls (v :: S)) : Go B n0 Q h ce sl pc Ls (S) := by
  obtain ⟨p, l', e, R', s, m, args, below, meth, c⟩ := B
  obtain ⟨rfl, rfl, hx, rfl, hml, hown, hnm, hret, hlk, hZ, hw⟩ := C
  intro T locs X eT N
  obtain ⟨hd, rfl⟩ := hd
  obtain ⟨s₂, o, st, r⟩ := K T locs X eT N
  exact ⟨s₂, o, XS.aload X.here hx rfl hd hl hv st, r⟩
theorem iIloadN (C : Cx B l Z a0 R y b mx rt) {k : Fin 4} {v : Int32} (hd : De b pc (.iload_n k) 1 n) (hl : Ls[k.val]? = some (.val (.int v))) (K : Go B n0 Q h ce sl n Ls (.int v :: S)) : Go B n0 Q h ce sl pc Ls (S) := by
  obtain ⟨p, l', e, R', s, m, args, below, meth, c⟩ := B
  obtain ⟨rfl, rfl, hx, rfl, hml, hown, hnm, hret, hlk, hZ, hw⟩ := C
  intro T locs X eT N
  obtain ⟨hd, rfl⟩ := hd
  obtain ⟨s₂, o, st, r⟩ := K T locs X eT N
  exact ⟨s₂, o, XS.iloadN X.here hx rfl hd hl st, r⟩
theorem iIload (C : Cx B l Z a0 R y b mx rt) {k : Nat} {v : Int32} (hd : De b pc (.iload k) 2 n) (hl : Ls[k]? = some (.val (.int v))) (K : Go B n0 Q h ce sl n Ls (.int v :: S)) : Go B n0 Q h ce sl pc Ls (S) := by
  obtain ⟨p, l', e, R', s, m, args, below, meth, c⟩ := B
  obtain ⟨rfl, rfl, hx, rfl, hml, hown, hnm, hret, hlk, hZ, hw⟩ := C
  intro T locs X eT N
  obtain ⟨hd, rfl⟩ := hd
  obtain ⟨s₂, o, st, r⟩ := K T locs X eT N
  exact ⟨s₂, o, XS.iload X.here hx rfl hd hl st, r⟩
theorem iLloadN (C : Cx B l Z a0 R y b mx rt) {k : Fin 4} {v : Int64} (hd : De b pc (.lload_n k) 1 n) (hl : Ls[k.val]? = some (.val (.long v))) (K : Go B n0 Q h ce sl n Ls (.long v :: S)) : Go B n0 Q h ce sl pc Ls (S) := by
  obtain ⟨p, l', e, R', s, m, args, below, meth, c⟩ := B
  obtain ⟨rfl, rfl, hx, rfl, hml, hown, hnm, hret, hlk, hZ, hw⟩ := C
  intro T locs X eT N
  obtain ⟨hd, rfl⟩ := hd
  obtain ⟨s₂, o, st, r⟩ := K T locs X eT N
  exact ⟨s₂, o, XT.lloadN X.here hx rfl hd hl st, r⟩
theorem iLload (C : Cx B l Z a0 R y b mx rt) {k : Nat} {v : Int64} (hd : De b pc (.lload k) 2 n) (hl : Ls[k]? = some (.val (.long v))) (K : Go B n0 Q h ce sl n Ls (.long v :: S)) : Go B n0 Q h ce sl pc Ls (S) := by
  obtain ⟨p, l', e, R', s, m, args, below, meth, c⟩ := B
  obtain ⟨rfl, rfl, hx, rfl, hml, hown, hnm, hret, hlk, hZ, hw⟩ := C
  intro T locs X eT N
  obtain ⟨hd, rfl⟩ := hd
  obtain ⟨s₂, o, st, r⟩ := K T locs X eT N
  exact ⟨s₂, o, XT.lload X.here hx rfl hd hl st, r⟩
theorem iIconst (C : Cx B l Z a0 R y b mx rt) {i : Int} {v : Int32} (hd : De b pc (.iconst i) 1 n) (hv : Int32.ofInt i = v) (K : Go B n0 Q h ce sl n Ls (.int v :: S)) : Go B n0 Q h ce sl pc Ls (S) := by
  obtain ⟨p, l', e, R', s, m, args, below, meth, c⟩ := B
  obtain ⟨rfl, rfl, hx, rfl, hml, hown, hnm, hret, hlk, hZ, hw⟩ := C
  intro T locs X eT N
  obtain ⟨hd, rfl⟩ := hd
  subst hv
  obtain ⟨s₂, o, st, r⟩ := K T locs X eT N
  exact ⟨s₂, o, XS.iconst X.here hx rfl hd st, r⟩
theorem iBipush (C : Cx B l Z a0 R y b mx rt) {i : Int} {v : Int32} (hd : De b pc (.bipush i) 2 n) (hv : (Int8.ofInt i).toInt32 = v) (K : Go B n0 Q h ce sl n Ls (.int v :: S)) : Go B n0 Q h ce sl pc Ls (S) := by
  obtain ⟨p, l', e, R', s, m, args, below, meth, c⟩ := B
  obtain ⟨rfl, rfl, hx, rfl, hml, hown, hnm, hret, hlk, hZ, hw⟩ := C
  intro T locs X eT N
  obtain ⟨hd, rfl⟩ := hd
  subst hv
  obtain ⟨s₂, o, st, r⟩ := K T locs X eT N
  exact ⟨s₂, o, XS.bipush X.here hx rfl hd st, r⟩
theorem iSipush (C : Cx B l Z a0 R y b mx rt) {i : Int} {v : Int32} (hd : De b pc (.sipush i) 3 n) (hv : (Int16.ofInt i).toInt32 = v) (K : Go B n0 Q h ce sl n Ls (.int v :: S)) : Go B n0 Q h ce sl pc Ls (S) := by
  obtain ⟨p, l', e, R', s, m, args, below, meth, c⟩ := B
  obtain ⟨rfl, rfl, hx, rfl, hml, hown, hnm, hret, hlk, hZ, hw⟩ := C
  intro T locs X eT N
  obtain ⟨hd, rfl⟩ := hd
  subst hv
  obtain ⟨s₂, o, st, r⟩ := K T locs X eT N
  exact ⟨s₂, o, XS.sipush X.here hx rfl hd st, r⟩
theorem iNull (C : Cx B l Z a0 R y b mx rt)  (hd : De b pc (.aconst_null) 1 n) (K : Go B n0 Q h ce sl n Ls (.null :: S)) : Go B n0 Q h ce sl pc Ls (S) := by
  obtain ⟨p, l', e, R', s, m, args, below, meth, c⟩ := B
  obtain ⟨rfl, rfl, hx, rfl, hml, hown, hnm, hret, hlk, hZ, hw⟩ := C
  intro T locs X eT N
  obtain ⟨hd, rfl⟩ := hd
  obtain ⟨s₂, o, st, r⟩ := K T locs X eT N
  exact ⟨s₂, o, XS.aconstNull X.here hx rfl hd st, r⟩
theorem iIadd (C : Cx B l Z a0 R y b mx rt) {x z v : Int32} (hd : De b pc (.iadd) 1 n) (hv : x + z = v) (K : Go B n0 Q h ce sl n Ls (.int v :: S)) : Go B n0 Q h ce sl pc Ls (.int z :: .int x :: S) := by
  obtain ⟨p, l', e, R', s, m, args, below, meth, c⟩ := B
  obtain ⟨rfl, rfl, hx, rfl, hml, hown, hnm, hret, hlk, hZ, hw⟩ := C
  intro T locs X eT N
  obtain ⟨hd, rfl⟩ := hd
  subst hv
  obtain ⟨s₂, o, st, r⟩ := K T locs X eT N
  exact ⟨s₂, o, XS.iadd X.here hx rfl hd rfl st, r⟩
theorem iIsub (C : Cx B l Z a0 R y b mx rt) {x z v : Int32} (hd : De b pc (.isub) 1 n) (hv : x - z = v) (K : Go B n0 Q h ce sl n Ls (.int v :: S)) : Go B n0 Q h ce sl pc Ls (.int z :: .int x :: S) := by
  obtain ⟨p, l', e, R', s, m, args, below, meth, c⟩ := B
  obtain ⟨rfl, rfl, hx, rfl, hml, hown, hnm, hret, hlk, hZ, hw⟩ := C
  intro T locs X eT N
  obtain ⟨hd, rfl⟩ := hd
  subst hv
  obtain ⟨s₂, o, st, r⟩ := K T locs X eT N
  exact ⟨s₂, o, XS.isub X.here hx rfl hd rfl st, r⟩
theorem iIand (C : Cx B l Z a0 R y b mx rt) {x z v : Int32} (hd : De b pc (.iand) 1 n) (hv : x &&& z = v) (K : Go B n0 Q h ce sl n Ls (.int v :: S)) : Go B n0 Q h ce sl pc Ls (.int z :: .int x :: S) := by
  obtain ⟨p, l', e, R', s, m, args, below, meth, c⟩ := B
  obtain ⟨rfl, rfl, hx, rfl, hml, hown, hnm, hret, hlk, hZ, hw⟩ := C
  intro T locs X eT N
  obtain ⟨hd, rfl⟩ := hd
  subst hv
  obtain ⟨s₂, o, st, r⟩ := K T locs X eT N
  exact ⟨s₂, o, XS.iand X.here hx rfl hd rfl st, r⟩
theorem iImul (C : Cx B l Z a0 R y b mx rt) {x z v : Int32} (hd : De b pc (.imul) 1 n) (hv : x * z = v) (K : Go B n0 Q h ce sl n Ls (.int v :: S)) : Go B n0 Q h ce sl pc Ls (.int z :: .int x :: S) := by
  obtain ⟨p, l', e, R', s, m, args, below, meth, c⟩ := B
  obtain ⟨rfl, rfl, hx, rfl, hml, hown, hnm, hret, hlk, hZ, hw⟩ := C
  intro T locs X eT N
  obtain ⟨hd, rfl⟩ := hd
  subst hv
  obtain ⟨s₂, o, st, r⟩ := K T locs X eT N
  exact ⟨s₂, o, XS.imul X.here hx rfl hd rfl st, r⟩
theorem iIdiv (C : Cx B l Z a0 R y b mx rt) {x z v : Int32} (hd : De b pc (.idiv) 1 n) (hz : z ≠ 0) (hv : x / z = v) (K : Go B n0 Q h ce sl n Ls (.int v :: S)) : Go B n0 Q h ce sl pc Ls (.int z :: .int x :: S) := by
  obtain ⟨p, l', e, R', s, m, args, below, meth, c⟩ := B
  obtain ⟨rfl, rfl, hx, rfl, hml, hown, hnm, hret, hlk, hZ, hw⟩ := C
  intro T locs X eT N
  obtain ⟨hd, rfl⟩ := hd
  subst hv
  obtain ⟨s₂, o, st, r⟩ := K T locs X eT N
  exact ⟨s₂, o, XS.idiv X.here hx rfl hd rfl hz st, r⟩
theorem iIrem (C : Cx B l Z a0 R y b mx rt) {x z v : Int32} (hd : De b pc (.irem) 1 n) (hz : z ≠ 0) (hv : x % z = v) (K : Go B n0 Q h ce sl n Ls (.int v :: S)) : Go B n0 Q h ce sl pc Ls (.int z :: .int x :: S) := by
  obtain ⟨p, l', e, R', s, m, args, below, meth, c⟩ := B
  obtain ⟨rfl, rfl, hx, rfl, hml, hown, hnm, hret, hlk, hZ, hw⟩ := C
  intro T locs X eT N
  obtain ⟨hd, rfl⟩ := hd
  subst hv
  obtain ⟨s₂, o, st, r⟩ := K T locs X eT N
  exact ⟨s₂, o, iremM X hx rfl hd rfl hz st, r⟩
theorem iDup (C : Cx B l Z a0 R y b mx rt) {x : Value} (hd : De b pc (.dup) 1 n) (hc : x.category = 1) (K : Go B n0 Q h ce sl n Ls (x :: x :: S)) : Go B n0 Q h ce sl pc Ls (x :: S) := by
  obtain ⟨p, l', e, R', s, m, args, below, meth, c⟩ := B
  obtain ⟨rfl, rfl, hx, rfl, hml, hown, hnm, hret, hlk, hZ, hw⟩ := C
  intro T locs X eT N
  obtain ⟨hd, rfl⟩ := hd
  obtain ⟨s₂, o, st, r⟩ := K T locs X eT N
  exact ⟨s₂, o, XS.dup X.here hx rfl hd rfl hc st, r⟩
theorem iPop (C : Cx B l Z a0 R y b mx rt) {x : Value} (hd : De b pc (.pop) 1 n) (hc : x.category = 1) (K : Go B n0 Q h ce sl n Ls (S)) : Go B n0 Q h ce sl pc Ls (x :: S) := by
  obtain ⟨p, l', e, R', s, m, args, below, meth, c⟩ := B
  obtain ⟨rfl, rfl, hx, rfl, hml, hown, hnm, hret, hlk, hZ, hw⟩ := C
  intro T locs X eT N
  obtain ⟨hd, rfl⟩ := hd
  obtain ⟨s₂, o, st, r⟩ := K T locs X eT N
  exact ⟨s₂, o, XT.pop X.here hx rfl hd rfl hc st, r⟩
theorem iIstoreN (C : Cx B l Z a0 R y b mx rt) {k : Fin 4} {x : Int32} (hd : De b pc (.istore_n k) 1 n) (hl : storeLocals Ls k.val (.int x) = some Ls') (K : Go B n0 Q h ce sl n Ls' (S)) : Go B n0 Q h ce sl pc Ls (.int x :: S) := by
  obtain ⟨p, l', e, R', s, m, args, below, meth, c⟩ := B
  obtain ⟨rfl, rfl, hx, rfl, hml, hown, hnm, hret, hlk, hZ, hw⟩ := C
  intro T locs X eT N
  obtain ⟨hd, rfl⟩ := hd
  obtain ⟨s₂, o, st, r⟩ := K T locs X eT N
  exact ⟨s₂, o, XS.istoreN X.here hx rfl hd rfl hl st, r⟩
theorem iIstore (C : Cx B l Z a0 R y b mx rt) {k : Nat} {x : Int32} (hd : De b pc (.istore k) 2 n) (hl : storeLocals Ls k (.int x) = some Ls') (K : Go B n0 Q h ce sl n Ls' (S)) : Go B n0 Q h ce sl pc Ls (.int x :: S) := by
  obtain ⟨p, l', e, R', s, m, args, below, meth, c⟩ := B
  obtain ⟨rfl, rfl, hx, rfl, hml, hown, hnm, hret, hlk, hZ, hw⟩ := C
  intro T locs X eT N
  obtain ⟨hd, rfl⟩ := hd
  obtain ⟨s₂, o, st, r⟩ := K T locs X eT N
  exact ⟨s₂, o, XS.istore X.here hx rfl hd rfl hl st, r⟩
theorem iAstoreN (C : Cx B l Z a0 R y b mx rt) {k : Fin 4} {x : Value} (hd : De b pc (.astore_n k) 1 n) (hv : x.isRef = true) (hl : storeLocals Ls k.val x = some Ls') (K : Go B n0 Q h ce sl n Ls' (S)) : Go B n0 Q h ce sl pc Ls (x :: S) := by
  obtain ⟨p, l', e, R', s, m, args, below, meth, c⟩ := B
  obtain ⟨rfl, rfl, hx, rfl, hml, hown, hnm, hret, hlk, hZ, hw⟩ := C
  intro T locs X eT N
  obtain ⟨hd, rfl⟩ := hd
  obtain ⟨s₂, o, st, r⟩ := K T locs X eT N
  exact ⟨s₂, o, XS.astoreN X.here hx rfl hd rfl hv hl st, r⟩
theorem iAstore (C : Cx B l Z a0 R y b mx rt) {k : Nat} {x : Value} (hd : De b pc (.astore k) 2 n) (hv : x.isRef = true) (hl : storeLocals Ls k x = some Ls') (K : Go B n0 Q h ce sl n Ls' (S)) : Go B n0 Q h ce sl pc Ls (x :: S) := by
  obtain ⟨p, l', e, R', s, m, args, below, meth, c⟩ := B
  obtain ⟨rfl, rfl, hx, rfl, hml, hown, hnm, hret, hlk, hZ, hw⟩ := C
  intro T locs X eT N
  obtain ⟨hd, rfl⟩ := hd
  obtain ⟨s₂, o, st, r⟩ := K T locs X eT N
  exact ⟨s₂, o, XS.astore X.here hx rfl hd rfl hv hl st, r⟩
theorem iIinc (C : Cx B l Z a0 R y b mx rt) {k : Nat} {cst : Int} {x v : Int32} (hd : De b pc (.iinc k cst) 3 n) (hl : Ls[k]? = some (.val (.int x))) (hv : x + Int32.ofInt cst = v) (hl' : storeLocals Ls k (.int v) = some Ls') (K : Go B n0 Q h ce sl n Ls' (S)) : Go B n0 Q h ce sl pc Ls (S) := by
  obtain ⟨p, l', e, R', s, m, args, below, meth, c⟩ := B
  obtain ⟨rfl, rfl, hx, rfl, hml, hown, hnm, hret, hlk, hZ, hw⟩ := C
  intro T locs X eT N
  obtain ⟨hd, rfl⟩ := hd
  subst hv
  obtain ⟨s₂, o, st, r⟩ := K T locs X eT N
  exact ⟨s₂, o, XS.iinc X.here hx rfl hd hl hl' st, r⟩
theorem iI2b (C : Cx B l Z a0 R y b mx rt) {x v : Int32} (hd : De b pc (.i2b) 1 n) (hv : x.toInt8.toInt32 = v) (K : Go B n0 Q h ce sl n Ls (.int v :: S)) : Go B n0 Q h ce sl pc Ls (.int x :: S) := by
  obtain ⟨p, l', e, R', s, m, args, below, meth, c⟩ := B
  obtain ⟨rfl, rfl, hx, rfl, hml, hown, hnm, hret, hlk, hZ, hw⟩ := C
  intro T locs X eT N
  obtain ⟨hd, rfl⟩ := hd
  subst hv
  obtain ⟨s₂, o, st, r⟩ := K T locs X eT N
  exact ⟨s₂, o, XT.i2b X.here hx rfl hd rfl st, r⟩
theorem iI2c (C : Cx B l Z a0 R y b mx rt) {x v : Int32} (hd : De b pc (.i2c) 1 n) (hv : x.toUInt32.toUInt16.toUInt32.toInt32 = v) (K : Go B n0 Q h ce sl n Ls (.int v :: S)) : Go B n0 Q h ce sl pc Ls (.int x :: S) := by
  obtain ⟨p, l', e, R', s, m, args, below, meth, c⟩ := B
  obtain ⟨rfl, rfl, hx, rfl, hml, hown, hnm, hret, hlk, hZ, hw⟩ := C
  intro T locs X eT N
  obtain ⟨hd, rfl⟩ := hd
  subst hv
  obtain ⟨s₂, o, st, r⟩ := K T locs X eT N
  exact ⟨s₂, o, XT.i2c X.here hx rfl hd rfl st, r⟩
theorem iIushr (C : Cx B l Z a0 R y b mx rt) {x z v : Int32} (hd : De b pc (.iushr) 1 n) (hv : (x.toUInt32 >>> (z &&& 31).toUInt32).toInt32 = v) (K : Go B n0 Q h ce sl n Ls (.int v :: S)) : Go B n0 Q h ce sl pc Ls (.int z :: .int x :: S) := by
  obtain ⟨p, l', e, R', s, m, args, below, meth, c⟩ := B
  obtain ⟨rfl, rfl, hx, rfl, hml, hown, hnm, hret, hlk, hZ, hw⟩ := C
  intro T locs X eT N
  obtain ⟨hd, rfl⟩ := hd
  subst hv
  obtain ⟨s₂, o, st, r⟩ := K T locs X eT N
  exact ⟨s₂, o, XT.iushr X.here hx rfl hd rfl st, r⟩
theorem iIfF (C : Cx B l Z a0 R y b mx rt) {cd : ClassFile.Cond} {o : Int} {x : Int32} (hd : De b pc (.ifCond cd o) 3 n) (hc : ifCond.holds cd x = false) (K : Go B n0 Q h ce sl n Ls (S)) : Go B n0 Q h ce sl pc Ls (.int x :: S) := by
  obtain ⟨p, l', e, R', s, m, args, below, meth, c⟩ := B
  obtain ⟨rfl, rfl, hx, rfl, hml, hown, hnm, hret, hlk, hZ, hw⟩ := C
  intro T locs X eT N
  obtain ⟨hd, rfl⟩ := hd
  obtain ⟨s₂, o, st, r⟩ := K T locs X eT N
  exact ⟨s₂, o, XS.ifNo X.here hx rfl hd rfl hc st, r⟩
theorem iCmpF (C : Cx B l Z a0 R y b mx rt) {cd : ClassFile.Cond} {o : Int} {x z : Int32} (hd : De b pc (.if_icmp cd o) 3 n) (hc : if_icmp.holds cd x z = false) (K : Go B n0 Q h ce sl n Ls (S)) : Go B n0 Q h ce sl pc Ls (.int z :: .int x :: S) := by
  obtain ⟨p, l', e, R', s, m, args, below, meth, c⟩ := B
  obtain ⟨rfl, rfl, hx, rfl, hml, hown, hnm, hret, hlk, hZ, hw⟩ := C
  intro T locs X eT N
  obtain ⟨hd, rfl⟩ := hd
  obtain ⟨s₂, o, st, r⟩ := K T locs X eT N
  exact ⟨s₂, o, XS.icmpNo X.here hx rfl hd rfl hc st, r⟩
theorem iNullF (C : Cx B l Z a0 R y b mx rt) {o : Int} {a : Addr} (hd : De b pc (.ifnull o) 3 n) (K : Go B n0 Q h ce sl n Ls (S)) : Go B n0 Q h ce sl pc Ls (.ref a :: S) := by
  obtain ⟨p, l', e, R', s, m, args, below, meth, c⟩ := B
  obtain ⟨rfl, rfl, hx, rfl, hml, hown, hnm, hret, hlk, hZ, hw⟩ := C
  intro T locs X eT N
  obtain ⟨hd, rfl⟩ := hd
  obtain ⟨s₂, o, st, r⟩ := K T locs X eT N
  exact ⟨s₂, o, XS.ifnullNo X.here hx rfl hd rfl st, r⟩
theorem iNonnullF (C : Cx B l Z a0 R y b mx rt) {o : Int} (hd : De b pc (.ifnonnull o) 3 n) (K : Go B n0 Q h ce sl n Ls (S)) : Go B n0 Q h ce sl pc Ls (.null :: S) := by
  obtain ⟨p, l', e, R', s, m, args, below, meth, c⟩ := B
  obtain ⟨rfl, rfl, hx, rfl, hml, hown, hnm, hret, hlk, hZ, hw⟩ := C
  intro T locs X eT N
  obtain ⟨hd, rfl⟩ := hd
  obtain ⟨s₂, o, st, r⟩ := K T locs X eT N
  exact ⟨s₂, o, XT.ifnonnullNo X.here hx rfl hd rfl st, r⟩
theorem iAcmpF (C : Cx B l Z a0 R y b mx rt) {cd : ClassFile.ACond} {o : Int} {x z : Value} (hd : De b pc (.if_acmp cd o) 3 n) (hx1 : x.isRef = true) (hz1 : z.isRef = true) (hc : XT.acmp cd x z = false) (K : Go B n0 Q h ce sl n Ls (S)) : Go B n0 Q h ce sl pc Ls (z :: x :: S) := by
  obtain ⟨p, l', e, R', s, m, args, below, meth, c⟩ := B
  obtain ⟨rfl, rfl, hx, rfl, hml, hown, hnm, hret, hlk, hZ, hw⟩ := C
  intro T locs X eT N
  obtain ⟨hd, rfl⟩ := hd
  obtain ⟨s₂, o, st, r⟩ := K T locs X eT N
  exact ⟨s₂, o, XT.acmpNo X.here hx rfl hd rfl hx1 hz1 hc st, r⟩
theorem iGoto (C : Cx B l Z a0 R y b mx rt) {o : Int} {t : Nat} (hd : De b pc (.goto o) 3 n) (hj : 0 ≤ (pc : Int) + o ∧ ((pc : Int) + o).toNat = t) (K : Go B n0 Q h ce sl t Ls (S)) : Go B n0 Q h ce sl pc Ls (S) := by
  obtain ⟨p, l', e, R', s, m, args, below, meth, c⟩ := B
  obtain ⟨rfl, rfl, hx, rfl, hml, hown, hnm, hret, hlk, hZ, hw⟩ := C
  intro T locs X eT N
  obtain ⟨hd, rfl⟩ := hd
  obtain ⟨s₂, oo, st, r⟩ := K T locs X eT N
  exact ⟨s₂, oo, XS.goto X.here hx rfl rfl hd hj.1 hj.2 st, r⟩
theorem iIfT (C : Cx B l Z a0 R y b mx rt) {cd : ClassFile.Cond} {o : Int} {x : Int32} {t : Nat} (hd : De b pc (.ifCond cd o) 3 n) (hc : ifCond.holds cd x = true) (hj : 0 ≤ (pc : Int) + o ∧ ((pc : Int) + o).toNat = t) (K : Go B n0 Q h ce sl t Ls (S)) : Go B n0 Q h ce sl pc Ls (.int x :: S) := by
  obtain ⟨p, l', e, R', s, m, args, below, meth, c⟩ := B
  obtain ⟨rfl, rfl, hx, rfl, hml, hown, hnm, hret, hlk, hZ, hw⟩ := C
  intro T locs X eT N
  obtain ⟨hd, rfl⟩ := hd
  obtain ⟨s₂, oo, st, r⟩ := K T locs X eT N
  exact ⟨s₂, oo, XS.ifYes X.here hx rfl rfl hd rfl hc hj.1 hj.2 st, r⟩
theorem iCmpT (C : Cx B l Z a0 R y b mx rt) {cd : ClassFile.Cond} {o : Int} {x z : Int32} {t : Nat} (hd : De b pc (.if_icmp cd o) 3 n) (hc : if_icmp.holds cd x z = true) (hj : 0 ≤ (pc : Int) + o ∧ ((pc : Int) + o).toNat = t) (K : Go B n0 Q h ce sl t Ls (S)) : Go B n0 Q h ce sl pc Ls (.int z :: .int x :: S) := by
  obtain ⟨p, l', e, R', s, m, args, below, meth, c⟩ := B
  obtain ⟨rfl, rfl, hx, rfl, hml, hown, hnm, hret, hlk, hZ, hw⟩ := C
  intro T locs X eT N
  obtain ⟨hd, rfl⟩ := hd
  obtain ⟨s₂, oo, st, r⟩ := K T locs X eT N
  exact ⟨s₂, oo, XS.icmpYes X.here hx rfl rfl hd rfl hc hj.1 hj.2 st, r⟩
theorem iNullT (C : Cx B l Z a0 R y b mx rt) {o : Int} {t : Nat} (hd : De b pc (.ifnull o) 3 n) (hj : 0 ≤ (pc : Int) + o ∧ ((pc : Int) + o).toNat = t) (K : Go B n0 Q h ce sl t Ls (S)) : Go B n0 Q h ce sl pc Ls (.null :: S) := by
  obtain ⟨p, l', e, R', s, m, args, below, meth, c⟩ := B
  obtain ⟨rfl, rfl, hx, rfl, hml, hown, hnm, hret, hlk, hZ, hw⟩ := C
  intro T locs X eT N
  obtain ⟨hd, rfl⟩ := hd
  obtain ⟨s₂, oo, st, r⟩ := K T locs X eT N
  exact ⟨s₂, oo, XS.ifnullYes X.here hx rfl rfl hd rfl hj.1 hj.2 st, r⟩
theorem iNonnullT (C : Cx B l Z a0 R y b mx rt) {o : Int} {a : Addr} {t : Nat} (hd : De b pc (.ifnonnull o) 3 n) (hj : 0 ≤ (pc : Int) + o ∧ ((pc : Int) + o).toNat = t) (K : Go B n0 Q h ce sl t Ls (S)) : Go B n0 Q h ce sl pc Ls (.ref a :: S) := by
  obtain ⟨p, l', e, R', s, m, args, below, meth, c⟩ := B
  obtain ⟨rfl, rfl, hx, rfl, hml, hown, hnm, hret, hlk, hZ, hw⟩ := C
  intro T locs X eT N
  obtain ⟨hd, rfl⟩ := hd
  obtain ⟨s₂, oo, st, r⟩ := K T locs X eT N
  exact ⟨s₂, oo, XT.ifnonnullYes X.here hx rfl rfl hd rfl hj.1 hj.2 st, r⟩
theorem iAcmpT (C : Cx B l Z a0 R y b mx rt) {cd : ClassFile.ACond} {o : Int} {x z : Value} {t : Nat} (hd : De b pc (.if_acmp cd o) 3 n) (hx1 : x.isRef = true) (hz1 : z.isRef = true) (hc : XT.acmp cd x z = true) (hj : 0 ≤ (pc : Int) + o ∧ ((pc : Int) + o).toNat = t) (K : Go B n0 Q h ce sl t Ls (S)) : Go B n0 Q h ce sl pc Ls (z :: x :: S) := by
  obtain ⟨p, l', e, R', s, m, args, below, meth, c⟩ := B
  obtain ⟨rfl, rfl, hx, rfl, hml, hown, hnm, hret, hlk, hZ, hw⟩ := C
  intro T locs X eT N
  obtain ⟨hd, rfl⟩ := hd
  obtain ⟨s₂, oo, st, r⟩ := K T locs X eT N
  exact ⟨s₂, oo, XT.acmpYes X.here hx rfl rfl hd rfl hx1 hz1 hc hj.1 hj.2 st, r⟩
theorem iLdcI (C : Cx B l Z a0 R y b mx rt) {i : Nat} {v : Int32} (w : Jvm.Cond.constant y.cls i v ∈ tables_1) (hd : De b pc (.ldc i) 2 n) (K : Go B n0 Q h ce sl n Ls (.int v :: S)) : Go B n0 Q h ce sl pc Ls S := by
  obtain ⟨p, l', e, R', s, m, args, below, meth, c⟩ := B
  obtain ⟨rfl, rfl, hx, rfl, hml, hown, hnm, hret, hlk, hZ, hw⟩ := C
  intro T locs X eT N
  obtain ⟨hd, rfl⟩ := hd
  obtain ⟨s₂, o, st, r⟩ := K T locs X eT N
  exact ⟨s₂, o, X.ldcInt hx hown (mvT hZ (hw _ w)) (g := mkF m pc Ls S) rfl hd _ st, r⟩
theorem iGetS (C : Cx B l Z a0 R y b mx rt) {i : Nat} {O f d : String} {v : Value} (w : Jvm.Cond.fieldLink y.cls i O f d ∈ tables_1) (F : Sta Z h O f d v) (hd : De b pc (.getstatic i) 3 n) (K : Go B n0 Q h ce sl n Ls (v :: S)) : Go B n0 Q h ce sl pc Ls S := by
  obtain ⟨p, l', e, R', s, m, args, below, meth, c⟩ := B
  obtain ⟨rfl, rfl, hx, rfl, hml, hown, hnm, hret, hlk, hZ, hw⟩ := C
  intro T locs X eT N
  obtain ⟨hd, rfl⟩ := hd
  obtain ⟨T', X', e', st⟩ := getS X hx hZ (host := "") hown (hw _ w) Via.refl eT F (g := mkF m pc Ls S) rfl hd
  obtain ⟨s₂, o, st', r⟩ := K T' locs X' e' N
  exact ⟨s₂, o, st _ st', r⟩
theorem iGetF (C : Cx B l Z a0 R y b mx rt) {i : Nat} {O f d : String} {a : Addr} {v : Value} (w : Jvm.Cond.fieldLink y.cls i O f d ∈ tables_1) (F : Fld Z h a O f d v) (hd : De b pc (.getfield i) 3 n) (K : Go B n0 Q h ce sl n Ls (v :: S)) : Go B n0 Q h ce sl pc Ls (.ref a :: S) := by
  obtain ⟨p, l', e, R', s, m, args, below, meth, c⟩ := B
  obtain ⟨rfl, rfl, hx, rfl, hml, hown, hnm, hret, hlk, hZ, hw⟩ := C
  intro T locs X eT N
  obtain ⟨hd, rfl⟩ := hd
  obtain ⟨T', X', e', st⟩ := getF X hx hZ hown (host := "") (Or.inl (hw _ w)) Via.refl eT F (g := mkF m pc Ls (.ref a :: S)) rfl rfl hd
  obtain ⟨s₂, o, st', r⟩ := K T' locs X' e' N
  exact ⟨s₂, o, st _ st', r⟩
theorem iPutF (C : Cx B l Z a0 R y b mx rt) {i kk : Nat} {O f d CC : String} {a : Addr} {v old : Value} {ty : FieldType} (w : Jvm.Cond.fieldLink y.cls i O f d ∈ tables_1) (F : Fld Z h a O f d old) (E : Exa Z h a CC) (L : Jvm.Cond.lays CC O f d ∈ tables_1 ∨ (Jvm.Cond.laysFinal CC O f d ∈ tables_1 ∧ y.cls = O ∧ y.name = "<init>")) (wi : Jvm.Cond.instantiable CC kk ∈ tables_1) (hty : parseFieldDescriptor d = some ty) (hn : narrow ty v = v) (hf : fits ty v = true) (ha : n0 ≤ a) (hd : De b pc (.putfield i) 3 n) (K : ∀ h', Wr h h' a (Jvm.RoadKit.slotOf Z O f d) v → Go B n0 Q h' ce sl n Ls S) : Go B n0 Q h ce sl pc Ls (v :: .ref a :: S) := by
  obtain ⟨p, l', e, R', s, m, args, below, meth, c⟩ := B
  obtain ⟨rfl, rfl, hx, rfl, hml, hown, hnm, hret, hlk, hZ, hw⟩ := C
  intro T locs X eT N
  obtain ⟨hd, rfl⟩ := hd
  obtain ⟨T', h', X', e', W, st⟩ := putF X hx hZ hown (host := "") (Or.inl (hw _ w)) Via.refl eT F E (L.imp (fun q => hw _ q) fun q => ⟨hw _ q.1, q.2.1, hnm.trans q.2.2⟩) (hw _ wi) hty hn hf (g := mkF m pc Ls (v :: .ref a :: S)) rfl rfl hd
  obtain ⟨s₂, o, st', r⟩ := K h' W T' _ X' e' (Fr.snoc X' N ha)
  exact ⟨s₂, o, st _ st', r⟩
theorem iNew (C : Cx B l Z a0 R y b mx rt) {i kk ce' sl' : Nat} {CC : String} (w1 : Jvm.Cond.classLink y.cls i CC ∈ tables_1) (w2 : Jvm.Cond.instantiable CC kk ∈ tables_1) (w3 : Jvm.Cond.initialized CC ∈ tables_1) (hd : De b pc (.new i) 3 n) (hc : ce + 1 = ce' ∧ sl + kk = sl' ∧ ce' ≤ R.cells ∧ sl' ≤ R.slots) (K : ∀ (h' : Heap) (a : Addr), a = h.size → Ext h h' → Exa Z h' a CC → (∀ {O nm d : String} {ty : FieldType}, Laid Z a0 CC O nm d → parseFieldDescriptor d = some ty → Fld Z h' a O nm d (defaultValue ty)) → Go B n0 Q h' ce' sl' n Ls (.ref a :: S)) : Go B n0 Q h ce sl pc Ls S := by
  obtain ⟨p, l', e, R', s, m, args, below, meth, c⟩ := B
  obtain ⟨rfl, rfl, hx, rfl, hml, hown, hnm, hret, hlk, hZ, hw⟩ := C
  intro T locs X eT N
  obtain ⟨hd, rfl⟩ := hd
  obtain ⟨rfl, rfl, hc, hs⟩ := hc
  obtain ⟨T', h', X', e', E, A, D, -, st⟩ := newO X hx hZ hown (hw _ w1) (hw _ w2) (hw _ w3) eT (g := mkF m pc Ls S) rfl hd hc hs
  obtain ⟨s₂, o, st', r⟩ := K h' _ rfl E A D T' locs X' e' N
  exact ⟨s₂, o, st _ st', r⟩
theorem iInitO (C : Cx B l Z a0 R y b mx rt) {i W : Nat} {a : Addr} (w1 : Jvm.Cond.methodLink y.cls i Lib.objectInit ∈ tables_1) (w2 : Jvm.Cond.instanceMethod Lib.objectInit ∈ tables_1) (w3 : Jvm.Cond.code Lib.objectInit ⟨#[0xb1]⟩ 1 none ∈ tables_1) (hd : De b pc (.invokespecial i) 3 n) (hsz : Ls.size = mx) (hf : 1 ≤ R.frames) (hW : (S.map fun v => v.category).sum = W) (hl : W + 12 ≤ R.locals) (K : Go B n0 Q h ce sl n Ls S) : Go B n0 Q h ce sl pc Ls (.ref a :: S) := by
  obtain ⟨p, l', e, R', s, m, args, below, meth, c⟩ := B
  obtain ⟨rfl, rfl, hx, rfl, hml, hown, hnm, hret, hlk, hZ, hw⟩ := C
  intro T locs X eT N
  obtain ⟨hd, rfl⟩ := hd
  obtain ⟨T', X', e', st⟩ := initO X hx hZ hown (hw _ w1) (hw _ w2) (hw _ w3) eT (g := mkF m pc Ls (.ref a :: S)) rfl (by rw [hml]; exact hsz) rfl hd hf (W := W) (by show 2 * 0 + _ ≤ _; omega) hl
  obtain ⟨s₂, o, st', r⟩ := K T' locs X' e' N
  exact ⟨s₂, o, st _ st', r⟩
def Pay (l : Launch) (Z : State) (R : Room) (yc : MethodName) (len W : Nat) (as' : Array Value) (n0 : Nat) (h : Heap) (cc ss : Nat) (Qc : Option Value → Heap → Prop) : Prop :=
  ∀ (p : Program) (e : Env) (below : List Frame) (s : State) (args : Array Value), Z.Warmed39 s.vm → Back l R p e below s args yc len W (fun A a => a = as' ∧ A.U.heap = h ∧ A.cells + cc ≤ R.cells ∧ A.slots + ss ≤ R.slots) (fun A _ v B => ∃ L, QQ n0 Qc v B.U.heap L ∧ B.locs = A.locs ++ L ∧ B.cells = A.cells + cc ∧ B.slots = A.slots + ss)
theorem Pay.of {yc : MethodName} {cb : ByteArray} {cm len W : Nat} {cr : Option FieldType} {rm : Room} {as' : Array Value} {Qc : Option Value → Heap → Prop} (hM : Pays l Z yc cb cm cr rm as' n0 h Qc) (hw : ∀ d ∈ tables_1, d.before a0 Z = true) (w4 : Jvm.Cond.code yc cb cm cr ∈ tables_1) (w3 : Jvm.Cond.initialized yc.cls ∈ tables_1) (hr1 : rm.frames + 1 ≤ R.frames) (hr2 : W + (cm + 11) + rm.locals ≤ R.locals) : Pay l Z R yc len W as' n0 h rm.cells rm.slots Qc :=
  fun p e below s args hZ => backOf (W := W) (hM []) hZ (hw _ w4) (hw _ w3) hr1 hr2
theorem Cx.words (C : Cx B l Z a0 R y b mx rt) : ∀ d ∈ tables_1, d.before a0 Z = true := by
  obtain ⟨p, l', e, R', s, m, args, below, meth, c⟩ := B
  obtain ⟨rfl, rfl, hx, rfl, hml, hown, hnm, hret, hlk, hZ, hw⟩ := C
  exact hw
theorem iCallSB (C : Cx B l Z a0 R y b mx rt) {yc : MethodName} {as' : Array Value} {Qc : Option Value → Heap → Prop} {i W cc ss ce' sl' : Nat} {argsL : List Value} {cbx : ByteArray} {cmx : Nat} {crx : Option FieldType} (hM : Pay l Z R yc 3 W as' n0 h cc ss Qc) (w1 : Jvm.Cond.methodLink y.cls i yc ∈ tables_1) (w2 : Jvm.Cond.static yc ∈ tables_1) (w3 : Jvm.Cond.initialized yc.cls ∈ tables_1) (w4 : Jvm.Cond.code yc cbx cmx crx ∈ tables_1) (hy : yc.cls ≠ "java/lang/invoke/MethodHandle" ∧ yc.cls ≠ "java/lang/invoke/VarHandle") (hlen : ∀ sig, parseMethodDescriptor yc.desc = some sig → argsL.length = sig.parameters.length) (hS : S = argsL.reverse ++ S') (has : argsL.toArray = as') (hd : De b pc (.invokestatic i) 3 n) (hsz : Ls.size = mx) (hW : (S'.map fun v => v.category).sum = W) (hr : ce + cc = ce' ∧ sl + ss = sl' ∧ ce' ≤ R.cells ∧ sl' ≤ R.slots) (K : ∀ (v : Option Value) (h' : Heap), Qc v h' → Go B n0 Q h' ce' sl' n Ls (v.toList ++ S')) : Go B n0 Q h ce sl pc Ls S := by
  obtain ⟨p, l', e, R', s, m, args, below, meth, c⟩ := B
  obtain ⟨rfl, rfl, hx, rfl, hml, hown, hnm, hret, hlk, hZ, hw⟩ := C
  intro T locs X eT N
  obtain ⟨hd, rfl⟩ := hd
  obtain ⟨rfl, rfl, hr3, hr4⟩ := hr
  subst hS has
  obtain ⟨v, vm₁, ⟨T', L', k', n'⟩, -, X', ⟨Lc, hQ, l', y', z'⟩, st⟩ := Jvm.LawKit.callS X hx (y := yc) hown (mvT hZ (hw _ w1)) (mvT hZ (hw _ w2)) (mvT hZ (hw _ w3)) (mvT hZ (hw _ w4)) hy (hM p e below s args hZ) (g := mkF m pc Ls (argsL.reverse ++ S')) rfl (by rw [hml]; exact hsz) (argsL := argsL) (rest := S') hlen rfl (by show 2 * 0 + _ ≤ _; omega) hd (fun _ _ => ⟨rfl, eT, hr3, hr4⟩)
  dsimp only [Pt.U, Pt.locs, Pt.cells, Pt.slots] at X' l' y' z' st hQ
  subst l' y' z'
  obtain ⟨s₂, o, st', r⟩ := K v _ hQ.1 T' _ X' rfl (Fr.app N hQ.2)
  exact ⟨s₂, o, st _ st', r⟩
theorem iCallS (C : Cx B l Z a0 R y b mx rt) {yc : MethodName} {cb : ByteArray} {cm : Nat} {cr : Option FieldType} {rm : Room} {as' : Array Value} {Qc : Option Value → Heap → Prop} {i W ce' sl' : Nat} {argsL : List Value} (hM : Pays l Z yc cb cm cr rm as' n0 h Qc) (w1 : Jvm.Cond.methodLink y.cls i yc ∈ tables_1) (w2 : Jvm.Cond.static yc ∈ tables_1) (w3 : Jvm.Cond.initialized yc.cls ∈ tables_1) (w4 : Jvm.Cond.code yc cb cm cr ∈ tables_1) (hy : yc.cls ≠ "java/lang/invoke/MethodHandle" ∧ yc.cls ≠ "java/lang/invoke/VarHandle") (hlen : ∀ sig, parseMethodDescriptor yc.desc = some sig → argsL.length = sig.parameters.length) (hS : S = argsL.reverse ++ S') (has : argsL.toArray = as') (hd : De b pc (.invokestatic i) 3 n) (hsz : Ls.size = mx) (hW : (S'.map fun v => v.category).sum = W) (hr : rm.frames + 1 ≤ R.frames ∧ W + (cm + 11) + rm.locals ≤ R.locals ∧ ce + rm.cells = ce' ∧ sl + rm.slots = sl' ∧ ce' ≤ R.cells ∧ sl' ≤ R.slots) (K : ∀ (v : Option Value) (h' : Heap), Qc v h' → Go B n0 Q h' ce' sl' n Ls (v.toList ++ S')) : Go B n0 Q h ce sl pc Ls S :=
  iCallSB C (Pay.of hM C.words w4 w3 hr.1 hr.2.1) w1 w2 w3 w4 hy hlen hS has hd hsz hW hr.2.2 K
theorem iCallIB (C : Cx B l Z a0 R y b mx rt) {yc : MethodName} {as' : Array Value} {Qc : Option Value → Heap → Prop} {i W cc ss ce' sl' : Nat} {argsL : List Value} {a : Addr} {cbx : ByteArray} {cmx : Nat} (hM : Pay l Z R yc 3 W as' n0 h cc ss Qc) (hi : yc.name = "<init>") (w1 : Jvm.Cond.methodLink y.cls i yc ∈ tables_1) (w2 : Jvm.Cond.instanceMethod yc ∈ tables_1) (w4 : Jvm.Cond.code yc cbx cmx none ∈ tables_1) (hy : yc.cls ≠ "java/lang/invoke/MethodHandle" ∧ yc.cls ≠ "java/lang/invoke/VarHandle") (hlen : ∀ sig, parseMethodDescriptor yc.desc = some sig → argsL.length = sig.parameters.length) (hS : S = argsL.reverse ++ .ref a :: S') (has : (.ref a :: argsL).toArray = as') (hd : De b pc (.invokespecial i) 3 n) (hsz : Ls.size = mx) (hW : (S'.map fun v => v.category).sum = W) (hr : ce + cc = ce' ∧ sl + ss = sl' ∧ ce' ≤ R.cells ∧ sl' ≤ R.slots) (K : ∀ (v : Option Value) (h' : Heap), Qc v h' → Go B n0 Q h' ce' sl' n Ls (v.toList ++ S')) : Go B n0 Q h ce sl pc Ls S := by
  obtain ⟨p, l', e, R', s, m, args, below, meth, c⟩ := B
  obtain ⟨rfl, rfl, hx, rfl, hml, hown, hnm, hret, hlk, hZ, hw⟩ := C
  intro T locs X eT N
  obtain ⟨hd, rfl⟩ := hd
  obtain ⟨rfl, rfl, hr3, hr4⟩ := hr
  subst hS has
  obtain ⟨v, vm₁, ⟨T', L', k', n'⟩, -, X', ⟨Lc, hQ, l', y', z'⟩, st⟩ := X.specialBack hx (y := yc) hi hown (mvT hZ (hw _ w1)) (mvT hZ (hw _ w2)) (mvT hZ (hw _ w4)) hy (hM p e below s args hZ) (g := mkF m pc Ls (argsL.reverse ++ .ref a :: S')) rfl (by rw [hml]; exact hsz) (Steps.refl _) (a := a) (argsL := argsL) (rest := S') hlen rfl (by show 2 * 0 + _ ≤ _; omega) hd (fun _ _ => ⟨rfl, eT, hr3, hr4⟩)
  dsimp only [Pt.U, Pt.locs, Pt.cells, Pt.slots] at X' l' y' z' st hQ
  subst l' y' z'
  obtain ⟨s₂, o, st', r⟩ := K v _ hQ.1 T' _ X' rfl (Fr.app N hQ.2)
  exact ⟨s₂, o, st.trans st', r⟩
theorem iCallI (C : Cx B l Z a0 R y b mx rt) {yc : MethodName} {cb : ByteArray} {cm : Nat} {rm : Room} {as' : Array Value} {Qc : Option Value → Heap → Prop} {i W ce' sl' : Nat} {argsL : List Value} {a : Addr} (hM : Pays l Z yc cb cm none rm as' n0 h Qc) (hi : yc.name = "<init>") (w1 : Jvm.Cond.methodLink y.cls i yc ∈ tables_1) (w2 : Jvm.Cond.instanceMethod yc ∈ tables_1) (w3 : Jvm.Cond.initialized yc.cls ∈ tables_1) (w4 : Jvm.Cond.code yc cb cm none ∈ tables_1) (hy : yc.cls ≠ "java/lang/invoke/MethodHandle" ∧ yc.cls ≠ "java/lang/invoke/VarHandle") (hlen : ∀ sig, parseMethodDescriptor yc.desc = some sig → argsL.length = sig.parameters.length) (hS : S = argsL.reverse ++ .ref a :: S') (has : (.ref a :: argsL).toArray = as') (hd : De b pc (.invokespecial i) 3 n) (hsz : Ls.size = mx) (hW : (S'.map fun v => v.category).sum = W) (hr : rm.frames + 1 ≤ R.frames ∧ W + (cm + 11) + rm.locals ≤ R.locals ∧ ce + rm.cells = ce' ∧ sl + rm.slots = sl' ∧ ce' ≤ R.cells ∧ sl' ≤ R.slots) (K : ∀ (v : Option Value) (h' : Heap), Qc v h' → Go B n0 Q h' ce' sl' n Ls (v.toList ++ S')) : Go B n0 Q h ce sl pc Ls S :=
  iCallIB C (Pay.of hM C.words w4 w3 hr.1 hr.2.1) hi w1 w2 w4 hy hlen hS has hd hsz hW hr.2.2 K
theorem iCallVB (C : Cx B l Z a0 R y b mx rt) {yc : MethodName} {as' : Array Value} {Qc : Option Value → Heap → Prop} {i W cc ss ce' sl' : Nat} {argsL : List Value} {a : Addr} {CC : String} {yd : MethodName} (hM : Pay l Z R yc 3 W as' n0 h cc ss Qc) (E : Exa Z h a CC) (w1 : Jvm.Cond.methodLink y.cls i yd ∈ tables_1) (w2 : Jvm.Cond.declares yd ∈ tables_1) (wn : yd = yc ∨ ∃ SS, Jvm.Cond.superclass yd.cls SS ∈ tables_1) (w5 : Jvm.Cond.selects CC yd yc ∈ tables_1) (w6 : Jvm.Cond.instanceMethod yc ∈ tables_1) (hy : yd.cls ≠ "java/lang/invoke/MethodHandle" ∧ yd.cls ≠ "java/lang/invoke/VarHandle") (hlen : ∀ sig, parseMethodDescriptor yd.desc = some sig → argsL.length = sig.parameters.length) (hS : S = argsL.reverse ++ .ref a :: S') (has : (.ref a :: argsL).toArray = as') (hd : De b pc (.invokevirtual i) 3 n) (hsz : Ls.size = mx) (hW : (S'.map fun v => v.category).sum = W) (hr : ce + cc = ce' ∧ sl + ss = sl' ∧ ce' ≤ R.cells ∧ sl' ≤ R.slots) (K : ∀ (v : Option Value) (h' : Heap), Qc v h' → Go B n0 Q h' ce' sl' n Ls (v.toList ++ S')) : Go B n0 Q h ce sl pc Ls S := by
  obtain ⟨p, l', e, R', s, m, args, below, meth, c⟩ := B
  obtain ⟨rfl, rfl, hx, rfl, hml, hown, hnm, hret, hlk, hZ, hw⟩ := C
  intro T locs X eT N
  obtain ⟨hd, rfl⟩ := hd
  obtain ⟨rfl, rfl, hr3, hr4⟩ := hr
  subst hS has
  obtain ⟨cq, kq, q1, q2, q3⟩ := isOf hZ eT E
  have nf : NotFace s yd := by
    rcases wn with rfl | ⟨SS, wn⟩
    · exact notFace_of_selects (args := #[]) (mvT hZ (hw _ w5))
    · exact nf_super (args := #[]) (mvT hZ (hw _ wn))
  obtain ⟨v, vm₁, ⟨T', L', k', n'⟩, -, X', ⟨Lc, hQ, l', y', z'⟩, st⟩ := X.virtualBack hx (y := yd) (z := yc) hown (mvT hZ (hw _ w1)) (mvT hZ (hw _ w2)) nf (mvT hZ (hw _ w5)) (mvT hZ (hw _ w6)) hy (hM p e below s args hZ) q1 q3 (g := mkF m pc Ls (argsL.reverse ++ .ref a :: S')) rfl (by rw [hml]; exact hsz) (Steps.refl _) (argsL := argsL) (rest := S') hlen rfl (by show 2 * 0 + _ ≤ _; omega) hd (fun _ _ => ⟨rfl, eT, hr3, hr4⟩)
  dsimp only [Pt.U, Pt.locs, Pt.cells, Pt.slots] at X' l' y' z' st hQ
  subst l' y' z'
  obtain ⟨s₂, o, st', r⟩ := K v _ hQ.1 T' _ X' rfl (Fr.app N hQ.2)
  exact ⟨s₂, o, st.trans st', r⟩
theorem iCallV (C : Cx B l Z a0 R y b mx rt) {yc : MethodName} {cb : ByteArray} {cm : Nat} {cr : Option FieldType} {rm : Room} {as' : Array Value} {Qc : Option Value → Heap → Prop} {i W ce' sl' : Nat} {argsL : List Value} {a : Addr} {CC : String} {yd : MethodName} (hM : Pays l Z yc cb cm cr rm as' n0 h Qc) (E : Exa Z h a CC) (w1 : Jvm.Cond.methodLink y.cls i yd ∈ tables_1) (w2 : Jvm.Cond.declares yd ∈ tables_1) (wn : yd = yc ∨ ∃ SS, Jvm.Cond.superclass yd.cls SS ∈ tables_1) (w5 : Jvm.Cond.selects CC yd yc ∈ tables_1) (w6 : Jvm.Cond.instanceMethod yc ∈ tables_1) (w3 : Jvm.Cond.initialized yc.cls ∈ tables_1) (w4 : Jvm.Cond.code yc cb cm cr ∈ tables_1) (hy : yd.cls ≠ "java/lang/invoke/MethodHandle" ∧ yd.cls ≠ "java/lang/invoke/VarHandle") (hlen : ∀ sig, parseMethodDescriptor yd.desc = some sig → argsL.length = sig.parameters.length) (hS : S = argsL.reverse ++ .ref a :: S') (has : (.ref a :: argsL).toArray = as') (hd : De b pc (.invokevirtual i) 3 n) (hsz : Ls.size = mx) (hW : (S'.map fun v => v.category).sum = W) (hr : rm.frames + 1 ≤ R.frames ∧ W + (cm + 11) + rm.locals ≤ R.locals ∧ ce + rm.cells = ce' ∧ sl + rm.slots = sl' ∧ ce' ≤ R.cells ∧ sl' ≤ R.slots) (K : ∀ (v : Option Value) (h' : Heap), Qc v h' → Go B n0 Q h' ce' sl' n Ls (v.toList ++ S')) : Go B n0 Q h ce sl pc Ls S :=
  iCallVB C (Pay.of hM C.words w4 w3 hr.1 hr.2.1) E w1 w2 wn w5 w6 hy hlen hS has hd hsz hW hr.2.2 K
theorem iCallFB (C : Cx B l Z a0 R y b mx rt) {yc : MethodName} {as' : Array Value} {Qc : Option Value → Heap → Prop} {i W cc ss ce' sl' : Nat} {argsL : List Value} {a : Addr} {CC : String} {yd : MethodName} {cnt : Nat} (hM : Pay l Z R yc 5 W as' n0 h cc ss Qc) (E : Exa Z h a CC) (w1 : Jvm.Cond.methodLink y.cls i yd ∈ tables_1) (w2 : Jvm.Cond.declares yd ∈ tables_1) (w7 : Jvm.Cond.interfaceMethod yd.cls yd.cls yd.name yd.desc ∈ tables_1) (h7 : ((Jvm.Cond.interfaceMethod yd.cls yd.cls yd.name yd.desc).onTables && (Jvm.Cond.interfaceMethod yd.cls yd.cls yd.name yd.desc).keepsFace) = true) (w5 : Jvm.Cond.selects CC yd yc ∈ tables_1) (w6 : Jvm.Cond.instanceMethod yc ∈ tables_1) (w8 : Jvm.Cond.publicMethod yc ∈ tables_1) (w9 : Jvm.Cond.unhidden CC yd.name yd.desc ∈ tables_1) (w0 : Jvm.Cond.castable CC yd.cls ∈ tables_1) (hy : yd.cls ≠ "java/lang/invoke/MethodHandle" ∧ yd.cls ≠ "java/lang/invoke/VarHandle") (hlen : ∀ sig, parseMethodDescriptor yd.desc = some sig → argsL.length = sig.parameters.length) (hS : S = argsL.reverse ++ .ref a :: S') (has : (.ref a :: argsL).toArray = as') (hd : De b pc (.invokeinterface i cnt) 5 n) (hsz : Ls.size = mx) (hW : (S'.map fun v => v.category).sum = W) (hr : ce + cc = ce' ∧ sl + ss = sl' ∧ ce' ≤ R.cells ∧ sl' ≤ R.slots) (K : ∀ (v : Option Value) (h' : Heap), Qc v h' → Go B n0 Q h' ce' sl' n Ls (v.toList ++ S')) : Go B n0 Q h ce sl pc Ls S := by
  obtain ⟨p, l', e, R', s, m, args, below, meth, c⟩ := B
  obtain ⟨rfl, rfl, hx, rfl, hml, hown, hnm, hret, hlk, hZ, hw⟩ := C
  intro T locs X eT N
  obtain ⟨hd, rfl⟩ := hd
  obtain ⟨rfl, rfl, hr3, hr4⟩ := hr
  subst hS has
  obtain ⟨cq, kq, q1, q2, q3⟩ := isOf hZ eT E
  obtain ⟨v, vm₁, ⟨T', L', k', n'⟩, -, X', ⟨Lc, hQ, l', y', z'⟩, st⟩ := X.interfaceBack hx (xi := yd) (y := yc) hown (mvT hZ (hw _ w1)) (mvT hZ (hw _ w2)) (mvT hZ (hw _ w7) h7) (mvT hZ (hw _ w5)) (mvT hZ (hw _ w6)) (mvT hZ (hw _ w8)) (mvT hZ (hw _ w9)) (mvT hZ (hw _ w0)) hy (hM p e below s args hZ) q1 q2 q3 (g := mkF m pc Ls (argsL.reverse ++ .ref a :: S')) rfl (by rw [hml]; exact hsz) (Steps.refl _) (argsL := argsL) (rest := S') hlen rfl (by show 2 * 0 + _ ≤ _; omega) hd (fun _ _ => ⟨rfl, eT, hr3, hr4⟩)
  dsimp only [Pt.U, Pt.locs, Pt.cells, Pt.slots] at X' l' y' z' st hQ
  subst l' y' z'
  obtain ⟨s₂, o, st', r⟩ := K v _ hQ.1 T' _ X' rfl (Fr.app N hQ.2)
  exact ⟨s₂, o, st.trans st', r⟩
theorem iCallF (C : Cx B l Z a0 R y b mx rt) {yc : MethodName} {cb : ByteArray} {cm : Nat} {cr : Option FieldType} {rm : Room} {as' : Array Value} {Qc : Option Value → Heap → Prop} {i W ce' sl' : Nat} {argsL : List Value} {a : Addr} {CC : String} {yd : MethodName} {cnt : Nat} (hM : Pays l Z yc cb cm cr rm as' n0 h Qc) (E : Exa Z h a CC) (w1 : Jvm.Cond.methodLink y.cls i yd ∈ tables_1) (w2 : Jvm.Cond.declares yd ∈ tables_1) (w7 : Jvm.Cond.interfaceMethod yd.cls yd.cls yd.name yd.desc ∈ tables_1) (h7 : ((Jvm.Cond.interfaceMethod yd.cls yd.cls yd.name yd.desc).onTables && (Jvm.Cond.interfaceMethod yd.cls yd.cls yd.name yd.desc).keepsFace) = true) (w5 : Jvm.Cond.selects CC yd yc ∈ tables_1) (w6 : Jvm.Cond.instanceMethod yc ∈ tables_1) (w8 : Jvm.Cond.publicMethod yc ∈ tables_1) (w9 : Jvm.Cond.unhidden CC yd.name yd.desc ∈ tables_1) (w0 : Jvm.Cond.castable CC yd.cls ∈ tables_1) (w3 : Jvm.Cond.initialized yc.cls ∈ tables_1) (w4 : Jvm.Cond.code yc cb cm cr ∈ tables_1) (hy : yd.cls ≠ "java/lang/invoke/MethodHandle" ∧ yd.cls ≠ "java/lang/invoke/VarHandle") (hlen : ∀ sig, parseMethodDescriptor yd.desc = some sig → argsL.length = sig.parameters.length) (hS : S = argsL.reverse ++ .ref a :: S') (has : (.ref a :: argsL).toArray = as') (hd : De b pc (.invokeinterface i cnt) 5 n) (hsz : Ls.size = mx) (hW : (S'.map fun v => v.category).sum = W) (hr : rm.frames + 1 ≤ R.frames ∧ W + (cm + 11) + rm.locals ≤ R.locals ∧ ce + rm.cells = ce' ∧ sl + rm.slots = sl' ∧ ce' ≤ R.cells ∧ sl' ≤ R.slots) (K : ∀ (v : Option Value) (h' : Heap), Qc v h' → Go B n0 Q h' ce' sl' n Ls (v.toList ++ S')) : Go B n0 Q h ce sl pc Ls S :=
  iCallFB C (Pay.of hM C.words w4 w3 hr.1 hr.2.1) E w1 w2 w7 h7 w5 w6 w8 w9 w0 hy hlen hS has hd hsz hW hr.2.2 K
theorem iLen (C : Cx B l Z a0 R y b mx rt) {a : Addr} {cl : Cell} {ty : FieldType} {z : Int32} (A : Arr Z h a cl ty) (hz : cl.slots.size.toInt32 = z) (hd : De b pc (.arraylength) 1 n) (K : Go B n0 Q h ce sl n Ls (.int z :: S)) : Go B n0 Q h ce sl pc Ls (.ref a :: S) := by
  obtain ⟨p, l', e, R', s, m, args, below, meth, c⟩ := B
  obtain ⟨rfl, rfl, hx, rfl, hml, hown, hnm, hret, hlk, hZ, hw⟩ := C
  intro T locs X eT N
  obtain ⟨hd, rfl⟩ := hd
  subst hz
  obtain ⟨s₂, o, st, r⟩ := K T locs X eT N
  exact ⟨s₂, o, X.arraylength hx (by rw [eT]; exact A.1) (State.isArrayOf_alike hZ.alike A.2.1) (g := mkF m pc Ls (.ref a :: S)) rfl rfl hd _ st, r⟩
theorem iIaload (C : Cx B l Z a0 R y b mx rt) {a : Addr} {cl : Cell} {j : Int32} {v : Value} (A : Arr Z h a cl .int) (hj : ¬ (j < 0 ∨ cl.slots.size ≤ j.toNatClampNeg)) (hv : cl.slots[j.toNatClampNeg]? = some v) (hd : De b pc (.iaload) 1 n) (K : Go B n0 Q h ce sl n Ls (v :: S)) : Go B n0 Q h ce sl pc Ls (.int j :: .ref a :: S) := by
  obtain ⟨p, l', e, R', s, m, args, below, meth, c⟩ := B
  obtain ⟨rfl, rfl, hx, rfl, hml, hown, hnm, hret, hlk, hZ, hw⟩ := C
  intro T locs X eT N
  obtain ⟨hd, rfl⟩ := hd
  obtain ⟨s₂, o, st, r⟩ := K T locs X eT N
  exact ⟨s₂, o, X.iaload hx (by rw [eT]; exact A.1) (State.isArrayOf_alike hZ.alike A.2.1) A.2.2 hj hv (g := mkF m pc Ls (.int j :: .ref a :: S)) rfl rfl hd _ st, r⟩
theorem iCaload (C : Cx B l Z a0 R y b mx rt) {a : Addr} {cl : Cell} {j : Int32} {v : Value} (A : Arr Z h a cl .char) (hj : ¬ (j < 0 ∨ cl.slots.size ≤ j.toNatClampNeg)) (hv : cl.slots[j.toNatClampNeg]? = some v) (hd : De b pc (.caload) 1 n) (K : Go B n0 Q h ce sl n Ls (v :: S)) : Go B n0 Q h ce sl pc Ls (.int j :: .ref a :: S) := by
  obtain ⟨p, l', e, R', s, m, args, below, meth, c⟩ := B
  obtain ⟨rfl, rfl, hx, rfl, hml, hown, hnm, hret, hlk, hZ, hw⟩ := C
  intro T locs X eT N
  obtain ⟨hd, rfl⟩ := hd
  obtain ⟨s₂, o, st, r⟩ := K T locs X eT N
  exact ⟨s₂, o, X.caload hx (by rw [eT]; exact A.1) (State.isArrayOf_alike hZ.alike A.2.1) A.2.2 hj hv (g := mkF m pc Ls (.int j :: .ref a :: S)) rfl rfl hd _ st, r⟩
theorem iBaload (C : Cx B l Z a0 R y b mx rt) {a : Addr} {cl : Cell} {j : Int32} {v : Value} (A : Arr Z h a cl .byte) (hj : ¬ (j < 0 ∨ cl.slots.size ≤ j.toNatClampNeg)) (hv : cl.slots[j.toNatClampNeg]? = some v) (hd : De b pc (.baload) 1 n) (K : Go B n0 Q h ce sl n Ls (v :: S)) : Go B n0 Q h ce sl pc Ls (.int j :: .ref a :: S) := by
  obtain ⟨p, l', e, R', s, m, args, below, meth, c⟩ := B
  obtain ⟨rfl, rfl, hx, rfl, hml, hown, hnm, hret, hlk, hZ, hw⟩ := C
  intro T locs X eT N
  obtain ⟨hd, rfl⟩ := hd
  obtain ⟨s₂, o, st, r⟩ := K T locs X eT N
  exact ⟨s₂, o, X.baloadBytes hx (by rw [eT]; exact A.1) (State.isArrayOf_alike hZ.alike A.2.1) A.2.2 hj hv (g := mkF m pc Ls (.int j :: .ref a :: S)) rfl rfl hd _ st, r⟩
theorem iLaload (C : Cx B l Z a0 R y b mx rt) {a : Addr} {cl : Cell} {j : Int32} {v : Value} (A : Arr Z h a cl .long) (hj : ¬ (j < 0 ∨ cl.slots.size ≤ j.toNatClampNeg)) (hv : cl.slots[j.toNatClampNeg]? = some v) (hd : De b pc (.laload) 1 n) (K : Go B n0 Q h ce sl n Ls (v :: S)) : Go B n0 Q h ce sl pc Ls (.int j :: .ref a :: S) := by
  obtain ⟨p, l', e, R', s, m, args, below, meth, c⟩ := B
  obtain ⟨rfl, rfl, hx, rfl, hml, hown, hnm, hret, hlk, hZ, hw⟩ := C
  intro T locs X eT N
  obtain ⟨hd, rfl⟩ := hd
  obtain ⟨s₂, o, st, r⟩ := K T locs X eT N
  exact ⟨s₂, o, X.laload hx (by rw [eT]; exact A.1) (State.isArrayOf_alike hZ.alike A.2.1) A.2.2 hj hv (g := mkF m pc Ls (.int j :: .ref a :: S)) rfl rfl hd _ st, r⟩
theorem iAaload (C : Cx B l Z a0 R y b mx rt) {a : Addr} {cl : Cell} {j : Int32} {v : Value} {ty : FieldType} (hty : ty.isReference = true) (A : Arr Z h a cl ty) (hj : ¬ (j < 0 ∨ cl.slots.size ≤ j.toNatClampNeg)) (hv : cl.slots[j.toNatClampNeg]? = some v) (hd : De b pc (.aaload) 1 n) (K : Go B n0 Q h ce sl n Ls (v :: S)) : Go B n0 Q h ce sl pc Ls (.int j :: .ref a :: S) := by
  obtain ⟨p, l', e, R', s, m, args, below, meth, c⟩ := B
  obtain ⟨rfl, rfl, hx, rfl, hml, hown, hnm, hret, hlk, hZ, hw⟩ := C
  intro T locs X eT N
  obtain ⟨hd, rfl⟩ := hd
  obtain ⟨s₂, o, st, r⟩ := K T locs X eT N
  exact ⟨s₂, o, X.aaload hx (by rw [eT]; exact A.1) (State.isArrayOf_alike hZ.alike A.2.1) hty A.2.2 hj hv (g := mkF m pc Ls (.int j :: .ref a :: S)) rfl rfl hd _ st, r⟩
theorem iNewP (C : Cx B l Z a0 R y b mx rt) {aty : ArrayType} {z : Int32} {cap ce' sl' : Nat} (w : Jvm.Cond.arrayClass (newarray.typeOf aty) ∈ tables_1) (hd : De b pc (.newarray aty) 2 n) (hz : ¬ z < 0) (hcap : z.toNatClampNeg ≤ cap) (hb : cap * 8 ≤ 536870912) (hc : ce + 1 = ce' ∧ sl + cap = sl' ∧ ce' ≤ R.cells ∧ sl' ≤ R.slots) (K : ∀ (h' : Heap) (a : Addr) (k : ClassId), a = h.size → Ext h h' → Arv Z h' a k (newarray.typeOf aty) z [] (defaultValue (newarray.typeOf aty)) → Go B n0 Q h' ce' sl' n Ls (.ref a :: S)) : Go B n0 Q h ce sl pc Ls (.int z :: S) := by
  obtain ⟨p, l', e, R', s, m, args, below, meth, c⟩ := B
  obtain ⟨rfl, rfl, hx, rfl, hml, hown, hnm, hret, hlk, hZ, hw⟩ := C
  intro T locs X eT N
  obtain ⟨hd, rfl⟩ := hd
  obtain ⟨rfl, rfl, hc, hs⟩ := hc
  obtain ⟨T', h', kA, X', e', E, A, st⟩ := newP X hx hZ (hw _ w) eT (g := mkF m pc Ls (.int z :: S)) rfl hd rfl hz hcap hb hc hs
  obtain ⟨s₂, o, st', r⟩ := K h' _ kA rfl E (Arv.new A hz) T' locs X' e' N
  exact ⟨s₂, o, st _ st', r⟩
theorem iIastore (C : Cx B l Z a0 R y b mx rt) {a : Addr} {cl : Cell} {j : Int32} {x : Int32} (A : Arr Z h a cl .int) (hj : ¬ (j < 0 ∨ cl.slots.size ≤ j.toNatClampNeg)) (ha : n0 ≤ a) (hd : De b pc (.iastore) 1 n) (K : ∀ h', Wr h h' a j.toNatClampNeg (.int x) → Go B n0 Q h' ce sl n Ls S) : Go B n0 Q h ce sl pc Ls (.int x :: .int j :: .ref a :: S) := by
  obtain ⟨p, l', e, R', s, m, args, below, meth, c⟩ := B
  obtain ⟨rfl, rfl, hx, rfl, hml, hown, hnm, hret, hlk, hZ, hw⟩ := C
  intro T locs X eT N
  obtain ⟨hd, rfl⟩ := hd
  obtain ⟨T', h', X', e', W, st⟩ := stI X hx hZ eT A (j := j) hj (g := mkF m pc Ls (.int x :: .int j :: .ref a :: S)) rfl rfl hd
  obtain ⟨s₂, o, st', r⟩ := K h' W T' _ X' e' (Fr.snoc X' N ha)
  exact ⟨s₂, o, st _ st', r⟩
theorem iCastore (C : Cx B l Z a0 R y b mx rt) {a : Addr} {cl : Cell} {j : Int32} {x : Int32} (A : Arr Z h a cl .char) (hj : ¬ (j < 0 ∨ cl.slots.size ≤ j.toNatClampNeg)) (ha : n0 ≤ a) (hd : De b pc (.castore) 1 n) (K : ∀ h', Wr h h' a j.toNatClampNeg (.int (nar .char x)) → Go B n0 Q h' ce sl n Ls S) : Go B n0 Q h ce sl pc Ls (.int x :: .int j :: .ref a :: S) := by
  obtain ⟨p, l', e, R', s, m, args, below, meth, c⟩ := B
  obtain ⟨rfl, rfl, hx, rfl, hml, hown, hnm, hret, hlk, hZ, hw⟩ := C
  intro T locs X eT N
  obtain ⟨hd, rfl⟩ := hd
  obtain ⟨T', h', X', e', W, st⟩ := stC X hx hZ eT A (j := j) hj (g := mkF m pc Ls (.int x :: .int j :: .ref a :: S)) rfl rfl hd
  obtain ⟨s₂, o, st', r⟩ := K h' W T' _ X' e' (Fr.snoc X' N ha)
  exact ⟨s₂, o, st _ st', r⟩
theorem iBastore (C : Cx B l Z a0 R y b mx rt) {a : Addr} {cl : Cell} {j : Int32} {x : Int32} (A : Arr Z h a cl .byte) (hj : ¬ (j < 0 ∨ cl.slots.size ≤ j.toNatClampNeg)) (ha : n0 ≤ a) (hd : De b pc (.bastore) 1 n) (K : ∀ h', Wr h h' a j.toNatClampNeg (.int (nar .byte x)) → Go B n0 Q h' ce sl n Ls S) : Go B n0 Q h ce sl pc Ls (.int x :: .int j :: .ref a :: S) := by
  obtain ⟨p, l', e, R', s, m, args, below, meth, c⟩ := B
  obtain ⟨rfl, rfl, hx, rfl, hml, hown, hnm, hret, hlk, hZ, hw⟩ := C
  intro T locs X eT N
  obtain ⟨hd, rfl⟩ := hd
  obtain ⟨T', h', X', e', W, st⟩ := stB X hx hZ eT A (j := j) hj (g := mkF m pc Ls (.int x :: .int j :: .ref a :: S)) rfl rfl hd
  obtain ⟨s₂, o, st', r⟩ := K h' W T' _ X' e' (Fr.snoc X' N ha)
  exact ⟨s₂, o, st _ st', r⟩
theorem iLastore (C : Cx B l Z a0 R y b mx rt) {a : Addr} {cl : Cell} {j : Int32} {x : Int64} (A : Arr Z h a cl .long) (hj : ¬ (j < 0 ∨ cl.slots.size ≤ j.toNatClampNeg)) (ha : n0 ≤ a) (hd : De b pc (.lastore) 1 n) (K : ∀ h', Wr h h' a j.toNatClampNeg (.long x) → Go B n0 Q h' ce sl n Ls S) : Go B n0 Q h ce sl pc Ls (.long x :: .int j :: .ref a :: S) := by
  obtain ⟨p, l', e, R', s, m, args, below, meth, c⟩ := B
  obtain ⟨rfl, rfl, hx, rfl, hml, hown, hnm, hret, hlk, hZ, hw⟩ := C
  intro T locs X eT N
  obtain ⟨hd, rfl⟩ := hd
  obtain ⟨T', h', X', e', W, st⟩ := stJ X hx hZ eT A (j := j) hj (g := mkF m pc Ls (.long x :: .int j :: .ref a :: S)) rfl rfl hd
  obtain ⟨s₂, o, st', r⟩ := K h' W T' _ X' e' (Fr.snoc X' N ha)
  exact ⟨s₂, o, st _ st', r⟩
theorem iAastore (C : Cx B l Z a0 R y b mx rt) {a : Addr} {cl : Cell} {j : Int32} {v : Value} {ty : FieldType} (A : Arr Z h a cl ty) (hj : ¬ (j < 0 ∨ cl.slots.size ≤ j.toNatClampNeg)) (hty : ty.isReference = true) (F : Sto Z h a v) (ha : n0 ≤ a) (hd : De b pc (.aastore) 1 n) (K : ∀ h', Wr h h' a j.toNatClampNeg v → Go B n0 Q h' ce sl n Ls S) : Go B n0 Q h ce sl pc Ls (v :: .int j :: .ref a :: S) := by
  obtain ⟨p, l', e, R', s, m, args, below, meth, c⟩ := B
  obtain ⟨rfl, rfl, hx, rfl, hml, hown, hnm, hret, hlk, hZ, hw⟩ := C
  intro T locs X eT N
  obtain ⟨hd, rfl⟩ := hd
  obtain ⟨T', h', X', e', W, st⟩ := stR X hx hZ eT A (j := j) hj hty F (g := mkF m pc Ls (v :: .int j :: .ref a :: S)) rfl rfl hd
  obtain ⟨s₂, o, st', r⟩ := K h' W T' _ X' e' (Fr.snoc X' N ha)
  exact ⟨s₂, o, st _ st', r⟩
theorem iCast (C : Cx B l Z a0 R y b mx rt) {i : Nat} {a : Addr} {K0 : String} (w : Jvm.Cond.classLink y.cls i K0 ∈ tables_1) (F : Ins Z h a K0 true) (hd : De b pc (.checkcast i) 3 n) (K : Go B n0 Q h ce sl n Ls (.ref a :: S)) : Go B n0 Q h ce sl pc Ls (.ref a :: S) := by
  obtain ⟨p, l', e, R', s, m, args, below, meth, c⟩ := B
  obtain ⟨rfl, rfl, hx, rfl, hml, hown, hnm, hret, hlk, hZ, hw⟩ := C
  intro T locs X eT N
  obtain ⟨hd, rfl⟩ := hd
  obtain ⟨T', X', e', st⟩ := castY X hx hZ hown (hw _ w) eT F (g := mkF m pc Ls (.ref a :: S)) rfl rfl hd
  obtain ⟨s₂, o, st', r⟩ := K T' locs X' e' N
  exact ⟨s₂, o, st _ st', r⟩
theorem iInstY (C : Cx B l Z a0 R y b mx rt) {i : Nat} {a : Addr} {K0 : String} (w : Jvm.Cond.classLink y.cls i K0 ∈ tables_1) (F : Ins Z h a K0 true) (hd : De b pc (.instanceof i) 3 n) (K : Go B n0 Q h ce sl n Ls (.int 1 :: S)) : Go B n0 Q h ce sl pc Ls (.ref a :: S) := by
  obtain ⟨p, l', e, R', s, m, args, below, meth, c⟩ := B
  obtain ⟨rfl, rfl, hx, rfl, hml, hown, hnm, hret, hlk, hZ, hw⟩ := C
  intro T locs X eT N
  obtain ⟨hd, rfl⟩ := hd
  obtain ⟨T', X', e', st⟩ := instY X hx hZ hown (hw _ w) eT F (g := mkF m pc Ls (.ref a :: S)) rfl rfl hd
  obtain ⟨s₂, o, st', r⟩ := K T' locs X' e' N
  exact ⟨s₂, o, st _ st', r⟩
theorem iInstN (C : Cx B l Z a0 R y b mx rt) {i : Nat} {a : Addr} {K0 CC : String} (w : Jvm.Cond.classLink y.cls i K0 ∈ tables_1) (E : Exa Z h a CC) (F : ∃ c t, Z.vm.findClass CC = some c ∧ Z.vm.findClass K0 = some t ∧ Z.vm.assignable c t = false) (hd : De b pc (.instanceof i) 3 n) (K : Go B n0 Q h ce sl n Ls (.int 0 :: S)) : Go B n0 Q h ce sl pc Ls (.ref a :: S) := by
  obtain ⟨p, l', e, R', s, m, args, below, meth, c⟩ := B
  obtain ⟨rfl, rfl, hx, rfl, hml, hown, hnm, hret, hlk, hZ, hw⟩ := C
  intro T locs X eT N
  obtain ⟨hd, rfl⟩ := hd
  obtain ⟨T', X', e', st⟩ := instNo X hx hZ hown (hw _ w) eT E F (g := mkF m pc Ls (.ref a :: S)) rfl rfl hd
  obtain ⟨s₂, o, st', r⟩ := K T' locs X' e' N
  exact ⟨s₂, o, st _ st', r⟩
theorem iRetV  (C : Cx B l Z a0 R y b mx none) (hd : De b pc (.return_) 1 n) (hc : ce ≤ R.cells ∧ sl ≤ R.slots) (hQ : Q none h) : Go B n0 Q h ce sl pc Ls ([]) := by
  obtain ⟨p, l', e, R', s, m, args, below, meth, c⟩ := B
  obtain ⟨rfl, rfl, hx, rfl, hml, hown, hnm, hret, hlk, hZ, hw⟩ := C
  intro T locs X eT N
  obtain ⟨hd, rfl⟩ := hd
  obtain ⟨fs, hr, hrun, hended, hW, hsame⟩ := X.leave (v := none) (fun q => by first | rfl | (rw [hret] at q; cases q)) hlk
  exact ⟨_, _, X.returnOut hx hret hd hr, hrun, hended, _, _, rfl, ⟨eT ▸ hQ, N⟩, ⟨_, rfl⟩, hW, hsame.mono hc.1 hc.2⟩
theorem iRetZ {z : Int32} {t : FieldType} (C : Cx B l Z a0 R y b mx (some t)) (hd : De b pc (.ireturn) 1 n) (ht : t = .boolean ∨ t = .byte ∨ t = .char ∨ t = .short) (hc : ce ≤ R.cells ∧ sl ≤ R.slots) (hQ : Q (some (.int (nar t z))) h) : Go B n0 Q h ce sl pc Ls (.int z :: S) := by
  obtain ⟨p, l', e, R', s, m, args, below, meth, c⟩ := B
  obtain ⟨rfl, rfl, hx, rfl, hml, hown, hnm, hret, hlk, hZ, hw⟩ := C
  intro T locs X eT N
  obtain ⟨hd, rfl⟩ := hd
  obtain ⟨fs, hr, hrun, hended, hW, hsame⟩ := X.leave (v := (some (.int (nar t z)))) (fun q => by first | rfl | (rw [hret] at q; cases q)) hlk
  exact ⟨_, _, retN X hx hret ht hd hr, hrun, hended, _, _, rfl, ⟨eT ▸ hQ, N⟩, ⟨_, rfl⟩, hW, hsame.mono hc.1 hc.2⟩
theorem iRetI {z : Int32} (C : Cx B l Z a0 R y b mx (some .int)) (hd : De b pc (.ireturn) 1 n) (hc : ce ≤ R.cells ∧ sl ≤ R.slots) (hQ : Q (some (.int z)) h) : Go B n0 Q h ce sl pc Ls (.int z :: S) := by
  obtain ⟨p, l', e, R', s, m, args, below, meth, c⟩ := B
  obtain ⟨rfl, rfl, hx, rfl, hml, hown, hnm, hret, hlk, hZ, hw⟩ := C
  intro T locs X eT N
  obtain ⟨hd, rfl⟩ := hd
  obtain ⟨fs, hr, hrun, hended, hW, hsame⟩ := X.leave (v := (some (.int z))) (fun q => by first | rfl | (rw [hret] at q; cases q)) hlk
  exact ⟨_, _, retOut X hx hret rfl (Or.inl ⟨rfl, Or.inl rfl, z, rfl⟩) hd hr, hrun, hended, _, _, rfl, ⟨eT ▸ hQ, N⟩, ⟨_, rfl⟩, hW, hsame.mono hc.1 hc.2⟩
theorem iRetA {w : Value} {t : FieldType} (C : Cx B l Z a0 R y b mx (some t)) (hd : De b pc (.areturn) 1 n) (ht : t.isReference = true) (hw' : w.isRef = true) (hna : narrow t w = w) (hc : ce ≤ R.cells ∧ sl ≤ R.slots) (hQ : Q (some w) h) : Go B n0 Q h ce sl pc Ls (w :: S) := by
  obtain ⟨p, l', e, R', s, m, args, below, meth, c⟩ := B
  obtain ⟨rfl, rfl, hx, rfl, hml, hown, hnm, hret, hlk, hZ, hw⟩ := C
  intro T locs X eT N
  obtain ⟨hd, rfl⟩ := hd
  obtain ⟨fs, hr, hrun, hended, hW, hsame⟩ := X.leave (v := (some w)) (fun q => by first | rfl | (rw [hret] at q; cases q)) hlk
  exact ⟨_, _, retOut X hx hret hna (Or.inr (Or.inr (Or.inr (Or.inr ⟨rfl, ht, hw'⟩)))) hd hr, hrun, hended, _, _, rfl, ⟨eT ▸ hQ, N⟩, ⟨_, rfl⟩, hW, hsame.mono hc.1 hc.2⟩
theorem iRetJ {z : Int64} (C : Cx B l Z a0 R y b mx (some .long)) (hd : De b pc (.lreturn) 1 n) (hc : ce ≤ R.cells ∧ sl ≤ R.slots) (hQ : Q (some (.long z)) h) : Go B n0 Q h ce sl pc Ls (.long z :: S) := by
  obtain ⟨p, l', e, R', s, m, args, below, meth, c⟩ := B
  obtain ⟨rfl, rfl, hx, rfl, hml, hown, hnm, hret, hlk, hZ, hw⟩ := C
  intro T locs X eT N
  obtain ⟨hd, rfl⟩ := hd
  obtain ⟨fs, hr, hrun, hended, hW, hsame⟩ := X.leave (v := (some (.long z))) (fun q => by first | rfl | (rw [hret] at q; cases q)) hlk
  exact ⟨_, _, retOut X hx hret rfl (Or.inr (Or.inl ⟨rfl, rfl, z, rfl⟩)) hd hr, hrun, hended, _, _, rfl, ⟨eT ▸ hQ, N⟩, ⟨_, rfl⟩, hW, hsame.mono hc.1 hc.2⟩
theorem oFresh {a : Addr} (O : Old Z n0 h) (g : a = h.size) : n0 ≤ a := by
  have q1 := O.1
  have q2 := O.2.1
  subst g
  omega
theorem oNe {a a' : Addr} (q : a < h.size) (g : a' = h.size) : a ≠ a' := Nat.ne_of_lt (g ▸ q)
theorem acE {x z : Value} (q : x = z) : XT.acmp .eq x z = true ∧ XT.acmp .ne x z = false := by
  show decide (x = z) = true ∧ decide (x ≠ z) = false
  simp [q]
theorem acN {x z : Value} (q : ¬ x = z) : XT.acmp .eq x z = false ∧ XT.acmp .ne x z = true := by
  show decide (x = z) = false ∧ decide (x ≠ z) = true
  simp [q]
theorem acNr {a a' : Addr} (q : ¬ a = a') : XT.acmp .eq (.ref a) (.ref a') = false ∧ XT.acmp .ne (.ref a) (.ref a') = true := acN fun r => q (Value.ref.inj r)
def QP (r : Option Value) (h0 : Heap) (v : Option Value) (h : Heap) : Prop := v = r ∧ h0 = h
theorem eqI_v {args : Array Value} {first s : State} {o : Option Outcome} {idx : List Nat} {t : Term} {k : Int32} (q : (Jvm.Cond.eq t (.int k)).value args first o s idx = some true) : t.eval args first o idx s = some (.int k) := by
  obtain ⟨x, z, e1, e2, k1, k2⟩ := cmp_v (Or.inl q)
  have e3 : (Term.int k).eval args first o idx s = some (.int k) := Term.int_eval k
  cases e3.symm.trans e2
  obtain ⟨w, rfl⟩ := k2
  have e4 := Cond.eq_ints (args := args) (first := first) (o := o) (s := s) (idx := idx) e1 e2
  rw [e1, gotT e4 q]
theorem eqQ_v {args : Array Value} {first s : State} {o : Option Outcome} {idx : List Nat} {t u : Term} {a' : Addr} (q : (Jvm.Cond.eq t u).value args first o s idx = some true) (e2 : u.eval args first o idx s = some (.ref a')) : t.eval args first o idx s = some (.ref a') := by
  obtain ⟨x, z, e1, e3, k1, k2⟩ := cmp_v (Or.inl q)
  cases e2.symm.trans e3
  have e4 := gotT (eq_R e1 e2 k2.2 rfl) q
  rw [e1, e4]
theorem oLen {args : Array Value} {s : State} {t : Term} {k : Int32} {a : Addr} {cl : Cell} (q : (Term.length t).eval args s none [] s = some (.int k)) (ev : t.eval args s none [] s = some (.ref a)) (hc : s.heap[a]? = some cl) : cl.slots.size.toInt32 = k := by
  obtain ⟨c', e1, e3⟩ := length_at q ev
  cases hc.symm.trans e1
  exact e3
theorem oOld {a a' : Addr} (O : Old Z n0 h) (q : a < Z.heap.size) (r : n0 ≤ a') : a ≠ a' := O.ne q r
theorem eqR_v {args : Array Value} {first s : State} {o : Option Outcome} {idx : List Nat} {t u : Term} {a a' : Addr} (q : (Jvm.Cond.eq t u).value args first o s idx = some true) (e1 : t.eval args first o idx s = some (.ref a)) (e2 : u.eval args first o idx s = some (.ref a')) : a = a' := Value.ref.inj (gotT (eq_R e1 e2 rfl rfl) q)
end Flow

theorem tw0 : (Jvm.Cond.arrayClass Jvm.ClassFile.FieldType.byte) ∈ tables_1 := List.mem_of_getElem? (i := 0) rfl
theorem tw1 : (Jvm.Cond.methodLink "com/example/uketsuke/uketsuke/server/channel/EnginePacketBinaryMessagePinLaw" (7 : Nat) ({ cls := "com/example/uketsuke/uketsuke/server/channel/EnginePacket", name := "binaryMessage", desc := "([B)Lcom/example/uketsuke/uketsuke/server/channel/EnginePacket;" } : Jvm.MethodName)) ∈ tables_1 := List.mem_of_getElem? (i := 1) rfl
theorem tw2 : (Jvm.Cond.static ({ cls := "com/example/uketsuke/uketsuke/server/channel/EnginePacket", name := "binaryMessage", desc := "([B)Lcom/example/uketsuke/uketsuke/server/channel/EnginePacket;" } : Jvm.MethodName)) ∈ tables_1 := List.mem_of_getElem? (i := 2) rfl
theorem tw3 : (Jvm.Cond.initialized "com/example/uketsuke/uketsuke/server/channel/EnginePacket") ∈ tables_1 := List.mem_of_getElem? (i := 3) rfl
theorem tw4 : (Jvm.Cond.code ({ cls := "com/example/uketsuke/uketsuke/server/channel/EnginePacket", name := "binaryMessage", desc := "([B)Lcom/example/uketsuke/uketsuke/server/channel/EnginePacket;" } : Jvm.MethodName) prog_72_method_2_code (1 : Nat) (Option.some (Jvm.ClassFile.FieldType.object "com/example/uketsuke/uketsuke/server/channel/EnginePacket"))) ∈ tables_1 := List.mem_of_getElem? (i := 4) rfl
theorem tw5 : (Jvm.Cond.classLink "com/example/uketsuke/uketsuke/server/channel/EnginePacket" (8 : Nat) "com/example/uketsuke/uketsuke/server/channel/EnginePacket") ∈ tables_1 := List.mem_of_getElem? (i := 5) rfl
theorem tw6 : (Jvm.Cond.instantiable "com/example/uketsuke/uketsuke/server/channel/EnginePacket" (3 : Nat)) ∈ tables_1 := List.mem_of_getElem? (i := 6) rfl
theorem tw7 : (Jvm.Cond.fieldLink "com/example/uketsuke/uketsuke/server/channel/EnginePacket" (21 : Nat) "com/example/uketsuke/uketsuke/server/channel/EnginePacket$Type" "MESSAGE" "Lcom/example/uketsuke/uketsuke/server/channel/EnginePacket$Type;") ∈ tables_1 := List.mem_of_getElem? (i := 7) rfl
theorem tw8 : (Jvm.Cond.initialized "com/example/uketsuke/uketsuke/server/channel/EnginePacket$Type") ∈ tables_1 := List.mem_of_getElem? (i := 8) rfl
theorem tw9 : (Jvm.Cond.laysStatic "com/example/uketsuke/uketsuke/server/channel/EnginePacket$Type" "MESSAGE" "Lcom/example/uketsuke/uketsuke/server/channel/EnginePacket$Type;") ∈ tables_1 := List.mem_of_getElem? (i := 9) rfl
theorem tw10 : (Jvm.Cond.methodLink "com/example/uketsuke/uketsuke/server/channel/EnginePacket" (26 : Nat) ({ cls := "com/example/uketsuke/uketsuke/server/channel/EnginePacket", name := "<init>", desc := "(Lcom/example/uketsuke/uketsuke/server/channel/EnginePacket$Type;Ljava/lang/String;[B)V" } : Jvm.MethodName)) ∈ tables_1 := List.mem_of_getElem? (i := 10) rfl
theorem tw11 : (Jvm.Cond.instanceMethod ({ cls := "com/example/uketsuke/uketsuke/server/channel/EnginePacket", name := "<init>", desc := "(Lcom/example/uketsuke/uketsuke/server/channel/EnginePacket$Type;Ljava/lang/String;[B)V" } : Jvm.MethodName)) ∈ tables_1 := List.mem_of_getElem? (i := 11) rfl
theorem tw12 : (Jvm.Cond.code ({ cls := "com/example/uketsuke/uketsuke/server/channel/EnginePacket", name := "<init>", desc := "(Lcom/example/uketsuke/uketsuke/server/channel/EnginePacket$Type;Ljava/lang/String;[B)V" } : Jvm.MethodName) prog_72_method_1_code (4 : Nat) (Option.none : Option Jvm.ClassFile.FieldType)) ∈ tables_1 := List.mem_of_getElem? (i := 12) rfl
theorem tw13 : (Jvm.Cond.methodLink "com/example/uketsuke/uketsuke/server/channel/EnginePacket" (1 : Nat) ({ cls := "java/lang/Record", name := "<init>", desc := "()V" } : Jvm.MethodName)) ∈ tables_1 := List.mem_of_getElem? (i := 13) rfl
theorem tw14 : (Jvm.Cond.instanceMethod ({ cls := "java/lang/Record", name := "<init>", desc := "()V" } : Jvm.MethodName)) ∈ tables_1 := List.mem_of_getElem? (i := 14) rfl
theorem tw16 : (Jvm.Cond.initialized "java/lang/Record") ∈ tables_1 := List.mem_of_getElem? (i := 16) rfl
theorem tw17 : (Jvm.Cond.code ({ cls := "java/lang/Record", name := "<init>", desc := "()V" } : Jvm.MethodName) jdk_30_method_1_code (1 : Nat) (Option.none : Option Jvm.ClassFile.FieldType)) ∈ tables_1 := List.mem_of_getElem? (i := 17) rfl
theorem tw18 : (Jvm.Cond.methodLink "java/lang/Record" (1 : Nat) ({ cls := "java/lang/Object", name := "<init>", desc := "()V" } : Jvm.MethodName)) ∈ tables_1 := List.mem_of_getElem? (i := 18) rfl
theorem tw19 : (Jvm.Cond.instanceMethod ({ cls := "java/lang/Object", name := "<init>", desc := "()V" } : Jvm.MethodName)) ∈ tables_1 := List.mem_of_getElem? (i := 19) rfl
theorem tw20 : (Jvm.Cond.code ({ cls := "java/lang/Object", name := "<init>", desc := "()V" } : Jvm.MethodName) object_method_1_code (1 : Nat) (Option.none : Option Jvm.ClassFile.FieldType)) ∈ tables_1 := List.mem_of_getElem? (i := 20) rfl
theorem tw21 : (Jvm.Cond.fieldLink "com/example/uketsuke/uketsuke/server/channel/EnginePacket" (7 : Nat) "com/example/uketsuke/uketsuke/server/channel/EnginePacket" "type" "Lcom/example/uketsuke/uketsuke/server/channel/EnginePacket$Type;") ∈ tables_1 := List.mem_of_getElem? (i := 21) rfl
theorem tw22 : (Jvm.Cond.laysFinal "com/example/uketsuke/uketsuke/server/channel/EnginePacket" "com/example/uketsuke/uketsuke/server/channel/EnginePacket" "type" "Lcom/example/uketsuke/uketsuke/server/channel/EnginePacket$Type;") ∈ tables_1 := List.mem_of_getElem? (i := 22) rfl
theorem tw23 : (Jvm.Cond.fieldLink "com/example/uketsuke/uketsuke/server/channel/EnginePacket" (13 : Nat) "com/example/uketsuke/uketsuke/server/channel/EnginePacket" "text" "Ljava/lang/String;") ∈ tables_1 := List.mem_of_getElem? (i := 23) rfl
theorem tw24 : (Jvm.Cond.laysFinal "com/example/uketsuke/uketsuke/server/channel/EnginePacket" "com/example/uketsuke/uketsuke/server/channel/EnginePacket" "text" "Ljava/lang/String;") ∈ tables_1 := List.mem_of_getElem? (i := 24) rfl
theorem tw25 : (Jvm.Cond.fieldLink "com/example/uketsuke/uketsuke/server/channel/EnginePacket" (17 : Nat) "com/example/uketsuke/uketsuke/server/channel/EnginePacket" "binary" "[B") ∈ tables_1 := List.mem_of_getElem? (i := 25) rfl
theorem tw26 : (Jvm.Cond.laysFinal "com/example/uketsuke/uketsuke/server/channel/EnginePacket" "com/example/uketsuke/uketsuke/server/channel/EnginePacket" "binary" "[B") ∈ tables_1 := List.mem_of_getElem? (i := 26) rfl
theorem tw27 : (Jvm.Cond.methodLink "com/example/uketsuke/uketsuke/server/channel/EnginePacketBinaryMessagePinLaw" (13 : Nat) ({ cls := "com/example/uketsuke/uketsuke/server/channel/EnginePacket", name := "type", desc := "()Lcom/example/uketsuke/uketsuke/server/channel/EnginePacket$Type;" } : Jvm.MethodName)) ∈ tables_1 := List.mem_of_getElem? (i := 27) rfl
theorem tw28 : (Jvm.Cond.declares ({ cls := "com/example/uketsuke/uketsuke/server/channel/EnginePacket", name := "type", desc := "()Lcom/example/uketsuke/uketsuke/server/channel/EnginePacket$Type;" } : Jvm.MethodName)) ∈ tables_1 := List.mem_of_getElem? (i := 28) rfl
theorem tw29 : (Jvm.Cond.instanceMethod ({ cls := "com/example/uketsuke/uketsuke/server/channel/EnginePacket", name := "type", desc := "()Lcom/example/uketsuke/uketsuke/server/channel/EnginePacket$Type;" } : Jvm.MethodName)) ∈ tables_1 := List.mem_of_getElem? (i := 29) rfl
theorem tw30 : (Jvm.Cond.selects "com/example/uketsuke/uketsuke/server/channel/EnginePacket" ({ cls := "com/example/uketsuke/uketsuke/server/channel/EnginePacket", name := "type", desc := "()Lcom/example/uketsuke/uketsuke/server/channel/EnginePacket$Type;" } : Jvm.MethodName) ({ cls := "com/example/uketsuke/uketsuke/server/channel/EnginePacket", name := "type", desc := "()Lcom/example/uketsuke/uketsuke/server/channel/EnginePacket$Type;" } : Jvm.MethodName)) ∈ tables_1 := List.mem_of_getElem? (i := 30) rfl
theorem tw31 : (Jvm.Cond.code ({ cls := "com/example/uketsuke/uketsuke/server/channel/EnginePacket", name := "type", desc := "()Lcom/example/uketsuke/uketsuke/server/channel/EnginePacket$Type;" } : Jvm.MethodName) prog_72_method_9_code (1 : Nat) (Option.some (Jvm.ClassFile.FieldType.object "com/example/uketsuke/uketsuke/server/channel/EnginePacket$Type"))) ∈ tables_1 := List.mem_of_getElem? (i := 31) rfl
theorem tw32 : (Jvm.Cond.fieldLink "com/example/uketsuke/uketsuke/server/channel/EnginePacketBinaryMessagePinLaw" (17 : Nat) "com/example/uketsuke/uketsuke/server/channel/EnginePacket$Type" "MESSAGE" "Lcom/example/uketsuke/uketsuke/server/channel/EnginePacket$Type;") ∈ tables_1 := List.mem_of_getElem? (i := 32) rfl
theorem tw33 : (Jvm.Cond.methodLink "com/example/uketsuke/uketsuke/server/channel/EnginePacketBinaryMessagePinLaw" (23 : Nat) ({ cls := "com/example/uketsuke/uketsuke/server/channel/EnginePacket", name := "text", desc := "()Ljava/lang/String;" } : Jvm.MethodName)) ∈ tables_1 := List.mem_of_getElem? (i := 33) rfl
theorem tw34 : (Jvm.Cond.declares ({ cls := "com/example/uketsuke/uketsuke/server/channel/EnginePacket", name := "text", desc := "()Ljava/lang/String;" } : Jvm.MethodName)) ∈ tables_1 := List.mem_of_getElem? (i := 34) rfl
theorem tw35 : (Jvm.Cond.instanceMethod ({ cls := "com/example/uketsuke/uketsuke/server/channel/EnginePacket", name := "text", desc := "()Ljava/lang/String;" } : Jvm.MethodName)) ∈ tables_1 := List.mem_of_getElem? (i := 35) rfl
theorem tw36 : (Jvm.Cond.selects "com/example/uketsuke/uketsuke/server/channel/EnginePacket" ({ cls := "com/example/uketsuke/uketsuke/server/channel/EnginePacket", name := "text", desc := "()Ljava/lang/String;" } : Jvm.MethodName) ({ cls := "com/example/uketsuke/uketsuke/server/channel/EnginePacket", name := "text", desc := "()Ljava/lang/String;" } : Jvm.MethodName)) ∈ tables_1 := List.mem_of_getElem? (i := 36) rfl
theorem tw37 : (Jvm.Cond.code ({ cls := "com/example/uketsuke/uketsuke/server/channel/EnginePacket", name := "text", desc := "()Ljava/lang/String;" } : Jvm.MethodName) prog_72_method_10_code (1 : Nat) (Option.some (Jvm.ClassFile.FieldType.object "java/lang/String"))) ∈ tables_1 := List.mem_of_getElem? (i := 37) rfl
theorem tw38 : (Jvm.Cond.methodLink "com/example/uketsuke/uketsuke/server/channel/EnginePacketBinaryMessagePinLaw" (27 : Nat) ({ cls := "com/example/uketsuke/uketsuke/server/channel/EnginePacket", name := "binary", desc := "()[B" } : Jvm.MethodName)) ∈ tables_1 := List.mem_of_getElem? (i := 38) rfl
theorem tw39 : (Jvm.Cond.declares ({ cls := "com/example/uketsuke/uketsuke/server/channel/EnginePacket", name := "binary", desc := "()[B" } : Jvm.MethodName)) ∈ tables_1 := List.mem_of_getElem? (i := 39) rfl
theorem tw40 : (Jvm.Cond.instanceMethod ({ cls := "com/example/uketsuke/uketsuke/server/channel/EnginePacket", name := "binary", desc := "()[B" } : Jvm.MethodName)) ∈ tables_1 := List.mem_of_getElem? (i := 40) rfl
theorem tw41 : (Jvm.Cond.selects "com/example/uketsuke/uketsuke/server/channel/EnginePacket" ({ cls := "com/example/uketsuke/uketsuke/server/channel/EnginePacket", name := "binary", desc := "()[B" } : Jvm.MethodName) ({ cls := "com/example/uketsuke/uketsuke/server/channel/EnginePacket", name := "binary", desc := "()[B" } : Jvm.MethodName)) ∈ tables_1 := List.mem_of_getElem? (i := 41) rfl
theorem tw42 : (Jvm.Cond.code ({ cls := "com/example/uketsuke/uketsuke/server/channel/EnginePacket", name := "binary", desc := "()[B" } : Jvm.MethodName) prog_72_method_11_code (1 : Nat) (Option.some (Jvm.ClassFile.FieldType.array Jvm.ClassFile.FieldType.byte))) ∈ tables_1 := List.mem_of_getElem? (i := 42) rfl
theorem d0_0 : De code 0 (.iconst 3) 1 1 := ⟨by decide +kernel, rfl⟩
theorem d0_1 : De code 1 (.newarray .byte) 2 3 := ⟨by decide +kernel, rfl⟩
theorem d0_3 : De code 3 (.astore 4) 2 5 := ⟨by decide +kernel, rfl⟩
theorem d0_5 : De code 5 (.aload 4) 2 7 := ⟨by decide +kernel, rfl⟩
theorem d0_7 : De code 7 (.iconst 0) 1 8 := ⟨by decide +kernel, rfl⟩
theorem d0_8 : De code 8 (.iload_n 0) 1 9 := ⟨by decide +kernel, rfl⟩
theorem d0_9 : De code 9 (.i2b) 1 10 := ⟨by decide +kernel, rfl⟩
theorem d0_10 : De code 10 (.bastore) 1 11 := ⟨by decide +kernel, rfl⟩
theorem d0_11 : De code 11 (.aload 4) 2 13 := ⟨by decide +kernel, rfl⟩
theorem d0_13 : De code 13 (.iconst 1) 1 14 := ⟨by decide +kernel, rfl⟩
theorem d0_14 : De code 14 (.iload_n 1) 1 15 := ⟨by decide +kernel, rfl⟩
theorem d0_15 : De code 15 (.i2b) 1 16 := ⟨by decide +kernel, rfl⟩
theorem d0_16 : De code 16 (.bastore) 1 17 := ⟨by decide +kernel, rfl⟩
theorem d0_17 : De code 17 (.aload 4) 2 19 := ⟨by decide +kernel, rfl⟩
theorem d0_19 : De code 19 (.iconst 2) 1 20 := ⟨by decide +kernel, rfl⟩
theorem d0_20 : De code 20 (.iload_n 2) 1 21 := ⟨by decide +kernel, rfl⟩
theorem d0_21 : De code 21 (.i2b) 1 22 := ⟨by decide +kernel, rfl⟩
theorem d0_22 : De code 22 (.bastore) 1 23 := ⟨by decide +kernel, rfl⟩
theorem d0_23 : De code 23 (.iconst 0) 1 24 := ⟨by decide +kernel, rfl⟩
theorem d0_24 : De code 24 (.newarray .byte) 2 26 := ⟨by decide +kernel, rfl⟩
theorem d0_26 : De code 26 (.astore 5) 2 28 := ⟨by decide +kernel, rfl⟩
theorem d0_28 : De code 28 (.iload_n 3) 1 29 := ⟨by decide +kernel, rfl⟩
theorem d0_29 : De code 29 (.iconst 1) 1 30 := ⟨by decide +kernel, rfl⟩
theorem d0_30 : De code 30 (.iand) 1 31 := ⟨by decide +kernel, rfl⟩
theorem d0_31 : De code 31 (.ifCond .eq 7) 3 34 := ⟨by decide +kernel, rfl⟩
theorem d0_34 : De code 34 (.iconst 1) 1 35 := ⟨by decide +kernel, rfl⟩
theorem d0_35 : De code 35 (.goto 4) 3 38 := ⟨by decide +kernel, rfl⟩
theorem d0_38 : De code 38 (.iconst 0) 1 39 := ⟨by decide +kernel, rfl⟩
theorem d0_39 : De code 39 (.istore 6) 2 41 := ⟨by decide +kernel, rfl⟩
theorem d0_41 : De code 41 (.iload 6) 2 43 := ⟨by decide +kernel, rfl⟩
theorem d0_43 : De code 43 (.ifCond .eq 8) 3 46 := ⟨by decide +kernel, rfl⟩
theorem d0_46 : De code 46 (.aload 5) 2 48 := ⟨by decide +kernel, rfl⟩
theorem d0_48 : De code 48 (.goto 5) 3 51 := ⟨by decide +kernel, rfl⟩
theorem d0_51 : De code 51 (.aload 4) 2 53 := ⟨by decide +kernel, rfl⟩
theorem d0_53 : De code 53 (.astore 7) 2 55 := ⟨by decide +kernel, rfl⟩
theorem d0_55 : De code 55 (.aload 7) 2 57 := ⟨by decide +kernel, rfl⟩
theorem d0_57 : De code 57 (.invokestatic 7) 3 60 := ⟨by decide +kernel, rfl⟩
theorem d0_60 : De code 60 (.astore 8) 2 62 := ⟨by decide +kernel, rfl⟩
theorem d0_62 : De code 62 (.aload 8) 2 64 := ⟨by decide +kernel, rfl⟩
theorem d0_64 : De code 64 (.ifnonnull 5) 3 67 := ⟨by decide +kernel, rfl⟩
theorem d0_69 : De code 69 (.aload 8) 2 71 := ⟨by decide +kernel, rfl⟩
theorem d0_71 : De code 71 (.invokevirtual 13) 3 74 := ⟨by decide +kernel, rfl⟩
theorem d0_74 : De code 74 (.getstatic 17) 3 77 := ⟨by decide +kernel, rfl⟩
theorem d0_77 : De code 77 (.if_acmp .eq 5) 3 80 := ⟨by decide +kernel, rfl⟩
theorem d0_82 : De code 82 (.aload 8) 2 84 := ⟨by decide +kernel, rfl⟩
theorem d0_84 : De code 84 (.invokevirtual 23) 3 87 := ⟨by decide +kernel, rfl⟩
theorem d0_87 : De code 87 (.ifnull 5) 3 90 := ⟨by decide +kernel, rfl⟩
theorem d0_92 : De code 92 (.aload 8) 2 94 := ⟨by decide +kernel, rfl⟩
theorem d0_94 : De code 94 (.invokevirtual 27) 3 97 := ⟨by decide +kernel, rfl⟩
theorem d0_97 : De code 97 (.aload 7) 2 99 := ⟨by decide +kernel, rfl⟩
theorem d0_99 : De code 99 (.if_acmp .eq 5) 3 102 := ⟨by decide +kernel, rfl⟩
theorem d0_104 : De code 104 (.iload 6) 2 106 := ⟨by decide +kernel, rfl⟩
theorem d0_106 : De code 106 (.ifCond .eq 15) 3 109 := ⟨by decide +kernel, rfl⟩
theorem d0_109 : De code 109 (.aload 7) 2 111 := ⟨by decide +kernel, rfl⟩
theorem d0_111 : De code 111 (.arraylength) 1 112 := ⟨by decide +kernel, rfl⟩
theorem d0_112 : De code 112 (.ifCond .ne 7) 3 115 := ⟨by decide +kernel, rfl⟩
theorem d0_115 : De code 115 (.iconst 1) 1 116 := ⟨by decide +kernel, rfl⟩
theorem d0_116 : De code 116 (.goto 4) 3 119 := ⟨by decide +kernel, rfl⟩
theorem d0_120 : De code 120 (.ireturn) 1 121 := ⟨by decide +kernel, rfl⟩
theorem d0_121 : De code 121 (.aload 7) 2 123 := ⟨by decide +kernel, rfl⟩
theorem d0_123 : De code 123 (.arraylength) 1 124 := ⟨by decide +kernel, rfl⟩
theorem d0_124 : De code 124 (.iconst 3) 1 125 := ⟨by decide +kernel, rfl⟩
theorem d0_125 : De code 125 (.if_icmp .ne 34) 3 128 := ⟨by decide +kernel, rfl⟩
theorem d0_128 : De code 128 (.aload 7) 2 130 := ⟨by decide +kernel, rfl⟩
theorem d0_130 : De code 130 (.iconst 0) 1 131 := ⟨by decide +kernel, rfl⟩
theorem d0_131 : De code 131 (.baload) 1 132 := ⟨by decide +kernel, rfl⟩
theorem d0_132 : De code 132 (.iload_n 0) 1 133 := ⟨by decide +kernel, rfl⟩
theorem d0_133 : De code 133 (.i2b) 1 134 := ⟨by decide +kernel, rfl⟩
theorem d0_134 : De code 134 (.if_icmp .ne 25) 3 137 := ⟨by decide +kernel, rfl⟩
theorem d0_137 : De code 137 (.aload 7) 2 139 := ⟨by decide +kernel, rfl⟩
theorem d0_139 : De code 139 (.iconst 1) 1 140 := ⟨by decide +kernel, rfl⟩
theorem d0_140 : De code 140 (.baload) 1 141 := ⟨by decide +kernel, rfl⟩
theorem d0_141 : De code 141 (.iload_n 1) 1 142 := ⟨by decide +kernel, rfl⟩
theorem d0_142 : De code 142 (.i2b) 1 143 := ⟨by decide +kernel, rfl⟩
theorem d0_143 : De code 143 (.if_icmp .ne 16) 3 146 := ⟨by decide +kernel, rfl⟩
theorem d0_146 : De code 146 (.aload 7) 2 148 := ⟨by decide +kernel, rfl⟩
theorem d0_148 : De code 148 (.iconst 2) 1 149 := ⟨by decide +kernel, rfl⟩
theorem d0_149 : De code 149 (.baload) 1 150 := ⟨by decide +kernel, rfl⟩
theorem d0_150 : De code 150 (.iload_n 2) 1 151 := ⟨by decide +kernel, rfl⟩
theorem d0_151 : De code 151 (.i2b) 1 152 := ⟨by decide +kernel, rfl⟩
theorem d0_152 : De code 152 (.if_icmp .ne 7) 3 155 := ⟨by decide +kernel, rfl⟩
theorem d0_155 : De code 155 (.iconst 1) 1 156 := ⟨by decide +kernel, rfl⟩
theorem d0_156 : De code 156 (.goto 4) 3 159 := ⟨by decide +kernel, rfl⟩
theorem d0_160 : De code 160 (.ireturn) 1 161 := ⟨by decide +kernel, rfl⟩
theorem d1_0 : De prog_72_method_2_code 0 (.new 8) 3 3 := ⟨by decide +kernel, rfl⟩
theorem d1_3 : De prog_72_method_2_code 3 (.dup) 1 4 := ⟨by decide +kernel, rfl⟩
theorem d1_4 : De prog_72_method_2_code 4 (.getstatic 21) 3 7 := ⟨by decide +kernel, rfl⟩
theorem d1_7 : De prog_72_method_2_code 7 (.aconst_null) 1 8 := ⟨by decide +kernel, rfl⟩
theorem d1_8 : De prog_72_method_2_code 8 (.aload_n 0) 1 9 := ⟨by decide +kernel, rfl⟩
theorem d1_9 : De prog_72_method_2_code 9 (.invokespecial 26) 3 12 := ⟨by decide +kernel, rfl⟩
theorem d1_12 : De prog_72_method_2_code 12 (.areturn) 1 13 := ⟨by decide +kernel, rfl⟩
theorem d2_0 : De prog_72_method_1_code 0 (.aload_n 0) 1 1 := ⟨by decide +kernel, rfl⟩
theorem d2_1 : De prog_72_method_1_code 1 (.invokespecial 1) 3 4 := ⟨by decide +kernel, rfl⟩
theorem d2_4 : De prog_72_method_1_code 4 (.aload_n 0) 1 5 := ⟨by decide +kernel, rfl⟩
theorem d2_5 : De prog_72_method_1_code 5 (.aload_n 1) 1 6 := ⟨by decide +kernel, rfl⟩
theorem d2_6 : De prog_72_method_1_code 6 (.putfield 7) 3 9 := ⟨by decide +kernel, rfl⟩
theorem d2_9 : De prog_72_method_1_code 9 (.aload_n 0) 1 10 := ⟨by decide +kernel, rfl⟩
theorem d2_10 : De prog_72_method_1_code 10 (.aload_n 2) 1 11 := ⟨by decide +kernel, rfl⟩
theorem d2_11 : De prog_72_method_1_code 11 (.putfield 13) 3 14 := ⟨by decide +kernel, rfl⟩
theorem d2_14 : De prog_72_method_1_code 14 (.aload_n 0) 1 15 := ⟨by decide +kernel, rfl⟩
theorem d2_15 : De prog_72_method_1_code 15 (.aload_n 3) 1 16 := ⟨by decide +kernel, rfl⟩
theorem d2_16 : De prog_72_method_1_code 16 (.putfield 17) 3 19 := ⟨by decide +kernel, rfl⟩
theorem d2_19 : De prog_72_method_1_code 19 (.return_) 1 20 := ⟨by decide +kernel, rfl⟩
theorem d3_0 : De jdk_30_method_1_code 0 (.aload_n 0) 1 1 := ⟨by decide +kernel, rfl⟩
theorem d3_1 : De jdk_30_method_1_code 1 (.invokespecial 1) 3 4 := ⟨by decide +kernel, rfl⟩
theorem d3_4 : De jdk_30_method_1_code 4 (.return_) 1 5 := ⟨by decide +kernel, rfl⟩
theorem d5_0 : De prog_72_method_9_code 0 (.aload_n 0) 1 1 := ⟨by decide +kernel, rfl⟩
theorem d5_1 : De prog_72_method_9_code 1 (.getfield 7) 3 4 := ⟨by decide +kernel, rfl⟩
theorem d5_4 : De prog_72_method_9_code 4 (.areturn) 1 5 := ⟨by decide +kernel, rfl⟩
theorem d6_0 : De prog_72_method_10_code 0 (.aload_n 0) 1 1 := ⟨by decide +kernel, rfl⟩
theorem d6_1 : De prog_72_method_10_code 1 (.getfield 13) 3 4 := ⟨by decide +kernel, rfl⟩
theorem d6_4 : De prog_72_method_10_code 4 (.areturn) 1 5 := ⟨by decide +kernel, rfl⟩
theorem d7_0 : De prog_72_method_11_code 0 (.aload_n 0) 1 1 := ⟨by decide +kernel, rfl⟩
theorem d7_1 : De prog_72_method_11_code 1 (.getfield 17) 3 4 := ⟨by decide +kernel, rfl⟩
theorem d7_4 : De prog_72_method_11_code 4 (.areturn) 1 5 := ⟨by decide +kernel, rfl⟩
theorem pd0 : parseMethodDescriptor "()V" = some ⟨[], none⟩ := by decide +kernel
theorem pd1 : parseMethodDescriptor "(Lcom/example/uketsuke/uketsuke/server/channel/EnginePacket$Type;Ljava/lang/String;[B)V" = some ⟨[(.object "com/example/uketsuke/uketsuke/server/channel/EnginePacket$Type"), (.object "java/lang/String"), (.array .byte)], none⟩ := by decide +kernel
theorem pd2 : parseMethodDescriptor "([B)Lcom/example/uketsuke/uketsuke/server/channel/EnginePacket;" = some ⟨[(.array .byte)], some (.object "com/example/uketsuke/uketsuke/server/channel/EnginePacket")⟩ := by decide +kernel
theorem pd3 : parseMethodDescriptor "()Lcom/example/uketsuke/uketsuke/server/channel/EnginePacket$Type;" = some ⟨[], some (.object "com/example/uketsuke/uketsuke/server/channel/EnginePacket$Type")⟩ := by decide +kernel
theorem pd4 : parseMethodDescriptor "()Ljava/lang/String;" = some ⟨[], some (.object "java/lang/String")⟩ := by decide +kernel
theorem pd5 : parseMethodDescriptor "()[B" = some ⟨[], some (.array .byte)⟩ := by decide +kernel
theorem pn0 : plainName "java/lang/Record" = true := by first | (simp [plainName, overriddenIn]; done) | decide +kernel
theorem pn1 : plainName "com/example/uketsuke/uketsuke/server/channel/EnginePacket" = true := by first | (simp [plainName, overriddenIn]; done) | decide +kernel
theorem pn2 : plainName "com/example/uketsuke/uketsuke/server/channel/EnginePacketBinaryMessagePinLaw" = true := by first | (simp [plainName, overriddenIn]; done) | decide +kernel
def GG (Z : State) (ga1 : Addr) : Prop := Sta Z Z.heap "com/example/uketsuke/uketsuke/server/channel/EnginePacket$Type" "MESSAGE" "Lcom/example/uketsuke/uketsuke/server/channel/EnginePacket$Type;" (.ref ga1) ∧ Exa Z Z.heap ga1 "com/example/uketsuke/uketsuke/server/channel/EnginePacket$Type"
theorem ef_rmR (m : MethodId) (x0 : Addr) : entryFrame m #[(.ref x0)] 1 = mkF m 0 #[(.val (.ref x0))] [] := by first | (simp [entryFrame, mkF, argsToLocals, Value.category]; done) | rfl
set_option maxRecDepth 65536 in
set_option maxHeartbeats 4000000 in
theorem rmR {l : Launch} {Z : State} {a0 : Array Value} (hw : ∀ d ∈ tables_1, d.before a0 Z = true) {n0 : Nat} {h0 : Heap} (a : Addr)  :
    Pays l Z (⟨"java/lang/Record", "<init>", "()V"⟩ : MethodName) jdk_30_method_1_code 1 none ({ frames := 1, cells := 0, slots := 0, locals := 12 } : Room) #[(.ref a)] n0 h0 (QP none h0) := by
  refine Pays.of hw (plainFor_of_name pn0) (fun m => ef_rmR m a) fun B C => ?_
  refine iAloadN C d3_0 rfl rfl ?_
  refine iInitO C tw18 tw19 tw20 d3_1 rfl (by decide) (W := 0) rfl (by decide) ?_
  refine iRetV C d3_4 ⟨by decide, by decide⟩ ?_
  exact ⟨rfl, rfl⟩
def QI (Z : State) (a t b : Addr) (h0 : Heap) (v : Option Value) (h : Heap) : Prop := v = none ∧ Keep h0 h [a] ∧ Fld Z h a "com/example/uketsuke/uketsuke/server/channel/EnginePacket" "type" "Lcom/example/uketsuke/uketsuke/server/channel/EnginePacket$Type;" (.ref t) ∧ Fld Z h a "com/example/uketsuke/uketsuke/server/channel/EnginePacket" "text" "Ljava/lang/String;" .null ∧ Fld Z h a "com/example/uketsuke/uketsuke/server/channel/EnginePacket" "binary" "[B" (.ref b)
theorem ef_rmI (m : MethodId) (x0 : Addr) (x1 : Addr) (x3 : Addr) : entryFrame m #[(.ref x0), (.ref x1), .null, (.ref x3)] 4 = mkF m 0 #[(.val (.ref x0)), (.val (.ref x1)), (.val .null), (.val (.ref x3))] [] := by first | (simp [entryFrame, mkF, argsToLocals, Value.category]; done) | rfl
set_option maxRecDepth 65536 in
set_option maxHeartbeats 4000000 in
theorem rmI {l : Launch} {Z : State} {a0 : Array Value} (hw : ∀ d ∈ tables_1, d.before a0 Z = true) {n0 : Nat} {h0 : Heap} (a t b : Addr) (EA : Exa Z h0 a "com/example/uketsuke/uketsuke/server/channel/EnginePacket") (F1 : Fld Z h0 a "com/example/uketsuke/uketsuke/server/channel/EnginePacket" "type" "Lcom/example/uketsuke/uketsuke/server/channel/EnginePacket$Type;" .null) (F2 : Fld Z h0 a "com/example/uketsuke/uketsuke/server/channel/EnginePacket" "text" "Ljava/lang/String;" .null) (F3 : Fld Z h0 a "com/example/uketsuke/uketsuke/server/channel/EnginePacket" "binary" "[B" .null) (na : n0 ≤ a) (O : Old Z n0 h0) :
    Pays l Z (⟨"com/example/uketsuke/uketsuke/server/channel/EnginePacket", "<init>", "(Lcom/example/uketsuke/uketsuke/server/channel/EnginePacket$Type;Ljava/lang/String;[B)V"⟩ : MethodName) prog_72_method_1_code 4 none ({ frames := 2, cells := 0, slots := 0, locals := 24 } : Room) #[(.ref a), (.ref t), .null, (.ref b)] n0 h0 (QI Z a t b h0) := by
  refine Pays.of hw (plainFor_of_name pn1) (fun m => ef_rmI m a t b) fun B C => ?_
  refine iAloadN C d2_0 rfl rfl ?_
  refine iCallI C (rmR hw a) rfl tw13 tw14 tw16 tw17 ⟨by decide, by decide⟩ (a := a) (argsL := []) (S' := []) (lenOf pd0 rfl) rfl rfl d2_1 rfl (W := 0) rfl ⟨by decide, by decide, rfl, rfl, by decide, by decide⟩ fun v1 h1 q1 => ?_
  obtain ⟨rfl, rfl⟩ := q1
  show Go B n0 _ h0 0 0 4 #[(.val (.ref a)), (.val (.ref t)), (.val .null), (.val (.ref b))] []
  refine iAloadN C d2_4 rfl rfl ?_
  refine iAloadN C d2_5 rfl rfl ?_
  refine iPutF C (v := (.ref t)) tw21 F1 EA (Or.inr ⟨tw22, rfl, rfl⟩) tw6 (ty := (.object "com/example/uketsuke/uketsuke/server/channel/EnginePacket$Type")) (by decide) rfl rfl na d2_6 fun h2 W2 => ?_
  have Fw2 := Fld.same W2 F1
  have O2 := O.wr W2 na
  refine iAloadN C d2_9 rfl rfl ?_
  refine iAloadN C d2_10 rfl rfl ?_
  refine iPutF C (v := .null) tw23 (Fld.other W2 F2 (Or.inr (slot_ne (Or.inr (hw _ tw24)) (Or.inr (hw _ tw22)) (by decide) (t := (.object "java/lang/String")) (t' := (.object "com/example/uketsuke/uketsuke/server/channel/EnginePacket$Type")) (by decide) (by decide)))) (EA.wr W2) (Or.inr ⟨tw24, rfl, rfl⟩) tw6 (ty := (.object "java/lang/String")) (by decide) rfl rfl na d2_11 fun h3 W3 => ?_
  have Fw3 := Fld.same W3 (Fld.other W2 F2 (Or.inr (slot_ne (Or.inr (hw _ tw24)) (Or.inr (hw _ tw22)) (by decide) (t := (.object "java/lang/String")) (t' := (.object "com/example/uketsuke/uketsuke/server/channel/EnginePacket$Type")) (by decide) (by decide))))
  have O3 := O2.wr W3 na
  refine iAloadN C d2_14 rfl rfl ?_
  refine iAloadN C d2_15 rfl rfl ?_
  refine iPutF C (v := (.ref b)) tw25 (Fld.other W3 (Fld.other W2 F3 (Or.inr (slot_ne (Or.inr (hw _ tw26)) (Or.inr (hw _ tw22)) (by decide) (t := (.array .byte)) (t' := (.object "com/example/uketsuke/uketsuke/server/channel/EnginePacket$Type")) (by decide) (by decide)))) (Or.inr (slot_ne (Or.inr (hw _ tw26)) (Or.inr (hw _ tw24)) (by decide) (t := (.array .byte)) (t' := (.object "java/lang/String")) (by decide) (by decide)))) ((EA.wr W2).wr W3) (Or.inr ⟨tw26, rfl, rfl⟩) tw6 (ty := (.array .byte)) (by decide) rfl rfl na d2_16 fun h4 W4 => ?_
  have Fw4 := Fld.same W4 (Fld.other W3 (Fld.other W2 F3 (Or.inr (slot_ne (Or.inr (hw _ tw26)) (Or.inr (hw _ tw22)) (by decide) (t := (.array .byte)) (t' := (.object "com/example/uketsuke/uketsuke/server/channel/EnginePacket$Type")) (by decide) (by decide)))) (Or.inr (slot_ne (Or.inr (hw _ tw26)) (Or.inr (hw _ tw24)) (by decide) (t := (.array .byte)) (t' := (.object "java/lang/String")) (by decide) (by decide))))
  have O4 := O3.wr W4 na
  refine iRetV C d2_19 ⟨by decide, by decide⟩ ?_
  exact ⟨rfl, (((Keep.refl _ _).wr W2 (Or.inl (List.mem_singleton.mpr rfl))).wr W3 (Or.inl (List.mem_singleton.mpr rfl))).wr W4 (Or.inl (List.mem_singleton.mpr rfl)), (Fld.other W4 (Fld.other W3 Fw2 (Or.inr (slot_ne (Or.inr (hw _ tw22)) (Or.inr (hw _ tw24)) (by decide) (t := (.object "com/example/uketsuke/uketsuke/server/channel/EnginePacket$Type")) (t' := (.object "java/lang/String")) (by decide) (by decide)))) (Or.inr (slot_ne (Or.inr (hw _ tw22)) (Or.inr (hw _ tw26)) (by decide) (t := (.object "com/example/uketsuke/uketsuke/server/channel/EnginePacket$Type")) (t' := (.array .byte)) (by decide) (by decide)))), (Fld.other W4 Fw3 (Or.inr (slot_ne (Or.inr (hw _ tw24)) (Or.inr (hw _ tw26)) (by decide) (t := (.object "java/lang/String")) (t' := (.array .byte)) (by decide) (by decide)))), Fw4⟩
def QB (Z : State) (n0 : Nat) (t b : Addr) (h0 : Heap) (v : Option Value) (h : Heap) : Prop := ∃ a, v = some (.ref a) ∧ h0.size ≤ a ∧ Keep h0 h [] ∧ Exa Z h a "com/example/uketsuke/uketsuke/server/channel/EnginePacket" ∧ Fld Z h a "com/example/uketsuke/uketsuke/server/channel/EnginePacket" "type" "Lcom/example/uketsuke/uketsuke/server/channel/EnginePacket$Type;" (.ref t) ∧ Fld Z h a "com/example/uketsuke/uketsuke/server/channel/EnginePacket" "text" "Ljava/lang/String;" .null ∧ Fld Z h a "com/example/uketsuke/uketsuke/server/channel/EnginePacket" "binary" "[B" (.ref b)
theorem ef_rmB (m : MethodId) (x0 : Addr) : entryFrame m #[(.ref x0)] 1 = mkF m 0 #[(.val (.ref x0))] [] := by first | (simp [entryFrame, mkF, argsToLocals, Value.category]; done) | rfl
set_option maxRecDepth 65536 in
set_option maxHeartbeats 4000000 in
theorem rmB {l : Launch} {Z : State} {a0 : Array Value} (hw : ∀ d ∈ tables_1, d.before a0 Z = true) {n0 : Nat} {h0 : Heap} (b : Addr) {ga1 : Addr} (G : GG Z ga1) (O : Old Z n0 h0) :
    Pays l Z (⟨"com/example/uketsuke/uketsuke/server/channel/EnginePacket", "binaryMessage", "([B)Lcom/example/uketsuke/uketsuke/server/channel/EnginePacket;"⟩ : MethodName) prog_72_method_2_code 1 (some (.object "com/example/uketsuke/uketsuke/server/channel/EnginePacket")) ({ frames := 3, cells := 1, slots := 3, locals := 40 } : Room) #[(.ref b)] n0 h0 (QB Z n0 ga1 b h0) := by
  refine Pays.of hw (plainFor_of_name pn1) (fun m => ef_rmB m b) fun B C => ?_
  refine iNew C tw5 tw6 tw3 d1_0 ⟨rfl, rfl, by decide, by decide⟩ fun h1 a1 g1 E1 A1 D1 => ?_
  have n_a1 : n0 ≤ a1 := oFresh O g1
  have O1 := O.ext E1
  have F1_type : Fld Z h1 a1 "com/example/uketsuke/uketsuke/server/channel/EnginePacket" "type" "Lcom/example/uketsuke/uketsuke/server/channel/EnginePacket$Type;" .null := D1 (Or.inr (hw _ tw22)) (ty := (.object "com/example/uketsuke/uketsuke/server/channel/EnginePacket$Type")) (by decide)
  have F1_text : Fld Z h1 a1 "com/example/uketsuke/uketsuke/server/channel/EnginePacket" "text" "Ljava/lang/String;" .null := D1 (Or.inr (hw _ tw24)) (ty := (.object "java/lang/String")) (by decide)
  have F1_binary : Fld Z h1 a1 "com/example/uketsuke/uketsuke/server/channel/EnginePacket" "binary" "[B" .null := D1 (Or.inr (hw _ tw26)) (ty := (.array .byte)) (by decide)
  refine iDup C d1_3 rfl ?_
  refine iGetS C tw7 (G.1.ext O1.2) d1_4 ?_
  refine iNull C d1_7 ?_
  refine iAloadN C d1_8 rfl rfl ?_
  refine iCallI C (rmI hw a1 ga1 b A1 F1_type F1_text F1_binary n_a1 O1) rfl tw10 tw11 tw3 tw12 ⟨by decide, by decide⟩ (a := a1) (argsL := [(.ref ga1), .null, (.ref b)]) (S' := [(.ref a1)]) (lenOf pd1 rfl) rfl rfl d1_9 rfl (W := 1) rfl ⟨by decide, by decide, rfl, rfl, by decide, by decide⟩ fun v2 h2 q2 => ?_
  obtain ⟨rfl, K2, p1_2, p2_2, p3_2⟩ := q2
  have O2 := O1.keep K2 (allS n_a1 all0)
  show Go B n0 _ h2 1 3 12 #[(.val (.ref b))] [(.ref a1)]
  refine iRetA C d1_12 rfl rfl rfl ⟨by decide, by decide⟩ ?_
  exact ⟨_, rfl, Nat.le_of_eq g1.symm, ((Keep.refl h0 []).ext E1).trans K2 (allS (Or.inr (Nat.le_of_eq g1.symm)) all0), (A1.keep K2), p1_2, p2_2, p3_2⟩
theorem ef_rm_type (m : MethodId) (x0 : Addr) : entryFrame m #[(.ref x0)] 1 = mkF m 0 #[(.val (.ref x0))] [] := by first | (simp [entryFrame, mkF, argsToLocals, Value.category]; done) | rfl
set_option maxRecDepth 65536 in
set_option maxHeartbeats 4000000 in
theorem rm_type {l : Launch} {Z : State} {a0 : Array Value} (hw : ∀ d ∈ tables_1, d.before a0 Z = true) {n0 : Nat} {h0 : Heap} (a : Addr) (t : Addr) (F : Fld Z h0 a "com/example/uketsuke/uketsuke/server/channel/EnginePacket" "type" "Lcom/example/uketsuke/uketsuke/server/channel/EnginePacket$Type;" (.ref t)) :
    Pays l Z (⟨"com/example/uketsuke/uketsuke/server/channel/EnginePacket", "type", "()Lcom/example/uketsuke/uketsuke/server/channel/EnginePacket$Type;"⟩ : MethodName) prog_72_method_9_code 1 (some (.object "com/example/uketsuke/uketsuke/server/channel/EnginePacket$Type")) ({ frames := 0, cells := 0, slots := 0, locals := 0 } : Room) #[(.ref a)] n0 h0 (QP (some (.ref t)) h0) := by
  refine Pays.of hw (plainFor_of_name pn1) (fun m => ef_rm_type m a) fun B C => ?_
  refine iAloadN C d5_0 rfl rfl ?_
  refine iGetF C tw21 F d5_1 ?_
  refine iRetA C d5_4 rfl rfl rfl ⟨by decide, by decide⟩ ?_
  exact ⟨rfl, rfl⟩
theorem ef_rm_text (m : MethodId) (x0 : Addr) : entryFrame m #[(.ref x0)] 1 = mkF m 0 #[(.val (.ref x0))] [] := by first | (simp [entryFrame, mkF, argsToLocals, Value.category]; done) | rfl
set_option maxRecDepth 65536 in
set_option maxHeartbeats 4000000 in
theorem rm_text {l : Launch} {Z : State} {a0 : Array Value} (hw : ∀ d ∈ tables_1, d.before a0 Z = true) {n0 : Nat} {h0 : Heap} (a : Addr) (F : Fld Z h0 a "com/example/uketsuke/uketsuke/server/channel/EnginePacket" "text" "Ljava/lang/String;" .null) :
    Pays l Z (⟨"com/example/uketsuke/uketsuke/server/channel/EnginePacket", "text", "()Ljava/lang/String;"⟩ : MethodName) prog_72_method_10_code 1 (some (.object "java/lang/String")) ({ frames := 0, cells := 0, slots := 0, locals := 0 } : Room) #[(.ref a)] n0 h0 (QP (some .null) h0) := by
  refine Pays.of hw (plainFor_of_name pn1) (fun m => ef_rm_text m a) fun B C => ?_
  refine iAloadN C d6_0 rfl rfl ?_
  refine iGetF C tw23 F d6_1 ?_
  refine iRetA C d6_4 rfl rfl rfl ⟨by decide, by decide⟩ ?_
  exact ⟨rfl, rfl⟩
theorem ef_rm_binary (m : MethodId) (x0 : Addr) : entryFrame m #[(.ref x0)] 1 = mkF m 0 #[(.val (.ref x0))] [] := by first | (simp [entryFrame, mkF, argsToLocals, Value.category]; done) | rfl
set_option maxRecDepth 65536 in
set_option maxHeartbeats 4000000 in
theorem rm_binary {l : Launch} {Z : State} {a0 : Array Value} (hw : ∀ d ∈ tables_1, d.before a0 Z = true) {n0 : Nat} {h0 : Heap} (a : Addr) (t : Addr) (F : Fld Z h0 a "com/example/uketsuke/uketsuke/server/channel/EnginePacket" "binary" "[B" (.ref t)) :
    Pays l Z (⟨"com/example/uketsuke/uketsuke/server/channel/EnginePacket", "binary", "()[B"⟩ : MethodName) prog_72_method_11_code 1 (some (.array .byte)) ({ frames := 0, cells := 0, slots := 0, locals := 0 } : Room) #[(.ref a)] n0 h0 (QP (some (.ref t)) h0) := by
  refine Pays.of hw (plainFor_of_name pn1) (fun m => ef_rm_binary m a) fun B C => ?_
  refine iAloadN C d7_0 rfl rfl ?_
  refine iGetF C tw25 F d7_1 ?_
  refine iRetA C d7_4 rfl rfl rfl ⟨by decide, by decide⟩ ?_
  exact ⟨rfl, rfl⟩
theorem own_nar (x : Int32) : nar .byte x.toInt8.toInt32 = x.toInt8.toInt32 := by
  show x.toInt8.toInt32.toInt8.toInt32 = x.toInt8.toInt32
  simp
theorem ef_rm0 (m : MethodId) (x0 : Int32) (x1 : Int32) (x2 : Int32) (x3 : Int32) : entryFrame m #[(.int x0), (.int x1), (.int x2), (.int x3)] maxLocals = mkF m 0 #[(.val (.int x0)), (.val (.int x1)), (.val (.int x2)), (.val (.int x3)), .unset, .unset, .unset, .unset, .unset] [] := by first | (simp [entryFrame, mkF, argsToLocals, Value.category, maxLocals]; done) | rfl
set_option maxRecDepth 65536 in
set_option maxHeartbeats 4000000 in
theorem rm0 {l : Launch} {Z : State} {a0 : Array Value} (hw : ∀ d ∈ tables_1, d.before a0 Z = true) {n0 : Nat} {h0 : Heap} (p q r f : Int32) {ga1 : Addr} (G : GG Z ga1) (O : Old Z n0 h0) :
    Pays l Z x code maxLocals ret room_1 #[(.int p), (.int q), (.int r), (.int f)] n0 h0 (fun v _ => v = some (.int 1)) := by
  refine Pays.of hw (plainFor_of_name pn2) (fun m => ef_rm0 m p q r f) fun B C => ?_
  refine iIconst C d0_0 (v := (3 : Int32)) (by decide) ?_
  refine iNewP C (aty := .byte) tw0 d0_1 (by decide) (cap := 3) (by decide) (by decide) ⟨rfl, rfl, by decide, by decide⟩ fun h1 a1 k1 g1 E1 V1 => ?_
  have n_a1 : n0 ≤ a1 := oFresh O g1
  have O1 := O.ext E1
  have V1 : Arv Z h1 a1 k1 .byte (3 : Int32) [(.int 0), (.int 0), (.int 0)] (.int 0) := V1.pad (pad_rep [] (.int 0) 3)
  refine iAstore C d0_3 (Ls' := #[(.val (.int p)), (.val (.int q)), (.val (.int r)), (.val (.int f)), (.val (.ref a1)), .unset, .unset, .unset, .unset]) rfl rfl ?_
  refine iAload C d0_5 rfl rfl ?_
  refine iIconst C d0_7 (v := (0 : Int32)) (by decide) ?_
  refine iIloadN C d0_8 rfl ?_
  refine iI2b C d0_9 rfl ?_
  obtain ⟨c2, A2, q2, z2, y2, H2, G2⟩ := V1
  refine iBastore C A2 (inb_of z2 ⟨by decide, by decide⟩) n_a1 d0_10 fun h2 W2 => ?_
  have V2 : Arv Z h2 a1 k1 .byte (3 : Int32) [(.int (nar .byte (p).toInt8.toInt32)), (.int 0), (.int 0)] (.int 0) := Arv.set A2 q2 z2 y2 H2 G2 (fits_nar_byte _) W2 0 (by decide) (Nat.le_of_ble_eq_true rfl)
  have O2 := O1.wr W2 n_a1
  refine iAload C d0_11 rfl rfl ?_
  refine iIconst C d0_13 (v := (1 : Int32)) (by decide) ?_
  refine iIloadN C d0_14 rfl ?_
  refine iI2b C d0_15 rfl ?_
  obtain ⟨c3, A3, q3, z3, y3, H3, G3⟩ := V2
  refine iBastore C A3 (inb_of z3 ⟨by decide, by decide⟩) n_a1 d0_16 fun h3 W3 => ?_
  have V3 : Arv Z h3 a1 k1 .byte (3 : Int32) [(.int (nar .byte (p).toInt8.toInt32)), (.int (nar .byte (q).toInt8.toInt32)), (.int 0)] (.int 0) := Arv.set A3 q3 z3 y3 H3 G3 (fits_nar_byte _) W3 1 (by decide) (Nat.le_of_ble_eq_true rfl)
  have O3 := O2.wr W3 n_a1
  refine iAload C d0_17 rfl rfl ?_
  refine iIconst C d0_19 (v := (2 : Int32)) (by decide) ?_
  refine iIloadN C d0_20 rfl ?_
  refine iI2b C d0_21 rfl ?_
  obtain ⟨c4, A4, q4, z4, y4, H4, G4⟩ := V3
  refine iBastore C A4 (inb_of z4 ⟨by decide, by decide⟩) n_a1 d0_22 fun h4 W4 => ?_
  have V4 : Arv Z h4 a1 k1 .byte (3 : Int32) [(.int (nar .byte (p).toInt8.toInt32)), (.int (nar .byte (q).toInt8.toInt32)), (.int (nar .byte (r).toInt8.toInt32))] (.int 0) := Arv.set A4 q4 z4 y4 H4 G4 (fits_nar_byte _) W4 2 (by decide) (Nat.le_of_ble_eq_true rfl)
  have O4 := O3.wr W4 n_a1
  refine iIconst C d0_23 (v := (0 : Int32)) (by decide) ?_
  refine iNewP C (aty := .byte) tw0 d0_24 (by decide) (cap := 0) (by decide) (by decide) ⟨rfl, rfl, by decide, by decide⟩ fun h5 a5 k5 g5 E5 V5 => ?_
  have n_a5 : n0 ≤ a5 := oFresh O4 g5
  have O5 := O4.ext E5
  have V5 : Arv Z h5 a5 k5 .byte (0 : Int32) [] (.int 0) := V5.pad (pad_rep [] (.int 0) 0)
  refine iAstore C d0_26 (Ls' := #[(.val (.int p)), (.val (.int q)), (.val (.int r)), (.val (.int f)), (.val (.ref a1)), (.val (.ref a5)), .unset, .unset, .unset]) rfl rfl ?_
  refine iIloadN C d0_28 rfl ?_
  refine iIconst C d0_29 (v := (1 : Int32)) (by decide) ?_
  refine iIand C d0_30 rfl ?_
  by_cases hc6 : (f &&& (1 : Int32)) = (0 : Int32)
  · refine iIfT C (t := 38) d0_31 ((if0 _ _).trans (teq hc6).1) ⟨by decide, by decide⟩ ?_
    refine iIconst C d0_38 (v := (0 : Int32)) (by decide) ?_
    refine iIstore C d0_39 (Ls' := #[(.val (.int p)), (.val (.int q)), (.val (.int r)), (.val (.int f)), (.val (.ref a1)), (.val (.ref a5)), (.val (.int (0 : Int32))), .unset, .unset]) rfl ?_
    refine iIload C d0_41 rfl ?_
    refine iIfT C (t := 51) d0_43 (by decide) ⟨by decide, by decide⟩ ?_
    refine iAload C d0_51 rfl rfl ?_
    refine iAstore C d0_53 (Ls' := #[(.val (.int p)), (.val (.int q)), (.val (.int r)), (.val (.int f)), (.val (.ref a1)), (.val (.ref a5)), (.val (.int (0 : Int32))), (.val (.ref a1)), .unset]) rfl rfl ?_
    refine iAload C d0_55 rfl rfl ?_
    refine iCallS C (rmB hw a1 G O5) tw1 tw2 tw3 tw4 ⟨by decide, by decide⟩ (argsL := [(.ref a1)]) (S' := []) (lenOf pd2 rfl) rfl rfl d0_57 rfl (W := 0) rfl ⟨by decide, by decide, rfl, rfl, by decide, by decide⟩ fun v7 h7 q7 => ?_
    obtain ⟨b7, rfl, g7, K7, e_7, p1_7, p2_7, p3_7⟩ := q7
    have O7 := O5.keep K7 all0
    show Go B n0 _ h7 3 6 60 #[(.val (.int p)), (.val (.int q)), (.val (.int r)), (.val (.int f)), (.val (.ref a1)), (.val (.ref a5)), (.val (.int (0 : Int32))), (.val (.ref a1)), .unset] [(.ref b7)]
    refine iAstore C d0_60 (Ls' := #[(.val (.int p)), (.val (.int q)), (.val (.int r)), (.val (.int f)), (.val (.ref a1)), (.val (.ref a5)), (.val (.int (0 : Int32))), (.val (.ref a1)), (.val (.ref b7))]) rfl rfl ?_
    refine iAload C d0_62 rfl rfl ?_
    refine iNonnullT C (t := 69) d0_64 ⟨by decide, by decide⟩ ?_
    refine iAload C d0_69 rfl rfl ?_
    refine iCallV C (rm_type hw b7 ga1 p1_7) e_7 tw27 tw28 (Or.inl rfl) tw30 tw29 tw3 tw31 ⟨by decide, by decide⟩ (argsL := []) (S' := []) (lenOf pd3 rfl) rfl rfl d0_71 rfl (W := 0) rfl ⟨by decide, by decide, rfl, rfl, by decide, by decide⟩ fun v8 h8 q8 => ?_
    obtain ⟨rfl, rfl⟩ := q8
    show Go B n0 _ h7 3 6 74 #[(.val (.int p)), (.val (.int q)), (.val (.int r)), (.val (.int f)), (.val (.ref a1)), (.val (.ref a5)), (.val (.int (0 : Int32))), (.val (.ref a1)), (.val (.ref b7))] [(.ref ga1)]
    refine iGetS C tw32 (G.1.ext O7.2) d0_74 ?_
    refine iAcmpT C (t := 82) d0_77 rfl rfl (acE rfl).1 ⟨by decide, by decide⟩ ?_
    refine iAload C d0_82 rfl rfl ?_
    refine iCallV C (rm_text hw b7 p2_7) e_7 tw33 tw34 (Or.inl rfl) tw36 tw35 tw3 tw37 ⟨by decide, by decide⟩ (argsL := []) (S' := []) (lenOf pd4 rfl) rfl rfl d0_84 rfl (W := 0) rfl ⟨by decide, by decide, rfl, rfl, by decide, by decide⟩ fun v9 h9 q9 => ?_
    obtain ⟨rfl, rfl⟩ := q9
    show Go B n0 _ h7 3 6 87 #[(.val (.int p)), (.val (.int q)), (.val (.int r)), (.val (.int f)), (.val (.ref a1)), (.val (.ref a5)), (.val (.int (0 : Int32))), (.val (.ref a1)), (.val (.ref b7))] [.null]
    refine iNullT C (t := 92) d0_87 ⟨by decide, by decide⟩ ?_
    refine iAload C d0_92 rfl rfl ?_
    refine iCallV C (rm_binary hw b7 a1 p3_7) e_7 tw38 tw39 (Or.inl rfl) tw41 tw40 tw3 tw42 ⟨by decide, by decide⟩ (argsL := []) (S' := []) (lenOf pd5 rfl) rfl rfl d0_94 rfl (W := 0) rfl ⟨by decide, by decide, rfl, rfl, by decide, by decide⟩ fun v10 h10 q10 => ?_
    obtain ⟨rfl, rfl⟩ := q10
    show Go B n0 _ h7 3 6 97 #[(.val (.int p)), (.val (.int q)), (.val (.int r)), (.val (.int f)), (.val (.ref a1)), (.val (.ref a5)), (.val (.int (0 : Int32))), (.val (.ref a1)), (.val (.ref b7))] [(.ref a1)]
    refine iAload C d0_97 rfl rfl ?_
    refine iAcmpT C (t := 104) d0_99 rfl rfl (acE rfl).1 ⟨by decide, by decide⟩ ?_
    refine iIload C d0_104 rfl ?_
    refine iIfT C (t := 121) d0_106 (by decide) ⟨by decide, by decide⟩ ?_
    refine iAload C d0_121 rfl rfl ?_
    obtain ⟨c11, A11, q11, z11, y11, H11, G11⟩ := ((V4.ext E5).keep K7 nin0)
    refine iLen C A11 (len_of z11 y11) d0_123 ?_
    refine iIconst C d0_124 (v := (3 : Int32)) (by decide) ?_
    refine iCmpF C d0_125 (by decide) ?_
    refine iAload C d0_128 rfl rfl ?_
    refine iIconst C d0_130 (v := (0 : Int32)) (by decide) ?_
    obtain ⟨c12, A12, q12, z12, y12, H12, G12⟩ := ((V4.ext E5).keep K7 nin0)
    refine iBaload C A12 (inb_of z12 ⟨by decide, by decide⟩) (H12.at (inb_of z12 ⟨by decide, by decide⟩) (by rfl)) d0_131 ?_
    refine iIloadN C d0_132 rfl ?_
    refine iI2b C d0_133 rfl ?_
    refine iCmpF C d0_134 (teq (own_nar _)).2 ?_
    refine iAload C d0_137 rfl rfl ?_
    refine iIconst C d0_139 (v := (1 : Int32)) (by decide) ?_
    obtain ⟨c13, A13, q13, z13, y13, H13, G13⟩ := ((V4.ext E5).keep K7 nin0)
    refine iBaload C A13 (inb_of z13 ⟨by decide, by decide⟩) (H13.at (inb_of z13 ⟨by decide, by decide⟩) (by rfl)) d0_140 ?_
    refine iIloadN C d0_141 rfl ?_
    refine iI2b C d0_142 rfl ?_
    refine iCmpF C d0_143 (teq (own_nar _)).2 ?_
    refine iAload C d0_146 rfl rfl ?_
    refine iIconst C d0_148 (v := (2 : Int32)) (by decide) ?_
    obtain ⟨c14, A14, q14, z14, y14, H14, G14⟩ := ((V4.ext E5).keep K7 nin0)
    refine iBaload C A14 (inb_of z14 ⟨by decide, by decide⟩) (H14.at (inb_of z14 ⟨by decide, by decide⟩) (by rfl)) d0_149 ?_
    refine iIloadN C d0_150 rfl ?_
    refine iI2b C d0_151 rfl ?_
    refine iCmpF C d0_152 (teq (own_nar _)).2 ?_
    refine iIconst C d0_155 (v := (1 : Int32)) (by decide) ?_
    refine iGoto C (t := 160) d0_156 ⟨by decide, by decide⟩ ?_
    refine iRetZ C d0_160 (by simp) ⟨by decide, by decide⟩ ?_
    exact rfl
  · refine iIfF C d0_31 ((if0 _ _).trans (feq hc6).1) ?_
    refine iIconst C d0_34 (v := (1 : Int32)) (by decide) ?_
    refine iGoto C (t := 39) d0_35 ⟨by decide, by decide⟩ ?_
    refine iIstore C d0_39 (Ls' := #[(.val (.int p)), (.val (.int q)), (.val (.int r)), (.val (.int f)), (.val (.ref a1)), (.val (.ref a5)), (.val (.int (1 : Int32))), .unset, .unset]) rfl ?_
    refine iIload C d0_41 rfl ?_
    refine iIfF C d0_43 (by decide) ?_
    refine iAload C d0_46 rfl rfl ?_
    refine iGoto C (t := 53) d0_48 ⟨by decide, by decide⟩ ?_
    refine iAstore C d0_53 (Ls' := #[(.val (.int p)), (.val (.int q)), (.val (.int r)), (.val (.int f)), (.val (.ref a1)), (.val (.ref a5)), (.val (.int (1 : Int32))), (.val (.ref a5)), .unset]) rfl rfl ?_
    refine iAload C d0_55 rfl rfl ?_
    refine iCallS C (rmB hw a5 G O5) tw1 tw2 tw3 tw4 ⟨by decide, by decide⟩ (argsL := [(.ref a5)]) (S' := []) (lenOf pd2 rfl) rfl rfl d0_57 rfl (W := 0) rfl ⟨by decide, by decide, rfl, rfl, by decide, by decide⟩ fun v15 h15 q15 => ?_
    obtain ⟨b15, rfl, g15, K15, e_15, p1_15, p2_15, p3_15⟩ := q15
    have O15 := O5.keep K15 all0
    show Go B n0 _ h15 3 6 60 #[(.val (.int p)), (.val (.int q)), (.val (.int r)), (.val (.int f)), (.val (.ref a1)), (.val (.ref a5)), (.val (.int (1 : Int32))), (.val (.ref a5)), .unset] [(.ref b15)]
    refine iAstore C d0_60 (Ls' := #[(.val (.int p)), (.val (.int q)), (.val (.int r)), (.val (.int f)), (.val (.ref a1)), (.val (.ref a5)), (.val (.int (1 : Int32))), (.val (.ref a5)), (.val (.ref b15))]) rfl rfl ?_
    refine iAload C d0_62 rfl rfl ?_
    refine iNonnullT C (t := 69) d0_64 ⟨by decide, by decide⟩ ?_
    refine iAload C d0_69 rfl rfl ?_
    refine iCallV C (rm_type hw b15 ga1 p1_15) e_15 tw27 tw28 (Or.inl rfl) tw30 tw29 tw3 tw31 ⟨by decide, by decide⟩ (argsL := []) (S' := []) (lenOf pd3 rfl) rfl rfl d0_71 rfl (W := 0) rfl ⟨by decide, by decide, rfl, rfl, by decide, by decide⟩ fun v16 h16 q16 => ?_
    obtain ⟨rfl, rfl⟩ := q16
    show Go B n0 _ h15 3 6 74 #[(.val (.int p)), (.val (.int q)), (.val (.int r)), (.val (.int f)), (.val (.ref a1)), (.val (.ref a5)), (.val (.int (1 : Int32))), (.val (.ref a5)), (.val (.ref b15))] [(.ref ga1)]
    refine iGetS C tw32 (G.1.ext O15.2) d0_74 ?_
    refine iAcmpT C (t := 82) d0_77 rfl rfl (acE rfl).1 ⟨by decide, by decide⟩ ?_
    refine iAload C d0_82 rfl rfl ?_
    refine iCallV C (rm_text hw b15 p2_15) e_15 tw33 tw34 (Or.inl rfl) tw36 tw35 tw3 tw37 ⟨by decide, by decide⟩ (argsL := []) (S' := []) (lenOf pd4 rfl) rfl rfl d0_84 rfl (W := 0) rfl ⟨by decide, by decide, rfl, rfl, by decide, by decide⟩ fun v17 h17 q17 => ?_
    obtain ⟨rfl, rfl⟩ := q17
    show Go B n0 _ h15 3 6 87 #[(.val (.int p)), (.val (.int q)), (.val (.int r)), (.val (.int f)), (.val (.ref a1)), (.val (.ref a5)), (.val (.int (1 : Int32))), (.val (.ref a5)), (.val (.ref b15))] [.null]
    refine iNullT C (t := 92) d0_87 ⟨by decide, by decide⟩ ?_
    refine iAload C d0_92 rfl rfl ?_
    refine iCallV C (rm_binary hw b15 a5 p3_15) e_15 tw38 tw39 (Or.inl rfl) tw41 tw40 tw3 tw42 ⟨by decide, by decide⟩ (argsL := []) (S' := []) (lenOf pd5 rfl) rfl rfl d0_94 rfl (W := 0) rfl ⟨by decide, by decide, rfl, rfl, by decide, by decide⟩ fun v18 h18 q18 => ?_
    obtain ⟨rfl, rfl⟩ := q18
    show Go B n0 _ h15 3 6 97 #[(.val (.int p)), (.val (.int q)), (.val (.int r)), (.val (.int f)), (.val (.ref a1)), (.val (.ref a5)), (.val (.int (1 : Int32))), (.val (.ref a5)), (.val (.ref b15))] [(.ref a5)]
    refine iAload C d0_97 rfl rfl ?_
    refine iAcmpT C (t := 104) d0_99 rfl rfl (acE rfl).1 ⟨by decide, by decide⟩ ?_
    refine iIload C d0_104 rfl ?_
    refine iIfF C d0_106 (by decide) ?_
    refine iAload C d0_109 rfl rfl ?_
    obtain ⟨c19, A19, q19, z19, y19, H19, G19⟩ := (V5.keep K15 nin0)
    refine iLen C A19 (len_of z19 y19) d0_111 ?_
    refine iIfF C d0_112 (by decide) ?_
    refine iIconst C d0_115 (v := (1 : Int32)) (by decide) ?_
    refine iGoto C (t := 120) d0_116 ⟨by decide, by decide⟩ ?_
    refine iRetZ C d0_120 (by simp) ⟨by decide, by decide⟩ ?_
    exact rfl
set_option maxRecDepth 65536 in
set_option maxHeartbeats 4000000 in
theorem comes_1 {Post : Tables → Env → Array Value → State → Outcome → State → Prop} (hpost : ∀ tb e args s v u, (limb_1_1.after args s (.returned v) u = true ∧ limb_1_2.after args s (.returned v) u = true ∧ True) → FrameEnd s (.returned v) u (Jvm.fieldLocs frame_1_writes args s ++ Jvm.arrayLocs frame_1_arrays args s ++ Jvm.staticLocs frame_1_statics s) 16 128 → Post tb e args s (.returned v) u) :
    ArmFor flags0 classFile x code maxLocals ret World_1 tables_1 room_1 Calls_1 rest_1 Pre_1 Post := by
  intro l hfl _ _ p e ha hc hk s m args below hf hA hF happ hP
  obtain ⟨hcalls, hrest, hpre⟩ := hP
  obtain ⟨-, -, -, hnamed, -, -, -, hat⟩ := (Spec.applies_iff hf).mp happ
  obtain ⟨hg, hn⟩ := and_e (Cond.before_iff.mp (show (Jvm.Cond.and given_1 narrow_1).before args s = true from hpre))
  obtain ⟨hg_1, hg_2⟩ := and_e hg
  obtain ⟨hg_3, hg_4⟩ := and_e hg_2
  obtain ⟨hg_5, hg_6⟩ := and_e hg_4
  obtain ⟨hg_7, hg_8⟩ := and_e hg_6
  obtain ⟨w0, w1, w2, w3, rfl⟩ : ∃ w0 w1 w2 w3 : Value, args = #[w0, w1, w2, w3] := by
    have hs : args.size = 4 := by simpa [Cond.value, given_1] using hg_1
    obtain ⟨L⟩ := args
    match L, hs with
    | [w0, w1, w2, w3], _ => exact ⟨w0, w1, w2, w3, rfl⟩
  have hw := fun d (hd : d ∈ tables_1) => atoms_spec (ws := Jvm.Cond.code x code maxLocals ret :: tables_1) hat d (List.mem_cons_of_mem _ hd)
  have hfit : Fit s := fun {y c} hc i hi => by
    obtain ⟨ha, rfl⟩ := Array.getElem?_eq_some_iff.mp hc
    have q := List.all_eq_true.mp ((Array.all_eq_true_iff_forall_mem.mp hF) _ (Array.getElem_mem ha)) i (List.mem_range.mpr hi)
    simpa [Array.getElem?_eq_getElem hi] using q
  obtain ⟨i0, ei0⟩ := is_v hg_3
  obtain rfl : w0 = (.int i0) := Option.some.inj ei0
  obtain ⟨i1, ei1⟩ := is_v hg_5
  obtain rfl : w1 = (.int i1) := Option.some.inj ei1
  obtain ⟨i2, ei2⟩ := is_v hg_7
  obtain rfl : w2 = (.int i2) := Option.some.inj ei2
  obtain ⟨i3, ei3⟩ := is_v hg_8
  obtain rfl : w3 = (.int i3) := Option.some.inj ei3
  obtain ⟨ga1, ge1⟩ := exa_v hn
  have G : GG s ga1 := ⟨Sta.start ge1 (Or.inr ⟨hw _ tw8, hw _ tw9⟩), Exa.start ge1 hn⟩
  obtain ⟨n, o, h1, h2, h3, _, L, rfl, ⟨rfl, N⟩, hq⟩ := (rm0 (l := l) (Z := s) hw (n0 := s.heap.size) (h0 := s.heap) i0 i1 i2 i3 G (Old.start s)) tables_1 p e ha hc hk s m _ below hf ((Spec.applies_iff_loose hf).mp happ).1 ⟨rfl, State.Warmed39.refl s, rfl⟩ trivial
  refine ⟨n, _, h1, h2, h3, hpost _ _ _ _ _ _ ⟨Cond.after_iff.mpr rfl, Cond.after_iff.mpr (eq_i res_at (Term.int_eval (1)) rfl), trivial⟩ ⟨hq.1, hq.2.1, (hq.2.2.sift fun y hy => Or.inr (N y hy)).mono (by decide) (by decide)⟩⟩
theorem main_1_1 : Claimed_1_1 := comes_1 fun _ _ _ _ _ _ h hF => ⟨h.1, hF⟩
theorem main_1_2 : Claimed_1_2 := comes_1 fun _ _ _ _ _ _ h hF => ⟨h.2.1, hF⟩
end Jvm.Pilot.@@N@@
namespace Jvm.Pilot.@@N@@
open Jvm Jvm.ClassFile Sem Op Lib Jvm.Free Jvm.Stand Jvm.Pilot.@@N@@.Jvm.D
/-! MADE BY PROGRAM (witnessworld.py) out of the Statement's table words and the real class files: 14 classes; the members and pool entries that the words name. The judged class is class 1, her method 1. -/
namespace start1
open Jvm.ClassFile
def u (s : String) : CpInfo := .utf8 (stringToUtf16 s)
/-- a pool by its gaps: so many unusable entries, then the entry; so many at the end -/
def gap : Nat → List CpInfo → List CpInfo
  | 0, r => r
  | n + 1, r => .unusable :: gap n r
def poolList (es : List (Nat × CpInfo)) (last : Nat) : List CpInfo := es.foldr (fun e r => gap e.1 (e.2 :: r)) (gap last [])
def pool (es : List (Nat × CpInfo)) (last : Nat) : Array CpInfo := ⟨poolList es last⟩
def fileOf (pool : Array CpInfo) (this : Nat) (attrs : Array Attribute := #[]) (ms : Array MethodInfo := #[]) (fl : Nat := 33) (sup : Nat := 0) (ifs : Array Nat := #[]) (fds : Array FieldInfo := #[]) : ClassFile where
  minorVersion := 0
  majorVersion := 65
  constantPool := pool
  accessFlags := fl
  thisClass := this
  superClass := sup
  interfaces := ifs
  fields := fds
  methods := ms
  attributes := attrs
def plain (name : String) (sup : Option ClassId) : Class where
  name := name
  kind := .ordinary
  loader := none
  accessFlags := 33
  super := sup
  interfaces := #[]
  cf := none
  fields := #[]
  methods := #[]
  instanceTypes := #[]
  staticTypes := #[]
  resolved := #[]
  callSites := []
  init := .initialized
  statics := none
  mirror := none

def pool0 : Array CpInfo := pool [(5, u "<init>"), (0, u "()V"), (1, .class_ 10), (1, u "java/lang/Object")] 113

def k0c0 : Code := { maxStack := 0, maxLocals := 1, code := object_method_1_code, exceptionTable := #[], attributes := #[] }
def k0m0 : Method := { name := "<init>", desc := "()V", sig := { parameters := [], returnType := none }, accessFlags := 1, code := some k0c0 }
/-- java/lang/Object -/
def k0 : Class := { plain "java/lang/Object" none with
  accessFlags := 33
  interfaces := #[]
  cf := some (fileOf pool0 8 #[] #[{ accessFlags := 1, nameIndex := 5, descriptorIndex := 6, attributes := #[] }] 33 0 #[] #[])
  fields := #[]
  methods := #[k0m0]
  instanceTypes := #[]
  staticTypes := #[]
  resolved := Array.replicate 124 none
  statics := none }

def pool1 : Array CpInfo := pool [(2, .class_ 4), (1, u "java/lang/Object"), (0, u "<init>"), (0, u "()V"), (0, .methodref 8 9), (0, .class_ 10), (0, .nameAndType 11 12), (0, u "com/example/uketsuke/uketsuke/server/channel/EnginePacket"), (0, u "binaryMessage"), (0, u "([B)Lcom/example/uketsuke/uketsuke/server/channel/EnginePacket;"), (0, .methodref 8 14), (0, .nameAndType 15 16), (0, u "type"), (0, u "()Lcom/example/uketsuke/uketsuke/server/channel/EnginePacket$Type;"), (0, .fieldref 18 19), (0, .class_ 20), (0, .nameAndType 21 22), (0, u "com/example/uketsuke/uketsuke/server/channel/EnginePacket$Type"), (0, u "MESSAGE"), (0, u "Lcom/example/uketsuke/uketsuke/server/channel/EnginePacket$Type;"), (0, .methodref 8 24), (0, .nameAndType 25 26), (0, u "text"), (0, u "()Ljava/lang/String;"), (0, .methodref 8 28), (0, .nameAndType 29 30), (0, u "binary"), (0, u "()[B"), (0, .class_ 32), (0, u "com/example/uketsuke/uketsuke/server/channel/EnginePacketBinaryMessagePinLaw"), (2, u "law"), (0, u "(IIII)Z")] 7

def k1m0 : Method := { name := "<init>", desc := "()V", sig := { parameters := [], returnType := none }, accessFlags := 1, code := none }
def k1c1 : Code := { maxStack := 3, maxLocals := 9, code := code, exceptionTable := #[], attributes := #[] }
def k1m1 : Method := { name := "law", desc := "(IIII)Z", sig := { parameters := [.int, .int, .int, .int], returnType := some .boolean }, accessFlags := 9, code := some k1c1 }
/-- com/example/uketsuke/uketsuke/server/channel/EnginePacketBinaryMessagePinLaw -/
def k1 : Class := { plain "com/example/uketsuke/uketsuke/server/channel/EnginePacketBinaryMessagePinLaw" (some 0) with
  accessFlags := 49
  interfaces := #[]
  cf := some (fileOf pool1 31 #[] #[{ accessFlags := 1, nameIndex := 5, descriptorIndex := 6, attributes := #[] }, { accessFlags := 9, nameIndex := 35, descriptorIndex := 36, attributes := #[] }] 49 2 #[] #[])
  fields := #[]
  methods := #[k1m0, k1m1]
  instanceTypes := #[]
  staticTypes := #[]
  resolved := Array.replicate 44 none
  statics := none }

def pool2 : Array CpInfo := pool [(1, .methodref 2 3), (0, .class_ 4), (0, .nameAndType 5 6), (0, u "java/lang/Object"), (0, u "<init>"), (0, u "()V"), (0, .class_ 8), (0, u "java/lang/Record")] 13

def k2c0 : Code := { maxStack := 1, maxLocals := 1, code := jdk_30_method_1_code, exceptionTable := #[], attributes := #[] }
def k2m0 : Method := { name := "<init>", desc := "()V", sig := { parameters := [], returnType := none }, accessFlags := 4, code := some k2c0 }
/-- java/lang/Record -/
def k2 : Class := { plain "java/lang/Record" (some 0) with
  accessFlags := 1057
  interfaces := #[]
  cf := some (fileOf pool2 7 #[] #[{ accessFlags := 4, nameIndex := 5, descriptorIndex := 6, attributes := #[] }] 1057 2 #[] #[])
  fields := #[]
  methods := #[k2m0]
  instanceTypes := #[]
  staticTypes := #[]
  resolved := Array.replicate 22 none
  statics := none }

def pool3 : Array CpInfo := pool [(1, .methodref 2 3), (0, .class_ 4), (0, .nameAndType 5 6), (0, u "java/lang/Record"), (0, u "<init>"), (0, u "()V"), (0, .fieldref 8 9), (0, .class_ 10), (0, .nameAndType 11 12), (0, u "com/example/uketsuke/uketsuke/server/channel/EnginePacket"), (0, u "type"), (0, u "Lcom/example/uketsuke/uketsuke/server/channel/EnginePacket$Type;"), (0, .fieldref 8 14), (0, .nameAndType 15 16), (0, u "text"), (0, u "Ljava/lang/String;"), (0, .fieldref 8 18), (0, .nameAndType 19 20), (0, u "binary"), (0, u "[B"), (0, .fieldref 22 23), (0, .class_ 24), (0, .nameAndType 25 12), (0, u "com/example/uketsuke/uketsuke/server/channel/EnginePacket$Type"), (0, u "MESSAGE"), (0, .methodref 8 27), (0, .nameAndType 5 28), (0, u "(Lcom/example/uketsuke/uketsuke/server/channel/EnginePacket$Type;Ljava/lang/String;[B)V"), (34, u "binaryMessage"), (0, u "([B)Lcom/example/uketsuke/uketsuke/server/channel/EnginePacket;"), (49, u "SEPARATOR"), (1, u "BINARY_MARK"), (0, u "C"), (14, u "()Ljava/lang/String;"), (1, u "()Lcom/example/uketsuke/uketsuke/server/channel/EnginePacket$Type;"), (0, u "()[B")] 25

def k3c0 : Code := { maxStack := 2, maxLocals := 4, code := prog_72_method_1_code, exceptionTable := #[], attributes := #[] }
def k3m0 : Method := { name := "<init>", desc := "(Lcom/example/uketsuke/uketsuke/server/channel/EnginePacket$Type;Ljava/lang/String;[B)V", sig := { parameters := [(.object "com/example/uketsuke/uketsuke/server/channel/EnginePacket$Type"), (.object "java/lang/String"), (.array .byte)], returnType := none }, accessFlags := 0, code := some k3c0 }
def k3c1 : Code := { maxStack := 5, maxLocals := 1, code := prog_72_method_2_code, exceptionTable := #[], attributes := #[] }
def k3m1 : Method := { name := "binaryMessage", desc := "([B)Lcom/example/uketsuke/uketsuke/server/channel/EnginePacket;", sig := { parameters := [(.array .byte)], returnType := some (.object "com/example/uketsuke/uketsuke/server/channel/EnginePacket") }, accessFlags := 8, code := some k3c1 }
def k3c2 : Code := { maxStack := 1, maxLocals := 1, code := prog_72_method_9_code, exceptionTable := #[], attributes := #[] }
def k3m2 : Method := { name := "type", desc := "()Lcom/example/uketsuke/uketsuke/server/channel/EnginePacket$Type;", sig := { parameters := [], returnType := some (.object "com/example/uketsuke/uketsuke/server/channel/EnginePacket$Type") }, accessFlags := 1, code := some k3c2 }
def k3c3 : Code := { maxStack := 1, maxLocals := 1, code := prog_72_method_10_code, exceptionTable := #[], attributes := #[] }
def k3m3 : Method := { name := "text", desc := "()Ljava/lang/String;", sig := { parameters := [], returnType := some (.object "java/lang/String") }, accessFlags := 1, code := some k3c3 }
def k3c4 : Code := { maxStack := 1, maxLocals := 1, code := prog_72_method_11_code, exceptionTable := #[], attributes := #[] }
def k3m4 : Method := { name := "binary", desc := "()[B", sig := { parameters := [], returnType := some (.array .byte) }, accessFlags := 1, code := some k3c4 }
/-- com/example/uketsuke/uketsuke/server/channel/EnginePacket -/
def k3 : Class := { plain "com/example/uketsuke/uketsuke/server/channel/EnginePacket" (some 2) with
  accessFlags := 48
  interfaces := #[]
  cf := some (fileOf pool3 8 #[.nestMembers #[22]] #[{ accessFlags := 0, nameIndex := 5, descriptorIndex := 28, attributes := #[] }, { accessFlags := 8, nameIndex := 63, descriptorIndex := 64, attributes := #[] }, { accessFlags := 1, nameIndex := 11, descriptorIndex := 134, attributes := #[] }, { accessFlags := 1, nameIndex := 15, descriptorIndex := 132, attributes := #[] }, { accessFlags := 1, nameIndex := 19, descriptorIndex := 135, attributes := #[] }] 48 2 #[] #[{ accessFlags := 18, nameIndex := 11, descriptorIndex := 12, attributes := #[] }, { accessFlags := 18, nameIndex := 15, descriptorIndex := 16, attributes := #[] }, { accessFlags := 18, nameIndex := 19, descriptorIndex := 20, attributes := #[] }, { accessFlags := 24, nameIndex := 114, descriptorIndex := 16, attributes := #[] }, { accessFlags := 26, nameIndex := 116, descriptorIndex := 117, attributes := #[] }])
  fields := #[{ name := "type", type := (.object "com/example/uketsuke/uketsuke/server/channel/EnginePacket$Type"), accessFlags := 18, slot := 0, constantValue := 0 }, { name := "text", type := (.object "java/lang/String"), accessFlags := 18, slot := 1, constantValue := 0 }, { name := "binary", type := (.array .byte), accessFlags := 18, slot := 2, constantValue := 0 }, { name := "SEPARATOR", type := (.object "java/lang/String"), accessFlags := 24, slot := 0, constantValue := 0 }, { name := "BINARY_MARK", type := .char, accessFlags := 26, slot := 1, constantValue := 0 }]
  methods := #[k3m0, k3m1, k3m2, k3m3, k3m4]
  instanceTypes := #[(.object "com/example/uketsuke/uketsuke/server/channel/EnginePacket$Type"), (.object "java/lang/String"), (.array .byte)]
  staticTypes := #[(.object "java/lang/String"), .char]
  resolved := Array.replicate 161 none
  statics := none }

def pool4 : Array CpInfo := pool [(1, .class_ 2), (0, u "java/lang/constant/Constable"), (0, .class_ 4), (0, u "java/lang/Object")] 6

/-- java/lang/constant/Constable -/
def k4 : Class := { plain "java/lang/constant/Constable" (some 0) with
  accessFlags := 1537
  interfaces := #[]
  cf := some (fileOf pool4 1 #[] #[] 1537 3 #[] #[])
  fields := #[]
  methods := #[]
  instanceTypes := #[]
  staticTypes := #[]
  resolved := Array.replicate 11 none
  statics := none }

def pool5 : Array CpInfo := pool [(1, .class_ 2), (0, u "java/lang/Comparable"), (0, .class_ 4), (0, u "java/lang/Object")] 7

/-- java/lang/Comparable -/
def k5 : Class := { plain "java/lang/Comparable" (some 0) with
  accessFlags := 1537
  interfaces := #[]
  cf := some (fileOf pool5 1 #[] #[] 1537 3 #[] #[])
  fields := #[]
  methods := #[]
  instanceTypes := #[]
  staticTypes := #[]
  resolved := Array.replicate 12 none
  statics := none }

def pool6 : Array CpInfo := pool [(1, .class_ 2), (0, u "java/io/Serializable"), (0, .class_ 4), (0, u "java/lang/Object")] 2

/-- java/io/Serializable -/
def k6 : Class := { plain "java/io/Serializable" (some 0) with
  accessFlags := 1537
  interfaces := #[]
  cf := some (fileOf pool6 1 #[] #[] 1537 3 #[] #[])
  fields := #[]
  methods := #[]
  instanceTypes := #[]
  staticTypes := #[]
  resolved := Array.replicate 7 none
  statics := none }

def pool7 : Array CpInfo := pool [(2, .class_ 4), (1, u "java/lang/Enum"), (0, u "name"), (0, u "Ljava/lang/String;"), (2, u "ordinal"), (0, u "I"), (1, .class_ 14), (1, u "java/lang/Object"), (4, u "hash"), (86, .class_ 108), (1, u "java/lang/Enum$EnumDesc"), (2, .class_ 112), (0, u "java/lang/constant/Constable"), (0, .class_ 114), (0, u "java/lang/Comparable"), (0, .class_ 116), (0, u "java/io/Serializable")] 87

/-- java/lang/Enum -/
def k7 : Class := { plain "java/lang/Enum" (some 0) with
  accessFlags := 1057
  interfaces := #[4, 5, 6]
  cf := some (fileOf pool7 2 #[.nestMembers #[106]] #[] 1057 12 #[111, 113, 115] #[{ accessFlags := 18, nameIndex := 5, descriptorIndex := 6, attributes := #[] }, { accessFlags := 18, nameIndex := 9, descriptorIndex := 10, attributes := #[] }, { accessFlags := 2, nameIndex := 19, descriptorIndex := 10, attributes := #[] }])
  fields := #[{ name := "name", type := (.object "java/lang/String"), accessFlags := 18, slot := 0, constantValue := 0 }, { name := "ordinal", type := .int, accessFlags := 18, slot := 1, constantValue := 0 }, { name := "hash", type := .int, accessFlags := 2, slot := 2, constantValue := 0 }]
  methods := #[]
  instanceTypes := #[(.object "java/lang/String"), .int, .int]
  staticTypes := #[]
  resolved := Array.replicate 204 none
  statics := none }

def pool8 : Array CpInfo := pool [(1, .class_ 2), (0, u "com/example/uketsuke/uketsuke/server/channel/EnginePacket$Type"), (2, u "OPEN"), (0, u "Lcom/example/uketsuke/uketsuke/server/channel/EnginePacket$Type;"), (2, u "CLOSE"), (2, u "PING"), (2, u "PONG"), (2, u "MESSAGE"), (2, u "UPGRADE"), (2, u "NOOP"), (2, u "$VALUES"), (0, u "[Lcom/example/uketsuke/uketsuke/server/channel/EnginePacket$Type;"), (6, .class_ 37), (1, u "java/lang/Enum"), (45, .class_ 84), (0, u "com/example/uketsuke/uketsuke/server/channel/EnginePacket")] 16

/-- com/example/uketsuke/uketsuke/server/channel/EnginePacket$Type -/
def k8 : Class := { plain "com/example/uketsuke/uketsuke/server/channel/EnginePacket$Type" (some 7) with
  accessFlags := 16432
  interfaces := #[]
  cf := some (fileOf pool8 1 #[.nestHost 83] #[] 16432 35 #[] #[{ accessFlags := 16409, nameIndex := 5, descriptorIndex := 6, attributes := #[] }, { accessFlags := 16409, nameIndex := 9, descriptorIndex := 6, attributes := #[] }, { accessFlags := 16409, nameIndex := 12, descriptorIndex := 6, attributes := #[] }, { accessFlags := 16409, nameIndex := 15, descriptorIndex := 6, attributes := #[] }, { accessFlags := 16409, nameIndex := 18, descriptorIndex := 6, attributes := #[] }, { accessFlags := 16409, nameIndex := 21, descriptorIndex := 6, attributes := #[] }, { accessFlags := 16409, nameIndex := 24, descriptorIndex := 6, attributes := #[] }, { accessFlags := 4122, nameIndex := 27, descriptorIndex := 28, attributes := #[] }])
  fields := #[{ name := "OPEN", type := (.object "com/example/uketsuke/uketsuke/server/channel/EnginePacket$Type"), accessFlags := 16409, slot := 0, constantValue := 0 }, { name := "CLOSE", type := (.object "com/example/uketsuke/uketsuke/server/channel/EnginePacket$Type"), accessFlags := 16409, slot := 1, constantValue := 0 }, { name := "PING", type := (.object "com/example/uketsuke/uketsuke/server/channel/EnginePacket$Type"), accessFlags := 16409, slot := 2, constantValue := 0 }, { name := "PONG", type := (.object "com/example/uketsuke/uketsuke/server/channel/EnginePacket$Type"), accessFlags := 16409, slot := 3, constantValue := 0 }, { name := "MESSAGE", type := (.object "com/example/uketsuke/uketsuke/server/channel/EnginePacket$Type"), accessFlags := 16409, slot := 4, constantValue := 0 }, { name := "UPGRADE", type := (.object "com/example/uketsuke/uketsuke/server/channel/EnginePacket$Type"), accessFlags := 16409, slot := 5, constantValue := 0 }, { name := "NOOP", type := (.object "com/example/uketsuke/uketsuke/server/channel/EnginePacket$Type"), accessFlags := 16409, slot := 6, constantValue := 0 }, { name := "$VALUES", type := (.array (.object "com/example/uketsuke/uketsuke/server/channel/EnginePacket$Type")), accessFlags := 4122, slot := 7, constantValue := 0 }]
  methods := #[]
  instanceTypes := #[(.object "java/lang/String"), .int, .int]
  staticTypes := #[(.object "com/example/uketsuke/uketsuke/server/channel/EnginePacket$Type"), (.object "com/example/uketsuke/uketsuke/server/channel/EnginePacket$Type"), (.object "com/example/uketsuke/uketsuke/server/channel/EnginePacket$Type"), (.object "com/example/uketsuke/uketsuke/server/channel/EnginePacket$Type"), (.object "com/example/uketsuke/uketsuke/server/channel/EnginePacket$Type"), (.object "com/example/uketsuke/uketsuke/server/channel/EnginePacket$Type"), (.object "com/example/uketsuke/uketsuke/server/channel/EnginePacket$Type"), (.array (.object "com/example/uketsuke/uketsuke/server/channel/EnginePacket$Type"))]
  resolved := Array.replicate 101 none
  statics := some 0 }

def pool9 : Array CpInfo := pool [(1, u "java/lang/Cloneable"), (0, .class_ 1), (0, u "java/lang/Object"), (0, .class_ 3)] 3

/-- java/lang/Cloneable -/
def k9 : Class := { plain "java/lang/Cloneable" (some 0) with
  accessFlags := 1537
  interfaces := #[]
  cf := some (fileOf pool9 2 #[] #[] 1537 4 #[] #[])
  fields := #[]
  methods := #[]
  instanceTypes := #[]
  staticTypes := #[]
  resolved := Array.replicate 8 none
  statics := none }

/-- the primitive byte -/
def k10 : Class := { plain "byte" none with kind := .primitive 'B', accessFlags := 0x411 }
/-- [B -/
def k11 : Class := { plain "[B" (some 0) with kind := .array 10 .byte, interfaces := #[9, 6], accessFlags := 1041 }

/-- the primitive int -/
def k12 : Class := { plain "int" none with kind := .primitive 'I', accessFlags := 0x411 }
/-- [I -/
def k13 : Class := { plain "[I" (some 0) with kind := .array 12 .int, interfaces := #[9, 6], accessFlags := 1041 }

def heap : Heap := #[{ cls := 8, slots := #[.null, .null, .null, .null, .ref 1, .null, .null, .null], vm := .statics 8 },
  { cls := 8, slots := #[.null, .int 4, .int 0], vm := .none }]
def classes : Array Class := #[k0, k1, k2, k3, k4, k5, k6, k7, k8, k9, k10, k11, k12, k13]
def interned : List (Array UInt16 × Addr) := []
def slotsUsed : Nat := 11
def theMethod : MethodId := ⟨1, 1⟩
def args0 : Array Value := #[.int 5, .int 6, .int 7, .int 8]
def aboutOver (below : List Frame) : State where
  vm := { classes := classes, interned := interned.toArray }
  heap := heap
  slotsUsed := slotsUsed
  threads := #[{ frames := .invoking theMethod args0 :: below }]
def below0 : List Frame := [.native { method := ⟨0, 0⟩, args := #[] }]
def about1 : State := aboutOver below0
def p0 : Program := .bare "" "" ""
def e0 : Env := launch0.env 0 0 0
theorem w_frames : about1.frames = Frame.invoking theMethod args0 :: below0 := rfl
set_option maxRecDepth 65536 in
theorem w_args : argsFit about1.vm theMethod args0 = true := by decide +kernel
set_option maxRecDepth 65536 in
theorem w_heap : heapFits about1 = true := by decide +kernel
set_option maxRecDepth 65536 in
theorem w_runnable : about1.curStatus? = some .runnable := by decide +kernel
set_option maxRecDepth 65536 in
theorem w_alone : about1.alone = true := by decide +kernel
set_option maxRecDepth 65536 in
theorem w_named : about1.methodNamed? x = some theMethod := by decide +kernel
set_option maxRecDepth 65536 in
theorem w_hears : about1.hears theMethod below0 = true := by decide +kernel
set_option maxRecDepth 65536 in
theorem w_ripe : about1.ripe theMethod args0 below0 = true := by decide +kernel
theorem w_running : about1.status = .running := rfl
set_option maxRecDepth 65536 in
theorem w_room : about1.hasRoom e0.platform room_1 = true :=
  launch0.hasRoom_least _ room_1 (by decide +kernel) (by decide +kernel) (by decide +kernel) (by decide +kernel) (by decide +kernel) (by decide +kernel)
theorem allAtoms_all (ts : List Jvm.Cond) (a : Array Jvm.Value) (st : Jvm.State) : (allAtoms ts).before a st = ts.all (fun c => c.before a st) := by
  induction ts with
  | nil => rfl
  | cons c t ih =>
    show (Jvm.Cond.and c (allAtoms t)).before a st = _
    rw [Jvm.Cond.before_and, ih, List.all_cons]
def words1 : List Jvm.Cond := Jvm.Cond.code x code maxLocals ret :: tables_1
/-- a 'code' word, met by the world's own term for the bytes: nothing is compared byte by byte -/
theorem code_word {y : MethodName} {bytes : ByteArray} {mx : Nat} {rt : Option FieldType} {a : Array Value} {s : State} {m : MethodId} {meth : Method} {c : Code} (h1 : s.methodNamed? y = some m) (h2 : s.vm.method? m = some meth) (h3 : meth.code = some c) (h4 : c.code = bytes)
    (h5 : (c.maxLocals == mx && c.exceptionTable.isEmpty && decide (c.maxStack ≤ mostOperands) && decide (meth.sig.returnType = rt) && !meth.locks && decide (parseMethodDescriptor y.desc = some meth.sig)) = true) : (Jvm.Cond.code y bytes mx rt).before a s = true := by
  simp only [Bool.and_eq_true, beq_iff_eq, Bool.not_eq_true', decide_eq_true_eq] at h5
  obtain ⟨⟨⟨⟨⟨g1, g2⟩, g3⟩, g4⟩, g5⟩, g6⟩ := h5
  simp [Cond.before, Cond.holds, Cond.value, h1, h2, h3, h4, g1, g2, g3, g4, g5, g6]
def isCode : Jvm.Cond → Bool
  | .code _ _ _ _ => true
  | _ => false
theorem all_split {L : List Jvm.Cond} {P : Jvm.Cond → Bool} (h1 : L.all (fun c => isCode c || P c) = true) (h2 : ∀ c ∈ L.filter isCode, P c = true) : L.all P = true := by
  refine List.all_eq_true.mpr fun c hc => ?_
  have h := List.all_eq_true.mp h1 c hc
  rcases Bool.eq_false_or_eq_true (isCode c) with hi | hi
  · exact h2 c (List.mem_filter.mpr ⟨hc, hi⟩)
  · simpa [hi] using h
set_option maxRecDepth 65536 in
theorem w_c0 : (Jvm.Cond.code x code maxLocals ret).before args0 about1 = true := code_word (m := ⟨1, 1⟩) (meth := k1m1) (c := k1c1) (by decide +kernel) rfl rfl rfl (by decide +kernel)
set_option maxRecDepth 65536 in
theorem w_c1 : (Jvm.Cond.code ({ cls := "com/example/uketsuke/uketsuke/server/channel/EnginePacket", name := "binaryMessage", desc := "([B)Lcom/example/uketsuke/uketsuke/server/channel/EnginePacket;" } : Jvm.MethodName) prog_72_method_2_code (1 : Nat) (Option.some (Jvm.ClassFile.FieldType.object "com/example/uketsuke/uketsuke/server/channel/EnginePacket"))).before args0 about1 = true := code_word (m := ⟨3, 1⟩) (meth := k3m1) (c := k3c1) (by decide +kernel) rfl rfl rfl (by decide +kernel)
set_option maxRecDepth 65536 in
theorem w_c2 : (Jvm.Cond.code ({ cls := "com/example/uketsuke/uketsuke/server/channel/EnginePacket", name := "<init>", desc := "(Lcom/example/uketsuke/uketsuke/server/channel/EnginePacket$Type;Ljava/lang/String;[B)V" } : Jvm.MethodName) prog_72_method_1_code (4 : Nat) (Option.none : Option Jvm.ClassFile.FieldType)).before args0 about1 = true := code_word (m := ⟨3, 0⟩) (meth := k3m0) (c := k3c0) (by decide +kernel) rfl rfl rfl (by decide +kernel)
set_option maxRecDepth 65536 in
theorem w_c3 : (Jvm.Cond.code ({ cls := "java/lang/Record", name := "<init>", desc := "()V" } : Jvm.MethodName) jdk_30_method_1_code (1 : Nat) (Option.none : Option Jvm.ClassFile.FieldType)).before args0 about1 = true := code_word (m := ⟨2, 0⟩) (meth := k2m0) (c := k2c0) (by decide +kernel) rfl rfl rfl (by decide +kernel)
set_option maxRecDepth 65536 in
theorem w_c4 : (Jvm.Cond.code ({ cls := "java/lang/Object", name := "<init>", desc := "()V" } : Jvm.MethodName) object_method_1_code (1 : Nat) (Option.none : Option Jvm.ClassFile.FieldType)).before args0 about1 = true := code_word (m := ⟨0, 0⟩) (meth := k0m0) (c := k0c0) (by decide +kernel) rfl rfl rfl (by decide +kernel)
set_option maxRecDepth 65536 in
theorem w_c5 : (Jvm.Cond.code ({ cls := "com/example/uketsuke/uketsuke/server/channel/EnginePacket", name := "type", desc := "()Lcom/example/uketsuke/uketsuke/server/channel/EnginePacket$Type;" } : Jvm.MethodName) prog_72_method_9_code (1 : Nat) (Option.some (Jvm.ClassFile.FieldType.object "com/example/uketsuke/uketsuke/server/channel/EnginePacket$Type"))).before args0 about1 = true := code_word (m := ⟨3, 2⟩) (meth := k3m2) (c := k3c2) (by decide +kernel) rfl rfl rfl (by decide +kernel)
set_option maxRecDepth 65536 in
theorem w_c6 : (Jvm.Cond.code ({ cls := "com/example/uketsuke/uketsuke/server/channel/EnginePacket", name := "text", desc := "()Ljava/lang/String;" } : Jvm.MethodName) prog_72_method_10_code (1 : Nat) (Option.some (Jvm.ClassFile.FieldType.object "java/lang/String"))).before args0 about1 = true := code_word (m := ⟨3, 3⟩) (meth := k3m3) (c := k3c3) (by decide +kernel) rfl rfl rfl (by decide +kernel)
set_option maxRecDepth 65536 in
theorem w_c7 : (Jvm.Cond.code ({ cls := "com/example/uketsuke/uketsuke/server/channel/EnginePacket", name := "binary", desc := "()[B" } : Jvm.MethodName) prog_72_method_11_code (1 : Nat) (Option.some (Jvm.ClassFile.FieldType.array Jvm.ClassFile.FieldType.byte))).before args0 about1 = true := code_word (m := ⟨3, 4⟩) (meth := k3m4) (c := k3c4) (by decide +kernel) rfl rfl rfl (by decide +kernel)
def codes1 : List Jvm.Cond := [Jvm.Cond.code x code maxLocals ret, Jvm.Cond.code ({ cls := "com/example/uketsuke/uketsuke/server/channel/EnginePacket", name := "binaryMessage", desc := "([B)Lcom/example/uketsuke/uketsuke/server/channel/EnginePacket;" } : Jvm.MethodName) prog_72_method_2_code (1 : Nat) (Option.some (Jvm.ClassFile.FieldType.object "com/example/uketsuke/uketsuke/server/channel/EnginePacket")), Jvm.Cond.code ({ cls := "com/example/uketsuke/uketsuke/server/channel/EnginePacket", name := "<init>", desc := "(Lcom/example/uketsuke/uketsuke/server/channel/EnginePacket$Type;Ljava/lang/String;[B)V" } : Jvm.MethodName) prog_72_method_1_code (4 : Nat) (Option.none : Option Jvm.ClassFile.FieldType), Jvm.Cond.code ({ cls := "java/lang/Record", name := "<init>", desc := "()V" } : Jvm.MethodName) jdk_30_method_1_code (1 : Nat) (Option.none : Option Jvm.ClassFile.FieldType), Jvm.Cond.code ({ cls := "java/lang/Object", name := "<init>", desc := "()V" } : Jvm.MethodName) object_method_1_code (1 : Nat) (Option.none : Option Jvm.ClassFile.FieldType), Jvm.Cond.code ({ cls := "com/example/uketsuke/uketsuke/server/channel/EnginePacket", name := "type", desc := "()Lcom/example/uketsuke/uketsuke/server/channel/EnginePacket$Type;" } : Jvm.MethodName) prog_72_method_9_code (1 : Nat) (Option.some (Jvm.ClassFile.FieldType.object "com/example/uketsuke/uketsuke/server/channel/EnginePacket$Type")), Jvm.Cond.code ({ cls := "com/example/uketsuke/uketsuke/server/channel/EnginePacket", name := "text", desc := "()Ljava/lang/String;" } : Jvm.MethodName) prog_72_method_10_code (1 : Nat) (Option.some (Jvm.ClassFile.FieldType.object "java/lang/String")), Jvm.Cond.code ({ cls := "com/example/uketsuke/uketsuke/server/channel/EnginePacket", name := "binary", desc := "()[B" } : Jvm.MethodName) prog_72_method_11_code (1 : Nat) (Option.some (Jvm.ClassFile.FieldType.array Jvm.ClassFile.FieldType.byte))]
set_option maxRecDepth 65536 in
theorem codes_eq : words1.filter isCode = codes1 := rfl
theorem w_codes : ∀ c ∈ words1.filter isCode, c.before args0 about1 = true := by
  rw [codes_eq]
  intro c hc
  simp only [codes1, List.mem_cons, List.not_mem_nil, or_false] at hc
  rcases hc with rfl | rfl | rfl | rfl | rfl | rfl | rfl | rfl
  · exact w_c0
  · exact w_c1
  · exact w_c2
  · exact w_c3
  · exact w_c4
  · exact w_c5
  · exact w_c6
  · exact w_c7
set_option maxRecDepth 65536 in
theorem w_t1 : (words1.take 24).all (fun c => isCode c || c.before args0 about1) = true := by decide +kernel
set_option maxRecDepth 65536 in
theorem w_t2 : (words1.drop 24).all (fun c => isCode c || c.before args0 about1) = true := by decide +kernel
theorem w_tables : (allAtoms (Jvm.Cond.code x code maxLocals ret :: tables_1)).before args0 about1 = true := by
  rw [allAtoms_all]
  show words1.all (fun c => c.before args0 about1) = true
  refine all_split ?_ w_codes
  rw [← List.take_append_drop 24 words1, List.all_append, w_t1, w_t2]
  rfl
set_option maxRecDepth 65536 in
theorem w_case : (Jvm.Cond.and given_1 narrow_1).before args0 about1 = true := by decide +kernel
theorem w_applies : (headSpec (Jvm.Cond.code x code maxLocals ret :: tables_1) room_1).applies x e0.platform about1 = true :=
  (Spec.applies_iff w_frames).mpr ⟨w_running, w_runnable, w_alone, w_named, w_hears, w_ripe, w_room, w_tables⟩
theorem atStart : AtStart classFile x code maxLocals ret World_1 tables_1 room_1 Calls_1 rest_1 Pre_1 launch0 p0 e0 about1 theMethod args0 below0 :=
  ⟨lists_1, trivial, launch0.admits_env _ _ _, launch0.least_env, fairChoices_fair.cas, fairChoices_fair.clock, w_frames, w_args, w_heap, w_applies, trivial, trivial, w_case⟩
end start1
theorem witness_1 : WitnessClaimed_1 := ⟨start1.p0, start1.e0, start1.about1, start1.theMethod, start1.args0, start1.below0, start1.atStart⟩
end Jvm.Pilot.@@N@@
