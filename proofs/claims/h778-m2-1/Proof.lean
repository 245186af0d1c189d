import JvmDerived
import JvmDerived.Pilot.@@N@@Statement
import JvmDerived.Pilot.@@N@@Code
set_option linter.unusedVariables false
set_option linter.unusedSimpArgs false

namespace Jvm.Pilot.@@N@@
open Jvm Jvm.ClassFile Sem Op Lib Jvm.Free Jvm.Stand Jvm.LawKit Jvm.RoadKit Bundle Jvm.Pilot.@@N@@.Jvm.D
/-! MY OWN LAYER: the walk in continuation form -/
abbrev Bx : Type := Program × Launch × Env × Room × State × MethodId × Array Value × List Frame × Method × Code
def De (b : ByteArray) (pc : Nat) (i : Instr) (k n : Nat) : Prop := decode b pc = .ok (i, k) ∧ pc + k = n
def Go (B : Bx) (n0 : Nat) (Q : Option Value → Heap → Prop) (h : Heap) (ce sl pc : Nat) (Ls : Array Slot) (S : List Value) : Prop :=
  match B with
  | (p, l, e, R, s, m, args, below, meth, c) => ∀ (T : State) (locs : List Loc), Stand p l e R s m args below meth c T locs ce sl → T.heap = h → Fr n0 locs →
    ∃ s₂ o, Steps p.tables e below (T.setTop (mkF m pc Ls S)) s₂ ∧ s₂.status = .running ∧ Ended s₂ below o ∧ ∃ (v : Option Value) (L : List Loc), o = .returned v ∧ (Q v s₂.heap ∧ Fr n0 L) ∧ FrameEnd s o s₂ L R.cells R.slots
def Cx (B : Bx) (l0 : Launch) (Z : State) (a0 : Array Value) (R0 : Room) (y : MethodName) (b : ByteArray) (mx : Nat) (rt : Option FieldType) : Prop :=
  match B with
  | (p, l, e, R, s, m, args, below, meth, c) => l = l0 ∧ R = R0 ∧ p.tables.exec = Jvm.exec ∧ c.code = b ∧ c.maxLocals = mx ∧ s.vm.findClass y.cls = some m.cls ∧ meth.name = y.name ∧ meth.sig.returnType = rt ∧ meth.locks = false ∧ Z.Warmed39 s.vm ∧ ∀ d ∈ tables_1, d.before a0 Z = true
def QQ (n0 : Nat) (Q : Option Value → Heap → Prop) (v : Option Value) (h : Heap) (L : List Loc) : Prop := Q v h ∧ Fr n0 L
def Pays (l : Launch) (Z : State) (y : MethodName) (b : ByteArray) (mx : Nat) (rt : Option FieldType) (rm : Room) (as' : Array Value) (n0 : Nat) (h0 : Heap) (Q : Option Value → Heap → Prop) : Prop :=
  ∀ ws : List Jvm.Cond, MetFree l y (head1 (Jvm.Cond.code y b mx rt :: ws) rm) (fun a U => a = as' ∧ Z.Warmed39 U.vm ∧ U.heap = h0) (fun _ _ _ _ _ => True) (fun _ U o U' => ∃ v L, o = .returned v ∧ QQ n0 Q v U'.heap L ∧ FrameEnd U o U' L rm.cells rm.slots)
section Flow
variable {B : Bx} {n0 : Nat} {Q : Option Value → Heap → Prop} {h : Heap} {ce sl pc n : Nat} {Ls Ls' : Array Slot} {S S' : List Value} {l : Launch} {Z : State} {a0 : Array Value} {R : Room} {y : MethodName} {b : ByteArray} {mx : Nat} {rt : Option FieldType}
theorem Pays.mono {rm : Room} {as' : Array Value} {Q' : Option Value → Heap → Prop} (hM : Pays l Z y b mx rt rm as' n0 h Q) (hq : ∀ v h, Q v h → Q' v h) : Pays l Z y b mx rt rm as' n0 h Q' := by
  intro ws p e ha hc hk s m args below hf happ hP hK
  obtain ⟨k, o, h1, h2, h3, v, L, h4, h5, h6⟩ := hM ws p e ha hc hk s m args below hf happ hP hK
  exact ⟨k, o, h1, h2, h3, v, L, h4, ⟨hq _ _ h5.1, h5.2⟩, h6⟩
theorem Pays.of (hw : ∀ d ∈ tables_1, d.before a0 Z = true) (hp : plainFor y = true) {rm : Room} {as' : Array Value} (ef : ∀ m, entryFrame m as' mx = mkF m 0 Ls []) (hb : ∀ B, Cx B l Z a0 rm y b mx rt → Go B n0 Q h 0 0 0 Ls []) : Pays l Z y b mx rt rm as' n0 h Q := by
  intro ws
  refine MetFree.of_bodySF hp hisR ?_
  intro p e s m args below meth c s₁ Bd hml0 hP hK
  obtain ⟨rfl, hZ, hh⟩ := hP
  have X0 : Stand p l e rm s m args below meth c s₁ [] 0 0 := Stand.of_body Bd
  have e0 : s₁.heap = h := by rw [← hh, Bd.state]; rfl
  obtain ⟨s₂, o, st, r1, r2, v, L, r3, r4, r5⟩ := hb (p, l, e, rm, s, m, args, below, meth, c) ⟨rfl, rfl, Bd.exec, Bd.bytes, hml0, findClass_of_methodNamed Bd.named, (name_of_methodNamed Bd.named Bd.method).1, Bd.returns, BodyLoose.notSynchronized Bd, hZ, hw⟩ s₁ [] X0 e0 (Fr.nil n0)
  exact ⟨s₂, o, castTop (ef m) st, r1, r2, v, L, r3, r4, r5⟩
theorem iAloadN (C : Cx B l Z a0 R y b mx rt) {k : Fin 4} {v : Value} (hd : De b pc (.aload_n k) 1 n) (hl : Ls[k.val]? = some (.val v)) (hv : v.isRef = true) (K : Go B n0 Q h ce sl n Ls (v :: S)) : Go B n0 Q h ce sl pc Ls (S) := by
  obtain ⟨p, l', e, R', s, m, args, below, meth, c⟩ := B
  obtain ⟨rfl, rfl, hx, rfl, hml, hown, hnm, hret, hlk, hZ, hw⟩ := C
  intro T locs X eT N
  obtain ⟨hd, rfl⟩ := hd
  obtain ⟨s₂, o, st, r⟩ := K T locs X eT N
  exact ⟨s₂, o, XS.aloadN X.here hx rfl hd hl hv st, r⟩
theorem iAload (C : Cx B l Z a0 R y b mx rt) {k : Nat} {v : Value} (hd : De b pc (.aload k) 2 n) (hl : Ls[k]? = some (.val v)) (hv : v.isRef = true) (K : Go B n0 Q h ce sl n Ls (v :: S)) : Go B n0 Q h ce sl pc Ls (S) := by
  obtain ⟨p, l', e, R', s, m, args, below, meth, c⟩ := B
  obtain ⟨rfl, rfl, hx, rfl, hml, hown, hnm, hret, hlk, hZ, hw⟩ := C
  intro T locs X eT N
  obtain ⟨hd, rfl⟩ := hd
  obtain ⟨s₂, o, st, r⟩ := K T locs X eT N
  exact ⟨s₂, o, XS.aload X.here hx rfl hd hl hv st, r⟩
theorem iIloadN (C : Cx B l Z a0 R y b mx rt) {k : Fin 4} {v : Int32} (hd : De b pc (.iload_n k) 1 n) (hl : Ls[k.val]? = some (.val (.int v))) (K : Go B n0 Q h ce sl n Ls (.int v :: S)) : Go B n0 Q h ce sl pc Ls (S) := by
  obtain ⟨p, l', e, R', s, m, args, below, meth, c⟩ := B
  obtain ⟨rfl, rfl, hx, rfl, hml, hown, hnm, hret, hlk, hZ, hw⟩ := C
  intro T locs X eT N
  obtain ⟨hd, rfl⟩ := hd
  obtain ⟨s₂, o, st, r⟩ := K T locs X eT N
  exact ⟨s₂, o, XS.iloadN X.here hx rfl hd hl st, r⟩
theorem iIload (C : Cx B l Z a0 R y b mx rt) {k : Nat} {v : Int32} (hd : De b pc (.iload k) 2 n) (hl : Ls[k]? = some (.val (.int v))) (K : Go B n0 Q h ce sl n Ls (.int v :: S)) : Go B n0 Q h ce sl pc Ls (S) := by
  obtain ⟨p, l', e, R', s, m, args, below, meth, c⟩ := B
  obtain ⟨rfl, rfl, hx, rfl, hml, hown, hnm, hret, hlk, hZ, hw⟩ := C
  intro T locs X eT N
  obtain ⟨hd, rfl⟩ := hd
  obtain ⟨s₂, o, st, r⟩ := K T locs X eT N
  exact ⟨s₂, o, XS.iload X.here hx rfl hd hl st, r⟩
theorem iLloadN (C : Cx B l Z a0 R y b mx rt) {k : Fin 4} {v : Int64} (hd : De b pc (.lload_n k) 1 n) (hl : Ls[k.val]? = some (.val (.long v))) (K : Go B n0 Q h ce sl n Ls (.long v :: S)) : Go B n0 Q h ce sl pc Ls (S) := by
  obtain ⟨p, l', e, R', s, m, args, below, meth, c⟩ := B
  obtain ⟨rfl, rfl, hx, rfl, hml, hown, hnm, hret, hlk, hZ, hw⟩ := C
  intro T locs X eT N
  obtain ⟨hd, rfl⟩ := hd
  obtain ⟨s₂, o, st, r⟩ := K T locs X eT N
  exact ⟨s₂, o, XT.lloadN X.here hx rfl hd hl st, r⟩
theorem iLload (C : Cx B l Z a0 R y b mx rt) {k : Nat} {v : Int64} (hd : De b pc (.lload k) 2 n) (hl : Ls[k]? = some (.val (.long v))) (K : Go B n0 Q h ce sl n Ls (.long v :: S)) : Go B n0 Q h ce sl pc Ls (S) := by
  obtain ⟨p, l', e, R', s, m, args, below, meth, c⟩ := B
  obtain ⟨rfl, rfl, hx, rfl, hml, hown, hnm, hret, hlk, hZ, hw⟩ := C
  intro T locs X eT N
  obtain ⟨hd, rfl⟩ := hd
  obtain ⟨s₂, o, st, r⟩ := K T locs X eT N
  exact ⟨s₂, o, XT.lload X.here hx rfl hd hl st, r⟩
theorem iIconst (C : Cx B l Z a0 R y b mx rt) {i : Int} {v : Int32} (hd : De b pc (.iconst i) 1 n) (hv : Int32.ofInt i = v) (K : Go B n0 Q h ce sl n Ls (.int v :: S)) : Go B n0 Q h ce sl pc Ls (S) := by
  obtain ⟨p, l', e, R', s, m, args, below, meth, c⟩ := B
  obtain ⟨rfl, rfl, hx, rfl, hml, hown, hnm, hret, hlk, hZ, hw⟩ := C
  intro T locs X eT N
  obtain ⟨hd, rfl⟩ := hd
  subst hv
  obtain ⟨s₂, o, st, r⟩ := K T locs X eT N
  exact ⟨s₂, o, XS.iconst X.here hx rfl hd st, r⟩
theorem iBipush (C : Cx B l Z a0 R y b mx rt) {i : Int} {v : Int32} (hd : De b pc (.bipush i) 2 n) (hv : (Int8.ofInt i).toInt32 = v) (K : Go B n0 Q h ce sl n Ls (.int v :: S)) : Go B n0 Q h ce sl pc Ls (S) := by
  obtain ⟨p, l', e, R', s, m, args, below, meth, c⟩ := B
  obtain ⟨rfl, rfl, hx, rfl, hml, hown, hnm, hret, hlk, hZ, hw⟩ := C
  intro T locs X eT N
  obtain ⟨hd, rfl⟩ := hd
  subst hv
  obtain ⟨s₂, o, st, r⟩ := K T locs X eT N
  exact ⟨s₂, o, XS.bipush X.here hx rfl hd st, r⟩
theorem iSipush (C : Cx B l Z a0 R y b mx rt) {i : Int} {v : Int32} (hd : De b pc (.sipush i) 3 n) (hv : (Int16.ofInt i).toInt32 = v) (K : Go B n0 Q h ce sl n Ls (.int v :: S)) : Go B n0 Q h ce sl pc Ls (S) := by
  obtain ⟨p, l', e, R', s, m, args, below, meth, c⟩ := B
  obtain ⟨rfl, rfl, hx, rfl, hml, hown, hnm, hret, hlk, hZ, hw⟩ := C
  intro T locs X eT N
  obtain ⟨hd, rfl⟩ := hd
  subst hv
  obtain ⟨s₂, o, st, r⟩ := K T locs X eT N
  exact ⟨s₂, o, XS.sipush X.here hx rfl hd st, r⟩
theorem iNull (C : Cx B l Z a0 R y b mx rt)  (hd : De b pc (.aconst_null) 1 n) (K : Go B n0 Q h ce sl n Ls (.null :: S)) : Go B n0 Q h ce sl pc Ls (S) := by
  obtain ⟨p, l', e, R', s, m, args, below, meth, c⟩ := B
  obtain ⟨rfl, rfl, hx, rfl, hml, hown, hnm, hret, hlk, hZ, hw⟩ := C
  intro T locs X eT N
  obtain ⟨hd, rfl⟩ := hd
  obtain ⟨s₂, o, st, r⟩ := K T locs X eT N
  exact ⟨s₂, o, XS.aconstNull X.here hx rfl hd st, r⟩
theorem iIadd (C : Cx B l Z a0 R y b mx rt) {x z v : Int32} (hd : De b pc (.iadd) 1 n) (hv : x + z = v) (K : Go B n0 Q h ce sl n Ls (.int v :: S)) : Go B n0 Q h ce sl pc Ls (.int z :: .int x :: S) := by
  obtain ⟨p, l', e, R', s, m, args, below, meth, c⟩ := B
  obtain ⟨rfl, rfl, hx, rfl, hml, hown, hnm, hret, hlk, hZ, hw⟩ := C
  intro T locs X eT N
  obtain ⟨hd, rfl⟩ := hd
  subst hv
  obtain ⟨s₂, o, st, r⟩ := K T locs X eT N
  exact ⟨s₂, o, XS.iadd X.here hx rfl hd rfl st, r⟩
theorem iIsub (C : Cx B l Z a0 R y b mx rt) {x z v : Int32} (hd : De b pc (.isub) 1 n) (hv : x - z = v) (K : Go B n0 Q h ce sl n Ls (.int v :: S)) : Go B n0 Q h ce sl pc Ls (.int z :: .int x :: S) := by
  obtain ⟨p, l', e, R', s, m, args, below, meth, c⟩ := B
  obtain ⟨rfl, rfl, hx, rfl, hml, hown, hnm, hret, hlk, hZ, hw⟩ := C
  intro T locs X eT N
  obtain ⟨hd, rfl⟩ := hd
  subst hv
  obtain ⟨s₂, o, st, r⟩ := K T locs X eT N
  exact ⟨s₂, o, XS.isub X.here hx rfl hd rfl st, r⟩
theorem iIand (C : Cx B l Z a0 R y b mx rt) {x z v : Int32} (hd : De b pc (.iand) 1 n) (hv : x &&& z = v) (K : Go B n0 Q h ce sl n Ls (.int v :: S)) : Go B n0 Q h ce sl pc Ls (.int z :: .int x :: S) := by
  obtain ⟨p, l', e, R', s, m, args, below, meth, c⟩ := B
  obtain ⟨rfl, rfl, hx, rfl, hml, hown, hnm, hret, hlk, hZ, hw⟩ := C
  intro T locs X eT N
  obtain ⟨hd, rfl⟩ := hd
  subst hv
  obtain ⟨s₂, o, st, r⟩ := K T locs X eT N
  exact ⟨s₂, o, XS.iand X.here hx rfl hd rfl st, r⟩
theorem iImul (C : Cx B l Z a0 R y b mx rt) {x z v : Int32} (hd : De b pc (.imul) 1 n) (hv : x * z = v) (K : Go B n0 Q h ce sl n Ls (.int v :: S)) : Go B n0 Q h ce sl pc Ls (.int z :: .int x :: S) := by
  obtain ⟨p, l', e, R', s, m, args, below, meth, c⟩ := B
  obtain ⟨rfl, rfl, hx, rfl, hml, hown, hnm, hret, hlk, hZ, hw⟩ := C
  intro T locs X eT N
  obtain ⟨hd, rfl⟩ := hd
  subst hv
  obtain ⟨s₂, o, st, r⟩ := K T locs X eT N
  exact ⟨s₂, o, XS.imul X.here hx rfl hd rfl st, r⟩
theorem iIdiv (C : Cx B l Z a0 R y b mx rt) {x z v : Int32} (hd : De b pc (.idiv) 1 n) (hz : z ≠ 0) (hv : x / z = v) (K : Go B n0 Q h ce sl n Ls (.int v :: S)) : Go B n0 Q h ce sl pc Ls (.int z :: .int x :: S) := by
  obtain ⟨p, l', e, R', s, m, args, below, meth, c⟩ := B
  obtain ⟨rfl, rfl, hx, rfl, hml, hown, hnm, hret, hlk, hZ, hw⟩ := C
  intro T locs X eT N
  obtain ⟨hd, rfl⟩ := hd
  subst hv
  obtain ⟨s₂, o, st, r⟩ := K T locs X eT N
  exact ⟨s₂, o, XS.idiv X.here hx rfl hd rfl hz st, r⟩
theorem iIrem (C : Cx B l Z a0 R y b mx rt) {x z v : Int32} (hd : De b pc (.irem) 1 n) (hz : z ≠ 0) (hv : x % z = v) (K : Go B n0 Q h ce sl n Ls (.int v :: S)) : Go B n0 Q h ce sl pc Ls (.int z :: .int x :: S) := by
  obtain ⟨p, l', e, R', s, m, args, below, meth, c⟩ := B
  obtain ⟨rfl, rfl, hx, rfl, hml, hown, hnm, hret, hlk, hZ, hw⟩ := C
  intro T locs X eT N
  obtain ⟨hd, rfl⟩ := hd
  subst hv
  obtain ⟨s₂, o, st, r⟩ := K T locs X eT N
  exact ⟨s₂, o, iremM X hx rfl hd rfl hz st, r⟩
theorem iDup (C : Cx B l Z a0 R y b mx rt) {x : Value} (hd : De b pc (.dup) 1 n) (hc : x.category = 1) (K : Go B n0 Q h ce sl n Ls (x :: x :: S)) : Go B n0 Q h ce sl pc Ls (x :: S) := by
  obtain ⟨p, l', e, R', s, m, args, below, meth, c⟩ := B
  obtain ⟨rfl, rfl, hx, rfl, hml, hown, hnm, hret, hlk, hZ, hw⟩ := C
  intro T locs X eT N
  obtain ⟨hd, rfl⟩ := hd
  obtain ⟨s₂, o, st, r⟩ := K T locs X eT N
  exact ⟨s₂, o, XS.dup X.here hx rfl hd rfl hc st, r⟩
theorem iPop (C : Cx B l Z a0 R y b mx rt) {x : Value} (hd : De b pc (.pop) 1 n) (hc : x.category = 1) (K : Go B n0 Q h ce sl n Ls (S)) : Go B n0 Q h ce sl pc Ls (x :: S) := by
  obtain ⟨p, l', e, R', s, m, args, below, meth, c⟩ := B
  obtain ⟨rfl, rfl, hx, rfl, hml, hown, hnm, hret, hlk, hZ, hw⟩ := C
  intro T locs X eT N
  obtain ⟨hd, rfl⟩ := hd
  obtain ⟨s₂, o, st, r⟩ := K T locs X eT N
  exact ⟨s₂, o, XT.pop X.here hx rfl hd rfl hc st, r⟩
theorem iIstoreN (C : Cx B l Z a0 R y b mx rt) {k : Fin 4} {x : Int32} (hd : De b pc (.istore_n k) 1 n) (hl : storeLocals Ls k.val (.int x) = some Ls') (K : Go B n0 Q h ce sl n Ls' (S)) : Go B n0 Q h ce sl pc Ls (.int x :: S) := by
  obtain ⟨p, l', e, R', s, m, args, below, meth, c⟩ := B
  obtain ⟨rfl, rfl, hx, rfl, hml, hown, hnm, hret, hlk, hZ, hw⟩ := C
  intro T locs X eT N
  obtain ⟨hd, rfl⟩ := hd
  obtain ⟨s₂, o, st, r⟩ := K T locs X eT N
  exact ⟨s₂, o, XS.istoreN X.here hx rfl hd rfl hl st, r⟩
theorem iIstore (C : Cx B l Z a0 R y b mx rt) {k : Nat} {x : Int32} (hd : De b pc (.istore k) 2 n) (hl : storeLocals Ls k (.int x) = some Ls') (K : Go B n0 Q h ce sl n Ls' (S)) : Go B n0 Q h ce sl pc Ls (.int x :: S) := by
  obtain ⟨p, l', e, R', s, m, args, below, meth, c⟩ := B
  obtain ⟨rfl, rfl, hx, rfl, hml, hown, hnm, hret, hlk, hZ, hw⟩ := C
  intro T locs X eT N
  obtain ⟨hd, rfl⟩ := hd
  obtain ⟨s₂, o, st, r⟩ := K T locs X eT N
  exact ⟨s₂, o, XS.istore X.here hx rfl hd rfl hl st, r⟩
theorem iAstoreN (C : Cx B l Z a0 R y b mx rt) {k : Fin 4} {x : Value} (hd : De b pc (.astore_n k) 1 n) (hv : x.isRef = true) (hl : storeLocals Ls k.val x = some Ls') (K : Go B n0 Q h ce sl n Ls' (S)) : Go B n0 Q h ce sl pc Ls (x :: S) := by
  obtain ⟨p, l', e, R', s, m, args, below, meth, c⟩ := B
  obtain ⟨rfl, rfl, hx, rfl, hml, hown, hnm, hret, hlk, hZ, hw⟩ := C
  intro T locs X eT N
  obtain ⟨hd, rfl⟩ := hd
  obtain ⟨s₂, o, st, r⟩ := K T locs X eT N
  exact ⟨s₂, o, XS.astoreN X.here hx rfl hd rfl hv hl st, r⟩
theorem iAstore (C : Cx B l Z a0 R y b mx rt) {k : Nat} {x : Value} (hd : De b pc (.astore k) 2 n) (hv : x.isRef = true) (hl : storeLocals Ls k x = some Ls') (K : Go B n0 Q h ce sl n Ls' (S)) : Go B n0 Q h ce sl pc Ls (x :: S) := by
  obtain ⟨p, l', e, R', s, m, args, below, meth, c⟩ := B
  obtain ⟨rfl, rfl, hx, rfl, hml, hown, hnm, hret, hlk, hZ, hw⟩ := C
  intro T locs X eT N
  obtain ⟨hd, rfl⟩ := hd
  obtain ⟨s₂, o, st, r⟩ := K T locs X eT N
  exact ⟨s₂, o, XS.astore X.here hx rfl hd rfl hv hl st, r⟩
theorem iIinc (C : Cx B l Z a0 R y b mx rt) {k : Nat} {cst : Int} {x v : Int32} (hd : De b pc (.iinc k cst) 3 n) (hl : Ls[k]? = some (.val (.int x))) (hv : x + Int32.ofInt cst = v) (hl' : storeLocals Ls k (.int v) = some Ls') (K : Go B n0 Q h ce sl n Ls' (S)) : Go B n0 Q h ce sl pc Ls (S) := by
  obtain ⟨p, l', e, R', s, m, args, below, meth, c⟩ := B
  obtain ⟨rfl, rfl, hx, rfl, hml, hown, hnm, hret, hlk, hZ, hw⟩ := C
  intro T locs X eT N
  obtain ⟨hd, rfl⟩ := hd
  subst hv
  obtain ⟨s₂, o, st, r⟩ := K T locs X eT N
  exact ⟨s₂, o, XS.iinc X.here hx rfl hd hl hl' st, r⟩
theorem iI2b (C : Cx B l Z a0 R y b mx rt) {x v : Int32} (hd : De b pc (.i2b) 1 n) (hv : x.toInt8.toInt32 = v) (K : Go B n0 Q h ce sl n Ls (.int v :: S)) : Go B n0 Q h ce sl pc Ls (.int x :: S) := by
  obtain ⟨p, l', e, R', s, m, args, below, meth, c⟩ := B
  obtain ⟨rfl, rfl, hx, rfl, hml, hown, hnm, hret, hlk, hZ, hw⟩ := C
  intro T locs X eT N
  obtain ⟨hd, rfl⟩ := hd
  subst hv
  obtain ⟨s₂, o, st, r⟩ := K T locs X eT N
  exact ⟨s₂, o, XT.i2b X.here hx rfl hd rfl st, r⟩
theorem iI2c (C : Cx B l Z a0 R y b mx rt) {x v : Int32} (hd : De b pc (.i2c) 1 n) (hv : x.toUInt32.toUInt16.toUInt32.toInt32 = v) (K : Go B n0 Q h ce sl n Ls (.int v :: S)) : Go B n0 Q h ce sl pc Ls (.int x :: S) := by
  obtain ⟨p, l', e, R', s, m, args, below, meth, c⟩ := B
  obtain ⟨rfl, rfl, hx, rfl, hml, hown, hnm, hret, hlk, hZ, hw⟩ := C
  intro T locs X eT N
  obtain ⟨hd, rfl⟩ := hd
  subst hv
  obtain ⟨s₂, o, st, r⟩ := K T locs X eT N
  exact ⟨s₂, o, XT.i2c X.here hx rfl hd rfl st, r⟩
theorem iIushr (C : Cx B l Z a0 R y b mx rt) {x z v : Int32} (hd : De b pc (.iushr) 1 n) (hv : (x.toUInt32 >>> (z &&& 31).toUInt32).toInt32 = v) (K : Go B n0 Q h ce sl n Ls (.int v :: S)) : Go B n0 Q h ce sl pc Ls (.int z :: .int x :: S) := by
  obtain ⟨p, l', e, R', s, m, args, below, meth, c⟩ := B
  obtain ⟨rfl, rfl, hx, rfl, hml, hown, hnm, hret, hlk, hZ, hw⟩ := C
  intro T locs X eT N
  obtain ⟨hd, rfl⟩ := hd
  subst hv
  obtain ⟨s₂, o, st, r⟩ := K T locs X eT N
  exact ⟨s₂, o, XT.iushr X.here hx rfl hd rfl st, r⟩
theorem iIfF (C : Cx B l Z a0 R y b mx rt) {cd : ClassFile.Cond} {o : Int} {x : Int32} (hd : De b pc (.ifCond cd o) 3 n) (hc : ifCond.holds cd x = false) (K : Go B n0 Q h ce sl n Ls (S)) : Go B n0 Q h ce sl pc Ls (.int x :: S) := by
  obtain ⟨p, l', e, R', s, m, args, below, meth, c⟩ := B
  obtain ⟨rfl, rfl, hx, rfl, hml, hown, hnm, hret, hlk, hZ, hw⟩ := C
  intro T locs X eT N
  obtain ⟨hd, rfl⟩ := hd
  obtain ⟨s₂, o, st, r⟩ := K T locs X eT N
  exact ⟨s₂, o, XS.ifNo X.here hx rfl hd rfl hc st, r⟩
theorem iCmpF (C : Cx B l Z a0 R y b mx rt) {cd : ClassFile.Cond} {o : Int} {x z : Int32} (hd : De b pc (.if_icmp cd o) 3 n) (hc : if_icmp.holds cd x z = false) (K : Go B n0 Q h ce sl n Ls (S)) : Go B n0 Q h ce sl pc Ls (.int z :: .int x :: S) := by
  obtain ⟨p, l', e, R', s, m, args, below, meth, c⟩ := B
  obtain ⟨rfl, rfl, hx, rfl, hml, hown, hnm, hret, hlk, hZ, hw⟩ := C
  intro T locs X eT N
  obtain ⟨hd, rfl⟩ := hd
  obtain ⟨s₂, o, st, r⟩ := K T locs X eT N
  exact ⟨s₂, o, XS.icmpNo X.here hx rfl hd rfl hc st, r⟩
theorem iNullF (C : Cx B l Z a0 R y b mx rt) {o : Int} {a : Addr} (hd : De b pc (.ifnull o) 3 n) (K : Go B n0 Q h ce sl n Ls (S)) : Go B n0 Q h ce sl pc Ls (.ref a :: S) := by
  obtain ⟨p, l', e, R', s, m, args, below, meth, c⟩ := B
  obtain ⟨rfl, rfl, hx, rfl, hml, hown, hnm, hret, hlk, hZ, hw⟩ := C
  intro T locs X eT N
  obtain ⟨hd, rfl⟩ := hd
  obtain ⟨s₂, o, st, r⟩ := K T locs X eT N
  exact ⟨s₂, o, XS.ifnullNo X.here hx rfl hd rfl st, r⟩
theorem iNonnullF (C : Cx B l Z a0 R y b mx rt) {o : Int} (hd : De b pc (.ifnonnull o) 3 n) (K : Go B n0 Q h ce sl n Ls (S)) : Go B n0 Q h ce sl pc Ls (.null :: S) := by
  obtain ⟨p, l', e, R', s, m, args, below, meth, c⟩ := B
  obtain ⟨rfl, rfl, hx, rfl, hml, hown, hnm, hret, hlk, hZ, hw⟩ := C
  intro T locs X eT N
  obtain ⟨hd, rfl⟩ := hd
  obtain ⟨s₂, o, st, r⟩ := K T locs X eT N
  exact ⟨s₂, o, XT.ifnonnullNo X.here hx rfl hd rfl st, r⟩
theorem iAcmpF (C : Cx B l Z a0 R y b mx rt) {cd : ClassFile.ACond} {o : Int} {x z : Value} (hd : De b pc (.if_acmp cd o) 3 n) (hx1 : x.isRef = true) (hz1 : z.isRef = true) (hc : XT.acmp cd x z = false) (K : Go B n0 Q h ce sl n Ls (S)) : Go B n0 Q h ce sl pc Ls (z :: x :: S) := by
  obtain ⟨p, l', e, R', s, m, args, below, meth, c⟩ := B
  obtain ⟨rfl, rfl, hx, rfl, hml, hown, hnm, hret, hlk, hZ, hw⟩ := C
  intro T locs X eT N
  obtain ⟨hd, rfl⟩ := hd
  obtain ⟨s₂, o, st, r⟩ := K T locs X eT N
  exact ⟨s₂, o, XT.acmpNo X.here hx rfl hd rfl hx1 hz1 hc st, r⟩
theorem iGoto (C : Cx B l Z a0 R y b mx rt) {o : Int} {t : Nat} (hd : De b pc (.goto o) 3 n) (hj : 0 ≤ (pc : Int) + o ∧ ((pc : Int) + o).toNat = t) (K : Go B n0 Q h ce sl t Ls (S)) : Go B n0 Q h ce sl pc Ls (S) := by
  obtain ⟨p, l', e, R', s, m, args, below, meth, c⟩ := B
  obtain ⟨rfl, rfl, hx, rfl, hml, hown, hnm, hret, hlk, hZ, hw⟩ := C
  intro T locs X eT N
  obtain ⟨hd, rfl⟩ := hd
  obtain ⟨s₂, oo, st, r⟩ := K T locs X eT N
  exact ⟨s₂, oo, XS.goto X.here hx rfl rfl hd hj.1 hj.2 st, r⟩
theorem iIfT (C : Cx B l Z a0 R y b mx rt) {cd : ClassFile.Cond} {o : Int} {x : Int32} {t : Nat} (hd : De b pc (.ifCond cd o) 3 n) (hc : ifCond.holds cd x = true) (hj : 0 ≤ (pc : Int) + o ∧ ((pc : Int) + o).toNat = t) (K : Go B n0 Q h ce sl t Ls (S)) : Go B n0 Q h ce sl pc Ls (.int x :: S) := by
  obtain ⟨p, l', e, R', s, m, args, below, meth, c⟩ := B
  obtain ⟨rfl, rfl, hx, rfl, hml, hown, hnm, hret, hlk, hZ, hw⟩ := C
  intro T locs X eT N
  obtain ⟨hd, rfl⟩ := hd
  obtain ⟨s₂, oo, st, r⟩ := K T locs X eT N
  exact ⟨s₂, oo, XS.ifYes X.here hx rfl rfl hd rfl hc hj.1 hj.2 st, r⟩
theorem iCmpT (C : Cx B l Z a0 R y b mx rt) {cd : ClassFile.Cond} {o : Int} {x z : Int32} {t : Nat} (hd : De b pc (.if_icmp cd o) 3 n) (hc : if_icmp.holds cd x z = true) (hj : 0 ≤ (pc : Int) + o ∧ ((pc : Int) + o).toNat = t) (K : Go B n0 Q h ce sl t Ls (S)) : Go B n0 Q h ce sl pc Ls (.int z :: .int x :: S) := by
  obtain ⟨p, l', e, R', s, m, args, below, meth, c⟩ := B
  obtain ⟨rfl, rfl, hx, rfl, hml, hown, hnm, hret, hlk, hZ, hw⟩ := C
  intro T locs X eT N
  obtain ⟨hd, rfl⟩ := hd
  obtain ⟨s₂, oo, st, r⟩ := K T locs X eT N
  exact ⟨s₂, oo, XS.icmpYes X.here hx rfl rfl hd rfl hc hj.1 hj.2 st, r⟩
theorem iNullT (C : Cx B l Z a0 R y b mx rt) {o : Int} {t : Nat} (hd : De b pc (.ifnull o) 3 n) (hj : 0 ≤ (pc : Int) + o ∧ ((pc : Int) + o).toNat = t) (K : Go B n0 Q h ce sl t Ls (S)) : Go B n0 Q h ce sl pc Ls (.null :: S) := by
  obtain ⟨p, l', e, R', s, m, args, below, meth, c⟩ := B
  obtain ⟨rfl, rfl, hx, rfl, hml, hown, hnm, hret, hlk, hZ, hw⟩ := C
  intro T locs X eT N
  obtain ⟨hd, rfl⟩ := hd
  obtain ⟨s₂, oo, st, r⟩ := K T locs X eT N
  exact ⟨s₂, oo, XS.ifnullYes X.here hx rfl rfl hd rfl hj.1 hj.2 st, r⟩
theorem iNonnullT (C : Cx B l Z a0 R y b mx rt) {o : Int} {a : Addr} {t : Nat} (hd : De b pc (.ifnonnull o) 3 n) (hj : 0 ≤ (pc : Int) + o ∧ ((pc : Int) + o).toNat = t) (K : Go B n0 Q h ce sl t Ls (S)) : Go B n0 Q h ce sl pc Ls (.ref a :: S) := by
  obtain ⟨p, l', e, R', s, m, args, below, meth, c⟩ := B
  obtain ⟨rfl, rfl, hx, rfl, hml, hown, hnm, hret, hlk, hZ, hw⟩ := C
  intro T locs X eT N
  obtain ⟨hd, rfl⟩ := hd
  obtain ⟨s₂, oo, st, r⟩ := K T locs X eT N
  exact ⟨s₂, oo, XT.ifnonnullYes X.here hx rfl rfl hd rfl hj.1 hj.2 st, r⟩
theorem iAcmpT (C : Cx B l Z a0 R y b mx rt) {cd : ClassFile.ACond} {o : Int} {x z : Value} {t : Nat} (hd : De b pc (.if_acmp cd o) 3 n) (hx1 : x.isRef = true) (hz1 : z.isRef = true) (hc : XT.acmp cd x z = true) (hj : 0 ≤ (pc : Int) + o ∧ ((pc : Int) + o).toNat = t) (K : Go B n0 Q h ce sl t Ls (S)) : Go B n0 Q h ce sl pc Ls (z :: x :: S) := by
  obtain ⟨p, l', e, R', s, m, args, below, meth, c⟩ := B
  obtain ⟨rfl, rfl, hx, rfl, hml, hown, hnm, hret, hlk, hZ, hw⟩ := C
  intro T locs X eT N
  obtain ⟨hd, rfl⟩ := hd
  obtain ⟨s₂, oo, st, r⟩ := K T locs X eT N
  exact ⟨s₂, oo, XT.acmpYes X.here hx rfl rfl hd rfl hx1 hz1 hc hj.1 hj.2 st, r⟩
theorem iLdcI (C : Cx B l Z a0 R y b mx rt) {i : Nat} {v : Int32} (w : Jvm.Cond.constant y.cls i v ∈ tables_1) (hd : De b pc (.ldc i) 2 n) (K : Go B n0 Q h ce sl n Ls (.int v :: S)) : Go B n0 Q h ce sl pc Ls S := by
  obtain ⟨p, l', e, R', s, m, args, below, meth, c⟩ := B
  obtain ⟨rfl, rfl, hx, rfl, hml, hown, hnm, hret, hlk, hZ, hw⟩ := C
  intro T locs X eT N
  obtain ⟨hd, rfl⟩ := hd
  obtain ⟨s₂, o, st, r⟩ := K T locs X eT N
  exact ⟨s₂, o, X.ldcInt hx hown (mvT hZ (hw _ w)) (g := mkF m pc Ls S) rfl hd _ st, r⟩
theorem iGetS (C : Cx B l Z a0 R y b mx rt) {i : Nat} {O f d : String} {v : Value} (w : Jvm.Cond.fieldLink y.cls i O f d ∈ tables_1) (F : Sta Z h O f d v) (hd : De b pc (.getstatic i) 3 n) (K : Go B n0 Q h ce sl n Ls (v :: S)) : Go B n0 Q h ce sl pc Ls S := by
  obtain ⟨p, l', e, R', s, m, args, below, meth, c⟩ := B
  obtain ⟨rfl, rfl, hx, rfl, hml, hown, hnm, hret, hlk, hZ, hw⟩ := C
  intro T locs X eT N
  obtain ⟨hd, rfl⟩ := hd
  obtain ⟨T', X', e', st⟩ := getS X hx hZ (host := "") hown (hw _ w) Via.refl eT F (g := mkF m pc Ls S) rfl hd
  obtain ⟨s₂, o, st', r⟩ := K T' locs X' e' N
  exact ⟨s₂, o, st _ st', r⟩
theorem iGetF (C : Cx B l Z a0 R y b mx rt) {i : Nat} {O f d : String} {a : Addr} {v : Value} (w : Jvm.Cond.fieldLink y.cls i O f d ∈ tables_1) (F : Fld Z h a O f d v) (hd : De b pc (.getfield i) 3 n) (K : Go B n0 Q h ce sl n Ls (v :: S)) : Go B n0 Q h ce sl pc Ls (.ref a :: S) := by
  obtain ⟨p, l', e, R', s, m, args, below, meth, c⟩ := B
  obtain ⟨rfl, rfl, hx, rfl, hml, hown, hnm, hret, hlk, hZ, hw⟩ := C
  intro T locs X eT N
  obtain ⟨hd, rfl⟩ := hd
  obtain ⟨T', X', e', st⟩ := getF X hx hZ hown (host := "") (Or.inl (hw _ w)) Via.refl eT F (g := mkF m pc Ls (.ref a :: S)) rfl rfl hd
  obtain ⟨s₂, o, st', r⟩ := K T' locs X' e' N
  exact ⟨s₂, o, st _ st', r⟩
theorem iPutF (C : Cx B l Z a0 R y b mx rt) {i kk : Nat} {O f d CC : String} {a : Addr} {v old : Value} {ty : FieldType} (w : Jvm.Cond.fieldLink y.cls i O f d ∈ tables_1) (F : Fld Z h a O f d old) (E : Exa Z h a CC) (L : Jvm.Cond.lays CC O f d ∈ tables_1 ∨ (Jvm.Cond.laysFinal CC O f d ∈ tables_1 ∧ y.cls = O ∧ y.name = "<init>")) (wi : Jvm.Cond.instantiable CC kk ∈ tables_1) (hty : parseFieldDescriptor d = some ty) (hn : narrow ty v = v) (hf : fits ty v = true) (ha : n0 ≤ a) (hd : De b pc (.putfield i) 3 n) (K : ∀ h', Wr h h' a (Jvm.RoadKit.slotOf Z O f d) v → Go B n0 Q h' ce sl n Ls S) : Go B n0 Q h ce sl pc Ls (v :: .ref a :: S) := by
  obtain ⟨p, l', e, R', s, m, args, below, meth, c⟩ := B
  obtain ⟨rfl, rfl, hx, rfl, hml, hown, hnm, hret, hlk, hZ, hw⟩ := C
  intro T locs X eT N
  obtain ⟨hd, rfl⟩ := hd
  obtain ⟨T', h', X', e', W, st⟩ := putF X hx hZ hown (host := "") (Or.inl (hw _ w)) Via.refl eT F E (L.imp (fun q => hw _ q) fun q => ⟨hw _ q.1, q.2.1, hnm.trans q.2.2⟩) (hw _ wi) hty hn hf (g := mkF m pc Ls (v :: .ref a :: S)) rfl rfl hd
  obtain ⟨s₂, o, st', r⟩ := K h' W T' _ X' e' (Fr.snoc X' N ha)
  exact ⟨s₂, o, st _ st', r⟩
theorem iNew (C : Cx B l Z a0 R y b mx rt) {i kk ce' sl' : Nat} {CC : String} (w1 : Jvm.Cond.classLink y.cls i CC ∈ tables_1) (w2 : Jvm.Cond.instantiable CC kk ∈ tables_1) (w3 : Jvm.Cond.initialized CC ∈ tables_1) (hd : De b pc (.new i) 3 n) (hc : ce + 1 = ce' ∧ sl + kk = sl' ∧ ce' ≤ R.cells ∧ sl' ≤ R.slots) (K : ∀ (h' : Heap) (a : Addr), a = h.size → Ext h h' → Exa Z h' a CC → (∀ {O nm d : String} {ty : FieldType}, Laid Z a0 CC O nm d → parseFieldDescriptor d = some ty → Fld Z h' a O nm d (defaultValue ty)) → Go B n0 Q h' ce' sl' n Ls (.ref a :: S)) : Go B n0 Q h ce sl pc Ls S := by
  obtain ⟨p, l', e, R', s, m, args, below, meth, c⟩ := B
  obtain ⟨rfl, rfl, hx, rfl, hml, hown, hnm, hret, hlk, hZ, hw⟩ := C
  intro T locs X eT N
  obtain ⟨hd, rfl⟩ := hd
  obtain ⟨rfl, rfl, hc, hs⟩ := hc
  obtain ⟨T', h', X', e', E, A, D, -, st⟩ := newO X hx hZ hown (hw _ w1) (hw _ w2) (hw _ w3) eT (g := mkF m pc Ls S) rfl hd hc hs
  obtain ⟨s₂, o, st', r⟩ := K h' _ rfl E A D T' locs X' e' N
  exact ⟨s₂, o, st _ st', r⟩
theorem iInitO (C : Cx B l Z a0 R y b mx rt) {i W : Nat} {a : Addr} (w1 : Jvm.Cond.methodLink y.cls i Lib.objectInit ∈ tables_1) (w2 : Jvm.Cond.instanceMethod Lib.objectInit ∈ tables_1) (w3 : Jvm.Cond.code Lib.objectInit ⟨#[0xb1]⟩ 1 none ∈ tables_1) (hd : De b pc (.invokespecial i) 3 n) (hsz : Ls.size = mx) (hf : 1 ≤ R.frames) (hW : (S.map fun v => v.category).sum = W) (hl : W + 12 ≤ R.locals) (K : Go B n0 Q h ce sl n Ls S) : Go B n0 Q h ce sl pc Ls (.ref a :: S) := by
  obtain ⟨p, l', e, R', s, m, args, below, meth, c⟩ := B
  obtain ⟨rfl, rfl, hx, rfl, hml, hown, hnm, hret, hlk, hZ, hw⟩ := C
  intro T locs X eT N
  obtain ⟨hd, rfl⟩ := hd
  obtain ⟨T', X', e', st⟩ := initO X hx hZ hown (hw _ w1) (hw _ w2) (hw _ w3) eT (g := mkF m pc Ls (.ref a :: S)) rfl (by rw [hml]; exact hsz) rfl hd hf (W := W) (by show 2 * 0 + _ ≤ _; omega) hl
  obtain ⟨s₂, o, st', r⟩ := K T' locs X' e' N
  exact ⟨s₂, o, st _ st', r⟩
def Pay (l : Launch) (Z : State) (R : Room) (yc : MethodName) (len W : Nat) (as' : Array Value) (n0 : Nat) (h : Heap) (cc ss : Nat) (Qc : Option Value → Heap → Prop) : Prop :=
  ∀ (p : Program) (e : Env) (below : List Frame) (s : State) (args : Array Value), Z.Warmed39 s.vm → Back l R p e below s args yc len W (fun A a => a = as' ∧ A.U.heap = h ∧ A.cells + cc ≤ R.cells ∧ A.slots + ss ≤ R.slots) (fun A _ v B => ∃ L, QQ n0 Qc v B.U.heap L ∧ B.locs = A.locs ++ L ∧ B.cells = A.cells + cc ∧ B.slots = A.slots + ss)
theorem Pay.of {yc : MethodName} {cb : ByteArray} {cm len W : Nat} {cr : Option FieldType} {rm : Room} {as' : Array Value} {Qc : Option Value → Heap → Prop} (hM : Pays l Z yc cb cm cr rm as' n0 h Qc) (hw : ∀ d ∈ tables_1, d.before a0 Z = true) (w4 : Jvm.Cond.code yc cb cm cr ∈ tables_1) (w3 : Jvm.Cond.initialized yc.cls ∈ tables_1) (hr1 : rm.frames + 1 ≤ R.frames) (hr2 : W + (cm + 11) + rm.locals ≤ R.locals) : Pay l Z R yc len W as' n0 h rm.cells rm.slots Qc :=
  fun p e below s args hZ => backOf (W := W) (hM []) hZ (hw _ w4) (hw _ w3) hr1 hr2
theorem Cx.words (C : Cx B l Z a0 R y b mx rt) : ∀ d ∈ tables_1, d.before a0 Z = true := by
  obtain ⟨p, l', e, R', s, m, args, below, meth, c⟩ := B
  obtain ⟨rfl, rfl, hx, rfl, hml, hown, hnm, hret, hlk, hZ, hw⟩ := C
  exact hw
theorem iCallSB (C : Cx B l Z a0 R y b mx rt) {yc : MethodName} {as' : Array Value} {Qc : Option Value → Heap → Prop} {i W cc ss ce' sl' : Nat} {argsL : List Value} {cbx : ByteArray} {cmx : Nat} {crx : Option FieldType} (hM : Pay l Z R yc 3 W as' n0 h cc ss Qc) (w1 : Jvm.Cond.methodLink y.cls i yc ∈ tables_1) (w2 : Jvm.Cond.static yc ∈ tables_1) (w3 : Jvm.Cond.initialized yc.cls ∈ tables_1) (w4 : Jvm.Cond.code yc cbx cmx crx ∈ tables_1) (hy : yc.cls ≠ "java/lang/invoke/MethodHandle" ∧ yc.cls ≠ "java/lang/invoke/VarHandle") (hlen : ∀ sig, parseMethodDescriptor yc.desc = some sig → argsL.length = sig.parameters.length) (hS : S = argsL.reverse ++ S') (has : argsL.toArray = as') (hd : De b pc (.invokestatic i) 3 n) (hsz : Ls.size = mx) (hW : (S'.map fun v => v.category).sum = W) (hr : ce + cc = ce' ∧ sl + ss = sl' ∧ ce' ≤ R.cells ∧ sl' ≤ R.slots) (K : ∀ (v : Option Value) (h' : Heap), Qc v h' → Go B n0 Q h' ce' sl' n Ls (v.toList ++ S')) : Go B n0 Q h ce sl pc Ls S := by
  obtain ⟨p, l', e, R', s, m, args, below, meth, c⟩ := B
  obtain ⟨rfl, rfl, hx, rfl, hml, hown, hnm, hret, hlk, hZ, hw⟩ := C
  intro T locs X eT N
  obtain ⟨hd, rfl⟩ := hd
  obtain ⟨rfl, rfl, hr3, hr4⟩ := hr
  subst hS has
  obtain ⟨v, vm₁, ⟨T', L', k', n'⟩, -, X', ⟨Lc, hQ, l', y', z'⟩, st⟩ := Jvm.LawKit.callS X hx (y := yc) hown (mvT hZ (hw _ w1)) (mvT hZ (hw _ w2)) (mvT hZ (hw _ w3)) (mvT hZ (hw _ w4)) hy (hM p e below s args hZ) (g := mkF m pc Ls (argsL.reverse ++ S')) rfl (by rw [hml]; exact hsz) (argsL := argsL) (rest := S') hlen rfl (by show 2 * 0 + _ ≤ _; omega) hd (fun _ _ => ⟨rfl, eT, hr3, hr4⟩)
  dsimp only [Pt.U, Pt.locs, Pt.cells, Pt.slots] at X' l' y' z' st hQ
  subst l' y' z'
  obtain ⟨s₂, o, st', r⟩ := K v _ hQ.1 T' _ X' rfl (Fr.app N hQ.2)
  exact ⟨s₂, o, st _ st', r⟩
theorem iCallS (C : Cx B l Z a0 R y b mx rt) {yc : MethodName} {cb : ByteArray} {cm : Nat} {cr : Option FieldType} {rm : Room} {as' : Array Value} {Qc : Option Value → Heap → Prop} {i W ce' sl' : Nat} {argsL : List Value} (hM : Pays l Z yc cb cm cr rm as' n0 h Qc) (w1 : Jvm.Cond.methodLink y.cls i yc ∈ tables_1) (w2 : Jvm.Cond.static yc ∈ tables_1) (w3 : Jvm.Cond.initialized yc.cls ∈ tables_1) (w4 : Jvm.Cond.code yc cb cm cr ∈ tables_1) (hy : yc.cls ≠ "java/lang/invoke/MethodHandle" ∧ yc.cls ≠ "java/lang/invoke/VarHandle") (hlen : ∀ sig, parseMethodDescriptor yc.desc = some sig → argsL.length = sig.parameters.length) (hS : S = argsL.reverse ++ S') (has : argsL.toArray = as') (hd : De b pc (.invokestatic i) 3 n) (hsz : Ls.size = mx) (hW : (S'.map fun v => v.category).sum = W) (hr : rm.frames + 1 ≤ R.frames ∧ W + (cm + 11) + rm.locals ≤ R.locals ∧ ce + rm.cells = ce' ∧ sl + rm.slots = sl' ∧ ce' ≤ R.cells ∧ sl' ≤ R.slots) (K : ∀ (v : Option Value) (h' : Heap), Qc v h' → Go B n0 Q h' ce' sl' n Ls (v.toList ++ S')) : Go B n0 Q h ce sl pc Ls S :=
  iCallSB C (Pay.of hM C.words w4 w3 hr.1 hr.2.1) w1 w2 w3 w4 hy hlen hS has hd hsz hW hr.2.2 K
theorem iCallIB (C : Cx B l Z a0 R y b mx rt) {yc : MethodName} {as' : Array Value} {Qc : Option Value → Heap → Prop} {i W cc ss ce' sl' : Nat} {argsL : List Value} {a : Addr} {cbx : ByteArray} {cmx : Nat} (hM : Pay l Z R yc 3 W as' n0 h cc ss Qc) (hi : yc.name = "<init>") (w1 : Jvm.Cond.methodLink y.cls i yc ∈ tables_1) (w2 : Jvm.Cond.instanceMethod yc ∈ tables_1) (w4 : Jvm.Cond.code yc cbx cmx none ∈ tables_1) (hy : yc.cls ≠ "java/lang/invoke/MethodHandle" ∧ yc.cls ≠ "java/lang/invoke/VarHandle") (hlen : ∀ sig, parseMethodDescriptor yc.desc = some sig → argsL.length = sig.parameters.length) (hS : S = argsL.reverse ++ .ref a :: S') (has : (.ref a :: argsL).toArray = as') (hd : De b pc (.invokespecial i) 3 n) (hsz : Ls.size = mx) (hW : (S'.map fun v => v.category).sum = W) (hr : ce + cc = ce' ∧ sl + ss = sl' ∧ ce' ≤ R.cells ∧ sl' ≤ R.slots) (K : ∀ (v : Option Value) (h' : Heap), Qc v h' → Go B n0 Q h' ce' sl' n Ls (v.toList ++ S')) : Go B n0 Q h ce sl pc Ls S := by
  obtain ⟨p, l', e, R', s, m, args, below, meth, c⟩ := B
  obtain ⟨rfl, rfl, hx, rfl, hml, hown, hnm, hret, hlk, hZ, hw⟩ := C
  intro T locs X eT N
  obtain ⟨hd, rfl⟩ := hd
  obtain ⟨rfl, rfl, hr3, hr4⟩ := hr
  subst hS has
  obtain ⟨v, vm₁, ⟨T', L', k', n'⟩, -, X', ⟨Lc, hQ, l', y', z'⟩, st⟩ := X.specialBack hx (y := yc) hi hown (mvT hZ (hw _ w1)) (mvT hZ (hw _ w2)) (mvT hZ (hw _ w4)) hy (hM p e below s args hZ) (g := mkF m pc Ls (argsL.reverse ++ .ref a :: S')) rfl (by rw [hml]; exact hsz) (Steps.refl _) (a := a) (argsL := argsL) (rest := S') hlen rfl (by show 2 * 0 + _ ≤ _; omega) hd (fun _ _ => ⟨rfl, eT, hr3, hr4⟩)
  dsimp only [Pt.U, Pt.locs, Pt.cells, Pt.slots] at X' l' y' z' st hQ
  subst l' y' z'
  obtain ⟨s₂, o, st', r⟩ := K v _ hQ.1 T' _ X' rfl (Fr.app N hQ.2)
  exact ⟨s₂, o, st.trans st', r⟩
theorem iCallI (C : Cx B l Z a0 R y b mx rt) {yc : MethodName} {cb : ByteArray} {cm : Nat} {rm : Room} {as' : Array Value} {Qc : Option Value → Heap → Prop} {i W ce' sl' : Nat} {argsL : List Value} {a : Addr} (hM : Pays l Z yc cb cm none rm as' n0 h Qc) (hi : yc.name = "<init>") (w1 : Jvm.Cond.methodLink y.cls i yc ∈ tables_1) (w2 : Jvm.Cond.instanceMethod yc ∈ tables_1) (w3 : Jvm.Cond.initialized yc.cls ∈ tables_1) (w4 : Jvm.Cond.code yc cb cm none ∈ tables_1) (hy : yc.cls ≠ "java/lang/invoke/MethodHandle" ∧ yc.cls ≠ "java/lang/invoke/VarHandle") (hlen : ∀ sig, parseMethodDescriptor yc.desc = some sig → argsL.length = sig.parameters.length) (hS : S = argsL.reverse ++ .ref a :: S') (has : (.ref a :: argsL).toArray = as') (hd : De b pc (.invokespecial i) 3 n) (hsz : Ls.size = mx) (hW : (S'.map fun v => v.category).sum = W) (hr : rm.frames + 1 ≤ R.frames ∧ W + (cm + 11) + rm.locals ≤ R.locals ∧ ce + rm.cells = ce' ∧ sl + rm.slots = sl' ∧ ce' ≤ R.cells ∧ sl' ≤ R.slots) (K : ∀ (v : Option Value) (h' : Heap), Qc v h' → Go B n0 Q h' ce' sl' n Ls (v.toList ++ S')) : Go B n0 Q h ce sl pc Ls S :=
  iCallIB C (Pay.of hM C.words w4 w3 hr.1 hr.2.1) hi w1 w2 w4 hy hlen hS has hd hsz hW hr.2.2 K
theorem iCallVB (C : Cx B l Z a0 R y b mx rt) {yc : MethodName} {as' : Array Value} {Qc : Option Value → Heap → Prop} {i W cc ss ce' sl' : Nat} {argsL : List Value} {a : Addr} {CC : String} {yd : MethodName} (hM : Pay l Z R yc 3 W as' n0 h cc ss Qc) (E : Exa Z h a CC) (w1 : Jvm.Cond.methodLink y.cls i yd ∈ tables_1) (w2 : Jvm.Cond.declares yd ∈ tables_1) (wn : yd = yc ∨ ∃ SS, Jvm.Cond.superclass yd.cls SS ∈ tables_1) (w5 : Jvm.Cond.selects CC yd yc ∈ tables_1) (w6 : Jvm.Cond.instanceMethod yc ∈ tables_1) (hy : yd.cls ≠ "java/lang/invoke/MethodHandle" ∧ yd.cls ≠ "java/lang/invoke/VarHandle") (hlen : ∀ sig, parseMethodDescriptor yd.desc = some sig → argsL.length = sig.parameters.length) (hS : S = argsL.reverse ++ .ref a :: S') (has : (.ref a :: argsL).toArray = as') (hd : De b pc (.invokevirtual i) 3 n) (hsz : Ls.size = mx) (hW : (S'.map fun v => v.category).sum = W) (hr : ce + cc = ce' ∧ sl + ss = sl' ∧ ce' ≤ R.cells ∧ sl' ≤ R.slots) (K : ∀ (v : Option Value) (h' : Heap), Qc v h' → Go B n0 Q h' ce' sl' n Ls (v.toList ++ S')) : Go B n0 Q h ce sl pc Ls S := by
  obtain ⟨p, l', e, R', s, m, args, below, meth, c⟩ := B
  obtain ⟨rfl, rfl, hx, rfl, hml, hown, hnm, hret, hlk, hZ, hw⟩ := C
  intro T locs X eT N
  obtain ⟨hd, rfl⟩ := hd
  obtain ⟨rfl, rfl, hr3, hr4⟩ := hr
  subst hS has
  obtain ⟨cq, kq, q1, q2, q3⟩ := isOf hZ eT E
  have nf : NotFace s yd := by
    rcases wn with rfl | ⟨SS, wn⟩
    · exact notFace_of_selects (args := #[]) (mvT hZ (hw _ w5))
    · exact nf_super (args := #[]) (mvT hZ (hw _ wn))
  obtain ⟨v, vm₁, ⟨T', L', k', n'⟩, -, X', ⟨Lc, hQ, l', y', z'⟩, st⟩ := X.virtualBack hx (y := yd) (z := yc) hown (mvT hZ (hw _ w1)) (mvT hZ (hw _ w2)) nf (mvT hZ (hw _ w5)) (mvT hZ (hw _ w6)) hy (hM p e below s args hZ) q1 q3 (g := mkF m pc Ls (argsL.reverse ++ .ref a :: S')) rfl (by rw [hml]; exact hsz) (Steps.refl _) (argsL := argsL) (rest := S') hlen rfl (by show 2 * 0 + _ ≤ _; omega) hd (fun _ _ => ⟨rfl, eT, hr3, hr4⟩)
  dsimp only [Pt.U, Pt.locs, Pt.cells, Pt.slots] at X' l' y' z' st hQ
  subst l' y' z'
  obtain ⟨s₂, o, st', r⟩ := K v _ hQ.1 T' _ X' rfl (Fr.app N hQ.2)
  exact ⟨s₂, o, st.trans st', r⟩
theorem iCallV (C : Cx B l Z a0 R y b mx rt) {yc : MethodName} {cb : ByteArray} {cm : Nat} {cr : Option FieldType} {rm : Room} {as' : Array Value} {Qc : Option Value → Heap → Prop} {i W ce' sl' : Nat} {argsL : List Value} {a : Addr} {CC : String} {yd : MethodName} (hM : Pays l Z yc cb cm cr rm as' n0 h Qc) (E : Exa Z h a CC) (w1 : Jvm.Cond.methodLink y.cls i yd ∈ tables_1) (w2 : Jvm.Cond.declares yd ∈ tables_1) (wn : yd = yc ∨ ∃ SS, Jvm.Cond.superclass yd.cls SS ∈ tables_1) (w5 : Jvm.Cond.selects CC yd yc ∈ tables_1) (w6 : Jvm.Cond.instanceMethod yc ∈ tables_1) (w3 : Jvm.Cond.initialized yc.cls ∈ tables_1) (w4 : Jvm.Cond.code yc cb cm cr ∈ tables_1) (hy : yd.cls ≠ "java/lang/invoke/MethodHandle" ∧ yd.cls ≠ "java/lang/invoke/VarHandle") (hlen : ∀ sig, parseMethodDescriptor yd.desc = some sig → argsL.length = sig.parameters.length) (hS : S = argsL.reverse ++ .ref a :: S') (has : (.ref a :: argsL).toArray = as') (hd : De b pc (.invokevirtual i) 3 n) (hsz : Ls.size = mx) (hW : (S'.map fun v => v.category).sum = W) (hr : rm.frames + 1 ≤ R.frames ∧ W + (cm + 11) + rm.locals ≤ R.locals ∧ ce + rm.cells = ce' ∧ sl + rm.slots = sl' ∧ ce' ≤ R.cells ∧ sl' ≤ R.slots) (K : ∀ (v : Option Value) (h' : Heap), Qc v h' → Go B n0 Q h' ce' sl' n Ls (v.toList ++ S')) : Go B n0 Q h ce sl pc Ls S :=
  iCallVB C (Pay.of hM C.words w4 w3 hr.1 hr.2.1) E w1 w2 wn w5 w6 hy hlen hS has hd hsz hW hr.2.2 K
theorem iCallFB (C : Cx B l Z a0 R y b mx rt) {yc : MethodName} {as' : Array Value} {Qc : Option Value → Heap → Prop} {i W cc ss ce' sl' : Nat} {argsL : List Value} {a : Addr} {CC : String} {yd : MethodName} {cnt : Nat} (hM : Pay l Z R yc 5 W as' n0 h cc ss Qc) (E : Exa Z h a CC) (w1 : Jvm.Cond.methodLink y.cls i yd ∈ tables_1) (w2 : Jvm.Cond.declares yd ∈ tables_1) (w7 : Jvm.Cond.interfaceMethod yd.cls yd.cls yd.name yd.desc ∈ tables_1) (h7 : ((Jvm.Cond.interfaceMethod yd.cls yd.cls yd.name yd.desc).onTables && (Jvm.Cond.interfaceMethod yd.cls yd.cls yd.name yd.desc).keepsFace) = true) (w5 : Jvm.Cond.selects CC yd yc ∈ tables_1) (w6 : Jvm.Cond.instanceMethod yc ∈ tables_1) (w8 : Jvm.Cond.publicMethod yc ∈ tables_1) (w9 : Jvm.Cond.unhidden CC yd.name yd.desc ∈ tables_1) (w0 : Jvm.Cond.castable CC yd.cls ∈ tables_1) (hy : yd.cls ≠ "java/lang/invoke/MethodHandle" ∧ yd.cls ≠ "java/lang/invoke/VarHandle") (hlen : ∀ sig, parseMethodDescriptor yd.desc = some sig → argsL.length = sig.parameters.length) (hS : S = argsL.reverse ++ .ref a :: S') (has : (.ref a :: argsL).toArray = as') (hd : De b pc (.invokeinterface i cnt) 5 n) (hsz : Ls.size = mx) (hW : (S'.map fun v => v.category).sum = W) (hr : ce + cc = ce' ∧ sl + ss = sl' ∧ ce' ≤ R.cells ∧ sl' ≤ R.slots) (K : ∀ (v : Option Value) (h' : Heap), Qc v h' → Go B n0 Q h' ce' sl' n Ls (v.toList ++ S')) : Go B n0 Q h ce sl pc Ls S := by
  obtain ⟨p, l', e, R', s, m, args, below, meth, c⟩ := B
  obtain ⟨rfl, rfl, hx, rfl, hml, hown, hnm, hret, hlk, hZ, hw⟩ := C
  intro T locs X eT N
  obtain ⟨hd, rfl⟩ := hd
  obtain ⟨rfl, rfl, hr3, hr4⟩ := hr
  subst hS has
  obtain ⟨cq, kq, q1, q2, q3⟩ := isOf hZ eT E
  obtain ⟨v, vm₁, ⟨T', L', k', n'⟩, -, X', ⟨Lc, hQ, l', y', z'⟩, st⟩ := X.interfaceBack hx (xi := yd) (y := yc) hown (mvT hZ (hw _ w1)) (mvT hZ (hw _ w2)) (mvT hZ (hw _ w7) h7) (mvT hZ (hw _ w5)) (mvT hZ (hw _ w6)) (mvT hZ (hw _ w8)) (mvT hZ (hw _ w9)) (mvT hZ (hw _ w0)) hy (hM p e below s args hZ) q1 q2 q3 (g := mkF m pc Ls (argsL.reverse ++ .ref a :: S')) rfl (by rw [hml]; exact hsz) (Steps.refl _) (argsL := argsL) (rest := S') hlen rfl (by show 2 * 0 + _ ≤ _; omega) hd (fun _ _ => ⟨rfl, eT, hr3, hr4⟩)
  dsimp only [Pt.U, Pt.locs, Pt.cells, Pt.slots] at X' l' y' z' st hQ
  subst l' y' z'
  obtain ⟨s₂, o, st', r⟩ := K v _ hQ.1 T' _ X' rfl (Fr.app N hQ.2)
  exact ⟨s₂, o, st.trans st', r⟩
theorem iCallF (C : Cx B l Z a0 R y b mx rt) {yc : MethodName} {cb : ByteArray} {cm : Nat} {cr : Option FieldType} {rm : Room} {as' : Array Value} {Qc : Option Value → Heap → Prop} {i W ce' sl' : Nat} {argsL : List Value} {a : Addr} {CC : String} {yd : MethodName} {cnt : Nat} (hM : Pays l Z yc cb cm cr rm as' n0 h Qc) (E : Exa Z h a CC) (w1 : Jvm.Cond.methodLink y.cls i yd ∈ tables_1) (w2 : Jvm.Cond.declares yd ∈ tables_1) (w7 : Jvm.Cond.interfaceMethod yd.cls yd.cls yd.name yd.desc ∈ tables_1) (h7 : ((Jvm.Cond.interfaceMethod yd.cls yd.cls yd.name yd.desc).onTables && (Jvm.Cond.interfaceMethod yd.cls yd.cls yd.name yd.desc).keepsFace) = true) (w5 : Jvm.Cond.selects CC yd yc ∈ tables_1) (w6 : Jvm.Cond.instanceMethod yc ∈ tables_1) (w8 : Jvm.Cond.publicMethod yc ∈ tables_1) (w9 : Jvm.Cond.unhidden CC yd.name yd.desc ∈ tables_1) (w0 : Jvm.Cond.castable CC yd.cls ∈ tables_1) (w3 : Jvm.Cond.initialized yc.cls ∈ tables_1) (w4 : Jvm.Cond.code yc cb cm cr ∈ tables_1) (hy : yd.cls ≠ "java/lang/invoke/MethodHandle" ∧ yd.cls ≠ "java/lang/invoke/VarHandle") (hlen : ∀ sig, parseMethodDescriptor yd.desc = some sig → argsL.length = sig.parameters.length) (hS : S = argsL.reverse ++ .ref a :: S') (has : (.ref a :: argsL).toArray = as') (hd : De b pc (.invokeinterface i cnt) 5 n) (hsz : Ls.size = mx) (hW : (S'.map fun v => v.category).sum = W) (hr : rm.frames + 1 ≤ R.frames ∧ W + (cm + 11) + rm.locals ≤ R.locals ∧ ce + rm.cells = ce' ∧ sl + rm.slots = sl' ∧ ce' ≤ R.cells ∧ sl' ≤ R.slots) (K : ∀ (v : Option Value) (h' : Heap), Qc v h' → Go B n0 Q h' ce' sl' n Ls (v.toList ++ S')) : Go B n0 Q h ce sl pc Ls S :=
  iCallFB C (Pay.of hM C.words w4 w3 hr.1 hr.2.1) E w1 w2 w7 h7 w5 w6 w8 w9 w0 hy hlen hS has hd hsz hW hr.2.2 K
theorem iLen (C : Cx B l Z a0 R y b mx rt) {a : Addr} {cl : Cell} {ty : FieldType} {z : Int32} (A : Arr Z h a cl ty) (hz : cl.slots.size.toInt32 = z) (hd : De b pc (.arraylength) 1 n) (K : Go B n0 Q h ce sl n Ls (.int z :: S)) : Go B n0 Q h ce sl pc Ls (.ref a :: S) := by
  obtain ⟨p, l', e, R', s, m, args, below, meth, c⟩ := B
  obtain ⟨rfl, rfl, hx, rfl, hml, hown, hnm, hret, hlk, hZ, hw⟩ := C
  intro T locs X eT N
  obtain ⟨hd, rfl⟩ := hd
  subst hz
  obtain ⟨s₂, o, st, r⟩ := K T locs X eT N
  exact ⟨s₂, o, X.arraylength hx (by rw [eT]; exact A.1) (State.isArrayOf_alike hZ.alike A.2.1) (g := mkF m pc Ls (.ref a :: S)) rfl rfl hd _ st, r⟩
theorem iIaload (C : Cx B l Z a0 R y b mx rt) {a : Addr} {cl : Cell} {j : Int32} {v : Value} (A : Arr Z h a cl .int) (hj : ¬ (j < 0 ∨ cl.slots.size ≤ j.toNatClampNeg)) (hv : cl.slots[j.toNatClampNeg]? = some v) (hd : De b pc (.iaload) 1 n) (K : Go B n0 Q h ce sl n Ls (v :: S)) : Go B n0 Q h ce sl pc Ls (.int j :: .ref a :: S) := by
  obtain ⟨p, l', e, R', s, m, args, below, meth, c⟩ := B
  obtain ⟨rfl, rfl, hx, rfl, hml, hown, hnm, hret, hlk, hZ, hw⟩ := C
  intro T locs X eT N
  obtain ⟨hd, rfl⟩ := hd
  obtain ⟨s₂, o, st, r⟩ := K T locs X eT N
  exact ⟨s₂, o, X.iaload hx (by rw [eT]; exact A.1) (State.isArrayOf_alike hZ.alike A.2.1) A.2.2 hj hv (g := mkF m pc Ls (.int j :: .ref a :: S)) rfl rfl hd _ st, r⟩
theorem iCaload (C : Cx B l Z a0 R y b mx rt) {a : Addr} {cl : Cell} {j : Int32} {v : Value} (A : Arr Z h a cl .char) (hj : ¬ (j < 0 ∨ cl.slots.size ≤ j.toNatClampNeg)) (hv : cl.slots[j.toNatClampNeg]? = some v) (hd : De b pc (.caload) 1 n) (K : Go B n0 Q h ce sl n Ls (v :: S)) : Go B n0 Q h ce sl pc Ls (.int j :: .ref a :: S) := by
  obtain ⟨p, l', e, R', s, m, args, below, meth, c⟩ := B
  obtain ⟨rfl, rfl, hx, rfl, hml, hown, hnm, hret, hlk, hZ, hw⟩ := C
  intro T locs X eT N
  obtain ⟨hd, rfl⟩ := hd
  obtain ⟨s₂, o, st, r⟩ := K T locs X eT N
  exact ⟨s₂, o, X.caload hx (by rw [eT]; exact A.1) (State.isArrayOf_alike hZ.alike A.2.1) A.2.2 hj hv (g := mkF m pc Ls (.int j :: .ref a :: S)) rfl rfl hd _ st, r⟩
theorem iBaload (C : Cx B l Z a0 R y b mx rt) {a : Addr} {cl : Cell} {j : Int32} {v : Value} (A : Arr Z h a cl .byte) (hj : ¬ (j < 0 ∨ cl.slots.size ≤ j.toNatClampNeg)) (hv : cl.slots[j.toNatClampNeg]? = some v) (hd : De b pc (.baload) 1 n) (K : Go B n0 Q h ce sl n Ls (v :: S)) : Go B n0 Q h ce sl pc Ls (.int j :: .ref a :: S) := by
  obtain ⟨p, l', e, R', s, m, args, below, meth, c⟩ := B
  obtain ⟨rfl, rfl, hx, rfl, hml, hown, hnm, hret, hlk, hZ, hw⟩ := C
  intro T locs X eT N
  obtain ⟨hd, rfl⟩ := hd
  obtain ⟨s₂, o, st, r⟩ := K T locs X eT N
  exact ⟨s₂, o, X.baloadBytes hx (by rw [eT]; exact A.1) (State.isArrayOf_alike hZ.alike A.2.1) A.2.2 hj hv (g := mkF m pc Ls (.int j :: .ref a :: S)) rfl rfl hd _ st, r⟩
theorem iLaload (C : Cx B l Z a0 R y b mx rt) {a : Addr} {cl : Cell} {j : Int32} {v : Value} (A : Arr Z h a cl .long) (hj : ¬ (j < 0 ∨ cl.slots.size ≤ j.toNatClampNeg)) (hv : cl.slots[j.toNatClampNeg]? = some v) (hd : De b pc (.laload) 1 n) (K : Go B n0 Q h ce sl n Ls (v :: S)) : Go B n0 Q h ce sl pc Ls (.int j :: .ref a :: S) := by
  obtain ⟨p, l', e, R', s, m, args, below, meth, c⟩ := B
  obtain ⟨rfl, rfl, hx, rfl, hml, hown, hnm, hret, hlk, hZ, hw⟩ := C
  intro T locs X eT N
  obtain ⟨hd, rfl⟩ := hd
  obtain ⟨s₂, o, st, r⟩ := K T locs X eT N
  exact ⟨s₂, o, X.laload hx (by rw [eT]; exact A.1) (State.isArrayOf_alike hZ.alike A.2.1) A.2.2 hj hv (g := mkF m pc Ls (.int j :: .ref a :: S)) rfl rfl hd _ st, r⟩
theorem iAaload (C : Cx B l Z a0 R y b mx rt) {a : Addr} {cl : Cell} {j : Int32} {v : Value} {ty : FieldType} (hty : ty.isReference = true) (A : Arr Z h a cl ty) (hj : ¬ (j < 0 ∨ cl.slots.size ≤ j.toNatClampNeg)) (hv : cl.slots[j.toNatClampNeg]? = some v) (hd : De b pc (.aaload) 1 n) (K : Go B n0 Q h ce sl n Ls (v :: S)) : Go B n0 Q h ce sl pc Ls (.int j :: .ref a :: S) := by
  obtain ⟨p, l', e, R', s, m, args, below, meth, c⟩ := B
  obtain ⟨rfl, rfl, hx, rfl, hml, hown, hnm, hret, hlk, hZ, hw⟩ := C
  intro T locs X eT N
  obtain ⟨hd, rfl⟩ := hd
  obtain ⟨s₂, o, st, r⟩ := K T locs X eT N
  exact ⟨s₂, o, X.aaload hx (by rw [eT]; exact A.1) (State.isArrayOf_alike hZ.alike A.2.1) hty A.2.2 hj hv (g := mkF m pc Ls (.int j :: .ref a :: S)) rfl rfl hd _ st, r⟩
theorem iNewP (C : Cx B l Z a0 R y b mx rt) {aty : ArrayType} {z : Int32} {cap ce' sl' : Nat} (w : Jvm.Cond.arrayClass (newarray.typeOf aty) ∈ tables_1) (hd : De b pc (.newarray aty) 2 n) (hz : ¬ z < 0) (hcap : z.toNatClampNeg ≤ cap) (hb : cap * 8 ≤ 536870912) (hc : ce + 1 = ce' ∧ sl + cap = sl' ∧ ce' ≤ R.cells ∧ sl' ≤ R.slots) (K : ∀ (h' : Heap) (a : Addr) (k : ClassId), a = h.size → Ext h h' → Arv Z h' a k (newarray.typeOf aty) z [] (defaultValue (newarray.typeOf aty)) → Go B n0 Q h' ce' sl' n Ls (.ref a :: S)) : Go B n0 Q h ce sl pc Ls (.int z :: S) := by
  obtain ⟨p, l', e, R', s, m, args, below, meth, c⟩ := B
  obtain ⟨rfl, rfl, hx, rfl, hml, hown, hnm, hret, hlk, hZ, hw⟩ := C
  intro T locs X eT N
  obtain ⟨hd, rfl⟩ := hd
  obtain ⟨rfl, rfl, hc, hs⟩ := hc
  obtain ⟨T', h', kA, X', e', E, A, st⟩ := newP X hx hZ (hw _ w) eT (g := mkF m pc Ls (.int z :: S)) rfl hd rfl hz hcap hb hc hs
  obtain ⟨s₂, o, st', r⟩ := K h' _ kA rfl E (Arv.new A hz) T' locs X' e' N
  exact ⟨s₂, o, st _ st', r⟩
theorem iIastore (C : Cx B l Z a0 R y b mx rt) {a : Addr} {cl : Cell} {j : Int32} {x : Int32} (A : Arr Z h a cl .int) (hj : ¬ (j < 0 ∨ cl.slots.size ≤ j.toNatClampNeg)) (ha : n0 ≤ a) (hd : De b pc (.iastore) 1 n) (K : ∀ h', Wr h h' a j.toNatClampNeg (.int x) → Go B n0 Q h' ce sl n Ls S) : Go B n0 Q h ce sl pc Ls (.int x :: .int j :: .ref a :: S) := by
  obtain ⟨p, l', e, R', s, m, args, below, meth, c⟩ := B
  obtain ⟨rfl, rfl, hx, rfl, hml, hown, hnm, hret, hlk, hZ, hw⟩ := C
  intro T locs X eT N
  obtain ⟨hd, rfl⟩ := hd
  obtain ⟨T', h', X', e', W, st⟩ := stI X hx hZ eT A (j := j) hj (g := mkF m pc Ls (.int x :: .int j :: .ref a :: S)) rfl rfl hd
  obtain ⟨s₂, o, st', r⟩ := K h' W T' _ X' e' (Fr.snoc X' N ha)
  exact ⟨s₂, o, st _ st', r⟩
theorem iCastore (C : Cx B l Z a0 R y b mx rt) {a : Addr} {cl : Cell} {j : Int32} {x : Int32} (A : Arr Z h a cl .char) (hj : ¬ (j < 0 ∨ cl.slots.size ≤ j.toNatClampNeg)) (ha : n0 ≤ a) (hd : De b pc (.castore) 1 n) (K : ∀ h', Wr h h' a j.toNatClampNeg (.int (nar .char x)) → Go B n0 Q h' ce sl n Ls S) : Go B n0 Q h ce sl pc Ls (.int x :: .int j :: .ref a :: S) := by
  obtain ⟨p, l', e, R', s, m, args, below, meth, c⟩ := B
  obtain ⟨rfl, rfl, hx, rfl, hml, hown, hnm, hret, hlk, hZ, hw⟩ := C
  intro T locs X eT N
  obtain ⟨hd, rfl⟩ := hd
  obtain ⟨T', h', X', e', W, st⟩ := stC X hx hZ eT A (j := j) hj (g := mkF m pc Ls (.int x :: .int j :: .ref a :: S)) rfl rfl hd
  obtain ⟨s₂, o, st', r⟩ := K h' W T' _ X' e' (Fr.snoc X' N ha)
  exact ⟨s₂, o, st _ st', r⟩
theorem iBastore (C : Cx B l Z a0 R y b mx rt) {a : Addr} {cl : Cell} {j : Int32} {x : Int32} (A : Arr Z h a cl .byte) (hj : ¬ (j < 0 ∨ cl.slots.size ≤ j.toNatClampNeg)) (ha : n0 ≤ a) (hd : De b pc (.bastore) 1 n) (K : ∀ h', Wr h h' a j.toNatClampNeg (.int (nar .byte x)) → Go B n0 Q h' ce sl n Ls S) : Go B n0 Q h ce sl pc Ls (.int x :: .int j :: .ref a :: S) := by
  obtain ⟨p, l', e, R', s, m, args, below, meth, c⟩ := B
  obtain ⟨rfl, rfl, hx, rfl, hml, hown, hnm, hret, hlk, hZ, hw⟩ := C
  intro T locs X eT N
  obtain ⟨hd, rfl⟩ := hd
  obtain ⟨T', h', X', e', W, st⟩ := stB X hx hZ eT A (j := j) hj (g := mkF m pc Ls (.int x :: .int j :: .ref a :: S)) rfl rfl hd
  obtain ⟨s₂, o, st', r⟩ := K h' W T' _ X' e' (Fr.snoc X' N ha)
  exact ⟨s₂, o, st _ st', r⟩
theorem iLastore (C : Cx B l Z a0 R y b mx rt) {a : Addr} {cl : Cell} {j : Int32} {x : Int64} (A : Arr Z h a cl .long) (hj : ¬ (j < 0 ∨ cl.slots.size ≤ j.toNatClampNeg)) (ha : n0 ≤ a) (hd : De b pc (.lastore) 1 n) (K : ∀ h', Wr h h' a j.toNatClampNeg (.long x) → Go B n0 Q h' ce sl n Ls S) : Go B n0 Q h ce sl pc Ls (.long x :: .int j :: .ref a :: S) := by
  obtain ⟨p, l', e, R', s, m, args, below, meth, c⟩ := B
  obtain ⟨rfl, rfl, hx, rfl, hml, hown, hnm, hret, hlk, hZ, hw⟩ := C
  intro T locs X eT N
  obtain ⟨hd, rfl⟩ := hd
  obtain ⟨T', h', X', e', W, st⟩ := stJ X hx hZ eT A (j := j) hj (g := mkF m pc Ls (.long x :: .int j :: .ref a :: S)) rfl rfl hd
  obtain ⟨s₂, o, st', r⟩ := K h' W T' _ X' e' (Fr.snoc X' N ha)
  exact ⟨s₂, o, st _ st', r⟩
theorem iAastore (C : Cx B l Z a0 R y b mx rt) {a : Addr} {cl : Cell} {j : Int32} {v : Value} {ty : FieldType} (A : Arr Z h a cl ty) (hj : ¬ (j < 0 ∨ cl.slots.size ≤ j.toNatClampNeg)) (hty : ty.isReference = true) (F : Sto Z h a v) (ha : n0 ≤ a) (hd : De b pc (.aastore) 1 n) (K : ∀ h', Wr h h' a j.toNatClampNeg v → Go B n0 Q h' ce sl n Ls S) : Go B n0 Q h ce sl pc Ls (v :: .int j :: .ref a :: S) := by
  obtain ⟨p, l', e, R', s, m, args, below, meth, c⟩ := B
  obtain ⟨rfl, rfl, hx, rfl, hml, hown, hnm, hret, hlk, hZ, hw⟩ := C
  intro T locs X eT N
  obtain ⟨hd, rfl⟩ := hd
  obtain ⟨T', h', X', e', W, st⟩ := stR X hx hZ eT A (j := j) hj hty F (g := mkF m pc Ls (v :: .int j :: .ref a :: S)) rfl rfl hd
  obtain ⟨s₂, o, st', r⟩ := K h' W T' _ X' e' (Fr.snoc X' N ha)
  exact ⟨s₂, o, st _ st', r⟩
theorem iCast (C : Cx B l Z a0 R y b mx rt) {i : Nat} {a : Addr} {K0 : String} (w : Jvm.Cond.classLink y.cls i K0 ∈ tables_1) (F : Ins Z h a K0 true) (hd : De b pc (.checkcast i) 3 n) (K : Go B n0 Q h ce sl n Ls (.ref a :: S)) : Go B n0 Q h ce sl pc Ls (.ref a :: S) := by
  obtain ⟨p, l', e, R', s, m, args, below, meth, c⟩ := B
  obtain ⟨rfl, rfl, hx, rfl, hml, hown, hnm, hret, hlk, hZ, hw⟩ := C
  intro T locs X eT N
  obtain ⟨hd, rfl⟩ := hd
  obtain ⟨T', X', e', st⟩ := castY X hx hZ hown (hw _ w) eT F (g := mkF m pc Ls (.ref a :: S)) rfl rfl hd
  obtain ⟨s₂, o, st', r⟩ := K T' locs X' e' N
  exact ⟨s₂, o, st _ st', r⟩
theorem iInstY (C : Cx B l Z a0 R y b mx rt) {i : Nat} {a : Addr} {K0 : String} (w : Jvm.Cond.classLink y.cls i K0 ∈ tables_1) (F : Ins Z h a K0 true) (hd : De b pc (.instanceof i) 3 n) (K : Go B n0 Q h ce sl n Ls (.int 1 :: S)) : Go B n0 Q h ce sl pc Ls (.ref a :: S) := by
  obtain ⟨p, l', e, R', s, m, args, below, meth, c⟩ := B
  obtain ⟨rfl, rfl, hx, rfl, hml, hown, hnm, hret, hlk, hZ, hw⟩ := C
  intro T locs X eT N
  obtain ⟨hd, rfl⟩ := hd
  obtain ⟨T', X', e', st⟩ := instY X hx hZ hown (hw _ w) eT F (g := mkF m pc Ls (.ref a :: S)) rfl rfl hd
  obtain ⟨s₂, o, st', r⟩ := K T' locs X' e' N
  exact ⟨s₂, o, st _ st', r⟩
theorem iInstN (C : Cx B l Z a0 R y b mx rt) {i : Nat} {a : Addr} {K0 CC : String} (w : Jvm.Cond.classLink y.cls i K0 ∈ tables_1) (E : Exa Z h a CC) (F : ∃ c t, Z.vm.findClass CC = some c ∧ Z.vm.findClass K0 = some t ∧ Z.vm.assignable c t = false) (hd : De b pc (.instanceof i) 3 n) (K : Go B n0 Q h ce sl n Ls (.int 0 :: S)) : Go B n0 Q h ce sl pc Ls (.ref a :: S) := by
  obtain ⟨p, l', e, R', s, m, args, below, meth, c⟩ := B
  obtain ⟨rfl, rfl, hx, rfl, hml, hown, hnm, hret, hlk, hZ, hw⟩ := C
  intro T locs X eT N
  obtain ⟨hd, rfl⟩ := hd
  obtain ⟨T', X', e', st⟩ := instNo X hx hZ hown (hw _ w) eT E F (g := mkF m pc Ls (.ref a :: S)) rfl rfl hd
  obtain ⟨s₂, o, st', r⟩ := K T' locs X' e' N
  exact ⟨s₂, o, st _ st', r⟩
theorem iRetV  (C : Cx B l Z a0 R y b mx none) (hd : De b pc (.return_) 1 n) (hc : ce ≤ R.cells ∧ sl ≤ R.slots) (hQ : Q none h) : Go B n0 Q h ce sl pc Ls ([]) := by
  obtain ⟨p, l', e, R', s, m, args, below, meth, c⟩ := B
  obtain ⟨rfl, rfl, hx, rfl, hml, hown, hnm, hret, hlk, hZ, hw⟩ := C
  intro T locs X eT N
  obtain ⟨hd, rfl⟩ := hd
  obtain ⟨fs, hr, hrun, hended, hW, hsame⟩ := X.leave (v := none) (fun q => by first | rfl | (rw [hret] at q; cases q)) hlk
  exact ⟨_, _, X.returnOut hx hret hd hr, hrun, hended, _, _, rfl, ⟨eT ▸ hQ, N⟩, ⟨_, rfl⟩, hW, hsame.mono hc.1 hc.2⟩
theorem iRetZ {z : Int32} {t : FieldType} (C : Cx B l Z a0 R y b mx (some t)) (hd : De b pc (.ireturn) 1 n) (ht : t = .boolean ∨ t = .byte ∨ t = .char ∨ t = .short) (hc : ce ≤ R.cells ∧ sl ≤ R.slots) (hQ : Q (some (.int (nar t z))) h) : Go B n0 Q h ce sl pc Ls (.int z :: S) := by
  obtain ⟨p, l', e, R', s, m, args, below, meth, c⟩ := B
  obtain ⟨rfl, rfl, hx, rfl, hml, hown, hnm, hret, hlk, hZ, hw⟩ := C
  intro T locs X eT N
  obtain ⟨hd, rfl⟩ := hd
  obtain ⟨fs, hr, hrun, hended, hW, hsame⟩ := X.leave (v := (some (.int (nar t z)))) (fun q => by first | rfl | (rw [hret] at q; cases q)) hlk
  exact ⟨_, _, retN X hx hret ht hd hr, hrun, hended, _, _, rfl, ⟨eT ▸ hQ, N⟩, ⟨_, rfl⟩, hW, hsame.mono hc.1 hc.2⟩
theorem iRetI {z : Int32} (C : Cx B l Z a0 R y b mx (some .int)) (hd : De b pc (.ireturn) 1 n) (hc : ce ≤ R.cells ∧ sl ≤ R.slots) (hQ : Q (some (.int z)) h) : Go B n0 Q h ce sl pc Ls (.int z :: S) := by
  obtain ⟨p, l', e, R', s, m, args, below, meth, c⟩ := B
  obtain ⟨rfl, rfl, hx, rfl, hml, hown, hnm, hret, hlk, hZ, hw⟩ := C
  intro T locs X eT N
  obtain ⟨hd, rfl⟩ := hd
  obtain ⟨fs, hr, hrun, hended, hW, hsame⟩ := X.leave (v := (some (.int z))) (fun q => by first | rfl | (rw [hret] at q; cases q)) hlk
  exact ⟨_, _, retOut X hx hret rfl (Or.inl ⟨rfl, Or.inl rfl, z, rfl⟩) hd hr, hrun, hended, _, _, rfl, ⟨eT ▸ hQ, N⟩, ⟨_, rfl⟩, hW, hsame.mono hc.1 hc.2⟩
theorem iRetA {w : Value} {t : FieldType} (C : Cx B l Z a0 R y b mx (some t)) (hd : De b pc (.areturn) 1 n) (ht : t.isReference = true) (hw' : w.isRef = true) (hna : narrow t w = w) (hc : ce ≤ R.cells ∧ sl ≤ R.slots) (hQ : Q (some w) h) : Go B n0 Q h ce sl pc Ls (w :: S) := by
  obtain ⟨p, l', e, R', s, m, args, below, meth, c⟩ := B
  obtain ⟨rfl, rfl, hx, rfl, hml, hown, hnm, hret, hlk, hZ, hw⟩ := C
  intro T locs X eT N
  obtain ⟨hd, rfl⟩ := hd
  obtain ⟨fs, hr, hrun, hended, hW, hsame⟩ := X.leave (v := (some w)) (fun q => by first | rfl | (rw [hret] at q; cases q)) hlk
  exact ⟨_, _, retOut X hx hret hna (Or.inr (Or.inr (Or.inr (Or.inr ⟨rfl, ht, hw'⟩)))) hd hr, hrun, hended, _, _, rfl, ⟨eT ▸ hQ, N⟩, ⟨_, rfl⟩, hW, hsame.mono hc.1 hc.2⟩
theorem iRetJ {z : Int64} (C : Cx B l Z a0 R y b mx (some .long)) (hd : De b pc (.lreturn) 1 n) (hc : ce ≤ R.cells ∧ sl ≤ R.slots) (hQ : Q (some (.long z)) h) : Go B n0 Q h ce sl pc Ls (.long z :: S) := by
  obtain ⟨p, l', e, R', s, m, args, below, meth, c⟩ := B
  obtain ⟨rfl, rfl, hx, rfl, hml, hown, hnm, hret, hlk, hZ, hw⟩ := C
  intro T locs X eT N
  obtain ⟨hd, rfl⟩ := hd
  obtain ⟨fs, hr, hrun, hended, hW, hsame⟩ := X.leave (v := (some (.long z))) (fun q => by first | rfl | (rw [hret] at q; cases q)) hlk
  exact ⟨_, _, retOut X hx hret rfl (Or.inr (Or.inl ⟨rfl, rfl, z, rfl⟩)) hd hr, hrun, hended, _, _, rfl, ⟨eT ▸ hQ, N⟩, ⟨_, rfl⟩, hW, hsame.mono hc.1 hc.2⟩
theorem oFresh {a : Addr} (O : Old Z n0 h) (g : a = h.size) : n0 ≤ a := by
  have q1 := O.1
  have q2 := O.2.1
  subst g
  omega
theorem oNe {a a' : Addr} (q : a < h.size) (g : h.size ≤ a') : a ≠ a' := Nat.ne_of_lt (Nat.lt_of_lt_of_le q g)
theorem oSize (O : Old Z n0 h) : n0 ≤ h.size := by
  have q1 := O.1
  have q2 := O.2.1
  omega
theorem acE {x z : Value} (q : x = z) : XT.acmp .eq x z = true ∧ XT.acmp .ne x z = false := by
  show decide (x = z) = true ∧ decide (x ≠ z) = false
  simp [q]
theorem acN {x z : Value} (q : ¬ x = z) : XT.acmp .eq x z = false ∧ XT.acmp .ne x z = true := by
  show decide (x = z) = false ∧ decide (x ≠ z) = true
  simp [q]
theorem acNr {a a' : Addr} (q : ¬ a = a') : XT.acmp .eq (.ref a) (.ref a') = false ∧ XT.acmp .ne (.ref a) (.ref a') = true := acN fun r => q (Value.ref.inj r)
def QP (r : Option Value) (h0 : Heap) (v : Option Value) (h : Heap) : Prop := v = r ∧ h0 = h
theorem eqI_v {args : Array Value} {first s : State} {o : Option Outcome} {idx : List Nat} {t : Term} {k : Int32} (q : (Jvm.Cond.eq t (.int k)).value args first o s idx = some true) : t.eval args first o idx s = some (.int k) := by
  obtain ⟨x, z, e1, e2, k1, k2⟩ := cmp_v (Or.inl q)
  have e3 : (Term.int k).eval args first o idx s = some (.int k) := Term.int_eval k
  cases e3.symm.trans e2
  obtain ⟨w, rfl⟩ := k2
  have e4 := Cond.eq_ints (args := args) (first := first) (o := o) (s := s) (idx := idx) e1 e2
  rw [e1, gotT e4 q]
theorem eqQ_v {args : Array Value} {first s : State} {o : Option Outcome} {idx : List Nat} {t u : Term} {a' : Addr} (q : (Jvm.Cond.eq t u).value args first o s idx = some true) (e2 : u.eval args first o idx s = some (.ref a')) : t.eval args first o idx s = some (.ref a') := by
  obtain ⟨x, z, e1, e3, k1, k2⟩ := cmp_v (Or.inl q)
  cases e2.symm.trans e3
  have e4 := gotT (eq_R e1 e2 k2.2 rfl) q
  rw [e1, e4]
theorem oLen {args : Array Value} {s : State} {t : Term} {k : Int32} {a : Addr} {cl : Cell} (q : (Term.length t).eval args s none [] s = some (.int k)) (ev : t.eval args s none [] s = some (.ref a)) (hc : s.heap[a]? = some cl) : cl.slots.size.toInt32 = k := by
  obtain ⟨c', e1, e3⟩ := length_at q ev
  cases hc.symm.trans e1
  exact e3
theorem oOld {a a' : Addr} (O : Old Z n0 h) (q : a < Z.heap.size) (r : n0 ≤ a') : a ≠ a' := O.ne q r
theorem eqR_v {args : Array Value} {first s : State} {o : Option Outcome} {idx : List Nat} {t u : Term} {a a' : Addr} (q : (Jvm.Cond.eq t u).value args first o s idx = some true) (e1 : t.eval args first o idx s = some (.ref a)) (e2 : u.eval args first o idx s = some (.ref a')) : a = a' := Value.ref.inj (gotT (eq_R e1 e2 rfl rfl) q)
theorem iDupX1 (C : Cx B l Z a0 R y b mx rt) {x z : Value} (hd : De b pc (.dup_x1) 1 n) (hc : x.category = 1) (hc' : z.category = 1) (K : Go B n0 Q h ce sl n Ls (x :: z :: x :: S)) : Go B n0 Q h ce sl pc Ls (x :: z :: S) := by
  obtain ⟨p, l', e, R', s, m, args, below, meth, c⟩ := B
  obtain ⟨rfl, rfl, hx, rfl, hml, hown, hnm, hret, hlk, hZ, hw⟩ := C
  intro T locs X eT N
  obtain ⟨hd, rfl⟩ := hd
  obtain ⟨s₂, o, st, r⟩ := K T locs X eT N
  exact ⟨s₂, o, XT.dupX1 X.here hx rfl hd rfl hc hc' st, r⟩
theorem iGetFV (C : Cx B l Z a0 R y b mx rt) {i : Nat} {R1 O f d : String} {a : Addr} {v : Value} (w : Jvm.Cond.fieldLink y.cls i R1 f d ∈ tables_1) (wv : Jvm.Cond.sameField R1 O f d ∈ tables_1) (F : Fld Z h a O f d v) (hd : De b pc (.getfield i) 3 n) (K : Go B n0 Q h ce sl n Ls (v :: S)) : Go B n0 Q h ce sl pc Ls (.ref a :: S) := by
  obtain ⟨p, l', e, R', s, m, args, below, meth, c⟩ := B
  obtain ⟨rfl, rfl, hx, rfl, hml, hown, hnm, hret, hlk, hZ, hw⟩ := C
  intro T locs X eT N
  obtain ⟨hd, rfl⟩ := hd
  obtain ⟨T', X', e', st⟩ := getF X hx hZ hown (host := "") (Or.inl (hw _ w)) (Via.of (hw _ wv)) eT F (g := mkF m pc Ls (.ref a :: S)) rfl rfl hd
  obtain ⟨s₂, o, st', r⟩ := K T' locs X' e' N
  exact ⟨s₂, o, st _ st', r⟩
theorem iPutFV (C : Cx B l Z a0 R y b mx rt) {i kk : Nat} {R1 O f d CC : String} {a : Addr} {v old : Value} {ty : FieldType} (w : Jvm.Cond.fieldLink y.cls i R1 f d ∈ tables_1) (wv : Jvm.Cond.sameField R1 O f d ∈ tables_1) (F : Fld Z h a O f d old) (E : Exa Z h a CC) (L : Jvm.Cond.lays CC O f d ∈ tables_1) (wi : Jvm.Cond.instantiable CC kk ∈ tables_1) (hty : parseFieldDescriptor d = some ty) (hn : narrow ty v = v) (hf : fits ty v = true) (ha : n0 ≤ a) (hd : De b pc (.putfield i) 3 n) (K : ∀ h', Wr h h' a (Jvm.RoadKit.slotOf Z O f d) v → Go B n0 Q h' ce sl n Ls S) : Go B n0 Q h ce sl pc Ls (v :: .ref a :: S) := by
  obtain ⟨p, l', e, R', s, m, args, below, meth, c⟩ := B
  obtain ⟨rfl, rfl, hx, rfl, hml, hown, hnm, hret, hlk, hZ, hw⟩ := C
  intro T locs X eT N
  obtain ⟨hd, rfl⟩ := hd
  obtain ⟨T', h', X', e', W, st⟩ := putF X hx hZ hown (host := "") (Or.inl (hw _ w)) (Via.of (hw _ wv)) eT F E (Or.inl (hw _ L)) (hw _ wi) hty hn hf (g := mkF m pc Ls (v :: .ref a :: S)) rfl rfl hd
  obtain ⟨s₂, o, st', r⟩ := K h' W T' _ X' e' (Fr.snoc X' N ha)
  exact ⟨s₂, o, st _ st', r⟩
theorem iGetSN (C : Cx B l Z a0 R y b mx rt) {i : Nat} {O f d host : String} {v : Value} (w : Jvm.Cond.fieldLinkNest y.cls i O f d host ∈ tables_1) (F : Sta Z h O f d v) (hd : De b pc (.getstatic i) 3 n) (K : Go B n0 Q h ce sl n Ls (v :: S)) : Go B n0 Q h ce sl pc Ls S := by
  obtain ⟨p, l', e, R', s, m, args, below, meth, c⟩ := B
  obtain ⟨rfl, rfl, hx, rfl, hml, hown, hnm, hret, hlk, hZ, hw⟩ := C
  intro T locs X eT N
  obtain ⟨hd, rfl⟩ := hd
  obtain ⟨T', X', e', st⟩ := getS2 X hx hZ hown (Or.inr (hw _ w)) Via.refl eT F (g := mkF m pc Ls S) rfl hd
  obtain ⟨s₂, o, st', r⟩ := K T' locs X' e' N
  exact ⟨s₂, o, st _ st', r⟩
theorem iCallPB (C : Cx B l Z a0 R y b mx rt) {yc : MethodName} {as' : Array Value} {Qc : Option Value → Heap → Prop} {i W cc ss ce' sl' : Nat} {argsL : List Value} {a : Addr} {CC : String} {cbx : ByteArray} {cmx : Nat} {crx : Option FieldType} (hM : Pay l Z R yc 3 W as' n0 h cc ss Qc) (E : Exa Z h a CC) (w1 : Jvm.Cond.methodLink y.cls i yc ∈ tables_1) (w2 : Jvm.Cond.instanceMethod yc ∈ tables_1) (w5 : Jvm.Cond.selects yc.cls yc yc ∈ tables_1) (w6 : Jvm.Cond.privateMethod yc ∈ tables_1) (w4 : Jvm.Cond.code yc cbx cmx crx ∈ tables_1) (hy : yc.cls ≠ "java/lang/invoke/MethodHandle" ∧ yc.cls ≠ "java/lang/invoke/VarHandle") (hlen : ∀ sig, parseMethodDescriptor yc.desc = some sig → argsL.length = sig.parameters.length) (hS : S = argsL.reverse ++ .ref a :: S') (has : (.ref a :: argsL).toArray = as') (hd : De b pc (.invokevirtual i) 3 n) (hsz : Ls.size = mx) (hW : (S'.map fun v => v.category).sum = W) (hr : ce + cc = ce' ∧ sl + ss = sl' ∧ ce' ≤ R.cells ∧ sl' ≤ R.slots) (K : ∀ (v : Option Value) (h' : Heap), Qc v h' → Go B n0 Q h' ce' sl' n Ls (v.toList ++ S')) : Go B n0 Q h ce sl pc Ls S := by
  obtain ⟨p, l', e, R', s, m, args, below, meth, c⟩ := B
  obtain ⟨rfl, rfl, hx, rfl, hml, hown, hnm, hret, hlk, hZ, hw⟩ := C
  intro T locs X eT N
  obtain ⟨hd, rfl⟩ := hd
  obtain ⟨rfl, rfl, hr3, hr4⟩ := hr
  subst hS has
  obtain ⟨cq, q1, q2⟩ := E.cell
  obtain ⟨v, vm₁, ⟨T', L', k', n'⟩, -, X', ⟨Lc, hQ, l', y', z'⟩, st⟩ := X.privateBack hx (y := yc) hown (mvT hZ (hw _ w1)) (mvT hZ (hw _ w2)) (mvT hZ (hw _ w5)) (Cond.privateMethod_at (mvP hZ (hw _ w6) (args := #[]))) (mvT hZ (hw _ w4)) hy (hM p e below s args hZ) (g := mkF m pc Ls (argsL.reverse ++ .ref a :: S')) rfl (by rw [hml]; exact hsz) (Steps.refl _) (a := a) (by rw [eT]; exact q1) q2 (argsL := argsL) (rest := S') hlen rfl (by show 2 * 0 + _ ≤ _; omega) hd (fun _ _ => ⟨rfl, eT, hr3, hr4⟩)
  dsimp only [Pt.U, Pt.locs, Pt.cells, Pt.slots] at X' l' y' z' st hQ
  subst l' y' z'
  obtain ⟨s₂, o, st', r⟩ := K v _ hQ.1 T' _ X' rfl (Fr.app N hQ.2)
  exact ⟨s₂, o, st.trans st', r⟩
theorem iCallP (C : Cx B l Z a0 R y b mx rt) {yc : MethodName} {cb : ByteArray} {cm : Nat} {cr : Option FieldType} {rm : Room} {as' : Array Value} {Qc : Option Value → Heap → Prop} {i W ce' sl' : Nat} {argsL : List Value} {a : Addr} {CC : String} (hM : Pays l Z yc cb cm cr rm as' n0 h Qc) (E : Exa Z h a CC) (w1 : Jvm.Cond.methodLink y.cls i yc ∈ tables_1) (w2 : Jvm.Cond.instanceMethod yc ∈ tables_1) (w5 : Jvm.Cond.selects yc.cls yc yc ∈ tables_1) (w6 : Jvm.Cond.privateMethod yc ∈ tables_1) (w3 : Jvm.Cond.initialized yc.cls ∈ tables_1) (w4 : Jvm.Cond.code yc cb cm cr ∈ tables_1) (hy : yc.cls ≠ "java/lang/invoke/MethodHandle" ∧ yc.cls ≠ "java/lang/invoke/VarHandle") (hlen : ∀ sig, parseMethodDescriptor yc.desc = some sig → argsL.length = sig.parameters.length) (hS : S = argsL.reverse ++ .ref a :: S') (has : (.ref a :: argsL).toArray = as') (hd : De b pc (.invokevirtual i) 3 n) (hsz : Ls.size = mx) (hW : (S'.map fun v => v.category).sum = W) (hr : rm.frames + 1 ≤ R.frames ∧ W + (cm + 11) + rm.locals ≤ R.locals ∧ ce + rm.cells = ce' ∧ sl + rm.slots = sl' ∧ ce' ≤ R.cells ∧ sl' ≤ R.slots) (K : ∀ (v : Option Value) (h' : Heap), Qc v h' → Go B n0 Q h' ce' sl' n Ls (v.toList ++ S')) : Go B n0 Q h ce sl pc Ls S :=
  iCallPB C (Pay.of hM C.words w4 w3 hr.1 hr.2.1) E w1 w2 w5 w6 w4 hy hlen hS has hd hsz hW hr.2.2 K
theorem mvLN {s : State} {args : Array Value} {own host : String} {i : Nat} {yc : MethodName} (hZ : Z.Warmed39 s.vm) (w : (Jvm.Cond.methodLinkNest own i yc host).before a0 Z = true) : (Jvm.Cond.methodLinkNest own i yc host).before args s = true := (Cond.methodLinkNest_wide hZ w :)
theorem iCallNB (C : Cx B l Z a0 R y b mx rt) {yc : MethodName} {as' : Array Value} {Qc : Option Value → Heap → Prop} {i W cc ss ce' sl' : Nat} {argsL : List Value} {a : Addr} {host : String} {cbx : ByteArray} {cmx : Nat} (hM : Pay l Z R yc 3 W as' n0 h cc ss Qc) (hi : yc.name = "<init>") (w1 : Jvm.Cond.methodLinkNest y.cls i yc host ∈ tables_1) (w2 : Jvm.Cond.instanceMethod yc ∈ tables_1) (w4 : Jvm.Cond.code yc cbx cmx none ∈ tables_1) (hy : yc.cls ≠ "java/lang/invoke/MethodHandle" ∧ yc.cls ≠ "java/lang/invoke/VarHandle") (hlen : ∀ sig, parseMethodDescriptor yc.desc = some sig → argsL.length = sig.parameters.length) (hS : S = argsL.reverse ++ .ref a :: S') (has : (.ref a :: argsL).toArray = as') (hd : De b pc (.invokespecial i) 3 n) (hsz : Ls.size = mx) (hW : (S'.map fun v => v.category).sum = W) (hr : ce + cc = ce' ∧ sl + ss = sl' ∧ ce' ≤ R.cells ∧ sl' ≤ R.slots) (K : ∀ (v : Option Value) (h' : Heap), Qc v h' → Go B n0 Q h' ce' sl' n Ls (v.toList ++ S')) : Go B n0 Q h ce sl pc Ls S := by
  obtain ⟨p, l', e, R', s, m, args, below, meth, c⟩ := B
  obtain ⟨rfl, rfl, hx, rfl, hml, hown, hnm, hret, hlk, hZ, hw⟩ := C
  intro T locs X eT N
  obtain ⟨hd, rfl⟩ := hd
  obtain ⟨rfl, rfl, hr3, hr4⟩ := hr
  subst hS has
  obtain ⟨v, vm₁, ⟨T', L', k', n'⟩, -, X', ⟨Lc, hQ, l', y', z'⟩, st⟩ := X.specialBackNest hx (y := yc) hi hown (mvLN hZ (hw _ w1)) (mvT hZ (hw _ w2)) (mvT hZ (hw _ w4)) hy (hM p e below s args hZ) (g := mkF m pc Ls (argsL.reverse ++ .ref a :: S')) rfl (by rw [hml]; exact hsz) (Steps.refl _) (a := a) (argsL := argsL) (rest := S') hlen rfl (by show 2 * 0 + _ ≤ _; omega) hd (fun _ _ => ⟨rfl, eT, hr3, hr4⟩)
  dsimp only [Pt.U, Pt.locs, Pt.cells, Pt.slots] at X' l' y' z' st hQ
  subst l' y' z'
  obtain ⟨s₂, o, st', r⟩ := K v _ hQ.1 T' _ X' rfl (Fr.app N hQ.2)
  exact ⟨s₂, o, st.trans st', r⟩
theorem iCallN (C : Cx B l Z a0 R y b mx rt) {yc : MethodName} {cb : ByteArray} {cm : Nat} {rm : Room} {as' : Array Value} {Qc : Option Value → Heap → Prop} {i W ce' sl' : Nat} {argsL : List Value} {a : Addr} {host : String} (hM : Pays l Z yc cb cm none rm as' n0 h Qc) (hi : yc.name = "<init>") (w1 : Jvm.Cond.methodLinkNest y.cls i yc host ∈ tables_1) (w2 : Jvm.Cond.instanceMethod yc ∈ tables_1) (w3 : Jvm.Cond.initialized yc.cls ∈ tables_1) (w4 : Jvm.Cond.code yc cb cm none ∈ tables_1) (hy : yc.cls ≠ "java/lang/invoke/MethodHandle" ∧ yc.cls ≠ "java/lang/invoke/VarHandle") (hlen : ∀ sig, parseMethodDescriptor yc.desc = some sig → argsL.length = sig.parameters.length) (hS : S = argsL.reverse ++ .ref a :: S') (has : (.ref a :: argsL).toArray = as') (hd : De b pc (.invokespecial i) 3 n) (hsz : Ls.size = mx) (hW : (S'.map fun v => v.category).sum = W) (hr : rm.frames + 1 ≤ R.frames ∧ W + (cm + 11) + rm.locals ≤ R.locals ∧ ce + rm.cells = ce' ∧ sl + rm.slots = sl' ∧ ce' ≤ R.cells ∧ sl' ≤ R.slots) (K : ∀ (v : Option Value) (h' : Heap), Qc v h' → Go B n0 Q h' ce' sl' n Ls (v.toList ++ S')) : Go B n0 Q h ce sl pc Ls S :=
  iCallNB C (Pay.of hM C.words w4 w3 hr.1 hr.2.1) hi w1 w2 w4 hy hlen hS has hd hsz hW hr.2.2 K
theorem iNewR (C : Cx B l Z a0 R y b mx rt) {i : Nat} {CC ad : String} {z : Int32} {cap ce' sl' : Nat} (w1 : Jvm.Cond.classLink y.cls i CC ∈ tables_1) (w2 : Jvm.Cond.arrayOver (.object CC) ∈ tables_1) (had : "[" ++ (FieldType.object CC).toString = ad) (hd : De b pc (.anewarray i) 3 n) (hz : ¬ z < 0) (hcap : z.toNatClampNeg ≤ cap) (hb : cap * 8 ≤ 536870912) (hc : ce + 1 = ce' ∧ sl + cap = sl' ∧ ce' ≤ R.cells ∧ sl' ≤ R.slots) (K : ∀ (h' : Heap) (a : Addr) (k : ClassId), a = h.size → Ext h h' → Arv Z h' a k (.object CC) z [] .null → Exa Z h' a ad → Ovr Z k CC → Go B n0 Q h' ce' sl' n Ls (.ref a :: S)) : Go B n0 Q h ce sl pc Ls (.int z :: S) := by
  obtain ⟨p, l', e, R', s, m, args, below, meth, c⟩ := B
  obtain ⟨rfl, rfl, hx, rfl, hml, hown, hnm, hret, hlk, hZ, hw⟩ := C
  intro T locs X eT N
  obtain ⟨hd, rfl⟩ := hd
  obtain ⟨rfl, rfl, hc, hs⟩ := hc
  obtain ⟨T', h', kA, X', e', E, A, A2, O, st⟩ := newRE X hx hZ hown (hw _ w1) (hw _ w2) eT (g := mkF m pc Ls (.int z :: S)) rfl hd rfl hz hcap hb hc hs had
  obtain ⟨s₂, o, st', r⟩ := K h' _ kA rfl E (Arv.new A hz) A2 O T' locs X' e' N
  exact ⟨s₂, o, st _ st', r⟩
def Mr (Z : State) (CC : String) (m : Addr) : Prop := ∃ (c : ClassId) (k : Class), Z.vm.findClass CC = some c ∧ Z.vm.classes[c]? = some k ∧ k.mirror = some m
theorem iGcls (C : Cx B l Z a0 R y b mx rt) {i W : Nat} {a mr : Addr} {CC : String} (w1 : Jvm.Cond.methodLink y.cls i ⟨"java/lang/Object", "getClass", "()Ljava/lang/Class;"⟩ ∈ tables_1) (w2 : Jvm.Cond.declares ⟨"java/lang/Object", "getClass", "()Ljava/lang/Class;"⟩ ∈ tables_1) (w3 : Jvm.Cond.noSuperclass "java/lang/Object" ∈ tables_1) (w4 : Jvm.Cond.selects CC ⟨"java/lang/Object", "getClass", "()Ljava/lang/Class;"⟩ ⟨"java/lang/Object", "getClass", "()Ljava/lang/Class;"⟩ ∈ tables_1) (w5 : Jvm.Cond.instanceMethod ⟨"java/lang/Object", "getClass", "()Ljava/lang/Class;"⟩ ∈ tables_1) (w6 : Jvm.Cond.native ⟨"java/lang/Object", "getClass", "()Ljava/lang/Class;"⟩ ∈ tables_1) (E : Exa Z h a CC) (M : Mr Z CC mr) (hd : De b pc (.invokevirtual i) 3 n) (hsz : Ls.size = mx) (hf : 1 ≤ R.frames) (hW : (S.map fun v => v.category).sum = W) (hl : W + (nativeFrameWords "java/lang/Object" "getClass" 1 + 11) ≤ R.locals) (K : Go B n0 Q h ce sl n Ls (.ref mr :: S)) : Go B n0 Q h ce sl pc Ls (.ref a :: S) := by
  obtain ⟨p, l', e, R', s, m, args, below, meth, c⟩ := B
  obtain ⟨rfl, rfl, hx, rfl, hml, hown, hnm, hret, hlk, hZ, hw⟩ := C
  intro T locs X eT N
  obtain ⟨hd, rfl⟩ := hd
  obtain ⟨cB, kB, i1, i2, i3⟩ := isOf hZ eT E
  obtain ⟨cc, kc, m1, m2, m3⟩ := M
  have f1 : s.vm.findClass CC = some cc := by rw [hZ.alike.findClass]; exact m1
  cases i1.symm.trans f1
  obtain ⟨k', q, ek⟩ := hZ.alike.2.2 _ _ m2
  obtain ⟨vm', X', st⟩ := X.getClassOf hx hown (mvT hZ (hw _ w1)) (mvT hZ (hw _ w2)) (nf_top (args := #[]) (mvT hZ (hw _ w3))) (mvT hZ (hw _ w4)) (mvT hZ (hw _ w5)) (mvT hZ (hw _ w6)) f1 i3 q (by rw [ek]; exact m3) (g := mkF m pc Ls (.ref a :: S)) rfl (by rw [hml]; exact hsz) rfl hd hf (by show 2 * 0 + _ + _ ≤ _; omega)
  obtain ⟨s₂, o, st', r⟩ := K _ locs X' eT N
  exact ⟨s₂, o, st _ st', r⟩
theorem iLdcM (C : Cx B l Z a0 R y b mx rt) {i : Nat} {CC : String} {mr : Addr} (w : Jvm.Cond.classLink y.cls i CC ∈ tables_1) (M : Mr Z CC mr) (hd : De b pc (.ldc i) 2 n) (K : Go B n0 Q h ce sl n Ls (.ref mr :: S)) : Go B n0 Q h ce sl pc Ls S := by
  obtain ⟨p, l', e, R', s, m, args, below, meth, c⟩ := B
  obtain ⟨rfl, rfl, hx, rfl, hml, hown, hnm, hret, hlk, hZ, hw⟩ := C
  intro T locs X eT N
  obtain ⟨hd, rfl⟩ := hd
  obtain ⟨cc, k, m1, m2, m3⟩ := M
  obtain ⟨k', q1, q2⟩ := hZ.alike.2.2 _ _ m2
  have f1 : s.vm.findClass CC = some cc := by rw [hZ.alike.findClass]; exact m1
  have f2 : k'.mirror = some mr := by rw [q2]; exact m3
  have ev : (Term.mirror CC).eval args s none [] s = some (.ref mr) := by simp [Term.eval, f1, q1, f2]
  obtain ⟨vm', X', st⟩ := X.ldcMirror hx hown (mvT hZ (hw _ w)) ev (g := mkF m pc Ls S) rfl hd
  obtain ⟨s₂, o, st', r⟩ := K _ locs X' eT N
  exact ⟨s₂, o, st _ st', r⟩
theorem iCpA (C : Cx B l Z a0 R y b mx rt) {i W : Nat} {a a' : Addr} {k k' : ClassId} {ty ty' : FieldType} {z z' sp dp nn : Int32} {vs vd us : List Value} {dv dd : Value} (w1 : Jvm.Cond.methodLink y.cls i Jvm.Stand.acN ∈ tables_1) (w2 : Jvm.Cond.native Jvm.Stand.acN ∈ tables_1) (w3 : Jvm.Cond.static Jvm.Stand.acN ∈ tables_1) (w4 : Jvm.Cond.initialized "java/lang/System" ∈ tables_1) (A : Arv Z h a k ty z vs dv) (A' : Arv Z h a' k' ty' z' vd dd) (hty : (ty = ty' ∧ refKind ty = false) ∨ (refKind ty = true ∧ refKind ty' = true ∧ StoL Z h a' us)) (h1 : ¬ sp < 0) (h2 : ¬ dp < 0) (h3 : ¬ nn < 0) (h4 : sp.toNatClampNeg + nn.toNatClampNeg ≤ z.toNatClampNeg) (h5 : dp.toNatClampNeg + nn.toNatClampNeg ≤ z'.toNatClampNeg) (hus : us = (List.range nn.toNatClampNeg).map fun i => vs.getD (sp.toNatClampNeg + i) dv) (hl : dp.toNatClampNeg + nn.toNatClampNeg ≤ vd.length) (ge : n0 ≤ a') (hd : De b pc (.invokestatic i) 3 n) (hsz : Ls.size = mx) (hf : 1 ≤ R.frames) (hW : (S.map fun v => v.category).sum = W) (hlo : W + (nativeFrameWords "java/lang/System" "arraycopy" 5 + 11) ≤ R.locals) (K : ∀ h', Keep h h' [a'] → Arv Z h' a' k' ty' z' (vd.take dp.toNatClampNeg ++ us ++ vd.drop (dp.toNatClampNeg + nn.toNatClampNeg)) dd → Go B n0 Q h' ce sl n Ls S) : Go B n0 Q h ce sl pc Ls (.int nn :: .int dp :: .ref a' :: .int sp :: .ref a :: S) := by
  obtain ⟨p, l', e, R', s, m, args, below, meth, c⟩ := B
  obtain ⟨rfl, rfl, hx, rfl, hml, hown, hnm, hret, hlk, hZ, hw⟩ := C
  intro T locs X eT N
  obtain ⟨hd, rfl⟩ := hd
  obtain ⟨T', h', L', X', e', N', K', A2, st⟩ := cpA X hx hZ hown (hw _ w1) (hw _ w2) (hw _ w3) (hw _ w4) eT A A' hty h1 h2 h3 h4 h5 hus hl N ge (g := mkF m pc Ls (.int nn :: .int dp :: .ref a' :: .int sp :: .ref a :: S)) rfl (by rw [hml]; exact hsz) rfl hd hf (W := W) (by show 2 * 0 + _ ≤ _; omega) hlo
  obtain ⟨s₂, o, st', r⟩ := K h' K' A2 T' L' X' e' N'
  exact ⟨s₂, o, st _ st', r⟩
theorem iTswIn (C : Cx B l Z a0 R y b mx rt) {dflt low high : Int} {offs : Array Int} {len t : Nat} {o : Int} {x : Int32} (hd : De b pc (.tableswitch dflt low high offs) len n) (hin : ¬ (x.toInt < low ∨ x.toInt > high)) (hoff : offs[(x.toInt - low).toNat]? = some o) (hj : 0 ≤ (pc : Int) + o ∧ ((pc : Int) + o).toNat = t) (K : Go B n0 Q h ce sl t Ls S) : Go B n0 Q h ce sl pc Ls (.int x :: S) := by
  obtain ⟨p, l', e, R', s, m, args, below, meth, c⟩ := B
  obtain ⟨rfl, rfl, hx, rfl, hml, hown, hnm, hret, hlk, hZ, hw⟩ := C
  intro T locs X eT N
  obtain ⟨hd, -⟩ := hd
  obtain ⟨s₂, oo, st, r⟩ := K T locs X eT N
  exact ⟨s₂, oo, XS.tswIn X.here hx rfl rfl hd rfl hin hoff hj.1 hj.2 st, r⟩
theorem iTswOut (C : Cx B l Z a0 R y b mx rt) {dflt low high : Int} {offs : Array Int} {len t : Nat} {x : Int32} (hd : De b pc (.tableswitch dflt low high offs) len n) (hout : x.toInt < low ∨ x.toInt > high) (hj : 0 ≤ (pc : Int) + dflt ∧ ((pc : Int) + dflt).toNat = t) (K : Go B n0 Q h ce sl t Ls S) : Go B n0 Q h ce sl pc Ls (.int x :: S) := by
  obtain ⟨p, l', e, R', s, m, args, below, meth, c⟩ := B
  obtain ⟨rfl, rfl, hx, rfl, hml, hown, hnm, hret, hlk, hZ, hw⟩ := C
  intro T locs X eT N
  obtain ⟨hd, -⟩ := hd
  obtain ⟨s₂, oo, st, r⟩ := K T locs X eT N
  exact ⟨s₂, oo, XS.tswOut X.here hx rfl rfl hd rfl hout hj.1 hj.2 st, r⟩
theorem insKeep {a : Addr} {K1 : String} {h' : Heap} {ws : List Addr} (F : Ins Z h a K1 true) (K : Keep h h' ws) : Ins Z h' a K1 true := by
  obtain ⟨cell, cT, h1, h2, h3⟩ := F
  obtain ⟨c', q1, q2, q3, q4⟩ := K.2.2 a cell h1
  exact ⟨c', cT, q1, h2, by rw [q2, q3]; exact h3⟩
theorem nsI {a0' : Array Value} {CC S1 K1 : String} {kk : Nat} (w : (Jvm.Cond.superclass CC S1).before a0' Z = true) (wk : (Jvm.Cond.instantiable K1 kk).before a0' Z = true) (q : NS Z CC K1) (hn : CC ≠ K1) : ∃ c t, Z.vm.findClass CC = some c ∧ Z.vm.findClass K1 = some t ∧ Z.vm.assignable c t = false := by
  obtain ⟨c, t, h0, g0, n3⟩ := q
  obtain ⟨p, k, kp, h1, h2, h3, h4, h5, -, h7⟩ := Cond.superclass_spec h0 w
  obtain ⟨t', k', g1, g2, g3, g4, -⟩ := Cond.instantiable_spec wk
  cases g0.symm.trans g1
  have g7 : k'.isInterface = false := (Bool.or_eq_false_iff.mp g4).1
  have ne := ids_ne h0 g0 hn
  refine ⟨c, t, h0, g0, ?_⟩
  show Z.vm.assignableAux (255 + 1) c t = false
  simp [Vm.assignableAux, ne, h2, g2, h5, g3, g7, Vm.isSubclass, n3]
theorem nsRoot {a0' : Array Value} {O1 K1 : String} {kk : Nat} (w : (Jvm.Cond.noSuperclass O1).before a0' Z = true) (wk : (Jvm.Cond.instantiable K1 kk).before a0' Z = true) (hn : O1 ≠ K1) : NS Z O1 K1 := by
  obtain ⟨c, k, h1, h2, h3, -, -⟩ := Cond.noSuperclass_spec w
  obtain ⟨t, k', g1, -⟩ := Cond.instantiable_spec wk
  have ne := ids_ne h1 g1 hn
  refine ⟨c, t, h1, g1, fun fuel => ?_⟩
  cases fuel with
  | zero => rfl
  | succ f => simp [Vm.isSubclassAux, ne, h2, h3]
end Flow

theorem tw0 : (Jvm.Cond.classLink "com/example/uketsuke/uketsuke/core/conversation/PageContinuesAfterPinLaw" (7 : Nat) "java/util/ArrayList") ∈ tables_1 := List.mem_of_getElem? (i := 0) rfl
theorem tw1 : (Jvm.Cond.instantiable "java/util/ArrayList" (3 : Nat)) ∈ tables_1 := List.mem_of_getElem? (i := 1) rfl
theorem tw2 : (Jvm.Cond.initialized "java/util/ArrayList") ∈ tables_1 := List.mem_of_getElem? (i := 2) rfl
theorem tw3 : (Jvm.Cond.methodLink "com/example/uketsuke/uketsuke/core/conversation/PageContinuesAfterPinLaw" (9 : Nat) ({ cls := "java/util/ArrayList", name := "<init>", desc := "()V" } : Jvm.MethodName)) ∈ tables_1 := List.mem_of_getElem? (i := 3) rfl
theorem tw4 : (Jvm.Cond.instanceMethod ({ cls := "java/util/ArrayList", name := "<init>", desc := "()V" } : Jvm.MethodName)) ∈ tables_1 := List.mem_of_getElem? (i := 4) rfl
theorem tw5 : (Jvm.Cond.code ({ cls := "java/util/ArrayList", name := "<init>", desc := "()V" } : Jvm.MethodName) jdk_38_method_2_code (1 : Nat) (Option.none : Option Jvm.ClassFile.FieldType)) ∈ tables_1 := List.mem_of_getElem? (i := 5) rfl
theorem tw6 : (Jvm.Cond.methodLink "java/util/ArrayList" (1 : Nat) ({ cls := "java/util/AbstractList", name := "<init>", desc := "()V" } : Jvm.MethodName)) ∈ tables_1 := List.mem_of_getElem? (i := 6) rfl
theorem tw7 : (Jvm.Cond.instanceMethod ({ cls := "java/util/AbstractList", name := "<init>", desc := "()V" } : Jvm.MethodName)) ∈ tables_1 := List.mem_of_getElem? (i := 7) rfl
theorem tw10 : (Jvm.Cond.initialized "java/util/AbstractList") ∈ tables_1 := List.mem_of_getElem? (i := 10) rfl
theorem tw11 : (Jvm.Cond.code ({ cls := "java/util/AbstractList", name := "<init>", desc := "()V" } : Jvm.MethodName) jdk_39_method_1_code (1 : Nat) (Option.none : Option Jvm.ClassFile.FieldType)) ∈ tables_1 := List.mem_of_getElem? (i := 11) rfl
theorem tw12 : (Jvm.Cond.methodLink "java/util/AbstractList" (1 : Nat) ({ cls := "java/util/AbstractCollection", name := "<init>", desc := "()V" } : Jvm.MethodName)) ∈ tables_1 := List.mem_of_getElem? (i := 12) rfl
theorem tw13 : (Jvm.Cond.instanceMethod ({ cls := "java/util/AbstractCollection", name := "<init>", desc := "()V" } : Jvm.MethodName)) ∈ tables_1 := List.mem_of_getElem? (i := 13) rfl
theorem tw16 : (Jvm.Cond.initialized "java/util/AbstractCollection") ∈ tables_1 := List.mem_of_getElem? (i := 16) rfl
theorem tw17 : (Jvm.Cond.code ({ cls := "java/util/AbstractCollection", name := "<init>", desc := "()V" } : Jvm.MethodName) jdk_22_method_1_code (1 : Nat) (Option.none : Option Jvm.ClassFile.FieldType)) ∈ tables_1 := List.mem_of_getElem? (i := 17) rfl
theorem tw18 : (Jvm.Cond.methodLink "java/util/AbstractCollection" (1 : Nat) ({ cls := "java/lang/Object", name := "<init>", desc := "()V" } : Jvm.MethodName)) ∈ tables_1 := List.mem_of_getElem? (i := 18) rfl
theorem tw19 : (Jvm.Cond.instanceMethod ({ cls := "java/lang/Object", name := "<init>", desc := "()V" } : Jvm.MethodName)) ∈ tables_1 := List.mem_of_getElem? (i := 19) rfl
theorem tw20 : (Jvm.Cond.code ({ cls := "java/lang/Object", name := "<init>", desc := "()V" } : Jvm.MethodName) object_method_1_code (1 : Nat) (Option.none : Option Jvm.ClassFile.FieldType)) ∈ tables_1 := List.mem_of_getElem? (i := 20) rfl
theorem tw21 : (Jvm.Cond.fieldLink "java/util/AbstractList" (7 : Nat) "java/util/AbstractList" "modCount" "I") ∈ tables_1 := List.mem_of_getElem? (i := 21) rfl
theorem tw22 : (Jvm.Cond.lays "java/util/ArrayList" "java/util/AbstractList" "modCount" "I") ∈ tables_1 := List.mem_of_getElem? (i := 22) rfl
theorem tw23 : (Jvm.Cond.fieldLink "java/util/ArrayList" (39 : Nat) "java/util/ArrayList" "DEFAULTCAPACITY_EMPTY_ELEMENTDATA" "[Ljava/lang/Object;") ∈ tables_1 := List.mem_of_getElem? (i := 23) rfl
theorem tw24 : (Jvm.Cond.fieldLink "java/util/ArrayList" (9 : Nat) "java/util/ArrayList" "elementData" "[Ljava/lang/Object;") ∈ tables_1 := List.mem_of_getElem? (i := 24) rfl
theorem tw25 : (Jvm.Cond.lays "java/util/ArrayList" "java/util/ArrayList" "elementData" "[Ljava/lang/Object;") ∈ tables_1 := List.mem_of_getElem? (i := 25) rfl
theorem tw26 : (Jvm.Cond.classLink "com/example/uketsuke/uketsuke/core/conversation/PageContinuesAfterPinLaw" (20 : Nat) "com/example/uketsuke/uketsuke/core/conversation/Page") ∈ tables_1 := List.mem_of_getElem? (i := 26) rfl
theorem tw27 : (Jvm.Cond.instantiable "com/example/uketsuke/uketsuke/core/conversation/Page" (2 : Nat)) ∈ tables_1 := List.mem_of_getElem? (i := 27) rfl
theorem tw28 : (Jvm.Cond.initialized "com/example/uketsuke/uketsuke/core/conversation/Page") ∈ tables_1 := List.mem_of_getElem? (i := 28) rfl
theorem tw29 : (Jvm.Cond.methodLink "com/example/uketsuke/uketsuke/core/conversation/PageContinuesAfterPinLaw" (22 : Nat) ({ cls := "com/example/uketsuke/uketsuke/core/conversation/Page", name := "<init>", desc := "(Ljava/util/List;Z)V" } : Jvm.MethodName)) ∈ tables_1 := List.mem_of_getElem? (i := 29) rfl
theorem tw30 : (Jvm.Cond.instanceMethod ({ cls := "com/example/uketsuke/uketsuke/core/conversation/Page", name := "<init>", desc := "(Ljava/util/List;Z)V" } : Jvm.MethodName)) ∈ tables_1 := List.mem_of_getElem? (i := 30) rfl
theorem tw31 : (Jvm.Cond.code ({ cls := "com/example/uketsuke/uketsuke/core/conversation/Page", name := "<init>", desc := "(Ljava/util/List;Z)V" } : Jvm.MethodName) prog_28_method_1_code (3 : Nat) (Option.none : Option Jvm.ClassFile.FieldType)) ∈ tables_1 := List.mem_of_getElem? (i := 31) rfl
theorem tw32 : (Jvm.Cond.methodLink "com/example/uketsuke/uketsuke/core/conversation/Page" (1 : Nat) ({ cls := "java/lang/Record", name := "<init>", desc := "()V" } : Jvm.MethodName)) ∈ tables_1 := List.mem_of_getElem? (i := 32) rfl
theorem tw33 : (Jvm.Cond.instanceMethod ({ cls := "java/lang/Record", name := "<init>", desc := "()V" } : Jvm.MethodName)) ∈ tables_1 := List.mem_of_getElem? (i := 33) rfl
theorem tw35 : (Jvm.Cond.initialized "java/lang/Record") ∈ tables_1 := List.mem_of_getElem? (i := 35) rfl
theorem tw36 : (Jvm.Cond.code ({ cls := "java/lang/Record", name := "<init>", desc := "()V" } : Jvm.MethodName) jdk_30_method_1_code (1 : Nat) (Option.none : Option Jvm.ClassFile.FieldType)) ∈ tables_1 := List.mem_of_getElem? (i := 36) rfl
theorem tw37 : (Jvm.Cond.methodLink "java/lang/Record" (1 : Nat) ({ cls := "java/lang/Object", name := "<init>", desc := "()V" } : Jvm.MethodName)) ∈ tables_1 := List.mem_of_getElem? (i := 37) rfl
theorem tw38 : (Jvm.Cond.methodLink "com/example/uketsuke/uketsuke/core/conversation/Page" (7 : Nat) ({ cls := "java/util/List", name := "copyOf", desc := "(Ljava/util/Collection;)Ljava/util/List;" } : Jvm.MethodName)) ∈ tables_1 := List.mem_of_getElem? (i := 38) rfl
theorem tw39 : (Jvm.Cond.static ({ cls := "java/util/List", name := "copyOf", desc := "(Ljava/util/Collection;)Ljava/util/List;" } : Jvm.MethodName)) ∈ tables_1 := List.mem_of_getElem? (i := 39) rfl
theorem tw40 : (Jvm.Cond.initialized "java/util/List") ∈ tables_1 := List.mem_of_getElem? (i := 40) rfl
theorem tw41 : (Jvm.Cond.code ({ cls := "java/util/List", name := "copyOf", desc := "(Ljava/util/Collection;)Ljava/util/List;" } : Jvm.MethodName) jdk_40_method_48_code (1 : Nat) (Option.some (Jvm.ClassFile.FieldType.object "java/util/List"))) ∈ tables_1 := List.mem_of_getElem? (i := 41) rfl
theorem tw42 : (Jvm.Cond.methodLink "java/util/List" (112 : Nat) ({ cls := "java/util/ImmutableCollections", name := "listCopy", desc := "(Ljava/util/Collection;)Ljava/util/List;" } : Jvm.MethodName)) ∈ tables_1 := List.mem_of_getElem? (i := 42) rfl
theorem tw43 : (Jvm.Cond.static ({ cls := "java/util/ImmutableCollections", name := "listCopy", desc := "(Ljava/util/Collection;)Ljava/util/List;" } : Jvm.MethodName)) ∈ tables_1 := List.mem_of_getElem? (i := 43) rfl
theorem tw44 : (Jvm.Cond.initialized "java/util/ImmutableCollections") ∈ tables_1 := List.mem_of_getElem? (i := 44) rfl
theorem tw45 : (Jvm.Cond.code ({ cls := "java/util/ImmutableCollections", name := "listCopy", desc := "(Ljava/util/Collection;)Ljava/util/List;" } : Jvm.MethodName) jdk_56_method_3_code (2 : Nat) (Option.some (Jvm.ClassFile.FieldType.object "java/util/List"))) ∈ tables_1 := List.mem_of_getElem? (i := 45) rfl
theorem tw46 : (Jvm.Cond.classLink "java/util/ImmutableCollections" (10 : Nat) "java/util/ImmutableCollections$List12") ∈ tables_1 := List.mem_of_getElem? (i := 46) rfl
theorem tw47 : (Jvm.Cond.superclass "java/util/ArrayList" "java/util/AbstractList") ∈ tables_1 := List.mem_of_getElem? (i := 47) rfl
theorem tw48 : (Jvm.Cond.superclass "java/util/AbstractList" "java/util/AbstractCollection") ∈ tables_1 := List.mem_of_getElem? (i := 48) rfl
theorem tw49 : (Jvm.Cond.superclass "java/util/AbstractCollection" "java/lang/Object") ∈ tables_1 := List.mem_of_getElem? (i := 49) rfl
theorem tw50 : (Jvm.Cond.noSuperclass "java/lang/Object") ∈ tables_1 := List.mem_of_getElem? (i := 50) rfl
theorem tw51 : (Jvm.Cond.classLink "java/util/ImmutableCollections" (12 : Nat) "java/util/ImmutableCollections$ListN") ∈ tables_1 := List.mem_of_getElem? (i := 51) rfl
theorem tw52 : (Jvm.Cond.methodLink "java/util/ImmutableCollections" (20 : Nat) ({ cls := "java/util/Collection", name := "isEmpty", desc := "()Z" } : Jvm.MethodName)) ∈ tables_1 := List.mem_of_getElem? (i := 52) rfl
theorem tw53 : (Jvm.Cond.declares ({ cls := "java/util/Collection", name := "isEmpty", desc := "()Z" } : Jvm.MethodName)) ∈ tables_1 := List.mem_of_getElem? (i := 53) rfl
theorem tw54 : (Jvm.Cond.interfaceMethod "java/util/Collection" "java/util/Collection" "isEmpty" "()Z") ∈ tables_1 := List.mem_of_getElem? (i := 54) rfl
theorem tw55 : (Jvm.Cond.selects "java/util/ArrayList" ({ cls := "java/util/Collection", name := "isEmpty", desc := "()Z" } : Jvm.MethodName) ({ cls := "java/util/ArrayList", name := "isEmpty", desc := "()Z" } : Jvm.MethodName)) ∈ tables_1 := List.mem_of_getElem? (i := 55) rfl
theorem tw56 : (Jvm.Cond.instanceMethod ({ cls := "java/util/ArrayList", name := "isEmpty", desc := "()Z" } : Jvm.MethodName)) ∈ tables_1 := List.mem_of_getElem? (i := 56) rfl
theorem tw57 : (Jvm.Cond.publicMethod ({ cls := "java/util/ArrayList", name := "isEmpty", desc := "()Z" } : Jvm.MethodName)) ∈ tables_1 := List.mem_of_getElem? (i := 57) rfl
theorem tw58 : (Jvm.Cond.unhidden "java/util/ArrayList" "isEmpty" "()Z") ∈ tables_1 := List.mem_of_getElem? (i := 58) rfl
theorem tw59 : (Jvm.Cond.castable "java/util/ArrayList" "java/util/Collection") ∈ tables_1 := List.mem_of_getElem? (i := 59) rfl
theorem tw60 : (Jvm.Cond.code ({ cls := "java/util/ArrayList", name := "isEmpty", desc := "()Z" } : Jvm.MethodName) jdk_38_method_9_code (1 : Nat) (Option.some Jvm.ClassFile.FieldType.boolean)) ∈ tables_1 := List.mem_of_getElem? (i := 60) rfl
theorem tw61 : (Jvm.Cond.fieldLink "java/util/ArrayList" (48 : Nat) "java/util/ArrayList" "size" "I") ∈ tables_1 := List.mem_of_getElem? (i := 61) rfl
theorem tw62 : (Jvm.Cond.lays "java/util/ArrayList" "java/util/ArrayList" "size" "I") ∈ tables_1 := List.mem_of_getElem? (i := 62) rfl
theorem tw63 : (Jvm.Cond.methodLink "java/util/ImmutableCollections" (26 : Nat) ({ cls := "java/util/List", name := "of", desc := "()Ljava/util/List;" } : Jvm.MethodName)) ∈ tables_1 := List.mem_of_getElem? (i := 63) rfl
theorem tw64 : (Jvm.Cond.static ({ cls := "java/util/List", name := "of", desc := "()Ljava/util/List;" } : Jvm.MethodName)) ∈ tables_1 := List.mem_of_getElem? (i := 64) rfl
theorem tw65 : (Jvm.Cond.code ({ cls := "java/util/List", name := "of", desc := "()Ljava/util/List;" } : Jvm.MethodName) jdk_40_method_36_code (0 : Nat) (Option.some (Jvm.ClassFile.FieldType.object "java/util/List"))) ∈ tables_1 := List.mem_of_getElem? (i := 65) rfl
theorem tw66 : (Jvm.Cond.fieldLink "java/util/List" (90 : Nat) "java/util/ImmutableCollections" "EMPTY_LIST" "Ljava/util/ImmutableCollections$ListN;") ∈ tables_1 := List.mem_of_getElem? (i := 66) rfl
theorem tw67 : (Jvm.Cond.fieldLink "com/example/uketsuke/uketsuke/core/conversation/Page" (13 : Nat) "com/example/uketsuke/uketsuke/core/conversation/Page" "items" "Ljava/util/List;") ∈ tables_1 := List.mem_of_getElem? (i := 67) rfl
theorem tw68 : (Jvm.Cond.laysFinal "com/example/uketsuke/uketsuke/core/conversation/Page" "com/example/uketsuke/uketsuke/core/conversation/Page" "items" "Ljava/util/List;") ∈ tables_1 := List.mem_of_getElem? (i := 68) rfl
theorem tw69 : (Jvm.Cond.fieldLink "com/example/uketsuke/uketsuke/core/conversation/Page" (19 : Nat) "com/example/uketsuke/uketsuke/core/conversation/Page" "more" "Z") ∈ tables_1 := List.mem_of_getElem? (i := 69) rfl
theorem tw70 : (Jvm.Cond.laysFinal "com/example/uketsuke/uketsuke/core/conversation/Page" "com/example/uketsuke/uketsuke/core/conversation/Page" "more" "Z") ∈ tables_1 := List.mem_of_getElem? (i := 70) rfl
theorem tw71 : (Jvm.Cond.methodLink "com/example/uketsuke/uketsuke/core/conversation/PageContinuesAfterPinLaw" (25 : Nat) ({ cls := "com/example/uketsuke/uketsuke/core/conversation/Page", name := "continuesAfter", desc := "()Ljava/util/Optional;" } : Jvm.MethodName)) ∈ tables_1 := List.mem_of_getElem? (i := 71) rfl
theorem tw72 : (Jvm.Cond.declares ({ cls := "com/example/uketsuke/uketsuke/core/conversation/Page", name := "continuesAfter", desc := "()Ljava/util/Optional;" } : Jvm.MethodName)) ∈ tables_1 := List.mem_of_getElem? (i := 72) rfl
theorem tw73 : (Jvm.Cond.instanceMethod ({ cls := "com/example/uketsuke/uketsuke/core/conversation/Page", name := "continuesAfter", desc := "()Ljava/util/Optional;" } : Jvm.MethodName)) ∈ tables_1 := List.mem_of_getElem? (i := 73) rfl
theorem tw74 : (Jvm.Cond.selects "com/example/uketsuke/uketsuke/core/conversation/Page" ({ cls := "com/example/uketsuke/uketsuke/core/conversation/Page", name := "continuesAfter", desc := "()Ljava/util/Optional;" } : Jvm.MethodName) ({ cls := "com/example/uketsuke/uketsuke/core/conversation/Page", name := "continuesAfter", desc := "()Ljava/util/Optional;" } : Jvm.MethodName)) ∈ tables_1 := List.mem_of_getElem? (i := 74) rfl
theorem tw75 : (Jvm.Cond.code ({ cls := "com/example/uketsuke/uketsuke/core/conversation/Page", name := "continuesAfter", desc := "()Ljava/util/Optional;" } : Jvm.MethodName) prog_28_method_3_code (1 : Nat) (Option.some (Jvm.ClassFile.FieldType.object "java/util/Optional"))) ∈ tables_1 := List.mem_of_getElem? (i := 75) rfl
theorem tw76 : (Jvm.Cond.methodLink "com/example/uketsuke/uketsuke/core/conversation/Page" (44 : Nat) ({ cls := "java/util/Optional", name := "empty", desc := "()Ljava/util/Optional;" } : Jvm.MethodName)) ∈ tables_1 := List.mem_of_getElem? (i := 76) rfl
theorem tw77 : (Jvm.Cond.static ({ cls := "java/util/Optional", name := "empty", desc := "()Ljava/util/Optional;" } : Jvm.MethodName)) ∈ tables_1 := List.mem_of_getElem? (i := 77) rfl
theorem tw78 : (Jvm.Cond.initialized "java/util/Optional") ∈ tables_1 := List.mem_of_getElem? (i := 78) rfl
theorem tw79 : (Jvm.Cond.code ({ cls := "java/util/Optional", name := "empty", desc := "()Ljava/util/Optional;" } : Jvm.MethodName) jdk_32_method_1_code (1 : Nat) (Option.some (Jvm.ClassFile.FieldType.object "java/util/Optional"))) ∈ tables_1 := List.mem_of_getElem? (i := 79) rfl
theorem tw80 : (Jvm.Cond.fieldLink "java/util/Optional" (1 : Nat) "java/util/Optional" "EMPTY" "Ljava/util/Optional;") ∈ tables_1 := List.mem_of_getElem? (i := 80) rfl
theorem tw81 : (Jvm.Cond.methodLink "com/example/uketsuke/uketsuke/core/conversation/PageContinuesAfterPinLaw" (29 : Nat) ({ cls := "java/util/Optional", name := "isPresent", desc := "()Z" } : Jvm.MethodName)) ∈ tables_1 := List.mem_of_getElem? (i := 81) rfl
theorem tw82 : (Jvm.Cond.declares ({ cls := "java/util/Optional", name := "isPresent", desc := "()Z" } : Jvm.MethodName)) ∈ tables_1 := List.mem_of_getElem? (i := 82) rfl
theorem tw83 : (Jvm.Cond.instanceMethod ({ cls := "java/util/Optional", name := "isPresent", desc := "()Z" } : Jvm.MethodName)) ∈ tables_1 := List.mem_of_getElem? (i := 83) rfl
theorem tw84 : (Jvm.Cond.selects "java/util/Optional" ({ cls := "java/util/Optional", name := "isPresent", desc := "()Z" } : Jvm.MethodName) ({ cls := "java/util/Optional", name := "isPresent", desc := "()Z" } : Jvm.MethodName)) ∈ tables_1 := List.mem_of_getElem? (i := 84) rfl
theorem tw85 : (Jvm.Cond.code ({ cls := "java/util/Optional", name := "isPresent", desc := "()Z" } : Jvm.MethodName) jdk_32_method_6_code (1 : Nat) (Option.some Jvm.ClassFile.FieldType.boolean)) ∈ tables_1 := List.mem_of_getElem? (i := 85) rfl
theorem tw86 : (Jvm.Cond.fieldLink "java/util/Optional" (13 : Nat) "java/util/Optional" "value" "Ljava/lang/Object;") ∈ tables_1 := List.mem_of_getElem? (i := 86) rfl
theorem tw87 : (Jvm.Cond.laysFinal "java/util/Optional" "java/util/Optional" "value" "Ljava/lang/Object;") ∈ tables_1 := List.mem_of_getElem? (i := 87) rfl
theorem tw88 : (Jvm.Cond.methodLink "com/example/uketsuke/uketsuke/core/conversation/PageContinuesAfterPinLaw" (10 : Nat) ({ cls := "java/lang/Integer", name := "valueOf", desc := "(I)Ljava/lang/Integer;" } : Jvm.MethodName)) ∈ tables_1 := List.mem_of_getElem? (i := 88) rfl
theorem tw89 : (Jvm.Cond.static ({ cls := "java/lang/Integer", name := "valueOf", desc := "(I)Ljava/lang/Integer;" } : Jvm.MethodName)) ∈ tables_1 := List.mem_of_getElem? (i := 89) rfl
theorem tw90 : (Jvm.Cond.initialized "java/lang/Integer") ∈ tables_1 := List.mem_of_getElem? (i := 90) rfl
theorem tw91 : (Jvm.Cond.code ({ cls := "java/lang/Integer", name := "valueOf", desc := "(I)Ljava/lang/Integer;" } : Jvm.MethodName) jdk_33_method_22_code (1 : Nat) (Option.some (Jvm.ClassFile.FieldType.object "java/lang/Integer"))) ∈ tables_1 := List.mem_of_getElem? (i := 91) rfl
theorem tw92 : (Jvm.Cond.fieldLink "java/lang/Integer" (191 : Nat) "java/lang/Integer$IntegerCache" "high" "I") ∈ tables_1 := List.mem_of_getElem? (i := 92) rfl
theorem tw93 : (Jvm.Cond.initialized "java/lang/Integer$IntegerCache") ∈ tables_1 := List.mem_of_getElem? (i := 93) rfl
theorem tw94 : (Jvm.Cond.fieldLink "java/lang/Integer" (195 : Nat) "java/lang/Integer$IntegerCache" "cache" "[Ljava/lang/Integer;") ∈ tables_1 := List.mem_of_getElem? (i := 94) rfl
theorem tw95 : (Jvm.Cond.methodLink "com/example/uketsuke/uketsuke/core/conversation/PageContinuesAfterPinLaw" (16 : Nat) ({ cls := "java/util/ArrayList", name := "add", desc := "(Ljava/lang/Object;)Z" } : Jvm.MethodName)) ∈ tables_1 := List.mem_of_getElem? (i := 95) rfl
theorem tw96 : (Jvm.Cond.declares ({ cls := "java/util/ArrayList", name := "add", desc := "(Ljava/lang/Object;)Z" } : Jvm.MethodName)) ∈ tables_1 := List.mem_of_getElem? (i := 96) rfl
theorem tw97 : (Jvm.Cond.instanceMethod ({ cls := "java/util/ArrayList", name := "add", desc := "(Ljava/lang/Object;)Z" } : Jvm.MethodName)) ∈ tables_1 := List.mem_of_getElem? (i := 97) rfl
theorem tw98 : (Jvm.Cond.selects "java/util/ArrayList" ({ cls := "java/util/ArrayList", name := "add", desc := "(Ljava/lang/Object;)Z" } : Jvm.MethodName) ({ cls := "java/util/ArrayList", name := "add", desc := "(Ljava/lang/Object;)Z" } : Jvm.MethodName)) ∈ tables_1 := List.mem_of_getElem? (i := 98) rfl
theorem tw99 : (Jvm.Cond.code ({ cls := "java/util/ArrayList", name := "add", desc := "(Ljava/lang/Object;)Z" } : Jvm.MethodName) jdk_38_method_25_code (2 : Nat) (Option.some Jvm.ClassFile.FieldType.boolean)) ∈ tables_1 := List.mem_of_getElem? (i := 99) rfl
theorem tw100 : (Jvm.Cond.fieldLink "java/util/ArrayList" (63 : Nat) "java/util/ArrayList" "modCount" "I") ∈ tables_1 := List.mem_of_getElem? (i := 100) rfl
theorem tw101 : (Jvm.Cond.sameField "java/util/ArrayList" "java/util/AbstractList" "modCount" "I") ∈ tables_1 := List.mem_of_getElem? (i := 101) rfl
theorem tw102 : (Jvm.Cond.methodLink "java/util/ArrayList" (131 : Nat) ({ cls := "java/util/ArrayList", name := "add", desc := "(Ljava/lang/Object;[Ljava/lang/Object;I)V" } : Jvm.MethodName)) ∈ tables_1 := List.mem_of_getElem? (i := 102) rfl
theorem tw103 : (Jvm.Cond.instanceMethod ({ cls := "java/util/ArrayList", name := "add", desc := "(Ljava/lang/Object;[Ljava/lang/Object;I)V" } : Jvm.MethodName)) ∈ tables_1 := List.mem_of_getElem? (i := 103) rfl
theorem tw104 : (Jvm.Cond.privateMethod ({ cls := "java/util/ArrayList", name := "add", desc := "(Ljava/lang/Object;[Ljava/lang/Object;I)V" } : Jvm.MethodName)) ∈ tables_1 := List.mem_of_getElem? (i := 104) rfl
theorem tw105 : (Jvm.Cond.selects "java/util/ArrayList" ({ cls := "java/util/ArrayList", name := "add", desc := "(Ljava/lang/Object;[Ljava/lang/Object;I)V" } : Jvm.MethodName) ({ cls := "java/util/ArrayList", name := "add", desc := "(Ljava/lang/Object;[Ljava/lang/Object;I)V" } : Jvm.MethodName)) ∈ tables_1 := List.mem_of_getElem? (i := 105) rfl
theorem tw106 : (Jvm.Cond.code ({ cls := "java/util/ArrayList", name := "add", desc := "(Ljava/lang/Object;[Ljava/lang/Object;I)V" } : Jvm.MethodName) jdk_38_method_24_code (4 : Nat) (Option.none : Option Jvm.ClassFile.FieldType)) ∈ tables_1 := List.mem_of_getElem? (i := 106) rfl
theorem tw107 : (Jvm.Cond.methodLink "java/util/ArrayList" (129 : Nat) ({ cls := "java/util/ArrayList", name := "grow", desc := "()[Ljava/lang/Object;" } : Jvm.MethodName)) ∈ tables_1 := List.mem_of_getElem? (i := 107) rfl
theorem tw108 : (Jvm.Cond.instanceMethod ({ cls := "java/util/ArrayList", name := "grow", desc := "()[Ljava/lang/Object;" } : Jvm.MethodName)) ∈ tables_1 := List.mem_of_getElem? (i := 108) rfl
theorem tw109 : (Jvm.Cond.privateMethod ({ cls := "java/util/ArrayList", name := "grow", desc := "()[Ljava/lang/Object;" } : Jvm.MethodName)) ∈ tables_1 := List.mem_of_getElem? (i := 109) rfl
theorem tw110 : (Jvm.Cond.selects "java/util/ArrayList" ({ cls := "java/util/ArrayList", name := "grow", desc := "()[Ljava/lang/Object;" } : Jvm.MethodName) ({ cls := "java/util/ArrayList", name := "grow", desc := "()[Ljava/lang/Object;" } : Jvm.MethodName)) ∈ tables_1 := List.mem_of_getElem? (i := 110) rfl
theorem tw111 : (Jvm.Cond.code ({ cls := "java/util/ArrayList", name := "grow", desc := "()[Ljava/lang/Object;" } : Jvm.MethodName) jdk_38_method_7_code (1 : Nat) (Option.some (Jvm.ClassFile.FieldType.array (Jvm.ClassFile.FieldType.object "java/lang/Object")))) ∈ tables_1 := List.mem_of_getElem? (i := 111) rfl
theorem tw112 : (Jvm.Cond.methodLink "java/util/ArrayList" (69 : Nat) ({ cls := "java/util/ArrayList", name := "grow", desc := "(I)[Ljava/lang/Object;" } : Jvm.MethodName)) ∈ tables_1 := List.mem_of_getElem? (i := 112) rfl
theorem tw113 : (Jvm.Cond.instanceMethod ({ cls := "java/util/ArrayList", name := "grow", desc := "(I)[Ljava/lang/Object;" } : Jvm.MethodName)) ∈ tables_1 := List.mem_of_getElem? (i := 113) rfl
theorem tw114 : (Jvm.Cond.privateMethod ({ cls := "java/util/ArrayList", name := "grow", desc := "(I)[Ljava/lang/Object;" } : Jvm.MethodName)) ∈ tables_1 := List.mem_of_getElem? (i := 114) rfl
theorem tw115 : (Jvm.Cond.selects "java/util/ArrayList" ({ cls := "java/util/ArrayList", name := "grow", desc := "(I)[Ljava/lang/Object;" } : Jvm.MethodName) ({ cls := "java/util/ArrayList", name := "grow", desc := "(I)[Ljava/lang/Object;" } : Jvm.MethodName)) ∈ tables_1 := List.mem_of_getElem? (i := 115) rfl
theorem tw116 : (Jvm.Cond.code ({ cls := "java/util/ArrayList", name := "grow", desc := "(I)[Ljava/lang/Object;" } : Jvm.MethodName) jdk_38_method_6_code (4 : Nat) (Option.some (Jvm.ClassFile.FieldType.array (Jvm.ClassFile.FieldType.object "java/lang/Object")))) ∈ tables_1 := List.mem_of_getElem? (i := 116) rfl
theorem tw117 : (Jvm.Cond.methodLink "java/util/ArrayList" (79 : Nat) ({ cls := "java/lang/Math", name := "max", desc := "(II)I" } : Jvm.MethodName)) ∈ tables_1 := List.mem_of_getElem? (i := 117) rfl
theorem tw118 : (Jvm.Cond.static ({ cls := "java/lang/Math", name := "max", desc := "(II)I" } : Jvm.MethodName)) ∈ tables_1 := List.mem_of_getElem? (i := 118) rfl
theorem tw119 : (Jvm.Cond.initialized "java/lang/Math") ∈ tables_1 := List.mem_of_getElem? (i := 119) rfl
theorem tw120 : (Jvm.Cond.code ({ cls := "java/lang/Math", name := "max", desc := "(II)I" } : Jvm.MethodName) jdk_29_method_65_code (2 : Nat) (Option.some Jvm.ClassFile.FieldType.int)) ∈ tables_1 := List.mem_of_getElem? (i := 120) rfl
theorem tw121 : (Jvm.Cond.classLink "java/util/ArrayList" (7 : Nat) "java/lang/Object") ∈ tables_1 := List.mem_of_getElem? (i := 121) rfl
theorem tw122 : (Jvm.Cond.arrayOver (Jvm.ClassFile.FieldType.object "java/lang/Object")) ∈ tables_1 := List.mem_of_getElem? (i := 122) rfl
theorem tw123 : (Jvm.Cond.castable "java/lang/Integer" "java/lang/Object") ∈ tables_1 := List.mem_of_getElem? (i := 123) rfl
theorem tw124 : (Jvm.Cond.methodLink "java/util/ImmutableCollections" (30 : Nat) ({ cls := "java/util/Collection", name := "toArray", desc := "()[Ljava/lang/Object;" } : Jvm.MethodName)) ∈ tables_1 := List.mem_of_getElem? (i := 124) rfl
theorem tw125 : (Jvm.Cond.declares ({ cls := "java/util/Collection", name := "toArray", desc := "()[Ljava/lang/Object;" } : Jvm.MethodName)) ∈ tables_1 := List.mem_of_getElem? (i := 125) rfl
theorem tw126 : (Jvm.Cond.interfaceMethod "java/util/Collection" "java/util/Collection" "toArray" "()[Ljava/lang/Object;") ∈ tables_1 := List.mem_of_getElem? (i := 126) rfl
theorem tw127 : (Jvm.Cond.selects "java/util/ArrayList" ({ cls := "java/util/Collection", name := "toArray", desc := "()[Ljava/lang/Object;" } : Jvm.MethodName) ({ cls := "java/util/ArrayList", name := "toArray", desc := "()[Ljava/lang/Object;" } : Jvm.MethodName)) ∈ tables_1 := List.mem_of_getElem? (i := 127) rfl
theorem tw128 : (Jvm.Cond.instanceMethod ({ cls := "java/util/ArrayList", name := "toArray", desc := "()[Ljava/lang/Object;" } : Jvm.MethodName)) ∈ tables_1 := List.mem_of_getElem? (i := 128) rfl
theorem tw129 : (Jvm.Cond.publicMethod ({ cls := "java/util/ArrayList", name := "toArray", desc := "()[Ljava/lang/Object;" } : Jvm.MethodName)) ∈ tables_1 := List.mem_of_getElem? (i := 129) rfl
theorem tw130 : (Jvm.Cond.unhidden "java/util/ArrayList" "toArray" "()[Ljava/lang/Object;") ∈ tables_1 := List.mem_of_getElem? (i := 130) rfl
theorem tw131 : (Jvm.Cond.code ({ cls := "java/util/ArrayList", name := "toArray", desc := "()[Ljava/lang/Object;" } : Jvm.MethodName) jdk_38_method_16_code (1 : Nat) (Option.some (Jvm.ClassFile.FieldType.array (Jvm.ClassFile.FieldType.object "java/lang/Object")))) ∈ tables_1 := List.mem_of_getElem? (i := 131) rfl
theorem tw132 : (Jvm.Cond.methodLink "java/util/ArrayList" (66 : Nat) ({ cls := "java/util/Arrays", name := "copyOf", desc := "([Ljava/lang/Object;I)[Ljava/lang/Object;" } : Jvm.MethodName)) ∈ tables_1 := List.mem_of_getElem? (i := 132) rfl
theorem tw133 : (Jvm.Cond.static ({ cls := "java/util/Arrays", name := "copyOf", desc := "([Ljava/lang/Object;I)[Ljava/lang/Object;" } : Jvm.MethodName)) ∈ tables_1 := List.mem_of_getElem? (i := 133) rfl
theorem tw134 : (Jvm.Cond.initialized "java/util/Arrays") ∈ tables_1 := List.mem_of_getElem? (i := 134) rfl
theorem tw135 : (Jvm.Cond.code ({ cls := "java/util/Arrays", name := "copyOf", desc := "([Ljava/lang/Object;I)[Ljava/lang/Object;" } : Jvm.MethodName) jdk_65_method_119_code (2 : Nat) (Option.some (Jvm.ClassFile.FieldType.array (Jvm.ClassFile.FieldType.object "java/lang/Object")))) ∈ tables_1 := List.mem_of_getElem? (i := 135) rfl
theorem tw136 : (Jvm.Cond.methodLink "java/util/Arrays" (86 : Nat) ({ cls := "java/lang/Object", name := "getClass", desc := "()Ljava/lang/Class;" } : Jvm.MethodName)) ∈ tables_1 := List.mem_of_getElem? (i := 136) rfl
theorem tw137 : (Jvm.Cond.declares ({ cls := "java/lang/Object", name := "getClass", desc := "()Ljava/lang/Class;" } : Jvm.MethodName)) ∈ tables_1 := List.mem_of_getElem? (i := 137) rfl
theorem tw138 : (Jvm.Cond.instanceMethod ({ cls := "java/lang/Object", name := "getClass", desc := "()Ljava/lang/Class;" } : Jvm.MethodName)) ∈ tables_1 := List.mem_of_getElem? (i := 138) rfl
theorem tw139 : (Jvm.Cond.selects "[Ljava/lang/Object;" ({ cls := "java/lang/Object", name := "getClass", desc := "()Ljava/lang/Class;" } : Jvm.MethodName) ({ cls := "java/lang/Object", name := "getClass", desc := "()Ljava/lang/Class;" } : Jvm.MethodName)) ∈ tables_1 := List.mem_of_getElem? (i := 139) rfl
theorem tw140 : (Jvm.Cond.native ({ cls := "java/lang/Object", name := "getClass", desc := "()Ljava/lang/Class;" } : Jvm.MethodName)) ∈ tables_1 := List.mem_of_getElem? (i := 140) rfl
theorem tw142 : (Jvm.Cond.methodLink "java/util/Arrays" (300 : Nat) ({ cls := "java/util/Arrays", name := "copyOf", desc := "([Ljava/lang/Object;ILjava/lang/Class;)[Ljava/lang/Object;" } : Jvm.MethodName)) ∈ tables_1 := List.mem_of_getElem? (i := 142) rfl
theorem tw143 : (Jvm.Cond.static ({ cls := "java/util/Arrays", name := "copyOf", desc := "([Ljava/lang/Object;ILjava/lang/Class;)[Ljava/lang/Object;" } : Jvm.MethodName)) ∈ tables_1 := List.mem_of_getElem? (i := 143) rfl
theorem tw144 : (Jvm.Cond.code ({ cls := "java/util/Arrays", name := "copyOf", desc := "([Ljava/lang/Object;ILjava/lang/Class;)[Ljava/lang/Object;" } : Jvm.MethodName) jdk_65_method_120_code (4 : Nat) (Option.some (Jvm.ClassFile.FieldType.array (Jvm.ClassFile.FieldType.object "java/lang/Object")))) ∈ tables_1 := List.mem_of_getElem? (i := 144) rfl
theorem tw145 : (Jvm.Cond.classLink "java/util/Arrays" (110 : Nat) "[Ljava/lang/Object;") ∈ tables_1 := List.mem_of_getElem? (i := 145) rfl
theorem tw146 : (Jvm.Cond.classLink "java/util/Arrays" (2 : Nat) "java/lang/Object") ∈ tables_1 := List.mem_of_getElem? (i := 146) rfl
theorem tw147 : (Jvm.Cond.methodLink "java/util/Arrays" (304 : Nat) ({ cls := "java/lang/Math", name := "min", desc := "(II)I" } : Jvm.MethodName)) ∈ tables_1 := List.mem_of_getElem? (i := 147) rfl
theorem tw148 : (Jvm.Cond.static ({ cls := "java/lang/Math", name := "min", desc := "(II)I" } : Jvm.MethodName)) ∈ tables_1 := List.mem_of_getElem? (i := 148) rfl
theorem tw149 : (Jvm.Cond.code ({ cls := "java/lang/Math", name := "min", desc := "(II)I" } : Jvm.MethodName) jdk_29_method_69_code (2 : Nat) (Option.some Jvm.ClassFile.FieldType.int)) ∈ tables_1 := List.mem_of_getElem? (i := 149) rfl
theorem tw150 : (Jvm.Cond.methodLink "java/util/Arrays" (150 : Nat) ({ cls := "java/lang/System", name := "arraycopy", desc := "(Ljava/lang/Object;ILjava/lang/Object;II)V" } : Jvm.MethodName)) ∈ tables_1 := List.mem_of_getElem? (i := 150) rfl
theorem tw151 : (Jvm.Cond.static ({ cls := "java/lang/System", name := "arraycopy", desc := "(Ljava/lang/Object;ILjava/lang/Object;II)V" } : Jvm.MethodName)) ∈ tables_1 := List.mem_of_getElem? (i := 151) rfl
theorem tw152 : (Jvm.Cond.initialized "java/lang/System") ∈ tables_1 := List.mem_of_getElem? (i := 152) rfl
theorem tw153 : (Jvm.Cond.native ({ cls := "java/lang/System", name := "arraycopy", desc := "(Ljava/lang/Object;ILjava/lang/Object;II)V" } : Jvm.MethodName)) ∈ tables_1 := List.mem_of_getElem? (i := 153) rfl
theorem tw154 : (Jvm.Cond.methodLink "java/util/ImmutableCollections" (34 : Nat) ({ cls := "java/util/List", name := "of", desc := "([Ljava/lang/Object;)Ljava/util/List;" } : Jvm.MethodName)) ∈ tables_1 := List.mem_of_getElem? (i := 154) rfl
theorem tw155 : (Jvm.Cond.static ({ cls := "java/util/List", name := "of", desc := "([Ljava/lang/Object;)Ljava/util/List;" } : Jvm.MethodName)) ∈ tables_1 := List.mem_of_getElem? (i := 155) rfl
theorem tw156 : (Jvm.Cond.code ({ cls := "java/util/List", name := "of", desc := "([Ljava/lang/Object;)Ljava/util/List;" } : Jvm.MethodName) jdk_40_method_47_code (2 : Nat) (Option.some (Jvm.ClassFile.FieldType.object "java/util/List"))) ∈ tables_1 := List.mem_of_getElem? (i := 156) rfl
theorem tw157 : (Jvm.Cond.classLink "java/util/List" (96 : Nat) "java/util/ImmutableCollections$List12") ∈ tables_1 := List.mem_of_getElem? (i := 157) rfl
theorem tw158 : (Jvm.Cond.instantiable "java/util/ImmutableCollections$List12" (2 : Nat)) ∈ tables_1 := List.mem_of_getElem? (i := 158) rfl
theorem tw159 : (Jvm.Cond.initialized "java/util/ImmutableCollections$List12") ∈ tables_1 := List.mem_of_getElem? (i := 159) rfl
theorem tw160 : (Jvm.Cond.methodLink "java/util/List" (100 : Nat) ({ cls := "java/util/ImmutableCollections$List12", name := "<init>", desc := "(Ljava/lang/Object;Ljava/lang/Object;)V" } : Jvm.MethodName)) ∈ tables_1 := List.mem_of_getElem? (i := 160) rfl
theorem tw161 : (Jvm.Cond.instanceMethod ({ cls := "java/util/ImmutableCollections$List12", name := "<init>", desc := "(Ljava/lang/Object;Ljava/lang/Object;)V" } : Jvm.MethodName)) ∈ tables_1 := List.mem_of_getElem? (i := 161) rfl
theorem tw163 : (Jvm.Cond.code ({ cls := "java/util/ImmutableCollections$List12", name := "<init>", desc := "(Ljava/lang/Object;Ljava/lang/Object;)V" } : Jvm.MethodName) jdk_44_method_2_code (3 : Nat) (Option.none : Option Jvm.ClassFile.FieldType)) ∈ tables_1 := List.mem_of_getElem? (i := 163) rfl
theorem tw164 : (Jvm.Cond.methodLink "java/util/ImmutableCollections$List12" (1 : Nat) ({ cls := "java/util/ImmutableCollections$AbstractImmutableList", name := "<init>", desc := "()V" } : Jvm.MethodName)) ∈ tables_1 := List.mem_of_getElem? (i := 164) rfl
theorem tw165 : (Jvm.Cond.instanceMethod ({ cls := "java/util/ImmutableCollections$AbstractImmutableList", name := "<init>", desc := "()V" } : Jvm.MethodName)) ∈ tables_1 := List.mem_of_getElem? (i := 165) rfl
theorem tw168 : (Jvm.Cond.initialized "java/util/ImmutableCollections$AbstractImmutableList") ∈ tables_1 := List.mem_of_getElem? (i := 168) rfl
theorem tw169 : (Jvm.Cond.code ({ cls := "java/util/ImmutableCollections$AbstractImmutableList", name := "<init>", desc := "()V" } : Jvm.MethodName) jdk_46_method_1_code (1 : Nat) (Option.none : Option Jvm.ClassFile.FieldType)) ∈ tables_1 := List.mem_of_getElem? (i := 169) rfl
theorem tw170 : (Jvm.Cond.methodLink "java/util/ImmutableCollections$AbstractImmutableList" (1 : Nat) ({ cls := "java/util/ImmutableCollections$AbstractImmutableCollection", name := "<init>", desc := "()V" } : Jvm.MethodName)) ∈ tables_1 := List.mem_of_getElem? (i := 170) rfl
theorem tw171 : (Jvm.Cond.instanceMethod ({ cls := "java/util/ImmutableCollections$AbstractImmutableCollection", name := "<init>", desc := "()V" } : Jvm.MethodName)) ∈ tables_1 := List.mem_of_getElem? (i := 171) rfl
theorem tw174 : (Jvm.Cond.initialized "java/util/ImmutableCollections$AbstractImmutableCollection") ∈ tables_1 := List.mem_of_getElem? (i := 174) rfl
theorem tw175 : (Jvm.Cond.code ({ cls := "java/util/ImmutableCollections$AbstractImmutableCollection", name := "<init>", desc := "()V" } : Jvm.MethodName) jdk_47_method_1_code (1 : Nat) (Option.none : Option Jvm.ClassFile.FieldType)) ∈ tables_1 := List.mem_of_getElem? (i := 175) rfl
theorem tw176 : (Jvm.Cond.methodLink "java/util/ImmutableCollections$AbstractImmutableCollection" (1 : Nat) ({ cls := "java/util/AbstractCollection", name := "<init>", desc := "()V" } : Jvm.MethodName)) ∈ tables_1 := List.mem_of_getElem? (i := 176) rfl
theorem tw178 : (Jvm.Cond.methodLink "java/util/ImmutableCollections$List12" (7 : Nat) ({ cls := "java/util/Objects", name := "requireNonNull", desc := "(Ljava/lang/Object;)Ljava/lang/Object;" } : Jvm.MethodName)) ∈ tables_1 := List.mem_of_getElem? (i := 178) rfl
theorem tw179 : (Jvm.Cond.static ({ cls := "java/util/Objects", name := "requireNonNull", desc := "(Ljava/lang/Object;)Ljava/lang/Object;" } : Jvm.MethodName)) ∈ tables_1 := List.mem_of_getElem? (i := 179) rfl
theorem tw180 : (Jvm.Cond.initialized "java/util/Objects") ∈ tables_1 := List.mem_of_getElem? (i := 180) rfl
theorem tw181 : (Jvm.Cond.code ({ cls := "java/util/Objects", name := "requireNonNull", desc := "(Ljava/lang/Object;)Ljava/lang/Object;" } : Jvm.MethodName) jdk_31_method_10_code (1 : Nat) (Option.some (Jvm.ClassFile.FieldType.object "java/lang/Object"))) ∈ tables_1 := List.mem_of_getElem? (i := 181) rfl
theorem tw182 : (Jvm.Cond.fieldLink "java/util/ImmutableCollections$List12" (13 : Nat) "java/util/ImmutableCollections$List12" "e0" "Ljava/lang/Object;") ∈ tables_1 := List.mem_of_getElem? (i := 182) rfl
theorem tw183 : (Jvm.Cond.laysFinal "java/util/ImmutableCollections$List12" "java/util/ImmutableCollections$List12" "e0" "Ljava/lang/Object;") ∈ tables_1 := List.mem_of_getElem? (i := 183) rfl
theorem tw184 : (Jvm.Cond.fieldLink "java/util/ImmutableCollections$List12" (24 : Nat) "java/util/ImmutableCollections$List12" "e1" "Ljava/lang/Object;") ∈ tables_1 := List.mem_of_getElem? (i := 184) rfl
theorem tw185 : (Jvm.Cond.laysFinal "java/util/ImmutableCollections$List12" "java/util/ImmutableCollections$List12" "e1" "Ljava/lang/Object;") ∈ tables_1 := List.mem_of_getElem? (i := 185) rfl
theorem tw186 : (Jvm.Cond.classLink "java/lang/Integer" (1 : Nat) "java/lang/Integer") ∈ tables_1 := List.mem_of_getElem? (i := 186) rfl
theorem tw187 : (Jvm.Cond.instantiable "java/lang/Integer" (1 : Nat)) ∈ tables_1 := List.mem_of_getElem? (i := 187) rfl
theorem tw188 : (Jvm.Cond.methodLink "java/lang/Integer" (199 : Nat) ({ cls := "java/lang/Integer", name := "<init>", desc := "(I)V" } : Jvm.MethodName)) ∈ tables_1 := List.mem_of_getElem? (i := 188) rfl
theorem tw189 : (Jvm.Cond.instanceMethod ({ cls := "java/lang/Integer", name := "<init>", desc := "(I)V" } : Jvm.MethodName)) ∈ tables_1 := List.mem_of_getElem? (i := 189) rfl
theorem tw191 : (Jvm.Cond.code ({ cls := "java/lang/Integer", name := "<init>", desc := "(I)V" } : Jvm.MethodName) jdk_33_method_23_code (2 : Nat) (Option.none : Option Jvm.ClassFile.FieldType)) ∈ tables_1 := List.mem_of_getElem? (i := 191) rfl
theorem tw192 : (Jvm.Cond.methodLink "java/lang/Integer" (202 : Nat) ({ cls := "java/lang/Number", name := "<init>", desc := "()V" } : Jvm.MethodName)) ∈ tables_1 := List.mem_of_getElem? (i := 192) rfl
theorem tw193 : (Jvm.Cond.instanceMethod ({ cls := "java/lang/Number", name := "<init>", desc := "()V" } : Jvm.MethodName)) ∈ tables_1 := List.mem_of_getElem? (i := 193) rfl
theorem tw196 : (Jvm.Cond.initialized "java/lang/Number") ∈ tables_1 := List.mem_of_getElem? (i := 196) rfl
theorem tw197 : (Jvm.Cond.code ({ cls := "java/lang/Number", name := "<init>", desc := "()V" } : Jvm.MethodName) jdk_18_method_1_code (1 : Nat) (Option.none : Option Jvm.ClassFile.FieldType)) ∈ tables_1 := List.mem_of_getElem? (i := 197) rfl
theorem tw198 : (Jvm.Cond.methodLink "java/lang/Number" (1 : Nat) ({ cls := "java/lang/Object", name := "<init>", desc := "()V" } : Jvm.MethodName)) ∈ tables_1 := List.mem_of_getElem? (i := 198) rfl
theorem tw199 : (Jvm.Cond.fieldLink "java/lang/Integer" (205 : Nat) "java/lang/Integer" "value" "I") ∈ tables_1 := List.mem_of_getElem? (i := 199) rfl
theorem tw200 : (Jvm.Cond.laysFinal "java/lang/Integer" "java/lang/Integer" "value" "I") ∈ tables_1 := List.mem_of_getElem? (i := 200) rfl
theorem tw201 : (Jvm.Cond.methodLink "java/util/List" (98 : Nat) ({ cls := "java/util/ImmutableCollections$List12", name := "<init>", desc := "(Ljava/lang/Object;)V" } : Jvm.MethodName)) ∈ tables_1 := List.mem_of_getElem? (i := 201) rfl
theorem tw202 : (Jvm.Cond.instanceMethod ({ cls := "java/util/ImmutableCollections$List12", name := "<init>", desc := "(Ljava/lang/Object;)V" } : Jvm.MethodName)) ∈ tables_1 := List.mem_of_getElem? (i := 202) rfl
theorem tw203 : (Jvm.Cond.code ({ cls := "java/util/ImmutableCollections$List12", name := "<init>", desc := "(Ljava/lang/Object;)V" } : Jvm.MethodName) jdk_44_method_1_code (2 : Nat) (Option.none : Option Jvm.ClassFile.FieldType)) ∈ tables_1 := List.mem_of_getElem? (i := 203) rfl
theorem tw204 : (Jvm.Cond.fieldLinkNest "java/util/ImmutableCollections$List12" (19 : Nat) "java/util/ImmutableCollections" "EMPTY" "Ljava/lang/Object;" "java/util/ImmutableCollections") ∈ tables_1 := List.mem_of_getElem? (i := 204) rfl
theorem tw205 : (Jvm.Cond.methodLink "com/example/uketsuke/uketsuke/core/conversation/Page" (23 : Nat) ({ cls := "java/util/List", name := "size", desc := "()I" } : Jvm.MethodName)) ∈ tables_1 := List.mem_of_getElem? (i := 205) rfl
theorem tw206 : (Jvm.Cond.declares ({ cls := "java/util/List", name := "size", desc := "()I" } : Jvm.MethodName)) ∈ tables_1 := List.mem_of_getElem? (i := 206) rfl
theorem tw207 : (Jvm.Cond.interfaceMethod "java/util/List" "java/util/List" "size" "()I") ∈ tables_1 := List.mem_of_getElem? (i := 207) rfl
theorem tw208 : (Jvm.Cond.selects "java/util/ImmutableCollections$List12" ({ cls := "java/util/List", name := "size", desc := "()I" } : Jvm.MethodName) ({ cls := "java/util/ImmutableCollections$List12", name := "size", desc := "()I" } : Jvm.MethodName)) ∈ tables_1 := List.mem_of_getElem? (i := 208) rfl
theorem tw209 : (Jvm.Cond.instanceMethod ({ cls := "java/util/ImmutableCollections$List12", name := "size", desc := "()I" } : Jvm.MethodName)) ∈ tables_1 := List.mem_of_getElem? (i := 209) rfl
theorem tw210 : (Jvm.Cond.publicMethod ({ cls := "java/util/ImmutableCollections$List12", name := "size", desc := "()I" } : Jvm.MethodName)) ∈ tables_1 := List.mem_of_getElem? (i := 210) rfl
theorem tw211 : (Jvm.Cond.unhidden "java/util/ImmutableCollections$List12" "size" "()I") ∈ tables_1 := List.mem_of_getElem? (i := 211) rfl
theorem tw212 : (Jvm.Cond.castable "java/util/ImmutableCollections$List12" "java/util/List") ∈ tables_1 := List.mem_of_getElem? (i := 212) rfl
theorem tw213 : (Jvm.Cond.code ({ cls := "java/util/ImmutableCollections$List12", name := "size", desc := "()I" } : Jvm.MethodName) jdk_44_method_3_code (1 : Nat) (Option.some Jvm.ClassFile.FieldType.int)) ∈ tables_1 := List.mem_of_getElem? (i := 213) rfl
theorem tw214 : (Jvm.Cond.methodLink "com/example/uketsuke/uketsuke/core/conversation/Page" (34 : Nat) ({ cls := "java/util/List", name := "get", desc := "(I)Ljava/lang/Object;" } : Jvm.MethodName)) ∈ tables_1 := List.mem_of_getElem? (i := 214) rfl
theorem tw215 : (Jvm.Cond.declares ({ cls := "java/util/List", name := "get", desc := "(I)Ljava/lang/Object;" } : Jvm.MethodName)) ∈ tables_1 := List.mem_of_getElem? (i := 215) rfl
theorem tw216 : (Jvm.Cond.interfaceMethod "java/util/List" "java/util/List" "get" "(I)Ljava/lang/Object;") ∈ tables_1 := List.mem_of_getElem? (i := 216) rfl
theorem tw217 : (Jvm.Cond.selects "java/util/ImmutableCollections$List12" ({ cls := "java/util/List", name := "get", desc := "(I)Ljava/lang/Object;" } : Jvm.MethodName) ({ cls := "java/util/ImmutableCollections$List12", name := "get", desc := "(I)Ljava/lang/Object;" } : Jvm.MethodName)) ∈ tables_1 := List.mem_of_getElem? (i := 217) rfl
theorem tw218 : (Jvm.Cond.instanceMethod ({ cls := "java/util/ImmutableCollections$List12", name := "get", desc := "(I)Ljava/lang/Object;" } : Jvm.MethodName)) ∈ tables_1 := List.mem_of_getElem? (i := 218) rfl
theorem tw219 : (Jvm.Cond.publicMethod ({ cls := "java/util/ImmutableCollections$List12", name := "get", desc := "(I)Ljava/lang/Object;" } : Jvm.MethodName)) ∈ tables_1 := List.mem_of_getElem? (i := 219) rfl
theorem tw220 : (Jvm.Cond.unhidden "java/util/ImmutableCollections$List12" "get" "(I)Ljava/lang/Object;") ∈ tables_1 := List.mem_of_getElem? (i := 220) rfl
theorem tw221 : (Jvm.Cond.code ({ cls := "java/util/ImmutableCollections$List12", name := "get", desc := "(I)Ljava/lang/Object;" } : Jvm.MethodName) jdk_44_method_5_code (2 : Nat) (Option.some (Jvm.ClassFile.FieldType.object "java/lang/Object"))) ∈ tables_1 := List.mem_of_getElem? (i := 221) rfl
theorem tw222 : (Jvm.Cond.methodLink "com/example/uketsuke/uketsuke/core/conversation/Page" (38 : Nat) ({ cls := "java/util/Optional", name := "of", desc := "(Ljava/lang/Object;)Ljava/util/Optional;" } : Jvm.MethodName)) ∈ tables_1 := List.mem_of_getElem? (i := 222) rfl
theorem tw223 : (Jvm.Cond.static ({ cls := "java/util/Optional", name := "of", desc := "(Ljava/lang/Object;)Ljava/util/Optional;" } : Jvm.MethodName)) ∈ tables_1 := List.mem_of_getElem? (i := 223) rfl
theorem tw224 : (Jvm.Cond.code ({ cls := "java/util/Optional", name := "of", desc := "(Ljava/lang/Object;)Ljava/util/Optional;" } : Jvm.MethodName) jdk_32_method_3_code (1 : Nat) (Option.some (Jvm.ClassFile.FieldType.object "java/util/Optional"))) ∈ tables_1 := List.mem_of_getElem? (i := 224) rfl
theorem tw225 : (Jvm.Cond.classLink "java/util/Optional" (2 : Nat) "java/util/Optional") ∈ tables_1 := List.mem_of_getElem? (i := 225) rfl
theorem tw226 : (Jvm.Cond.instantiable "java/util/Optional" (1 : Nat)) ∈ tables_1 := List.mem_of_getElem? (i := 226) rfl
theorem tw227 : (Jvm.Cond.methodLink "java/util/Optional" (17 : Nat) ({ cls := "java/util/Objects", name := "requireNonNull", desc := "(Ljava/lang/Object;)Ljava/lang/Object;" } : Jvm.MethodName)) ∈ tables_1 := List.mem_of_getElem? (i := 227) rfl
theorem tw228 : (Jvm.Cond.methodLink "java/util/Optional" (23 : Nat) ({ cls := "java/util/Optional", name := "<init>", desc := "(Ljava/lang/Object;)V" } : Jvm.MethodName)) ∈ tables_1 := List.mem_of_getElem? (i := 228) rfl
theorem tw229 : (Jvm.Cond.instanceMethod ({ cls := "java/util/Optional", name := "<init>", desc := "(Ljava/lang/Object;)V" } : Jvm.MethodName)) ∈ tables_1 := List.mem_of_getElem? (i := 229) rfl
theorem tw231 : (Jvm.Cond.code ({ cls := "java/util/Optional", name := "<init>", desc := "(Ljava/lang/Object;)V" } : Jvm.MethodName) jdk_32_method_2_code (2 : Nat) (Option.none : Option Jvm.ClassFile.FieldType)) ∈ tables_1 := List.mem_of_getElem? (i := 231) rfl
theorem tw232 : (Jvm.Cond.methodLink "java/util/Optional" (7 : Nat) ({ cls := "java/lang/Object", name := "<init>", desc := "()V" } : Jvm.MethodName)) ∈ tables_1 := List.mem_of_getElem? (i := 232) rfl
theorem tw233 : (Jvm.Cond.methodLink "com/example/uketsuke/uketsuke/core/conversation/PageContinuesAfterPinLaw" (35 : Nat) ({ cls := "java/util/Optional", name := "get", desc := "()Ljava/lang/Object;" } : Jvm.MethodName)) ∈ tables_1 := List.mem_of_getElem? (i := 233) rfl
theorem tw234 : (Jvm.Cond.declares ({ cls := "java/util/Optional", name := "get", desc := "()Ljava/lang/Object;" } : Jvm.MethodName)) ∈ tables_1 := List.mem_of_getElem? (i := 234) rfl
theorem tw235 : (Jvm.Cond.instanceMethod ({ cls := "java/util/Optional", name := "get", desc := "()Ljava/lang/Object;" } : Jvm.MethodName)) ∈ tables_1 := List.mem_of_getElem? (i := 235) rfl
theorem tw236 : (Jvm.Cond.selects "java/util/Optional" ({ cls := "java/util/Optional", name := "get", desc := "()Ljava/lang/Object;" } : Jvm.MethodName) ({ cls := "java/util/Optional", name := "get", desc := "()Ljava/lang/Object;" } : Jvm.MethodName)) ∈ tables_1 := List.mem_of_getElem? (i := 236) rfl
theorem tw237 : (Jvm.Cond.code ({ cls := "java/util/Optional", name := "get", desc := "()Ljava/lang/Object;" } : Jvm.MethodName) jdk_32_method_5_code (1 : Nat) (Option.some (Jvm.ClassFile.FieldType.object "java/lang/Object"))) ∈ tables_1 := List.mem_of_getElem? (i := 237) rfl
theorem tw238 : (Jvm.Cond.classLink "com/example/uketsuke/uketsuke/core/conversation/PageContinuesAfterPinLaw" (11 : Nat) "java/lang/Integer") ∈ tables_1 := List.mem_of_getElem? (i := 238) rfl
theorem tw239 : (Jvm.Cond.methodLink "com/example/uketsuke/uketsuke/core/conversation/PageContinuesAfterPinLaw" (39 : Nat) ({ cls := "java/lang/Integer", name := "intValue", desc := "()I" } : Jvm.MethodName)) ∈ tables_1 := List.mem_of_getElem? (i := 239) rfl
theorem tw240 : (Jvm.Cond.declares ({ cls := "java/lang/Integer", name := "intValue", desc := "()I" } : Jvm.MethodName)) ∈ tables_1 := List.mem_of_getElem? (i := 240) rfl
theorem tw241 : (Jvm.Cond.instanceMethod ({ cls := "java/lang/Integer", name := "intValue", desc := "()I" } : Jvm.MethodName)) ∈ tables_1 := List.mem_of_getElem? (i := 241) rfl
theorem tw242 : (Jvm.Cond.selects "java/lang/Integer" ({ cls := "java/lang/Integer", name := "intValue", desc := "()I" } : Jvm.MethodName) ({ cls := "java/lang/Integer", name := "intValue", desc := "()I" } : Jvm.MethodName)) ∈ tables_1 := List.mem_of_getElem? (i := 242) rfl
theorem tw243 : (Jvm.Cond.code ({ cls := "java/lang/Integer", name := "intValue", desc := "()I" } : Jvm.MethodName) jdk_33_method_27_code (1 : Nat) (Option.some Jvm.ClassFile.FieldType.int)) ∈ tables_1 := List.mem_of_getElem? (i := 243) rfl
theorem tw244 : (Jvm.Cond.methodLink "java/util/List" (109 : Nat) ({ cls := "java/util/ImmutableCollections", name := "listFromArray", desc := "([Ljava/lang/Object;)Ljava/util/List;" } : Jvm.MethodName)) ∈ tables_1 := List.mem_of_getElem? (i := 244) rfl
theorem tw245 : (Jvm.Cond.static ({ cls := "java/util/ImmutableCollections", name := "listFromArray", desc := "([Ljava/lang/Object;)Ljava/util/List;" } : Jvm.MethodName)) ∈ tables_1 := List.mem_of_getElem? (i := 245) rfl
theorem tw246 : (Jvm.Cond.code ({ cls := "java/util/ImmutableCollections", name := "listFromArray", desc := "([Ljava/lang/Object;)Ljava/util/List;" } : Jvm.MethodName) jdk_56_method_4_code (3 : Nat) (Option.some (Jvm.ClassFile.FieldType.object "java/util/List"))) ∈ tables_1 := List.mem_of_getElem? (i := 246) rfl
theorem tw247 : (Jvm.Cond.classLink "java/util/ImmutableCollections" (2 : Nat) "java/lang/Object") ∈ tables_1 := List.mem_of_getElem? (i := 247) rfl
theorem tw248 : (Jvm.Cond.methodLink "java/util/ImmutableCollections" (37 : Nat) ({ cls := "java/util/Objects", name := "requireNonNull", desc := "(Ljava/lang/Object;)Ljava/lang/Object;" } : Jvm.MethodName)) ∈ tables_1 := List.mem_of_getElem? (i := 248) rfl
theorem tw249 : (Jvm.Cond.instantiable "java/util/ImmutableCollections$ListN" (2 : Nat)) ∈ tables_1 := List.mem_of_getElem? (i := 249) rfl
theorem tw250 : (Jvm.Cond.initialized "java/util/ImmutableCollections$ListN") ∈ tables_1 := List.mem_of_getElem? (i := 250) rfl
theorem tw251 : (Jvm.Cond.methodLinkNest "java/util/ImmutableCollections" (43 : Nat) ({ cls := "java/util/ImmutableCollections$ListN", name := "<init>", desc := "([Ljava/lang/Object;Z)V" } : Jvm.MethodName) "java/util/ImmutableCollections") ∈ tables_1 := List.mem_of_getElem? (i := 251) rfl
theorem tw252 : (Jvm.Cond.instanceMethod ({ cls := "java/util/ImmutableCollections$ListN", name := "<init>", desc := "([Ljava/lang/Object;Z)V" } : Jvm.MethodName)) ∈ tables_1 := List.mem_of_getElem? (i := 252) rfl
theorem tw254 : (Jvm.Cond.code ({ cls := "java/util/ImmutableCollections$ListN", name := "<init>", desc := "([Ljava/lang/Object;Z)V" } : Jvm.MethodName) jdk_45_method_1_code (3 : Nat) (Option.none : Option Jvm.ClassFile.FieldType)) ∈ tables_1 := List.mem_of_getElem? (i := 254) rfl
theorem tw255 : (Jvm.Cond.methodLink "java/util/ImmutableCollections$ListN" (1 : Nat) ({ cls := "java/util/ImmutableCollections$AbstractImmutableList", name := "<init>", desc := "()V" } : Jvm.MethodName)) ∈ tables_1 := List.mem_of_getElem? (i := 255) rfl
theorem tw259 : (Jvm.Cond.fieldLink "java/util/ImmutableCollections$ListN" (7 : Nat) "java/util/ImmutableCollections$ListN" "elements" "[Ljava/lang/Object;") ∈ tables_1 := List.mem_of_getElem? (i := 259) rfl
theorem tw260 : (Jvm.Cond.laysFinal "java/util/ImmutableCollections$ListN" "java/util/ImmutableCollections$ListN" "elements" "[Ljava/lang/Object;") ∈ tables_1 := List.mem_of_getElem? (i := 260) rfl
theorem tw261 : (Jvm.Cond.fieldLink "java/util/ImmutableCollections$ListN" (13 : Nat) "java/util/ImmutableCollections$ListN" "allowNulls" "Z") ∈ tables_1 := List.mem_of_getElem? (i := 261) rfl
theorem tw262 : (Jvm.Cond.laysFinal "java/util/ImmutableCollections$ListN" "java/util/ImmutableCollections$ListN" "allowNulls" "Z") ∈ tables_1 := List.mem_of_getElem? (i := 262) rfl
theorem tw263 : (Jvm.Cond.selects "java/util/ImmutableCollections$ListN" ({ cls := "java/util/List", name := "size", desc := "()I" } : Jvm.MethodName) ({ cls := "java/util/ImmutableCollections$ListN", name := "size", desc := "()I" } : Jvm.MethodName)) ∈ tables_1 := List.mem_of_getElem? (i := 263) rfl
theorem tw264 : (Jvm.Cond.instanceMethod ({ cls := "java/util/ImmutableCollections$ListN", name := "size", desc := "()I" } : Jvm.MethodName)) ∈ tables_1 := List.mem_of_getElem? (i := 264) rfl
theorem tw265 : (Jvm.Cond.publicMethod ({ cls := "java/util/ImmutableCollections$ListN", name := "size", desc := "()I" } : Jvm.MethodName)) ∈ tables_1 := List.mem_of_getElem? (i := 265) rfl
theorem tw266 : (Jvm.Cond.unhidden "java/util/ImmutableCollections$ListN" "size" "()I") ∈ tables_1 := List.mem_of_getElem? (i := 266) rfl
theorem tw267 : (Jvm.Cond.castable "java/util/ImmutableCollections$ListN" "java/util/List") ∈ tables_1 := List.mem_of_getElem? (i := 267) rfl
theorem tw268 : (Jvm.Cond.code ({ cls := "java/util/ImmutableCollections$ListN", name := "size", desc := "()I" } : Jvm.MethodName) jdk_45_method_3_code (1 : Nat) (Option.some Jvm.ClassFile.FieldType.int)) ∈ tables_1 := List.mem_of_getElem? (i := 268) rfl
theorem tw269 : (Jvm.Cond.selects "java/util/ImmutableCollections$ListN" ({ cls := "java/util/List", name := "get", desc := "(I)Ljava/lang/Object;" } : Jvm.MethodName) ({ cls := "java/util/ImmutableCollections$ListN", name := "get", desc := "(I)Ljava/lang/Object;" } : Jvm.MethodName)) ∈ tables_1 := List.mem_of_getElem? (i := 269) rfl
theorem tw270 : (Jvm.Cond.instanceMethod ({ cls := "java/util/ImmutableCollections$ListN", name := "get", desc := "(I)Ljava/lang/Object;" } : Jvm.MethodName)) ∈ tables_1 := List.mem_of_getElem? (i := 270) rfl
theorem tw271 : (Jvm.Cond.publicMethod ({ cls := "java/util/ImmutableCollections$ListN", name := "get", desc := "(I)Ljava/lang/Object;" } : Jvm.MethodName)) ∈ tables_1 := List.mem_of_getElem? (i := 271) rfl
theorem tw272 : (Jvm.Cond.unhidden "java/util/ImmutableCollections$ListN" "get" "(I)Ljava/lang/Object;") ∈ tables_1 := List.mem_of_getElem? (i := 272) rfl
theorem tw273 : (Jvm.Cond.code ({ cls := "java/util/ImmutableCollections$ListN", name := "get", desc := "(I)Ljava/lang/Object;" } : Jvm.MethodName) jdk_45_method_4_code (2 : Nat) (Option.some (Jvm.ClassFile.FieldType.object "java/lang/Object"))) ∈ tables_1 := List.mem_of_getElem? (i := 273) rfl
theorem d0_0 : De code 0 (.iload_n 0) 1 1 := ⟨by decide +kernel, rfl⟩
theorem d0_1 : De code 1 (.iconst 1) 1 2 := ⟨by decide +kernel, rfl⟩
theorem d0_2 : De code 2 (.iand) 1 3 := ⟨by decide +kernel, rfl⟩
theorem d0_3 : De code 3 (.ifCond .eq 7) 3 6 := ⟨by decide +kernel, rfl⟩
theorem d0_6 : De code 6 (.iconst 1) 1 7 := ⟨by decide +kernel, rfl⟩
theorem d0_7 : De code 7 (.goto 4) 3 10 := ⟨by decide +kernel, rfl⟩
theorem d0_10 : De code 10 (.iconst 0) 1 11 := ⟨by decide +kernel, rfl⟩
theorem d0_11 : De code 11 (.istore 4) 2 13 := ⟨by decide +kernel, rfl⟩
theorem d0_13 : De code 13 (.iload_n 0) 1 14 := ⟨by decide +kernel, rfl⟩
theorem d0_14 : De code 14 (.iconst 1) 1 15 := ⟨by decide +kernel, rfl⟩
theorem d0_15 : De code 15 (.iushr) 1 16 := ⟨by decide +kernel, rfl⟩
theorem d0_16 : De code 16 (.iconst 3) 1 17 := ⟨by decide +kernel, rfl⟩
theorem d0_17 : De code 17 (.iand) 1 18 := ⟨by decide +kernel, rfl⟩
theorem d0_18 : De code 18 (.istore 5) 2 20 := ⟨by decide +kernel, rfl⟩
theorem d0_20 : De code 20 (.iload 4) 2 22 := ⟨by decide +kernel, rfl⟩
theorem d0_22 : De code 22 (.ifCond .eq 12) 3 25 := ⟨by decide +kernel, rfl⟩
theorem d0_25 : De code 25 (.iload 5) 2 27 := ⟨by decide +kernel, rfl⟩
theorem d0_27 : De code 27 (.iconst 3) 1 28 := ⟨by decide +kernel, rfl⟩
theorem d0_28 : De code 28 (.irem) 1 29 := ⟨by decide +kernel, rfl⟩
theorem d0_29 : De code 29 (.iconst 1) 1 30 := ⟨by decide +kernel, rfl⟩
theorem d0_30 : De code 30 (.iadd) 1 31 := ⟨by decide +kernel, rfl⟩
theorem d0_31 : De code 31 (.goto 5) 3 34 := ⟨by decide +kernel, rfl⟩
theorem d0_34 : De code 34 (.iload 5) 2 36 := ⟨by decide +kernel, rfl⟩
theorem d0_36 : De code 36 (.istore 6) 2 38 := ⟨by decide +kernel, rfl⟩
theorem d0_38 : De code 38 (.new 7) 3 41 := ⟨by decide +kernel, rfl⟩
theorem d0_41 : De code 41 (.dup) 1 42 := ⟨by decide +kernel, rfl⟩
theorem d0_42 : De code 42 (.invokespecial 9) 3 45 := ⟨by decide +kernel, rfl⟩
theorem d0_45 : De code 45 (.astore 7) 2 47 := ⟨by decide +kernel, rfl⟩
theorem d0_47 : De code 47 (.iload 6) 2 49 := ⟨by decide +kernel, rfl⟩
theorem d0_49 : De code 49 (.iconst 1) 1 50 := ⟨by decide +kernel, rfl⟩
theorem d0_50 : De code 50 (.if_icmp .lt 13) 3 53 := ⟨by decide +kernel, rfl⟩
theorem d0_53 : De code 53 (.aload 7) 2 55 := ⟨by decide +kernel, rfl⟩
theorem d0_55 : De code 55 (.iload_n 1) 1 56 := ⟨by decide +kernel, rfl⟩
theorem d0_56 : De code 56 (.invokestatic 10) 3 59 := ⟨by decide +kernel, rfl⟩
theorem d0_59 : De code 59 (.invokevirtual 16) 3 62 := ⟨by decide +kernel, rfl⟩
theorem d0_62 : De code 62 (.pop) 1 63 := ⟨by decide +kernel, rfl⟩
theorem d0_63 : De code 63 (.iload 6) 2 65 := ⟨by decide +kernel, rfl⟩
theorem d0_65 : De code 65 (.iconst 2) 1 66 := ⟨by decide +kernel, rfl⟩
theorem d0_66 : De code 66 (.if_icmp .lt 13) 3 69 := ⟨by decide +kernel, rfl⟩
theorem d0_69 : De code 69 (.aload 7) 2 71 := ⟨by decide +kernel, rfl⟩
theorem d0_71 : De code 71 (.iload_n 2) 1 72 := ⟨by decide +kernel, rfl⟩
theorem d0_72 : De code 72 (.invokestatic 10) 3 75 := ⟨by decide +kernel, rfl⟩
theorem d0_75 : De code 75 (.invokevirtual 16) 3 78 := ⟨by decide +kernel, rfl⟩
theorem d0_78 : De code 78 (.pop) 1 79 := ⟨by decide +kernel, rfl⟩
theorem d0_79 : De code 79 (.iload 6) 2 81 := ⟨by decide +kernel, rfl⟩
theorem d0_81 : De code 81 (.iconst 3) 1 82 := ⟨by decide +kernel, rfl⟩
theorem d0_82 : De code 82 (.if_icmp .lt 13) 3 85 := ⟨by decide +kernel, rfl⟩
theorem d0_85 : De code 85 (.aload 7) 2 87 := ⟨by decide +kernel, rfl⟩
theorem d0_87 : De code 87 (.iload_n 3) 1 88 := ⟨by decide +kernel, rfl⟩
theorem d0_88 : De code 88 (.invokestatic 10) 3 91 := ⟨by decide +kernel, rfl⟩
theorem d0_91 : De code 91 (.invokevirtual 16) 3 94 := ⟨by decide +kernel, rfl⟩
theorem d0_94 : De code 94 (.pop) 1 95 := ⟨by decide +kernel, rfl⟩
theorem d0_95 : De code 95 (.new 20) 3 98 := ⟨by decide +kernel, rfl⟩
theorem d0_98 : De code 98 (.dup) 1 99 := ⟨by decide +kernel, rfl⟩
theorem d0_99 : De code 99 (.aload 7) 2 101 := ⟨by decide +kernel, rfl⟩
theorem d0_101 : De code 101 (.iload 4) 2 103 := ⟨by decide +kernel, rfl⟩
theorem d0_103 : De code 103 (.invokespecial 22) 3 106 := ⟨by decide +kernel, rfl⟩
theorem d0_106 : De code 106 (.astore 8) 2 108 := ⟨by decide +kernel, rfl⟩
theorem d0_108 : De code 108 (.aload 8) 2 110 := ⟨by decide +kernel, rfl⟩
theorem d0_110 : De code 110 (.invokevirtual 25) 3 113 := ⟨by decide +kernel, rfl⟩
theorem d0_113 : De code 113 (.astore 9) 2 115 := ⟨by decide +kernel, rfl⟩
theorem d0_115 : De code 115 (.iload 4) 2 117 := ⟨by decide +kernel, rfl⟩
theorem d0_117 : De code 117 (.ifCond .ne 17) 3 120 := ⟨by decide +kernel, rfl⟩
theorem d0_120 : De code 120 (.aload 9) 2 122 := ⟨by decide +kernel, rfl⟩
theorem d0_122 : De code 122 (.invokevirtual 29) 3 125 := ⟨by decide +kernel, rfl⟩
theorem d0_125 : De code 125 (.ifCond .ne 7) 3 128 := ⟨by decide +kernel, rfl⟩
theorem d0_128 : De code 128 (.iconst 1) 1 129 := ⟨by decide +kernel, rfl⟩
theorem d0_129 : De code 129 (.goto 4) 3 132 := ⟨by decide +kernel, rfl⟩
theorem d0_133 : De code 133 (.ireturn) 1 134 := ⟨by decide +kernel, rfl⟩
theorem d0_134 : De code 134 (.iload 6) 2 136 := ⟨by decide +kernel, rfl⟩
theorem d0_136 : De code 136 (.iconst 1) 1 137 := ⟨by decide +kernel, rfl⟩
theorem d0_137 : De code 137 (.if_icmp .ne 7) 3 140 := ⟨by decide +kernel, rfl⟩
theorem d0_140 : De code 140 (.iload_n 1) 1 141 := ⟨by decide +kernel, rfl⟩
theorem d0_141 : De code 141 (.goto 14) 3 144 := ⟨by decide +kernel, rfl⟩
theorem d0_144 : De code 144 (.iload 6) 2 146 := ⟨by decide +kernel, rfl⟩
theorem d0_146 : De code 146 (.iconst 2) 1 147 := ⟨by decide +kernel, rfl⟩
theorem d0_147 : De code 147 (.if_icmp .ne 7) 3 150 := ⟨by decide +kernel, rfl⟩
theorem d0_150 : De code 150 (.iload_n 2) 1 151 := ⟨by decide +kernel, rfl⟩
theorem d0_151 : De code 151 (.goto 4) 3 154 := ⟨by decide +kernel, rfl⟩
theorem d0_154 : De code 154 (.iload_n 3) 1 155 := ⟨by decide +kernel, rfl⟩
theorem d0_155 : De code 155 (.istore 10) 2 157 := ⟨by decide +kernel, rfl⟩
theorem d0_157 : De code 157 (.aload 9) 2 159 := ⟨by decide +kernel, rfl⟩
theorem d0_159 : De code 159 (.invokevirtual 29) 3 162 := ⟨by decide +kernel, rfl⟩
theorem d0_162 : De code 162 (.ifCond .eq 23) 3 165 := ⟨by decide +kernel, rfl⟩
theorem d0_165 : De code 165 (.aload 9) 2 167 := ⟨by decide +kernel, rfl⟩
theorem d0_167 : De code 167 (.invokevirtual 35) 3 170 := ⟨by decide +kernel, rfl⟩
theorem d0_170 : De code 170 (.checkcast 11) 3 173 := ⟨by decide +kernel, rfl⟩
theorem d0_173 : De code 173 (.invokevirtual 39) 3 176 := ⟨by decide +kernel, rfl⟩
theorem d0_176 : De code 176 (.iload 10) 2 178 := ⟨by decide +kernel, rfl⟩
theorem d0_178 : De code 178 (.if_icmp .ne 7) 3 181 := ⟨by decide +kernel, rfl⟩
theorem d0_181 : De code 181 (.iconst 1) 1 182 := ⟨by decide +kernel, rfl⟩
theorem d0_182 : De code 182 (.goto 4) 3 185 := ⟨by decide +kernel, rfl⟩
theorem d0_186 : De code 186 (.ireturn) 1 187 := ⟨by decide +kernel, rfl⟩
theorem d1_0 : De jdk_38_method_2_code 0 (.aload_n 0) 1 1 := ⟨by decide +kernel, rfl⟩
theorem d1_1 : De jdk_38_method_2_code 1 (.invokespecial 1) 3 4 := ⟨by decide +kernel, rfl⟩
theorem d1_4 : De jdk_38_method_2_code 4 (.aload_n 0) 1 5 := ⟨by decide +kernel, rfl⟩
theorem d1_5 : De jdk_38_method_2_code 5 (.getstatic 39) 3 8 := ⟨by decide +kernel, rfl⟩
theorem d1_8 : De jdk_38_method_2_code 8 (.putfield 9) 3 11 := ⟨by decide +kernel, rfl⟩
theorem d1_11 : De jdk_38_method_2_code 11 (.return_) 1 12 := ⟨by decide +kernel, rfl⟩
theorem d2_0 : De jdk_39_method_1_code 0 (.aload_n 0) 1 1 := ⟨by decide +kernel, rfl⟩
theorem d2_1 : De jdk_39_method_1_code 1 (.invokespecial 1) 3 4 := ⟨by decide +kernel, rfl⟩
theorem d2_4 : De jdk_39_method_1_code 4 (.aload_n 0) 1 5 := ⟨by decide +kernel, rfl⟩
theorem d2_5 : De jdk_39_method_1_code 5 (.iconst 0) 1 6 := ⟨by decide +kernel, rfl⟩
theorem d2_6 : De jdk_39_method_1_code 6 (.putfield 7) 3 9 := ⟨by decide +kernel, rfl⟩
theorem d2_9 : De jdk_39_method_1_code 9 (.return_) 1 10 := ⟨by decide +kernel, rfl⟩
theorem d3_0 : De jdk_22_method_1_code 0 (.aload_n 0) 1 1 := ⟨by decide +kernel, rfl⟩
theorem d3_1 : De jdk_22_method_1_code 1 (.invokespecial 1) 3 4 := ⟨by decide +kernel, rfl⟩
theorem d3_4 : De jdk_22_method_1_code 4 (.return_) 1 5 := ⟨by decide +kernel, rfl⟩
theorem d5_0 : De prog_28_method_1_code 0 (.aload_n 0) 1 1 := ⟨by decide +kernel, rfl⟩
theorem d5_1 : De prog_28_method_1_code 1 (.invokespecial 1) 3 4 := ⟨by decide +kernel, rfl⟩
theorem d5_4 : De prog_28_method_1_code 4 (.aload_n 1) 1 5 := ⟨by decide +kernel, rfl⟩
theorem d5_5 : De prog_28_method_1_code 5 (.invokestatic 7) 3 8 := ⟨by decide +kernel, rfl⟩
theorem d5_8 : De prog_28_method_1_code 8 (.astore_n 1) 1 9 := ⟨by decide +kernel, rfl⟩
theorem d5_9 : De prog_28_method_1_code 9 (.aload_n 0) 1 10 := ⟨by decide +kernel, rfl⟩
theorem d5_10 : De prog_28_method_1_code 10 (.aload_n 1) 1 11 := ⟨by decide +kernel, rfl⟩
theorem d5_11 : De prog_28_method_1_code 11 (.putfield 13) 3 14 := ⟨by decide +kernel, rfl⟩
theorem d5_14 : De prog_28_method_1_code 14 (.aload_n 0) 1 15 := ⟨by decide +kernel, rfl⟩
theorem d5_15 : De prog_28_method_1_code 15 (.iload_n 2) 1 16 := ⟨by decide +kernel, rfl⟩
theorem d5_16 : De prog_28_method_1_code 16 (.putfield 19) 3 19 := ⟨by decide +kernel, rfl⟩
theorem d5_19 : De prog_28_method_1_code 19 (.return_) 1 20 := ⟨by decide +kernel, rfl⟩
theorem d6_0 : De jdk_30_method_1_code 0 (.aload_n 0) 1 1 := ⟨by decide +kernel, rfl⟩
theorem d6_1 : De jdk_30_method_1_code 1 (.invokespecial 1) 3 4 := ⟨by decide +kernel, rfl⟩
theorem d6_4 : De jdk_30_method_1_code 4 (.return_) 1 5 := ⟨by decide +kernel, rfl⟩
theorem d7_0 : De jdk_40_method_48_code 0 (.aload_n 0) 1 1 := ⟨by decide +kernel, rfl⟩
theorem d7_1 : De jdk_40_method_48_code 1 (.invokestatic 112) 3 4 := ⟨by decide +kernel, rfl⟩
theorem d7_4 : De jdk_40_method_48_code 4 (.areturn) 1 5 := ⟨by decide +kernel, rfl⟩
theorem d8_0 : De jdk_56_method_3_code 0 (.aload_n 0) 1 1 := ⟨by decide +kernel, rfl⟩
theorem d8_1 : De jdk_56_method_3_code 1 (.instanceof 10) 3 4 := ⟨by decide +kernel, rfl⟩
theorem d8_4 : De jdk_56_method_3_code 4 (.ifCond .ne 22) 3 7 := ⟨by decide +kernel, rfl⟩
theorem d8_7 : De jdk_56_method_3_code 7 (.aload_n 0) 1 8 := ⟨by decide +kernel, rfl⟩
theorem d8_8 : De jdk_56_method_3_code 8 (.instanceof 12) 3 11 := ⟨by decide +kernel, rfl⟩
theorem d8_11 : De jdk_56_method_3_code 11 (.ifCond .eq 20) 3 14 := ⟨by decide +kernel, rfl⟩
theorem d8_31 : De jdk_56_method_3_code 31 (.aload_n 0) 1 32 := ⟨by decide +kernel, rfl⟩
theorem d8_32 : De jdk_56_method_3_code 32 (.invokeinterface 20 1) 5 37 := ⟨by decide +kernel, rfl⟩
theorem d8_37 : De jdk_56_method_3_code 37 (.ifCond .eq 7) 3 40 := ⟨by decide +kernel, rfl⟩
theorem d8_40 : De jdk_56_method_3_code 40 (.invokestatic 26) 3 43 := ⟨by decide +kernel, rfl⟩
theorem d8_43 : De jdk_56_method_3_code 43 (.areturn) 1 44 := ⟨by decide +kernel, rfl⟩
theorem d8_44 : De jdk_56_method_3_code 44 (.aload_n 0) 1 45 := ⟨by decide +kernel, rfl⟩
theorem d8_45 : De jdk_56_method_3_code 45 (.invokeinterface 30 1) 5 50 := ⟨by decide +kernel, rfl⟩
theorem d8_50 : De jdk_56_method_3_code 50 (.invokestatic 34) 3 53 := ⟨by decide +kernel, rfl⟩
theorem d8_53 : De jdk_56_method_3_code 53 (.areturn) 1 54 := ⟨by decide +kernel, rfl⟩
theorem d9_0 : De jdk_38_method_9_code 0 (.aload_n 0) 1 1 := ⟨by decide +kernel, rfl⟩
theorem d9_1 : De jdk_38_method_9_code 1 (.getfield 48) 3 4 := ⟨by decide +kernel, rfl⟩
theorem d9_4 : De jdk_38_method_9_code 4 (.ifCond .ne 7) 3 7 := ⟨by decide +kernel, rfl⟩
theorem d9_7 : De jdk_38_method_9_code 7 (.iconst 1) 1 8 := ⟨by decide +kernel, rfl⟩
theorem d9_8 : De jdk_38_method_9_code 8 (.goto 4) 3 11 := ⟨by decide +kernel, rfl⟩
theorem d9_11 : De jdk_38_method_9_code 11 (.iconst 0) 1 12 := ⟨by decide +kernel, rfl⟩
theorem d9_12 : De jdk_38_method_9_code 12 (.ireturn) 1 13 := ⟨by decide +kernel, rfl⟩
theorem d10_0 : De jdk_40_method_36_code 0 (.getstatic 90) 3 3 := ⟨by decide +kernel, rfl⟩
theorem d10_3 : De jdk_40_method_36_code 3 (.areturn) 1 4 := ⟨by decide +kernel, rfl⟩
theorem d11_0 : De prog_28_method_3_code 0 (.aload_n 0) 1 1 := ⟨by decide +kernel, rfl⟩
theorem d11_1 : De prog_28_method_3_code 1 (.getfield 19) 3 4 := ⟨by decide +kernel, rfl⟩
theorem d11_4 : De prog_28_method_3_code 4 (.ifCond .eq 29) 3 7 := ⟨by decide +kernel, rfl⟩
theorem d11_7 : De prog_28_method_3_code 7 (.aload_n 0) 1 8 := ⟨by decide +kernel, rfl⟩
theorem d11_8 : De prog_28_method_3_code 8 (.getfield 13) 3 11 := ⟨by decide +kernel, rfl⟩
theorem d11_11 : De prog_28_method_3_code 11 (.aload_n 0) 1 12 := ⟨by decide +kernel, rfl⟩
theorem d11_12 : De prog_28_method_3_code 12 (.getfield 13) 3 15 := ⟨by decide +kernel, rfl⟩
theorem d11_15 : De prog_28_method_3_code 15 (.invokeinterface 23 1) 5 20 := ⟨by decide +kernel, rfl⟩
theorem d11_20 : De prog_28_method_3_code 20 (.iconst 1) 1 21 := ⟨by decide +kernel, rfl⟩
theorem d11_21 : De prog_28_method_3_code 21 (.isub) 1 22 := ⟨by decide +kernel, rfl⟩
theorem d11_22 : De prog_28_method_3_code 22 (.invokeinterface 34 2) 5 27 := ⟨by decide +kernel, rfl⟩
theorem d11_27 : De prog_28_method_3_code 27 (.invokestatic 38) 3 30 := ⟨by decide +kernel, rfl⟩
theorem d11_30 : De prog_28_method_3_code 30 (.goto 6) 3 33 := ⟨by decide +kernel, rfl⟩
theorem d11_33 : De prog_28_method_3_code 33 (.invokestatic 44) 3 36 := ⟨by decide +kernel, rfl⟩
theorem d11_36 : De prog_28_method_3_code 36 (.areturn) 1 37 := ⟨by decide +kernel, rfl⟩
theorem d12_0 : De jdk_32_method_1_code 0 (.getstatic 1) 3 3 := ⟨by decide +kernel, rfl⟩
theorem d12_3 : De jdk_32_method_1_code 3 (.astore_n 0) 1 4 := ⟨by decide +kernel, rfl⟩
theorem d12_4 : De jdk_32_method_1_code 4 (.aload_n 0) 1 5 := ⟨by decide +kernel, rfl⟩
theorem d12_5 : De jdk_32_method_1_code 5 (.areturn) 1 6 := ⟨by decide +kernel, rfl⟩
theorem d13_0 : De jdk_32_method_6_code 0 (.aload_n 0) 1 1 := ⟨by decide +kernel, rfl⟩
theorem d13_1 : De jdk_32_method_6_code 1 (.getfield 13) 3 4 := ⟨by decide +kernel, rfl⟩
theorem d13_4 : De jdk_32_method_6_code 4 (.ifnull 7) 3 7 := ⟨by decide +kernel, rfl⟩
theorem d13_7 : De jdk_32_method_6_code 7 (.iconst 1) 1 8 := ⟨by decide +kernel, rfl⟩
theorem d13_8 : De jdk_32_method_6_code 8 (.goto 4) 3 11 := ⟨by decide +kernel, rfl⟩
theorem d13_11 : De jdk_32_method_6_code 11 (.iconst 0) 1 12 := ⟨by decide +kernel, rfl⟩
theorem d13_12 : De jdk_32_method_6_code 12 (.ireturn) 1 13 := ⟨by decide +kernel, rfl⟩
theorem d14_0 : De jdk_33_method_22_code 0 (.iload_n 0) 1 1 := ⟨by decide +kernel, rfl⟩
theorem d14_1 : De jdk_33_method_22_code 1 (.bipush (-128)) 2 3 := ⟨by decide +kernel, rfl⟩
theorem d14_3 : De jdk_33_method_22_code 3 (.if_icmp .lt 20) 3 6 := ⟨by decide +kernel, rfl⟩
theorem d14_6 : De jdk_33_method_22_code 6 (.iload_n 0) 1 7 := ⟨by decide +kernel, rfl⟩
theorem d14_7 : De jdk_33_method_22_code 7 (.getstatic 191) 3 10 := ⟨by decide +kernel, rfl⟩
theorem d14_10 : De jdk_33_method_22_code 10 (.if_icmp .gt 13) 3 13 := ⟨by decide +kernel, rfl⟩
theorem d14_13 : De jdk_33_method_22_code 13 (.getstatic 195) 3 16 := ⟨by decide +kernel, rfl⟩
theorem d14_16 : De jdk_33_method_22_code 16 (.iload_n 0) 1 17 := ⟨by decide +kernel, rfl⟩
theorem d14_17 : De jdk_33_method_22_code 17 (.sipush 128) 3 20 := ⟨by decide +kernel, rfl⟩
theorem d14_20 : De jdk_33_method_22_code 20 (.iadd) 1 21 := ⟨by decide +kernel, rfl⟩
theorem d14_21 : De jdk_33_method_22_code 21 (.aaload) 1 22 := ⟨by decide +kernel, rfl⟩
theorem d14_22 : De jdk_33_method_22_code 22 (.areturn) 1 23 := ⟨by decide +kernel, rfl⟩
theorem d14_23 : De jdk_33_method_22_code 23 (.new 1) 3 26 := ⟨by decide +kernel, rfl⟩
theorem d14_26 : De jdk_33_method_22_code 26 (.dup) 1 27 := ⟨by decide +kernel, rfl⟩
theorem d14_27 : De jdk_33_method_22_code 27 (.iload_n 0) 1 28 := ⟨by decide +kernel, rfl⟩
theorem d14_28 : De jdk_33_method_22_code 28 (.invokespecial 199) 3 31 := ⟨by decide +kernel, rfl⟩
theorem d14_31 : De jdk_33_method_22_code 31 (.areturn) 1 32 := ⟨by decide +kernel, rfl⟩
theorem d15_0 : De jdk_38_method_25_code 0 (.aload_n 0) 1 1 := ⟨by decide +kernel, rfl⟩
theorem d15_1 : De jdk_38_method_25_code 1 (.dup) 1 2 := ⟨by decide +kernel, rfl⟩
theorem d15_2 : De jdk_38_method_25_code 2 (.getfield 63) 3 5 := ⟨by decide +kernel, rfl⟩
theorem d15_5 : De jdk_38_method_25_code 5 (.iconst 1) 1 6 := ⟨by decide +kernel, rfl⟩
theorem d15_6 : De jdk_38_method_25_code 6 (.iadd) 1 7 := ⟨by decide +kernel, rfl⟩
theorem d15_7 : De jdk_38_method_25_code 7 (.putfield 63) 3 10 := ⟨by decide +kernel, rfl⟩
theorem d15_10 : De jdk_38_method_25_code 10 (.aload_n 0) 1 11 := ⟨by decide +kernel, rfl⟩
theorem d15_11 : De jdk_38_method_25_code 11 (.aload_n 1) 1 12 := ⟨by decide +kernel, rfl⟩
theorem d15_12 : De jdk_38_method_25_code 12 (.aload_n 0) 1 13 := ⟨by decide +kernel, rfl⟩
theorem d15_13 : De jdk_38_method_25_code 13 (.getfield 9) 3 16 := ⟨by decide +kernel, rfl⟩
theorem d15_16 : De jdk_38_method_25_code 16 (.aload_n 0) 1 17 := ⟨by decide +kernel, rfl⟩
theorem d15_17 : De jdk_38_method_25_code 17 (.getfield 48) 3 20 := ⟨by decide +kernel, rfl⟩
theorem d15_20 : De jdk_38_method_25_code 20 (.invokevirtual 131) 3 23 := ⟨by decide +kernel, rfl⟩
theorem d15_23 : De jdk_38_method_25_code 23 (.iconst 1) 1 24 := ⟨by decide +kernel, rfl⟩
theorem d15_24 : De jdk_38_method_25_code 24 (.ireturn) 1 25 := ⟨by decide +kernel, rfl⟩
theorem d16_0 : De jdk_38_method_24_code 0 (.iload_n 3) 1 1 := ⟨by decide +kernel, rfl⟩
theorem d16_1 : De jdk_38_method_24_code 1 (.aload_n 2) 1 2 := ⟨by decide +kernel, rfl⟩
theorem d16_2 : De jdk_38_method_24_code 2 (.arraylength) 1 3 := ⟨by decide +kernel, rfl⟩
theorem d16_3 : De jdk_38_method_24_code 3 (.if_icmp .ne 8) 3 6 := ⟨by decide +kernel, rfl⟩
theorem d16_6 : De jdk_38_method_24_code 6 (.aload_n 0) 1 7 := ⟨by decide +kernel, rfl⟩
theorem d16_7 : De jdk_38_method_24_code 7 (.invokevirtual 129) 3 10 := ⟨by decide +kernel, rfl⟩
theorem d16_10 : De jdk_38_method_24_code 10 (.astore_n 2) 1 11 := ⟨by decide +kernel, rfl⟩
theorem d16_11 : De jdk_38_method_24_code 11 (.aload_n 2) 1 12 := ⟨by decide +kernel, rfl⟩
theorem d16_12 : De jdk_38_method_24_code 12 (.iload_n 3) 1 13 := ⟨by decide +kernel, rfl⟩
theorem d16_13 : De jdk_38_method_24_code 13 (.aload_n 1) 1 14 := ⟨by decide +kernel, rfl⟩
theorem d16_14 : De jdk_38_method_24_code 14 (.aastore) 1 15 := ⟨by decide +kernel, rfl⟩
theorem d16_15 : De jdk_38_method_24_code 15 (.aload_n 0) 1 16 := ⟨by decide +kernel, rfl⟩
theorem d16_16 : De jdk_38_method_24_code 16 (.iload_n 3) 1 17 := ⟨by decide +kernel, rfl⟩
theorem d16_17 : De jdk_38_method_24_code 17 (.iconst 1) 1 18 := ⟨by decide +kernel, rfl⟩
theorem d16_18 : De jdk_38_method_24_code 18 (.iadd) 1 19 := ⟨by decide +kernel, rfl⟩
theorem d16_19 : De jdk_38_method_24_code 19 (.putfield 48) 3 22 := ⟨by decide +kernel, rfl⟩
theorem d16_22 : De jdk_38_method_24_code 22 (.return_) 1 23 := ⟨by decide +kernel, rfl⟩
theorem d17_0 : De jdk_38_method_7_code 0 (.aload_n 0) 1 1 := ⟨by decide +kernel, rfl⟩
theorem d17_1 : De jdk_38_method_7_code 1 (.aload_n 0) 1 2 := ⟨by decide +kernel, rfl⟩
theorem d17_2 : De jdk_38_method_7_code 2 (.getfield 48) 3 5 := ⟨by decide +kernel, rfl⟩
theorem d17_5 : De jdk_38_method_7_code 5 (.iconst 1) 1 6 := ⟨by decide +kernel, rfl⟩
theorem d17_6 : De jdk_38_method_7_code 6 (.iadd) 1 7 := ⟨by decide +kernel, rfl⟩
theorem d17_7 : De jdk_38_method_7_code 7 (.invokevirtual 69) 3 10 := ⟨by decide +kernel, rfl⟩
theorem d17_10 : De jdk_38_method_7_code 10 (.areturn) 1 11 := ⟨by decide +kernel, rfl⟩
theorem d18_0 : De jdk_38_method_6_code 0 (.aload_n 0) 1 1 := ⟨by decide +kernel, rfl⟩
theorem d18_1 : De jdk_38_method_6_code 1 (.getfield 9) 3 4 := ⟨by decide +kernel, rfl⟩
theorem d18_4 : De jdk_38_method_6_code 4 (.arraylength) 1 5 := ⟨by decide +kernel, rfl⟩
theorem d18_5 : De jdk_38_method_6_code 5 (.istore_n 2) 1 6 := ⟨by decide +kernel, rfl⟩
theorem d18_6 : De jdk_38_method_6_code 6 (.iload_n 2) 1 7 := ⟨by decide +kernel, rfl⟩
theorem d18_7 : De jdk_38_method_6_code 7 (.ifCond .gt 13) 3 10 := ⟨by decide +kernel, rfl⟩
theorem d18_10 : De jdk_38_method_6_code 10 (.aload_n 0) 1 11 := ⟨by decide +kernel, rfl⟩
theorem d18_11 : De jdk_38_method_6_code 11 (.getfield 9) 3 14 := ⟨by decide +kernel, rfl⟩
theorem d18_14 : De jdk_38_method_6_code 14 (.getstatic 39) 3 17 := ⟨by decide +kernel, rfl⟩
theorem d18_17 : De jdk_38_method_6_code 17 (.if_acmp .eq 28) 3 20 := ⟨by decide +kernel, rfl⟩
theorem d18_45 : De jdk_38_method_6_code 45 (.aload_n 0) 1 46 := ⟨by decide +kernel, rfl⟩
theorem d18_46 : De jdk_38_method_6_code 46 (.bipush 10) 2 48 := ⟨by decide +kernel, rfl⟩
theorem d18_48 : De jdk_38_method_6_code 48 (.iload_n 1) 1 49 := ⟨by decide +kernel, rfl⟩
theorem d18_49 : De jdk_38_method_6_code 49 (.invokestatic 79) 3 52 := ⟨by decide +kernel, rfl⟩
theorem d18_52 : De jdk_38_method_6_code 52 (.anewarray 7) 3 55 := ⟨by decide +kernel, rfl⟩
theorem d18_55 : De jdk_38_method_6_code 55 (.dup_x1) 1 56 := ⟨by decide +kernel, rfl⟩
theorem d18_56 : De jdk_38_method_6_code 56 (.putfield 9) 3 59 := ⟨by decide +kernel, rfl⟩
theorem d18_59 : De jdk_38_method_6_code 59 (.areturn) 1 60 := ⟨by decide +kernel, rfl⟩
theorem d19_0 : De jdk_29_method_65_code 0 (.iload_n 0) 1 1 := ⟨by decide +kernel, rfl⟩
theorem d19_1 : De jdk_29_method_65_code 1 (.iload_n 1) 1 2 := ⟨by decide +kernel, rfl⟩
theorem d19_2 : De jdk_29_method_65_code 2 (.if_icmp .lt 7) 3 5 := ⟨by decide +kernel, rfl⟩
theorem d19_5 : De jdk_29_method_65_code 5 (.iload_n 0) 1 6 := ⟨by decide +kernel, rfl⟩
theorem d19_6 : De jdk_29_method_65_code 6 (.goto 4) 3 9 := ⟨by decide +kernel, rfl⟩
theorem d19_10 : De jdk_29_method_65_code 10 (.ireturn) 1 11 := ⟨by decide +kernel, rfl⟩
theorem d20_0 : De jdk_38_method_16_code 0 (.aload_n 0) 1 1 := ⟨by decide +kernel, rfl⟩
theorem d20_1 : De jdk_38_method_16_code 1 (.getfield 9) 3 4 := ⟨by decide +kernel, rfl⟩
theorem d20_4 : De jdk_38_method_16_code 4 (.aload_n 0) 1 5 := ⟨by decide +kernel, rfl⟩
theorem d20_5 : De jdk_38_method_16_code 5 (.getfield 48) 3 8 := ⟨by decide +kernel, rfl⟩
theorem d20_8 : De jdk_38_method_16_code 8 (.invokestatic 66) 3 11 := ⟨by decide +kernel, rfl⟩
theorem d20_11 : De jdk_38_method_16_code 11 (.areturn) 1 12 := ⟨by decide +kernel, rfl⟩
theorem d21_0 : De jdk_65_method_119_code 0 (.aload_n 0) 1 1 := ⟨by decide +kernel, rfl⟩
theorem d21_1 : De jdk_65_method_119_code 1 (.iload_n 1) 1 2 := ⟨by decide +kernel, rfl⟩
theorem d21_2 : De jdk_65_method_119_code 2 (.aload_n 0) 1 3 := ⟨by decide +kernel, rfl⟩
theorem d21_3 : De jdk_65_method_119_code 3 (.invokevirtual 86) 3 6 := ⟨by decide +kernel, rfl⟩
theorem d21_6 : De jdk_65_method_119_code 6 (.invokestatic 300) 3 9 := ⟨by decide +kernel, rfl⟩
theorem d21_9 : De jdk_65_method_119_code 9 (.areturn) 1 10 := ⟨by decide +kernel, rfl⟩
theorem d22_0 : De jdk_65_method_120_code 0 (.aload_n 2) 1 1 := ⟨by decide +kernel, rfl⟩
theorem d22_1 : De jdk_65_method_120_code 1 (.ldc 110) 2 3 := ⟨by decide +kernel, rfl⟩
theorem d22_3 : De jdk_65_method_120_code 3 (.if_acmp .ne 10) 3 6 := ⟨by decide +kernel, rfl⟩
theorem d22_6 : De jdk_65_method_120_code 6 (.iload_n 1) 1 7 := ⟨by decide +kernel, rfl⟩
theorem d22_7 : De jdk_65_method_120_code 7 (.anewarray 2) 3 10 := ⟨by decide +kernel, rfl⟩
theorem d22_10 : De jdk_65_method_120_code 10 (.goto 14) 3 13 := ⟨by decide +kernel, rfl⟩
theorem d22_24 : De jdk_65_method_120_code 24 (.astore_n 3) 1 25 := ⟨by decide +kernel, rfl⟩
theorem d22_25 : De jdk_65_method_120_code 25 (.aload_n 0) 1 26 := ⟨by decide +kernel, rfl⟩
theorem d22_26 : De jdk_65_method_120_code 26 (.iconst 0) 1 27 := ⟨by decide +kernel, rfl⟩
theorem d22_27 : De jdk_65_method_120_code 27 (.aload_n 3) 1 28 := ⟨by decide +kernel, rfl⟩
theorem d22_28 : De jdk_65_method_120_code 28 (.iconst 0) 1 29 := ⟨by decide +kernel, rfl⟩
theorem d22_29 : De jdk_65_method_120_code 29 (.aload_n 0) 1 30 := ⟨by decide +kernel, rfl⟩
theorem d22_30 : De jdk_65_method_120_code 30 (.arraylength) 1 31 := ⟨by decide +kernel, rfl⟩
theorem d22_31 : De jdk_65_method_120_code 31 (.iload_n 1) 1 32 := ⟨by decide +kernel, rfl⟩
theorem d22_32 : De jdk_65_method_120_code 32 (.invokestatic 304) 3 35 := ⟨by decide +kernel, rfl⟩
theorem d22_35 : De jdk_65_method_120_code 35 (.invokestatic 150) 3 38 := ⟨by decide +kernel, rfl⟩
theorem d22_38 : De jdk_65_method_120_code 38 (.aload_n 3) 1 39 := ⟨by decide +kernel, rfl⟩
theorem d22_39 : De jdk_65_method_120_code 39 (.areturn) 1 40 := ⟨by decide +kernel, rfl⟩
theorem d23_0 : De jdk_29_method_69_code 0 (.iload_n 0) 1 1 := ⟨by decide +kernel, rfl⟩
theorem d23_1 : De jdk_29_method_69_code 1 (.iload_n 1) 1 2 := ⟨by decide +kernel, rfl⟩
theorem d23_2 : De jdk_29_method_69_code 2 (.if_icmp .gt 7) 3 5 := ⟨by decide +kernel, rfl⟩
theorem d23_9 : De jdk_29_method_69_code 9 (.iload_n 1) 1 10 := ⟨by decide +kernel, rfl⟩
theorem d23_10 : De jdk_29_method_69_code 10 (.ireturn) 1 11 := ⟨by decide +kernel, rfl⟩
theorem d24_0 : De jdk_40_method_47_code 0 (.aload_n 0) 1 1 := ⟨by decide +kernel, rfl⟩
theorem d24_1 : De jdk_40_method_47_code 1 (.arraylength) 1 2 := ⟨by decide +kernel, rfl⟩
theorem d24_2 : De jdk_40_method_47_code 2 (.tableswitch 57 0 2 #[26, 32, 43]) 26 28 := ⟨by decide +kernel, rfl⟩
theorem d24_34 : De jdk_40_method_47_code 34 (.new 96) 3 37 := ⟨by decide +kernel, rfl⟩
theorem d24_37 : De jdk_40_method_47_code 37 (.dup) 1 38 := ⟨by decide +kernel, rfl⟩
theorem d24_38 : De jdk_40_method_47_code 38 (.aload_n 0) 1 39 := ⟨by decide +kernel, rfl⟩
theorem d24_39 : De jdk_40_method_47_code 39 (.iconst 0) 1 40 := ⟨by decide +kernel, rfl⟩
theorem d24_40 : De jdk_40_method_47_code 40 (.aaload) 1 41 := ⟨by decide +kernel, rfl⟩
theorem d24_41 : De jdk_40_method_47_code 41 (.invokespecial 98) 3 44 := ⟨by decide +kernel, rfl⟩
theorem d24_44 : De jdk_40_method_47_code 44 (.areturn) 1 45 := ⟨by decide +kernel, rfl⟩
theorem d24_45 : De jdk_40_method_47_code 45 (.new 96) 3 48 := ⟨by decide +kernel, rfl⟩
theorem d24_48 : De jdk_40_method_47_code 48 (.dup) 1 49 := ⟨by decide +kernel, rfl⟩
theorem d24_49 : De jdk_40_method_47_code 49 (.aload_n 0) 1 50 := ⟨by decide +kernel, rfl⟩
theorem d24_50 : De jdk_40_method_47_code 50 (.iconst 0) 1 51 := ⟨by decide +kernel, rfl⟩
theorem d24_51 : De jdk_40_method_47_code 51 (.aaload) 1 52 := ⟨by decide +kernel, rfl⟩
theorem d24_52 : De jdk_40_method_47_code 52 (.aload_n 0) 1 53 := ⟨by decide +kernel, rfl⟩
theorem d24_53 : De jdk_40_method_47_code 53 (.iconst 1) 1 54 := ⟨by decide +kernel, rfl⟩
theorem d24_54 : De jdk_40_method_47_code 54 (.aaload) 1 55 := ⟨by decide +kernel, rfl⟩
theorem d24_55 : De jdk_40_method_47_code 55 (.invokespecial 100) 3 58 := ⟨by decide +kernel, rfl⟩
theorem d24_58 : De jdk_40_method_47_code 58 (.areturn) 1 59 := ⟨by decide +kernel, rfl⟩
theorem d24_59 : De jdk_40_method_47_code 59 (.aload_n 0) 1 60 := ⟨by decide +kernel, rfl⟩
theorem d24_60 : De jdk_40_method_47_code 60 (.invokestatic 109) 3 63 := ⟨by decide +kernel, rfl⟩
theorem d24_63 : De jdk_40_method_47_code 63 (.areturn) 1 64 := ⟨by decide +kernel, rfl⟩
theorem d25_0 : De jdk_44_method_2_code 0 (.aload_n 0) 1 1 := ⟨by decide +kernel, rfl⟩
theorem d25_1 : De jdk_44_method_2_code 1 (.invokespecial 1) 3 4 := ⟨by decide +kernel, rfl⟩
theorem d25_4 : De jdk_44_method_2_code 4 (.aload_n 0) 1 5 := ⟨by decide +kernel, rfl⟩
theorem d25_5 : De jdk_44_method_2_code 5 (.aload_n 1) 1 6 := ⟨by decide +kernel, rfl⟩
theorem d25_6 : De jdk_44_method_2_code 6 (.invokestatic 7) 3 9 := ⟨by decide +kernel, rfl⟩
theorem d25_9 : De jdk_44_method_2_code 9 (.putfield 13) 3 12 := ⟨by decide +kernel, rfl⟩
theorem d25_12 : De jdk_44_method_2_code 12 (.aload_n 0) 1 13 := ⟨by decide +kernel, rfl⟩
theorem d25_13 : De jdk_44_method_2_code 13 (.aload_n 2) 1 14 := ⟨by decide +kernel, rfl⟩
theorem d25_14 : De jdk_44_method_2_code 14 (.invokestatic 7) 3 17 := ⟨by decide +kernel, rfl⟩
theorem d25_17 : De jdk_44_method_2_code 17 (.putfield 24) 3 20 := ⟨by decide +kernel, rfl⟩
theorem d25_20 : De jdk_44_method_2_code 20 (.return_) 1 21 := ⟨by decide +kernel, rfl⟩
theorem d26_0 : De jdk_46_method_1_code 0 (.aload_n 0) 1 1 := ⟨by decide +kernel, rfl⟩
theorem d26_1 : De jdk_46_method_1_code 1 (.invokespecial 1) 3 4 := ⟨by decide +kernel, rfl⟩
theorem d26_4 : De jdk_46_method_1_code 4 (.return_) 1 5 := ⟨by decide +kernel, rfl⟩
theorem d27_0 : De jdk_47_method_1_code 0 (.aload_n 0) 1 1 := ⟨by decide +kernel, rfl⟩
theorem d27_1 : De jdk_47_method_1_code 1 (.invokespecial 1) 3 4 := ⟨by decide +kernel, rfl⟩
theorem d27_4 : De jdk_47_method_1_code 4 (.return_) 1 5 := ⟨by decide +kernel, rfl⟩
theorem d28_0 : De jdk_31_method_10_code 0 (.aload_n 0) 1 1 := ⟨by decide +kernel, rfl⟩
theorem d28_1 : De jdk_31_method_10_code 1 (.ifnonnull 11) 3 4 := ⟨by decide +kernel, rfl⟩
theorem d28_12 : De jdk_31_method_10_code 12 (.aload_n 0) 1 13 := ⟨by decide +kernel, rfl⟩
theorem d28_13 : De jdk_31_method_10_code 13 (.areturn) 1 14 := ⟨by decide +kernel, rfl⟩
theorem d29_0 : De jdk_33_method_23_code 0 (.aload_n 0) 1 1 := ⟨by decide +kernel, rfl⟩
theorem d29_1 : De jdk_33_method_23_code 1 (.invokespecial 202) 3 4 := ⟨by decide +kernel, rfl⟩
theorem d29_4 : De jdk_33_method_23_code 4 (.aload_n 0) 1 5 := ⟨by decide +kernel, rfl⟩
theorem d29_5 : De jdk_33_method_23_code 5 (.iload_n 1) 1 6 := ⟨by decide +kernel, rfl⟩
theorem d29_6 : De jdk_33_method_23_code 6 (.putfield 205) 3 9 := ⟨by decide +kernel, rfl⟩
theorem d29_9 : De jdk_33_method_23_code 9 (.return_) 1 10 := ⟨by decide +kernel, rfl⟩
theorem d30_0 : De jdk_18_method_1_code 0 (.aload_n 0) 1 1 := ⟨by decide +kernel, rfl⟩
theorem d30_1 : De jdk_18_method_1_code 1 (.invokespecial 1) 3 4 := ⟨by decide +kernel, rfl⟩
theorem d30_4 : De jdk_18_method_1_code 4 (.return_) 1 5 := ⟨by decide +kernel, rfl⟩
theorem d31_0 : De jdk_44_method_1_code 0 (.aload_n 0) 1 1 := ⟨by decide +kernel, rfl⟩
theorem d31_1 : De jdk_44_method_1_code 1 (.invokespecial 1) 3 4 := ⟨by decide +kernel, rfl⟩
theorem d31_4 : De jdk_44_method_1_code 4 (.aload_n 0) 1 5 := ⟨by decide +kernel, rfl⟩
theorem d31_5 : De jdk_44_method_1_code 5 (.aload_n 1) 1 6 := ⟨by decide +kernel, rfl⟩
theorem d31_6 : De jdk_44_method_1_code 6 (.invokestatic 7) 3 9 := ⟨by decide +kernel, rfl⟩
theorem d31_9 : De jdk_44_method_1_code 9 (.putfield 13) 3 12 := ⟨by decide +kernel, rfl⟩
theorem d31_12 : De jdk_44_method_1_code 12 (.aload_n 0) 1 13 := ⟨by decide +kernel, rfl⟩
theorem d31_13 : De jdk_44_method_1_code 13 (.getstatic 19) 3 16 := ⟨by decide +kernel, rfl⟩
theorem d31_16 : De jdk_44_method_1_code 16 (.putfield 24) 3 19 := ⟨by decide +kernel, rfl⟩
theorem d31_19 : De jdk_44_method_1_code 19 (.return_) 1 20 := ⟨by decide +kernel, rfl⟩
theorem d32_0 : De jdk_44_method_3_code 0 (.aload_n 0) 1 1 := ⟨by decide +kernel, rfl⟩
theorem d32_1 : De jdk_44_method_3_code 1 (.getfield 24) 3 4 := ⟨by decide +kernel, rfl⟩
theorem d32_4 : De jdk_44_method_3_code 4 (.getstatic 19) 3 7 := ⟨by decide +kernel, rfl⟩
theorem d32_7 : De jdk_44_method_3_code 7 (.if_acmp .eq 7) 3 10 := ⟨by decide +kernel, rfl⟩
theorem d32_10 : De jdk_44_method_3_code 10 (.iconst 2) 1 11 := ⟨by decide +kernel, rfl⟩
theorem d32_11 : De jdk_44_method_3_code 11 (.goto 4) 3 14 := ⟨by decide +kernel, rfl⟩
theorem d32_14 : De jdk_44_method_3_code 14 (.iconst 1) 1 15 := ⟨by decide +kernel, rfl⟩
theorem d32_15 : De jdk_44_method_3_code 15 (.ireturn) 1 16 := ⟨by decide +kernel, rfl⟩
theorem d33_0 : De jdk_44_method_5_code 0 (.iload_n 1) 1 1 := ⟨by decide +kernel, rfl⟩
theorem d33_1 : De jdk_44_method_5_code 1 (.ifCond .ne 8) 3 4 := ⟨by decide +kernel, rfl⟩
theorem d33_4 : De jdk_44_method_5_code 4 (.aload_n 0) 1 5 := ⟨by decide +kernel, rfl⟩
theorem d33_5 : De jdk_44_method_5_code 5 (.getfield 13) 3 8 := ⟨by decide +kernel, rfl⟩
theorem d33_8 : De jdk_44_method_5_code 8 (.areturn) 1 9 := ⟨by decide +kernel, rfl⟩
theorem d33_9 : De jdk_44_method_5_code 9 (.iload_n 1) 1 10 := ⟨by decide +kernel, rfl⟩
theorem d33_10 : De jdk_44_method_5_code 10 (.iconst 1) 1 11 := ⟨by decide +kernel, rfl⟩
theorem d33_11 : De jdk_44_method_5_code 11 (.if_icmp .ne 18) 3 14 := ⟨by decide +kernel, rfl⟩
theorem d33_14 : De jdk_44_method_5_code 14 (.aload_n 0) 1 15 := ⟨by decide +kernel, rfl⟩
theorem d33_15 : De jdk_44_method_5_code 15 (.getfield 24) 3 18 := ⟨by decide +kernel, rfl⟩
theorem d33_18 : De jdk_44_method_5_code 18 (.getstatic 19) 3 21 := ⟨by decide +kernel, rfl⟩
theorem d33_21 : De jdk_44_method_5_code 21 (.if_acmp .eq 8) 3 24 := ⟨by decide +kernel, rfl⟩
theorem d33_24 : De jdk_44_method_5_code 24 (.aload_n 0) 1 25 := ⟨by decide +kernel, rfl⟩
theorem d33_25 : De jdk_44_method_5_code 25 (.getfield 24) 3 28 := ⟨by decide +kernel, rfl⟩
theorem d33_28 : De jdk_44_method_5_code 28 (.areturn) 1 29 := ⟨by decide +kernel, rfl⟩
theorem d34_0 : De jdk_32_method_3_code 0 (.new 2) 3 3 := ⟨by decide +kernel, rfl⟩
theorem d34_3 : De jdk_32_method_3_code 3 (.dup) 1 4 := ⟨by decide +kernel, rfl⟩
theorem d34_4 : De jdk_32_method_3_code 4 (.aload_n 0) 1 5 := ⟨by decide +kernel, rfl⟩
theorem d34_5 : De jdk_32_method_3_code 5 (.invokestatic 17) 3 8 := ⟨by decide +kernel, rfl⟩
theorem d34_8 : De jdk_32_method_3_code 8 (.invokespecial 23) 3 11 := ⟨by decide +kernel, rfl⟩
theorem d34_11 : De jdk_32_method_3_code 11 (.areturn) 1 12 := ⟨by decide +kernel, rfl⟩
theorem d35_0 : De jdk_32_method_2_code 0 (.aload_n 0) 1 1 := ⟨by decide +kernel, rfl⟩
theorem d35_1 : De jdk_32_method_2_code 1 (.invokespecial 7) 3 4 := ⟨by decide +kernel, rfl⟩
theorem d35_4 : De jdk_32_method_2_code 4 (.aload_n 0) 1 5 := ⟨by decide +kernel, rfl⟩
theorem d35_5 : De jdk_32_method_2_code 5 (.aload_n 1) 1 6 := ⟨by decide +kernel, rfl⟩
theorem d35_6 : De jdk_32_method_2_code 6 (.putfield 13) 3 9 := ⟨by decide +kernel, rfl⟩
theorem d35_9 : De jdk_32_method_2_code 9 (.return_) 1 10 := ⟨by decide +kernel, rfl⟩
theorem d36_0 : De jdk_32_method_5_code 0 (.aload_n 0) 1 1 := ⟨by decide +kernel, rfl⟩
theorem d36_1 : De jdk_32_method_5_code 1 (.getfield 13) 3 4 := ⟨by decide +kernel, rfl⟩
theorem d36_4 : De jdk_32_method_5_code 4 (.ifnonnull 13) 3 7 := ⟨by decide +kernel, rfl⟩
theorem d36_17 : De jdk_32_method_5_code 17 (.aload_n 0) 1 18 := ⟨by decide +kernel, rfl⟩
theorem d36_18 : De jdk_32_method_5_code 18 (.getfield 13) 3 21 := ⟨by decide +kernel, rfl⟩
theorem d36_21 : De jdk_32_method_5_code 21 (.areturn) 1 22 := ⟨by decide +kernel, rfl⟩
theorem d37_0 : De jdk_33_method_27_code 0 (.aload_n 0) 1 1 := ⟨by decide +kernel, rfl⟩
theorem d37_1 : De jdk_33_method_27_code 1 (.getfield 205) 3 4 := ⟨by decide +kernel, rfl⟩
theorem d37_4 : De jdk_33_method_27_code 4 (.ireturn) 1 5 := ⟨by decide +kernel, rfl⟩
theorem d38_0 : De jdk_56_method_4_code 0 (.aload_n 0) 1 1 := ⟨by decide +kernel, rfl⟩
theorem d38_1 : De jdk_56_method_4_code 1 (.arraylength) 1 2 := ⟨by decide +kernel, rfl⟩
theorem d38_2 : De jdk_56_method_4_code 2 (.anewarray 2) 3 5 := ⟨by decide +kernel, rfl⟩
theorem d38_5 : De jdk_56_method_4_code 5 (.astore_n 1) 1 6 := ⟨by decide +kernel, rfl⟩
theorem d38_6 : De jdk_56_method_4_code 6 (.iconst 0) 1 7 := ⟨by decide +kernel, rfl⟩
theorem d38_7 : De jdk_56_method_4_code 7 (.istore_n 2) 1 8 := ⟨by decide +kernel, rfl⟩
theorem d38_8 : De jdk_56_method_4_code 8 (.iload_n 2) 1 9 := ⟨by decide +kernel, rfl⟩
theorem d38_9 : De jdk_56_method_4_code 9 (.aload_n 0) 1 10 := ⟨by decide +kernel, rfl⟩
theorem d38_10 : De jdk_56_method_4_code 10 (.arraylength) 1 11 := ⟨by decide +kernel, rfl⟩
theorem d38_11 : De jdk_56_method_4_code 11 (.if_icmp .ge 18) 3 14 := ⟨by decide +kernel, rfl⟩
theorem d38_14 : De jdk_56_method_4_code 14 (.aload_n 1) 1 15 := ⟨by decide +kernel, rfl⟩
theorem d38_15 : De jdk_56_method_4_code 15 (.iload_n 2) 1 16 := ⟨by decide +kernel, rfl⟩
theorem d38_16 : De jdk_56_method_4_code 16 (.aload_n 0) 1 17 := ⟨by decide +kernel, rfl⟩
theorem d38_17 : De jdk_56_method_4_code 17 (.iload_n 2) 1 18 := ⟨by decide +kernel, rfl⟩
theorem d38_18 : De jdk_56_method_4_code 18 (.aaload) 1 19 := ⟨by decide +kernel, rfl⟩
theorem d38_19 : De jdk_56_method_4_code 19 (.invokestatic 37) 3 22 := ⟨by decide +kernel, rfl⟩
theorem d38_22 : De jdk_56_method_4_code 22 (.aastore) 1 23 := ⟨by decide +kernel, rfl⟩
theorem d38_23 : De jdk_56_method_4_code 23 (.iinc 2 1) 3 26 := ⟨by decide +kernel, rfl⟩
theorem d38_26 : De jdk_56_method_4_code 26 (.goto (-18)) 3 29 := ⟨by decide +kernel, rfl⟩
theorem d38_29 : De jdk_56_method_4_code 29 (.new 12) 3 32 := ⟨by decide +kernel, rfl⟩
theorem d38_32 : De jdk_56_method_4_code 32 (.dup) 1 33 := ⟨by decide +kernel, rfl⟩
theorem d38_33 : De jdk_56_method_4_code 33 (.aload_n 1) 1 34 := ⟨by decide +kernel, rfl⟩
theorem d38_34 : De jdk_56_method_4_code 34 (.iconst 0) 1 35 := ⟨by decide +kernel, rfl⟩
theorem d38_35 : De jdk_56_method_4_code 35 (.invokespecial 43) 3 38 := ⟨by decide +kernel, rfl⟩
theorem d38_38 : De jdk_56_method_4_code 38 (.areturn) 1 39 := ⟨by decide +kernel, rfl⟩
theorem d39_0 : De jdk_45_method_1_code 0 (.aload_n 0) 1 1 := ⟨by decide +kernel, rfl⟩
theorem d39_1 : De jdk_45_method_1_code 1 (.invokespecial 1) 3 4 := ⟨by decide +kernel, rfl⟩
theorem d39_4 : De jdk_45_method_1_code 4 (.aload_n 0) 1 5 := ⟨by decide +kernel, rfl⟩
theorem d39_5 : De jdk_45_method_1_code 5 (.aload_n 1) 1 6 := ⟨by decide +kernel, rfl⟩
theorem d39_6 : De jdk_45_method_1_code 6 (.putfield 7) 3 9 := ⟨by decide +kernel, rfl⟩
theorem d39_9 : De jdk_45_method_1_code 9 (.aload_n 0) 1 10 := ⟨by decide +kernel, rfl⟩
theorem d39_10 : De jdk_45_method_1_code 10 (.iload_n 2) 1 11 := ⟨by decide +kernel, rfl⟩
theorem d39_11 : De jdk_45_method_1_code 11 (.putfield 13) 3 14 := ⟨by decide +kernel, rfl⟩
theorem d39_14 : De jdk_45_method_1_code 14 (.return_) 1 15 := ⟨by decide +kernel, rfl⟩
theorem d40_0 : De jdk_45_method_3_code 0 (.aload_n 0) 1 1 := ⟨by decide +kernel, rfl⟩
theorem d40_1 : De jdk_45_method_3_code 1 (.getfield 7) 3 4 := ⟨by decide +kernel, rfl⟩
theorem d40_4 : De jdk_45_method_3_code 4 (.arraylength) 1 5 := ⟨by decide +kernel, rfl⟩
theorem d40_5 : De jdk_45_method_3_code 5 (.ireturn) 1 6 := ⟨by decide +kernel, rfl⟩
theorem d41_0 : De jdk_45_method_4_code 0 (.aload_n 0) 1 1 := ⟨by decide +kernel, rfl⟩
theorem d41_1 : De jdk_45_method_4_code 1 (.getfield 7) 3 4 := ⟨by decide +kernel, rfl⟩
theorem d41_4 : De jdk_45_method_4_code 4 (.iload_n 1) 1 5 := ⟨by decide +kernel, rfl⟩
theorem d41_5 : De jdk_45_method_4_code 5 (.aaload) 1 6 := ⟨by decide +kernel, rfl⟩
theorem d41_6 : De jdk_45_method_4_code 6 (.areturn) 1 7 := ⟨by decide +kernel, rfl⟩
theorem pd0 : parseMethodDescriptor "()V" = some ⟨[], none⟩ := by decide +kernel
theorem pd1 : parseMethodDescriptor "(II)I" = some ⟨[.int, .int], some .int⟩ := by decide +kernel
theorem pd2 : parseMethodDescriptor "(I)[Ljava/lang/Object;" = some ⟨[.int], some (.array (.object "java/lang/Object"))⟩ := by decide +kernel
theorem pd3 : parseMethodDescriptor "()[Ljava/lang/Object;" = some ⟨[], some (.array (.object "java/lang/Object"))⟩ := by decide +kernel
theorem pd4 : parseMethodDescriptor "(Ljava/lang/Object;[Ljava/lang/Object;I)V" = some ⟨[(.object "java/lang/Object"), (.array (.object "java/lang/Object")), .int], none⟩ := by decide +kernel
theorem pd5 : parseMethodDescriptor "([Ljava/lang/Object;ILjava/lang/Class;)[Ljava/lang/Object;" = some ⟨[(.array (.object "java/lang/Object")), .int, (.object "java/lang/Class")], some (.array (.object "java/lang/Object"))⟩ := by decide +kernel
theorem pd6 : parseMethodDescriptor "([Ljava/lang/Object;I)[Ljava/lang/Object;" = some ⟨[(.array (.object "java/lang/Object")), .int], some (.array (.object "java/lang/Object"))⟩ := by decide +kernel
theorem pd7 : parseMethodDescriptor "(Ljava/lang/Object;)Ljava/lang/Object;" = some ⟨[(.object "java/lang/Object")], some (.object "java/lang/Object")⟩ := by decide +kernel
theorem pd8 : parseMethodDescriptor "([Ljava/lang/Object;Z)V" = some ⟨[(.array (.object "java/lang/Object")), .boolean], none⟩ := by decide +kernel
theorem pd9 : parseMethodDescriptor "(Ljava/lang/Object;)V" = some ⟨[(.object "java/lang/Object")], none⟩ := by decide +kernel
theorem pd10 : parseMethodDescriptor "(Ljava/lang/Object;Ljava/lang/Object;)V" = some ⟨[(.object "java/lang/Object"), (.object "java/lang/Object")], none⟩ := by decide +kernel
theorem pd11 : parseMethodDescriptor "([Ljava/lang/Object;)Ljava/util/List;" = some ⟨[(.array (.object "java/lang/Object"))], some (.object "java/util/List")⟩ := by decide +kernel
theorem pd12 : parseMethodDescriptor "()Z" = some ⟨[], some .boolean⟩ := by decide +kernel
theorem pd13 : parseMethodDescriptor "()Ljava/util/List;" = some ⟨[], some (.object "java/util/List")⟩ := by decide +kernel
theorem pd14 : parseMethodDescriptor "(Ljava/util/Collection;)Ljava/util/List;" = some ⟨[(.object "java/util/Collection")], some (.object "java/util/List")⟩ := by decide +kernel
theorem pd15 : parseMethodDescriptor "()Ljava/util/Optional;" = some ⟨[], some (.object "java/util/Optional")⟩ := by decide +kernel
theorem pd16 : parseMethodDescriptor "()I" = some ⟨[], some .int⟩ := by decide +kernel
theorem pd17 : parseMethodDescriptor "(I)Ljava/lang/Object;" = some ⟨[.int], some (.object "java/lang/Object")⟩ := by decide +kernel
theorem pd18 : parseMethodDescriptor "(Ljava/lang/Object;)Ljava/util/Optional;" = some ⟨[(.object "java/lang/Object")], some (.object "java/util/Optional")⟩ := by decide +kernel
theorem pd19 : parseMethodDescriptor "(I)V" = some ⟨[.int], none⟩ := by decide +kernel
theorem pd20 : parseMethodDescriptor "(Ljava/util/List;Z)V" = some ⟨[(.object "java/util/List"), .boolean], none⟩ := by decide +kernel
theorem pd21 : parseMethodDescriptor "(I)Ljava/lang/Integer;" = some ⟨[.int], some (.object "java/lang/Integer")⟩ := by decide +kernel
theorem pd22 : parseMethodDescriptor "(Ljava/lang/Object;)Z" = some ⟨[(.object "java/lang/Object")], some .boolean⟩ := by decide +kernel
theorem pd23 : parseMethodDescriptor "()Ljava/lang/Object;" = some ⟨[], some (.object "java/lang/Object")⟩ := by decide +kernel
theorem pn0 : plainName "java/util/AbstractCollection" = true := by first | (simp [plainName, overriddenIn]; done) | decide +kernel
theorem pn1 : plainName "java/util/ImmutableCollections$AbstractImmutableCollection" = true := by first | (simp [plainName, overriddenIn]; done) | decide +kernel
theorem pn2 : plainName "java/util/ImmutableCollections$AbstractImmutableList" = true := by first | (simp [plainName, overriddenIn]; done) | decide +kernel
theorem pn3 : plainName "java/lang/Record" = true := by first | (simp [plainName, overriddenIn]; done) | decide +kernel
theorem pn4 : plainName "java/lang/Number" = true := by first | (simp [plainName, overriddenIn]; done) | decide +kernel
theorem pn5 : plainName "java/util/AbstractList" = true := by first | (simp [plainName, overriddenIn]; done) | decide +kernel
theorem pn6 : plainName "java/util/ArrayList" = true := by first | (simp [plainName, overriddenIn]; done) | decide +kernel
theorem pn7 : plainName "java/util/Arrays" = true := by first | (simp [plainName, overriddenIn]; done) | decide +kernel
theorem pn8 : plainName "java/util/Objects" = true := by first | (simp [plainName, overriddenIn]; done) | decide +kernel
theorem pn9 : plainName "java/util/ImmutableCollections$List12" = true := by first | (simp [plainName, overriddenIn]; done) | decide +kernel
theorem pn10 : plainName "java/util/ImmutableCollections$ListN" = true := by first | (simp [plainName, overriddenIn]; done) | decide +kernel
theorem pn11 : plainName "java/util/ImmutableCollections" = true := by first | (simp [plainName, overriddenIn]; done) | decide +kernel
theorem pn12 : plainName "java/util/List" = true := by first | (simp [plainName, overriddenIn]; done) | decide +kernel
theorem pn13 : plainName "com/example/uketsuke/uketsuke/core/conversation/Page" = true := by first | (simp [plainName, overriddenIn]; done) | decide +kernel
theorem pn14 : plainName "java/util/Optional" = true := by first | (simp [plainName, overriddenIn]; done) | decide +kernel
theorem pn15 : plainName "java/lang/Integer" = true := by first | (simp [plainName, overriddenIn]; done) | decide +kernel
theorem pn16 : plainName "com/example/uketsuke/uketsuke/core/conversation/PageContinuesAfterPinLaw" = true := by first | (simp [plainName, overriddenIn]; done) | decide +kernel
def GG (Z : State) (ga1 ga2 ga3 ga4 ga5 ga6 ga7 : Addr) (gc1 gc2 gc4 gc6 : Cell) : Prop := Sta Z Z.heap "java/util/ArrayList" "EMPTY_ELEMENTDATA" "[Ljava/lang/Object;" (.ref ga1) ∧ Arr Z Z.heap ga1 gc1 (Jvm.ClassFile.FieldType.object "java/lang/Object") ∧ Exa Z Z.heap ga1 "[Ljava/lang/Object;" ∧ Sta Z Z.heap "java/util/ArrayList" "DEFAULTCAPACITY_EMPTY_ELEMENTDATA" "[Ljava/lang/Object;" (.ref ga2) ∧ Arr Z Z.heap ga2 gc2 (Jvm.ClassFile.FieldType.object "java/lang/Object") ∧ Exa Z Z.heap ga2 "[Ljava/lang/Object;" ∧ Sta Z Z.heap "java/util/ImmutableCollections" "EMPTY_LIST" "Ljava/util/ImmutableCollections$ListN;" (.ref ga3) ∧ Exa Z Z.heap ga3 "java/util/ImmutableCollections$ListN" ∧ Fld Z Z.heap ga3 "java/util/ImmutableCollections$ListN" "elements" "[Ljava/lang/Object;" (.ref ga4) ∧ Arr Z Z.heap ga4 gc4 (Jvm.ClassFile.FieldType.object "java/lang/Object") ∧ Exa Z Z.heap ga4 "[Ljava/lang/Object;" ∧ Sta Z Z.heap "java/util/Optional" "EMPTY" "Ljava/util/Optional;" (.ref ga5) ∧ Exa Z Z.heap ga5 "java/util/Optional" ∧ Sta Z Z.heap "java/lang/Integer$IntegerCache" "cache" "[Ljava/lang/Integer;" (.ref ga6) ∧ Arr Z Z.heap ga6 gc6 (Jvm.ClassFile.FieldType.object "java/lang/Integer") ∧ Exa Z Z.heap ga6 "[Ljava/lang/Integer;" ∧ Sta Z Z.heap "java/util/ImmutableCollections" "EMPTY" "Ljava/lang/Object;" (.ref ga7) ∧ Exa Z Z.heap ga7 "java/lang/Object" ∧ gc1.slots.size.toInt32 = (0 : Int32) ∧ gc2.slots.size.toInt32 = (0 : Int32) ∧ gc4.slots.size.toInt32 = (0 : Int32) ∧ Fld Z Z.heap ga3 "java/util/ImmutableCollections$ListN" "allowNulls" "Z" (.int (0 : Int32)) ∧ Fld Z Z.heap ga5 "java/util/Optional" "value" "Ljava/lang/Object;" .null ∧ Sta Z Z.heap "java/lang/Integer$IntegerCache" "high" "I" (.int (127 : Int32)) ∧ gc6.slots.size.toInt32 = (256 : Int32) ∧ Sta Z Z.heap "java/util/ImmutableCollections" "$assertionsDisabled" "Z" (.int (1 : Int32))
def AL0 (Z : State) (h : Heap) (a dc : Addr) (m : Int32) : Prop := Exa Z h a "java/util/ArrayList" ∧ Fld Z h a "java/util/AbstractList" "modCount" "I" (.int m) ∧ Fld Z h a "java/util/ArrayList" "size" "I" (.int 0) ∧ Fld Z h a "java/util/ArrayList" "elementData" "[Ljava/lang/Object;" (.ref dc)
def ALn (Z : State) (h : Heap) (a b : Addr) (k : ClassId) (m n : Int32) (vs : List Value) : Prop := Exa Z h a "java/util/ArrayList" ∧ Fld Z h a "java/util/AbstractList" "modCount" "I" (.int m) ∧ Fld Z h a "java/util/ArrayList" "size" "I" (.int n) ∧ Fld Z h a "java/util/ArrayList" "elementData" "[Ljava/lang/Object;" (.ref b) ∧ Exa Z h b "[Ljava/lang/Object;" ∧ Arv Z h b k (.object "java/lang/Object") 10 vs .null ∧ Ovr Z k "java/lang/Object"
theorem ef_rmABC (m : MethodId) (x0 : Addr) : entryFrame m #[(.ref x0)] 1 = mkF m 0 #[(.val (.ref x0))] [] := by first | (simp [entryFrame, mkF, argsToLocals, Value.category]; done) | rfl
set_option maxRecDepth 65536 in
set_option maxHeartbeats 4000000 in
theorem rmABC {l : Launch} {Z : State} {a0 : Array Value} (hw : ∀ d ∈ tables_1, d.before a0 Z = true) {n0 : Nat} {h0 : Heap} {ga1 ga2 ga3 ga4 ga5 ga6 ga7 : Addr} {gc1 gc2 gc4 gc6 : Cell} {mr : Addr} (a : Addr)  (G : GG Z ga1 ga2 ga3 ga4 ga5 ga6 ga7 gc1 gc2 gc4 gc6) (O : Old Z n0 h0) (M : Mr Z "[Ljava/lang/Object;" mr) :
    Pays l Z (⟨"java/util/AbstractCollection", "<init>", "()V"⟩ : MethodName) jdk_22_method_1_code 1 none ({ frames := 1, cells := 0, slots := 0, locals := 12 } : Room) #[(.ref a)] n0 h0 (QP none h0) := by
  refine Pays.of hw (plainFor_of_name pn0) (fun m => ef_rmABC m a) fun B C => ?_
  refine iAloadN C d3_0 rfl rfl ?_
  refine iInitO C tw18 tw19 tw20 d3_1 rfl (by decide) (W := 0) rfl (by decide) ?_
  refine iRetV C d3_4 ⟨by decide, by decide⟩ ?_
  exact ⟨rfl, rfl⟩
theorem ef_rmAIC (m : MethodId) (x0 : Addr) : entryFrame m #[(.ref x0)] 1 = mkF m 0 #[(.val (.ref x0))] [] := by first | (simp [entryFrame, mkF, argsToLocals, Value.category]; done) | rfl
set_option maxRecDepth 65536 in
set_option maxHeartbeats 4000000 in
theorem rmAIC {l : Launch} {Z : State} {a0 : Array Value} (hw : ∀ d ∈ tables_1, d.before a0 Z = true) {n0 : Nat} {h0 : Heap} {ga1 ga2 ga3 ga4 ga5 ga6 ga7 : Addr} {gc1 gc2 gc4 gc6 : Cell} {mr : Addr} (a : Addr)  (G : GG Z ga1 ga2 ga3 ga4 ga5 ga6 ga7 gc1 gc2 gc4 gc6) (O : Old Z n0 h0) (M : Mr Z "[Ljava/lang/Object;" mr) :
    Pays l Z (⟨"java/util/ImmutableCollections$AbstractImmutableCollection", "<init>", "()V"⟩ : MethodName) jdk_47_method_1_code 1 none ({ frames := 2, cells := 0, slots := 0, locals := 24 } : Room) #[(.ref a)] n0 h0 (QP none h0) := by
  refine Pays.of hw (plainFor_of_name pn1) (fun m => ef_rmAIC m a) fun B C => ?_
  refine iAloadN C d27_0 rfl rfl ?_
  refine iCallI C (rmABC hw a G O M) rfl tw176 tw13 tw16 tw17 ⟨by decide, by decide⟩ (a := a) (argsL := []) (S' := []) (lenOf pd0 rfl) rfl rfl d27_1 rfl (W := 0) rfl ⟨by decide, by decide, rfl, rfl, by decide, by decide⟩ fun v1 h1 q1 => ?_
  obtain ⟨rfl, rfl⟩ := q1
  show Go B n0 _ h0 0 0 4 #[(.val (.ref a))] []
  refine iRetV C d27_4 ⟨by decide, by decide⟩ ?_
  exact ⟨rfl, rfl⟩
theorem ef_rmAIL (m : MethodId) (x0 : Addr) : entryFrame m #[(.ref x0)] 1 = mkF m 0 #[(.val (.ref x0))] [] := by first | (simp [entryFrame, mkF, argsToLocals, Value.category]; done) | rfl
set_option maxRecDepth 65536 in
set_option maxHeartbeats 4000000 in
theorem rmAIL {l : Launch} {Z : State} {a0 : Array Value} (hw : ∀ d ∈ tables_1, d.before a0 Z = true) {n0 : Nat} {h0 : Heap} {ga1 ga2 ga3 ga4 ga5 ga6 ga7 : Addr} {gc1 gc2 gc4 gc6 : Cell} {mr : Addr} (a : Addr)  (G : GG Z ga1 ga2 ga3 ga4 ga5 ga6 ga7 gc1 gc2 gc4 gc6) (O : Old Z n0 h0) (M : Mr Z "[Ljava/lang/Object;" mr) :
    Pays l Z (⟨"java/util/ImmutableCollections$AbstractImmutableList", "<init>", "()V"⟩ : MethodName) jdk_46_method_1_code 1 none ({ frames := 3, cells := 0, slots := 0, locals := 36 } : Room) #[(.ref a)] n0 h0 (QP none h0) := by
  refine Pays.of hw (plainFor_of_name pn2) (fun m => ef_rmAIL m a) fun B C => ?_
  refine iAloadN C d26_0 rfl rfl ?_
  refine iCallI C (rmAIC hw a G O M) rfl tw170 tw171 tw174 tw175 ⟨by decide, by decide⟩ (a := a) (argsL := []) (S' := []) (lenOf pd0 rfl) rfl rfl d26_1 rfl (W := 0) rfl ⟨by decide, by decide, rfl, rfl, by decide, by decide⟩ fun v1 h1 q1 => ?_
  obtain ⟨rfl, rfl⟩ := q1
  show Go B n0 _ h0 0 0 4 #[(.val (.ref a))] []
  refine iRetV C d26_4 ⟨by decide, by decide⟩ ?_
  exact ⟨rfl, rfl⟩
theorem ef_rmREC (m : MethodId) (x0 : Addr) : entryFrame m #[(.ref x0)] 1 = mkF m 0 #[(.val (.ref x0))] [] := by first | (simp [entryFrame, mkF, argsToLocals, Value.category]; done) | rfl
set_option maxRecDepth 65536 in
set_option maxHeartbeats 4000000 in
theorem rmREC {l : Launch} {Z : State} {a0 : Array Value} (hw : ∀ d ∈ tables_1, d.before a0 Z = true) {n0 : Nat} {h0 : Heap} {ga1 ga2 ga3 ga4 ga5 ga6 ga7 : Addr} {gc1 gc2 gc4 gc6 : Cell} {mr : Addr} (a : Addr)  (G : GG Z ga1 ga2 ga3 ga4 ga5 ga6 ga7 gc1 gc2 gc4 gc6) (O : Old Z n0 h0) (M : Mr Z "[Ljava/lang/Object;" mr) :
    Pays l Z (⟨"java/lang/Record", "<init>", "()V"⟩ : MethodName) jdk_30_method_1_code 1 none ({ frames := 1, cells := 0, slots := 0, locals := 12 } : Room) #[(.ref a)] n0 h0 (QP none h0) := by
  refine Pays.of hw (plainFor_of_name pn3) (fun m => ef_rmREC m a) fun B C => ?_
  refine iAloadN C d6_0 rfl rfl ?_
  refine iInitO C tw37 tw19 tw20 d6_1 rfl (by decide) (W := 0) rfl (by decide) ?_
  refine iRetV C d6_4 ⟨by decide, by decide⟩ ?_
  exact ⟨rfl, rfl⟩
theorem ef_rmNUM (m : MethodId) (x0 : Addr) : entryFrame m #[(.ref x0)] 1 = mkF m 0 #[(.val (.ref x0))] [] := by first | (simp [entryFrame, mkF, argsToLocals, Value.category]; done) | rfl
set_option maxRecDepth 65536 in
set_option maxHeartbeats 4000000 in
theorem rmNUM {l : Launch} {Z : State} {a0 : Array Value} (hw : ∀ d ∈ tables_1, d.before a0 Z = true) {n0 : Nat} {h0 : Heap} {ga1 ga2 ga3 ga4 ga5 ga6 ga7 : Addr} {gc1 gc2 gc4 gc6 : Cell} {mr : Addr} (a : Addr)  (G : GG Z ga1 ga2 ga3 ga4 ga5 ga6 ga7 gc1 gc2 gc4 gc6) (O : Old Z n0 h0) (M : Mr Z "[Ljava/lang/Object;" mr) :
    Pays l Z (⟨"java/lang/Number", "<init>", "()V"⟩ : MethodName) jdk_18_method_1_code 1 none ({ frames := 1, cells := 0, slots := 0, locals := 12 } : Room) #[(.ref a)] n0 h0 (QP none h0) := by
  refine Pays.of hw (plainFor_of_name pn4) (fun m => ef_rmNUM m a) fun B C => ?_
  refine iAloadN C d30_0 rfl rfl ?_
  refine iInitO C tw198 tw19 tw20 d30_1 rfl (by decide) (W := 0) rfl (by decide) ?_
  refine iRetV C d30_4 ⟨by decide, by decide⟩ ?_
  exact ⟨rfl, rfl⟩
def QABL (Z : State) (a : Addr) (h0 : Heap) (v : Option Value) (h : Heap) : Prop := v = none ∧ Keep h0 h [a] ∧ Fld Z h a "java/util/AbstractList" "modCount" "I" (.int 0) ∧ Fld Z h a "java/util/ArrayList" "size" "I" (.int 0) ∧ Fld Z h a "java/util/ArrayList" "elementData" "[Ljava/lang/Object;" .null
theorem ef_rmABL (m : MethodId) (x0 : Addr) : entryFrame m #[(.ref x0)] 1 = mkF m 0 #[(.val (.ref x0))] [] := by first | (simp [entryFrame, mkF, argsToLocals, Value.category]; done) | rfl
set_option maxRecDepth 65536 in
set_option maxHeartbeats 4000000 in
theorem rmABL {l : Launch} {Z : State} {a0 : Array Value} (hw : ∀ d ∈ tables_1, d.before a0 Z = true) {n0 : Nat} {h0 : Heap} {ga1 ga2 ga3 ga4 ga5 ga6 ga7 : Addr} {gc1 gc2 gc4 gc6 : Cell} {mr : Addr}  (a : Addr) (EA : Exa Z h0 a "java/util/ArrayList") (F1 : Fld Z h0 a "java/util/AbstractList" "modCount" "I" (.int (0 : Int32))) (F2 : Fld Z h0 a "java/util/ArrayList" "size" "I" (.int (0 : Int32))) (F3 : Fld Z h0 a "java/util/ArrayList" "elementData" "[Ljava/lang/Object;" .null) (na : n0 ≤ a) (G : GG Z ga1 ga2 ga3 ga4 ga5 ga6 ga7 gc1 gc2 gc4 gc6) (O : Old Z n0 h0) (M : Mr Z "[Ljava/lang/Object;" mr) :
    Pays l Z (⟨"java/util/AbstractList", "<init>", "()V"⟩ : MethodName) jdk_39_method_1_code 1 none ({ frames := 2, cells := 0, slots := 0, locals := 24 } : Room) #[(.ref a)] n0 h0 (QABL Z a h0) := by
  refine Pays.of hw (plainFor_of_name pn5) (fun m => ef_rmABL m a) fun B C => ?_
  refine iAloadN C d2_0 rfl rfl ?_
  refine iCallI C (rmABC hw a G O M) rfl tw12 tw13 tw16 tw17 ⟨by decide, by decide⟩ (a := a) (argsL := []) (S' := []) (lenOf pd0 rfl) rfl rfl d2_1 rfl (W := 0) rfl ⟨by decide, by decide, rfl, rfl, by decide, by decide⟩ fun v1 h1 q1 => ?_
  obtain ⟨rfl, rfl⟩ := q1
  show Go B n0 _ h0 0 0 4 #[(.val (.ref a))] []
  refine iAloadN C d2_4 rfl rfl ?_
  refine iIconst C d2_5 (v := (0 : Int32)) (by decide) ?_
  refine iPutF C (v := (.int (0 : Int32))) tw21 F1 EA (Or.inl tw22) tw1 (ty := .int) (by decide) rfl rfl na d2_6 fun h2 W2 => ?_
  have Fw2 := Fld.same W2 F1
  have O2 := O.wr W2 na
  refine iRetV C d2_9 ⟨by decide, by decide⟩ ?_
  exact ⟨rfl, ((Keep.refl h0 [a]).wr W2 (Or.inl (by simp))), Fw2, (Fld.other W2 F2 (Or.inr (slot_ne (Or.inl (hw _ tw62)) (Or.inl (hw _ tw22)) (by decide) (t := .int) (t' := .int) (by decide) (by decide)))), (Fld.other W2 F3 (Or.inr (slot_ne (Or.inl (hw _ tw25)) (Or.inl (hw _ tw22)) (by decide) (t := (.array (.object "java/lang/Object"))) (t' := .int) (by decide) (by decide))))⟩
def QAL (Z : State) (a dc : Addr) (h0 : Heap) (v : Option Value) (h : Heap) : Prop := v = none ∧ Keep h0 h [a] ∧ AL0 Z h a dc 0
theorem ef_rmAL (m : MethodId) (x0 : Addr) : entryFrame m #[(.ref x0)] 1 = mkF m 0 #[(.val (.ref x0))] [] := by first | (simp [entryFrame, mkF, argsToLocals, Value.category]; done) | rfl
set_option maxRecDepth 65536 in
set_option maxHeartbeats 4000000 in
theorem rmAL {l : Launch} {Z : State} {a0 : Array Value} (hw : ∀ d ∈ tables_1, d.before a0 Z = true) {n0 : Nat} {h0 : Heap} {ga1 ga2 ga3 ga4 ga5 ga6 ga7 : Addr} {gc1 gc2 gc4 gc6 : Cell} {mr : Addr}  (a : Addr) (EA : Exa Z h0 a "java/util/ArrayList") (F1 : Fld Z h0 a "java/util/AbstractList" "modCount" "I" (.int (0 : Int32))) (F2 : Fld Z h0 a "java/util/ArrayList" "size" "I" (.int (0 : Int32))) (F3 : Fld Z h0 a "java/util/ArrayList" "elementData" "[Ljava/lang/Object;" .null) (na : n0 ≤ a) (G : GG Z ga1 ga2 ga3 ga4 ga5 ga6 ga7 gc1 gc2 gc4 gc6) (O : Old Z n0 h0) (M : Mr Z "[Ljava/lang/Object;" mr) :
    Pays l Z (⟨"java/util/ArrayList", "<init>", "()V"⟩ : MethodName) jdk_38_method_2_code 1 none ({ frames := 3, cells := 0, slots := 0, locals := 36 } : Room) #[(.ref a)] n0 h0 (QAL Z a ga2 h0) := by
  refine Pays.of hw (plainFor_of_name pn6) (fun m => ef_rmAL m a) fun B C => ?_
  refine iAloadN C d1_0 rfl rfl ?_
  refine iCallI C (rmABL hw a EA F1 F2 F3 na G O M) rfl tw6 tw7 tw10 tw11 ⟨by decide, by decide⟩ (a := a) (argsL := []) (S' := []) (lenOf pd0 rfl) rfl rfl d1_1 rfl (W := 0) rfl ⟨by decide, by decide, rfl, rfl, by decide, by decide⟩ fun v1 h1 q1 => ?_
  obtain ⟨rfl, K1, f1_1, f2_1, f3_1⟩ := q1
  have O1 := O.keep K1 (allS na all0)
  show Go B n0 _ h1 0 0 4 #[(.val (.ref a))] []
  refine iAloadN C d1_4 rfl rfl ?_
  refine iGetS C tw23 (G.2.2.2.1.ext O1.2) d1_5 ?_
  refine iPutF C (v := (.ref ga2)) tw24 f3_1 (EA.keep K1) (Or.inl tw25) tw1 (ty := (.array (.object "java/lang/Object"))) (by decide) rfl rfl na d1_8 fun h2 W2 => ?_
  have Fw2 := Fld.same W2 f3_1
  have O2 := O1.wr W2 na
  refine iRetV C d1_11 ⟨by decide, by decide⟩ ?_
  exact ⟨rfl, (((Keep.refl h0 [a]).trans K1 (allS (Or.inl (by simp)) all0)).wr W2 (Or.inl (by simp))), ((EA.keep K1).wr W2), (Fld.other W2 f1_1 (Or.inr (slot_ne (Or.inl (hw _ tw22)) (Or.inl (hw _ tw25)) (by decide) (t := .int) (t' := (.array (.object "java/lang/Object"))) (by decide) (by decide)))), (Fld.other W2 f2_1 (Or.inr (slot_ne (Or.inl (hw _ tw62)) (Or.inl (hw _ tw25)) (by decide) (t := .int) (t' := (.array (.object "java/lang/Object"))) (by decide) (by decide)))), Fw2⟩
theorem ef_rmMax (m : MethodId)  : entryFrame m #[(.int (10 : Int32)), (.int (1 : Int32))] 2 = mkF m 0 #[(.val (.int (10 : Int32))), (.val (.int (1 : Int32)))] [] := by first | (simp [entryFrame, mkF, argsToLocals, Value.category]; done) | rfl
set_option maxRecDepth 65536 in
set_option maxHeartbeats 4000000 in
theorem rmMax {l : Launch} {Z : State} {a0 : Array Value} (hw : ∀ d ∈ tables_1, d.before a0 Z = true) {n0 : Nat} {h0 : Heap} {ga1 ga2 ga3 ga4 ga5 ga6 ga7 : Addr} {gc1 gc2 gc4 gc6 : Cell} {mr : Addr}   (G : GG Z ga1 ga2 ga3 ga4 ga5 ga6 ga7 gc1 gc2 gc4 gc6) (O : Old Z n0 h0) (M : Mr Z "[Ljava/lang/Object;" mr) :
    Pays l Z (⟨"java/lang/Math", "max", "(II)I"⟩ : MethodName) jdk_29_method_65_code 2 (some .int) ({ frames := 0, cells := 0, slots := 0, locals := 0 } : Room) #[(.int (10 : Int32)), (.int (1 : Int32))] n0 h0 (QP (some (.int 10)) h0) := by
  refine Pays.of hw (Jvm.Free.JP.mathPlain rfl (by decide +kernel)) (fun m => ef_rmMax m ) fun B C => ?_
  refine iIloadN C d19_0 rfl ?_
  refine iIloadN C d19_1 rfl ?_
  refine iCmpF C d19_2 (by decide) ?_
  refine iIloadN C d19_5 rfl ?_
  refine iGoto C (t := 10) d19_6 ⟨by decide, by decide⟩ ?_
  refine iRetI C d19_10 ⟨by decide, by decide⟩ ?_
  exact ⟨rfl, rfl⟩
theorem ef_rmMin_1 (m : MethodId)  : entryFrame m #[(.int (10 : Int32)), (.int (1 : Int32))] 2 = mkF m 0 #[(.val (.int (10 : Int32))), (.val (.int (1 : Int32)))] [] := by first | (simp [entryFrame, mkF, argsToLocals, Value.category]; done) | rfl
set_option maxRecDepth 65536 in
set_option maxHeartbeats 4000000 in
theorem rmMin_1 {l : Launch} {Z : State} {a0 : Array Value} (hw : ∀ d ∈ tables_1, d.before a0 Z = true) {n0 : Nat} {h0 : Heap} {ga1 ga2 ga3 ga4 ga5 ga6 ga7 : Addr} {gc1 gc2 gc4 gc6 : Cell} {mr : Addr}   (G : GG Z ga1 ga2 ga3 ga4 ga5 ga6 ga7 gc1 gc2 gc4 gc6) (O : Old Z n0 h0) (M : Mr Z "[Ljava/lang/Object;" mr) :
    Pays l Z (⟨"java/lang/Math", "min", "(II)I"⟩ : MethodName) jdk_29_method_69_code 2 (some .int) ({ frames := 0, cells := 0, slots := 0, locals := 0 } : Room) #[(.int (10 : Int32)), (.int (1 : Int32))] n0 h0 (QP (some (.int (1 : Int32))) h0) := by
  refine Pays.of hw (Jvm.Free.JP.mathPlain rfl (by decide +kernel)) (fun m => ef_rmMin_1 m ) fun B C => ?_
  refine iIloadN C d23_0 rfl ?_
  refine iIloadN C d23_1 rfl ?_
  refine iCmpT C (t := 9) d23_2 (by decide) ⟨by decide, by decide⟩ ?_
  refine iIloadN C d23_9 rfl ?_
  refine iRetI C d23_10 ⟨by decide, by decide⟩ ?_
  exact ⟨rfl, rfl⟩
theorem ef_rmMin_2 (m : MethodId)  : entryFrame m #[(.int (10 : Int32)), (.int (2 : Int32))] 2 = mkF m 0 #[(.val (.int (10 : Int32))), (.val (.int (2 : Int32)))] [] := by first | (simp [entryFrame, mkF, argsToLocals, Value.category]; done) | rfl
set_option maxRecDepth 65536 in
set_option maxHeartbeats 4000000 in
theorem rmMin_2 {l : Launch} {Z : State} {a0 : Array Value} (hw : ∀ d ∈ tables_1, d.before a0 Z = true) {n0 : Nat} {h0 : Heap} {ga1 ga2 ga3 ga4 ga5 ga6 ga7 : Addr} {gc1 gc2 gc4 gc6 : Cell} {mr : Addr}   (G : GG Z ga1 ga2 ga3 ga4 ga5 ga6 ga7 gc1 gc2 gc4 gc6) (O : Old Z n0 h0) (M : Mr Z "[Ljava/lang/Object;" mr) :
    Pays l Z (⟨"java/lang/Math", "min", "(II)I"⟩ : MethodName) jdk_29_method_69_code 2 (some .int) ({ frames := 0, cells := 0, slots := 0, locals := 0 } : Room) #[(.int (10 : Int32)), (.int (2 : Int32))] n0 h0 (QP (some (.int (2 : Int32))) h0) := by
  refine Pays.of hw (Jvm.Free.JP.mathPlain rfl (by decide +kernel)) (fun m => ef_rmMin_2 m ) fun B C => ?_
  refine iIloadN C d23_0 rfl ?_
  refine iIloadN C d23_1 rfl ?_
  refine iCmpT C (t := 9) d23_2 (by decide) ⟨by decide, by decide⟩ ?_
  refine iIloadN C d23_9 rfl ?_
  refine iRetI C d23_10 ⟨by decide, by decide⟩ ?_
  exact ⟨rfl, rfl⟩
theorem ef_rmMin_3 (m : MethodId)  : entryFrame m #[(.int (10 : Int32)), (.int (3 : Int32))] 2 = mkF m 0 #[(.val (.int (10 : Int32))), (.val (.int (3 : Int32)))] [] := by first | (simp [entryFrame, mkF, argsToLocals, Value.category]; done) | rfl
set_option maxRecDepth 65536 in
set_option maxHeartbeats 4000000 in
theorem rmMin_3 {l : Launch} {Z : State} {a0 : Array Value} (hw : ∀ d ∈ tables_1, d.before a0 Z = true) {n0 : Nat} {h0 : Heap} {ga1 ga2 ga3 ga4 ga5 ga6 ga7 : Addr} {gc1 gc2 gc4 gc6 : Cell} {mr : Addr}   (G : GG Z ga1 ga2 ga3 ga4 ga5 ga6 ga7 gc1 gc2 gc4 gc6) (O : Old Z n0 h0) (M : Mr Z "[Ljava/lang/Object;" mr) :
    Pays l Z (⟨"java/lang/Math", "min", "(II)I"⟩ : MethodName) jdk_29_method_69_code 2 (some .int) ({ frames := 0, cells := 0, slots := 0, locals := 0 } : Room) #[(.int (10 : Int32)), (.int (3 : Int32))] n0 h0 (QP (some (.int (3 : Int32))) h0) := by
  refine Pays.of hw (Jvm.Free.JP.mathPlain rfl (by decide +kernel)) (fun m => ef_rmMin_3 m ) fun B C => ?_
  refine iIloadN C d23_0 rfl ?_
  refine iIloadN C d23_1 rfl ?_
  refine iCmpT C (t := 9) d23_2 (by decide) ⟨by decide, by decide⟩ ?_
  refine iIloadN C d23_9 rfl ?_
  refine iRetI C d23_10 ⟨by decide, by decide⟩ ?_
  exact ⟨rfl, rfl⟩
def QG (Z : State) (a : Addr) (m : Int32) (h0 : Heap) (v : Option Value) (h : Heap) : Prop := ∃ (b : Addr) (k : ClassId), v = some (.ref b) ∧ h0.size ≤ b ∧ Keep h0 h [a] ∧ ALn Z h a b k m 0 [.null, .null, .null, .null, .null, .null, .null, .null, .null, .null]
theorem ef_rmG1 (m : MethodId) (x0 : Addr) : entryFrame m #[(.ref x0), (.int (1 : Int32))] 4 = mkF m 0 #[(.val (.ref x0)), (.val (.int (1 : Int32))), .unset, .unset] [] := by first | (simp [entryFrame, mkF, argsToLocals, Value.category]; done) | rfl
set_option maxRecDepth 65536 in
set_option maxHeartbeats 4000000 in
theorem rmG1 {l : Launch} {Z : State} {a0 : Array Value} (hw : ∀ d ∈ tables_1, d.before a0 Z = true) {n0 : Nat} {h0 : Heap} {ga1 ga2 ga3 ga4 ga5 ga6 ga7 : Addr} {gc1 gc2 gc4 gc6 : Cell} {mr : Addr}  (a : Addr) (EA : Exa Z h0 a "java/util/ArrayList") (F1 : Fld Z h0 a "java/util/AbstractList" "modCount" "I" (.int (1 : Int32))) (F2 : Fld Z h0 a "java/util/ArrayList" "size" "I" (.int (0 : Int32))) (F3 : Fld Z h0 a "java/util/ArrayList" "elementData" "[Ljava/lang/Object;" (.ref ga2)) (na : n0 ≤ a) (G : GG Z ga1 ga2 ga3 ga4 ga5 ga6 ga7 gc1 gc2 gc4 gc6) (O : Old Z n0 h0) (M : Mr Z "[Ljava/lang/Object;" mr) :
    Pays l Z (⟨"java/util/ArrayList", "grow", "(I)[Ljava/lang/Object;"⟩ : MethodName) jdk_38_method_6_code 4 (some (.array (.object "java/lang/Object"))) ({ frames := 1, cells := 1, slots := 10, locals := 14 } : Room) #[(.ref a), (.int (1 : Int32))] n0 h0 (QG Z a 1 h0) := by
  refine Pays.of hw (plainFor_of_name pn6) (fun m => ef_rmG1 m a) fun B C => ?_
  refine iAloadN C d18_0 rfl rfl ?_
  refine iGetF C tw24 F3 d18_1 ?_
  refine iLen C (G.2.2.2.2.1.ext O.2) G.2.2.2.2.2.2.2.2.2.2.2.2.2.2.2.2.2.2.2.1 d18_4 ?_
  refine iIstoreN C d18_5 (Ls' := #[(.val (.ref a)), (.val (.int (1 : Int32))), (.val (.int (0 : Int32))), .unset]) rfl ?_
  refine iIloadN C d18_6 rfl ?_
  refine iIfF C d18_7 (by decide) ?_
  refine iAloadN C d18_10 rfl rfl ?_
  refine iGetF C tw24 F3 d18_11 ?_
  refine iGetS C tw23 (G.2.2.2.1.ext O.2) d18_14 ?_
  refine iAcmpT C (t := 45) d18_17 rfl rfl (acE rfl).1 ⟨by decide, by decide⟩ ?_
  refine iAloadN C d18_45 rfl rfl ?_
  refine iBipush C d18_46 (v := (10 : Int32)) (by decide) ?_
  refine iIloadN C d18_48 rfl ?_
  refine iCallS C (rmMax hw G O M) tw117 tw118 tw119 tw120 ⟨by decide, by decide⟩ (argsL := [(.int (10 : Int32)), (.int (1 : Int32))]) (S' := [(.ref a)]) (lenOf pd1 rfl) rfl rfl d18_49 rfl (W := 1) rfl ⟨by decide, by decide, rfl, rfl, by decide, by decide⟩ fun v1 h1 q1 => ?_
  obtain ⟨rfl, rfl⟩ := q1
  show Go B n0 _ h0 0 0 52 #[(.val (.ref a)), (.val (.int (1 : Int32))), (.val (.int (0 : Int32))), .unset] [(.int (10 : Int32)), (.ref a)]
  refine iNewR C tw121 tw122 (ad := "[Ljava/lang/Object;") (by decide) d18_52 (by decide) (cap := 10) (by decide) (by decide) ⟨rfl, rfl, by decide, by decide⟩ fun h2 a2 k2 g2 E2 V2 A2 Ov2 => ?_
  have n_a2 : n0 ≤ a2 := oFresh O g2
  have O2 := O.ext E2
  have V2 : Arv Z h2 a2 k2 (.object "java/lang/Object") (10 : Int32) [.null, .null, .null, .null, .null, .null, .null, .null, .null, .null] .null := V2.pad (pad_rep [] .null 10)
  refine iDupX1 C d18_55 rfl rfl ?_
  refine iPutF C (v := (.ref a2)) tw24 (F3.ext E2) (EA.ext E2) (Or.inl tw25) tw1 (ty := (.array (.object "java/lang/Object"))) (by decide) rfl rfl na d18_56 fun h3 W3 => ?_
  have Fw3 := Fld.same W3 (F3.ext E2)
  have O3 := O2.wr W3 na
  refine iRetA C d18_59 rfl rfl rfl ⟨by decide, by decide⟩ ?_
  exact ⟨a2, k2, rfl, (Nat.le_trans (Nat.le_refl _) (Nat.le_of_eq g2.symm)), (((Keep.refl h0 [a]).ext E2).wr W3 (Or.inl (by simp))), ((EA.ext E2).wr W3), (Fld.other W3 (F1.ext E2) (Or.inr (slot_ne (Or.inl (hw _ tw22)) (Or.inl (hw _ tw25)) (by decide) (t := .int) (t' := (.array (.object "java/lang/Object"))) (by decide) (by decide)))), (Fld.other W3 (F2.ext E2) (Or.inr (slot_ne (Or.inl (hw _ tw62)) (Or.inl (hw _ tw25)) (by decide) (t := .int) (t' := (.array (.object "java/lang/Object"))) (by decide) (by decide)))), Fw3, (A2.wr W3), (V2.other W3 (ne_exa (A2.wr W3) ((EA.ext E2).wr W3) (by decide))), Ov2⟩
theorem ef_rmG0 (m : MethodId) (x0 : Addr) : entryFrame m #[(.ref x0)] 1 = mkF m 0 #[(.val (.ref x0))] [] := by first | (simp [entryFrame, mkF, argsToLocals, Value.category]; done) | rfl
set_option maxRecDepth 65536 in
set_option maxHeartbeats 4000000 in
theorem rmG0 {l : Launch} {Z : State} {a0 : Array Value} (hw : ∀ d ∈ tables_1, d.before a0 Z = true) {n0 : Nat} {h0 : Heap} {ga1 ga2 ga3 ga4 ga5 ga6 ga7 : Addr} {gc1 gc2 gc4 gc6 : Cell} {mr : Addr}  (a : Addr) (EA : Exa Z h0 a "java/util/ArrayList") (F1 : Fld Z h0 a "java/util/AbstractList" "modCount" "I" (.int (1 : Int32))) (F2 : Fld Z h0 a "java/util/ArrayList" "size" "I" (.int (0 : Int32))) (F3 : Fld Z h0 a "java/util/ArrayList" "elementData" "[Ljava/lang/Object;" (.ref ga2)) (na : n0 ≤ a) (G : GG Z ga1 ga2 ga3 ga4 ga5 ga6 ga7 gc1 gc2 gc4 gc6) (O : Old Z n0 h0) (M : Mr Z "[Ljava/lang/Object;" mr) :
    Pays l Z (⟨"java/util/ArrayList", "grow", "()[Ljava/lang/Object;"⟩ : MethodName) jdk_38_method_7_code 1 (some (.array (.object "java/lang/Object"))) ({ frames := 2, cells := 1, slots := 10, locals := 29 } : Room) #[(.ref a)] n0 h0 (QG Z a 1 h0) := by
  refine Pays.of hw (plainFor_of_name pn6) (fun m => ef_rmG0 m a) fun B C => ?_
  refine iAloadN C d17_0 rfl rfl ?_
  refine iAloadN C d17_1 rfl rfl ?_
  refine iGetF C tw61 F2 d17_2 ?_
  refine iIconst C d17_5 (v := (1 : Int32)) (by decide) ?_
  refine iIadd C d17_6 (v := (1 : Int32)) (by decide) ?_
  refine iCallP C (rmG1 hw a EA F1 F2 F3 na G O M) EA tw112 tw113 tw115 tw114 tw2 tw116 ⟨by decide, by decide⟩ (a := a) (argsL := [(.int (1 : Int32))]) (S' := []) (lenOf pd2 rfl) rfl rfl d17_7 rfl (W := 0) rfl ⟨by decide, by decide, rfl, rfl, by decide, by decide⟩ fun v1 h1 q1 => ?_
  obtain ⟨b_1, k_1, rfl, sb_1, K1, e_1, f1_1, f2_1, f3_1, eb_1, vb_1, ov_1⟩ := q1
  have O1 := O.keep K1 (allS na all0)
  have n_b_1 : n0 ≤ b_1 := Nat.le_trans (oSize O) sb_1
  show Go B n0 _ h1 1 10 10 #[(.val (.ref a))] [(.ref b_1)]
  refine iRetA C d17_10 rfl rfl rfl ⟨by decide, by decide⟩ ?_
  exact ⟨b_1, k_1, rfl, (Nat.le_trans (Nat.le_refl _) sb_1), ((Keep.refl h0 [a]).trans K1 (allS (Or.inl (by simp)) all0)), e_1, f1_1, f2_1, f3_1, eb_1, vb_1, ov_1⟩
def QrmD0 (Z : State) (a e : Addr) (h0 : Heap) (v : Option Value) (h : Heap) : Prop := v = none ∧ ∃ (b : Addr) (k : ClassId), h0.size ≤ b ∧ Keep h0 h [a] ∧ ALn Z h a b k 1 1 [(.ref e), .null, .null, .null, .null, .null, .null, .null, .null, .null]
theorem ef_rmD_0 (m : MethodId) (x0 : Addr) (x1 : Addr) (x2 : Addr) : entryFrame m #[(.ref x0), (.ref x1), (.ref x2), (.int (0 : Int32))] 4 = mkF m 0 #[(.val (.ref x0)), (.val (.ref x1)), (.val (.ref x2)), (.val (.int (0 : Int32)))] [] := by first | (simp [entryFrame, mkF, argsToLocals, Value.category]; done) | rfl
set_option maxRecDepth 65536 in
set_option maxHeartbeats 4000000 in
theorem rmD_0 {l : Launch} {Z : State} {a0 : Array Value} (hw : ∀ d ∈ tables_1, d.before a0 Z = true) {n0 : Nat} {h0 : Heap} {ga1 ga2 ga3 ga4 ga5 ga6 ga7 : Addr} {gc1 gc2 gc4 gc6 : Cell} {mr : Addr}  (e : Addr) (IE : Ins Z h0 e "java/lang/Object" true) (a : Addr) (EA : Exa Z h0 a "java/util/ArrayList") (F1 : Fld Z h0 a "java/util/AbstractList" "modCount" "I" (.int (1 : Int32))) (F2 : Fld Z h0 a "java/util/ArrayList" "size" "I" (.int (0 : Int32))) (F3 : Fld Z h0 a "java/util/ArrayList" "elementData" "[Ljava/lang/Object;" (.ref ga2)) (na : n0 ≤ a) (G : GG Z ga1 ga2 ga3 ga4 ga5 ga6 ga7 gc1 gc2 gc4 gc6) (O : Old Z n0 h0) (M : Mr Z "[Ljava/lang/Object;" mr) :
    Pays l Z (⟨"java/util/ArrayList", "add", "(Ljava/lang/Object;[Ljava/lang/Object;I)V"⟩ : MethodName) jdk_38_method_24_code 4 none ({ frames := 3, cells := 1, slots := 10, locals := 41 } : Room) #[(.ref a), (.ref e), (.ref ga2), (.int (0 : Int32))] n0 h0 (QrmD0 Z a e h0) := by
  refine Pays.of hw (plainFor_of_name pn6) (fun m => ef_rmD_0 m a e ga2) fun B C => ?_
  refine iIloadN C d16_0 rfl ?_
  refine iAloadN C d16_1 rfl rfl ?_
  refine iLen C (G.2.2.2.2.1.ext O.2) G.2.2.2.2.2.2.2.2.2.2.2.2.2.2.2.2.2.2.2.1 d16_2 ?_
  refine iCmpF C d16_3 (by decide) ?_
  refine iAloadN C d16_6 rfl rfl ?_
  refine iCallP C (rmG0 hw a EA F1 F2 F3 na G O M) EA tw107 tw108 tw110 tw109 tw2 tw111 ⟨by decide, by decide⟩ (a := a) (argsL := []) (S' := []) (lenOf pd3 rfl) rfl rfl d16_7 rfl (W := 0) rfl ⟨by decide, by decide, rfl, rfl, by decide, by decide⟩ fun v1 h1 q1 => ?_
  obtain ⟨b_1, k_1, rfl, sb_1, K1, e_1, f1_1, f2_1, f3_1, eb_1, vb_1, ov_1⟩ := q1
  have O1 := O.keep K1 (allS na all0)
  have n_b_1 : n0 ≤ b_1 := Nat.le_trans (oSize O) sb_1
  show Go B n0 _ h1 1 10 10 #[(.val (.ref a)), (.val (.ref e)), (.val (.ref ga2)), (.val (.int (0 : Int32)))] [(.ref b_1)]
  refine iAstoreN C d16_10 (Ls' := #[(.val (.ref a)), (.val (.ref e)), (.val (.ref b_1)), (.val (.int (0 : Int32)))]) rfl rfl ?_
  refine iAloadN C d16_11 rfl rfl ?_
  refine iIloadN C d16_12 rfl ?_
  refine iAloadN C d16_13 rfl rfl ?_
  obtain ⟨c2, A2, q2, z2, y2, H2, G2⟩ := id vb_1
  refine iAastore C A2 (inb_of z2 ⟨by decide, by decide⟩) rfl (Sto.ofV A2 q2 ov_1 (insKeep IE K1)) n_b_1 d16_14 fun h2 W2 => ?_
  have V2 : Arv Z h2 b_1 k_1 (.object "java/lang/Object") (10 : Int32) [(.ref e), .null, .null, .null, .null, .null, .null, .null, .null, .null] .null := Arv.set A2 q2 z2 y2 H2 G2 rfl W2 0 (by decide) (Nat.le_of_ble_eq_true rfl)
  have O2 := O1.wr W2 n_b_1
  refine iAloadN C d16_15 rfl rfl ?_
  refine iIloadN C d16_16 rfl ?_
  refine iIconst C d16_17 (v := (1 : Int32)) (by decide) ?_
  refine iIadd C d16_18 (v := (1 : Int32)) (by decide) ?_
  refine iPutF C (v := (.int (1 : Int32))) tw61 (f2_1.other W2 (Or.inl (ne_exa (e_1.wr W2) (eb_1.wr W2) (by decide)))) (e_1.wr W2) (Or.inl tw62) tw1 (ty := .int) (by decide) rfl rfl na d16_19 fun h3 W3 => ?_
  have Fw3 := Fld.same W3 (f2_1.other W2 (Or.inl (ne_exa (e_1.wr W2) (eb_1.wr W2) (by decide))))
  have O3 := O2.wr W3 na
  refine iRetV C d16_22 ⟨by decide, by decide⟩ ?_
  exact ⟨rfl, b_1, k_1, (Nat.le_trans (Nat.le_refl _) sb_1), ((((Keep.refl h0 [a]).trans K1 (allS (Or.inl (by simp)) all0)).wr W2 (Or.inr (Nat.le_trans (Nat.le_refl _) sb_1))).wr W3 (Or.inl (by simp))), ((e_1.wr W2).wr W3), (Fld.other W3 (f1_1.other W2 (Or.inl (ne_exa ((e_1.wr W2).wr W3) ((eb_1.wr W2).wr W3) (by decide)))) (Or.inr (slot_ne (Or.inl (hw _ tw22)) (Or.inl (hw _ tw62)) (by decide) (t := .int) (t' := .int) (by decide) (by decide)))), Fw3, (Fld.other W3 (f3_1.other W2 (Or.inl (ne_exa ((e_1.wr W2).wr W3) ((eb_1.wr W2).wr W3) (by decide)))) (Or.inr (slot_ne (Or.inl (hw _ tw25)) (Or.inl (hw _ tw62)) (by decide) (t := (.array (.object "java/lang/Object"))) (t' := .int) (by decide) (by decide)))), ((eb_1.wr W2).wr W3), (V2.other W3 (ne_exa ((eb_1.wr W2).wr W3) ((e_1.wr W2).wr W3) (by decide))), ov_1⟩
def QrmD1 (Z : State) (a b e0 e : Addr) (k : ClassId) (h0 : Heap) (v : Option Value) (h : Heap) : Prop := v = none ∧ Keep h0 h [a, b] ∧ ALn Z h a b k 2 2 [(.ref e0), (.ref e), .null, .null, .null, .null, .null, .null, .null, .null]
theorem ef_rmD_1 (m : MethodId) (x0 : Addr) (x1 : Addr) (x2 : Addr) : entryFrame m #[(.ref x0), (.ref x1), (.ref x2), (.int (1 : Int32))] 4 = mkF m 0 #[(.val (.ref x0)), (.val (.ref x1)), (.val (.ref x2)), (.val (.int (1 : Int32)))] [] := by first | (simp [entryFrame, mkF, argsToLocals, Value.category]; done) | rfl
set_option maxRecDepth 65536 in
set_option maxHeartbeats 4000000 in
theorem rmD_1 {l : Launch} {Z : State} {a0 : Array Value} (hw : ∀ d ∈ tables_1, d.before a0 Z = true) {n0 : Nat} {h0 : Heap} {ga1 ga2 ga3 ga4 ga5 ga6 ga7 : Addr} {gc1 gc2 gc4 gc6 : Cell} {mr : Addr}  (e : Addr) (IE : Ins Z h0 e "java/lang/Object" true) {b : Addr} {k : ClassId} {e0 : Addr} (a : Addr) (EA : Exa Z h0 a "java/util/ArrayList") (F1 : Fld Z h0 a "java/util/AbstractList" "modCount" "I" (.int (2 : Int32))) (F2 : Fld Z h0 a "java/util/ArrayList" "size" "I" (.int (1 : Int32))) (F3 : Fld Z h0 a "java/util/ArrayList" "elementData" "[Ljava/lang/Object;" (.ref b)) (na : n0 ≤ a) (EB : Exa Z h0 b "[Ljava/lang/Object;") (VB : Arv Z h0 b k (.object "java/lang/Object") 10 [(.ref e0), .null, .null, .null, .null, .null, .null, .null, .null, .null] .null) (OV : Ovr Z k "java/lang/Object") (nb : n0 ≤ b) (G : GG Z ga1 ga2 ga3 ga4 ga5 ga6 ga7 gc1 gc2 gc4 gc6) (O : Old Z n0 h0) (M : Mr Z "[Ljava/lang/Object;" mr) :
    Pays l Z (⟨"java/util/ArrayList", "add", "(Ljava/lang/Object;[Ljava/lang/Object;I)V"⟩ : MethodName) jdk_38_method_24_code 4 none ({ frames := 0, cells := 0, slots := 0, locals := 0 } : Room) #[(.ref a), (.ref e), (.ref b), (.int (1 : Int32))] n0 h0 (QrmD1 Z a b e0 e k h0) := by
  refine Pays.of hw (plainFor_of_name pn6) (fun m => ef_rmD_1 m a e b) fun B C => ?_
  refine iIloadN C d16_0 rfl ?_
  refine iAloadN C d16_1 rfl rfl ?_
  obtain ⟨c1, A1, q1, z1, y1, H1, G1⟩ := id VB
  refine iLen C A1 (len_of z1 y1) d16_2 ?_
  refine iCmpT C (t := 11) d16_3 (by decide) ⟨by decide, by decide⟩ ?_
  refine iAloadN C d16_11 rfl rfl ?_
  refine iIloadN C d16_12 rfl ?_
  refine iAloadN C d16_13 rfl rfl ?_
  obtain ⟨c2, A2, q2, z2, y2, H2, G2⟩ := id VB
  refine iAastore C A2 (inb_of z2 ⟨by decide, by decide⟩) rfl (Sto.ofV A2 q2 OV IE) nb d16_14 fun h2 W2 => ?_
  have V2 : Arv Z h2 b k (.object "java/lang/Object") (10 : Int32) [(.ref e0), (.ref e), .null, .null, .null, .null, .null, .null, .null, .null] .null := Arv.set A2 q2 z2 y2 H2 G2 rfl W2 1 (by decide) (Nat.le_of_ble_eq_true rfl)
  have O2 := O.wr W2 nb
  refine iAloadN C d16_15 rfl rfl ?_
  refine iIloadN C d16_16 rfl ?_
  refine iIconst C d16_17 (v := (1 : Int32)) (by decide) ?_
  refine iIadd C d16_18 (v := (2 : Int32)) (by decide) ?_
  refine iPutF C (v := (.int (2 : Int32))) tw61 (F2.other W2 (Or.inl (ne_exa (EA.wr W2) (EB.wr W2) (by decide)))) (EA.wr W2) (Or.inl tw62) tw1 (ty := .int) (by decide) rfl rfl na d16_19 fun h3 W3 => ?_
  have Fw3 := Fld.same W3 (F2.other W2 (Or.inl (ne_exa (EA.wr W2) (EB.wr W2) (by decide))))
  have O3 := O2.wr W3 na
  refine iRetV C d16_22 ⟨by decide, by decide⟩ ?_
  exact ⟨rfl, (((Keep.refl h0 [a, b]).wr W2 (Or.inl (by simp))).wr W3 (Or.inl (by simp))), ((EA.wr W2).wr W3), (Fld.other W3 (F1.other W2 (Or.inl (ne_exa ((EA.wr W2).wr W3) ((EB.wr W2).wr W3) (by decide)))) (Or.inr (slot_ne (Or.inl (hw _ tw22)) (Or.inl (hw _ tw62)) (by decide) (t := .int) (t' := .int) (by decide) (by decide)))), Fw3, (Fld.other W3 (F3.other W2 (Or.inl (ne_exa ((EA.wr W2).wr W3) ((EB.wr W2).wr W3) (by decide)))) (Or.inr (slot_ne (Or.inl (hw _ tw25)) (Or.inl (hw _ tw62)) (by decide) (t := (.array (.object "java/lang/Object"))) (t' := .int) (by decide) (by decide)))), ((EB.wr W2).wr W3), (V2.other W3 (ne_exa ((EB.wr W2).wr W3) ((EA.wr W2).wr W3) (by decide))), OV⟩
def QrmD2 (Z : State) (a b e0 e1 e : Addr) (k : ClassId) (h0 : Heap) (v : Option Value) (h : Heap) : Prop := v = none ∧ Keep h0 h [a, b] ∧ ALn Z h a b k 3 3 [(.ref e0), (.ref e1), (.ref e), .null, .null, .null, .null, .null, .null, .null]
theorem ef_rmD_2 (m : MethodId) (x0 : Addr) (x1 : Addr) (x2 : Addr) : entryFrame m #[(.ref x0), (.ref x1), (.ref x2), (.int (2 : Int32))] 4 = mkF m 0 #[(.val (.ref x0)), (.val (.ref x1)), (.val (.ref x2)), (.val (.int (2 : Int32)))] [] := by first | (simp [entryFrame, mkF, argsToLocals, Value.category]; done) | rfl
set_option maxRecDepth 65536 in
set_option maxHeartbeats 4000000 in
theorem rmD_2 {l : Launch} {Z : State} {a0 : Array Value} (hw : ∀ d ∈ tables_1, d.before a0 Z = true) {n0 : Nat} {h0 : Heap} {ga1 ga2 ga3 ga4 ga5 ga6 ga7 : Addr} {gc1 gc2 gc4 gc6 : Cell} {mr : Addr}  (e : Addr) (IE : Ins Z h0 e "java/lang/Object" true) {b : Addr} {k : ClassId} {e0 e1 : Addr} (a : Addr) (EA : Exa Z h0 a "java/util/ArrayList") (F1 : Fld Z h0 a "java/util/AbstractList" "modCount" "I" (.int (3 : Int32))) (F2 : Fld Z h0 a "java/util/ArrayList" "size" "I" (.int (2 : Int32))) (F3 : Fld Z h0 a "java/util/ArrayList" "elementData" "[Ljava/lang/Object;" (.ref b)) (na : n0 ≤ a) (EB : Exa Z h0 b "[Ljava/lang/Object;") (VB : Arv Z h0 b k (.object "java/lang/Object") 10 [(.ref e0), (.ref e1), .null, .null, .null, .null, .null, .null, .null, .null] .null) (OV : Ovr Z k "java/lang/Object") (nb : n0 ≤ b) (G : GG Z ga1 ga2 ga3 ga4 ga5 ga6 ga7 gc1 gc2 gc4 gc6) (O : Old Z n0 h0) (M : Mr Z "[Ljava/lang/Object;" mr) :
    Pays l Z (⟨"java/util/ArrayList", "add", "(Ljava/lang/Object;[Ljava/lang/Object;I)V"⟩ : MethodName) jdk_38_method_24_code 4 none ({ frames := 0, cells := 0, slots := 0, locals := 0 } : Room) #[(.ref a), (.ref e), (.ref b), (.int (2 : Int32))] n0 h0 (QrmD2 Z a b e0 e1 e k h0) := by
  refine Pays.of hw (plainFor_of_name pn6) (fun m => ef_rmD_2 m a e b) fun B C => ?_
  refine iIloadN C d16_0 rfl ?_
  refine iAloadN C d16_1 rfl rfl ?_
  obtain ⟨c1, A1, q1, z1, y1, H1, G1⟩ := id VB
  refine iLen C A1 (len_of z1 y1) d16_2 ?_
  refine iCmpT C (t := 11) d16_3 (by decide) ⟨by decide, by decide⟩ ?_
  refine iAloadN C d16_11 rfl rfl ?_
  refine iIloadN C d16_12 rfl ?_
  refine iAloadN C d16_13 rfl rfl ?_
  obtain ⟨c2, A2, q2, z2, y2, H2, G2⟩ := id VB
  refine iAastore C A2 (inb_of z2 ⟨by decide, by decide⟩) rfl (Sto.ofV A2 q2 OV IE) nb d16_14 fun h2 W2 => ?_
  have V2 : Arv Z h2 b k (.object "java/lang/Object") (10 : Int32) [(.ref e0), (.ref e1), (.ref e), .null, .null, .null, .null, .null, .null, .null] .null := Arv.set A2 q2 z2 y2 H2 G2 rfl W2 2 (by decide) (Nat.le_of_ble_eq_true rfl)
  have O2 := O.wr W2 nb
  refine iAloadN C d16_15 rfl rfl ?_
  refine iIloadN C d16_16 rfl ?_
  refine iIconst C d16_17 (v := (1 : Int32)) (by decide) ?_
  refine iIadd C d16_18 (v := (3 : Int32)) (by decide) ?_
  refine iPutF C (v := (.int (3 : Int32))) tw61 (F2.other W2 (Or.inl (ne_exa (EA.wr W2) (EB.wr W2) (by decide)))) (EA.wr W2) (Or.inl tw62) tw1 (ty := .int) (by decide) rfl rfl na d16_19 fun h3 W3 => ?_
  have Fw3 := Fld.same W3 (F2.other W2 (Or.inl (ne_exa (EA.wr W2) (EB.wr W2) (by decide))))
  have O3 := O2.wr W3 na
  refine iRetV C d16_22 ⟨by decide, by decide⟩ ?_
  exact ⟨rfl, (((Keep.refl h0 [a, b]).wr W2 (Or.inl (by simp))).wr W3 (Or.inl (by simp))), ((EA.wr W2).wr W3), (Fld.other W3 (F1.other W2 (Or.inl (ne_exa ((EA.wr W2).wr W3) ((EB.wr W2).wr W3) (by decide)))) (Or.inr (slot_ne (Or.inl (hw _ tw22)) (Or.inl (hw _ tw62)) (by decide) (t := .int) (t' := .int) (by decide) (by decide)))), Fw3, (Fld.other W3 (F3.other W2 (Or.inl (ne_exa ((EA.wr W2).wr W3) ((EB.wr W2).wr W3) (by decide)))) (Or.inr (slot_ne (Or.inl (hw _ tw25)) (Or.inl (hw _ tw62)) (by decide) (t := (.array (.object "java/lang/Object"))) (t' := .int) (by decide) (by decide)))), ((EB.wr W2).wr W3), (V2.other W3 (ne_exa ((EB.wr W2).wr W3) ((EA.wr W2).wr W3) (by decide))), OV⟩
def QrmA0 (Z : State) (a e : Addr) (h0 : Heap) (v : Option Value) (h : Heap) : Prop := v = some (.int 1) ∧ ∃ (b : Addr) (k : ClassId), h0.size ≤ b ∧ Keep h0 h [a] ∧ ALn Z h a b k 1 1 [(.ref e), .null, .null, .null, .null, .null, .null, .null, .null, .null]
theorem ef_rmA_0 (m : MethodId) (x0 : Addr) (x1 : Addr) : entryFrame m #[(.ref x0), (.ref x1)] 2 = mkF m 0 #[(.val (.ref x0)), (.val (.ref x1))] [] := by first | (simp [entryFrame, mkF, argsToLocals, Value.category]; done) | rfl
set_option maxRecDepth 65536 in
set_option maxHeartbeats 4000000 in
theorem rmA_0 {l : Launch} {Z : State} {a0 : Array Value} (hw : ∀ d ∈ tables_1, d.before a0 Z = true) {n0 : Nat} {h0 : Heap} {ga1 ga2 ga3 ga4 ga5 ga6 ga7 : Addr} {gc1 gc2 gc4 gc6 : Cell} {mr : Addr}  (e : Addr) (IE : Ins Z h0 e "java/lang/Object" true) (a : Addr) (EA : Exa Z h0 a "java/util/ArrayList") (F1 : Fld Z h0 a "java/util/AbstractList" "modCount" "I" (.int (0 : Int32))) (F2 : Fld Z h0 a "java/util/ArrayList" "size" "I" (.int (0 : Int32))) (F3 : Fld Z h0 a "java/util/ArrayList" "elementData" "[Ljava/lang/Object;" (.ref ga2)) (na : n0 ≤ a) (G : GG Z ga1 ga2 ga3 ga4 ga5 ga6 ga7 gc1 gc2 gc4 gc6) (O : Old Z n0 h0) (M : Mr Z "[Ljava/lang/Object;" mr) :
    Pays l Z (⟨"java/util/ArrayList", "add", "(Ljava/lang/Object;)Z"⟩ : MethodName) jdk_38_method_25_code 2 (some .boolean) ({ frames := 4, cells := 1, slots := 10, locals := 56 } : Room) #[(.ref a), (.ref e)] n0 h0 (QrmA0 Z a e h0) := by
  refine Pays.of hw (plainFor_of_name pn6) (fun m => ef_rmA_0 m a e) fun B C => ?_
  refine iAloadN C d15_0 rfl rfl ?_
  refine iDup C d15_1 rfl ?_
  refine iGetFV C tw100 tw101 F1 d15_2 ?_
  refine iIconst C d15_5 (v := (1 : Int32)) (by decide) ?_
  refine iIadd C d15_6 (v := (1 : Int32)) (by decide) ?_
  refine iPutFV C (v := (.int (1 : Int32))) tw100 tw101 F1 EA tw22 tw1 (ty := .int) (by decide) rfl rfl na d15_7 fun h1 W1 => ?_
  have Fw1 := Fld.same W1 F1
  have O1 := O.wr W1 na
  refine iAloadN C d15_10 rfl rfl ?_
  refine iAloadN C d15_11 rfl rfl ?_
  refine iAloadN C d15_12 rfl rfl ?_
  refine iGetF C tw24 (Fld.other W1 F3 (Or.inr (slot_ne (Or.inl (hw _ tw25)) (Or.inl (hw _ tw22)) (by decide) (t := (.array (.object "java/lang/Object"))) (t' := .int) (by decide) (by decide)))) d15_13 ?_
  refine iAloadN C d15_16 rfl rfl ?_
  refine iGetF C tw61 (Fld.other W1 F2 (Or.inr (slot_ne (Or.inl (hw _ tw62)) (Or.inl (hw _ tw22)) (by decide) (t := .int) (t' := .int) (by decide) (by decide)))) d15_17 ?_
  refine iCallP C (rmD_0 hw e (Ins.wr W1 IE) a (EA.wr W1) Fw1 (Fld.other W1 F2 (Or.inr (slot_ne (Or.inl (hw _ tw62)) (Or.inl (hw _ tw22)) (by decide) (t := .int) (t' := .int) (by decide) (by decide)))) (Fld.other W1 F3 (Or.inr (slot_ne (Or.inl (hw _ tw25)) (Or.inl (hw _ tw22)) (by decide) (t := (.array (.object "java/lang/Object"))) (t' := .int) (by decide) (by decide)))) na G O1 M) (EA.wr W1) tw102 tw103 tw105 tw104 tw2 tw106 ⟨by decide, by decide⟩ (a := a) (argsL := [(.ref e), (.ref ga2), (.int (0 : Int32))]) (S' := []) (lenOf pd4 rfl) rfl rfl d15_20 rfl (W := 0) rfl ⟨by decide, by decide, rfl, rfl, by decide, by decide⟩ fun v2 h2 q2 => ?_
  obtain ⟨rfl, b_2, k_2, sb_2, K2, e_2, f1_2, f2_2, f3_2, eb_2, vb_2, ov_2⟩ := q2
  have O2 := O1.keep K2 (allS na all0)
  have n_b_2 : n0 ≤ b_2 := Nat.le_trans (oSize O1) sb_2
  show Go B n0 _ h2 1 10 23 #[(.val (.ref a)), (.val (.ref e))] []
  refine iIconst C d15_23 (v := (1 : Int32)) (by decide) ?_
  refine iRetZ C d15_24 (by simp) ⟨by decide, by decide⟩ ?_
  exact ⟨rfl, b_2, k_2, (Nat.le_trans (Nat.le_trans (Nat.le_refl _) (Nat.le_of_eq W1.size.symm)) sb_2), (((Keep.refl h0 [a]).wr W1 (Or.inl (by simp))).trans K2 (allS (Or.inl (by simp)) all0)), e_2, f1_2, f2_2, f3_2, eb_2, vb_2, ov_2⟩
def QrmA1 (Z : State) (a b e0 e : Addr) (k : ClassId) (h0 : Heap) (v : Option Value) (h : Heap) : Prop := v = some (.int 1) ∧ Keep h0 h [a, b] ∧ ALn Z h a b k 2 2 [(.ref e0), (.ref e), .null, .null, .null, .null, .null, .null, .null, .null]
theorem ef_rmA_1 (m : MethodId) (x0 : Addr) (x1 : Addr) : entryFrame m #[(.ref x0), (.ref x1)] 2 = mkF m 0 #[(.val (.ref x0)), (.val (.ref x1))] [] := by first | (simp [entryFrame, mkF, argsToLocals, Value.category]; done) | rfl
set_option maxRecDepth 65536 in
set_option maxHeartbeats 4000000 in
theorem rmA_1 {l : Launch} {Z : State} {a0 : Array Value} (hw : ∀ d ∈ tables_1, d.before a0 Z = true) {n0 : Nat} {h0 : Heap} {ga1 ga2 ga3 ga4 ga5 ga6 ga7 : Addr} {gc1 gc2 gc4 gc6 : Cell} {mr : Addr}  (e : Addr) (IE : Ins Z h0 e "java/lang/Object" true) {b : Addr} {k : ClassId} {e0 : Addr} (a : Addr) (EA : Exa Z h0 a "java/util/ArrayList") (F1 : Fld Z h0 a "java/util/AbstractList" "modCount" "I" (.int (1 : Int32))) (F2 : Fld Z h0 a "java/util/ArrayList" "size" "I" (.int (1 : Int32))) (F3 : Fld Z h0 a "java/util/ArrayList" "elementData" "[Ljava/lang/Object;" (.ref b)) (na : n0 ≤ a) (EB : Exa Z h0 b "[Ljava/lang/Object;") (VB : Arv Z h0 b k (.object "java/lang/Object") 10 [(.ref e0), .null, .null, .null, .null, .null, .null, .null, .null, .null] .null) (OV : Ovr Z k "java/lang/Object") (nb : n0 ≤ b) (G : GG Z ga1 ga2 ga3 ga4 ga5 ga6 ga7 gc1 gc2 gc4 gc6) (O : Old Z n0 h0) (M : Mr Z "[Ljava/lang/Object;" mr) :
    Pays l Z (⟨"java/util/ArrayList", "add", "(Ljava/lang/Object;)Z"⟩ : MethodName) jdk_38_method_25_code 2 (some .boolean) ({ frames := 1, cells := 0, slots := 0, locals := 15 } : Room) #[(.ref a), (.ref e)] n0 h0 (QrmA1 Z a b e0 e k h0) := by
  refine Pays.of hw (plainFor_of_name pn6) (fun m => ef_rmA_1 m a e) fun B C => ?_
  refine iAloadN C d15_0 rfl rfl ?_
  refine iDup C d15_1 rfl ?_
  refine iGetFV C tw100 tw101 F1 d15_2 ?_
  refine iIconst C d15_5 (v := (1 : Int32)) (by decide) ?_
  refine iIadd C d15_6 (v := (2 : Int32)) (by decide) ?_
  refine iPutFV C (v := (.int (2 : Int32))) tw100 tw101 F1 EA tw22 tw1 (ty := .int) (by decide) rfl rfl na d15_7 fun h1 W1 => ?_
  have Fw1 := Fld.same W1 F1
  have O1 := O.wr W1 na
  refine iAloadN C d15_10 rfl rfl ?_
  refine iAloadN C d15_11 rfl rfl ?_
  refine iAloadN C d15_12 rfl rfl ?_
  refine iGetF C tw24 (Fld.other W1 F3 (Or.inr (slot_ne (Or.inl (hw _ tw25)) (Or.inl (hw _ tw22)) (by decide) (t := (.array (.object "java/lang/Object"))) (t' := .int) (by decide) (by decide)))) d15_13 ?_
  refine iAloadN C d15_16 rfl rfl ?_
  refine iGetF C tw61 (Fld.other W1 F2 (Or.inr (slot_ne (Or.inl (hw _ tw62)) (Or.inl (hw _ tw22)) (by decide) (t := .int) (t' := .int) (by decide) (by decide)))) d15_17 ?_
  refine iCallP C (rmD_1 hw e (Ins.wr W1 IE) a (EA.wr W1) Fw1 (Fld.other W1 F2 (Or.inr (slot_ne (Or.inl (hw _ tw62)) (Or.inl (hw _ tw22)) (by decide) (t := .int) (t' := .int) (by decide) (by decide)))) (Fld.other W1 F3 (Or.inr (slot_ne (Or.inl (hw _ tw25)) (Or.inl (hw _ tw22)) (by decide) (t := (.array (.object "java/lang/Object"))) (t' := .int) (by decide) (by decide)))) na (EB.wr W1) (VB.other W1 (ne_exa (EB.wr W1) (EA.wr W1) (by decide))) OV nb G O1 M) (EA.wr W1) tw102 tw103 tw105 tw104 tw2 tw106 ⟨by decide, by decide⟩ (a := a) (argsL := [(.ref e), (.ref b), (.int (1 : Int32))]) (S' := []) (lenOf pd4 rfl) rfl rfl d15_20 rfl (W := 0) rfl ⟨by decide, by decide, rfl, rfl, by decide, by decide⟩ fun v2 h2 q2 => ?_
  obtain ⟨rfl, K2, e_2, f1_2, f2_2, f3_2, eb_2, vb_2, -⟩ := q2
  have O2 := O1.keep K2 (allS na (allS nb all0))
  show Go B n0 _ h2 0 0 23 #[(.val (.ref a)), (.val (.ref e))] []
  refine iIconst C d15_23 (v := (1 : Int32)) (by decide) ?_
  refine iRetZ C d15_24 (by simp) ⟨by decide, by decide⟩ ?_
  exact ⟨rfl, (((Keep.refl h0 [a, b]).wr W1 (Or.inl (by simp))).trans K2 (allS (Or.inl (by simp)) (allS (Or.inl (by simp)) all0))), e_2, f1_2, f2_2, f3_2, eb_2, vb_2, OV⟩
def QrmA2 (Z : State) (a b e0 e1 e : Addr) (k : ClassId) (h0 : Heap) (v : Option Value) (h : Heap) : Prop := v = some (.int 1) ∧ Keep h0 h [a, b] ∧ ALn Z h a b k 3 3 [(.ref e0), (.ref e1), (.ref e), .null, .null, .null, .null, .null, .null, .null]
theorem ef_rmA_2 (m : MethodId) (x0 : Addr) (x1 : Addr) : entryFrame m #[(.ref x0), (.ref x1)] 2 = mkF m 0 #[(.val (.ref x0)), (.val (.ref x1))] [] := by first | (simp [entryFrame, mkF, argsToLocals, Value.category]; done) | rfl
set_option maxRecDepth 65536 in
set_option maxHeartbeats 4000000 in
theorem rmA_2 {l : Launch} {Z : State} {a0 : Array Value} (hw : ∀ d ∈ tables_1, d.before a0 Z = true) {n0 : Nat} {h0 : Heap} {ga1 ga2 ga3 ga4 ga5 ga6 ga7 : Addr} {gc1 gc2 gc4 gc6 : Cell} {mr : Addr}  (e : Addr) (IE : Ins Z h0 e "java/lang/Object" true) {b : Addr} {k : ClassId} {e0 e1 : Addr} (a : Addr) (EA : Exa Z h0 a "java/util/ArrayList") (F1 : Fld Z h0 a "java/util/AbstractList" "modCount" "I" (.int (2 : Int32))) (F2 : Fld Z h0 a "java/util/ArrayList" "size" "I" (.int (2 : Int32))) (F3 : Fld Z h0 a "java/util/ArrayList" "elementData" "[Ljava/lang/Object;" (.ref b)) (na : n0 ≤ a) (EB : Exa Z h0 b "[Ljava/lang/Object;") (VB : Arv Z h0 b k (.object "java/lang/Object") 10 [(.ref e0), (.ref e1), .null, .null, .null, .null, .null, .null, .null, .null] .null) (OV : Ovr Z k "java/lang/Object") (nb : n0 ≤ b) (G : GG Z ga1 ga2 ga3 ga4 ga5 ga6 ga7 gc1 gc2 gc4 gc6) (O : Old Z n0 h0) (M : Mr Z "[Ljava/lang/Object;" mr) :
    Pays l Z (⟨"java/util/ArrayList", "add", "(Ljava/lang/Object;)Z"⟩ : MethodName) jdk_38_method_25_code 2 (some .boolean) ({ frames := 1, cells := 0, slots := 0, locals := 15 } : Room) #[(.ref a), (.ref e)] n0 h0 (QrmA2 Z a b e0 e1 e k h0) := by
  refine Pays.of hw (plainFor_of_name pn6) (fun m => ef_rmA_2 m a e) fun B C => ?_
  refine iAloadN C d15_0 rfl rfl ?_
  refine iDup C d15_1 rfl ?_
  refine iGetFV C tw100 tw101 F1 d15_2 ?_
  refine iIconst C d15_5 (v := (1 : Int32)) (by decide) ?_
  refine iIadd C d15_6 (v := (3 : Int32)) (by decide) ?_
  refine iPutFV C (v := (.int (3 : Int32))) tw100 tw101 F1 EA tw22 tw1 (ty := .int) (by decide) rfl rfl na d15_7 fun h1 W1 => ?_
  have Fw1 := Fld.same W1 F1
  have O1 := O.wr W1 na
  refine iAloadN C d15_10 rfl rfl ?_
  refine iAloadN C d15_11 rfl rfl ?_
  refine iAloadN C d15_12 rfl rfl ?_
  refine iGetF C tw24 (Fld.other W1 F3 (Or.inr (slot_ne (Or.inl (hw _ tw25)) (Or.inl (hw _ tw22)) (by decide) (t := (.array (.object "java/lang/Object"))) (t' := .int) (by decide) (by decide)))) d15_13 ?_
  refine iAloadN C d15_16 rfl rfl ?_
  refine iGetF C tw61 (Fld.other W1 F2 (Or.inr (slot_ne (Or.inl (hw _ tw62)) (Or.inl (hw _ tw22)) (by decide) (t := .int) (t' := .int) (by decide) (by decide)))) d15_17 ?_
  refine iCallP C (rmD_2 hw e (Ins.wr W1 IE) a (EA.wr W1) Fw1 (Fld.other W1 F2 (Or.inr (slot_ne (Or.inl (hw _ tw62)) (Or.inl (hw _ tw22)) (by decide) (t := .int) (t' := .int) (by decide) (by decide)))) (Fld.other W1 F3 (Or.inr (slot_ne (Or.inl (hw _ tw25)) (Or.inl (hw _ tw22)) (by decide) (t := (.array (.object "java/lang/Object"))) (t' := .int) (by decide) (by decide)))) na (EB.wr W1) (VB.other W1 (ne_exa (EB.wr W1) (EA.wr W1) (by decide))) OV nb G O1 M) (EA.wr W1) tw102 tw103 tw105 tw104 tw2 tw106 ⟨by decide, by decide⟩ (a := a) (argsL := [(.ref e), (.ref b), (.int (2 : Int32))]) (S' := []) (lenOf pd4 rfl) rfl rfl d15_20 rfl (W := 0) rfl ⟨by decide, by decide, rfl, rfl, by decide, by decide⟩ fun v2 h2 q2 => ?_
  obtain ⟨rfl, K2, e_2, f1_2, f2_2, f3_2, eb_2, vb_2, -⟩ := q2
  have O2 := O1.keep K2 (allS na (allS nb all0))
  show Go B n0 _ h2 0 0 23 #[(.val (.ref a)), (.val (.ref e))] []
  refine iIconst C d15_23 (v := (1 : Int32)) (by decide) ?_
  refine iRetZ C d15_24 (by simp) ⟨by decide, by decide⟩ ?_
  exact ⟨rfl, (((Keep.refl h0 [a, b]).wr W1 (Or.inl (by simp))).trans K2 (allS (Or.inl (by simp)) (allS (Or.inl (by simp)) all0))), e_2, f1_2, f2_2, f3_2, eb_2, vb_2, OV⟩
theorem ef_rmE_0 (m : MethodId) (x0 : Addr) : entryFrame m #[(.ref x0)] 1 = mkF m 0 #[(.val (.ref x0))] [] := by first | (simp [entryFrame, mkF, argsToLocals, Value.category]; done) | rfl
set_option maxRecDepth 65536 in
set_option maxHeartbeats 4000000 in
theorem rmE_0 {l : Launch} {Z : State} {a0 : Array Value} (hw : ∀ d ∈ tables_1, d.before a0 Z = true) {n0 : Nat} {h0 : Heap} {ga1 ga2 ga3 ga4 ga5 ga6 ga7 : Addr} {gc1 gc2 gc4 gc6 : Cell} {mr : Addr} (a : Addr) (F : Fld Z h0 a "java/util/ArrayList" "size" "I" (.int (0 : Int32))) (G : GG Z ga1 ga2 ga3 ga4 ga5 ga6 ga7 gc1 gc2 gc4 gc6) (O : Old Z n0 h0) (M : Mr Z "[Ljava/lang/Object;" mr) :
    Pays l Z (⟨"java/util/ArrayList", "isEmpty", "()Z"⟩ : MethodName) jdk_38_method_9_code 1 (some .boolean) ({ frames := 0, cells := 0, slots := 0, locals := 0 } : Room) #[(.ref a)] n0 h0 (QP (some (.int (1 : Int32))) h0) := by
  refine Pays.of hw (plainFor_of_name pn6) (fun m => ef_rmE_0 m a) fun B C => ?_
  refine iAloadN C d9_0 rfl rfl ?_
  refine iGetF C tw61 F d9_1 ?_
  refine iIfF C d9_4 (by decide) ?_
  refine iIconst C d9_7 (v := (1 : Int32)) (by decide) ?_
  refine iGoto C (t := 12) d9_8 ⟨by decide, by decide⟩ ?_
  refine iRetZ C d9_12 (by simp) ⟨by decide, by decide⟩ ?_
  exact ⟨rfl, rfl⟩
theorem ef_rmE_1 (m : MethodId) (x0 : Addr) : entryFrame m #[(.ref x0)] 1 = mkF m 0 #[(.val (.ref x0))] [] := by first | (simp [entryFrame, mkF, argsToLocals, Value.category]; done) | rfl
set_option maxRecDepth 65536 in
set_option maxHeartbeats 4000000 in
theorem rmE_1 {l : Launch} {Z : State} {a0 : Array Value} (hw : ∀ d ∈ tables_1, d.before a0 Z = true) {n0 : Nat} {h0 : Heap} {ga1 ga2 ga3 ga4 ga5 ga6 ga7 : Addr} {gc1 gc2 gc4 gc6 : Cell} {mr : Addr} (a : Addr) (F : Fld Z h0 a "java/util/ArrayList" "size" "I" (.int (1 : Int32))) (G : GG Z ga1 ga2 ga3 ga4 ga5 ga6 ga7 gc1 gc2 gc4 gc6) (O : Old Z n0 h0) (M : Mr Z "[Ljava/lang/Object;" mr) :
    Pays l Z (⟨"java/util/ArrayList", "isEmpty", "()Z"⟩ : MethodName) jdk_38_method_9_code 1 (some .boolean) ({ frames := 0, cells := 0, slots := 0, locals := 0 } : Room) #[(.ref a)] n0 h0 (QP (some (.int (0 : Int32))) h0) := by
  refine Pays.of hw (plainFor_of_name pn6) (fun m => ef_rmE_1 m a) fun B C => ?_
  refine iAloadN C d9_0 rfl rfl ?_
  refine iGetF C tw61 F d9_1 ?_
  refine iIfT C (t := 11) d9_4 (by decide) ⟨by decide, by decide⟩ ?_
  refine iIconst C d9_11 (v := (0 : Int32)) (by decide) ?_
  refine iRetZ C d9_12 (by simp) ⟨by decide, by decide⟩ ?_
  exact ⟨rfl, rfl⟩
theorem ef_rmE_2 (m : MethodId) (x0 : Addr) : entryFrame m #[(.ref x0)] 1 = mkF m 0 #[(.val (.ref x0))] [] := by first | (simp [entryFrame, mkF, argsToLocals, Value.category]; done) | rfl
set_option maxRecDepth 65536 in
set_option maxHeartbeats 4000000 in
theorem rmE_2 {l : Launch} {Z : State} {a0 : Array Value} (hw : ∀ d ∈ tables_1, d.before a0 Z = true) {n0 : Nat} {h0 : Heap} {ga1 ga2 ga3 ga4 ga5 ga6 ga7 : Addr} {gc1 gc2 gc4 gc6 : Cell} {mr : Addr} (a : Addr) (F : Fld Z h0 a "java/util/ArrayList" "size" "I" (.int (2 : Int32))) (G : GG Z ga1 ga2 ga3 ga4 ga5 ga6 ga7 gc1 gc2 gc4 gc6) (O : Old Z n0 h0) (M : Mr Z "[Ljava/lang/Object;" mr) :
    Pays l Z (⟨"java/util/ArrayList", "isEmpty", "()Z"⟩ : MethodName) jdk_38_method_9_code 1 (some .boolean) ({ frames := 0, cells := 0, slots := 0, locals := 0 } : Room) #[(.ref a)] n0 h0 (QP (some (.int (0 : Int32))) h0) := by
  refine Pays.of hw (plainFor_of_name pn6) (fun m => ef_rmE_2 m a) fun B C => ?_
  refine iAloadN C d9_0 rfl rfl ?_
  refine iGetF C tw61 F d9_1 ?_
  refine iIfT C (t := 11) d9_4 (by decide) ⟨by decide, by decide⟩ ?_
  refine iIconst C d9_11 (v := (0 : Int32)) (by decide) ?_
  refine iRetZ C d9_12 (by simp) ⟨by decide, by decide⟩ ?_
  exact ⟨rfl, rfl⟩
theorem ef_rmE_3 (m : MethodId) (x0 : Addr) : entryFrame m #[(.ref x0)] 1 = mkF m 0 #[(.val (.ref x0))] [] := by first | (simp [entryFrame, mkF, argsToLocals, Value.category]; done) | rfl
set_option maxRecDepth 65536 in
set_option maxHeartbeats 4000000 in
theorem rmE_3 {l : Launch} {Z : State} {a0 : Array Value} (hw : ∀ d ∈ tables_1, d.before a0 Z = true) {n0 : Nat} {h0 : Heap} {ga1 ga2 ga3 ga4 ga5 ga6 ga7 : Addr} {gc1 gc2 gc4 gc6 : Cell} {mr : Addr} (a : Addr) (F : Fld Z h0 a "java/util/ArrayList" "size" "I" (.int (3 : Int32))) (G : GG Z ga1 ga2 ga3 ga4 ga5 ga6 ga7 gc1 gc2 gc4 gc6) (O : Old Z n0 h0) (M : Mr Z "[Ljava/lang/Object;" mr) :
    Pays l Z (⟨"java/util/ArrayList", "isEmpty", "()Z"⟩ : MethodName) jdk_38_method_9_code 1 (some .boolean) ({ frames := 0, cells := 0, slots := 0, locals := 0 } : Room) #[(.ref a)] n0 h0 (QP (some (.int (0 : Int32))) h0) := by
  refine Pays.of hw (plainFor_of_name pn6) (fun m => ef_rmE_3 m a) fun B C => ?_
  refine iAloadN C d9_0 rfl rfl ?_
  refine iGetF C tw61 F d9_1 ?_
  refine iIfT C (t := 11) d9_4 (by decide) ⟨by decide, by decide⟩ ?_
  refine iIconst C d9_11 (v := (0 : Int32)) (by decide) ?_
  refine iRetZ C d9_12 (by simp) ⟨by decide, by decide⟩ ?_
  exact ⟨rfl, rfl⟩
def QC1 (Z : State) (e0 : Addr) (h0 : Heap) (v : Option Value) (h : Heap) : Prop := ∃ (b : Addr) (k : ClassId), v = some (.ref b) ∧ h0.size ≤ b ∧ Keep h0 h [] ∧ Exa Z h b "[Ljava/lang/Object;" ∧ Arv Z h b k (.object "java/lang/Object") (1 : Int32) [(.ref e0)] .null
theorem ef_rmC3_1 (m : MethodId) (x0 : Addr) (x2 : Addr) : entryFrame m #[(.ref x0), (.int (1 : Int32)), (.ref x2)] 4 = mkF m 0 #[(.val (.ref x0)), (.val (.int (1 : Int32))), (.val (.ref x2)), .unset] [] := by first | (simp [entryFrame, mkF, argsToLocals, Value.category]; done) | rfl
set_option maxRecDepth 65536 in
set_option maxHeartbeats 4000000 in
theorem rmC3_1 {l : Launch} {Z : State} {a0 : Array Value} (hw : ∀ d ∈ tables_1, d.before a0 Z = true) {n0 : Nat} {h0 : Heap} {ga1 ga2 ga3 ga4 ga5 ga6 ga7 : Addr} {gc1 gc2 gc4 gc6 : Cell} {mr : Addr}  {b : Addr} {k : ClassId} {e0 : Addr} (EB : Exa Z h0 b "[Ljava/lang/Object;") (VB : Arv Z h0 b k (.object "java/lang/Object") 10 [(.ref e0), .null, .null, .null, .null, .null, .null, .null, .null, .null] .null) (I0 : Ins Z h0 e0 "java/lang/Object" true) (G : GG Z ga1 ga2 ga3 ga4 ga5 ga6 ga7 gc1 gc2 gc4 gc6) (O : Old Z n0 h0) (M : Mr Z "[Ljava/lang/Object;" mr) :
    Pays l Z (⟨"java/util/Arrays", "copyOf", "([Ljava/lang/Object;ILjava/lang/Class;)[Ljava/lang/Object;"⟩ : MethodName) jdk_65_method_120_code 4 (some (.array (.object "java/lang/Object"))) ({ frames := 1, cells := 1, slots := 1, locals := 40 } : Room) #[(.ref b), (.int (1 : Int32)), (.ref mr)] n0 h0 (QC1 Z e0 h0) := by
  refine Pays.of hw (plainFor_of_name pn7) (fun m => ef_rmC3_1 m b mr) fun B C => ?_
  refine iAloadN C d22_0 rfl rfl ?_
  refine iLdcM C tw145 M d22_1 ?_
  refine iAcmpF C d22_3 rfl rfl (acE rfl).2 ?_
  refine iIloadN C d22_6 rfl ?_
  refine iNewR C tw146 tw122 (ad := "[Ljava/lang/Object;") (by decide) d22_7 (by decide) (cap := 1) (by decide) (by decide) ⟨rfl, rfl, by decide, by decide⟩ fun h1 a1 k1 g1 E1 V1 A1 Ov1 => ?_
  have n_a1 : n0 ≤ a1 := oFresh O g1
  have O1 := O.ext E1
  have V1 : Arv Z h1 a1 k1 (.object "java/lang/Object") (1 : Int32) [.null] .null := V1.pad (pad_rep [] .null 1)
  refine iGoto C (t := 24) d22_10 ⟨by decide, by decide⟩ ?_
  refine iAstoreN C d22_24 (Ls' := #[(.val (.ref b)), (.val (.int (1 : Int32))), (.val (.ref mr)), (.val (.ref a1))]) rfl rfl ?_
  refine iAloadN C d22_25 rfl rfl ?_
  refine iIconst C d22_26 (v := (0 : Int32)) (by decide) ?_
  refine iAloadN C d22_27 rfl rfl ?_
  refine iIconst C d22_28 (v := (0 : Int32)) (by decide) ?_
  refine iAloadN C d22_29 rfl rfl ?_
  obtain ⟨c2, A2, q2, z2, y2, H2, G2⟩ := id (VB.ext E1)
  refine iLen C A2 (len_of z2 y2) d22_30 ?_
  refine iIloadN C d22_31 rfl ?_
  refine iCallS C (rmMin_1 hw G O1 M) tw147 tw148 tw119 tw149 ⟨by decide, by decide⟩ (argsL := [(.int (10 : Int32)), (.int (1 : Int32))]) (S' := [(.int (0 : Int32)), (.ref a1), (.int (0 : Int32)), (.ref b)]) (lenOf pd1 rfl) rfl rfl d22_32 rfl (W := 4) rfl ⟨by decide, by decide, rfl, rfl, by decide, by decide⟩ fun v3 h3 q3 => ?_
  obtain ⟨rfl, rfl⟩ := q3
  show Go B n0 _ h1 1 1 35 #[(.val (.ref b)), (.val (.int (1 : Int32))), (.val (.ref mr)), (.val (.ref a1))] [(.int (1 : Int32)), (.int (0 : Int32)), (.ref a1), (.int (0 : Int32)), (.ref b)]
  obtain ⟨c4, A4, q4, -⟩ := id V1
  refine iCpA C (us := [(.ref e0)]) tw150 tw153 tw151 tw152 (VB.ext E1) V1 (Or.inr ⟨rfl, rfl, ⟨Sto.ofV A4 q4 Ov1 (Ins.ext E1 I0), trivial⟩⟩) (by decide) (by decide) (by decide) (by decide) (by decide) (by rfl) (Nat.le_of_ble_eq_true rfl) n_a1 d22_35 rfl (by decide) (W := 0) rfl (by decide) fun h4 K4 V4 => ?_
  have V4 : Arv Z h4 a1 k1 (.object "java/lang/Object") (1 : Int32) [(.ref e0)] .null := V4
  have O4 := O1.keep K4 (allS n_a1 all0)
  refine iAloadN C d22_38 rfl rfl ?_
  refine iRetA C d22_39 rfl rfl rfl ⟨by decide, by decide⟩ ?_
  exact ⟨a1, k1, rfl, (Nat.le_trans (Nat.le_refl _) (Nat.le_of_eq g1.symm)), (((Keep.refl h0 []).ext E1).trans K4 (allS (Or.inr (Nat.le_trans (Nat.le_refl _) (Nat.le_of_eq g1.symm))) all0)), (A1.keep K4), V4⟩
theorem ef_rmC2_1 (m : MethodId) (x0 : Addr) : entryFrame m #[(.ref x0), (.int (1 : Int32))] 2 = mkF m 0 #[(.val (.ref x0)), (.val (.int (1 : Int32)))] [] := by first | (simp [entryFrame, mkF, argsToLocals, Value.category]; done) | rfl
set_option maxRecDepth 65536 in
set_option maxHeartbeats 4000000 in
theorem rmC2_1 {l : Launch} {Z : State} {a0 : Array Value} (hw : ∀ d ∈ tables_1, d.before a0 Z = true) {n0 : Nat} {h0 : Heap} {ga1 ga2 ga3 ga4 ga5 ga6 ga7 : Addr} {gc1 gc2 gc4 gc6 : Cell} {mr : Addr}  {b : Addr} {k : ClassId} {e0 : Addr} (EB : Exa Z h0 b "[Ljava/lang/Object;") (VB : Arv Z h0 b k (.object "java/lang/Object") 10 [(.ref e0), .null, .null, .null, .null, .null, .null, .null, .null, .null] .null) (I0 : Ins Z h0 e0 "java/lang/Object" true) (G : GG Z ga1 ga2 ga3 ga4 ga5 ga6 ga7 gc1 gc2 gc4 gc6) (O : Old Z n0 h0) (M : Mr Z "[Ljava/lang/Object;" mr) :
    Pays l Z (⟨"java/util/Arrays", "copyOf", "([Ljava/lang/Object;I)[Ljava/lang/Object;"⟩ : MethodName) jdk_65_method_119_code 2 (some (.array (.object "java/lang/Object"))) ({ frames := 2, cells := 1, slots := 1, locals := 55 } : Room) #[(.ref b), (.int (1 : Int32))] n0 h0 (QC1 Z e0 h0) := by
  refine Pays.of hw (plainFor_of_name pn7) (fun m => ef_rmC2_1 m b) fun B C => ?_
  refine iAloadN C d21_0 rfl rfl ?_
  refine iIloadN C d21_1 rfl ?_
  refine iAloadN C d21_2 rfl rfl ?_
  refine iGcls C tw136 tw137 tw50 tw139 tw138 tw140 EB M d21_3 rfl (by decide) (W := 2) rfl (by decide) ?_
  refine iCallS C (rmC3_1 hw EB VB I0 G O M) tw142 tw143 tw134 tw144 ⟨by decide, by decide⟩ (argsL := [(.ref b), (.int (1 : Int32)), (.ref mr)]) (S' := []) (lenOf pd5 rfl) rfl rfl d21_6 rfl (W := 0) rfl ⟨by decide, by decide, rfl, rfl, by decide, by decide⟩ fun v1 h1 q1 => ?_
  obtain ⟨b_1, k_1, rfl, sb_1, K1, eb_1, vb_1⟩ := q1
  have O1 := O.keep K1 all0
  have n_b_1 : n0 ≤ b_1 := Nat.le_trans (oSize O) sb_1
  show Go B n0 _ h1 1 1 9 #[(.val (.ref b)), (.val (.int (1 : Int32)))] [(.ref b_1)]
  refine iRetA C d21_9 rfl rfl rfl ⟨by decide, by decide⟩ ?_
  exact ⟨b_1, k_1, rfl, (Nat.le_trans (Nat.le_refl _) sb_1), ((Keep.refl h0 []).trans K1 all0), eb_1, vb_1⟩
theorem ef_rmT_1 (m : MethodId) (x0 : Addr) : entryFrame m #[(.ref x0)] 1 = mkF m 0 #[(.val (.ref x0))] [] := by first | (simp [entryFrame, mkF, argsToLocals, Value.category]; done) | rfl
set_option maxRecDepth 65536 in
set_option maxHeartbeats 4000000 in
theorem rmT_1 {l : Launch} {Z : State} {a0 : Array Value} (hw : ∀ d ∈ tables_1, d.before a0 Z = true) {n0 : Nat} {h0 : Heap} {ga1 ga2 ga3 ga4 ga5 ga6 ga7 : Addr} {gc1 gc2 gc4 gc6 : Cell} {mr : Addr}  {b : Addr} {k : ClassId} {e0 : Addr} (a : Addr) (EA : Exa Z h0 a "java/util/ArrayList") (F1 : Fld Z h0 a "java/util/AbstractList" "modCount" "I" (.int (1 : Int32))) (F2 : Fld Z h0 a "java/util/ArrayList" "size" "I" (.int (1 : Int32))) (F3 : Fld Z h0 a "java/util/ArrayList" "elementData" "[Ljava/lang/Object;" (.ref b)) (na : n0 ≤ a) (EB : Exa Z h0 b "[Ljava/lang/Object;") (VB : Arv Z h0 b k (.object "java/lang/Object") 10 [(.ref e0), .null, .null, .null, .null, .null, .null, .null, .null, .null] .null) (OV : Ovr Z k "java/lang/Object") (nb : n0 ≤ b) (I0 : Ins Z h0 e0 "java/lang/Object" true) (G : GG Z ga1 ga2 ga3 ga4 ga5 ga6 ga7 gc1 gc2 gc4 gc6) (O : Old Z n0 h0) (M : Mr Z "[Ljava/lang/Object;" mr) :
    Pays l Z (⟨"java/util/ArrayList", "toArray", "()[Ljava/lang/Object;"⟩ : MethodName) jdk_38_method_16_code 1 (some (.array (.object "java/lang/Object"))) ({ frames := 3, cells := 1, slots := 1, locals := 68 } : Room) #[(.ref a)] n0 h0 (QC1 Z e0 h0) := by
  refine Pays.of hw (plainFor_of_name pn6) (fun m => ef_rmT_1 m a) fun B C => ?_
  refine iAloadN C d20_0 rfl rfl ?_
  refine iGetF C tw24 F3 d20_1 ?_
  refine iAloadN C d20_4 rfl rfl ?_
  refine iGetF C tw61 F2 d20_5 ?_
  refine iCallS C (rmC2_1 hw EB VB I0 G O M) tw132 tw133 tw134 tw135 ⟨by decide, by decide⟩ (argsL := [(.ref b), (.int (1 : Int32))]) (S' := []) (lenOf pd6 rfl) rfl rfl d20_8 rfl (W := 0) rfl ⟨by decide, by decide, rfl, rfl, by decide, by decide⟩ fun v1 h1 q1 => ?_
  obtain ⟨b_1, k_1, rfl, sb_1, K1, eb_1, vb_1⟩ := q1
  have O1 := O.keep K1 all0
  have n_b_1 : n0 ≤ b_1 := Nat.le_trans (oSize O) sb_1
  show Go B n0 _ h1 1 1 11 #[(.val (.ref a))] [(.ref b_1)]
  refine iRetA C d20_11 rfl rfl rfl ⟨by decide, by decide⟩ ?_
  exact ⟨b_1, k_1, rfl, (Nat.le_trans (Nat.le_refl _) sb_1), ((Keep.refl h0 []).trans K1 all0), eb_1, vb_1⟩
def QC2 (Z : State) (e0 e1 : Addr) (h0 : Heap) (v : Option Value) (h : Heap) : Prop := ∃ (b : Addr) (k : ClassId), v = some (.ref b) ∧ h0.size ≤ b ∧ Keep h0 h [] ∧ Exa Z h b "[Ljava/lang/Object;" ∧ Arv Z h b k (.object "java/lang/Object") (2 : Int32) [(.ref e0), (.ref e1)] .null
theorem ef_rmC3_2 (m : MethodId) (x0 : Addr) (x2 : Addr) : entryFrame m #[(.ref x0), (.int (2 : Int32)), (.ref x2)] 4 = mkF m 0 #[(.val (.ref x0)), (.val (.int (2 : Int32))), (.val (.ref x2)), .unset] [] := by first | (simp [entryFrame, mkF, argsToLocals, Value.category]; done) | rfl
set_option maxRecDepth 65536 in
set_option maxHeartbeats 4000000 in
theorem rmC3_2 {l : Launch} {Z : State} {a0 : Array Value} (hw : ∀ d ∈ tables_1, d.before a0 Z = true) {n0 : Nat} {h0 : Heap} {ga1 ga2 ga3 ga4 ga5 ga6 ga7 : Addr} {gc1 gc2 gc4 gc6 : Cell} {mr : Addr}  {b : Addr} {k : ClassId} {e0 e1 : Addr} (EB : Exa Z h0 b "[Ljava/lang/Object;") (VB : Arv Z h0 b k (.object "java/lang/Object") 10 [(.ref e0), (.ref e1), .null, .null, .null, .null, .null, .null, .null, .null] .null) (I0 : Ins Z h0 e0 "java/lang/Object" true) (I1 : Ins Z h0 e1 "java/lang/Object" true) (G : GG Z ga1 ga2 ga3 ga4 ga5 ga6 ga7 gc1 gc2 gc4 gc6) (O : Old Z n0 h0) (M : Mr Z "[Ljava/lang/Object;" mr) :
    Pays l Z (⟨"java/util/Arrays", "copyOf", "([Ljava/lang/Object;ILjava/lang/Class;)[Ljava/lang/Object;"⟩ : MethodName) jdk_65_method_120_code 4 (some (.array (.object "java/lang/Object"))) ({ frames := 1, cells := 1, slots := 2, locals := 40 } : Room) #[(.ref b), (.int (2 : Int32)), (.ref mr)] n0 h0 (QC2 Z e0 e1 h0) := by
  refine Pays.of hw (plainFor_of_name pn7) (fun m => ef_rmC3_2 m b mr) fun B C => ?_
  refine iAloadN C d22_0 rfl rfl ?_
  refine iLdcM C tw145 M d22_1 ?_
  refine iAcmpF C d22_3 rfl rfl (acE rfl).2 ?_
  refine iIloadN C d22_6 rfl ?_
  refine iNewR C tw146 tw122 (ad := "[Ljava/lang/Object;") (by decide) d22_7 (by decide) (cap := 2) (by decide) (by decide) ⟨rfl, rfl, by decide, by decide⟩ fun h1 a1 k1 g1 E1 V1 A1 Ov1 => ?_
  have n_a1 : n0 ≤ a1 := oFresh O g1
  have O1 := O.ext E1
  have V1 : Arv Z h1 a1 k1 (.object "java/lang/Object") (2 : Int32) [.null, .null] .null := V1.pad (pad_rep [] .null 2)
  refine iGoto C (t := 24) d22_10 ⟨by decide, by decide⟩ ?_
  refine iAstoreN C d22_24 (Ls' := #[(.val (.ref b)), (.val (.int (2 : Int32))), (.val (.ref mr)), (.val (.ref a1))]) rfl rfl ?_
  refine iAloadN C d22_25 rfl rfl ?_
  refine iIconst C d22_26 (v := (0 : Int32)) (by decide) ?_
  refine iAloadN C d22_27 rfl rfl ?_
  refine iIconst C d22_28 (v := (0 : Int32)) (by decide) ?_
  refine iAloadN C d22_29 rfl rfl ?_
  obtain ⟨c2, A2, q2, z2, y2, H2, G2⟩ := id (VB.ext E1)
  refine iLen C A2 (len_of z2 y2) d22_30 ?_
  refine iIloadN C d22_31 rfl ?_
  refine iCallS C (rmMin_2 hw G O1 M) tw147 tw148 tw119 tw149 ⟨by decide, by decide⟩ (argsL := [(.int (10 : Int32)), (.int (2 : Int32))]) (S' := [(.int (0 : Int32)), (.ref a1), (.int (0 : Int32)), (.ref b)]) (lenOf pd1 rfl) rfl rfl d22_32 rfl (W := 4) rfl ⟨by decide, by decide, rfl, rfl, by decide, by decide⟩ fun v3 h3 q3 => ?_
  obtain ⟨rfl, rfl⟩ := q3
  show Go B n0 _ h1 1 2 35 #[(.val (.ref b)), (.val (.int (2 : Int32))), (.val (.ref mr)), (.val (.ref a1))] [(.int (2 : Int32)), (.int (0 : Int32)), (.ref a1), (.int (0 : Int32)), (.ref b)]
  obtain ⟨c4, A4, q4, -⟩ := id V1
  refine iCpA C (us := [(.ref e0), (.ref e1)]) tw150 tw153 tw151 tw152 (VB.ext E1) V1 (Or.inr ⟨rfl, rfl, ⟨Sto.ofV A4 q4 Ov1 (Ins.ext E1 I0), ⟨Sto.ofV A4 q4 Ov1 (Ins.ext E1 I1), trivial⟩⟩⟩) (by decide) (by decide) (by decide) (by decide) (by decide) (by rfl) (Nat.le_of_ble_eq_true rfl) n_a1 d22_35 rfl (by decide) (W := 0) rfl (by decide) fun h4 K4 V4 => ?_
  have V4 : Arv Z h4 a1 k1 (.object "java/lang/Object") (2 : Int32) [(.ref e0), (.ref e1)] .null := V4
  have O4 := O1.keep K4 (allS n_a1 all0)
  refine iAloadN C d22_38 rfl rfl ?_
  refine iRetA C d22_39 rfl rfl rfl ⟨by decide, by decide⟩ ?_
  exact ⟨a1, k1, rfl, (Nat.le_trans (Nat.le_refl _) (Nat.le_of_eq g1.symm)), (((Keep.refl h0 []).ext E1).trans K4 (allS (Or.inr (Nat.le_trans (Nat.le_refl _) (Nat.le_of_eq g1.symm))) all0)), (A1.keep K4), V4⟩
theorem ef_rmC2_2 (m : MethodId) (x0 : Addr) : entryFrame m #[(.ref x0), (.int (2 : Int32))] 2 = mkF m 0 #[(.val (.ref x0)), (.val (.int (2 : Int32)))] [] := by first | (simp [entryFrame, mkF, argsToLocals, Value.category]; done) | rfl
set_option maxRecDepth 65536 in
set_option maxHeartbeats 4000000 in
theorem rmC2_2 {l : Launch} {Z : State} {a0 : Array Value} (hw : ∀ d ∈ tables_1, d.before a0 Z = true) {n0 : Nat} {h0 : Heap} {ga1 ga2 ga3 ga4 ga5 ga6 ga7 : Addr} {gc1 gc2 gc4 gc6 : Cell} {mr : Addr}  {b : Addr} {k : ClassId} {e0 e1 : Addr} (EB : Exa Z h0 b "[Ljava/lang/Object;") (VB : Arv Z h0 b k (.object "java/lang/Object") 10 [(.ref e0), (.ref e1), .null, .null, .null, .null, .null, .null, .null, .null] .null) (I0 : Ins Z h0 e0 "java/lang/Object" true) (I1 : Ins Z h0 e1 "java/lang/Object" true) (G : GG Z ga1 ga2 ga3 ga4 ga5 ga6 ga7 gc1 gc2 gc4 gc6) (O : Old Z n0 h0) (M : Mr Z "[Ljava/lang/Object;" mr) :
    Pays l Z (⟨"java/util/Arrays", "copyOf", "([Ljava/lang/Object;I)[Ljava/lang/Object;"⟩ : MethodName) jdk_65_method_119_code 2 (some (.array (.object "java/lang/Object"))) ({ frames := 2, cells := 1, slots := 2, locals := 55 } : Room) #[(.ref b), (.int (2 : Int32))] n0 h0 (QC2 Z e0 e1 h0) := by
  refine Pays.of hw (plainFor_of_name pn7) (fun m => ef_rmC2_2 m b) fun B C => ?_
  refine iAloadN C d21_0 rfl rfl ?_
  refine iIloadN C d21_1 rfl ?_
  refine iAloadN C d21_2 rfl rfl ?_
  refine iGcls C tw136 tw137 tw50 tw139 tw138 tw140 EB M d21_3 rfl (by decide) (W := 2) rfl (by decide) ?_
  refine iCallS C (rmC3_2 hw EB VB I0 I1 G O M) tw142 tw143 tw134 tw144 ⟨by decide, by decide⟩ (argsL := [(.ref b), (.int (2 : Int32)), (.ref mr)]) (S' := []) (lenOf pd5 rfl) rfl rfl d21_6 rfl (W := 0) rfl ⟨by decide, by decide, rfl, rfl, by decide, by decide⟩ fun v1 h1 q1 => ?_
  obtain ⟨b_1, k_1, rfl, sb_1, K1, eb_1, vb_1⟩ := q1
  have O1 := O.keep K1 all0
  have n_b_1 : n0 ≤ b_1 := Nat.le_trans (oSize O) sb_1
  show Go B n0 _ h1 1 2 9 #[(.val (.ref b)), (.val (.int (2 : Int32)))] [(.ref b_1)]
  refine iRetA C d21_9 rfl rfl rfl ⟨by decide, by decide⟩ ?_
  exact ⟨b_1, k_1, rfl, (Nat.le_trans (Nat.le_refl _) sb_1), ((Keep.refl h0 []).trans K1 all0), eb_1, vb_1⟩
theorem ef_rmT_2 (m : MethodId) (x0 : Addr) : entryFrame m #[(.ref x0)] 1 = mkF m 0 #[(.val (.ref x0))] [] := by first | (simp [entryFrame, mkF, argsToLocals, Value.category]; done) | rfl
set_option maxRecDepth 65536 in
set_option maxHeartbeats 4000000 in
theorem rmT_2 {l : Launch} {Z : State} {a0 : Array Value} (hw : ∀ d ∈ tables_1, d.before a0 Z = true) {n0 : Nat} {h0 : Heap} {ga1 ga2 ga3 ga4 ga5 ga6 ga7 : Addr} {gc1 gc2 gc4 gc6 : Cell} {mr : Addr}  {b : Addr} {k : ClassId} {e0 e1 : Addr} (a : Addr) (EA : Exa Z h0 a "java/util/ArrayList") (F1 : Fld Z h0 a "java/util/AbstractList" "modCount" "I" (.int (2 : Int32))) (F2 : Fld Z h0 a "java/util/ArrayList" "size" "I" (.int (2 : Int32))) (F3 : Fld Z h0 a "java/util/ArrayList" "elementData" "[Ljava/lang/Object;" (.ref b)) (na : n0 ≤ a) (EB : Exa Z h0 b "[Ljava/lang/Object;") (VB : Arv Z h0 b k (.object "java/lang/Object") 10 [(.ref e0), (.ref e1), .null, .null, .null, .null, .null, .null, .null, .null] .null) (OV : Ovr Z k "java/lang/Object") (nb : n0 ≤ b) (I0 : Ins Z h0 e0 "java/lang/Object" true) (I1 : Ins Z h0 e1 "java/lang/Object" true) (G : GG Z ga1 ga2 ga3 ga4 ga5 ga6 ga7 gc1 gc2 gc4 gc6) (O : Old Z n0 h0) (M : Mr Z "[Ljava/lang/Object;" mr) :
    Pays l Z (⟨"java/util/ArrayList", "toArray", "()[Ljava/lang/Object;"⟩ : MethodName) jdk_38_method_16_code 1 (some (.array (.object "java/lang/Object"))) ({ frames := 3, cells := 1, slots := 2, locals := 68 } : Room) #[(.ref a)] n0 h0 (QC2 Z e0 e1 h0) := by
  refine Pays.of hw (plainFor_of_name pn6) (fun m => ef_rmT_2 m a) fun B C => ?_
  refine iAloadN C d20_0 rfl rfl ?_
  refine iGetF C tw24 F3 d20_1 ?_
  refine iAloadN C d20_4 rfl rfl ?_
  refine iGetF C tw61 F2 d20_5 ?_
  refine iCallS C (rmC2_2 hw EB VB I0 I1 G O M) tw132 tw133 tw134 tw135 ⟨by decide, by decide⟩ (argsL := [(.ref b), (.int (2 : Int32))]) (S' := []) (lenOf pd6 rfl) rfl rfl d20_8 rfl (W := 0) rfl ⟨by decide, by decide, rfl, rfl, by decide, by decide⟩ fun v1 h1 q1 => ?_
  obtain ⟨b_1, k_1, rfl, sb_1, K1, eb_1, vb_1⟩ := q1
  have O1 := O.keep K1 all0
  have n_b_1 : n0 ≤ b_1 := Nat.le_trans (oSize O) sb_1
  show Go B n0 _ h1 1 2 11 #[(.val (.ref a))] [(.ref b_1)]
  refine iRetA C d20_11 rfl rfl rfl ⟨by decide, by decide⟩ ?_
  exact ⟨b_1, k_1, rfl, (Nat.le_trans (Nat.le_refl _) sb_1), ((Keep.refl h0 []).trans K1 all0), eb_1, vb_1⟩
def QC3 (Z : State) (e0 e1 e2 : Addr) (h0 : Heap) (v : Option Value) (h : Heap) : Prop := ∃ (b : Addr) (k : ClassId), v = some (.ref b) ∧ h0.size ≤ b ∧ Keep h0 h [] ∧ Exa Z h b "[Ljava/lang/Object;" ∧ Arv Z h b k (.object "java/lang/Object") (3 : Int32) [(.ref e0), (.ref e1), (.ref e2)] .null
theorem ef_rmC3_3 (m : MethodId) (x0 : Addr) (x2 : Addr) : entryFrame m #[(.ref x0), (.int (3 : Int32)), (.ref x2)] 4 = mkF m 0 #[(.val (.ref x0)), (.val (.int (3 : Int32))), (.val (.ref x2)), .unset] [] := by first | (simp [entryFrame, mkF, argsToLocals, Value.category]; done) | rfl
set_option maxRecDepth 65536 in
set_option maxHeartbeats 4000000 in
theorem rmC3_3 {l : Launch} {Z : State} {a0 : Array Value} (hw : ∀ d ∈ tables_1, d.before a0 Z = true) {n0 : Nat} {h0 : Heap} {ga1 ga2 ga3 ga4 ga5 ga6 ga7 : Addr} {gc1 gc2 gc4 gc6 : Cell} {mr : Addr}  {b : Addr} {k : ClassId} {e0 e1 e2 : Addr} (EB : Exa Z h0 b "[Ljava/lang/Object;") (VB : Arv Z h0 b k (.object "java/lang/Object") 10 [(.ref e0), (.ref e1), (.ref e2), .null, .null, .null, .null, .null, .null, .null] .null) (I0 : Ins Z h0 e0 "java/lang/Object" true) (I1 : Ins Z h0 e1 "java/lang/Object" true) (I2 : Ins Z h0 e2 "java/lang/Object" true) (G : GG Z ga1 ga2 ga3 ga4 ga5 ga6 ga7 gc1 gc2 gc4 gc6) (O : Old Z n0 h0) (M : Mr Z "[Ljava/lang/Object;" mr) :
    Pays l Z (⟨"java/util/Arrays", "copyOf", "([Ljava/lang/Object;ILjava/lang/Class;)[Ljava/lang/Object;"⟩ : MethodName) jdk_65_method_120_code 4 (some (.array (.object "java/lang/Object"))) ({ frames := 1, cells := 1, slots := 3, locals := 40 } : Room) #[(.ref b), (.int (3 : Int32)), (.ref mr)] n0 h0 (QC3 Z e0 e1 e2 h0) := by
  refine Pays.of hw (plainFor_of_name pn7) (fun m => ef_rmC3_3 m b mr) fun B C => ?_
  refine iAloadN C d22_0 rfl rfl ?_
  refine iLdcM C tw145 M d22_1 ?_
  refine iAcmpF C d22_3 rfl rfl (acE rfl).2 ?_
  refine iIloadN C d22_6 rfl ?_
  refine iNewR C tw146 tw122 (ad := "[Ljava/lang/Object;") (by decide) d22_7 (by decide) (cap := 3) (by decide) (by decide) ⟨rfl, rfl, by decide, by decide⟩ fun h1 a1 k1 g1 E1 V1 A1 Ov1 => ?_
  have n_a1 : n0 ≤ a1 := oFresh O g1
  have O1 := O.ext E1
  have V1 : Arv Z h1 a1 k1 (.object "java/lang/Object") (3 : Int32) [.null, .null, .null] .null := V1.pad (pad_rep [] .null 3)
  refine iGoto C (t := 24) d22_10 ⟨by decide, by decide⟩ ?_
  refine iAstoreN C d22_24 (Ls' := #[(.val (.ref b)), (.val (.int (3 : Int32))), (.val (.ref mr)), (.val (.ref a1))]) rfl rfl ?_
  refine iAloadN C d22_25 rfl rfl ?_
  refine iIconst C d22_26 (v := (0 : Int32)) (by decide) ?_
  refine iAloadN C d22_27 rfl rfl ?_
  refine iIconst C d22_28 (v := (0 : Int32)) (by decide) ?_
  refine iAloadN C d22_29 rfl rfl ?_
  obtain ⟨c2, A2, q2, z2, y2, H2, G2⟩ := id (VB.ext E1)
  refine iLen C A2 (len_of z2 y2) d22_30 ?_
  refine iIloadN C d22_31 rfl ?_
  refine iCallS C (rmMin_3 hw G O1 M) tw147 tw148 tw119 tw149 ⟨by decide, by decide⟩ (argsL := [(.int (10 : Int32)), (.int (3 : Int32))]) (S' := [(.int (0 : Int32)), (.ref a1), (.int (0 : Int32)), (.ref b)]) (lenOf pd1 rfl) rfl rfl d22_32 rfl (W := 4) rfl ⟨by decide, by decide, rfl, rfl, by decide, by decide⟩ fun v3 h3 q3 => ?_
  obtain ⟨rfl, rfl⟩ := q3
  show Go B n0 _ h1 1 3 35 #[(.val (.ref b)), (.val (.int (3 : Int32))), (.val (.ref mr)), (.val (.ref a1))] [(.int (3 : Int32)), (.int (0 : Int32)), (.ref a1), (.int (0 : Int32)), (.ref b)]
  obtain ⟨c4, A4, q4, -⟩ := id V1
  refine iCpA C (us := [(.ref e0), (.ref e1), (.ref e2)]) tw150 tw153 tw151 tw152 (VB.ext E1) V1 (Or.inr ⟨rfl, rfl, ⟨Sto.ofV A4 q4 Ov1 (Ins.ext E1 I0), ⟨Sto.ofV A4 q4 Ov1 (Ins.ext E1 I1), ⟨Sto.ofV A4 q4 Ov1 (Ins.ext E1 I2), trivial⟩⟩⟩⟩) (by decide) (by decide) (by decide) (by decide) (by decide) (by rfl) (Nat.le_of_ble_eq_true rfl) n_a1 d22_35 rfl (by decide) (W := 0) rfl (by decide) fun h4 K4 V4 => ?_
  have V4 : Arv Z h4 a1 k1 (.object "java/lang/Object") (3 : Int32) [(.ref e0), (.ref e1), (.ref e2)] .null := V4
  have O4 := O1.keep K4 (allS n_a1 all0)
  refine iAloadN C d22_38 rfl rfl ?_
  refine iRetA C d22_39 rfl rfl rfl ⟨by decide, by decide⟩ ?_
  exact ⟨a1, k1, rfl, (Nat.le_trans (Nat.le_refl _) (Nat.le_of_eq g1.symm)), (((Keep.refl h0 []).ext E1).trans K4 (allS (Or.inr (Nat.le_trans (Nat.le_refl _) (Nat.le_of_eq g1.symm))) all0)), (A1.keep K4), V4⟩
theorem ef_rmC2_3 (m : MethodId) (x0 : Addr) : entryFrame m #[(.ref x0), (.int (3 : Int32))] 2 = mkF m 0 #[(.val (.ref x0)), (.val (.int (3 : Int32)))] [] := by first | (simp [entryFrame, mkF, argsToLocals, Value.category]; done) | rfl
set_option maxRecDepth 65536 in
set_option maxHeartbeats 4000000 in
theorem rmC2_3 {l : Launch} {Z : State} {a0 : Array Value} (hw : ∀ d ∈ tables_1, d.before a0 Z = true) {n0 : Nat} {h0 : Heap} {ga1 ga2 ga3 ga4 ga5 ga6 ga7 : Addr} {gc1 gc2 gc4 gc6 : Cell} {mr : Addr}  {b : Addr} {k : ClassId} {e0 e1 e2 : Addr} (EB : Exa Z h0 b "[Ljava/lang/Object;") (VB : Arv Z h0 b k (.object "java/lang/Object") 10 [(.ref e0), (.ref e1), (.ref e2), .null, .null, .null, .null, .null, .null, .null] .null) (I0 : Ins Z h0 e0 "java/lang/Object" true) (I1 : Ins Z h0 e1 "java/lang/Object" true) (I2 : Ins Z h0 e2 "java/lang/Object" true) (G : GG Z ga1 ga2 ga3 ga4 ga5 ga6 ga7 gc1 gc2 gc4 gc6) (O : Old Z n0 h0) (M : Mr Z "[Ljava/lang/Object;" mr) :
    Pays l Z (⟨"java/util/Arrays", "copyOf", "([Ljava/lang/Object;I)[Ljava/lang/Object;"⟩ : MethodName) jdk_65_method_119_code 2 (some (.array (.object "java/lang/Object"))) ({ frames := 2, cells := 1, slots := 3, locals := 55 } : Room) #[(.ref b), (.int (3 : Int32))] n0 h0 (QC3 Z e0 e1 e2 h0) := by
  refine Pays.of hw (plainFor_of_name pn7) (fun m => ef_rmC2_3 m b) fun B C => ?_
  refine iAloadN C d21_0 rfl rfl ?_
  refine iIloadN C d21_1 rfl ?_
  refine iAloadN C d21_2 rfl rfl ?_
  refine iGcls C tw136 tw137 tw50 tw139 tw138 tw140 EB M d21_3 rfl (by decide) (W := 2) rfl (by decide) ?_
  refine iCallS C (rmC3_3 hw EB VB I0 I1 I2 G O M) tw142 tw143 tw134 tw144 ⟨by decide, by decide⟩ (argsL := [(.ref b), (.int (3 : Int32)), (.ref mr)]) (S' := []) (lenOf pd5 rfl) rfl rfl d21_6 rfl (W := 0) rfl ⟨by decide, by decide, rfl, rfl, by decide, by decide⟩ fun v1 h1 q1 => ?_
  obtain ⟨b_1, k_1, rfl, sb_1, K1, eb_1, vb_1⟩ := q1
  have O1 := O.keep K1 all0
  have n_b_1 : n0 ≤ b_1 := Nat.le_trans (oSize O) sb_1
  show Go B n0 _ h1 1 3 9 #[(.val (.ref b)), (.val (.int (3 : Int32)))] [(.ref b_1)]
  refine iRetA C d21_9 rfl rfl rfl ⟨by decide, by decide⟩ ?_
  exact ⟨b_1, k_1, rfl, (Nat.le_trans (Nat.le_refl _) sb_1), ((Keep.refl h0 []).trans K1 all0), eb_1, vb_1⟩
theorem ef_rmT_3 (m : MethodId) (x0 : Addr) : entryFrame m #[(.ref x0)] 1 = mkF m 0 #[(.val (.ref x0))] [] := by first | (simp [entryFrame, mkF, argsToLocals, Value.category]; done) | rfl
set_option maxRecDepth 65536 in
set_option maxHeartbeats 4000000 in
theorem rmT_3 {l : Launch} {Z : State} {a0 : Array Value} (hw : ∀ d ∈ tables_1, d.before a0 Z = true) {n0 : Nat} {h0 : Heap} {ga1 ga2 ga3 ga4 ga5 ga6 ga7 : Addr} {gc1 gc2 gc4 gc6 : Cell} {mr : Addr}  {b : Addr} {k : ClassId} {e0 e1 e2 : Addr} (a : Addr) (EA : Exa Z h0 a "java/util/ArrayList") (F1 : Fld Z h0 a "java/util/AbstractList" "modCount" "I" (.int (3 : Int32))) (F2 : Fld Z h0 a "java/util/ArrayList" "size" "I" (.int (3 : Int32))) (F3 : Fld Z h0 a "java/util/ArrayList" "elementData" "[Ljava/lang/Object;" (.ref b)) (na : n0 ≤ a) (EB : Exa Z h0 b "[Ljava/lang/Object;") (VB : Arv Z h0 b k (.object "java/lang/Object") 10 [(.ref e0), (.ref e1), (.ref e2), .null, .null, .null, .null, .null, .null, .null] .null) (OV : Ovr Z k "java/lang/Object") (nb : n0 ≤ b) (I0 : Ins Z h0 e0 "java/lang/Object" true) (I1 : Ins Z h0 e1 "java/lang/Object" true) (I2 : Ins Z h0 e2 "java/lang/Object" true) (G : GG Z ga1 ga2 ga3 ga4 ga5 ga6 ga7 gc1 gc2 gc4 gc6) (O : Old Z n0 h0) (M : Mr Z "[Ljava/lang/Object;" mr) :
    Pays l Z (⟨"java/util/ArrayList", "toArray", "()[Ljava/lang/Object;"⟩ : MethodName) jdk_38_method_16_code 1 (some (.array (.object "java/lang/Object"))) ({ frames := 3, cells := 1, slots := 3, locals := 68 } : Room) #[(.ref a)] n0 h0 (QC3 Z e0 e1 e2 h0) := by
  refine Pays.of hw (plainFor_of_name pn6) (fun m => ef_rmT_3 m a) fun B C => ?_
  refine iAloadN C d20_0 rfl rfl ?_
  refine iGetF C tw24 F3 d20_1 ?_
  refine iAloadN C d20_4 rfl rfl ?_
  refine iGetF C tw61 F2 d20_5 ?_
  refine iCallS C (rmC2_3 hw EB VB I0 I1 I2 G O M) tw132 tw133 tw134 tw135 ⟨by decide, by decide⟩ (argsL := [(.ref b), (.int (3 : Int32))]) (S' := []) (lenOf pd6 rfl) rfl rfl d20_8 rfl (W := 0) rfl ⟨by decide, by decide, rfl, rfl, by decide, by decide⟩ fun v1 h1 q1 => ?_
  obtain ⟨b_1, k_1, rfl, sb_1, K1, eb_1, vb_1⟩ := q1
  have O1 := O.keep K1 all0
  have n_b_1 : n0 ≤ b_1 := Nat.le_trans (oSize O) sb_1
  show Go B n0 _ h1 1 3 11 #[(.val (.ref a))] [(.ref b_1)]
  refine iRetA C d20_11 rfl rfl rfl ⟨by decide, by decide⟩ ?_
  exact ⟨b_1, k_1, rfl, (Nat.le_trans (Nat.le_refl _) sb_1), ((Keep.refl h0 []).trans K1 all0), eb_1, vb_1⟩
theorem ef_rmRN (m : MethodId) (x0 : Addr) : entryFrame m #[(.ref x0)] 1 = mkF m 0 #[(.val (.ref x0))] [] := by first | (simp [entryFrame, mkF, argsToLocals, Value.category]; done) | rfl
set_option maxRecDepth 65536 in
set_option maxHeartbeats 4000000 in
theorem rmRN {l : Launch} {Z : State} {a0 : Array Value} (hw : ∀ d ∈ tables_1, d.before a0 Z = true) {n0 : Nat} {h0 : Heap} {ga1 ga2 ga3 ga4 ga5 ga6 ga7 : Addr} {gc1 gc2 gc4 gc6 : Cell} {mr : Addr} (e : Addr)  (G : GG Z ga1 ga2 ga3 ga4 ga5 ga6 ga7 gc1 gc2 gc4 gc6) (O : Old Z n0 h0) (M : Mr Z "[Ljava/lang/Object;" mr) :
    Pays l Z (⟨"java/util/Objects", "requireNonNull", "(Ljava/lang/Object;)Ljava/lang/Object;"⟩ : MethodName) jdk_31_method_10_code 1 (some (.object "java/lang/Object")) ({ frames := 0, cells := 0, slots := 0, locals := 0 } : Room) #[(.ref e)] n0 h0 (QP (some (.ref e)) h0) := by
  refine Pays.of hw (plainFor_of_name pn8) (fun m => ef_rmRN m e) fun B C => ?_
  refine iAloadN C d28_0 rfl rfl ?_
  refine iNonnullT C (t := 12) d28_1 ⟨by decide, by decide⟩ ?_
  refine iAloadN C d28_12 rfl rfl ?_
  refine iRetA C d28_13 rfl rfl rfl ⟨by decide, by decide⟩ ?_
  exact ⟨rfl, rfl⟩
def QL (Z : State) (a x y : Addr) (h0 : Heap) (v : Option Value) (h : Heap) : Prop := v = none ∧ Keep h0 h [a] ∧ Fld Z h a "java/util/ImmutableCollections$List12" "e0" "Ljava/lang/Object;" (.ref x) ∧ Fld Z h a "java/util/ImmutableCollections$List12" "e1" "Ljava/lang/Object;" (.ref y)
theorem ef_rmL_1 (m : MethodId) (x0 : Addr) (x1 : Addr) : entryFrame m #[(.ref x0), (.ref x1)] 2 = mkF m 0 #[(.val (.ref x0)), (.val (.ref x1))] [] := by first | (simp [entryFrame, mkF, argsToLocals, Value.category]; done) | rfl
set_option maxRecDepth 65536 in
set_option maxHeartbeats 4000000 in
theorem rmL_1 {l : Launch} {Z : State} {a0 : Array Value} (hw : ∀ d ∈ tables_1, d.before a0 Z = true) {n0 : Nat} {h0 : Heap} {ga1 ga2 ga3 ga4 ga5 ga6 ga7 : Addr} {gc1 gc2 gc4 gc6 : Cell} {mr : Addr}  (x : Addr) (a : Addr) (EA : Exa Z h0 a "java/util/ImmutableCollections$List12") (F1 : Fld Z h0 a "java/util/ImmutableCollections$List12" "e0" "Ljava/lang/Object;" .null) (F2 : Fld Z h0 a "java/util/ImmutableCollections$List12" "e1" "Ljava/lang/Object;" .null) (na : n0 ≤ a) (G : GG Z ga1 ga2 ga3 ga4 ga5 ga6 ga7 gc1 gc2 gc4 gc6) (O : Old Z n0 h0) (M : Mr Z "[Ljava/lang/Object;" mr) :
    Pays l Z (⟨"java/util/ImmutableCollections$List12", "<init>", "(Ljava/lang/Object;)V"⟩ : MethodName) jdk_44_method_1_code 2 none ({ frames := 4, cells := 0, slots := 0, locals := 48 } : Room) #[(.ref a), (.ref x)] n0 h0 (QL Z a x ga7 h0) := by
  refine Pays.of hw (plainFor_of_name pn9) (fun m => ef_rmL_1 m a x) fun B C => ?_
  refine iAloadN C d31_0 rfl rfl ?_
  refine iCallI C (rmAIL hw a G O M) rfl tw164 tw165 tw168 tw169 ⟨by decide, by decide⟩ (a := a) (argsL := []) (S' := []) (lenOf pd0 rfl) rfl rfl d31_1 rfl (W := 0) rfl ⟨by decide, by decide, rfl, rfl, by decide, by decide⟩ fun v1 h1 q1 => ?_
  obtain ⟨rfl, rfl⟩ := q1
  show Go B n0 _ h0 0 0 4 #[(.val (.ref a)), (.val (.ref x))] []
  refine iAloadN C d31_4 rfl rfl ?_
  refine iAloadN C d31_5 rfl rfl ?_
  refine iCallS C (rmRN hw x G O M) tw178 tw179 tw180 tw181 ⟨by decide, by decide⟩ (argsL := [(.ref x)]) (S' := [(.ref a)]) (lenOf pd7 rfl) rfl rfl d31_6 rfl (W := 1) rfl ⟨by decide, by decide, rfl, rfl, by decide, by decide⟩ fun v2 h2 q2 => ?_
  obtain ⟨rfl, rfl⟩ := q2
  show Go B n0 _ h0 0 0 9 #[(.val (.ref a)), (.val (.ref x))] [(.ref x), (.ref a)]
  refine iPutF C (v := (.ref x)) tw182 F1 EA (Or.inr ⟨tw183, rfl, rfl⟩) tw158 (ty := (.object "java/lang/Object")) (by decide) rfl rfl na d31_9 fun h3 W3 => ?_
  have Fw3 := Fld.same W3 F1
  have O3 := O.wr W3 na
  refine iAloadN C d31_12 rfl rfl ?_
  refine iGetSN C tw204 (G.2.2.2.2.2.2.2.2.2.2.2.2.2.2.2.2.1.ext O3.2) d31_13 ?_
  refine iPutF C (v := (.ref ga7)) tw184 (Fld.other W3 F2 (Or.inr (slot_ne (Or.inr (hw _ tw185)) (Or.inr (hw _ tw183)) (by decide) (t := (.object "java/lang/Object")) (t' := (.object "java/lang/Object")) (by decide) (by decide)))) (EA.wr W3) (Or.inr ⟨tw185, rfl, rfl⟩) tw158 (ty := (.object "java/lang/Object")) (by decide) rfl rfl na d31_16 fun h4 W4 => ?_
  have Fw4 := Fld.same W4 (Fld.other W3 F2 (Or.inr (slot_ne (Or.inr (hw _ tw185)) (Or.inr (hw _ tw183)) (by decide) (t := (.object "java/lang/Object")) (t' := (.object "java/lang/Object")) (by decide) (by decide))))
  have O4 := O3.wr W4 na
  refine iRetV C d31_19 ⟨by decide, by decide⟩ ?_
  exact ⟨rfl, (((Keep.refl h0 [a]).wr W3 (Or.inl (by simp))).wr W4 (Or.inl (by simp))), (Fld.other W4 Fw3 (Or.inr (slot_ne (Or.inr (hw _ tw183)) (Or.inr (hw _ tw185)) (by decide) (t := (.object "java/lang/Object")) (t' := (.object "java/lang/Object")) (by decide) (by decide)))), Fw4⟩
theorem ef_rmL_2 (m : MethodId) (x0 : Addr) (x1 : Addr) (x2 : Addr) : entryFrame m #[(.ref x0), (.ref x1), (.ref x2)] 3 = mkF m 0 #[(.val (.ref x0)), (.val (.ref x1)), (.val (.ref x2))] [] := by first | (simp [entryFrame, mkF, argsToLocals, Value.category]; done) | rfl
set_option maxRecDepth 65536 in
set_option maxHeartbeats 4000000 in
theorem rmL_2 {l : Launch} {Z : State} {a0 : Array Value} (hw : ∀ d ∈ tables_1, d.before a0 Z = true) {n0 : Nat} {h0 : Heap} {ga1 ga2 ga3 ga4 ga5 ga6 ga7 : Addr} {gc1 gc2 gc4 gc6 : Cell} {mr : Addr}  (x y : Addr) (a : Addr) (EA : Exa Z h0 a "java/util/ImmutableCollections$List12") (F1 : Fld Z h0 a "java/util/ImmutableCollections$List12" "e0" "Ljava/lang/Object;" .null) (F2 : Fld Z h0 a "java/util/ImmutableCollections$List12" "e1" "Ljava/lang/Object;" .null) (na : n0 ≤ a) (G : GG Z ga1 ga2 ga3 ga4 ga5 ga6 ga7 gc1 gc2 gc4 gc6) (O : Old Z n0 h0) (M : Mr Z "[Ljava/lang/Object;" mr) :
    Pays l Z (⟨"java/util/ImmutableCollections$List12", "<init>", "(Ljava/lang/Object;Ljava/lang/Object;)V"⟩ : MethodName) jdk_44_method_2_code 3 none ({ frames := 4, cells := 0, slots := 0, locals := 48 } : Room) #[(.ref a), (.ref x), (.ref y)] n0 h0 (QL Z a x y h0) := by
  refine Pays.of hw (plainFor_of_name pn9) (fun m => ef_rmL_2 m a x y) fun B C => ?_
  refine iAloadN C d25_0 rfl rfl ?_
  refine iCallI C (rmAIL hw a G O M) rfl tw164 tw165 tw168 tw169 ⟨by decide, by decide⟩ (a := a) (argsL := []) (S' := []) (lenOf pd0 rfl) rfl rfl d25_1 rfl (W := 0) rfl ⟨by decide, by decide, rfl, rfl, by decide, by decide⟩ fun v1 h1 q1 => ?_
  obtain ⟨rfl, rfl⟩ := q1
  show Go B n0 _ h0 0 0 4 #[(.val (.ref a)), (.val (.ref x)), (.val (.ref y))] []
  refine iAloadN C d25_4 rfl rfl ?_
  refine iAloadN C d25_5 rfl rfl ?_
  refine iCallS C (rmRN hw x G O M) tw178 tw179 tw180 tw181 ⟨by decide, by decide⟩ (argsL := [(.ref x)]) (S' := [(.ref a)]) (lenOf pd7 rfl) rfl rfl d25_6 rfl (W := 1) rfl ⟨by decide, by decide, rfl, rfl, by decide, by decide⟩ fun v2 h2 q2 => ?_
  obtain ⟨rfl, rfl⟩ := q2
  show Go B n0 _ h0 0 0 9 #[(.val (.ref a)), (.val (.ref x)), (.val (.ref y))] [(.ref x), (.ref a)]
  refine iPutF C (v := (.ref x)) tw182 F1 EA (Or.inr ⟨tw183, rfl, rfl⟩) tw158 (ty := (.object "java/lang/Object")) (by decide) rfl rfl na d25_9 fun h3 W3 => ?_
  have Fw3 := Fld.same W3 F1
  have O3 := O.wr W3 na
  refine iAloadN C d25_12 rfl rfl ?_
  refine iAloadN C d25_13 rfl rfl ?_
  refine iCallS C (rmRN hw y G O3 M) tw178 tw179 tw180 tw181 ⟨by decide, by decide⟩ (argsL := [(.ref y)]) (S' := [(.ref a)]) (lenOf pd7 rfl) rfl rfl d25_14 rfl (W := 1) rfl ⟨by decide, by decide, rfl, rfl, by decide, by decide⟩ fun v4 h4 q4 => ?_
  obtain ⟨rfl, rfl⟩ := q4
  show Go B n0 _ h3 0 0 17 #[(.val (.ref a)), (.val (.ref x)), (.val (.ref y))] [(.ref y), (.ref a)]
  refine iPutF C (v := (.ref y)) tw184 (Fld.other W3 F2 (Or.inr (slot_ne (Or.inr (hw _ tw185)) (Or.inr (hw _ tw183)) (by decide) (t := (.object "java/lang/Object")) (t' := (.object "java/lang/Object")) (by decide) (by decide)))) (EA.wr W3) (Or.inr ⟨tw185, rfl, rfl⟩) tw158 (ty := (.object "java/lang/Object")) (by decide) rfl rfl na d25_17 fun h5 W5 => ?_
  have Fw5 := Fld.same W5 (Fld.other W3 F2 (Or.inr (slot_ne (Or.inr (hw _ tw185)) (Or.inr (hw _ tw183)) (by decide) (t := (.object "java/lang/Object")) (t' := (.object "java/lang/Object")) (by decide) (by decide))))
  have O5 := O3.wr W5 na
  refine iRetV C d25_20 ⟨by decide, by decide⟩ ?_
  exact ⟨rfl, (((Keep.refl h0 [a]).wr W3 (Or.inl (by simp))).wr W5 (Or.inl (by simp))), (Fld.other W5 Fw3 (Or.inr (slot_ne (Or.inr (hw _ tw183)) (Or.inr (hw _ tw185)) (by decide) (t := (.object "java/lang/Object")) (t' := (.object "java/lang/Object")) (by decide) (by decide)))), Fw5⟩
def QN (Z : State) (a x : Addr) (h0 : Heap) (v : Option Value) (h : Heap) : Prop := v = none ∧ Keep h0 h [a] ∧ Fld Z h a "java/util/ImmutableCollections$ListN" "elements" "[Ljava/lang/Object;" (.ref x)
theorem ef_rmN (m : MethodId) (x0 : Addr) (x1 : Addr) : entryFrame m #[(.ref x0), (.ref x1), (.int (0 : Int32))] 3 = mkF m 0 #[(.val (.ref x0)), (.val (.ref x1)), (.val (.int (0 : Int32)))] [] := by first | (simp [entryFrame, mkF, argsToLocals, Value.category]; done) | rfl
set_option maxRecDepth 65536 in
set_option maxHeartbeats 4000000 in
theorem rmN {l : Launch} {Z : State} {a0 : Array Value} (hw : ∀ d ∈ tables_1, d.before a0 Z = true) {n0 : Nat} {h0 : Heap} {ga1 ga2 ga3 ga4 ga5 ga6 ga7 : Addr} {gc1 gc2 gc4 gc6 : Cell} {mr : Addr}  (x a : Addr) (EA : Exa Z h0 a "java/util/ImmutableCollections$ListN") (F1 : Fld Z h0 a "java/util/ImmutableCollections$ListN" "elements" "[Ljava/lang/Object;" .null) (F2 : Fld Z h0 a "java/util/ImmutableCollections$ListN" "allowNulls" "Z" (.int 0)) (na : n0 ≤ a) (G : GG Z ga1 ga2 ga3 ga4 ga5 ga6 ga7 gc1 gc2 gc4 gc6) (O : Old Z n0 h0) (M : Mr Z "[Ljava/lang/Object;" mr) :
    Pays l Z (⟨"java/util/ImmutableCollections$ListN", "<init>", "([Ljava/lang/Object;Z)V"⟩ : MethodName) jdk_45_method_1_code 3 none ({ frames := 4, cells := 0, slots := 0, locals := 48 } : Room) #[(.ref a), (.ref x), (.int (0 : Int32))] n0 h0 (QN Z a x h0) := by
  refine Pays.of hw (plainFor_of_name pn10) (fun m => ef_rmN m a x) fun B C => ?_
  refine iAloadN C d39_0 rfl rfl ?_
  refine iCallI C (rmAIL hw a G O M) rfl tw255 tw165 tw168 tw169 ⟨by decide, by decide⟩ (a := a) (argsL := []) (S' := []) (lenOf pd0 rfl) rfl rfl d39_1 rfl (W := 0) rfl ⟨by decide, by decide, rfl, rfl, by decide, by decide⟩ fun v1 h1 q1 => ?_
  obtain ⟨rfl, rfl⟩ := q1
  show Go B n0 _ h0 0 0 4 #[(.val (.ref a)), (.val (.ref x)), (.val (.int (0 : Int32)))] []
  refine iAloadN C d39_4 rfl rfl ?_
  refine iAloadN C d39_5 rfl rfl ?_
  refine iPutF C (v := (.ref x)) tw259 F1 EA (Or.inr ⟨tw260, rfl, rfl⟩) tw249 (ty := (.array (.object "java/lang/Object"))) (by decide) rfl rfl na d39_6 fun h2 W2 => ?_
  have Fw2 := Fld.same W2 F1
  have O2 := O.wr W2 na
  refine iAloadN C d39_9 rfl rfl ?_
  refine iIloadN C d39_10 rfl ?_
  refine iPutF C (v := (.int (0 : Int32))) tw261 (Fld.other W2 F2 (Or.inr (slot_ne (Or.inr (hw _ tw262)) (Or.inr (hw _ tw260)) (by decide) (t := .boolean) (t' := (.array (.object "java/lang/Object"))) (by decide) (by decide)))) (EA.wr W2) (Or.inr ⟨tw262, rfl, rfl⟩) tw249 (ty := .boolean) (by decide) rfl rfl na d39_11 fun h3 W3 => ?_
  have Fw3 := Fld.same W3 (Fld.other W2 F2 (Or.inr (slot_ne (Or.inr (hw _ tw262)) (Or.inr (hw _ tw260)) (by decide) (t := .boolean) (t' := (.array (.object "java/lang/Object"))) (by decide) (by decide))))
  have O3 := O2.wr W3 na
  refine iRetV C d39_14 ⟨by decide, by decide⟩ ?_
  exact ⟨rfl, (((Keep.refl h0 [a]).wr W2 (Or.inl (by simp))).wr W3 (Or.inl (by simp))), (Fld.other W3 Fw2 (Or.inr (slot_ne (Or.inr (hw _ tw260)) (Or.inr (hw _ tw262)) (by decide) (t := (.array (.object "java/lang/Object"))) (t' := .boolean) (by decide) (by decide))))⟩
def LS1 (Z : State) (L e0 ga7 : Addr) (h : Heap) : Prop := Exa Z h L "java/util/ImmutableCollections$List12" ∧ Fld Z h L "java/util/ImmutableCollections$List12" "e0" "Ljava/lang/Object;" (.ref e0) ∧ Fld Z h L "java/util/ImmutableCollections$List12" "e1" "Ljava/lang/Object;" (.ref ga7)
def QS1 (Z : State) (e0 ga7 : Addr) (h0 : Heap) (v : Option Value) (h : Heap) : Prop := ∃ L : Addr, v = some (.ref L) ∧ h0.size ≤ L ∧ Keep h0 h [] ∧ LS1 Z L e0 ga7 h
def LS2 (Z : State) (L e0 e1 : Addr) (h : Heap) : Prop := Exa Z h L "java/util/ImmutableCollections$List12" ∧ Fld Z h L "java/util/ImmutableCollections$List12" "e0" "Ljava/lang/Object;" (.ref e0) ∧ Fld Z h L "java/util/ImmutableCollections$List12" "e1" "Ljava/lang/Object;" (.ref e1)
def QS2 (Z : State) (e0 e1 : Addr) (h0 : Heap) (v : Option Value) (h : Heap) : Prop := ∃ L : Addr, v = some (.ref L) ∧ h0.size ≤ L ∧ Keep h0 h [] ∧ LS2 Z L e0 e1 h
def LS3 (Z : State) (L e0 e1 e2 : Addr) (h : Heap) : Prop := Exa Z h L "java/util/ImmutableCollections$ListN" ∧ ∃ (x : Addr) (k : ClassId), Fld Z h L "java/util/ImmutableCollections$ListN" "elements" "[Ljava/lang/Object;" (.ref x) ∧ Exa Z h x "[Ljava/lang/Object;" ∧ Arv Z h x k (.object "java/lang/Object") 3 [(.ref e0), (.ref e1), (.ref e2)] .null
def QS3 (Z : State) (e0 e1 e2 : Addr) (h0 : Heap) (v : Option Value) (h : Heap) : Prop := ∃ L : Addr, v = some (.ref L) ∧ h0.size ≤ L ∧ Keep h0 h [] ∧ LS3 Z L e0 e1 e2 h
theorem ef_rmF (m : MethodId) (x0 : Addr) : entryFrame m #[(.ref x0)] 3 = mkF m 0 #[(.val (.ref x0)), .unset, .unset] [] := by first | (simp [entryFrame, mkF, argsToLocals, Value.category]; done) | rfl
set_option maxRecDepth 65536 in
set_option maxHeartbeats 4000000 in
theorem rmF {l : Launch} {Z : State} {a0 : Array Value} (hw : ∀ d ∈ tables_1, d.before a0 Z = true) {n0 : Nat} {h0 : Heap} {ga1 ga2 ga3 ga4 ga5 ga6 ga7 : Addr} {gc1 gc2 gc4 gc6 : Cell} {mr : Addr}  {b : Addr} {k : ClassId} {e0 e1 e2 : Addr} (EB : Exa Z h0 b "[Ljava/lang/Object;") (VB : Arv Z h0 b k (.object "java/lang/Object") (3 : Int32) [(.ref e0), (.ref e1), (.ref e2)] .null) (I0 : Ins Z h0 e0 "java/lang/Object" true) (I1 : Ins Z h0 e1 "java/lang/Object" true) (I2 : Ins Z h0 e2 "java/lang/Object" true) (G : GG Z ga1 ga2 ga3 ga4 ga5 ga6 ga7 gc1 gc2 gc4 gc6) (O : Old Z n0 h0) (M : Mr Z "[Ljava/lang/Object;" mr) :
    Pays l Z (⟨"java/util/ImmutableCollections", "listFromArray", "([Ljava/lang/Object;)Ljava/util/List;"⟩ : MethodName) jdk_56_method_4_code 3 (some (.object "java/util/List")) ({ frames := 5, cells := 2, slots := 5, locals := 63 } : Room) #[(.ref b)] n0 h0 (QS3 Z e0 e1 e2 h0) := by
  refine Pays.of hw (plainFor_of_name pn11) (fun m => ef_rmF m b) fun B C => ?_
  refine iAloadN C d38_0 rfl rfl ?_
  obtain ⟨c1, A1, q1, z1, y1, H1, G1⟩ := id VB
  refine iLen C A1 (len_of z1 y1) d38_1 ?_
  refine iNewR C tw247 tw122 (ad := "[Ljava/lang/Object;") (by decide) d38_2 (by decide) (cap := 3) (by decide) (by decide) ⟨rfl, rfl, by decide, by decide⟩ fun h2 a2 k2 g2 E2 V2 A2 Ov2 => ?_
  have n_a2 : n0 ≤ a2 := oFresh O g2
  have O2 := O.ext E2
  have V2 : Arv Z h2 a2 k2 (.object "java/lang/Object") (3 : Int32) [.null, .null, .null] .null := V2.pad (pad_rep [] .null 3)
  refine iAstoreN C d38_5 (Ls' := #[(.val (.ref b)), (.val (.ref a2)), .unset]) rfl rfl ?_
  refine iIconst C d38_6 (v := (0 : Int32)) (by decide) ?_
  refine iIstoreN C d38_7 (Ls' := #[(.val (.ref b)), (.val (.ref a2)), (.val (.int (0 : Int32)))]) rfl ?_
  refine iIloadN C d38_8 rfl ?_
  refine iAloadN C d38_9 rfl rfl ?_
  obtain ⟨c3, A3, q3, z3, y3, H3, G3⟩ := id (VB.ext E2)
  refine iLen C A3 (len_of z3 y3) d38_10 ?_
  refine iCmpF C d38_11 (by decide) ?_
  refine iAloadN C d38_14 rfl rfl ?_
  refine iIloadN C d38_15 rfl ?_
  refine iAloadN C d38_16 rfl rfl ?_
  refine iIloadN C d38_17 rfl ?_
  obtain ⟨c4, A4, q4, z4, y4, H4, G4⟩ := id (VB.ext E2)
  refine iAaload C (v := (.ref e0)) rfl A4 (inb_of z4 ⟨by decide, by decide⟩) (H4.at (inb_of z4 ⟨by decide, by decide⟩) (by rfl)) d38_18 ?_
  refine iCallS C (rmRN hw e0 G O2 M) tw248 tw179 tw180 tw181 ⟨by decide, by decide⟩ (argsL := [(.ref e0)]) (S' := [(.int (0 : Int32)), (.ref a2)]) (lenOf pd7 rfl) rfl rfl d38_19 rfl (W := 2) rfl ⟨by decide, by decide, rfl, rfl, by decide, by decide⟩ fun v5 h5 q5 => ?_
  obtain ⟨rfl, rfl⟩ := q5
  show Go B n0 _ h2 1 3 22 #[(.val (.ref b)), (.val (.ref a2)), (.val (.int (0 : Int32)))] [(.ref e0), (.int (0 : Int32)), (.ref a2)]
  obtain ⟨c6, A6, q6, z6, y6, H6, G6⟩ := id V2
  refine iAastore C A6 (inb_of z6 ⟨by decide, by decide⟩) rfl (Sto.ofV A6 q6 Ov2 (Ins.ext E2 I0)) n_a2 d38_22 fun h6 W6 => ?_
  have V6 : Arv Z h6 a2 k2 (.object "java/lang/Object") (3 : Int32) [(.ref e0), .null, .null] .null := Arv.set A6 q6 z6 y6 H6 G6 rfl W6 0 (by decide) (Nat.le_of_ble_eq_true rfl)
  have O6 := O2.wr W6 n_a2
  refine iIinc C d38_23 rfl (v := (1 : Int32)) (by decide) (Ls' := #[(.val (.ref b)), (.val (.ref a2)), (.val (.int (1 : Int32)))]) rfl ?_
  refine iGoto C (t := 8) d38_26 ⟨by decide, by decide⟩ ?_
  refine iIloadN C d38_8 rfl ?_
  refine iAloadN C d38_9 rfl rfl ?_
  obtain ⟨c7, A7, q7, z7, y7, H7, G7⟩ := id ((VB.ext E2).other W6 (oNe EB.lt (Nat.le_of_eq g2.symm)))
  refine iLen C A7 (len_of z7 y7) d38_10 ?_
  refine iCmpF C d38_11 (by decide) ?_
  refine iAloadN C d38_14 rfl rfl ?_
  refine iIloadN C d38_15 rfl ?_
  refine iAloadN C d38_16 rfl rfl ?_
  refine iIloadN C d38_17 rfl ?_
  obtain ⟨c8, A8, q8, z8, y8, H8, G8⟩ := id ((VB.ext E2).other W6 (oNe EB.lt (Nat.le_of_eq g2.symm)))
  refine iAaload C (v := (.ref e1)) rfl A8 (inb_of z8 ⟨by decide, by decide⟩) (H8.at (inb_of z8 ⟨by decide, by decide⟩) (by rfl)) d38_18 ?_
  refine iCallS C (rmRN hw e1 G O6 M) tw248 tw179 tw180 tw181 ⟨by decide, by decide⟩ (argsL := [(.ref e1)]) (S' := [(.int (1 : Int32)), (.ref a2)]) (lenOf pd7 rfl) rfl rfl d38_19 rfl (W := 2) rfl ⟨by decide, by decide, rfl, rfl, by decide, by decide⟩ fun v9 h9 q9 => ?_
  obtain ⟨rfl, rfl⟩ := q9
  show Go B n0 _ h6 1 3 22 #[(.val (.ref b)), (.val (.ref a2)), (.val (.int (1 : Int32)))] [(.ref e1), (.int (1 : Int32)), (.ref a2)]
  obtain ⟨c10, A10, q10, z10, y10, H10, G10⟩ := id V6
  refine iAastore C A10 (inb_of z10 ⟨by decide, by decide⟩) rfl (Sto.ofV A10 q10 Ov2 (Ins.wr W6 (Ins.ext E2 I1))) n_a2 d38_22 fun h10 W10 => ?_
  have V10 : Arv Z h10 a2 k2 (.object "java/lang/Object") (3 : Int32) [(.ref e0), (.ref e1), .null] .null := Arv.set A10 q10 z10 y10 H10 G10 rfl W10 1 (by decide) (Nat.le_of_ble_eq_true rfl)
  have O10 := O6.wr W10 n_a2
  refine iIinc C d38_23 rfl (v := (2 : Int32)) (by decide) (Ls' := #[(.val (.ref b)), (.val (.ref a2)), (.val (.int (2 : Int32)))]) rfl ?_
  refine iGoto C (t := 8) d38_26 ⟨by decide, by decide⟩ ?_
  refine iIloadN C d38_8 rfl ?_
  refine iAloadN C d38_9 rfl rfl ?_
  obtain ⟨c11, A11, q11, z11, y11, H11, G11⟩ := id (((VB.ext E2).other W6 (oNe EB.lt (Nat.le_of_eq g2.symm))).other W10 (oNe EB.lt (Nat.le_of_eq g2.symm)))
  refine iLen C A11 (len_of z11 y11) d38_10 ?_
  refine iCmpF C d38_11 (by decide) ?_
  refine iAloadN C d38_14 rfl rfl ?_
  refine iIloadN C d38_15 rfl ?_
  refine iAloadN C d38_16 rfl rfl ?_
  refine iIloadN C d38_17 rfl ?_
  obtain ⟨c12, A12, q12, z12, y12, H12, G12⟩ := id (((VB.ext E2).other W6 (oNe EB.lt (Nat.le_of_eq g2.symm))).other W10 (oNe EB.lt (Nat.le_of_eq g2.symm)))
  refine iAaload C (v := (.ref e2)) rfl A12 (inb_of z12 ⟨by decide, by decide⟩) (H12.at (inb_of z12 ⟨by decide, by decide⟩) (by rfl)) d38_18 ?_
  refine iCallS C (rmRN hw e2 G O10 M) tw248 tw179 tw180 tw181 ⟨by decide, by decide⟩ (argsL := [(.ref e2)]) (S' := [(.int (2 : Int32)), (.ref a2)]) (lenOf pd7 rfl) rfl rfl d38_19 rfl (W := 2) rfl ⟨by decide, by decide, rfl, rfl, by decide, by decide⟩ fun v13 h13 q13 => ?_
  obtain ⟨rfl, rfl⟩ := q13
  show Go B n0 _ h10 1 3 22 #[(.val (.ref b)), (.val (.ref a2)), (.val (.int (2 : Int32)))] [(.ref e2), (.int (2 : Int32)), (.ref a2)]
  obtain ⟨c14, A14, q14, z14, y14, H14, G14⟩ := id V10
  refine iAastore C A14 (inb_of z14 ⟨by decide, by decide⟩) rfl (Sto.ofV A14 q14 Ov2 (Ins.wr W10 (Ins.wr W6 (Ins.ext E2 I2)))) n_a2 d38_22 fun h14 W14 => ?_
  have V14 : Arv Z h14 a2 k2 (.object "java/lang/Object") (3 : Int32) [(.ref e0), (.ref e1), (.ref e2)] .null := Arv.set A14 q14 z14 y14 H14 G14 rfl W14 2 (by decide) (Nat.le_of_ble_eq_true rfl)
  have O14 := O10.wr W14 n_a2
  refine iIinc C d38_23 rfl (v := (3 : Int32)) (by decide) (Ls' := #[(.val (.ref b)), (.val (.ref a2)), (.val (.int (3 : Int32)))]) rfl ?_
  refine iGoto C (t := 8) d38_26 ⟨by decide, by decide⟩ ?_
  refine iIloadN C d38_8 rfl ?_
  refine iAloadN C d38_9 rfl rfl ?_
  obtain ⟨c15, A15, q15, z15, y15, H15, G15⟩ := id ((((VB.ext E2).other W6 (oNe EB.lt (Nat.le_of_eq g2.symm))).other W10 (oNe EB.lt (Nat.le_of_eq g2.symm))).other W14 (oNe EB.lt (Nat.le_of_eq g2.symm)))
  refine iLen C A15 (len_of z15 y15) d38_10 ?_
  refine iCmpT C (t := 29) d38_11 (by decide) ⟨by decide, by decide⟩ ?_
  refine iNew C tw51 tw249 tw250 d38_29 ⟨rfl, rfl, by decide, by decide⟩ fun h16 a16 g16 E16 A16 D16 => ?_
  have n_a16 : n0 ≤ a16 := oFresh O14 g16
  have O16 := O14.ext E16
  have F16_elements : Fld Z h16 a16 "java/util/ImmutableCollections$ListN" "elements" "[Ljava/lang/Object;" .null := D16 (Or.inr (hw _ tw260)) (ty := (.array (.object "java/lang/Object"))) (by decide)
  have F16_allowNulls : Fld Z h16 a16 "java/util/ImmutableCollections$ListN" "allowNulls" "Z" (.int (0 : Int32)) := D16 (Or.inr (hw _ tw262)) (ty := .boolean) (by decide)
  refine iDup C d38_32 rfl ?_
  refine iAloadN C d38_33 rfl rfl ?_
  refine iIconst C d38_34 (v := (0 : Int32)) (by decide) ?_
  refine iCallN C (rmN hw a2 a16 A16 F16_elements F16_allowNulls n_a16 G O16 M) rfl tw251 tw252 tw250 tw254 ⟨by decide, by decide⟩ (a := a16) (argsL := [(.ref a2), (.int (0 : Int32))]) (S' := [(.ref a16)]) (lenOf pd8 rfl) rfl rfl d38_35 rfl (W := 1) rfl ⟨by decide, by decide, rfl, rfl, by decide, by decide⟩ fun v17 h17 q17 => ?_
  obtain ⟨rfl, K17, f1_17⟩ := q17
  have O17 := O16.keep K17 (allS n_a16 all0)
  show Go B n0 _ h17 2 5 38 #[(.val (.ref b)), (.val (.ref a2)), (.val (.int (3 : Int32)))] [(.ref a16)]
  refine iRetA C d38_38 rfl rfl rfl ⟨by decide, by decide⟩ ?_
  exact ⟨a16, rfl, (Nat.le_trans (Nat.le_trans (Nat.le_trans (Nat.le_trans (Nat.le_trans (Nat.le_refl _) E2.1) (Nat.le_of_eq W6.size.symm)) (Nat.le_of_eq W10.size.symm)) (Nat.le_of_eq W14.size.symm)) (Nat.le_of_eq g16.symm)), (((((((Keep.refl h0 []).ext E2).wr W6 (Or.inr (Nat.le_trans (Nat.le_refl _) (Nat.le_of_eq g2.symm)))).wr W10 (Or.inr (Nat.le_trans (Nat.le_refl _) (Nat.le_of_eq g2.symm)))).wr W14 (Or.inr (Nat.le_trans (Nat.le_refl _) (Nat.le_of_eq g2.symm)))).ext E16).trans K17 (allS (Or.inr (Nat.le_trans (Nat.le_trans (Nat.le_trans (Nat.le_trans (Nat.le_trans (Nat.le_refl _) E2.1) (Nat.le_of_eq W6.size.symm)) (Nat.le_of_eq W10.size.symm)) (Nat.le_of_eq W14.size.symm)) (Nat.le_of_eq g16.symm))) all0)), (A16.keep K17), a2, k2, f1_17, (((((A2.wr W6).wr W10).wr W14).ext E16).keep K17), ((V14.ext E16).keep K17 (ninS (ne_exa (((((A2.wr W6).wr W10).wr W14).ext E16).keep K17) (A16.keep K17) (by decide)) nin0))⟩
theorem ef_rmO_1 (m : MethodId) (x0 : Addr) : entryFrame m #[(.ref x0)] 2 = mkF m 0 #[(.val (.ref x0)), .unset] [] := by first | (simp [entryFrame, mkF, argsToLocals, Value.category]; done) | rfl
set_option maxRecDepth 65536 in
set_option maxHeartbeats 4000000 in
theorem rmO_1 {l : Launch} {Z : State} {a0 : Array Value} (hw : ∀ d ∈ tables_1, d.before a0 Z = true) {n0 : Nat} {h0 : Heap} {ga1 ga2 ga3 ga4 ga5 ga6 ga7 : Addr} {gc1 gc2 gc4 gc6 : Cell} {mr : Addr}  {b : Addr} {k : ClassId} {e0 : Addr} (EB : Exa Z h0 b "[Ljava/lang/Object;") (VB : Arv Z h0 b k (.object "java/lang/Object") (1 : Int32) [(.ref e0)] .null) (I0 : Ins Z h0 e0 "java/lang/Object" true) (G : GG Z ga1 ga2 ga3 ga4 ga5 ga6 ga7 gc1 gc2 gc4 gc6) (O : Old Z n0 h0) (M : Mr Z "[Ljava/lang/Object;" mr) :
    Pays l Z (⟨"java/util/List", "of", "([Ljava/lang/Object;)Ljava/util/List;"⟩ : MethodName) jdk_40_method_47_code 2 (some (.object "java/util/List")) ({ frames := 5, cells := 1, slots := 2, locals := 62 } : Room) #[(.ref b)] n0 h0 (QS1 Z e0 ga7 h0) := by
  refine Pays.of hw (plainFor_of_name pn12) (fun m => ef_rmO_1 m b) fun B C => ?_
  refine iAloadN C d24_0 rfl rfl ?_
  obtain ⟨c1, A1, q1, z1, y1, H1, G1⟩ := id VB
  refine iLen C A1 (len_of z1 y1) d24_1 ?_
  refine iTswIn C (t := 34) d24_2 (by decide) (o := 32) (by decide) ⟨by decide, by decide⟩ ?_
  refine iNew C tw157 tw158 tw159 d24_34 ⟨rfl, rfl, by decide, by decide⟩ fun h2 a2 g2 E2 A2 D2 => ?_
  have n_a2 : n0 ≤ a2 := oFresh O g2
  have O2 := O.ext E2
  have F2_e0 : Fld Z h2 a2 "java/util/ImmutableCollections$List12" "e0" "Ljava/lang/Object;" .null := D2 (Or.inr (hw _ tw183)) (ty := (.object "java/lang/Object")) (by decide)
  have F2_e1 : Fld Z h2 a2 "java/util/ImmutableCollections$List12" "e1" "Ljava/lang/Object;" .null := D2 (Or.inr (hw _ tw185)) (ty := (.object "java/lang/Object")) (by decide)
  refine iDup C d24_37 rfl ?_
  refine iAloadN C d24_38 rfl rfl ?_
  refine iIconst C d24_39 (v := (0 : Int32)) (by decide) ?_
  obtain ⟨c3, A3, q3, z3, y3, H3, G3⟩ := id (VB.ext E2)
  refine iAaload C (v := (.ref e0)) rfl A3 (inb_of z3 ⟨by decide, by decide⟩) (H3.at (inb_of z3 ⟨by decide, by decide⟩) (by rfl)) d24_40 ?_
  refine iCallI C (rmL_1 hw e0 a2 A2 F2_e0 F2_e1 n_a2 G O2 M) rfl tw201 tw202 tw159 tw203 ⟨by decide, by decide⟩ (a := a2) (argsL := [(.ref e0)]) (S' := [(.ref a2)]) (lenOf pd9 rfl) rfl rfl d24_41 rfl (W := 1) rfl ⟨by decide, by decide, rfl, rfl, by decide, by decide⟩ fun v4 h4 q4 => ?_
  obtain ⟨rfl, K4, f1_4, f2_4⟩ := q4
  have O4 := O2.keep K4 (allS n_a2 all0)
  show Go B n0 _ h4 1 2 44 #[(.val (.ref b)), .unset] [(.ref a2)]
  refine iRetA C d24_44 rfl rfl rfl ⟨by decide, by decide⟩ ?_
  exact ⟨a2, rfl, (Nat.le_trans (Nat.le_refl _) (Nat.le_of_eq g2.symm)), (((Keep.refl h0 []).ext E2).trans K4 (allS (Or.inr (Nat.le_trans (Nat.le_refl _) (Nat.le_of_eq g2.symm))) all0)), (A2.keep K4), f1_4, f2_4⟩
theorem ef_rmO_2 (m : MethodId) (x0 : Addr) : entryFrame m #[(.ref x0)] 2 = mkF m 0 #[(.val (.ref x0)), .unset] [] := by first | (simp [entryFrame, mkF, argsToLocals, Value.category]; done) | rfl
set_option maxRecDepth 65536 in
set_option maxHeartbeats 4000000 in
theorem rmO_2 {l : Launch} {Z : State} {a0 : Array Value} (hw : ∀ d ∈ tables_1, d.before a0 Z = true) {n0 : Nat} {h0 : Heap} {ga1 ga2 ga3 ga4 ga5 ga6 ga7 : Addr} {gc1 gc2 gc4 gc6 : Cell} {mr : Addr}  {b : Addr} {k : ClassId} {e0 e1 : Addr} (EB : Exa Z h0 b "[Ljava/lang/Object;") (VB : Arv Z h0 b k (.object "java/lang/Object") (2 : Int32) [(.ref e0), (.ref e1)] .null) (I0 : Ins Z h0 e0 "java/lang/Object" true) (I1 : Ins Z h0 e1 "java/lang/Object" true) (G : GG Z ga1 ga2 ga3 ga4 ga5 ga6 ga7 gc1 gc2 gc4 gc6) (O : Old Z n0 h0) (M : Mr Z "[Ljava/lang/Object;" mr) :
    Pays l Z (⟨"java/util/List", "of", "([Ljava/lang/Object;)Ljava/util/List;"⟩ : MethodName) jdk_40_method_47_code 2 (some (.object "java/util/List")) ({ frames := 5, cells := 1, slots := 2, locals := 63 } : Room) #[(.ref b)] n0 h0 (QS2 Z e0 e1 h0) := by
  refine Pays.of hw (plainFor_of_name pn12) (fun m => ef_rmO_2 m b) fun B C => ?_
  refine iAloadN C d24_0 rfl rfl ?_
  obtain ⟨c1, A1, q1, z1, y1, H1, G1⟩ := id VB
  refine iLen C A1 (len_of z1 y1) d24_1 ?_
  refine iTswIn C (t := 45) d24_2 (by decide) (o := 43) (by decide) ⟨by decide, by decide⟩ ?_
  refine iNew C tw157 tw158 tw159 d24_45 ⟨rfl, rfl, by decide, by decide⟩ fun h2 a2 g2 E2 A2 D2 => ?_
  have n_a2 : n0 ≤ a2 := oFresh O g2
  have O2 := O.ext E2
  have F2_e0 : Fld Z h2 a2 "java/util/ImmutableCollections$List12" "e0" "Ljava/lang/Object;" .null := D2 (Or.inr (hw _ tw183)) (ty := (.object "java/lang/Object")) (by decide)
  have F2_e1 : Fld Z h2 a2 "java/util/ImmutableCollections$List12" "e1" "Ljava/lang/Object;" .null := D2 (Or.inr (hw _ tw185)) (ty := (.object "java/lang/Object")) (by decide)
  refine iDup C d24_48 rfl ?_
  refine iAloadN C d24_49 rfl rfl ?_
  refine iIconst C d24_50 (v := (0 : Int32)) (by decide) ?_
  obtain ⟨c3, A3, q3, z3, y3, H3, G3⟩ := id (VB.ext E2)
  refine iAaload C (v := (.ref e0)) rfl A3 (inb_of z3 ⟨by decide, by decide⟩) (H3.at (inb_of z3 ⟨by decide, by decide⟩) (by rfl)) d24_51 ?_
  refine iAloadN C d24_52 rfl rfl ?_
  refine iIconst C d24_53 (v := (1 : Int32)) (by decide) ?_
  obtain ⟨c4, A4, q4, z4, y4, H4, G4⟩ := id (VB.ext E2)
  refine iAaload C (v := (.ref e1)) rfl A4 (inb_of z4 ⟨by decide, by decide⟩) (H4.at (inb_of z4 ⟨by decide, by decide⟩) (by rfl)) d24_54 ?_
  refine iCallI C (rmL_2 hw e0 e1 a2 A2 F2_e0 F2_e1 n_a2 G O2 M) rfl tw160 tw161 tw159 tw163 ⟨by decide, by decide⟩ (a := a2) (argsL := [(.ref e0), (.ref e1)]) (S' := [(.ref a2)]) (lenOf pd10 rfl) rfl rfl d24_55 rfl (W := 1) rfl ⟨by decide, by decide, rfl, rfl, by decide, by decide⟩ fun v5 h5 q5 => ?_
  obtain ⟨rfl, K5, f1_5, f2_5⟩ := q5
  have O5 := O2.keep K5 (allS n_a2 all0)
  show Go B n0 _ h5 1 2 58 #[(.val (.ref b)), .unset] [(.ref a2)]
  refine iRetA C d24_58 rfl rfl rfl ⟨by decide, by decide⟩ ?_
  exact ⟨a2, rfl, (Nat.le_trans (Nat.le_refl _) (Nat.le_of_eq g2.symm)), (((Keep.refl h0 []).ext E2).trans K5 (allS (Or.inr (Nat.le_trans (Nat.le_refl _) (Nat.le_of_eq g2.symm))) all0)), (A2.keep K5), f1_5, f2_5⟩
theorem ef_rmO_3 (m : MethodId) (x0 : Addr) : entryFrame m #[(.ref x0)] 2 = mkF m 0 #[(.val (.ref x0)), .unset] [] := by first | (simp [entryFrame, mkF, argsToLocals, Value.category]; done) | rfl
set_option maxRecDepth 65536 in
set_option maxHeartbeats 4000000 in
theorem rmO_3 {l : Launch} {Z : State} {a0 : Array Value} (hw : ∀ d ∈ tables_1, d.before a0 Z = true) {n0 : Nat} {h0 : Heap} {ga1 ga2 ga3 ga4 ga5 ga6 ga7 : Addr} {gc1 gc2 gc4 gc6 : Cell} {mr : Addr}  {b : Addr} {k : ClassId} {e0 e1 e2 : Addr} (EB : Exa Z h0 b "[Ljava/lang/Object;") (VB : Arv Z h0 b k (.object "java/lang/Object") (3 : Int32) [(.ref e0), (.ref e1), (.ref e2)] .null) (I0 : Ins Z h0 e0 "java/lang/Object" true) (I1 : Ins Z h0 e1 "java/lang/Object" true) (I2 : Ins Z h0 e2 "java/lang/Object" true) (G : GG Z ga1 ga2 ga3 ga4 ga5 ga6 ga7 gc1 gc2 gc4 gc6) (O : Old Z n0 h0) (M : Mr Z "[Ljava/lang/Object;" mr) :
    Pays l Z (⟨"java/util/List", "of", "([Ljava/lang/Object;)Ljava/util/List;"⟩ : MethodName) jdk_40_method_47_code 2 (some (.object "java/util/List")) ({ frames := 6, cells := 2, slots := 5, locals := 77 } : Room) #[(.ref b)] n0 h0 (QS3 Z e0 e1 e2 h0) := by
  refine Pays.of hw (plainFor_of_name pn12) (fun m => ef_rmO_3 m b) fun B C => ?_
  refine iAloadN C d24_0 rfl rfl ?_
  obtain ⟨c1, A1, q1, z1, y1, H1, G1⟩ := id VB
  refine iLen C A1 (len_of z1 y1) d24_1 ?_
  refine iTswOut C (t := 59) d24_2 (by decide) ⟨by decide, by decide⟩ ?_
  refine iAloadN C d24_59 rfl rfl ?_
  refine iCallS C (rmF hw EB VB I0 I1 I2 G O M) tw244 tw245 tw44 tw246 ⟨by decide, by decide⟩ (argsL := [(.ref b)]) (S' := []) (lenOf pd11 rfl) rfl rfl d24_60 rfl (W := 0) rfl ⟨by decide, by decide, rfl, rfl, by decide, by decide⟩ fun v2 h2 q2 => ?_
  obtain ⟨L_2, rfl, sL_2, K2, le_2, lx_2, lk_2, l0_2, lxe_2, lv_2⟩ := q2
  have O2 := O.keep K2 all0
  have n_L_2 : n0 ≤ L_2 := Nat.le_trans (oSize O) sL_2
  show Go B n0 _ h2 2 5 63 #[(.val (.ref b)), .unset] [(.ref L_2)]
  refine iRetA C d24_63 rfl rfl rfl ⟨by decide, by decide⟩ ?_
  exact ⟨L_2, rfl, (Nat.le_trans (Nat.le_refl _) sL_2), ((Keep.refl h0 []).trans K2 all0), le_2, lx_2, lk_2, l0_2, lxe_2, lv_2⟩
theorem ef_rmO_0 (m : MethodId)  : entryFrame m #[] 0 = mkF m 0 #[] [] := by first | (simp [entryFrame, mkF, argsToLocals, Value.category]; done) | rfl
set_option maxRecDepth 65536 in
set_option maxHeartbeats 4000000 in
theorem rmO_0 {l : Launch} {Z : State} {a0 : Array Value} (hw : ∀ d ∈ tables_1, d.before a0 Z = true) {n0 : Nat} {h0 : Heap} {ga1 ga2 ga3 ga4 ga5 ga6 ga7 : Addr} {gc1 gc2 gc4 gc6 : Cell} {mr : Addr}   (G : GG Z ga1 ga2 ga3 ga4 ga5 ga6 ga7 gc1 gc2 gc4 gc6) (O : Old Z n0 h0) (M : Mr Z "[Ljava/lang/Object;" mr) :
    Pays l Z (⟨"java/util/List", "of", "()Ljava/util/List;"⟩ : MethodName) jdk_40_method_36_code 0 (some (.object "java/util/List")) ({ frames := 0, cells := 0, slots := 0, locals := 0 } : Room) #[] n0 h0 (QP (some (.ref ga3)) h0) := by
  refine Pays.of hw (plainFor_of_name pn12) (fun m => ef_rmO_0 m ) fun B C => ?_
  refine iGetS C tw66 (G.2.2.2.2.2.2.1.ext O.2) d10_0 ?_
  refine iRetA C d10_3 rfl rfl rfl ⟨by decide, by decide⟩ ?_
  exact ⟨rfl, rfl⟩
theorem ef_rmLC_0 (m : MethodId) (x0 : Addr) : entryFrame m #[(.ref x0)] 2 = mkF m 0 #[(.val (.ref x0)), .unset] [] := by first | (simp [entryFrame, mkF, argsToLocals, Value.category]; done) | rfl
set_option maxRecDepth 65536 in
set_option maxHeartbeats 4000000 in
theorem rmLC_0 {l : Launch} {Z : State} {a0 : Array Value} (hw : ∀ d ∈ tables_1, d.before a0 Z = true) {n0 : Nat} {h0 : Heap} {ga1 ga2 ga3 ga4 ga5 ga6 ga7 : Addr} {gc1 gc2 gc4 gc6 : Cell} {mr : Addr}  (a : Addr) (EA : Exa Z h0 a "java/util/ArrayList") (F1 : Fld Z h0 a "java/util/AbstractList" "modCount" "I" (.int (0 : Int32))) (F2 : Fld Z h0 a "java/util/ArrayList" "size" "I" (.int (0 : Int32))) (F3 : Fld Z h0 a "java/util/ArrayList" "elementData" "[Ljava/lang/Object;" (.ref ga2)) (na : n0 ≤ a) (G : GG Z ga1 ga2 ga3 ga4 ga5 ga6 ga7 gc1 gc2 gc4 gc6) (O : Old Z n0 h0) (M : Mr Z "[Ljava/lang/Object;" mr) :
    Pays l Z (⟨"java/util/ImmutableCollections", "listCopy", "(Ljava/util/Collection;)Ljava/util/List;"⟩ : MethodName) jdk_56_method_3_code 2 (some (.object "java/util/List")) ({ frames := 1, cells := 0, slots := 0, locals := 12 } : Room) #[(.ref a)] n0 h0 (QP (some (.ref ga3)) h0) := by
  refine Pays.of hw (plainFor_of_name pn11) (fun m => ef_rmLC_0 m a) fun B C => ?_
  refine iAloadN C d8_0 rfl rfl ?_
  refine iInstN C tw46 EA (nsI (hw _ tw47) (hw _ tw158) (NS.step (hw _ tw47) (NS.step (hw _ tw48) (NS.step (hw _ tw49) (nsRoot (hw _ tw50) (hw _ tw158) (by decide)) (by decide)) (by decide)) (by decide)) (by decide)) d8_1 ?_
  refine iIfF C d8_4 (by decide) ?_
  refine iAloadN C d8_7 rfl rfl ?_
  refine iInstN C tw51 EA (nsI (hw _ tw47) (hw _ tw249) (NS.step (hw _ tw47) (NS.step (hw _ tw48) (NS.step (hw _ tw49) (nsRoot (hw _ tw50) (hw _ tw249) (by decide)) (by decide)) (by decide)) (by decide)) (by decide)) d8_8 ?_
  refine iIfT C (t := 31) d8_11 (by decide) ⟨by decide, by decide⟩ ?_
  refine iAloadN C d8_31 rfl rfl ?_
  refine iCallF C (rmE_0 hw a F2 G O M) EA tw52 tw53 tw54 rfl tw55 tw56 tw57 tw58 tw59 tw2 tw60 ⟨by decide, by decide⟩ (argsL := []) (S' := []) (lenOf pd12 rfl) rfl rfl d8_32 rfl (W := 0) rfl ⟨by decide, by decide, rfl, rfl, by decide, by decide⟩ fun v1 h1 q1 => ?_
  obtain ⟨rfl, rfl⟩ := q1
  show Go B n0 _ h0 0 0 37 #[(.val (.ref a)), .unset] [(.int (1 : Int32))]
  refine iIfF C d8_37 (by decide) ?_
  refine iCallS C (rmO_0 hw G O M) tw63 tw64 tw40 tw65 ⟨by decide, by decide⟩ (argsL := []) (S' := []) (lenOf pd13 rfl) rfl rfl d8_40 rfl (W := 0) rfl ⟨by decide, by decide, rfl, rfl, by decide, by decide⟩ fun v2 h2 q2 => ?_
  obtain ⟨rfl, rfl⟩ := q2
  show Go B n0 _ h0 0 0 43 #[(.val (.ref a)), .unset] [(.ref ga3)]
  refine iRetA C d8_43 rfl rfl rfl ⟨by decide, by decide⟩ ?_
  exact ⟨rfl, rfl⟩
theorem ef_rmLC_1 (m : MethodId) (x0 : Addr) : entryFrame m #[(.ref x0)] 2 = mkF m 0 #[(.val (.ref x0)), .unset] [] := by first | (simp [entryFrame, mkF, argsToLocals, Value.category]; done) | rfl
set_option maxRecDepth 65536 in
set_option maxHeartbeats 4000000 in
theorem rmLC_1 {l : Launch} {Z : State} {a0 : Array Value} (hw : ∀ d ∈ tables_1, d.before a0 Z = true) {n0 : Nat} {h0 : Heap} {ga1 ga2 ga3 ga4 ga5 ga6 ga7 : Addr} {gc1 gc2 gc4 gc6 : Cell} {mr : Addr}  {b : Addr} {k : ClassId} {e0 : Addr} (a : Addr) (EA : Exa Z h0 a "java/util/ArrayList") (F1 : Fld Z h0 a "java/util/AbstractList" "modCount" "I" (.int (1 : Int32))) (F2 : Fld Z h0 a "java/util/ArrayList" "size" "I" (.int (1 : Int32))) (F3 : Fld Z h0 a "java/util/ArrayList" "elementData" "[Ljava/lang/Object;" (.ref b)) (na : n0 ≤ a) (EB : Exa Z h0 b "[Ljava/lang/Object;") (VB : Arv Z h0 b k (.object "java/lang/Object") 10 [(.ref e0), .null, .null, .null, .null, .null, .null, .null, .null, .null] .null) (OV : Ovr Z k "java/lang/Object") (nb : n0 ≤ b) (I0 : Ins Z h0 e0 "java/lang/Object" true) (G : GG Z ga1 ga2 ga3 ga4 ga5 ga6 ga7 gc1 gc2 gc4 gc6) (O : Old Z n0 h0) (M : Mr Z "[Ljava/lang/Object;" mr) :
    Pays l Z (⟨"java/util/ImmutableCollections", "listCopy", "(Ljava/util/Collection;)Ljava/util/List;"⟩ : MethodName) jdk_56_method_3_code 2 (some (.object "java/util/List")) ({ frames := 6, cells := 2, slots := 3, locals := 80 } : Room) #[(.ref a)] n0 h0 (QS1 Z e0 ga7 h0) := by
  refine Pays.of hw (plainFor_of_name pn11) (fun m => ef_rmLC_1 m a) fun B C => ?_
  refine iAloadN C d8_0 rfl rfl ?_
  refine iInstN C tw46 EA (nsI (hw _ tw47) (hw _ tw158) (NS.step (hw _ tw47) (NS.step (hw _ tw48) (NS.step (hw _ tw49) (nsRoot (hw _ tw50) (hw _ tw158) (by decide)) (by decide)) (by decide)) (by decide)) (by decide)) d8_1 ?_
  refine iIfF C d8_4 (by decide) ?_
  refine iAloadN C d8_7 rfl rfl ?_
  refine iInstN C tw51 EA (nsI (hw _ tw47) (hw _ tw249) (NS.step (hw _ tw47) (NS.step (hw _ tw48) (NS.step (hw _ tw49) (nsRoot (hw _ tw50) (hw _ tw249) (by decide)) (by decide)) (by decide)) (by decide)) (by decide)) d8_8 ?_
  refine iIfT C (t := 31) d8_11 (by decide) ⟨by decide, by decide⟩ ?_
  refine iAloadN C d8_31 rfl rfl ?_
  refine iCallF C (rmE_1 hw a F2 G O M) EA tw52 tw53 tw54 rfl tw55 tw56 tw57 tw58 tw59 tw2 tw60 ⟨by decide, by decide⟩ (argsL := []) (S' := []) (lenOf pd12 rfl) rfl rfl d8_32 rfl (W := 0) rfl ⟨by decide, by decide, rfl, rfl, by decide, by decide⟩ fun v1 h1 q1 => ?_
  obtain ⟨rfl, rfl⟩ := q1
  show Go B n0 _ h0 0 0 37 #[(.val (.ref a)), .unset] [(.int (0 : Int32))]
  refine iIfT C (t := 44) d8_37 (by decide) ⟨by decide, by decide⟩ ?_
  refine iAloadN C d8_44 rfl rfl ?_
  refine iCallF C (rmT_1 hw a EA F1 F2 F3 na EB VB OV nb I0 G O M) EA tw124 tw125 tw126 rfl tw127 tw128 tw129 tw130 tw59 tw2 tw131 ⟨by decide, by decide⟩ (argsL := []) (S' := []) (lenOf pd3 rfl) rfl rfl d8_45 rfl (W := 0) rfl ⟨by decide, by decide, rfl, rfl, by decide, by decide⟩ fun v2 h2 q2 => ?_
  obtain ⟨b_2, k_2, rfl, sb_2, K2, eb_2, vb_2⟩ := q2
  have O2 := O.keep K2 all0
  have n_b_2 : n0 ≤ b_2 := Nat.le_trans (oSize O) sb_2
  show Go B n0 _ h2 1 1 50 #[(.val (.ref a)), .unset] [(.ref b_2)]
  refine iCallS C (rmO_1 hw eb_2 vb_2 (insKeep I0 K2) G O2 M) tw154 tw155 tw40 tw156 ⟨by decide, by decide⟩ (argsL := [(.ref b_2)]) (S' := []) (lenOf pd11 rfl) rfl rfl d8_50 rfl (W := 0) rfl ⟨by decide, by decide, rfl, rfl, by decide, by decide⟩ fun v3 h3 q3 => ?_
  obtain ⟨L_3, rfl, sL_3, K3, le_3, l0_3, l1_3⟩ := q3
  have O3 := O2.keep K3 all0
  have n_L_3 : n0 ≤ L_3 := Nat.le_trans (oSize O2) sL_3
  show Go B n0 _ h3 2 3 53 #[(.val (.ref a)), .unset] [(.ref L_3)]
  refine iRetA C d8_53 rfl rfl rfl ⟨by decide, by decide⟩ ?_
  exact ⟨L_3, rfl, (Nat.le_trans (Nat.le_trans (Nat.le_refl _) K2.1) sL_3), (((Keep.refl h0 []).trans K2 all0).trans K3 all0), le_3, l0_3, l1_3⟩
theorem ef_rmLC_2 (m : MethodId) (x0 : Addr) : entryFrame m #[(.ref x0)] 2 = mkF m 0 #[(.val (.ref x0)), .unset] [] := by first | (simp [entryFrame, mkF, argsToLocals, Value.category]; done) | rfl
set_option maxRecDepth 65536 in
set_option maxHeartbeats 4000000 in
theorem rmLC_2 {l : Launch} {Z : State} {a0 : Array Value} (hw : ∀ d ∈ tables_1, d.before a0 Z = true) {n0 : Nat} {h0 : Heap} {ga1 ga2 ga3 ga4 ga5 ga6 ga7 : Addr} {gc1 gc2 gc4 gc6 : Cell} {mr : Addr}  {b : Addr} {k : ClassId} {e0 e1 : Addr} (a : Addr) (EA : Exa Z h0 a "java/util/ArrayList") (F1 : Fld Z h0 a "java/util/AbstractList" "modCount" "I" (.int (2 : Int32))) (F2 : Fld Z h0 a "java/util/ArrayList" "size" "I" (.int (2 : Int32))) (F3 : Fld Z h0 a "java/util/ArrayList" "elementData" "[Ljava/lang/Object;" (.ref b)) (na : n0 ≤ a) (EB : Exa Z h0 b "[Ljava/lang/Object;") (VB : Arv Z h0 b k (.object "java/lang/Object") 10 [(.ref e0), (.ref e1), .null, .null, .null, .null, .null, .null, .null, .null] .null) (OV : Ovr Z k "java/lang/Object") (nb : n0 ≤ b) (I0 : Ins Z h0 e0 "java/lang/Object" true) (I1 : Ins Z h0 e1 "java/lang/Object" true) (G : GG Z ga1 ga2 ga3 ga4 ga5 ga6 ga7 gc1 gc2 gc4 gc6) (O : Old Z n0 h0) (M : Mr Z "[Ljava/lang/Object;" mr) :
    Pays l Z (⟨"java/util/ImmutableCollections", "listCopy", "(Ljava/util/Collection;)Ljava/util/List;"⟩ : MethodName) jdk_56_method_3_code 2 (some (.object "java/util/List")) ({ frames := 6, cells := 2, slots := 4, locals := 80 } : Room) #[(.ref a)] n0 h0 (QS2 Z e0 e1 h0) := by
  refine Pays.of hw (plainFor_of_name pn11) (fun m => ef_rmLC_2 m a) fun B C => ?_
  refine iAloadN C d8_0 rfl rfl ?_
  refine iInstN C tw46 EA (nsI (hw _ tw47) (hw _ tw158) (NS.step (hw _ tw47) (NS.step (hw _ tw48) (NS.step (hw _ tw49) (nsRoot (hw _ tw50) (hw _ tw158) (by decide)) (by decide)) (by decide)) (by decide)) (by decide)) d8_1 ?_
  refine iIfF C d8_4 (by decide) ?_
  refine iAloadN C d8_7 rfl rfl ?_
  refine iInstN C tw51 EA (nsI (hw _ tw47) (hw _ tw249) (NS.step (hw _ tw47) (NS.step (hw _ tw48) (NS.step (hw _ tw49) (nsRoot (hw _ tw50) (hw _ tw249) (by decide)) (by decide)) (by decide)) (by decide)) (by decide)) d8_8 ?_
  refine iIfT C (t := 31) d8_11 (by decide) ⟨by decide, by decide⟩ ?_
  refine iAloadN C d8_31 rfl rfl ?_
  refine iCallF C (rmE_2 hw a F2 G O M) EA tw52 tw53 tw54 rfl tw55 tw56 tw57 tw58 tw59 tw2 tw60 ⟨by decide, by decide⟩ (argsL := []) (S' := []) (lenOf pd12 rfl) rfl rfl d8_32 rfl (W := 0) rfl ⟨by decide, by decide, rfl, rfl, by decide, by decide⟩ fun v1 h1 q1 => ?_
  obtain ⟨rfl, rfl⟩ := q1
  show Go B n0 _ h0 0 0 37 #[(.val (.ref a)), .unset] [(.int (0 : Int32))]
  refine iIfT C (t := 44) d8_37 (by decide) ⟨by decide, by decide⟩ ?_
  refine iAloadN C d8_44 rfl rfl ?_
  refine iCallF C (rmT_2 hw a EA F1 F2 F3 na EB VB OV nb I0 I1 G O M) EA tw124 tw125 tw126 rfl tw127 tw128 tw129 tw130 tw59 tw2 tw131 ⟨by decide, by decide⟩ (argsL := []) (S' := []) (lenOf pd3 rfl) rfl rfl d8_45 rfl (W := 0) rfl ⟨by decide, by decide, rfl, rfl, by decide, by decide⟩ fun v2 h2 q2 => ?_
  obtain ⟨b_2, k_2, rfl, sb_2, K2, eb_2, vb_2⟩ := q2
  have O2 := O.keep K2 all0
  have n_b_2 : n0 ≤ b_2 := Nat.le_trans (oSize O) sb_2
  show Go B n0 _ h2 1 2 50 #[(.val (.ref a)), .unset] [(.ref b_2)]
  refine iCallS C (rmO_2 hw eb_2 vb_2 (insKeep I0 K2) (insKeep I1 K2) G O2 M) tw154 tw155 tw40 tw156 ⟨by decide, by decide⟩ (argsL := [(.ref b_2)]) (S' := []) (lenOf pd11 rfl) rfl rfl d8_50 rfl (W := 0) rfl ⟨by decide, by decide, rfl, rfl, by decide, by decide⟩ fun v3 h3 q3 => ?_
  obtain ⟨L_3, rfl, sL_3, K3, le_3, l0_3, l1_3⟩ := q3
  have O3 := O2.keep K3 all0
  have n_L_3 : n0 ≤ L_3 := Nat.le_trans (oSize O2) sL_3
  show Go B n0 _ h3 2 4 53 #[(.val (.ref a)), .unset] [(.ref L_3)]
  refine iRetA C d8_53 rfl rfl rfl ⟨by decide, by decide⟩ ?_
  exact ⟨L_3, rfl, (Nat.le_trans (Nat.le_trans (Nat.le_refl _) K2.1) sL_3), (((Keep.refl h0 []).trans K2 all0).trans K3 all0), le_3, l0_3, l1_3⟩
theorem ef_rmLC_3 (m : MethodId) (x0 : Addr) : entryFrame m #[(.ref x0)] 2 = mkF m 0 #[(.val (.ref x0)), .unset] [] := by first | (simp [entryFrame, mkF, argsToLocals, Value.category]; done) | rfl
set_option maxRecDepth 65536 in
set_option maxHeartbeats 4000000 in
theorem rmLC_3 {l : Launch} {Z : State} {a0 : Array Value} (hw : ∀ d ∈ tables_1, d.before a0 Z = true) {n0 : Nat} {h0 : Heap} {ga1 ga2 ga3 ga4 ga5 ga6 ga7 : Addr} {gc1 gc2 gc4 gc6 : Cell} {mr : Addr}  {b : Addr} {k : ClassId} {e0 e1 e2 : Addr} (a : Addr) (EA : Exa Z h0 a "java/util/ArrayList") (F1 : Fld Z h0 a "java/util/AbstractList" "modCount" "I" (.int (3 : Int32))) (F2 : Fld Z h0 a "java/util/ArrayList" "size" "I" (.int (3 : Int32))) (F3 : Fld Z h0 a "java/util/ArrayList" "elementData" "[Ljava/lang/Object;" (.ref b)) (na : n0 ≤ a) (EB : Exa Z h0 b "[Ljava/lang/Object;") (VB : Arv Z h0 b k (.object "java/lang/Object") 10 [(.ref e0), (.ref e1), (.ref e2), .null, .null, .null, .null, .null, .null, .null] .null) (OV : Ovr Z k "java/lang/Object") (nb : n0 ≤ b) (I0 : Ins Z h0 e0 "java/lang/Object" true) (I1 : Ins Z h0 e1 "java/lang/Object" true) (I2 : Ins Z h0 e2 "java/lang/Object" true) (G : GG Z ga1 ga2 ga3 ga4 ga5 ga6 ga7 gc1 gc2 gc4 gc6) (O : Old Z n0 h0) (M : Mr Z "[Ljava/lang/Object;" mr) :
    Pays l Z (⟨"java/util/ImmutableCollections", "listCopy", "(Ljava/util/Collection;)Ljava/util/List;"⟩ : MethodName) jdk_56_method_3_code 2 (some (.object "java/util/List")) ({ frames := 7, cells := 3, slots := 8, locals := 90 } : Room) #[(.ref a)] n0 h0 (QS3 Z e0 e1 e2 h0) := by
  refine Pays.of hw (plainFor_of_name pn11) (fun m => ef_rmLC_3 m a) fun B C => ?_
  refine iAloadN C d8_0 rfl rfl ?_
  refine iInstN C tw46 EA (nsI (hw _ tw47) (hw _ tw158) (NS.step (hw _ tw47) (NS.step (hw _ tw48) (NS.step (hw _ tw49) (nsRoot (hw _ tw50) (hw _ tw158) (by decide)) (by decide)) (by decide)) (by decide)) (by decide)) d8_1 ?_
  refine iIfF C d8_4 (by decide) ?_
  refine iAloadN C d8_7 rfl rfl ?_
  refine iInstN C tw51 EA (nsI (hw _ tw47) (hw _ tw249) (NS.step (hw _ tw47) (NS.step (hw _ tw48) (NS.step (hw _ tw49) (nsRoot (hw _ tw50) (hw _ tw249) (by decide)) (by decide)) (by decide)) (by decide)) (by decide)) d8_8 ?_
  refine iIfT C (t := 31) d8_11 (by decide) ⟨by decide, by decide⟩ ?_
  refine iAloadN C d8_31 rfl rfl ?_
  refine iCallF C (rmE_3 hw a F2 G O M) EA tw52 tw53 tw54 rfl tw55 tw56 tw57 tw58 tw59 tw2 tw60 ⟨by decide, by decide⟩ (argsL := []) (S' := []) (lenOf pd12 rfl) rfl rfl d8_32 rfl (W := 0) rfl ⟨by decide, by decide, rfl, rfl, by decide, by decide⟩ fun v1 h1 q1 => ?_
  obtain ⟨rfl, rfl⟩ := q1
  show Go B n0 _ h0 0 0 37 #[(.val (.ref a)), .unset] [(.int (0 : Int32))]
  refine iIfT C (t := 44) d8_37 (by decide) ⟨by decide, by decide⟩ ?_
  refine iAloadN C d8_44 rfl rfl ?_
  refine iCallF C (rmT_3 hw a EA F1 F2 F3 na EB VB OV nb I0 I1 I2 G O M) EA tw124 tw125 tw126 rfl tw127 tw128 tw129 tw130 tw59 tw2 tw131 ⟨by decide, by decide⟩ (argsL := []) (S' := []) (lenOf pd3 rfl) rfl rfl d8_45 rfl (W := 0) rfl ⟨by decide, by decide, rfl, rfl, by decide, by decide⟩ fun v2 h2 q2 => ?_
  obtain ⟨b_2, k_2, rfl, sb_2, K2, eb_2, vb_2⟩ := q2
  have O2 := O.keep K2 all0
  have n_b_2 : n0 ≤ b_2 := Nat.le_trans (oSize O) sb_2
  show Go B n0 _ h2 1 3 50 #[(.val (.ref a)), .unset] [(.ref b_2)]
  refine iCallS C (rmO_3 hw eb_2 vb_2 (insKeep I0 K2) (insKeep I1 K2) (insKeep I2 K2) G O2 M) tw154 tw155 tw40 tw156 ⟨by decide, by decide⟩ (argsL := [(.ref b_2)]) (S' := []) (lenOf pd11 rfl) rfl rfl d8_50 rfl (W := 0) rfl ⟨by decide, by decide, rfl, rfl, by decide, by decide⟩ fun v3 h3 q3 => ?_
  obtain ⟨L_3, rfl, sL_3, K3, le_3, lx_3, lk_3, l0_3, lxe_3, lv_3⟩ := q3
  have O3 := O2.keep K3 all0
  have n_L_3 : n0 ≤ L_3 := Nat.le_trans (oSize O2) sL_3
  show Go B n0 _ h3 3 8 53 #[(.val (.ref a)), .unset] [(.ref L_3)]
  refine iRetA C d8_53 rfl rfl rfl ⟨by decide, by decide⟩ ?_
  exact ⟨L_3, rfl, (Nat.le_trans (Nat.le_trans (Nat.le_refl _) K2.1) sL_3), (((Keep.refl h0 []).trans K2 all0).trans K3 all0), le_3, lx_3, lk_3, l0_3, lxe_3, lv_3⟩
theorem ef_rmCO_0 (m : MethodId) (x0 : Addr) : entryFrame m #[(.ref x0)] 1 = mkF m 0 #[(.val (.ref x0))] [] := by first | (simp [entryFrame, mkF, argsToLocals, Value.category]; done) | rfl
set_option maxRecDepth 65536 in
set_option maxHeartbeats 4000000 in
theorem rmCO_0 {l : Launch} {Z : State} {a0 : Array Value} (hw : ∀ d ∈ tables_1, d.before a0 Z = true) {n0 : Nat} {h0 : Heap} {ga1 ga2 ga3 ga4 ga5 ga6 ga7 : Addr} {gc1 gc2 gc4 gc6 : Cell} {mr : Addr}  (a : Addr) (EA : Exa Z h0 a "java/util/ArrayList") (F1 : Fld Z h0 a "java/util/AbstractList" "modCount" "I" (.int (0 : Int32))) (F2 : Fld Z h0 a "java/util/ArrayList" "size" "I" (.int (0 : Int32))) (F3 : Fld Z h0 a "java/util/ArrayList" "elementData" "[Ljava/lang/Object;" (.ref ga2)) (na : n0 ≤ a) (G : GG Z ga1 ga2 ga3 ga4 ga5 ga6 ga7 gc1 gc2 gc4 gc6) (O : Old Z n0 h0) (M : Mr Z "[Ljava/lang/Object;" mr) :
    Pays l Z (⟨"java/util/List", "copyOf", "(Ljava/util/Collection;)Ljava/util/List;"⟩ : MethodName) jdk_40_method_48_code 1 (some (.object "java/util/List")) ({ frames := 2, cells := 0, slots := 0, locals := 25 } : Room) #[(.ref a)] n0 h0 (QP (some (.ref ga3)) h0) := by
  refine Pays.of hw (plainFor_of_name pn12) (fun m => ef_rmCO_0 m a) fun B C => ?_
  refine iAloadN C d7_0 rfl rfl ?_
  refine iCallS C (rmLC_0 hw a EA F1 F2 F3 na G O M) tw42 tw43 tw44 tw45 ⟨by decide, by decide⟩ (argsL := [(.ref a)]) (S' := []) (lenOf pd14 rfl) rfl rfl d7_1 rfl (W := 0) rfl ⟨by decide, by decide, rfl, rfl, by decide, by decide⟩ fun v1 h1 q1 => ?_
  obtain ⟨rfl, rfl⟩ := q1
  show Go B n0 _ h0 0 0 4 #[(.val (.ref a))] [(.ref ga3)]
  refine iRetA C d7_4 rfl rfl rfl ⟨by decide, by decide⟩ ?_
  exact ⟨rfl, rfl⟩
theorem ef_rmCO_1 (m : MethodId) (x0 : Addr) : entryFrame m #[(.ref x0)] 1 = mkF m 0 #[(.val (.ref x0))] [] := by first | (simp [entryFrame, mkF, argsToLocals, Value.category]; done) | rfl
set_option maxRecDepth 65536 in
set_option maxHeartbeats 4000000 in
theorem rmCO_1 {l : Launch} {Z : State} {a0 : Array Value} (hw : ∀ d ∈ tables_1, d.before a0 Z = true) {n0 : Nat} {h0 : Heap} {ga1 ga2 ga3 ga4 ga5 ga6 ga7 : Addr} {gc1 gc2 gc4 gc6 : Cell} {mr : Addr}  {b : Addr} {k : ClassId} {e0 : Addr} (a : Addr) (EA : Exa Z h0 a "java/util/ArrayList") (F1 : Fld Z h0 a "java/util/AbstractList" "modCount" "I" (.int (1 : Int32))) (F2 : Fld Z h0 a "java/util/ArrayList" "size" "I" (.int (1 : Int32))) (F3 : Fld Z h0 a "java/util/ArrayList" "elementData" "[Ljava/lang/Object;" (.ref b)) (na : n0 ≤ a) (EB : Exa Z h0 b "[Ljava/lang/Object;") (VB : Arv Z h0 b k (.object "java/lang/Object") 10 [(.ref e0), .null, .null, .null, .null, .null, .null, .null, .null, .null] .null) (OV : Ovr Z k "java/lang/Object") (nb : n0 ≤ b) (I0 : Ins Z h0 e0 "java/lang/Object" true) (G : GG Z ga1 ga2 ga3 ga4 ga5 ga6 ga7 gc1 gc2 gc4 gc6) (O : Old Z n0 h0) (M : Mr Z "[Ljava/lang/Object;" mr) :
    Pays l Z (⟨"java/util/List", "copyOf", "(Ljava/util/Collection;)Ljava/util/List;"⟩ : MethodName) jdk_40_method_48_code 1 (some (.object "java/util/List")) ({ frames := 7, cells := 2, slots := 3, locals := 93 } : Room) #[(.ref a)] n0 h0 (QS1 Z e0 ga7 h0) := by
  refine Pays.of hw (plainFor_of_name pn12) (fun m => ef_rmCO_1 m a) fun B C => ?_
  refine iAloadN C d7_0 rfl rfl ?_
  refine iCallS C (rmLC_1 hw a EA F1 F2 F3 na EB VB OV nb I0 G O M) tw42 tw43 tw44 tw45 ⟨by decide, by decide⟩ (argsL := [(.ref a)]) (S' := []) (lenOf pd14 rfl) rfl rfl d7_1 rfl (W := 0) rfl ⟨by decide, by decide, rfl, rfl, by decide, by decide⟩ fun v1 h1 q1 => ?_
  obtain ⟨L_1, rfl, sL_1, K1, le_1, l0_1, l1_1⟩ := q1
  have O1 := O.keep K1 all0
  have n_L_1 : n0 ≤ L_1 := Nat.le_trans (oSize O) sL_1
  show Go B n0 _ h1 2 3 4 #[(.val (.ref a))] [(.ref L_1)]
  refine iRetA C d7_4 rfl rfl rfl ⟨by decide, by decide⟩ ?_
  exact ⟨L_1, rfl, (Nat.le_trans (Nat.le_refl _) sL_1), ((Keep.refl h0 []).trans K1 all0), le_1, l0_1, l1_1⟩
theorem ef_rmCO_2 (m : MethodId) (x0 : Addr) : entryFrame m #[(.ref x0)] 1 = mkF m 0 #[(.val (.ref x0))] [] := by first | (simp [entryFrame, mkF, argsToLocals, Value.category]; done) | rfl
set_option maxRecDepth 65536 in
set_option maxHeartbeats 4000000 in
theorem rmCO_2 {l : Launch} {Z : State} {a0 : Array Value} (hw : ∀ d ∈ tables_1, d.before a0 Z = true) {n0 : Nat} {h0 : Heap} {ga1 ga2 ga3 ga4 ga5 ga6 ga7 : Addr} {gc1 gc2 gc4 gc6 : Cell} {mr : Addr}  {b : Addr} {k : ClassId} {e0 e1 : Addr} (a : Addr) (EA : Exa Z h0 a "java/util/ArrayList") (F1 : Fld Z h0 a "java/util/AbstractList" "modCount" "I" (.int (2 : Int32))) (F2 : Fld Z h0 a "java/util/ArrayList" "size" "I" (.int (2 : Int32))) (F3 : Fld Z h0 a "java/util/ArrayList" "elementData" "[Ljava/lang/Object;" (.ref b)) (na : n0 ≤ a) (EB : Exa Z h0 b "[Ljava/lang/Object;") (VB : Arv Z h0 b k (.object "java/lang/Object") 10 [(.ref e0), (.ref e1), .null, .null, .null, .null, .null, .null, .null, .null] .null) (OV : Ovr Z k "java/lang/Object") (nb : n0 ≤ b) (I0 : Ins Z h0 e0 "java/lang/Object" true) (I1 : Ins Z h0 e1 "java/lang/Object" true) (G : GG Z ga1 ga2 ga3 ga4 ga5 ga6 ga7 gc1 gc2 gc4 gc6) (O : Old Z n0 h0) (M : Mr Z "[Ljava/lang/Object;" mr) :
    Pays l Z (⟨"java/util/List", "copyOf", "(Ljava/util/Collection;)Ljava/util/List;"⟩ : MethodName) jdk_40_method_48_code 1 (some (.object "java/util/List")) ({ frames := 7, cells := 2, slots := 4, locals := 93 } : Room) #[(.ref a)] n0 h0 (QS2 Z e0 e1 h0) := by
  refine Pays.of hw (plainFor_of_name pn12) (fun m => ef_rmCO_2 m a) fun B C => ?_
  refine iAloadN C d7_0 rfl rfl ?_
  refine iCallS C (rmLC_2 hw a EA F1 F2 F3 na EB VB OV nb I0 I1 G O M) tw42 tw43 tw44 tw45 ⟨by decide, by decide⟩ (argsL := [(.ref a)]) (S' := []) (lenOf pd14 rfl) rfl rfl d7_1 rfl (W := 0) rfl ⟨by decide, by decide, rfl, rfl, by decide, by decide⟩ fun v1 h1 q1 => ?_
  obtain ⟨L_1, rfl, sL_1, K1, le_1, l0_1, l1_1⟩ := q1
  have O1 := O.keep K1 all0
  have n_L_1 : n0 ≤ L_1 := Nat.le_trans (oSize O) sL_1
  show Go B n0 _ h1 2 4 4 #[(.val (.ref a))] [(.ref L_1)]
  refine iRetA C d7_4 rfl rfl rfl ⟨by decide, by decide⟩ ?_
  exact ⟨L_1, rfl, (Nat.le_trans (Nat.le_refl _) sL_1), ((Keep.refl h0 []).trans K1 all0), le_1, l0_1, l1_1⟩
theorem ef_rmCO_3 (m : MethodId) (x0 : Addr) : entryFrame m #[(.ref x0)] 1 = mkF m 0 #[(.val (.ref x0))] [] := by first | (simp [entryFrame, mkF, argsToLocals, Value.category]; done) | rfl
set_option maxRecDepth 65536 in
set_option maxHeartbeats 4000000 in
theorem rmCO_3 {l : Launch} {Z : State} {a0 : Array Value} (hw : ∀ d ∈ tables_1, d.before a0 Z = true) {n0 : Nat} {h0 : Heap} {ga1 ga2 ga3 ga4 ga5 ga6 ga7 : Addr} {gc1 gc2 gc4 gc6 : Cell} {mr : Addr}  {b : Addr} {k : ClassId} {e0 e1 e2 : Addr} (a : Addr) (EA : Exa Z h0 a "java/util/ArrayList") (F1 : Fld Z h0 a "java/util/AbstractList" "modCount" "I" (.int (3 : Int32))) (F2 : Fld Z h0 a "java/util/ArrayList" "size" "I" (.int (3 : Int32))) (F3 : Fld Z h0 a "java/util/ArrayList" "elementData" "[Ljava/lang/Object;" (.ref b)) (na : n0 ≤ a) (EB : Exa Z h0 b "[Ljava/lang/Object;") (VB : Arv Z h0 b k (.object "java/lang/Object") 10 [(.ref e0), (.ref e1), (.ref e2), .null, .null, .null, .null, .null, .null, .null] .null) (OV : Ovr Z k "java/lang/Object") (nb : n0 ≤ b) (I0 : Ins Z h0 e0 "java/lang/Object" true) (I1 : Ins Z h0 e1 "java/lang/Object" true) (I2 : Ins Z h0 e2 "java/lang/Object" true) (G : GG Z ga1 ga2 ga3 ga4 ga5 ga6 ga7 gc1 gc2 gc4 gc6) (O : Old Z n0 h0) (M : Mr Z "[Ljava/lang/Object;" mr) :
    Pays l Z (⟨"java/util/List", "copyOf", "(Ljava/util/Collection;)Ljava/util/List;"⟩ : MethodName) jdk_40_method_48_code 1 (some (.object "java/util/List")) ({ frames := 8, cells := 3, slots := 8, locals := 103 } : Room) #[(.ref a)] n0 h0 (QS3 Z e0 e1 e2 h0) := by
  refine Pays.of hw (plainFor_of_name pn12) (fun m => ef_rmCO_3 m a) fun B C => ?_
  refine iAloadN C d7_0 rfl rfl ?_
  refine iCallS C (rmLC_3 hw a EA F1 F2 F3 na EB VB OV nb I0 I1 I2 G O M) tw42 tw43 tw44 tw45 ⟨by decide, by decide⟩ (argsL := [(.ref a)]) (S' := []) (lenOf pd14 rfl) rfl rfl d7_1 rfl (W := 0) rfl ⟨by decide, by decide, rfl, rfl, by decide, by decide⟩ fun v1 h1 q1 => ?_
  obtain ⟨L_1, rfl, sL_1, K1, le_1, lx_1, lk_1, l0_1, lxe_1, lv_1⟩ := q1
  have O1 := O.keep K1 all0
  have n_L_1 : n0 ≤ L_1 := Nat.le_trans (oSize O) sL_1
  show Go B n0 _ h1 3 8 4 #[(.val (.ref a))] [(.ref L_1)]
  refine iRetA C d7_4 rfl rfl rfl ⟨by decide, by decide⟩ ?_
  exact ⟨L_1, rfl, (Nat.le_trans (Nat.le_refl _) sL_1), ((Keep.refl h0 []).trans K1 all0), le_1, lx_1, lk_1, l0_1, lxe_1, lv_1⟩
def QPg0 (Z : State) (p : Addr) (h0 : Heap) (v : Option Value) (h : Heap) : Prop := v = none ∧ Keep h0 h [p] ∧ Fld Z h p "com/example/uketsuke/uketsuke/core/conversation/Page" "more" "Z" (.int 0)
theorem ef_rmP_0_0 (m : MethodId) (x0 : Addr) (x1 : Addr) : entryFrame m #[(.ref x0), (.ref x1), (.int (0 : Int32))] 3 = mkF m 0 #[(.val (.ref x0)), (.val (.ref x1)), (.val (.int (0 : Int32)))] [] := by first | (simp [entryFrame, mkF, argsToLocals, Value.category]; done) | rfl
set_option maxRecDepth 65536 in
set_option maxHeartbeats 4000000 in
theorem rmP_0_0 {l : Launch} {Z : State} {a0 : Array Value} (hw : ∀ d ∈ tables_1, d.before a0 Z = true) {n0 : Nat} {h0 : Heap} {ga1 ga2 ga3 ga4 ga5 ga6 ga7 : Addr} {gc1 gc2 gc4 gc6 : Cell} {mr : Addr}  (p : Addr) (EP : Exa Z h0 p "com/example/uketsuke/uketsuke/core/conversation/Page") (P1 : Fld Z h0 p "com/example/uketsuke/uketsuke/core/conversation/Page" "items" "Ljava/util/List;" .null) (P2 : Fld Z h0 p "com/example/uketsuke/uketsuke/core/conversation/Page" "more" "Z" (.int 0)) (np : n0 ≤ p) (a : Addr) (EA : Exa Z h0 a "java/util/ArrayList") (F1 : Fld Z h0 a "java/util/AbstractList" "modCount" "I" (.int (0 : Int32))) (F2 : Fld Z h0 a "java/util/ArrayList" "size" "I" (.int (0 : Int32))) (F3 : Fld Z h0 a "java/util/ArrayList" "elementData" "[Ljava/lang/Object;" (.ref ga2)) (na : n0 ≤ a) (G : GG Z ga1 ga2 ga3 ga4 ga5 ga6 ga7 gc1 gc2 gc4 gc6) (O : Old Z n0 h0) (M : Mr Z "[Ljava/lang/Object;" mr) :
    Pays l Z (⟨"com/example/uketsuke/uketsuke/core/conversation/Page", "<init>", "(Ljava/util/List;Z)V"⟩ : MethodName) prog_28_method_1_code 3 none ({ frames := 3, cells := 0, slots := 0, locals := 37 } : Room) #[(.ref p), (.ref a), (.int (0 : Int32))] n0 h0 (QPg0 Z p h0) := by
  refine Pays.of hw (plainFor_of_name pn13) (fun m => ef_rmP_0_0 m p a) fun B C => ?_
  refine iAloadN C d5_0 rfl rfl ?_
  refine iCallI C (rmREC hw p G O M) rfl tw32 tw33 tw35 tw36 ⟨by decide, by decide⟩ (a := p) (argsL := []) (S' := []) (lenOf pd0 rfl) rfl rfl d5_1 rfl (W := 0) rfl ⟨by decide, by decide, rfl, rfl, by decide, by decide⟩ fun v1 h1 q1 => ?_
  obtain ⟨rfl, rfl⟩ := q1
  show Go B n0 _ h0 0 0 4 #[(.val (.ref p)), (.val (.ref a)), (.val (.int (0 : Int32)))] []
  refine iAloadN C d5_4 rfl rfl ?_
  refine iCallS C (rmCO_0 hw a EA F1 F2 F3 na G O M) tw38 tw39 tw40 tw41 ⟨by decide, by decide⟩ (argsL := [(.ref a)]) (S' := []) (lenOf pd14 rfl) rfl rfl d5_5 rfl (W := 0) rfl ⟨by decide, by decide, rfl, rfl, by decide, by decide⟩ fun v2 h2 q2 => ?_
  obtain ⟨rfl, rfl⟩ := q2
  show Go B n0 _ h0 0 0 8 #[(.val (.ref p)), (.val (.ref a)), (.val (.int (0 : Int32)))] [(.ref ga3)]
  refine iAstoreN C d5_8 (Ls' := #[(.val (.ref p)), (.val (.ref ga3)), (.val (.int (0 : Int32)))]) rfl rfl ?_
  refine iAloadN C d5_9 rfl rfl ?_
  refine iAloadN C d5_10 rfl rfl ?_
  refine iPutF C (v := (.ref ga3)) tw67 P1 EP (Or.inr ⟨tw68, rfl, rfl⟩) tw27 (ty := (.object "java/util/List")) (by decide) rfl rfl np d5_11 fun h3 W3 => ?_
  have Fw3 := Fld.same W3 P1
  have O3 := O.wr W3 np
  refine iAloadN C d5_14 rfl rfl ?_
  refine iIloadN C d5_15 rfl ?_
  refine iPutF C (v := (.int (0 : Int32))) tw69 (Fld.other W3 P2 (Or.inr (slot_ne (Or.inr (hw _ tw70)) (Or.inr (hw _ tw68)) (by decide) (t := .boolean) (t' := (.object "java/util/List")) (by decide) (by decide)))) (EP.wr W3) (Or.inr ⟨tw70, rfl, rfl⟩) tw27 (ty := .boolean) (by decide) rfl rfl np d5_16 fun h4 W4 => ?_
  have Fw4 := Fld.same W4 (Fld.other W3 P2 (Or.inr (slot_ne (Or.inr (hw _ tw70)) (Or.inr (hw _ tw68)) (by decide) (t := .boolean) (t' := (.object "java/util/List")) (by decide) (by decide))))
  have O4 := O3.wr W4 np
  refine iRetV C d5_19 ⟨by decide, by decide⟩ ?_
  exact ⟨rfl, (((Keep.refl h0 [p]).wr W3 (Or.inl (by simp))).wr W4 (Or.inl (by simp))), Fw4⟩
theorem ef_rmP_1_0 (m : MethodId) (x0 : Addr) (x1 : Addr) : entryFrame m #[(.ref x0), (.ref x1), (.int (0 : Int32))] 3 = mkF m 0 #[(.val (.ref x0)), (.val (.ref x1)), (.val (.int (0 : Int32)))] [] := by first | (simp [entryFrame, mkF, argsToLocals, Value.category]; done) | rfl
set_option maxRecDepth 65536 in
set_option maxHeartbeats 4000000 in
theorem rmP_1_0 {l : Launch} {Z : State} {a0 : Array Value} (hw : ∀ d ∈ tables_1, d.before a0 Z = true) {n0 : Nat} {h0 : Heap} {ga1 ga2 ga3 ga4 ga5 ga6 ga7 : Addr} {gc1 gc2 gc4 gc6 : Cell} {mr : Addr}  (p : Addr) (EP : Exa Z h0 p "com/example/uketsuke/uketsuke/core/conversation/Page") (P1 : Fld Z h0 p "com/example/uketsuke/uketsuke/core/conversation/Page" "items" "Ljava/util/List;" .null) (P2 : Fld Z h0 p "com/example/uketsuke/uketsuke/core/conversation/Page" "more" "Z" (.int 0)) (np : n0 ≤ p) {b : Addr} {k : ClassId} {e0 : Addr} (a : Addr) (EA : Exa Z h0 a "java/util/ArrayList") (F1 : Fld Z h0 a "java/util/AbstractList" "modCount" "I" (.int (1 : Int32))) (F2 : Fld Z h0 a "java/util/ArrayList" "size" "I" (.int (1 : Int32))) (F3 : Fld Z h0 a "java/util/ArrayList" "elementData" "[Ljava/lang/Object;" (.ref b)) (na : n0 ≤ a) (EB : Exa Z h0 b "[Ljava/lang/Object;") (VB : Arv Z h0 b k (.object "java/lang/Object") 10 [(.ref e0), .null, .null, .null, .null, .null, .null, .null, .null, .null] .null) (OV : Ovr Z k "java/lang/Object") (nb : n0 ≤ b) (I0 : Ins Z h0 e0 "java/lang/Object" true) (G : GG Z ga1 ga2 ga3 ga4 ga5 ga6 ga7 gc1 gc2 gc4 gc6) (O : Old Z n0 h0) (M : Mr Z "[Ljava/lang/Object;" mr) :
    Pays l Z (⟨"com/example/uketsuke/uketsuke/core/conversation/Page", "<init>", "(Ljava/util/List;Z)V"⟩ : MethodName) prog_28_method_1_code 3 none ({ frames := 8, cells := 2, slots := 3, locals := 105 } : Room) #[(.ref p), (.ref a), (.int (0 : Int32))] n0 h0 (QPg0 Z p h0) := by
  refine Pays.of hw (plainFor_of_name pn13) (fun m => ef_rmP_1_0 m p a) fun B C => ?_
  refine iAloadN C d5_0 rfl rfl ?_
  refine iCallI C (rmREC hw p G O M) rfl tw32 tw33 tw35 tw36 ⟨by decide, by decide⟩ (a := p) (argsL := []) (S' := []) (lenOf pd0 rfl) rfl rfl d5_1 rfl (W := 0) rfl ⟨by decide, by decide, rfl, rfl, by decide, by decide⟩ fun v1 h1 q1 => ?_
  obtain ⟨rfl, rfl⟩ := q1
  show Go B n0 _ h0 0 0 4 #[(.val (.ref p)), (.val (.ref a)), (.val (.int (0 : Int32)))] []
  refine iAloadN C d5_4 rfl rfl ?_
  refine iCallS C (rmCO_1 hw a EA F1 F2 F3 na EB VB OV nb I0 G O M) tw38 tw39 tw40 tw41 ⟨by decide, by decide⟩ (argsL := [(.ref a)]) (S' := []) (lenOf pd14 rfl) rfl rfl d5_5 rfl (W := 0) rfl ⟨by decide, by decide, rfl, rfl, by decide, by decide⟩ fun v2 h2 q2 => ?_
  obtain ⟨L_2, rfl, sL_2, K2, le_2, l0_2, l1_2⟩ := q2
  have O2 := O.keep K2 all0
  have n_L_2 : n0 ≤ L_2 := Nat.le_trans (oSize O) sL_2
  show Go B n0 _ h2 2 3 8 #[(.val (.ref p)), (.val (.ref a)), (.val (.int (0 : Int32)))] [(.ref L_2)]
  refine iAstoreN C d5_8 (Ls' := #[(.val (.ref p)), (.val (.ref L_2)), (.val (.int (0 : Int32)))]) rfl rfl ?_
  refine iAloadN C d5_9 rfl rfl ?_
  refine iAloadN C d5_10 rfl rfl ?_
  refine iPutF C (v := (.ref L_2)) tw67 (P1.keep K2 nin0) (EP.keep K2) (Or.inr ⟨tw68, rfl, rfl⟩) tw27 (ty := (.object "java/util/List")) (by decide) rfl rfl np d5_11 fun h3 W3 => ?_
  have Fw3 := Fld.same W3 (P1.keep K2 nin0)
  have O3 := O2.wr W3 np
  refine iAloadN C d5_14 rfl rfl ?_
  refine iIloadN C d5_15 rfl ?_
  refine iPutF C (v := (.int (0 : Int32))) tw69 (Fld.other W3 (P2.keep K2 nin0) (Or.inr (slot_ne (Or.inr (hw _ tw70)) (Or.inr (hw _ tw68)) (by decide) (t := .boolean) (t' := (.object "java/util/List")) (by decide) (by decide)))) ((EP.keep K2).wr W3) (Or.inr ⟨tw70, rfl, rfl⟩) tw27 (ty := .boolean) (by decide) rfl rfl np d5_16 fun h4 W4 => ?_
  have Fw4 := Fld.same W4 (Fld.other W3 (P2.keep K2 nin0) (Or.inr (slot_ne (Or.inr (hw _ tw70)) (Or.inr (hw _ tw68)) (by decide) (t := .boolean) (t' := (.object "java/util/List")) (by decide) (by decide))))
  have O4 := O3.wr W4 np
  refine iRetV C d5_19 ⟨by decide, by decide⟩ ?_
  exact ⟨rfl, ((((Keep.refl h0 [p]).trans K2 all0).wr W3 (Or.inl (by simp))).wr W4 (Or.inl (by simp))), Fw4⟩
def QPg1 (Z : State) (p e0 ga7 : Addr) (h0 : Heap) (v : Option Value) (h : Heap) : Prop := v = none ∧ Keep h0 h [p] ∧ Fld Z h p "com/example/uketsuke/uketsuke/core/conversation/Page" "more" "Z" (.int 1) ∧ ∃ L : Addr, h0.size ≤ L ∧ Fld Z h p "com/example/uketsuke/uketsuke/core/conversation/Page" "items" "Ljava/util/List;" (.ref L) ∧ LS1 Z L e0 ga7 h
theorem ef_rmP_1_1 (m : MethodId) (x0 : Addr) (x1 : Addr) : entryFrame m #[(.ref x0), (.ref x1), (.int (1 : Int32))] 3 = mkF m 0 #[(.val (.ref x0)), (.val (.ref x1)), (.val (.int (1 : Int32)))] [] := by first | (simp [entryFrame, mkF, argsToLocals, Value.category]; done) | rfl
set_option maxRecDepth 65536 in
set_option maxHeartbeats 4000000 in
theorem rmP_1_1 {l : Launch} {Z : State} {a0 : Array Value} (hw : ∀ d ∈ tables_1, d.before a0 Z = true) {n0 : Nat} {h0 : Heap} {ga1 ga2 ga3 ga4 ga5 ga6 ga7 : Addr} {gc1 gc2 gc4 gc6 : Cell} {mr : Addr}  (p : Addr) (EP : Exa Z h0 p "com/example/uketsuke/uketsuke/core/conversation/Page") (P1 : Fld Z h0 p "com/example/uketsuke/uketsuke/core/conversation/Page" "items" "Ljava/util/List;" .null) (P2 : Fld Z h0 p "com/example/uketsuke/uketsuke/core/conversation/Page" "more" "Z" (.int 0)) (np : n0 ≤ p) {b : Addr} {k : ClassId} {e0 : Addr} (a : Addr) (EA : Exa Z h0 a "java/util/ArrayList") (F1 : Fld Z h0 a "java/util/AbstractList" "modCount" "I" (.int (1 : Int32))) (F2 : Fld Z h0 a "java/util/ArrayList" "size" "I" (.int (1 : Int32))) (F3 : Fld Z h0 a "java/util/ArrayList" "elementData" "[Ljava/lang/Object;" (.ref b)) (na : n0 ≤ a) (EB : Exa Z h0 b "[Ljava/lang/Object;") (VB : Arv Z h0 b k (.object "java/lang/Object") 10 [(.ref e0), .null, .null, .null, .null, .null, .null, .null, .null, .null] .null) (OV : Ovr Z k "java/lang/Object") (nb : n0 ≤ b) (I0 : Ins Z h0 e0 "java/lang/Object" true) (G : GG Z ga1 ga2 ga3 ga4 ga5 ga6 ga7 gc1 gc2 gc4 gc6) (O : Old Z n0 h0) (M : Mr Z "[Ljava/lang/Object;" mr) :
    Pays l Z (⟨"com/example/uketsuke/uketsuke/core/conversation/Page", "<init>", "(Ljava/util/List;Z)V"⟩ : MethodName) prog_28_method_1_code 3 none ({ frames := 8, cells := 2, slots := 3, locals := 105 } : Room) #[(.ref p), (.ref a), (.int (1 : Int32))] n0 h0 (QPg1 Z p e0 ga7 h0) := by
  refine Pays.of hw (plainFor_of_name pn13) (fun m => ef_rmP_1_1 m p a) fun B C => ?_
  refine iAloadN C d5_0 rfl rfl ?_
  refine iCallI C (rmREC hw p G O M) rfl tw32 tw33 tw35 tw36 ⟨by decide, by decide⟩ (a := p) (argsL := []) (S' := []) (lenOf pd0 rfl) rfl rfl d5_1 rfl (W := 0) rfl ⟨by decide, by decide, rfl, rfl, by decide, by decide⟩ fun v1 h1 q1 => ?_
  obtain ⟨rfl, rfl⟩ := q1
  show Go B n0 _ h0 0 0 4 #[(.val (.ref p)), (.val (.ref a)), (.val (.int (1 : Int32)))] []
  refine iAloadN C d5_4 rfl rfl ?_
  refine iCallS C (rmCO_1 hw a EA F1 F2 F3 na EB VB OV nb I0 G O M) tw38 tw39 tw40 tw41 ⟨by decide, by decide⟩ (argsL := [(.ref a)]) (S' := []) (lenOf pd14 rfl) rfl rfl d5_5 rfl (W := 0) rfl ⟨by decide, by decide, rfl, rfl, by decide, by decide⟩ fun v2 h2 q2 => ?_
  obtain ⟨L_2, rfl, sL_2, K2, le_2, l0_2, l1_2⟩ := q2
  have O2 := O.keep K2 all0
  have n_L_2 : n0 ≤ L_2 := Nat.le_trans (oSize O) sL_2
  show Go B n0 _ h2 2 3 8 #[(.val (.ref p)), (.val (.ref a)), (.val (.int (1 : Int32)))] [(.ref L_2)]
  refine iAstoreN C d5_8 (Ls' := #[(.val (.ref p)), (.val (.ref L_2)), (.val (.int (1 : Int32)))]) rfl rfl ?_
  refine iAloadN C d5_9 rfl rfl ?_
  refine iAloadN C d5_10 rfl rfl ?_
  refine iPutF C (v := (.ref L_2)) tw67 (P1.keep K2 nin0) (EP.keep K2) (Or.inr ⟨tw68, rfl, rfl⟩) tw27 (ty := (.object "java/util/List")) (by decide) rfl rfl np d5_11 fun h3 W3 => ?_
  have Fw3 := Fld.same W3 (P1.keep K2 nin0)
  have O3 := O2.wr W3 np
  refine iAloadN C d5_14 rfl rfl ?_
  refine iIloadN C d5_15 rfl ?_
  refine iPutF C (v := (.int (1 : Int32))) tw69 (Fld.other W3 (P2.keep K2 nin0) (Or.inr (slot_ne (Or.inr (hw _ tw70)) (Or.inr (hw _ tw68)) (by decide) (t := .boolean) (t' := (.object "java/util/List")) (by decide) (by decide)))) ((EP.keep K2).wr W3) (Or.inr ⟨tw70, rfl, rfl⟩) tw27 (ty := .boolean) (by decide) rfl rfl np d5_16 fun h4 W4 => ?_
  have Fw4 := Fld.same W4 (Fld.other W3 (P2.keep K2 nin0) (Or.inr (slot_ne (Or.inr (hw _ tw70)) (Or.inr (hw _ tw68)) (by decide) (t := .boolean) (t' := (.object "java/util/List")) (by decide) (by decide))))
  have O4 := O3.wr W4 np
  refine iRetV C d5_19 ⟨by decide, by decide⟩ ?_
  exact ⟨rfl, ((((Keep.refl h0 [p]).trans K2 all0).wr W3 (Or.inl (by simp))).wr W4 (Or.inl (by simp))), Fw4, L_2, (Nat.le_trans (Nat.le_refl _) sL_2), (Fld.other W4 Fw3 (Or.inr (slot_ne (Or.inr (hw _ tw68)) (Or.inr (hw _ tw70)) (by decide) (t := (.object "java/util/List")) (t' := .boolean) (by decide) (by decide)))), ((le_2.wr W3).wr W4), ((l0_2.other W3 (Or.inl (ne_exa ((le_2.wr W3).wr W4) (((EP.keep K2).wr W3).wr W4) (by decide)))).other W4 (Or.inl (ne_exa ((le_2.wr W3).wr W4) (((EP.keep K2).wr W3).wr W4) (by decide)))), ((l1_2.other W3 (Or.inl (ne_exa ((le_2.wr W3).wr W4) (((EP.keep K2).wr W3).wr W4) (by decide)))).other W4 (Or.inl (ne_exa ((le_2.wr W3).wr W4) (((EP.keep K2).wr W3).wr W4) (by decide))))⟩
theorem ef_rmP_2_0 (m : MethodId) (x0 : Addr) (x1 : Addr) : entryFrame m #[(.ref x0), (.ref x1), (.int (0 : Int32))] 3 = mkF m 0 #[(.val (.ref x0)), (.val (.ref x1)), (.val (.int (0 : Int32)))] [] := by first | (simp [entryFrame, mkF, argsToLocals, Value.category]; done) | rfl
set_option maxRecDepth 65536 in
set_option maxHeartbeats 4000000 in
theorem rmP_2_0 {l : Launch} {Z : State} {a0 : Array Value} (hw : ∀ d ∈ tables_1, d.before a0 Z = true) {n0 : Nat} {h0 : Heap} {ga1 ga2 ga3 ga4 ga5 ga6 ga7 : Addr} {gc1 gc2 gc4 gc6 : Cell} {mr : Addr}  (p : Addr) (EP : Exa Z h0 p "com/example/uketsuke/uketsuke/core/conversation/Page") (P1 : Fld Z h0 p "com/example/uketsuke/uketsuke/core/conversation/Page" "items" "Ljava/util/List;" .null) (P2 : Fld Z h0 p "com/example/uketsuke/uketsuke/core/conversation/Page" "more" "Z" (.int 0)) (np : n0 ≤ p) {b : Addr} {k : ClassId} {e0 e1 : Addr} (a : Addr) (EA : Exa Z h0 a "java/util/ArrayList") (F1 : Fld Z h0 a "java/util/AbstractList" "modCount" "I" (.int (2 : Int32))) (F2 : Fld Z h0 a "java/util/ArrayList" "size" "I" (.int (2 : Int32))) (F3 : Fld Z h0 a "java/util/ArrayList" "elementData" "[Ljava/lang/Object;" (.ref b)) (na : n0 ≤ a) (EB : Exa Z h0 b "[Ljava/lang/Object;") (VB : Arv Z h0 b k (.object "java/lang/Object") 10 [(.ref e0), (.ref e1), .null, .null, .null, .null, .null, .null, .null, .null] .null) (OV : Ovr Z k "java/lang/Object") (nb : n0 ≤ b) (I0 : Ins Z h0 e0 "java/lang/Object" true) (I1 : Ins Z h0 e1 "java/lang/Object" true) (G : GG Z ga1 ga2 ga3 ga4 ga5 ga6 ga7 gc1 gc2 gc4 gc6) (O : Old Z n0 h0) (M : Mr Z "[Ljava/lang/Object;" mr) :
    Pays l Z (⟨"com/example/uketsuke/uketsuke/core/conversation/Page", "<init>", "(Ljava/util/List;Z)V"⟩ : MethodName) prog_28_method_1_code 3 none ({ frames := 8, cells := 2, slots := 4, locals := 105 } : Room) #[(.ref p), (.ref a), (.int (0 : Int32))] n0 h0 (QPg0 Z p h0) := by
  refine Pays.of hw (plainFor_of_name pn13) (fun m => ef_rmP_2_0 m p a) fun B C => ?_
  refine iAloadN C d5_0 rfl rfl ?_
  refine iCallI C (rmREC hw p G O M) rfl tw32 tw33 tw35 tw36 ⟨by decide, by decide⟩ (a := p) (argsL := []) (S' := []) (lenOf pd0 rfl) rfl rfl d5_1 rfl (W := 0) rfl ⟨by decide, by decide, rfl, rfl, by decide, by decide⟩ fun v1 h1 q1 => ?_
  obtain ⟨rfl, rfl⟩ := q1
  show Go B n0 _ h0 0 0 4 #[(.val (.ref p)), (.val (.ref a)), (.val (.int (0 : Int32)))] []
  refine iAloadN C d5_4 rfl rfl ?_
  refine iCallS C (rmCO_2 hw a EA F1 F2 F3 na EB VB OV nb I0 I1 G O M) tw38 tw39 tw40 tw41 ⟨by decide, by decide⟩ (argsL := [(.ref a)]) (S' := []) (lenOf pd14 rfl) rfl rfl d5_5 rfl (W := 0) rfl ⟨by decide, by decide, rfl, rfl, by decide, by decide⟩ fun v2 h2 q2 => ?_
  obtain ⟨L_2, rfl, sL_2, K2, le_2, l0_2, l1_2⟩ := q2
  have O2 := O.keep K2 all0
  have n_L_2 : n0 ≤ L_2 := Nat.le_trans (oSize O) sL_2
  show Go B n0 _ h2 2 4 8 #[(.val (.ref p)), (.val (.ref a)), (.val (.int (0 : Int32)))] [(.ref L_2)]
  refine iAstoreN C d5_8 (Ls' := #[(.val (.ref p)), (.val (.ref L_2)), (.val (.int (0 : Int32)))]) rfl rfl ?_
  refine iAloadN C d5_9 rfl rfl ?_
  refine iAloadN C d5_10 rfl rfl ?_
  refine iPutF C (v := (.ref L_2)) tw67 (P1.keep K2 nin0) (EP.keep K2) (Or.inr ⟨tw68, rfl, rfl⟩) tw27 (ty := (.object "java/util/List")) (by decide) rfl rfl np d5_11 fun h3 W3 => ?_
  have Fw3 := Fld.same W3 (P1.keep K2 nin0)
  have O3 := O2.wr W3 np
  refine iAloadN C d5_14 rfl rfl ?_
  refine iIloadN C d5_15 rfl ?_
  refine iPutF C (v := (.int (0 : Int32))) tw69 (Fld.other W3 (P2.keep K2 nin0) (Or.inr (slot_ne (Or.inr (hw _ tw70)) (Or.inr (hw _ tw68)) (by decide) (t := .boolean) (t' := (.object "java/util/List")) (by decide) (by decide)))) ((EP.keep K2).wr W3) (Or.inr ⟨tw70, rfl, rfl⟩) tw27 (ty := .boolean) (by decide) rfl rfl np d5_16 fun h4 W4 => ?_
  have Fw4 := Fld.same W4 (Fld.other W3 (P2.keep K2 nin0) (Or.inr (slot_ne (Or.inr (hw _ tw70)) (Or.inr (hw _ tw68)) (by decide) (t := .boolean) (t' := (.object "java/util/List")) (by decide) (by decide))))
  have O4 := O3.wr W4 np
  refine iRetV C d5_19 ⟨by decide, by decide⟩ ?_
  exact ⟨rfl, ((((Keep.refl h0 [p]).trans K2 all0).wr W3 (Or.inl (by simp))).wr W4 (Or.inl (by simp))), Fw4⟩
def QPg2 (Z : State) (p e0 e1 : Addr) (h0 : Heap) (v : Option Value) (h : Heap) : Prop := v = none ∧ Keep h0 h [p] ∧ Fld Z h p "com/example/uketsuke/uketsuke/core/conversation/Page" "more" "Z" (.int 1) ∧ ∃ L : Addr, h0.size ≤ L ∧ Fld Z h p "com/example/uketsuke/uketsuke/core/conversation/Page" "items" "Ljava/util/List;" (.ref L) ∧ LS2 Z L e0 e1 h
theorem ef_rmP_2_1 (m : MethodId) (x0 : Addr) (x1 : Addr) : entryFrame m #[(.ref x0), (.ref x1), (.int (1 : Int32))] 3 = mkF m 0 #[(.val (.ref x0)), (.val (.ref x1)), (.val (.int (1 : Int32)))] [] := by first | (simp [entryFrame, mkF, argsToLocals, Value.category]; done) | rfl
set_option maxRecDepth 65536 in
set_option maxHeartbeats 4000000 in
theorem rmP_2_1 {l : Launch} {Z : State} {a0 : Array Value} (hw : ∀ d ∈ tables_1, d.before a0 Z = true) {n0 : Nat} {h0 : Heap} {ga1 ga2 ga3 ga4 ga5 ga6 ga7 : Addr} {gc1 gc2 gc4 gc6 : Cell} {mr : Addr}  (p : Addr) (EP : Exa Z h0 p "com/example/uketsuke/uketsuke/core/conversation/Page") (P1 : Fld Z h0 p "com/example/uketsuke/uketsuke/core/conversation/Page" "items" "Ljava/util/List;" .null) (P2 : Fld Z h0 p "com/example/uketsuke/uketsuke/core/conversation/Page" "more" "Z" (.int 0)) (np : n0 ≤ p) {b : Addr} {k : ClassId} {e0 e1 : Addr} (a : Addr) (EA : Exa Z h0 a "java/util/ArrayList") (F1 : Fld Z h0 a "java/util/AbstractList" "modCount" "I" (.int (2 : Int32))) (F2 : Fld Z h0 a "java/util/ArrayList" "size" "I" (.int (2 : Int32))) (F3 : Fld Z h0 a "java/util/ArrayList" "elementData" "[Ljava/lang/Object;" (.ref b)) (na : n0 ≤ a) (EB : Exa Z h0 b "[Ljava/lang/Object;") (VB : Arv Z h0 b k (.object "java/lang/Object") 10 [(.ref e0), (.ref e1), .null, .null, .null, .null, .null, .null, .null, .null] .null) (OV : Ovr Z k "java/lang/Object") (nb : n0 ≤ b) (I0 : Ins Z h0 e0 "java/lang/Object" true) (I1 : Ins Z h0 e1 "java/lang/Object" true) (G : GG Z ga1 ga2 ga3 ga4 ga5 ga6 ga7 gc1 gc2 gc4 gc6) (O : Old Z n0 h0) (M : Mr Z "[Ljava/lang/Object;" mr) :
    Pays l Z (⟨"com/example/uketsuke/uketsuke/core/conversation/Page", "<init>", "(Ljava/util/List;Z)V"⟩ : MethodName) prog_28_method_1_code 3 none ({ frames := 8, cells := 2, slots := 4, locals := 105 } : Room) #[(.ref p), (.ref a), (.int (1 : Int32))] n0 h0 (QPg2 Z p e0 e1 h0) := by
  refine Pays.of hw (plainFor_of_name pn13) (fun m => ef_rmP_2_1 m p a) fun B C => ?_
  refine iAloadN C d5_0 rfl rfl ?_
  refine iCallI C (rmREC hw p G O M) rfl tw32 tw33 tw35 tw36 ⟨by decide, by decide⟩ (a := p) (argsL := []) (S' := []) (lenOf pd0 rfl) rfl rfl d5_1 rfl (W := 0) rfl ⟨by decide, by decide, rfl, rfl, by decide, by decide⟩ fun v1 h1 q1 => ?_
  obtain ⟨rfl, rfl⟩ := q1
  show Go B n0 _ h0 0 0 4 #[(.val (.ref p)), (.val (.ref a)), (.val (.int (1 : Int32)))] []
  refine iAloadN C d5_4 rfl rfl ?_
  refine iCallS C (rmCO_2 hw a EA F1 F2 F3 na EB VB OV nb I0 I1 G O M) tw38 tw39 tw40 tw41 ⟨by decide, by decide⟩ (argsL := [(.ref a)]) (S' := []) (lenOf pd14 rfl) rfl rfl d5_5 rfl (W := 0) rfl ⟨by decide, by decide, rfl, rfl, by decide, by decide⟩ fun v2 h2 q2 => ?_
  obtain ⟨L_2, rfl, sL_2, K2, le_2, l0_2, l1_2⟩ := q2
  have O2 := O.keep K2 all0
  have n_L_2 : n0 ≤ L_2 := Nat.le_trans (oSize O) sL_2
  show Go B n0 _ h2 2 4 8 #[(.val (.ref p)), (.val (.ref a)), (.val (.int (1 : Int32)))] [(.ref L_2)]
  refine iAstoreN C d5_8 (Ls' := #[(.val (.ref p)), (.val (.ref L_2)), (.val (.int (1 : Int32)))]) rfl rfl ?_
  refine iAloadN C d5_9 rfl rfl ?_
  refine iAloadN C d5_10 rfl rfl ?_
  refine iPutF C (v := (.ref L_2)) tw67 (P1.keep K2 nin0) (EP.keep K2) (Or.inr ⟨tw68, rfl, rfl⟩) tw27 (ty := (.object "java/util/List")) (by decide) rfl rfl np d5_11 fun h3 W3 => ?_
  have Fw3 := Fld.same W3 (P1.keep K2 nin0)
  have O3 := O2.wr W3 np
  refine iAloadN C d5_14 rfl rfl ?_
  refine iIloadN C d5_15 rfl ?_
  refine iPutF C (v := (.int (1 : Int32))) tw69 (Fld.other W3 (P2.keep K2 nin0) (Or.inr (slot_ne (Or.inr (hw _ tw70)) (Or.inr (hw _ tw68)) (by decide) (t := .boolean) (t' := (.object "java/util/List")) (by decide) (by decide)))) ((EP.keep K2).wr W3) (Or.inr ⟨tw70, rfl, rfl⟩) tw27 (ty := .boolean) (by decide) rfl rfl np d5_16 fun h4 W4 => ?_
  have Fw4 := Fld.same W4 (Fld.other W3 (P2.keep K2 nin0) (Or.inr (slot_ne (Or.inr (hw _ tw70)) (Or.inr (hw _ tw68)) (by decide) (t := .boolean) (t' := (.object "java/util/List")) (by decide) (by decide))))
  have O4 := O3.wr W4 np
  refine iRetV C d5_19 ⟨by decide, by decide⟩ ?_
  exact ⟨rfl, ((((Keep.refl h0 [p]).trans K2 all0).wr W3 (Or.inl (by simp))).wr W4 (Or.inl (by simp))), Fw4, L_2, (Nat.le_trans (Nat.le_refl _) sL_2), (Fld.other W4 Fw3 (Or.inr (slot_ne (Or.inr (hw _ tw68)) (Or.inr (hw _ tw70)) (by decide) (t := (.object "java/util/List")) (t' := .boolean) (by decide) (by decide)))), ((le_2.wr W3).wr W4), ((l0_2.other W3 (Or.inl (ne_exa ((le_2.wr W3).wr W4) (((EP.keep K2).wr W3).wr W4) (by decide)))).other W4 (Or.inl (ne_exa ((le_2.wr W3).wr W4) (((EP.keep K2).wr W3).wr W4) (by decide)))), ((l1_2.other W3 (Or.inl (ne_exa ((le_2.wr W3).wr W4) (((EP.keep K2).wr W3).wr W4) (by decide)))).other W4 (Or.inl (ne_exa ((le_2.wr W3).wr W4) (((EP.keep K2).wr W3).wr W4) (by decide))))⟩
theorem ef_rmP_3_0 (m : MethodId) (x0 : Addr) (x1 : Addr) : entryFrame m #[(.ref x0), (.ref x1), (.int (0 : Int32))] 3 = mkF m 0 #[(.val (.ref x0)), (.val (.ref x1)), (.val (.int (0 : Int32)))] [] := by first | (simp [entryFrame, mkF, argsToLocals, Value.category]; done) | rfl
set_option maxRecDepth 65536 in
set_option maxHeartbeats 4000000 in
theorem rmP_3_0 {l : Launch} {Z : State} {a0 : Array Value} (hw : ∀ d ∈ tables_1, d.before a0 Z = true) {n0 : Nat} {h0 : Heap} {ga1 ga2 ga3 ga4 ga5 ga6 ga7 : Addr} {gc1 gc2 gc4 gc6 : Cell} {mr : Addr}  (p : Addr) (EP : Exa Z h0 p "com/example/uketsuke/uketsuke/core/conversation/Page") (P1 : Fld Z h0 p "com/example/uketsuke/uketsuke/core/conversation/Page" "items" "Ljava/util/List;" .null) (P2 : Fld Z h0 p "com/example/uketsuke/uketsuke/core/conversation/Page" "more" "Z" (.int 0)) (np : n0 ≤ p) {b : Addr} {k : ClassId} {e0 e1 e2 : Addr} (a : Addr) (EA : Exa Z h0 a "java/util/ArrayList") (F1 : Fld Z h0 a "java/util/AbstractList" "modCount" "I" (.int (3 : Int32))) (F2 : Fld Z h0 a "java/util/ArrayList" "size" "I" (.int (3 : Int32))) (F3 : Fld Z h0 a "java/util/ArrayList" "elementData" "[Ljava/lang/Object;" (.ref b)) (na : n0 ≤ a) (EB : Exa Z h0 b "[Ljava/lang/Object;") (VB : Arv Z h0 b k (.object "java/lang/Object") 10 [(.ref e0), (.ref e1), (.ref e2), .null, .null, .null, .null, .null, .null, .null] .null) (OV : Ovr Z k "java/lang/Object") (nb : n0 ≤ b) (I0 : Ins Z h0 e0 "java/lang/Object" true) (I1 : Ins Z h0 e1 "java/lang/Object" true) (I2 : Ins Z h0 e2 "java/lang/Object" true) (G : GG Z ga1 ga2 ga3 ga4 ga5 ga6 ga7 gc1 gc2 gc4 gc6) (O : Old Z n0 h0) (M : Mr Z "[Ljava/lang/Object;" mr) :
    Pays l Z (⟨"com/example/uketsuke/uketsuke/core/conversation/Page", "<init>", "(Ljava/util/List;Z)V"⟩ : MethodName) prog_28_method_1_code 3 none ({ frames := 9, cells := 3, slots := 8, locals := 115 } : Room) #[(.ref p), (.ref a), (.int (0 : Int32))] n0 h0 (QPg0 Z p h0) := by
  refine Pays.of hw (plainFor_of_name pn13) (fun m => ef_rmP_3_0 m p a) fun B C => ?_
  refine iAloadN C d5_0 rfl rfl ?_
  refine iCallI C (rmREC hw p G O M) rfl tw32 tw33 tw35 tw36 ⟨by decide, by decide⟩ (a := p) (argsL := []) (S' := []) (lenOf pd0 rfl) rfl rfl d5_1 rfl (W := 0) rfl ⟨by decide, by decide, rfl, rfl, by decide, by decide⟩ fun v1 h1 q1 => ?_
  obtain ⟨rfl, rfl⟩ := q1
  show Go B n0 _ h0 0 0 4 #[(.val (.ref p)), (.val (.ref a)), (.val (.int (0 : Int32)))] []
  refine iAloadN C d5_4 rfl rfl ?_
  refine iCallS C (rmCO_3 hw a EA F1 F2 F3 na EB VB OV nb I0 I1 I2 G O M) tw38 tw39 tw40 tw41 ⟨by decide, by decide⟩ (argsL := [(.ref a)]) (S' := []) (lenOf pd14 rfl) rfl rfl d5_5 rfl (W := 0) rfl ⟨by decide, by decide, rfl, rfl, by decide, by decide⟩ fun v2 h2 q2 => ?_
  obtain ⟨L_2, rfl, sL_2, K2, le_2, lx_2, lk_2, l0_2, lxe_2, lv_2⟩ := q2
  have O2 := O.keep K2 all0
  have n_L_2 : n0 ≤ L_2 := Nat.le_trans (oSize O) sL_2
  show Go B n0 _ h2 3 8 8 #[(.val (.ref p)), (.val (.ref a)), (.val (.int (0 : Int32)))] [(.ref L_2)]
  refine iAstoreN C d5_8 (Ls' := #[(.val (.ref p)), (.val (.ref L_2)), (.val (.int (0 : Int32)))]) rfl rfl ?_
  refine iAloadN C d5_9 rfl rfl ?_
  refine iAloadN C d5_10 rfl rfl ?_
  refine iPutF C (v := (.ref L_2)) tw67 (P1.keep K2 nin0) (EP.keep K2) (Or.inr ⟨tw68, rfl, rfl⟩) tw27 (ty := (.object "java/util/List")) (by decide) rfl rfl np d5_11 fun h3 W3 => ?_
  have Fw3 := Fld.same W3 (P1.keep K2 nin0)
  have O3 := O2.wr W3 np
  refine iAloadN C d5_14 rfl rfl ?_
  refine iIloadN C d5_15 rfl ?_
  refine iPutF C (v := (.int (0 : Int32))) tw69 (Fld.other W3 (P2.keep K2 nin0) (Or.inr (slot_ne (Or.inr (hw _ tw70)) (Or.inr (hw _ tw68)) (by decide) (t := .boolean) (t' := (.object "java/util/List")) (by decide) (by decide)))) ((EP.keep K2).wr W3) (Or.inr ⟨tw70, rfl, rfl⟩) tw27 (ty := .boolean) (by decide) rfl rfl np d5_16 fun h4 W4 => ?_
  have Fw4 := Fld.same W4 (Fld.other W3 (P2.keep K2 nin0) (Or.inr (slot_ne (Or.inr (hw _ tw70)) (Or.inr (hw _ tw68)) (by decide) (t := .boolean) (t' := (.object "java/util/List")) (by decide) (by decide))))
  have O4 := O3.wr W4 np
  refine iRetV C d5_19 ⟨by decide, by decide⟩ ?_
  exact ⟨rfl, ((((Keep.refl h0 [p]).trans K2 all0).wr W3 (Or.inl (by simp))).wr W4 (Or.inl (by simp))), Fw4⟩
def QPg3 (Z : State) (p e0 e1 e2 : Addr) (h0 : Heap) (v : Option Value) (h : Heap) : Prop := v = none ∧ Keep h0 h [p] ∧ Fld Z h p "com/example/uketsuke/uketsuke/core/conversation/Page" "more" "Z" (.int 1) ∧ ∃ L : Addr, h0.size ≤ L ∧ Fld Z h p "com/example/uketsuke/uketsuke/core/conversation/Page" "items" "Ljava/util/List;" (.ref L) ∧ LS3 Z L e0 e1 e2 h
theorem ef_rmP_3_1 (m : MethodId) (x0 : Addr) (x1 : Addr) : entryFrame m #[(.ref x0), (.ref x1), (.int (1 : Int32))] 3 = mkF m 0 #[(.val (.ref x0)), (.val (.ref x1)), (.val (.int (1 : Int32)))] [] := by first | (simp [entryFrame, mkF, argsToLocals, Value.category]; done) | rfl
set_option maxRecDepth 65536 in
set_option maxHeartbeats 4000000 in
theorem rmP_3_1 {l : Launch} {Z : State} {a0 : Array Value} (hw : ∀ d ∈ tables_1, d.before a0 Z = true) {n0 : Nat} {h0 : Heap} {ga1 ga2 ga3 ga4 ga5 ga6 ga7 : Addr} {gc1 gc2 gc4 gc6 : Cell} {mr : Addr}  (p : Addr) (EP : Exa Z h0 p "com/example/uketsuke/uketsuke/core/conversation/Page") (P1 : Fld Z h0 p "com/example/uketsuke/uketsuke/core/conversation/Page" "items" "Ljava/util/List;" .null) (P2 : Fld Z h0 p "com/example/uketsuke/uketsuke/core/conversation/Page" "more" "Z" (.int 0)) (np : n0 ≤ p) {b : Addr} {k : ClassId} {e0 e1 e2 : Addr} (a : Addr) (EA : Exa Z h0 a "java/util/ArrayList") (F1 : Fld Z h0 a "java/util/AbstractList" "modCount" "I" (.int (3 : Int32))) (F2 : Fld Z h0 a "java/util/ArrayList" "size" "I" (.int (3 : Int32))) (F3 : Fld Z h0 a "java/util/ArrayList" "elementData" "[Ljava/lang/Object;" (.ref b)) (na : n0 ≤ a) (EB : Exa Z h0 b "[Ljava/lang/Object;") (VB : Arv Z h0 b k (.object "java/lang/Object") 10 [(.ref e0), (.ref e1), (.ref e2), .null, .null, .null, .null, .null, .null, .null] .null) (OV : Ovr Z k "java/lang/Object") (nb : n0 ≤ b) (I0 : Ins Z h0 e0 "java/lang/Object" true) (I1 : Ins Z h0 e1 "java/lang/Object" true) (I2 : Ins Z h0 e2 "java/lang/Object" true) (G : GG Z ga1 ga2 ga3 ga4 ga5 ga6 ga7 gc1 gc2 gc4 gc6) (O : Old Z n0 h0) (M : Mr Z "[Ljava/lang/Object;" mr) :
    Pays l Z (⟨"com/example/uketsuke/uketsuke/core/conversation/Page", "<init>", "(Ljava/util/List;Z)V"⟩ : MethodName) prog_28_method_1_code 3 none ({ frames := 9, cells := 3, slots := 8, locals := 115 } : Room) #[(.ref p), (.ref a), (.int (1 : Int32))] n0 h0 (QPg3 Z p e0 e1 e2 h0) := by
  refine Pays.of hw (plainFor_of_name pn13) (fun m => ef_rmP_3_1 m p a) fun B C => ?_
  refine iAloadN C d5_0 rfl rfl ?_
  refine iCallI C (rmREC hw p G O M) rfl tw32 tw33 tw35 tw36 ⟨by decide, by decide⟩ (a := p) (argsL := []) (S' := []) (lenOf pd0 rfl) rfl rfl d5_1 rfl (W := 0) rfl ⟨by decide, by decide, rfl, rfl, by decide, by decide⟩ fun v1 h1 q1 => ?_
  obtain ⟨rfl, rfl⟩ := q1
  show Go B n0 _ h0 0 0 4 #[(.val (.ref p)), (.val (.ref a)), (.val (.int (1 : Int32)))] []
  refine iAloadN C d5_4 rfl rfl ?_
  refine iCallS C (rmCO_3 hw a EA F1 F2 F3 na EB VB OV nb I0 I1 I2 G O M) tw38 tw39 tw40 tw41 ⟨by decide, by decide⟩ (argsL := [(.ref a)]) (S' := []) (lenOf pd14 rfl) rfl rfl d5_5 rfl (W := 0) rfl ⟨by decide, by decide, rfl, rfl, by decide, by decide⟩ fun v2 h2 q2 => ?_
  obtain ⟨L_2, rfl, sL_2, K2, le_2, lx_2, lk_2, l0_2, lxe_2, lv_2⟩ := q2
  have O2 := O.keep K2 all0
  have n_L_2 : n0 ≤ L_2 := Nat.le_trans (oSize O) sL_2
  show Go B n0 _ h2 3 8 8 #[(.val (.ref p)), (.val (.ref a)), (.val (.int (1 : Int32)))] [(.ref L_2)]
  refine iAstoreN C d5_8 (Ls' := #[(.val (.ref p)), (.val (.ref L_2)), (.val (.int (1 : Int32)))]) rfl rfl ?_
  refine iAloadN C d5_9 rfl rfl ?_
  refine iAloadN C d5_10 rfl rfl ?_
  refine iPutF C (v := (.ref L_2)) tw67 (P1.keep K2 nin0) (EP.keep K2) (Or.inr ⟨tw68, rfl, rfl⟩) tw27 (ty := (.object "java/util/List")) (by decide) rfl rfl np d5_11 fun h3 W3 => ?_
  have Fw3 := Fld.same W3 (P1.keep K2 nin0)
  have O3 := O2.wr W3 np
  refine iAloadN C d5_14 rfl rfl ?_
  refine iIloadN C d5_15 rfl ?_
  refine iPutF C (v := (.int (1 : Int32))) tw69 (Fld.other W3 (P2.keep K2 nin0) (Or.inr (slot_ne (Or.inr (hw _ tw70)) (Or.inr (hw _ tw68)) (by decide) (t := .boolean) (t' := (.object "java/util/List")) (by decide) (by decide)))) ((EP.keep K2).wr W3) (Or.inr ⟨tw70, rfl, rfl⟩) tw27 (ty := .boolean) (by decide) rfl rfl np d5_16 fun h4 W4 => ?_
  have Fw4 := Fld.same W4 (Fld.other W3 (P2.keep K2 nin0) (Or.inr (slot_ne (Or.inr (hw _ tw70)) (Or.inr (hw _ tw68)) (by decide) (t := .boolean) (t' := (.object "java/util/List")) (by decide) (by decide))))
  have O4 := O3.wr W4 np
  refine iRetV C d5_19 ⟨by decide, by decide⟩ ?_
  exact ⟨rfl, ((((Keep.refl h0 [p]).trans K2 all0).wr W3 (Or.inl (by simp))).wr W4 (Or.inl (by simp))), Fw4, L_2, (Nat.le_trans (Nat.le_refl _) sL_2), (Fld.other W4 Fw3 (Or.inr (slot_ne (Or.inr (hw _ tw68)) (Or.inr (hw _ tw70)) (by decide) (t := (.object "java/util/List")) (t' := .boolean) (by decide) (by decide)))), ((le_2.wr W3).wr W4), lx_2, lk_2, ((l0_2.other W3 (Or.inl (ne_exa ((le_2.wr W3).wr W4) (((EP.keep K2).wr W3).wr W4) (by decide)))).other W4 (Or.inl (ne_exa ((le_2.wr W3).wr W4) (((EP.keep K2).wr W3).wr W4) (by decide)))), ((lxe_2.wr W3).wr W4), ((lv_2.other W3 (ne_exa ((lxe_2.wr W3).wr W4) (((EP.keep K2).wr W3).wr W4) (by decide))).other W4 (ne_exa ((lxe_2.wr W3).wr W4) (((EP.keep K2).wr W3).wr W4) (by decide)))⟩
theorem ef_rmSz_1 (m : MethodId) (x0 : Addr) : entryFrame m #[(.ref x0)] 1 = mkF m 0 #[(.val (.ref x0))] [] := by first | (simp [entryFrame, mkF, argsToLocals, Value.category]; done) | rfl
set_option maxRecDepth 65536 in
set_option maxHeartbeats 4000000 in
theorem rmSz_1 {l : Launch} {Z : State} {a0 : Array Value} (hw : ∀ d ∈ tables_1, d.before a0 Z = true) {n0 : Nat} {h0 : Heap} {ga1 ga2 ga3 ga4 ga5 ga6 ga7 : Addr} {gc1 gc2 gc4 gc6 : Cell} {mr : Addr}  {e0 : Addr} (L : Addr) (HL : LS1 Z L e0 ga7 h0) (X0 : Exa Z h0 e0 "java/lang/Integer") (G : GG Z ga1 ga2 ga3 ga4 ga5 ga6 ga7 gc1 gc2 gc4 gc6) (O : Old Z n0 h0) (M : Mr Z "[Ljava/lang/Object;" mr) :
    Pays l Z (⟨"java/util/ImmutableCollections$List12", "size", "()I"⟩ : MethodName) jdk_44_method_3_code 1 (some .int) ({ frames := 0, cells := 0, slots := 0, locals := 0 } : Room) #[(.ref L)] n0 h0 (QP (some (.int (1 : Int32))) h0) := by
  refine Pays.of hw (plainFor_of_name pn9) (fun m => ef_rmSz_1 m L) fun B C => ?_
  obtain ⟨le_x, l0_x, l1_x⟩ := HL
  refine iAloadN C d32_0 rfl rfl ?_
  refine iGetF C tw184 l1_x d32_1 ?_
  refine iGetSN C tw204 (G.2.2.2.2.2.2.2.2.2.2.2.2.2.2.2.2.1.ext O.2) d32_4 ?_
  refine iAcmpT C (t := 14) d32_7 rfl rfl (acE rfl).1 ⟨by decide, by decide⟩ ?_
  refine iIconst C d32_14 (v := (1 : Int32)) (by decide) ?_
  refine iRetI C d32_15 ⟨by decide, by decide⟩ ?_
  exact ⟨rfl, rfl⟩
theorem ef_rmGt_1 (m : MethodId) (x0 : Addr) : entryFrame m #[(.ref x0), (.int (0 : Int32))] 2 = mkF m 0 #[(.val (.ref x0)), (.val (.int (0 : Int32)))] [] := by first | (simp [entryFrame, mkF, argsToLocals, Value.category]; done) | rfl
set_option maxRecDepth 65536 in
set_option maxHeartbeats 4000000 in
theorem rmGt_1 {l : Launch} {Z : State} {a0 : Array Value} (hw : ∀ d ∈ tables_1, d.before a0 Z = true) {n0 : Nat} {h0 : Heap} {ga1 ga2 ga3 ga4 ga5 ga6 ga7 : Addr} {gc1 gc2 gc4 gc6 : Cell} {mr : Addr}  {e0 : Addr} (L : Addr) (HL : LS1 Z L e0 ga7 h0) (X0 : Exa Z h0 e0 "java/lang/Integer") (G : GG Z ga1 ga2 ga3 ga4 ga5 ga6 ga7 gc1 gc2 gc4 gc6) (O : Old Z n0 h0) (M : Mr Z "[Ljava/lang/Object;" mr) :
    Pays l Z (⟨"java/util/ImmutableCollections$List12", "get", "(I)Ljava/lang/Object;"⟩ : MethodName) jdk_44_method_5_code 2 (some (.object "java/lang/Object")) ({ frames := 0, cells := 0, slots := 0, locals := 0 } : Room) #[(.ref L), (.int (0 : Int32))] n0 h0 (QP (some (.ref e0)) h0) := by
  refine Pays.of hw (plainFor_of_name pn9) (fun m => ef_rmGt_1 m L) fun B C => ?_
  obtain ⟨le_x, l0_x, l1_x⟩ := HL
  refine iIloadN C d33_0 rfl ?_
  refine iIfF C d33_1 (by decide) ?_
  refine iAloadN C d33_4 rfl rfl ?_
  refine iGetF C tw182 l0_x d33_5 ?_
  refine iRetA C d33_8 rfl rfl rfl ⟨by decide, by decide⟩ ?_
  exact ⟨rfl, rfl⟩
theorem ef_rmSz_2 (m : MethodId) (x0 : Addr) : entryFrame m #[(.ref x0)] 1 = mkF m 0 #[(.val (.ref x0))] [] := by first | (simp [entryFrame, mkF, argsToLocals, Value.category]; done) | rfl
set_option maxRecDepth 65536 in
set_option maxHeartbeats 4000000 in
theorem rmSz_2 {l : Launch} {Z : State} {a0 : Array Value} (hw : ∀ d ∈ tables_1, d.before a0 Z = true) {n0 : Nat} {h0 : Heap} {ga1 ga2 ga3 ga4 ga5 ga6 ga7 : Addr} {gc1 gc2 gc4 gc6 : Cell} {mr : Addr}  {e0 e1 : Addr} (L : Addr) (HL : LS2 Z L e0 e1 h0) (X0 : Exa Z h0 e0 "java/lang/Integer") (X1 : Exa Z h0 e1 "java/lang/Integer") (G : GG Z ga1 ga2 ga3 ga4 ga5 ga6 ga7 gc1 gc2 gc4 gc6) (O : Old Z n0 h0) (M : Mr Z "[Ljava/lang/Object;" mr) :
    Pays l Z (⟨"java/util/ImmutableCollections$List12", "size", "()I"⟩ : MethodName) jdk_44_method_3_code 1 (some .int) ({ frames := 0, cells := 0, slots := 0, locals := 0 } : Room) #[(.ref L)] n0 h0 (QP (some (.int (2 : Int32))) h0) := by
  refine Pays.of hw (plainFor_of_name pn9) (fun m => ef_rmSz_2 m L) fun B C => ?_
  obtain ⟨le_x, l0_x, l1_x⟩ := HL
  refine iAloadN C d32_0 rfl rfl ?_
  refine iGetF C tw184 l1_x d32_1 ?_
  refine iGetSN C tw204 (G.2.2.2.2.2.2.2.2.2.2.2.2.2.2.2.2.1.ext O.2) d32_4 ?_
  refine iAcmpF C d32_7 rfl rfl (acNr (ne_exa X1 (G.2.2.2.2.2.2.2.2.2.2.2.2.2.2.2.2.2.1.ext O.2) (by decide))).1 ?_
  refine iIconst C d32_10 (v := (2 : Int32)) (by decide) ?_
  refine iGoto C (t := 15) d32_11 ⟨by decide, by decide⟩ ?_
  refine iRetI C d32_15 ⟨by decide, by decide⟩ ?_
  exact ⟨rfl, rfl⟩
theorem ef_rmGt_2 (m : MethodId) (x0 : Addr) : entryFrame m #[(.ref x0), (.int (1 : Int32))] 2 = mkF m 0 #[(.val (.ref x0)), (.val (.int (1 : Int32)))] [] := by first | (simp [entryFrame, mkF, argsToLocals, Value.category]; done) | rfl
set_option maxRecDepth 65536 in
set_option maxHeartbeats 4000000 in
theorem rmGt_2 {l : Launch} {Z : State} {a0 : Array Value} (hw : ∀ d ∈ tables_1, d.before a0 Z = true) {n0 : Nat} {h0 : Heap} {ga1 ga2 ga3 ga4 ga5 ga6 ga7 : Addr} {gc1 gc2 gc4 gc6 : Cell} {mr : Addr}  {e0 e1 : Addr} (L : Addr) (HL : LS2 Z L e0 e1 h0) (X0 : Exa Z h0 e0 "java/lang/Integer") (X1 : Exa Z h0 e1 "java/lang/Integer") (G : GG Z ga1 ga2 ga3 ga4 ga5 ga6 ga7 gc1 gc2 gc4 gc6) (O : Old Z n0 h0) (M : Mr Z "[Ljava/lang/Object;" mr) :
    Pays l Z (⟨"java/util/ImmutableCollections$List12", "get", "(I)Ljava/lang/Object;"⟩ : MethodName) jdk_44_method_5_code 2 (some (.object "java/lang/Object")) ({ frames := 0, cells := 0, slots := 0, locals := 0 } : Room) #[(.ref L), (.int (1 : Int32))] n0 h0 (QP (some (.ref e1)) h0) := by
  refine Pays.of hw (plainFor_of_name pn9) (fun m => ef_rmGt_2 m L) fun B C => ?_
  obtain ⟨le_x, l0_x, l1_x⟩ := HL
  refine iIloadN C d33_0 rfl ?_
  refine iIfT C (t := 9) d33_1 (by decide) ⟨by decide, by decide⟩ ?_
  refine iIloadN C d33_9 rfl ?_
  refine iIconst C d33_10 (v := (1 : Int32)) (by decide) ?_
  refine iCmpF C d33_11 (by decide) ?_
  refine iAloadN C d33_14 rfl rfl ?_
  refine iGetF C tw184 l1_x d33_15 ?_
  refine iGetSN C tw204 (G.2.2.2.2.2.2.2.2.2.2.2.2.2.2.2.2.1.ext O.2) d33_18 ?_
  refine iAcmpF C d33_21 rfl rfl (acNr (ne_exa X1 (G.2.2.2.2.2.2.2.2.2.2.2.2.2.2.2.2.2.1.ext O.2) (by decide))).1 ?_
  refine iAloadN C d33_24 rfl rfl ?_
  refine iGetF C tw184 l1_x d33_25 ?_
  refine iRetA C d33_28 rfl rfl rfl ⟨by decide, by decide⟩ ?_
  exact ⟨rfl, rfl⟩
theorem ef_rmSz_3 (m : MethodId) (x0 : Addr) : entryFrame m #[(.ref x0)] 1 = mkF m 0 #[(.val (.ref x0))] [] := by first | (simp [entryFrame, mkF, argsToLocals, Value.category]; done) | rfl
set_option maxRecDepth 65536 in
set_option maxHeartbeats 4000000 in
theorem rmSz_3 {l : Launch} {Z : State} {a0 : Array Value} (hw : ∀ d ∈ tables_1, d.before a0 Z = true) {n0 : Nat} {h0 : Heap} {ga1 ga2 ga3 ga4 ga5 ga6 ga7 : Addr} {gc1 gc2 gc4 gc6 : Cell} {mr : Addr}  {e0 e1 e2 : Addr} (L : Addr) (HL : LS3 Z L e0 e1 e2 h0) (X0 : Exa Z h0 e0 "java/lang/Integer") (X1 : Exa Z h0 e1 "java/lang/Integer") (X2 : Exa Z h0 e2 "java/lang/Integer") (G : GG Z ga1 ga2 ga3 ga4 ga5 ga6 ga7 gc1 gc2 gc4 gc6) (O : Old Z n0 h0) (M : Mr Z "[Ljava/lang/Object;" mr) :
    Pays l Z (⟨"java/util/ImmutableCollections$ListN", "size", "()I"⟩ : MethodName) jdk_45_method_3_code 1 (some .int) ({ frames := 0, cells := 0, slots := 0, locals := 0 } : Room) #[(.ref L)] n0 h0 (QP (some (.int (3 : Int32))) h0) := by
  refine Pays.of hw (plainFor_of_name pn10) (fun m => ef_rmSz_3 m L) fun B C => ?_
  obtain ⟨le_x, lx_x, lk_x, l0_x, lxe_x, lv_x⟩ := HL
  refine iAloadN C d40_0 rfl rfl ?_
  refine iGetF C tw259 l0_x d40_1 ?_
  obtain ⟨c1, A1, q1, z1, y1, H1, G1⟩ := id lv_x
  refine iLen C A1 (len_of z1 y1) d40_4 ?_
  refine iRetI C d40_5 ⟨by decide, by decide⟩ ?_
  exact ⟨rfl, rfl⟩
theorem ef_rmGt_3 (m : MethodId) (x0 : Addr) : entryFrame m #[(.ref x0), (.int (2 : Int32))] 2 = mkF m 0 #[(.val (.ref x0)), (.val (.int (2 : Int32)))] [] := by first | (simp [entryFrame, mkF, argsToLocals, Value.category]; done) | rfl
set_option maxRecDepth 65536 in
set_option maxHeartbeats 4000000 in
theorem rmGt_3 {l : Launch} {Z : State} {a0 : Array Value} (hw : ∀ d ∈ tables_1, d.before a0 Z = true) {n0 : Nat} {h0 : Heap} {ga1 ga2 ga3 ga4 ga5 ga6 ga7 : Addr} {gc1 gc2 gc4 gc6 : Cell} {mr : Addr}  {e0 e1 e2 : Addr} (L : Addr) (HL : LS3 Z L e0 e1 e2 h0) (X0 : Exa Z h0 e0 "java/lang/Integer") (X1 : Exa Z h0 e1 "java/lang/Integer") (X2 : Exa Z h0 e2 "java/lang/Integer") (G : GG Z ga1 ga2 ga3 ga4 ga5 ga6 ga7 gc1 gc2 gc4 gc6) (O : Old Z n0 h0) (M : Mr Z "[Ljava/lang/Object;" mr) :
    Pays l Z (⟨"java/util/ImmutableCollections$ListN", "get", "(I)Ljava/lang/Object;"⟩ : MethodName) jdk_45_method_4_code 2 (some (.object "java/lang/Object")) ({ frames := 0, cells := 0, slots := 0, locals := 0 } : Room) #[(.ref L), (.int (2 : Int32))] n0 h0 (QP (some (.ref e2)) h0) := by
  refine Pays.of hw (plainFor_of_name pn10) (fun m => ef_rmGt_3 m L) fun B C => ?_
  obtain ⟨le_x, lx_x, lk_x, l0_x, lxe_x, lv_x⟩ := HL
  refine iAloadN C d41_0 rfl rfl ?_
  refine iGetF C tw259 l0_x d41_1 ?_
  refine iIloadN C d41_4 rfl ?_
  obtain ⟨c1, A1, q1, z1, y1, H1, G1⟩ := id lv_x
  refine iAaload C (v := (.ref e2)) rfl A1 (inb_of z1 ⟨by decide, by decide⟩) (H1.at (inb_of z1 ⟨by decide, by decide⟩) (by rfl)) d41_5 ?_
  refine iRetA C d41_6 rfl rfl rfl ⟨by decide, by decide⟩ ?_
  exact ⟨rfl, rfl⟩
theorem ef_rmOE (m : MethodId)  : entryFrame m #[] 1 = mkF m 0 #[.unset] [] := by first | (simp [entryFrame, mkF, argsToLocals, Value.category]; done) | rfl
set_option maxRecDepth 65536 in
set_option maxHeartbeats 4000000 in
theorem rmOE {l : Launch} {Z : State} {a0 : Array Value} (hw : ∀ d ∈ tables_1, d.before a0 Z = true) {n0 : Nat} {h0 : Heap} {ga1 ga2 ga3 ga4 ga5 ga6 ga7 : Addr} {gc1 gc2 gc4 gc6 : Cell} {mr : Addr}   (G : GG Z ga1 ga2 ga3 ga4 ga5 ga6 ga7 gc1 gc2 gc4 gc6) (O : Old Z n0 h0) (M : Mr Z "[Ljava/lang/Object;" mr) :
    Pays l Z (⟨"java/util/Optional", "empty", "()Ljava/util/Optional;"⟩ : MethodName) jdk_32_method_1_code 1 (some (.object "java/util/Optional")) ({ frames := 0, cells := 0, slots := 0, locals := 0 } : Room) #[] n0 h0 (QP (some (.ref ga5)) h0) := by
  refine Pays.of hw (plainFor_of_name pn14) (fun m => ef_rmOE m ) fun B C => ?_
  refine iGetS C tw80 (G.2.2.2.2.2.2.2.2.2.2.2.1.ext O.2) d12_0 ?_
  refine iAstoreN C d12_3 (Ls' := #[(.val (.ref ga5))]) rfl rfl ?_
  refine iAloadN C d12_4 rfl rfl ?_
  refine iRetA C d12_5 rfl rfl rfl ⟨by decide, by decide⟩ ?_
  exact ⟨rfl, rfl⟩
def QOI (Z : State) (a x : Addr) (h0 : Heap) (v : Option Value) (h : Heap) : Prop := v = none ∧ Keep h0 h [a] ∧ Fld Z h a "java/util/Optional" "value" "Ljava/lang/Object;" (.ref x)
theorem ef_rmOI (m : MethodId) (x0 : Addr) (x1 : Addr) : entryFrame m #[(.ref x0), (.ref x1)] 2 = mkF m 0 #[(.val (.ref x0)), (.val (.ref x1))] [] := by first | (simp [entryFrame, mkF, argsToLocals, Value.category]; done) | rfl
set_option maxRecDepth 65536 in
set_option maxHeartbeats 4000000 in
theorem rmOI {l : Launch} {Z : State} {a0 : Array Value} (hw : ∀ d ∈ tables_1, d.before a0 Z = true) {n0 : Nat} {h0 : Heap} {ga1 ga2 ga3 ga4 ga5 ga6 ga7 : Addr} {gc1 gc2 gc4 gc6 : Cell} {mr : Addr}  (x a : Addr) (EA : Exa Z h0 a "java/util/Optional") (F1 : Fld Z h0 a "java/util/Optional" "value" "Ljava/lang/Object;" .null) (na : n0 ≤ a) (G : GG Z ga1 ga2 ga3 ga4 ga5 ga6 ga7 gc1 gc2 gc4 gc6) (O : Old Z n0 h0) (M : Mr Z "[Ljava/lang/Object;" mr) :
    Pays l Z (⟨"java/util/Optional", "<init>", "(Ljava/lang/Object;)V"⟩ : MethodName) jdk_32_method_2_code 2 none ({ frames := 1, cells := 0, slots := 0, locals := 12 } : Room) #[(.ref a), (.ref x)] n0 h0 (QOI Z a x h0) := by
  refine Pays.of hw (plainFor_of_name pn14) (fun m => ef_rmOI m a x) fun B C => ?_
  refine iAloadN C d35_0 rfl rfl ?_
  refine iInitO C tw232 tw19 tw20 d35_1 rfl (by decide) (W := 0) rfl (by decide) ?_
  refine iAloadN C d35_4 rfl rfl ?_
  refine iAloadN C d35_5 rfl rfl ?_
  refine iPutF C (v := (.ref x)) tw86 F1 EA (Or.inr ⟨tw87, rfl, rfl⟩) tw226 (ty := (.object "java/lang/Object")) (by decide) rfl rfl na d35_6 fun h1 W1 => ?_
  have Fw1 := Fld.same W1 F1
  have O1 := O.wr W1 na
  refine iRetV C d35_9 ⟨by decide, by decide⟩ ?_
  exact ⟨rfl, ((Keep.refl h0 [a]).wr W1 (Or.inl (by simp))), Fw1⟩
def QOO (Z : State) (x : Addr) (h0 : Heap) (v : Option Value) (h : Heap) : Prop := ∃ q : Addr, v = some (.ref q) ∧ h0.size ≤ q ∧ Keep h0 h [] ∧ Exa Z h q "java/util/Optional" ∧ Fld Z h q "java/util/Optional" "value" "Ljava/lang/Object;" (.ref x)
theorem ef_rmOO (m : MethodId) (x0 : Addr) : entryFrame m #[(.ref x0)] 1 = mkF m 0 #[(.val (.ref x0))] [] := by first | (simp [entryFrame, mkF, argsToLocals, Value.category]; done) | rfl
set_option maxRecDepth 65536 in
set_option maxHeartbeats 4000000 in
theorem rmOO {l : Launch} {Z : State} {a0 : Array Value} (hw : ∀ d ∈ tables_1, d.before a0 Z = true) {n0 : Nat} {h0 : Heap} {ga1 ga2 ga3 ga4 ga5 ga6 ga7 : Addr} {gc1 gc2 gc4 gc6 : Cell} {mr : Addr} (x : Addr)  (G : GG Z ga1 ga2 ga3 ga4 ga5 ga6 ga7 gc1 gc2 gc4 gc6) (O : Old Z n0 h0) (M : Mr Z "[Ljava/lang/Object;" mr) :
    Pays l Z (⟨"java/util/Optional", "of", "(Ljava/lang/Object;)Ljava/util/Optional;"⟩ : MethodName) jdk_32_method_3_code 1 (some (.object "java/util/Optional")) ({ frames := 2, cells := 1, slots := 1, locals := 26 } : Room) #[(.ref x)] n0 h0 (QOO Z x h0) := by
  refine Pays.of hw (plainFor_of_name pn14) (fun m => ef_rmOO m x) fun B C => ?_
  refine iNew C tw225 tw226 tw78 d34_0 ⟨rfl, rfl, by decide, by decide⟩ fun h1 a1 g1 E1 A1 D1 => ?_
  have n_a1 : n0 ≤ a1 := oFresh O g1
  have O1 := O.ext E1
  have F1_value : Fld Z h1 a1 "java/util/Optional" "value" "Ljava/lang/Object;" .null := D1 (Or.inr (hw _ tw87)) (ty := (.object "java/lang/Object")) (by decide)
  refine iDup C d34_3 rfl ?_
  refine iAloadN C d34_4 rfl rfl ?_
  refine iCallS C (rmRN hw x G O1 M) tw227 tw179 tw180 tw181 ⟨by decide, by decide⟩ (argsL := [(.ref x)]) (S' := [(.ref a1), (.ref a1)]) (lenOf pd7 rfl) rfl rfl d34_5 rfl (W := 2) rfl ⟨by decide, by decide, rfl, rfl, by decide, by decide⟩ fun v2 h2 q2 => ?_
  obtain ⟨rfl, rfl⟩ := q2
  show Go B n0 _ h1 1 1 8 #[(.val (.ref x))] [(.ref x), (.ref a1), (.ref a1)]
  refine iCallI C (rmOI hw x a1 A1 F1_value n_a1 G O1 M) rfl tw228 tw229 tw78 tw231 ⟨by decide, by decide⟩ (a := a1) (argsL := [(.ref x)]) (S' := [(.ref a1)]) (lenOf pd9 rfl) rfl rfl d34_8 rfl (W := 1) rfl ⟨by decide, by decide, rfl, rfl, by decide, by decide⟩ fun v3 h3 q3 => ?_
  obtain ⟨rfl, K3, f1_3⟩ := q3
  have O3 := O1.keep K3 (allS n_a1 all0)
  show Go B n0 _ h3 1 1 11 #[(.val (.ref x))] [(.ref a1)]
  refine iRetA C d34_11 rfl rfl rfl ⟨by decide, by decide⟩ ?_
  exact ⟨a1, rfl, (Nat.le_trans (Nat.le_refl _) (Nat.le_of_eq g1.symm)), (((Keep.refl h0 []).ext E1).trans K3 (allS (Or.inr (Nat.le_trans (Nat.le_refl _) (Nat.le_of_eq g1.symm))) all0)), (A1.keep K3), f1_3⟩
theorem ef_rmK_0 (m : MethodId) (x0 : Addr) : entryFrame m #[(.ref x0)] 1 = mkF m 0 #[(.val (.ref x0))] [] := by first | (simp [entryFrame, mkF, argsToLocals, Value.category]; done) | rfl
set_option maxRecDepth 65536 in
set_option maxHeartbeats 4000000 in
theorem rmK_0 {l : Launch} {Z : State} {a0 : Array Value} (hw : ∀ d ∈ tables_1, d.before a0 Z = true) {n0 : Nat} {h0 : Heap} {ga1 ga2 ga3 ga4 ga5 ga6 ga7 : Addr} {gc1 gc2 gc4 gc6 : Cell} {mr : Addr} (p : Addr) (P2 : Fld Z h0 p "com/example/uketsuke/uketsuke/core/conversation/Page" "more" "Z" (.int 0)) (G : GG Z ga1 ga2 ga3 ga4 ga5 ga6 ga7 gc1 gc2 gc4 gc6) (O : Old Z n0 h0) (M : Mr Z "[Ljava/lang/Object;" mr) :
    Pays l Z (⟨"com/example/uketsuke/uketsuke/core/conversation/Page", "continuesAfter", "()Ljava/util/Optional;"⟩ : MethodName) prog_28_method_3_code 1 (some (.object "java/util/Optional")) ({ frames := 1, cells := 0, slots := 0, locals := 12 } : Room) #[(.ref p)] n0 h0 (QP (some (.ref ga5)) h0) := by
  refine Pays.of hw (plainFor_of_name pn13) (fun m => ef_rmK_0 m p) fun B C => ?_
  refine iAloadN C d11_0 rfl rfl ?_
  refine iGetF C tw69 P2 d11_1 ?_
  refine iIfT C (t := 33) d11_4 (by decide) ⟨by decide, by decide⟩ ?_
  refine iCallS C (rmOE hw G O M) tw76 tw77 tw78 tw79 ⟨by decide, by decide⟩ (argsL := []) (S' := []) (lenOf pd15 rfl) rfl rfl d11_33 rfl (W := 0) rfl ⟨by decide, by decide, rfl, rfl, by decide, by decide⟩ fun v1 h1 q1 => ?_
  obtain ⟨rfl, rfl⟩ := q1
  show Go B n0 _ h0 0 0 36 #[(.val (.ref p))] [(.ref ga5)]
  refine iRetA C d11_36 rfl rfl rfl ⟨by decide, by decide⟩ ?_
  exact ⟨rfl, rfl⟩
theorem ef_rmK_1 (m : MethodId) (x0 : Addr) : entryFrame m #[(.ref x0)] 1 = mkF m 0 #[(.val (.ref x0))] [] := by first | (simp [entryFrame, mkF, argsToLocals, Value.category]; done) | rfl
set_option maxRecDepth 65536 in
set_option maxHeartbeats 4000000 in
theorem rmK_1 {l : Launch} {Z : State} {a0 : Array Value} (hw : ∀ d ∈ tables_1, d.before a0 Z = true) {n0 : Nat} {h0 : Heap} {ga1 ga2 ga3 ga4 ga5 ga6 ga7 : Addr} {gc1 gc2 gc4 gc6 : Cell} {mr : Addr} (p : Addr) {e0 : Addr} (L : Addr) (HL : LS1 Z L e0 ga7 h0) (X0 : Exa Z h0 e0 "java/lang/Integer") (P2 : Fld Z h0 p "com/example/uketsuke/uketsuke/core/conversation/Page" "more" "Z" (.int 1)) (P1 : Fld Z h0 p "com/example/uketsuke/uketsuke/core/conversation/Page" "items" "Ljava/util/List;" (.ref L)) (G : GG Z ga1 ga2 ga3 ga4 ga5 ga6 ga7 gc1 gc2 gc4 gc6) (O : Old Z n0 h0) (M : Mr Z "[Ljava/lang/Object;" mr) :
    Pays l Z (⟨"com/example/uketsuke/uketsuke/core/conversation/Page", "continuesAfter", "()Ljava/util/Optional;"⟩ : MethodName) prog_28_method_3_code 1 (some (.object "java/util/Optional")) ({ frames := 3, cells := 1, slots := 1, locals := 38 } : Room) #[(.ref p)] n0 h0 (QOO Z e0 h0) := by
  refine Pays.of hw (plainFor_of_name pn13) (fun m => ef_rmK_1 m p) fun B C => ?_
  obtain ⟨le_x, l0_x, l1_x⟩ := HL
  refine iAloadN C d11_0 rfl rfl ?_
  refine iGetF C tw69 P2 d11_1 ?_
  refine iIfF C d11_4 (by decide) ?_
  refine iAloadN C d11_7 rfl rfl ?_
  refine iGetF C tw67 P1 d11_8 ?_
  refine iAloadN C d11_11 rfl rfl ?_
  refine iGetF C tw67 P1 d11_12 ?_
  refine iCallF C (rmSz_1 hw L ⟨le_x, l0_x, l1_x⟩ X0 G O M) le_x tw205 tw206 tw207 rfl tw208 tw209 tw210 tw211 tw212 tw159 tw213 ⟨by decide, by decide⟩ (argsL := []) (S' := [(.ref L)]) (lenOf pd16 rfl) rfl rfl d11_15 rfl (W := 1) rfl ⟨by decide, by decide, rfl, rfl, by decide, by decide⟩ fun v1 h1 q1 => ?_
  obtain ⟨rfl, rfl⟩ := q1
  show Go B n0 _ h0 0 0 20 #[(.val (.ref p))] [(.int (1 : Int32)), (.ref L)]
  refine iIconst C d11_20 (v := (1 : Int32)) (by decide) ?_
  refine iIsub C d11_21 (v := (0 : Int32)) (by decide) ?_
  refine iCallF C (rmGt_1 hw L ⟨le_x, l0_x, l1_x⟩ X0 G O M) le_x tw214 tw215 tw216 rfl tw217 tw218 tw219 tw220 tw212 tw159 tw221 ⟨by decide, by decide⟩ (argsL := [(.int (0 : Int32))]) (S' := []) (lenOf pd17 rfl) rfl rfl d11_22 rfl (W := 0) rfl ⟨by decide, by decide, rfl, rfl, by decide, by decide⟩ fun v2 h2 q2 => ?_
  obtain ⟨rfl, rfl⟩ := q2
  show Go B n0 _ h0 0 0 27 #[(.val (.ref p))] [(.ref e0)]
  refine iCallS C (rmOO hw e0 G O M) tw222 tw223 tw78 tw224 ⟨by decide, by decide⟩ (argsL := [(.ref e0)]) (S' := []) (lenOf pd18 rfl) rfl rfl d11_27 rfl (W := 0) rfl ⟨by decide, by decide, rfl, rfl, by decide, by decide⟩ fun v3 h3 q3 => ?_
  obtain ⟨q_3, rfl, sq_3, K3, qe_3, qf_3⟩ := q3
  have O3 := O.keep K3 all0
  show Go B n0 _ h3 1 1 30 #[(.val (.ref p))] [(.ref q_3)]
  refine iGoto C (t := 36) d11_30 ⟨by decide, by decide⟩ ?_
  refine iRetA C d11_36 rfl rfl rfl ⟨by decide, by decide⟩ ?_
  exact ⟨q_3, rfl, (Nat.le_trans (Nat.le_refl _) sq_3), ((Keep.refl h0 []).trans K3 all0), qe_3, qf_3⟩
theorem ef_rmK_2 (m : MethodId) (x0 : Addr) : entryFrame m #[(.ref x0)] 1 = mkF m 0 #[(.val (.ref x0))] [] := by first | (simp [entryFrame, mkF, argsToLocals, Value.category]; done) | rfl
set_option maxRecDepth 65536 in
set_option maxHeartbeats 4000000 in
theorem rmK_2 {l : Launch} {Z : State} {a0 : Array Value} (hw : ∀ d ∈ tables_1, d.before a0 Z = true) {n0 : Nat} {h0 : Heap} {ga1 ga2 ga3 ga4 ga5 ga6 ga7 : Addr} {gc1 gc2 gc4 gc6 : Cell} {mr : Addr} (p : Addr) {e0 e1 : Addr} (L : Addr) (HL : LS2 Z L e0 e1 h0) (X0 : Exa Z h0 e0 "java/lang/Integer") (X1 : Exa Z h0 e1 "java/lang/Integer") (P2 : Fld Z h0 p "com/example/uketsuke/uketsuke/core/conversation/Page" "more" "Z" (.int 1)) (P1 : Fld Z h0 p "com/example/uketsuke/uketsuke/core/conversation/Page" "items" "Ljava/util/List;" (.ref L)) (G : GG Z ga1 ga2 ga3 ga4 ga5 ga6 ga7 gc1 gc2 gc4 gc6) (O : Old Z n0 h0) (M : Mr Z "[Ljava/lang/Object;" mr) :
    Pays l Z (⟨"com/example/uketsuke/uketsuke/core/conversation/Page", "continuesAfter", "()Ljava/util/Optional;"⟩ : MethodName) prog_28_method_3_code 1 (some (.object "java/util/Optional")) ({ frames := 3, cells := 1, slots := 1, locals := 38 } : Room) #[(.ref p)] n0 h0 (QOO Z e1 h0) := by
  refine Pays.of hw (plainFor_of_name pn13) (fun m => ef_rmK_2 m p) fun B C => ?_
  obtain ⟨le_x, l0_x, l1_x⟩ := HL
  refine iAloadN C d11_0 rfl rfl ?_
  refine iGetF C tw69 P2 d11_1 ?_
  refine iIfF C d11_4 (by decide) ?_
  refine iAloadN C d11_7 rfl rfl ?_
  refine iGetF C tw67 P1 d11_8 ?_
  refine iAloadN C d11_11 rfl rfl ?_
  refine iGetF C tw67 P1 d11_12 ?_
  refine iCallF C (rmSz_2 hw L ⟨le_x, l0_x, l1_x⟩ X0 X1 G O M) le_x tw205 tw206 tw207 rfl tw208 tw209 tw210 tw211 tw212 tw159 tw213 ⟨by decide, by decide⟩ (argsL := []) (S' := [(.ref L)]) (lenOf pd16 rfl) rfl rfl d11_15 rfl (W := 1) rfl ⟨by decide, by decide, rfl, rfl, by decide, by decide⟩ fun v1 h1 q1 => ?_
  obtain ⟨rfl, rfl⟩ := q1
  show Go B n0 _ h0 0 0 20 #[(.val (.ref p))] [(.int (2 : Int32)), (.ref L)]
  refine iIconst C d11_20 (v := (1 : Int32)) (by decide) ?_
  refine iIsub C d11_21 (v := (1 : Int32)) (by decide) ?_
  refine iCallF C (rmGt_2 hw L ⟨le_x, l0_x, l1_x⟩ X0 X1 G O M) le_x tw214 tw215 tw216 rfl tw217 tw218 tw219 tw220 tw212 tw159 tw221 ⟨by decide, by decide⟩ (argsL := [(.int (1 : Int32))]) (S' := []) (lenOf pd17 rfl) rfl rfl d11_22 rfl (W := 0) rfl ⟨by decide, by decide, rfl, rfl, by decide, by decide⟩ fun v2 h2 q2 => ?_
  obtain ⟨rfl, rfl⟩ := q2
  show Go B n0 _ h0 0 0 27 #[(.val (.ref p))] [(.ref e1)]
  refine iCallS C (rmOO hw e1 G O M) tw222 tw223 tw78 tw224 ⟨by decide, by decide⟩ (argsL := [(.ref e1)]) (S' := []) (lenOf pd18 rfl) rfl rfl d11_27 rfl (W := 0) rfl ⟨by decide, by decide, rfl, rfl, by decide, by decide⟩ fun v3 h3 q3 => ?_
  obtain ⟨q_3, rfl, sq_3, K3, qe_3, qf_3⟩ := q3
  have O3 := O.keep K3 all0
  show Go B n0 _ h3 1 1 30 #[(.val (.ref p))] [(.ref q_3)]
  refine iGoto C (t := 36) d11_30 ⟨by decide, by decide⟩ ?_
  refine iRetA C d11_36 rfl rfl rfl ⟨by decide, by decide⟩ ?_
  exact ⟨q_3, rfl, (Nat.le_trans (Nat.le_refl _) sq_3), ((Keep.refl h0 []).trans K3 all0), qe_3, qf_3⟩
theorem ef_rmK_3 (m : MethodId) (x0 : Addr) : entryFrame m #[(.ref x0)] 1 = mkF m 0 #[(.val (.ref x0))] [] := by first | (simp [entryFrame, mkF, argsToLocals, Value.category]; done) | rfl
set_option maxRecDepth 65536 in
set_option maxHeartbeats 4000000 in
theorem rmK_3 {l : Launch} {Z : State} {a0 : Array Value} (hw : ∀ d ∈ tables_1, d.before a0 Z = true) {n0 : Nat} {h0 : Heap} {ga1 ga2 ga3 ga4 ga5 ga6 ga7 : Addr} {gc1 gc2 gc4 gc6 : Cell} {mr : Addr} (p : Addr) {e0 e1 e2 : Addr} (L : Addr) (HL : LS3 Z L e0 e1 e2 h0) (X0 : Exa Z h0 e0 "java/lang/Integer") (X1 : Exa Z h0 e1 "java/lang/Integer") (X2 : Exa Z h0 e2 "java/lang/Integer") (P2 : Fld Z h0 p "com/example/uketsuke/uketsuke/core/conversation/Page" "more" "Z" (.int 1)) (P1 : Fld Z h0 p "com/example/uketsuke/uketsuke/core/conversation/Page" "items" "Ljava/util/List;" (.ref L)) (G : GG Z ga1 ga2 ga3 ga4 ga5 ga6 ga7 gc1 gc2 gc4 gc6) (O : Old Z n0 h0) (M : Mr Z "[Ljava/lang/Object;" mr) :
    Pays l Z (⟨"com/example/uketsuke/uketsuke/core/conversation/Page", "continuesAfter", "()Ljava/util/Optional;"⟩ : MethodName) prog_28_method_3_code 1 (some (.object "java/util/Optional")) ({ frames := 3, cells := 1, slots := 1, locals := 38 } : Room) #[(.ref p)] n0 h0 (QOO Z e2 h0) := by
  refine Pays.of hw (plainFor_of_name pn13) (fun m => ef_rmK_3 m p) fun B C => ?_
  obtain ⟨le_x, lx_x, lk_x, l0_x, lxe_x, lv_x⟩ := HL
  refine iAloadN C d11_0 rfl rfl ?_
  refine iGetF C tw69 P2 d11_1 ?_
  refine iIfF C d11_4 (by decide) ?_
  refine iAloadN C d11_7 rfl rfl ?_
  refine iGetF C tw67 P1 d11_8 ?_
  refine iAloadN C d11_11 rfl rfl ?_
  refine iGetF C tw67 P1 d11_12 ?_
  refine iCallF C (rmSz_3 hw L ⟨le_x, lx_x, lk_x, l0_x, lxe_x, lv_x⟩ X0 X1 X2 G O M) le_x tw205 tw206 tw207 rfl tw263 tw264 tw265 tw266 tw267 tw250 tw268 ⟨by decide, by decide⟩ (argsL := []) (S' := [(.ref L)]) (lenOf pd16 rfl) rfl rfl d11_15 rfl (W := 1) rfl ⟨by decide, by decide, rfl, rfl, by decide, by decide⟩ fun v1 h1 q1 => ?_
  obtain ⟨rfl, rfl⟩ := q1
  show Go B n0 _ h0 0 0 20 #[(.val (.ref p))] [(.int (3 : Int32)), (.ref L)]
  refine iIconst C d11_20 (v := (1 : Int32)) (by decide) ?_
  refine iIsub C d11_21 (v := (2 : Int32)) (by decide) ?_
  refine iCallF C (rmGt_3 hw L ⟨le_x, lx_x, lk_x, l0_x, lxe_x, lv_x⟩ X0 X1 X2 G O M) le_x tw214 tw215 tw216 rfl tw269 tw270 tw271 tw272 tw267 tw250 tw273 ⟨by decide, by decide⟩ (argsL := [(.int (2 : Int32))]) (S' := []) (lenOf pd17 rfl) rfl rfl d11_22 rfl (W := 0) rfl ⟨by decide, by decide, rfl, rfl, by decide, by decide⟩ fun v2 h2 q2 => ?_
  obtain ⟨rfl, rfl⟩ := q2
  show Go B n0 _ h0 0 0 27 #[(.val (.ref p))] [(.ref e2)]
  refine iCallS C (rmOO hw e2 G O M) tw222 tw223 tw78 tw224 ⟨by decide, by decide⟩ (argsL := [(.ref e2)]) (S' := []) (lenOf pd18 rfl) rfl rfl d11_27 rfl (W := 0) rfl ⟨by decide, by decide, rfl, rfl, by decide, by decide⟩ fun v3 h3 q3 => ?_
  obtain ⟨q_3, rfl, sq_3, K3, qe_3, qf_3⟩ := q3
  have O3 := O.keep K3 all0
  show Go B n0 _ h3 1 1 30 #[(.val (.ref p))] [(.ref q_3)]
  refine iGoto C (t := 36) d11_30 ⟨by decide, by decide⟩ ?_
  refine iRetA C d11_36 rfl rfl rfl ⟨by decide, by decide⟩ ?_
  exact ⟨q_3, rfl, (Nat.le_trans (Nat.le_refl _) sq_3), ((Keep.refl h0 []).trans K3 all0), qe_3, qf_3⟩
theorem ef_rmIP_1 (m : MethodId) (x0 : Addr) : entryFrame m #[(.ref x0)] 1 = mkF m 0 #[(.val (.ref x0))] [] := by first | (simp [entryFrame, mkF, argsToLocals, Value.category]; done) | rfl
set_option maxRecDepth 65536 in
set_option maxHeartbeats 4000000 in
theorem rmIP_1 {l : Launch} {Z : State} {a0 : Array Value} (hw : ∀ d ∈ tables_1, d.before a0 Z = true) {n0 : Nat} {h0 : Heap} {ga1 ga2 ga3 ga4 ga5 ga6 ga7 : Addr} {gc1 gc2 gc4 gc6 : Cell} {mr : Addr} (q : Addr) (x : Addr) (F : Fld Z h0 q "java/util/Optional" "value" "Ljava/lang/Object;" (.ref x)) (G : GG Z ga1 ga2 ga3 ga4 ga5 ga6 ga7 gc1 gc2 gc4 gc6) (O : Old Z n0 h0) (M : Mr Z "[Ljava/lang/Object;" mr) :
    Pays l Z (⟨"java/util/Optional", "isPresent", "()Z"⟩ : MethodName) jdk_32_method_6_code 1 (some .boolean) ({ frames := 0, cells := 0, slots := 0, locals := 0 } : Room) #[(.ref q)] n0 h0 (QP (some (.int (1 : Int32))) h0) := by
  refine Pays.of hw (plainFor_of_name pn14) (fun m => ef_rmIP_1 m q) fun B C => ?_
  refine iAloadN C d13_0 rfl rfl ?_
  refine iGetF C tw86 F d13_1 ?_
  refine iNullF C d13_4 ?_
  refine iIconst C d13_7 (v := (1 : Int32)) (by decide) ?_
  refine iGoto C (t := 12) d13_8 ⟨by decide, by decide⟩ ?_
  refine iRetZ C d13_12 (by simp) ⟨by decide, by decide⟩ ?_
  exact ⟨rfl, rfl⟩
theorem ef_rmIP_0 (m : MethodId) (x0 : Addr) : entryFrame m #[(.ref x0)] 1 = mkF m 0 #[(.val (.ref x0))] [] := by first | (simp [entryFrame, mkF, argsToLocals, Value.category]; done) | rfl
set_option maxRecDepth 65536 in
set_option maxHeartbeats 4000000 in
theorem rmIP_0 {l : Launch} {Z : State} {a0 : Array Value} (hw : ∀ d ∈ tables_1, d.before a0 Z = true) {n0 : Nat} {h0 : Heap} {ga1 ga2 ga3 ga4 ga5 ga6 ga7 : Addr} {gc1 gc2 gc4 gc6 : Cell} {mr : Addr} (q : Addr) (F : Fld Z h0 q "java/util/Optional" "value" "Ljava/lang/Object;" .null) (G : GG Z ga1 ga2 ga3 ga4 ga5 ga6 ga7 gc1 gc2 gc4 gc6) (O : Old Z n0 h0) (M : Mr Z "[Ljava/lang/Object;" mr) :
    Pays l Z (⟨"java/util/Optional", "isPresent", "()Z"⟩ : MethodName) jdk_32_method_6_code 1 (some .boolean) ({ frames := 0, cells := 0, slots := 0, locals := 0 } : Room) #[(.ref q)] n0 h0 (QP (some (.int (0 : Int32))) h0) := by
  refine Pays.of hw (plainFor_of_name pn14) (fun m => ef_rmIP_0 m q) fun B C => ?_
  refine iAloadN C d13_0 rfl rfl ?_
  refine iGetF C tw86 F d13_1 ?_
  refine iNullT C (t := 11) d13_4 ⟨by decide, by decide⟩ ?_
  refine iIconst C d13_11 (v := (0 : Int32)) (by decide) ?_
  refine iRetZ C d13_12 (by simp) ⟨by decide, by decide⟩ ?_
  exact ⟨rfl, rfl⟩
theorem ef_rmOG (m : MethodId) (x0 : Addr) : entryFrame m #[(.ref x0)] 1 = mkF m 0 #[(.val (.ref x0))] [] := by first | (simp [entryFrame, mkF, argsToLocals, Value.category]; done) | rfl
set_option maxRecDepth 65536 in
set_option maxHeartbeats 4000000 in
theorem rmOG {l : Launch} {Z : State} {a0 : Array Value} (hw : ∀ d ∈ tables_1, d.before a0 Z = true) {n0 : Nat} {h0 : Heap} {ga1 ga2 ga3 ga4 ga5 ga6 ga7 : Addr} {gc1 gc2 gc4 gc6 : Cell} {mr : Addr} (q : Addr) (x : Addr) (F : Fld Z h0 q "java/util/Optional" "value" "Ljava/lang/Object;" (.ref x)) (G : GG Z ga1 ga2 ga3 ga4 ga5 ga6 ga7 gc1 gc2 gc4 gc6) (O : Old Z n0 h0) (M : Mr Z "[Ljava/lang/Object;" mr) :
    Pays l Z (⟨"java/util/Optional", "get", "()Ljava/lang/Object;"⟩ : MethodName) jdk_32_method_5_code 1 (some (.object "java/lang/Object")) ({ frames := 0, cells := 0, slots := 0, locals := 0 } : Room) #[(.ref q)] n0 h0 (QP (some (.ref x)) h0) := by
  refine Pays.of hw (plainFor_of_name pn14) (fun m => ef_rmOG m q) fun B C => ?_
  refine iAloadN C d36_0 rfl rfl ?_
  refine iGetF C tw86 F d36_1 ?_
  refine iNonnullT C (t := 17) d36_4 ⟨by decide, by decide⟩ ?_
  refine iAloadN C d36_17 rfl rfl ?_
  refine iGetF C tw86 F d36_18 ?_
  refine iRetA C d36_21 rfl rfl rfl ⟨by decide, by decide⟩ ?_
  exact ⟨rfl, rfl⟩
theorem ef_rmIV (m : MethodId) (x0 : Addr) : entryFrame m #[(.ref x0)] 1 = mkF m 0 #[(.val (.ref x0))] [] := by first | (simp [entryFrame, mkF, argsToLocals, Value.category]; done) | rfl
set_option maxRecDepth 65536 in
set_option maxHeartbeats 4000000 in
theorem rmIV {l : Launch} {Z : State} {a0 : Array Value} (hw : ∀ d ∈ tables_1, d.before a0 Z = true) {n0 : Nat} {h0 : Heap} {ga1 ga2 ga3 ga4 ga5 ga6 ga7 : Addr} {gc1 gc2 gc4 gc6 : Cell} {mr : Addr} (x : Addr) (z : Int32) (F : Fld Z h0 x "java/lang/Integer" "value" "I" (.int z)) (G : GG Z ga1 ga2 ga3 ga4 ga5 ga6 ga7 gc1 gc2 gc4 gc6) (O : Old Z n0 h0) (M : Mr Z "[Ljava/lang/Object;" mr) :
    Pays l Z (⟨"java/lang/Integer", "intValue", "()I"⟩ : MethodName) jdk_33_method_27_code 1 (some .int) ({ frames := 0, cells := 0, slots := 0, locals := 0 } : Room) #[(.ref x)] n0 h0 (QP (some (.int z)) h0) := by
  refine Pays.of hw (plainFor_of_name pn15) (fun m => ef_rmIV m x) fun B C => ?_
  refine iAloadN C d37_0 rfl rfl ?_
  refine iGetF C tw199 F d37_1 ?_
  refine iRetI C d37_4 ⟨by decide, by decide⟩ ?_
  exact ⟨rfl, rfl⟩
def QII (Z : State) (a : Addr) (z : Int32) (h0 : Heap) (v : Option Value) (h : Heap) : Prop := v = none ∧ Keep h0 h [a] ∧ Fld Z h a "java/lang/Integer" "value" "I" (.int z)
theorem ef_rmII (m : MethodId) (x0 : Addr) (x1 : Int32) : entryFrame m #[(.ref x0), (.int x1)] 2 = mkF m 0 #[(.val (.ref x0)), (.val (.int x1))] [] := by first | (simp [entryFrame, mkF, argsToLocals, Value.category]; done) | rfl
set_option maxRecDepth 65536 in
set_option maxHeartbeats 4000000 in
theorem rmII {l : Launch} {Z : State} {a0 : Array Value} (hw : ∀ d ∈ tables_1, d.before a0 Z = true) {n0 : Nat} {h0 : Heap} {ga1 ga2 ga3 ga4 ga5 ga6 ga7 : Addr} {gc1 gc2 gc4 gc6 : Cell} {mr : Addr}  (z : Int32) (a : Addr) (EA : Exa Z h0 a "java/lang/Integer") (F1 : Fld Z h0 a "java/lang/Integer" "value" "I" (.int 0)) (na : n0 ≤ a) (G : GG Z ga1 ga2 ga3 ga4 ga5 ga6 ga7 gc1 gc2 gc4 gc6) (O : Old Z n0 h0) (M : Mr Z "[Ljava/lang/Object;" mr) :
    Pays l Z (⟨"java/lang/Integer", "<init>", "(I)V"⟩ : MethodName) jdk_33_method_23_code 2 none ({ frames := 2, cells := 0, slots := 0, locals := 24 } : Room) #[(.ref a), (.int z)] n0 h0 (QII Z a z h0) := by
  refine Pays.of hw (plainFor_of_name pn15) (fun m => ef_rmII m a z) fun B C => ?_
  refine iAloadN C d29_0 rfl rfl ?_
  refine iCallI C (rmNUM hw a G O M) rfl tw192 tw193 tw196 tw197 ⟨by decide, by decide⟩ (a := a) (argsL := []) (S' := []) (lenOf pd0 rfl) rfl rfl d29_1 rfl (W := 0) rfl ⟨by decide, by decide, rfl, rfl, by decide, by decide⟩ fun v1 h1 q1 => ?_
  obtain ⟨rfl, rfl⟩ := q1
  show Go B n0 _ h0 0 0 4 #[(.val (.ref a)), (.val (.int z))] []
  refine iAloadN C d29_4 rfl rfl ?_
  refine iIloadN C d29_5 rfl ?_
  refine iPutF C (v := (.int z)) tw199 F1 EA (Or.inr ⟨tw200, rfl, rfl⟩) tw187 (ty := .int) (by decide) rfl rfl na d29_6 fun h2 W2 => ?_
  have Fw2 := Fld.same W2 F1
  have O2 := O.wr W2 na
  refine iRetV C d29_9 ⟨by decide, by decide⟩ ?_
  exact ⟨rfl, ((Keep.refl h0 [a]).wr W2 (Or.inl (by simp))), Fw2⟩
def QIW (Z : State) (z : Int32) (h0 : Heap) (v : Option Value) (h : Heap) : Prop := ∃ b : Addr, v = some (.ref b) ∧ Keep h0 h [] ∧ Exa Z h b "java/lang/Integer" ∧ Fld Z h b "java/lang/Integer" "value" "I" (.int z)
theorem ef_rmVO (m : MethodId) (x0 : Int32) : entryFrame m #[(.int x0)] 1 = mkF m 0 #[(.val (.int x0))] [] := by first | (simp [entryFrame, mkF, argsToLocals, Value.category]; done) | rfl
set_option maxRecDepth 65536 in
set_option maxHeartbeats 4000000 in
theorem rmVO {l : Launch} {Z : State} {a0 : Array Value} (hw : ∀ d ∈ tables_1, d.before a0 Z = true) {n0 : Nat} {h0 : Heap} {ga1 ga2 ga3 ga4 ga5 ga6 ga7 : Addr} {gc1 gc2 gc4 gc6 : Cell} {mr : Addr} (z : Int32) (HC : ∀ p : Int32, ¬ p < -128 → ¬ (127 : Int32) < p → ∃ b : Addr, ¬ ((p + 128) < 0 ∨ gc6.slots.size ≤ (p + 128).toNatClampNeg) ∧ gc6.slots[(p + 128).toNatClampNeg]? = some (.ref b) ∧ Exa Z Z.heap b "java/lang/Integer" ∧ Fld Z Z.heap b "java/lang/Integer" "value" "I" (.int p)) (G : GG Z ga1 ga2 ga3 ga4 ga5 ga6 ga7 gc1 gc2 gc4 gc6) (O : Old Z n0 h0) (M : Mr Z "[Ljava/lang/Object;" mr) :
    Pays l Z (⟨"java/lang/Integer", "valueOf", "(I)Ljava/lang/Integer;"⟩ : MethodName) jdk_33_method_22_code 1 (some (.object "java/lang/Integer")) ({ frames := 3, cells := 1, slots := 1, locals := 38 } : Room) #[(.int z)] n0 h0 (QIW Z z h0) := by
  refine Pays.of hw (plainFor_of_name pn15) (fun m => ef_rmVO m z) fun B C => ?_
  refine iIloadN C d14_0 rfl ?_
  refine iBipush C d14_1 (v := (-128 : Int32)) (by decide) ?_
  by_cases hc1 : z < (-128 : Int32)
  · refine iCmpT C (t := 23) d14_3 (tlt hc1).1 ⟨by decide, by decide⟩ ?_
    refine iNew C tw186 tw187 tw90 d14_23 ⟨rfl, rfl, by decide, by decide⟩ fun h2 a2 g2 E2 A2 D2 => ?_
    have n_a2 : n0 ≤ a2 := oFresh O g2
    have O2 := O.ext E2
    have F2_value : Fld Z h2 a2 "java/lang/Integer" "value" "I" (.int (0 : Int32)) := D2 (Or.inr (hw _ tw200)) (ty := .int) (by decide)
    refine iDup C d14_26 rfl ?_
    refine iIloadN C d14_27 rfl ?_
    refine iCallI C (rmII hw z a2 A2 F2_value n_a2 G O2 M) rfl tw188 tw189 tw90 tw191 ⟨by decide, by decide⟩ (a := a2) (argsL := [(.int z)]) (S' := [(.ref a2)]) (lenOf pd19 rfl) rfl rfl d14_28 rfl (W := 1) rfl ⟨by decide, by decide, rfl, rfl, by decide, by decide⟩ fun v3 h3 q3 => ?_
    obtain ⟨rfl, K3, f1_3⟩ := q3
    have O3 := O2.keep K3 (allS n_a2 all0)
    show Go B n0 _ h3 1 1 31 #[(.val (.int z))] [(.ref a2)]
    refine iRetA C d14_31 rfl rfl rfl ⟨by decide, by decide⟩ ?_
    exact ⟨a2, rfl, (((Keep.refl h0 []).ext E2).trans K3 (allS (Or.inr (Nat.le_trans (Nat.le_refl _) (Nat.le_of_eq g2.symm))) all0)), (A2.keep K3), f1_3⟩
  · refine iCmpF C d14_3 (flt hc1).1 ?_
    refine iIloadN C d14_6 rfl ?_
    refine iGetS C tw92 (G.2.2.2.2.2.2.2.2.2.2.2.2.2.2.2.2.2.2.2.2.2.2.2.1.ext O.2) d14_7 ?_
    by_cases hc4 : (127 : Int32) < z
    · refine iCmpT C (t := 23) d14_10 (tlt hc4).2.2.1 ⟨by decide, by decide⟩ ?_
      refine iNew C tw186 tw187 tw90 d14_23 ⟨rfl, rfl, by decide, by decide⟩ fun h5 a5 g5 E5 A5 D5 => ?_
      have n_a5 : n0 ≤ a5 := oFresh O g5
      have O5 := O.ext E5
      have F5_value : Fld Z h5 a5 "java/lang/Integer" "value" "I" (.int (0 : Int32)) := D5 (Or.inr (hw _ tw200)) (ty := .int) (by decide)
      refine iDup C d14_26 rfl ?_
      refine iIloadN C d14_27 rfl ?_
      refine iCallI C (rmII hw z a5 A5 F5_value n_a5 G O5 M) rfl tw188 tw189 tw90 tw191 ⟨by decide, by decide⟩ (a := a5) (argsL := [(.int z)]) (S' := [(.ref a5)]) (lenOf pd19 rfl) rfl rfl d14_28 rfl (W := 1) rfl ⟨by decide, by decide, rfl, rfl, by decide, by decide⟩ fun v6 h6 q6 => ?_
      obtain ⟨rfl, K6, f1_6⟩ := q6
      have O6 := O5.keep K6 (allS n_a5 all0)
      show Go B n0 _ h6 1 1 31 #[(.val (.int z))] [(.ref a5)]
      refine iRetA C d14_31 rfl rfl rfl ⟨by decide, by decide⟩ ?_
      exact ⟨a5, rfl, (((Keep.refl h0 []).ext E5).trans K6 (allS (Or.inr (Nat.le_trans (Nat.le_refl _) (Nat.le_of_eq g5.symm))) all0)), (A5.keep K6), f1_6⟩
    · refine iCmpF C d14_10 (flt hc4).2.2.1 ?_
      refine iGetS C tw94 (G.2.2.2.2.2.2.2.2.2.2.2.2.2.1.ext O.2) d14_13 ?_
      refine iIloadN C d14_16 rfl ?_
      refine iSipush C d14_17 (v := (128 : Int32)) (by decide) ?_
      refine iIadd C d14_20 rfl ?_
      obtain ⟨cb, t1, t2, t3, t4⟩ := HC z hc1 hc4
      refine iAaload C (v := (.ref cb)) rfl (G.2.2.2.2.2.2.2.2.2.2.2.2.2.2.1.ext O.2) t1 t2 d14_21 ?_
      refine iRetA C d14_22 rfl rfl rfl ⟨by decide, by decide⟩ ?_
      exact ⟨cb, rfl, Keep.refl _ _, t3.ext O.2, t4.ext O.2⟩
theorem own_four (p : Int32) : (p &&& 3) = 0 ∨ (p &&& 3) = 1 ∨ (p &&& 3) = 2 ∨ (p &&& 3) = 3 := by
  have e1 := c_mask p 3 2 (by decide) (by decide)
  simp only [← Int32.toInt_inj]
  have q0 : (0 : Int32).toInt = 0 := by decide
  have q1 : (1 : Int32).toInt = 1 := by decide
  have q2 : (2 : Int32).toInt = 2 := by decide
  have q3 : (3 : Int32).toInt = 3 := by decide
  omega
theorem ef_rm0 (m : MethodId) (x0 : Int32) (x1 : Int32) (x2 : Int32) (x3 : Int32) : entryFrame m #[(.int x0), (.int x1), (.int x2), (.int x3)] maxLocals = mkF m 0 #[(.val (.int x0)), (.val (.int x1)), (.val (.int x2)), (.val (.int x3)), .unset, .unset, .unset, .unset, .unset, .unset, .unset] [] := by first | (simp [entryFrame, mkF, argsToLocals, Value.category, maxLocals]; done) | rfl
set_option maxRecDepth 65536 in
set_option maxHeartbeats 4000000 in
theorem rm0 {l : Launch} {Z : State} {a0 : Array Value} (hw : ∀ d ∈ tables_1, d.before a0 Z = true) {n0 : Nat} {h0 : Heap} {ga1 ga2 ga3 ga4 ga5 ga6 ga7 : Addr} {gc1 gc2 gc4 gc6 : Cell} {mr : Addr} (f p q r : Int32) (HC : ∀ p : Int32, ¬ p < -128 → ¬ (127 : Int32) < p → ∃ b : Addr, ¬ ((p + 128) < 0 ∨ gc6.slots.size ≤ (p + 128).toNatClampNeg) ∧ gc6.slots[(p + 128).toNatClampNeg]? = some (.ref b) ∧ Exa Z Z.heap b "java/lang/Integer" ∧ Fld Z Z.heap b "java/lang/Integer" "value" "I" (.int p)) (G : GG Z ga1 ga2 ga3 ga4 ga5 ga6 ga7 gc1 gc2 gc4 gc6) (O : Old Z n0 h0) (M : Mr Z "[Ljava/lang/Object;" mr) :
    Pays l Z x code maxLocals ret room_1 #[(.int f), (.int p), (.int q), (.int r)] n0 h0 (fun v _ => v = some (.int 1)) := by
  refine Pays.of hw (plainFor_of_name pn16) (fun m => ef_rm0 m f p q r) fun B C => ?_
  refine iIloadN C d0_0 rfl ?_
  refine iIconst C d0_1 (v := (1 : Int32)) (by decide) ?_
  refine iIand C d0_2 rfl ?_
  by_cases hc1 : (f &&& (1 : Int32)) = (0 : Int32)
  · refine iIfT C (t := 10) d0_3 ((if0 _ _).trans (teq hc1).1) ⟨by decide, by decide⟩ ?_
    refine iIconst C d0_10 (v := (0 : Int32)) (by decide) ?_
    refine iIstore C d0_11 (Ls' := #[(.val (.int f)), (.val (.int p)), (.val (.int q)), (.val (.int r)), (.val (.int (0 : Int32))), .unset, .unset, .unset, .unset, .unset, .unset]) rfl ?_
    refine iIloadN C d0_13 rfl ?_
    refine iIconst C d0_14 (v := (1 : Int32)) (by decide) ?_
    refine iIushr C d0_15 rfl ?_
    refine iIconst C d0_16 (v := (3 : Int32)) (by decide) ?_
    refine iIand C d0_17 rfl ?_
    rcases own_four ((f).toUInt32 >>> ((1 : Int32) &&& 31).toUInt32).toInt32 with q' | q' | q' | q'
    · rw [q']
      refine iIstore C d0_18 (Ls' := #[(.val (.int f)), (.val (.int p)), (.val (.int q)), (.val (.int r)), (.val (.int (0 : Int32))), (.val (.int (0 : Int32))), .unset, .unset, .unset, .unset, .unset]) rfl ?_
      refine iIload C d0_20 rfl ?_
      refine iIfT C (t := 34) d0_22 (by decide) ⟨by decide, by decide⟩ ?_
      refine iIload C d0_34 rfl ?_
      refine iIstore C d0_36 (Ls' := #[(.val (.int f)), (.val (.int p)), (.val (.int q)), (.val (.int r)), (.val (.int (0 : Int32))), (.val (.int (0 : Int32))), (.val (.int (0 : Int32))), .unset, .unset, .unset, .unset]) rfl ?_
      refine iNew C tw0 tw1 tw2 d0_38 ⟨rfl, rfl, by decide, by decide⟩ fun h2 a2 g2 E2 A2 D2 => ?_
      have n_a2 : n0 ≤ a2 := oFresh O g2
      have O2 := O.ext E2
      have F2_modCount : Fld Z h2 a2 "java/util/AbstractList" "modCount" "I" (.int (0 : Int32)) := D2 (Or.inl (hw _ tw22)) (ty := .int) (by decide)
      have F2_elementData : Fld Z h2 a2 "java/util/ArrayList" "elementData" "[Ljava/lang/Object;" .null := D2 (Or.inl (hw _ tw25)) (ty := (.array (.object "java/lang/Object"))) (by decide)
      have F2_size : Fld Z h2 a2 "java/util/ArrayList" "size" "I" (.int (0 : Int32)) := D2 (Or.inl (hw _ tw62)) (ty := .int) (by decide)
      refine iDup C d0_41 rfl ?_
      refine iCallI C (rmAL hw a2 A2 F2_modCount F2_size F2_elementData n_a2 G O2 M) rfl tw3 tw4 tw2 tw5 ⟨by decide, by decide⟩ (a := a2) (argsL := []) (S' := [(.ref a2)]) (lenOf pd0 rfl) rfl rfl d0_42 rfl (W := 1) rfl ⟨by decide, by decide, rfl, rfl, by decide, by decide⟩ fun v3 h3 q3 => ?_
      obtain ⟨rfl, K3, e_3, f1_3, f2_3, f3_3⟩ := q3
      have O3 := O2.keep K3 (allS n_a2 all0)
      show Go B n0 _ h3 1 3 45 #[(.val (.int f)), (.val (.int p)), (.val (.int q)), (.val (.int r)), (.val (.int (0 : Int32))), (.val (.int (0 : Int32))), (.val (.int (0 : Int32))), .unset, .unset, .unset, .unset] [(.ref a2)]
      refine iAstore C d0_45 (Ls' := #[(.val (.int f)), (.val (.int p)), (.val (.int q)), (.val (.int r)), (.val (.int (0 : Int32))), (.val (.int (0 : Int32))), (.val (.int (0 : Int32))), (.val (.ref a2)), .unset, .unset, .unset]) rfl rfl ?_
      refine iIload C d0_47 rfl ?_
      refine iIconst C d0_49 (v := (1 : Int32)) (by decide) ?_
      refine iCmpT C (t := 63) d0_50 (by decide) ⟨by decide, by decide⟩ ?_
      refine iIload C d0_63 rfl ?_
      refine iIconst C d0_65 (v := (2 : Int32)) (by decide) ?_
      refine iCmpT C (t := 79) d0_66 (by decide) ⟨by decide, by decide⟩ ?_
      refine iIload C d0_79 rfl ?_
      refine iIconst C d0_81 (v := (3 : Int32)) (by decide) ?_
      refine iCmpT C (t := 95) d0_82 (by decide) ⟨by decide, by decide⟩ ?_
      refine iNew C tw26 tw27 tw28 d0_95 ⟨rfl, rfl, by decide, by decide⟩ fun h4 a4 g4 E4 A4 D4 => ?_
      have n_a4 : n0 ≤ a4 := oFresh O3 g4
      have O4 := O3.ext E4
      have F4_items : Fld Z h4 a4 "com/example/uketsuke/uketsuke/core/conversation/Page" "items" "Ljava/util/List;" .null := D4 (Or.inr (hw _ tw68)) (ty := (.object "java/util/List")) (by decide)
      have F4_more : Fld Z h4 a4 "com/example/uketsuke/uketsuke/core/conversation/Page" "more" "Z" (.int (0 : Int32)) := D4 (Or.inr (hw _ tw70)) (ty := .boolean) (by decide)
      refine iDup C d0_98 rfl ?_
      refine iAload C d0_99 rfl rfl ?_
      refine iIload C d0_101 rfl ?_
      refine iCallI C (rmP_0_0 hw a4 A4 F4_items F4_more n_a4 a2 (e_3.ext E4) (f1_3.ext E4) (f2_3.ext E4) (f3_3.ext E4) n_a2 G O4 M) rfl tw29 tw30 tw28 tw31 ⟨by decide, by decide⟩ (a := a4) (argsL := [(.ref a2), (.int (0 : Int32))]) (S' := [(.ref a4)]) (lenOf pd20 rfl) rfl rfl d0_103 rfl (W := 1) rfl ⟨by decide, by decide, rfl, rfl, by decide, by decide⟩ fun v5 h5 q5 => ?_
      obtain ⟨rfl, K5, pm_5⟩ := q5
      have O5 := O4.keep K5 (allS n_a4 all0)
      show Go B n0 _ h5 2 5 106 #[(.val (.int f)), (.val (.int p)), (.val (.int q)), (.val (.int r)), (.val (.int (0 : Int32))), (.val (.int (0 : Int32))), (.val (.int (0 : Int32))), (.val (.ref a2)), .unset, .unset, .unset] [(.ref a4)]
      refine iAstore C d0_106 (Ls' := #[(.val (.int f)), (.val (.int p)), (.val (.int q)), (.val (.int r)), (.val (.int (0 : Int32))), (.val (.int (0 : Int32))), (.val (.int (0 : Int32))), (.val (.ref a2)), (.val (.ref a4)), .unset, .unset]) rfl rfl ?_
      refine iAload C d0_108 rfl rfl ?_
      refine iCallV C (rmK_0 hw a4 pm_5 G O5 M) (A4.keep K5) tw71 tw72 (Or.inl rfl) tw74 tw73 tw28 tw75 ⟨by decide, by decide⟩ (argsL := []) (S' := []) (lenOf pd15 rfl) rfl rfl d0_110 rfl (W := 0) rfl ⟨by decide, by decide, rfl, rfl, by decide, by decide⟩ fun v6 h6 q6 => ?_
      obtain ⟨rfl, rfl⟩ := q6
      show Go B n0 _ h5 2 5 113 #[(.val (.int f)), (.val (.int p)), (.val (.int q)), (.val (.int r)), (.val (.int (0 : Int32))), (.val (.int (0 : Int32))), (.val (.int (0 : Int32))), (.val (.ref a2)), (.val (.ref a4)), .unset, .unset] [(.ref ga5)]
      refine iAstore C d0_113 (Ls' := #[(.val (.int f)), (.val (.int p)), (.val (.int q)), (.val (.int r)), (.val (.int (0 : Int32))), (.val (.int (0 : Int32))), (.val (.int (0 : Int32))), (.val (.ref a2)), (.val (.ref a4)), (.val (.ref ga5)), .unset]) rfl rfl ?_
      refine iIload C d0_115 rfl ?_
      refine iIfF C d0_117 (by decide) ?_
      refine iAload C d0_120 rfl rfl ?_
      refine iCallV C (rmIP_0 hw ga5 (G.2.2.2.2.2.2.2.2.2.2.2.2.2.2.2.2.2.2.2.2.2.2.1.ext O5.2) G O5 M) (G.2.2.2.2.2.2.2.2.2.2.2.2.1.ext O5.2) tw81 tw82 (Or.inl rfl) tw84 tw83 tw78 tw85 ⟨by decide, by decide⟩ (argsL := []) (S' := []) (lenOf pd12 rfl) rfl rfl d0_122 rfl (W := 0) rfl ⟨by decide, by decide, rfl, rfl, by decide, by decide⟩ fun v7 h7 q7 => ?_
      obtain ⟨rfl, rfl⟩ := q7
      show Go B n0 _ h5 2 5 125 #[(.val (.int f)), (.val (.int p)), (.val (.int q)), (.val (.int r)), (.val (.int (0 : Int32))), (.val (.int (0 : Int32))), (.val (.int (0 : Int32))), (.val (.ref a2)), (.val (.ref a4)), (.val (.ref ga5)), .unset] [(.int (0 : Int32))]
      refine iIfF C d0_125 (by decide) ?_
      refine iIconst C d0_128 (v := (1 : Int32)) (by decide) ?_
      refine iGoto C (t := 133) d0_129 ⟨by decide, by decide⟩ ?_
      refine iRetZ C d0_133 (by simp) ⟨by decide, by decide⟩ ?_
      exact rfl
    · rw [q']
      refine iIstore C d0_18 (Ls' := #[(.val (.int f)), (.val (.int p)), (.val (.int q)), (.val (.int r)), (.val (.int (0 : Int32))), (.val (.int (1 : Int32))), .unset, .unset, .unset, .unset, .unset]) rfl ?_
      refine iIload C d0_20 rfl ?_
      refine iIfT C (t := 34) d0_22 (by decide) ⟨by decide, by decide⟩ ?_
      refine iIload C d0_34 rfl ?_
      refine iIstore C d0_36 (Ls' := #[(.val (.int f)), (.val (.int p)), (.val (.int q)), (.val (.int r)), (.val (.int (0 : Int32))), (.val (.int (1 : Int32))), (.val (.int (1 : Int32))), .unset, .unset, .unset, .unset]) rfl ?_
      refine iNew C tw0 tw1 tw2 d0_38 ⟨rfl, rfl, by decide, by decide⟩ fun h8 a8 g8 E8 A8 D8 => ?_
      have n_a8 : n0 ≤ a8 := oFresh O g8
      have O8 := O.ext E8
      have F8_modCount : Fld Z h8 a8 "java/util/AbstractList" "modCount" "I" (.int (0 : Int32)) := D8 (Or.inl (hw _ tw22)) (ty := .int) (by decide)
      have F8_elementData : Fld Z h8 a8 "java/util/ArrayList" "elementData" "[Ljava/lang/Object;" .null := D8 (Or.inl (hw _ tw25)) (ty := (.array (.object "java/lang/Object"))) (by decide)
      have F8_size : Fld Z h8 a8 "java/util/ArrayList" "size" "I" (.int (0 : Int32)) := D8 (Or.inl (hw _ tw62)) (ty := .int) (by decide)
      refine iDup C d0_41 rfl ?_
      refine iCallI C (rmAL hw a8 A8 F8_modCount F8_size F8_elementData n_a8 G O8 M) rfl tw3 tw4 tw2 tw5 ⟨by decide, by decide⟩ (a := a8) (argsL := []) (S' := [(.ref a8)]) (lenOf pd0 rfl) rfl rfl d0_42 rfl (W := 1) rfl ⟨by decide, by decide, rfl, rfl, by decide, by decide⟩ fun v9 h9 q9 => ?_
      obtain ⟨rfl, K9, e_9, f1_9, f2_9, f3_9⟩ := q9
      have O9 := O8.keep K9 (allS n_a8 all0)
      show Go B n0 _ h9 1 3 45 #[(.val (.int f)), (.val (.int p)), (.val (.int q)), (.val (.int r)), (.val (.int (0 : Int32))), (.val (.int (1 : Int32))), (.val (.int (1 : Int32))), .unset, .unset, .unset, .unset] [(.ref a8)]
      refine iAstore C d0_45 (Ls' := #[(.val (.int f)), (.val (.int p)), (.val (.int q)), (.val (.int r)), (.val (.int (0 : Int32))), (.val (.int (1 : Int32))), (.val (.int (1 : Int32))), (.val (.ref a8)), .unset, .unset, .unset]) rfl rfl ?_
      refine iIload C d0_47 rfl ?_
      refine iIconst C d0_49 (v := (1 : Int32)) (by decide) ?_
      refine iCmpF C d0_50 (by decide) ?_
      refine iAload C d0_53 rfl rfl ?_
      refine iIloadN C d0_55 rfl ?_
      refine iCallS C (rmVO hw p HC G O9 M) tw88 tw89 tw90 tw91 ⟨by decide, by decide⟩ (argsL := [(.int p)]) (S' := [(.ref a8)]) (lenOf pd21 rfl) rfl rfl d0_56 rfl (W := 1) rfl ⟨by decide, by decide, rfl, rfl, by decide, by decide⟩ fun v10 h10 q10 => ?_
      obtain ⟨x_10, rfl, K10, xe_10, xf_10⟩ := q10
      have O10 := O9.keep K10 all0
      show Go B n0 _ h10 2 4 59 #[(.val (.int f)), (.val (.int p)), (.val (.int q)), (.val (.int r)), (.val (.int (0 : Int32))), (.val (.int (1 : Int32))), (.val (.int (1 : Int32))), (.val (.ref a8)), .unset, .unset, .unset] [(.ref x_10), (.ref a8)]
      refine iCallV C (rmA_0 hw x_10 (Ins.of_exa xe_10 (hw _ tw123)) a8 (e_9.keep K10) (f1_9.keep K10 nin0) (f2_9.keep K10 nin0) (f3_9.keep K10 nin0) n_a8 G O10 M) (e_9.keep K10) tw95 tw96 (Or.inl rfl) tw98 tw97 tw2 tw99 ⟨by decide, by decide⟩ (argsL := [(.ref x_10)]) (S' := []) (lenOf pd22 rfl) rfl rfl d0_59 rfl (W := 0) rfl ⟨by decide, by decide, rfl, rfl, by decide, by decide⟩ fun v11 h11 q11 => ?_
      obtain ⟨rfl, b_11, k_11, sb_11, K11, e_11, f1_11, f2_11, f3_11, eb_11, vb_11, ov_11⟩ := q11
      have O11 := O10.keep K11 (allS n_a8 all0)
      have n_b_11 : n0 ≤ b_11 := Nat.le_trans (oSize O10) sb_11
      show Go B n0 _ h11 3 14 62 #[(.val (.int f)), (.val (.int p)), (.val (.int q)), (.val (.int r)), (.val (.int (0 : Int32))), (.val (.int (1 : Int32))), (.val (.int (1 : Int32))), (.val (.ref a8)), .unset, .unset, .unset] [(.int (1 : Int32))]
      refine iPop C d0_62 rfl ?_
      refine iIload C d0_63 rfl ?_
      refine iIconst C d0_65 (v := (2 : Int32)) (by decide) ?_
      refine iCmpT C (t := 79) d0_66 (by decide) ⟨by decide, by decide⟩ ?_
      refine iIload C d0_79 rfl ?_
      refine iIconst C d0_81 (v := (3 : Int32)) (by decide) ?_
      refine iCmpT C (t := 95) d0_82 (by decide) ⟨by decide, by decide⟩ ?_
      refine iNew C tw26 tw27 tw28 d0_95 ⟨rfl, rfl, by decide, by decide⟩ fun h12 a12 g12 E12 A12 D12 => ?_
      have n_a12 : n0 ≤ a12 := oFresh O11 g12
      have O12 := O11.ext E12
      have F12_items : Fld Z h12 a12 "com/example/uketsuke/uketsuke/core/conversation/Page" "items" "Ljava/util/List;" .null := D12 (Or.inr (hw _ tw68)) (ty := (.object "java/util/List")) (by decide)
      have F12_more : Fld Z h12 a12 "com/example/uketsuke/uketsuke/core/conversation/Page" "more" "Z" (.int (0 : Int32)) := D12 (Or.inr (hw _ tw70)) (ty := .boolean) (by decide)
      refine iDup C d0_98 rfl ?_
      refine iAload C d0_99 rfl rfl ?_
      refine iIload C d0_101 rfl ?_
      refine iCallI C (rmP_1_0 hw a12 A12 F12_items F12_more n_a12 a8 (e_11.ext E12) (f1_11.ext E12) (f2_11.ext E12) (f3_11.ext E12) n_a8 (eb_11.ext E12) (vb_11.ext E12) ov_11 n_b_11 (Ins.of_exa ((xe_10.keep K11).ext E12) (hw _ tw123)) G O12 M) rfl tw29 tw30 tw28 tw31 ⟨by decide, by decide⟩ (a := a12) (argsL := [(.ref a8), (.int (0 : Int32))]) (S' := [(.ref a12)]) (lenOf pd20 rfl) rfl rfl d0_103 rfl (W := 1) rfl ⟨by decide, by decide, rfl, rfl, by decide, by decide⟩ fun v13 h13 q13 => ?_
      obtain ⟨rfl, K13, pm_13⟩ := q13
      have O13 := O12.keep K13 (allS n_a12 all0)
      show Go B n0 _ h13 6 19 106 #[(.val (.int f)), (.val (.int p)), (.val (.int q)), (.val (.int r)), (.val (.int (0 : Int32))), (.val (.int (1 : Int32))), (.val (.int (1 : Int32))), (.val (.ref a8)), .unset, .unset, .unset] [(.ref a12)]
      refine iAstore C d0_106 (Ls' := #[(.val (.int f)), (.val (.int p)), (.val (.int q)), (.val (.int r)), (.val (.int (0 : Int32))), (.val (.int (1 : Int32))), (.val (.int (1 : Int32))), (.val (.ref a8)), (.val (.ref a12)), .unset, .unset]) rfl rfl ?_
      refine iAload C d0_108 rfl rfl ?_
      refine iCallV C (rmK_0 hw a12 pm_13 G O13 M) (A12.keep K13) tw71 tw72 (Or.inl rfl) tw74 tw73 tw28 tw75 ⟨by decide, by decide⟩ (argsL := []) (S' := []) (lenOf pd15 rfl) rfl rfl d0_110 rfl (W := 0) rfl ⟨by decide, by decide, rfl, rfl, by decide, by decide⟩ fun v14 h14 q14 => ?_
      obtain ⟨rfl, rfl⟩ := q14
      show Go B n0 _ h13 6 19 113 #[(.val (.int f)), (.val (.int p)), (.val (.int q)), (.val (.int r)), (.val (.int (0 : Int32))), (.val (.int (1 : Int32))), (.val (.int (1 : Int32))), (.val (.ref a8)), (.val (.ref a12)), .unset, .unset] [(.ref ga5)]
      refine iAstore C d0_113 (Ls' := #[(.val (.int f)), (.val (.int p)), (.val (.int q)), (.val (.int r)), (.val (.int (0 : Int32))), (.val (.int (1 : Int32))), (.val (.int (1 : Int32))), (.val (.ref a8)), (.val (.ref a12)), (.val (.ref ga5)), .unset]) rfl rfl ?_
      refine iIload C d0_115 rfl ?_
      refine iIfF C d0_117 (by decide) ?_
      refine iAload C d0_120 rfl rfl ?_
      refine iCallV C (rmIP_0 hw ga5 (G.2.2.2.2.2.2.2.2.2.2.2.2.2.2.2.2.2.2.2.2.2.2.1.ext O13.2) G O13 M) (G.2.2.2.2.2.2.2.2.2.2.2.2.1.ext O13.2) tw81 tw82 (Or.inl rfl) tw84 tw83 tw78 tw85 ⟨by decide, by decide⟩ (argsL := []) (S' := []) (lenOf pd12 rfl) rfl rfl d0_122 rfl (W := 0) rfl ⟨by decide, by decide, rfl, rfl, by decide, by decide⟩ fun v15 h15 q15 => ?_
      obtain ⟨rfl, rfl⟩ := q15
      show Go B n0 _ h13 6 19 125 #[(.val (.int f)), (.val (.int p)), (.val (.int q)), (.val (.int r)), (.val (.int (0 : Int32))), (.val (.int (1 : Int32))), (.val (.int (1 : Int32))), (.val (.ref a8)), (.val (.ref a12)), (.val (.ref ga5)), .unset] [(.int (0 : Int32))]
      refine iIfF C d0_125 (by decide) ?_
      refine iIconst C d0_128 (v := (1 : Int32)) (by decide) ?_
      refine iGoto C (t := 133) d0_129 ⟨by decide, by decide⟩ ?_
      refine iRetZ C d0_133 (by simp) ⟨by decide, by decide⟩ ?_
      exact rfl
    · rw [q']
      refine iIstore C d0_18 (Ls' := #[(.val (.int f)), (.val (.int p)), (.val (.int q)), (.val (.int r)), (.val (.int (0 : Int32))), (.val (.int (2 : Int32))), .unset, .unset, .unset, .unset, .unset]) rfl ?_
      refine iIload C d0_20 rfl ?_
      refine iIfT C (t := 34) d0_22 (by decide) ⟨by decide, by decide⟩ ?_
      refine iIload C d0_34 rfl ?_
      refine iIstore C d0_36 (Ls' := #[(.val (.int f)), (.val (.int p)), (.val (.int q)), (.val (.int r)), (.val (.int (0 : Int32))), (.val (.int (2 : Int32))), (.val (.int (2 : Int32))), .unset, .unset, .unset, .unset]) rfl ?_
      refine iNew C tw0 tw1 tw2 d0_38 ⟨rfl, rfl, by decide, by decide⟩ fun h16 a16 g16 E16 A16 D16 => ?_
      have n_a16 : n0 ≤ a16 := oFresh O g16
      have O16 := O.ext E16
      have F16_modCount : Fld Z h16 a16 "java/util/AbstractList" "modCount" "I" (.int (0 : Int32)) := D16 (Or.inl (hw _ tw22)) (ty := .int) (by decide)
      have F16_elementData : Fld Z h16 a16 "java/util/ArrayList" "elementData" "[Ljava/lang/Object;" .null := D16 (Or.inl (hw _ tw25)) (ty := (.array (.object "java/lang/Object"))) (by decide)
      have F16_size : Fld Z h16 a16 "java/util/ArrayList" "size" "I" (.int (0 : Int32)) := D16 (Or.inl (hw _ tw62)) (ty := .int) (by decide)
      refine iDup C d0_41 rfl ?_
      refine iCallI C (rmAL hw a16 A16 F16_modCount F16_size F16_elementData n_a16 G O16 M) rfl tw3 tw4 tw2 tw5 ⟨by decide, by decide⟩ (a := a16) (argsL := []) (S' := [(.ref a16)]) (lenOf pd0 rfl) rfl rfl d0_42 rfl (W := 1) rfl ⟨by decide, by decide, rfl, rfl, by decide, by decide⟩ fun v17 h17 q17 => ?_
      obtain ⟨rfl, K17, e_17, f1_17, f2_17, f3_17⟩ := q17
      have O17 := O16.keep K17 (allS n_a16 all0)
      show Go B n0 _ h17 1 3 45 #[(.val (.int f)), (.val (.int p)), (.val (.int q)), (.val (.int r)), (.val (.int (0 : Int32))), (.val (.int (2 : Int32))), (.val (.int (2 : Int32))), .unset, .unset, .unset, .unset] [(.ref a16)]
      refine iAstore C d0_45 (Ls' := #[(.val (.int f)), (.val (.int p)), (.val (.int q)), (.val (.int r)), (.val (.int (0 : Int32))), (.val (.int (2 : Int32))), (.val (.int (2 : Int32))), (.val (.ref a16)), .unset, .unset, .unset]) rfl rfl ?_
      refine iIload C d0_47 rfl ?_
      refine iIconst C d0_49 (v := (1 : Int32)) (by decide) ?_
      refine iCmpF C d0_50 (by decide) ?_
      refine iAload C d0_53 rfl rfl ?_
      refine iIloadN C d0_55 rfl ?_
      refine iCallS C (rmVO hw p HC G O17 M) tw88 tw89 tw90 tw91 ⟨by decide, by decide⟩ (argsL := [(.int p)]) (S' := [(.ref a16)]) (lenOf pd21 rfl) rfl rfl d0_56 rfl (W := 1) rfl ⟨by decide, by decide, rfl, rfl, by decide, by decide⟩ fun v18 h18 q18 => ?_
      obtain ⟨x_18, rfl, K18, xe_18, xf_18⟩ := q18
      have O18 := O17.keep K18 all0
      show Go B n0 _ h18 2 4 59 #[(.val (.int f)), (.val (.int p)), (.val (.int q)), (.val (.int r)), (.val (.int (0 : Int32))), (.val (.int (2 : Int32))), (.val (.int (2 : Int32))), (.val (.ref a16)), .unset, .unset, .unset] [(.ref x_18), (.ref a16)]
      refine iCallV C (rmA_0 hw x_18 (Ins.of_exa xe_18 (hw _ tw123)) a16 (e_17.keep K18) (f1_17.keep K18 nin0) (f2_17.keep K18 nin0) (f3_17.keep K18 nin0) n_a16 G O18 M) (e_17.keep K18) tw95 tw96 (Or.inl rfl) tw98 tw97 tw2 tw99 ⟨by decide, by decide⟩ (argsL := [(.ref x_18)]) (S' := []) (lenOf pd22 rfl) rfl rfl d0_59 rfl (W := 0) rfl ⟨by decide, by decide, rfl, rfl, by decide, by decide⟩ fun v19 h19 q19 => ?_
      obtain ⟨rfl, b_19, k_19, sb_19, K19, e_19, f1_19, f2_19, f3_19, eb_19, vb_19, ov_19⟩ := q19
      have O19 := O18.keep K19 (allS n_a16 all0)
      have n_b_19 : n0 ≤ b_19 := Nat.le_trans (oSize O18) sb_19
      show Go B n0 _ h19 3 14 62 #[(.val (.int f)), (.val (.int p)), (.val (.int q)), (.val (.int r)), (.val (.int (0 : Int32))), (.val (.int (2 : Int32))), (.val (.int (2 : Int32))), (.val (.ref a16)), .unset, .unset, .unset] [(.int (1 : Int32))]
      refine iPop C d0_62 rfl ?_
      refine iIload C d0_63 rfl ?_
      refine iIconst C d0_65 (v := (2 : Int32)) (by decide) ?_
      refine iCmpF C d0_66 (by decide) ?_
      refine iAload C d0_69 rfl rfl ?_
      refine iIloadN C d0_71 rfl ?_
      refine iCallS C (rmVO hw q HC G O19 M) tw88 tw89 tw90 tw91 ⟨by decide, by decide⟩ (argsL := [(.int q)]) (S' := [(.ref a16)]) (lenOf pd21 rfl) rfl rfl d0_72 rfl (W := 1) rfl ⟨by decide, by decide, rfl, rfl, by decide, by decide⟩ fun v20 h20 q20 => ?_
      obtain ⟨x_20, rfl, K20, xe_20, xf_20⟩ := q20
      have O20 := O19.keep K20 all0
      show Go B n0 _ h20 4 15 75 #[(.val (.int f)), (.val (.int p)), (.val (.int q)), (.val (.int r)), (.val (.int (0 : Int32))), (.val (.int (2 : Int32))), (.val (.int (2 : Int32))), (.val (.ref a16)), .unset, .unset, .unset] [(.ref x_20), (.ref a16)]
      refine iCallV C (rmA_1 hw x_20 (Ins.of_exa xe_20 (hw _ tw123)) a16 (e_19.keep K20) (f1_19.keep K20 nin0) (f2_19.keep K20 nin0) (f3_19.keep K20 nin0) n_a16 (eb_19.keep K20) (vb_19.keep K20 nin0) ov_19 n_b_19 G O20 M) (e_19.keep K20) tw95 tw96 (Or.inl rfl) tw98 tw97 tw2 tw99 ⟨by decide, by decide⟩ (argsL := [(.ref x_20)]) (S' := []) (lenOf pd22 rfl) rfl rfl d0_75 rfl (W := 0) rfl ⟨by decide, by decide, rfl, rfl, by decide, by decide⟩ fun v21 h21 q21 => ?_
      obtain ⟨rfl, K21, e_21, f1_21, f2_21, f3_21, eb_21, vb_21, -⟩ := q21
      have O21 := O20.keep K21 (allS n_a16 (allS n_b_19 all0))
      show Go B n0 _ h21 4 15 78 #[(.val (.int f)), (.val (.int p)), (.val (.int q)), (.val (.int r)), (.val (.int (0 : Int32))), (.val (.int (2 : Int32))), (.val (.int (2 : Int32))), (.val (.ref a16)), .unset, .unset, .unset] [(.int (1 : Int32))]
      refine iPop C d0_78 rfl ?_
      refine iIload C d0_79 rfl ?_
      refine iIconst C d0_81 (v := (3 : Int32)) (by decide) ?_
      refine iCmpT C (t := 95) d0_82 (by decide) ⟨by decide, by decide⟩ ?_
      refine iNew C tw26 tw27 tw28 d0_95 ⟨rfl, rfl, by decide, by decide⟩ fun h22 a22 g22 E22 A22 D22 => ?_
      have n_a22 : n0 ≤ a22 := oFresh O21 g22
      have O22 := O21.ext E22
      have F22_items : Fld Z h22 a22 "com/example/uketsuke/uketsuke/core/conversation/Page" "items" "Ljava/util/List;" .null := D22 (Or.inr (hw _ tw68)) (ty := (.object "java/util/List")) (by decide)
      have F22_more : Fld Z h22 a22 "com/example/uketsuke/uketsuke/core/conversation/Page" "more" "Z" (.int (0 : Int32)) := D22 (Or.inr (hw _ tw70)) (ty := .boolean) (by decide)
      refine iDup C d0_98 rfl ?_
      refine iAload C d0_99 rfl rfl ?_
      refine iIload C d0_101 rfl ?_
      refine iCallI C (rmP_2_0 hw a22 A22 F22_items F22_more n_a22 a16 (e_21.ext E22) (f1_21.ext E22) (f2_21.ext E22) (f3_21.ext E22) n_a16 (eb_21.ext E22) (vb_21.ext E22) ov_19 n_b_19 (Ins.of_exa ((((xe_18.keep K19).keep K20).keep K21).ext E22) (hw _ tw123)) (Ins.of_exa ((xe_20.keep K21).ext E22) (hw _ tw123)) G O22 M) rfl tw29 tw30 tw28 tw31 ⟨by decide, by decide⟩ (a := a22) (argsL := [(.ref a16), (.int (0 : Int32))]) (S' := [(.ref a22)]) (lenOf pd20 rfl) rfl rfl d0_103 rfl (W := 1) rfl ⟨by decide, by decide, rfl, rfl, by decide, by decide⟩ fun v23 h23 q23 => ?_
      obtain ⟨rfl, K23, pm_23⟩ := q23
      have O23 := O22.keep K23 (allS n_a22 all0)
      show Go B n0 _ h23 7 21 106 #[(.val (.int f)), (.val (.int p)), (.val (.int q)), (.val (.int r)), (.val (.int (0 : Int32))), (.val (.int (2 : Int32))), (.val (.int (2 : Int32))), (.val (.ref a16)), .unset, .unset, .unset] [(.ref a22)]
      refine iAstore C d0_106 (Ls' := #[(.val (.int f)), (.val (.int p)), (.val (.int q)), (.val (.int r)), (.val (.int (0 : Int32))), (.val (.int (2 : Int32))), (.val (.int (2 : Int32))), (.val (.ref a16)), (.val (.ref a22)), .unset, .unset]) rfl rfl ?_
      refine iAload C d0_108 rfl rfl ?_
      refine iCallV C (rmK_0 hw a22 pm_23 G O23 M) (A22.keep K23) tw71 tw72 (Or.inl rfl) tw74 tw73 tw28 tw75 ⟨by decide, by decide⟩ (argsL := []) (S' := []) (lenOf pd15 rfl) rfl rfl d0_110 rfl (W := 0) rfl ⟨by decide, by decide, rfl, rfl, by decide, by decide⟩ fun v24 h24 q24 => ?_
      obtain ⟨rfl, rfl⟩ := q24
      show Go B n0 _ h23 7 21 113 #[(.val (.int f)), (.val (.int p)), (.val (.int q)), (.val (.int r)), (.val (.int (0 : Int32))), (.val (.int (2 : Int32))), (.val (.int (2 : Int32))), (.val (.ref a16)), (.val (.ref a22)), .unset, .unset] [(.ref ga5)]
      refine iAstore C d0_113 (Ls' := #[(.val (.int f)), (.val (.int p)), (.val (.int q)), (.val (.int r)), (.val (.int (0 : Int32))), (.val (.int (2 : Int32))), (.val (.int (2 : Int32))), (.val (.ref a16)), (.val (.ref a22)), (.val (.ref ga5)), .unset]) rfl rfl ?_
      refine iIload C d0_115 rfl ?_
      refine iIfF C d0_117 (by decide) ?_
      refine iAload C d0_120 rfl rfl ?_
      refine iCallV C (rmIP_0 hw ga5 (G.2.2.2.2.2.2.2.2.2.2.2.2.2.2.2.2.2.2.2.2.2.2.1.ext O23.2) G O23 M) (G.2.2.2.2.2.2.2.2.2.2.2.2.1.ext O23.2) tw81 tw82 (Or.inl rfl) tw84 tw83 tw78 tw85 ⟨by decide, by decide⟩ (argsL := []) (S' := []) (lenOf pd12 rfl) rfl rfl d0_122 rfl (W := 0) rfl ⟨by decide, by decide, rfl, rfl, by decide, by decide⟩ fun v25 h25 q25 => ?_
      obtain ⟨rfl, rfl⟩ := q25
      show Go B n0 _ h23 7 21 125 #[(.val (.int f)), (.val (.int p)), (.val (.int q)), (.val (.int r)), (.val (.int (0 : Int32))), (.val (.int (2 : Int32))), (.val (.int (2 : Int32))), (.val (.ref a16)), (.val (.ref a22)), (.val (.ref ga5)), .unset] [(.int (0 : Int32))]
      refine iIfF C d0_125 (by decide) ?_
      refine iIconst C d0_128 (v := (1 : Int32)) (by decide) ?_
      refine iGoto C (t := 133) d0_129 ⟨by decide, by decide⟩ ?_
      refine iRetZ C d0_133 (by simp) ⟨by decide, by decide⟩ ?_
      exact rfl
    · rw [q']
      refine iIstore C d0_18 (Ls' := #[(.val (.int f)), (.val (.int p)), (.val (.int q)), (.val (.int r)), (.val (.int (0 : Int32))), (.val (.int (3 : Int32))), .unset, .unset, .unset, .unset, .unset]) rfl ?_
      refine iIload C d0_20 rfl ?_
      refine iIfT C (t := 34) d0_22 (by decide) ⟨by decide, by decide⟩ ?_
      refine iIload C d0_34 rfl ?_
      refine iIstore C d0_36 (Ls' := #[(.val (.int f)), (.val (.int p)), (.val (.int q)), (.val (.int r)), (.val (.int (0 : Int32))), (.val (.int (3 : Int32))), (.val (.int (3 : Int32))), .unset, .unset, .unset, .unset]) rfl ?_
      refine iNew C tw0 tw1 tw2 d0_38 ⟨rfl, rfl, by decide, by decide⟩ fun h26 a26 g26 E26 A26 D26 => ?_
      have n_a26 : n0 ≤ a26 := oFresh O g26
      have O26 := O.ext E26
      have F26_modCount : Fld Z h26 a26 "java/util/AbstractList" "modCount" "I" (.int (0 : Int32)) := D26 (Or.inl (hw _ tw22)) (ty := .int) (by decide)
      have F26_elementData : Fld Z h26 a26 "java/util/ArrayList" "elementData" "[Ljava/lang/Object;" .null := D26 (Or.inl (hw _ tw25)) (ty := (.array (.object "java/lang/Object"))) (by decide)
      have F26_size : Fld Z h26 a26 "java/util/ArrayList" "size" "I" (.int (0 : Int32)) := D26 (Or.inl (hw _ tw62)) (ty := .int) (by decide)
      refine iDup C d0_41 rfl ?_
      refine iCallI C (rmAL hw a26 A26 F26_modCount F26_size F26_elementData n_a26 G O26 M) rfl tw3 tw4 tw2 tw5 ⟨by decide, by decide⟩ (a := a26) (argsL := []) (S' := [(.ref a26)]) (lenOf pd0 rfl) rfl rfl d0_42 rfl (W := 1) rfl ⟨by decide, by decide, rfl, rfl, by decide, by decide⟩ fun v27 h27 q27 => ?_
      obtain ⟨rfl, K27, e_27, f1_27, f2_27, f3_27⟩ := q27
      have O27 := O26.keep K27 (allS n_a26 all0)
      show Go B n0 _ h27 1 3 45 #[(.val (.int f)), (.val (.int p)), (.val (.int q)), (.val (.int r)), (.val (.int (0 : Int32))), (.val (.int (3 : Int32))), (.val (.int (3 : Int32))), .unset, .unset, .unset, .unset] [(.ref a26)]
      refine iAstore C d0_45 (Ls' := #[(.val (.int f)), (.val (.int p)), (.val (.int q)), (.val (.int r)), (.val (.int (0 : Int32))), (.val (.int (3 : Int32))), (.val (.int (3 : Int32))), (.val (.ref a26)), .unset, .unset, .unset]) rfl rfl ?_
      refine iIload C d0_47 rfl ?_
      refine iIconst C d0_49 (v := (1 : Int32)) (by decide) ?_
      refine iCmpF C d0_50 (by decide) ?_
      refine iAload C d0_53 rfl rfl ?_
      refine iIloadN C d0_55 rfl ?_
      refine iCallS C (rmVO hw p HC G O27 M) tw88 tw89 tw90 tw91 ⟨by decide, by decide⟩ (argsL := [(.int p)]) (S' := [(.ref a26)]) (lenOf pd21 rfl) rfl rfl d0_56 rfl (W := 1) rfl ⟨by decide, by decide, rfl, rfl, by decide, by decide⟩ fun v28 h28 q28 => ?_
      obtain ⟨x_28, rfl, K28, xe_28, xf_28⟩ := q28
      have O28 := O27.keep K28 all0
      show Go B n0 _ h28 2 4 59 #[(.val (.int f)), (.val (.int p)), (.val (.int q)), (.val (.int r)), (.val (.int (0 : Int32))), (.val (.int (3 : Int32))), (.val (.int (3 : Int32))), (.val (.ref a26)), .unset, .unset, .unset] [(.ref x_28), (.ref a26)]
      refine iCallV C (rmA_0 hw x_28 (Ins.of_exa xe_28 (hw _ tw123)) a26 (e_27.keep K28) (f1_27.keep K28 nin0) (f2_27.keep K28 nin0) (f3_27.keep K28 nin0) n_a26 G O28 M) (e_27.keep K28) tw95 tw96 (Or.inl rfl) tw98 tw97 tw2 tw99 ⟨by decide, by decide⟩ (argsL := [(.ref x_28)]) (S' := []) (lenOf pd22 rfl) rfl rfl d0_59 rfl (W := 0) rfl ⟨by decide, by decide, rfl, rfl, by decide, by decide⟩ fun v29 h29 q29 => ?_
      obtain ⟨rfl, b_29, k_29, sb_29, K29, e_29, f1_29, f2_29, f3_29, eb_29, vb_29, ov_29⟩ := q29
      have O29 := O28.keep K29 (allS n_a26 all0)
      have n_b_29 : n0 ≤ b_29 := Nat.le_trans (oSize O28) sb_29
      show Go B n0 _ h29 3 14 62 #[(.val (.int f)), (.val (.int p)), (.val (.int q)), (.val (.int r)), (.val (.int (0 : Int32))), (.val (.int (3 : Int32))), (.val (.int (3 : Int32))), (.val (.ref a26)), .unset, .unset, .unset] [(.int (1 : Int32))]
      refine iPop C d0_62 rfl ?_
      refine iIload C d0_63 rfl ?_
      refine iIconst C d0_65 (v := (2 : Int32)) (by decide) ?_
      refine iCmpF C d0_66 (by decide) ?_
      refine iAload C d0_69 rfl rfl ?_
      refine iIloadN C d0_71 rfl ?_
      refine iCallS C (rmVO hw q HC G O29 M) tw88 tw89 tw90 tw91 ⟨by decide, by decide⟩ (argsL := [(.int q)]) (S' := [(.ref a26)]) (lenOf pd21 rfl) rfl rfl d0_72 rfl (W := 1) rfl ⟨by decide, by decide, rfl, rfl, by decide, by decide⟩ fun v30 h30 q30 => ?_
      obtain ⟨x_30, rfl, K30, xe_30, xf_30⟩ := q30
      have O30 := O29.keep K30 all0
      show Go B n0 _ h30 4 15 75 #[(.val (.int f)), (.val (.int p)), (.val (.int q)), (.val (.int r)), (.val (.int (0 : Int32))), (.val (.int (3 : Int32))), (.val (.int (3 : Int32))), (.val (.ref a26)), .unset, .unset, .unset] [(.ref x_30), (.ref a26)]
      refine iCallV C (rmA_1 hw x_30 (Ins.of_exa xe_30 (hw _ tw123)) a26 (e_29.keep K30) (f1_29.keep K30 nin0) (f2_29.keep K30 nin0) (f3_29.keep K30 nin0) n_a26 (eb_29.keep K30) (vb_29.keep K30 nin0) ov_29 n_b_29 G O30 M) (e_29.keep K30) tw95 tw96 (Or.inl rfl) tw98 tw97 tw2 tw99 ⟨by decide, by decide⟩ (argsL := [(.ref x_30)]) (S' := []) (lenOf pd22 rfl) rfl rfl d0_75 rfl (W := 0) rfl ⟨by decide, by decide, rfl, rfl, by decide, by decide⟩ fun v31 h31 q31 => ?_
      obtain ⟨rfl, K31, e_31, f1_31, f2_31, f3_31, eb_31, vb_31, -⟩ := q31
      have O31 := O30.keep K31 (allS n_a26 (allS n_b_29 all0))
      show Go B n0 _ h31 4 15 78 #[(.val (.int f)), (.val (.int p)), (.val (.int q)), (.val (.int r)), (.val (.int (0 : Int32))), (.val (.int (3 : Int32))), (.val (.int (3 : Int32))), (.val (.ref a26)), .unset, .unset, .unset] [(.int (1 : Int32))]
      refine iPop C d0_78 rfl ?_
      refine iIload C d0_79 rfl ?_
      refine iIconst C d0_81 (v := (3 : Int32)) (by decide) ?_
      refine iCmpF C d0_82 (by decide) ?_
      refine iAload C d0_85 rfl rfl ?_
      refine iIloadN C d0_87 rfl ?_
      refine iCallS C (rmVO hw r HC G O31 M) tw88 tw89 tw90 tw91 ⟨by decide, by decide⟩ (argsL := [(.int r)]) (S' := [(.ref a26)]) (lenOf pd21 rfl) rfl rfl d0_88 rfl (W := 1) rfl ⟨by decide, by decide, rfl, rfl, by decide, by decide⟩ fun v32 h32 q32 => ?_
      obtain ⟨x_32, rfl, K32, xe_32, xf_32⟩ := q32
      have O32 := O31.keep K32 all0
      show Go B n0 _ h32 5 16 91 #[(.val (.int f)), (.val (.int p)), (.val (.int q)), (.val (.int r)), (.val (.int (0 : Int32))), (.val (.int (3 : Int32))), (.val (.int (3 : Int32))), (.val (.ref a26)), .unset, .unset, .unset] [(.ref x_32), (.ref a26)]
      refine iCallV C (rmA_2 hw x_32 (Ins.of_exa xe_32 (hw _ tw123)) a26 (e_31.keep K32) (f1_31.keep K32 nin0) (f2_31.keep K32 nin0) (f3_31.keep K32 nin0) n_a26 (eb_31.keep K32) (vb_31.keep K32 nin0) ov_29 n_b_29 G O32 M) (e_31.keep K32) tw95 tw96 (Or.inl rfl) tw98 tw97 tw2 tw99 ⟨by decide, by decide⟩ (argsL := [(.ref x_32)]) (S' := []) (lenOf pd22 rfl) rfl rfl d0_91 rfl (W := 0) rfl ⟨by decide, by decide, rfl, rfl, by decide, by decide⟩ fun v33 h33 q33 => ?_
      obtain ⟨rfl, K33, e_33, f1_33, f2_33, f3_33, eb_33, vb_33, -⟩ := q33
      have O33 := O32.keep K33 (allS n_a26 (allS n_b_29 all0))
      show Go B n0 _ h33 5 16 94 #[(.val (.int f)), (.val (.int p)), (.val (.int q)), (.val (.int r)), (.val (.int (0 : Int32))), (.val (.int (3 : Int32))), (.val (.int (3 : Int32))), (.val (.ref a26)), .unset, .unset, .unset] [(.int (1 : Int32))]
      refine iPop C d0_94 rfl ?_
      refine iNew C tw26 tw27 tw28 d0_95 ⟨rfl, rfl, by decide, by decide⟩ fun h34 a34 g34 E34 A34 D34 => ?_
      have n_a34 : n0 ≤ a34 := oFresh O33 g34
      have O34 := O33.ext E34
      have F34_items : Fld Z h34 a34 "com/example/uketsuke/uketsuke/core/conversation/Page" "items" "Ljava/util/List;" .null := D34 (Or.inr (hw _ tw68)) (ty := (.object "java/util/List")) (by decide)
      have F34_more : Fld Z h34 a34 "com/example/uketsuke/uketsuke/core/conversation/Page" "more" "Z" (.int (0 : Int32)) := D34 (Or.inr (hw _ tw70)) (ty := .boolean) (by decide)
      refine iDup C d0_98 rfl ?_
      refine iAload C d0_99 rfl rfl ?_
      refine iIload C d0_101 rfl ?_
      refine iCallI C (rmP_3_0 hw a34 A34 F34_items F34_more n_a34 a26 (e_33.ext E34) (f1_33.ext E34) (f2_33.ext E34) (f3_33.ext E34) n_a26 (eb_33.ext E34) (vb_33.ext E34) ov_29 n_b_29 (Ins.of_exa ((((((xe_28.keep K29).keep K30).keep K31).keep K32).keep K33).ext E34) (hw _ tw123)) (Ins.of_exa ((((xe_30.keep K31).keep K32).keep K33).ext E34) (hw _ tw123)) (Ins.of_exa ((xe_32.keep K33).ext E34) (hw _ tw123)) G O34 M) rfl tw29 tw30 tw28 tw31 ⟨by decide, by decide⟩ (a := a34) (argsL := [(.ref a26), (.int (0 : Int32))]) (S' := [(.ref a34)]) (lenOf pd20 rfl) rfl rfl d0_103 rfl (W := 1) rfl ⟨by decide, by decide, rfl, rfl, by decide, by decide⟩ fun v35 h35 q35 => ?_
      obtain ⟨rfl, K35, pm_35⟩ := q35
      have O35 := O34.keep K35 (allS n_a34 all0)
      show Go B n0 _ h35 9 26 106 #[(.val (.int f)), (.val (.int p)), (.val (.int q)), (.val (.int r)), (.val (.int (0 : Int32))), (.val (.int (3 : Int32))), (.val (.int (3 : Int32))), (.val (.ref a26)), .unset, .unset, .unset] [(.ref a34)]
      refine iAstore C d0_106 (Ls' := #[(.val (.int f)), (.val (.int p)), (.val (.int q)), (.val (.int r)), (.val (.int (0 : Int32))), (.val (.int (3 : Int32))), (.val (.int (3 : Int32))), (.val (.ref a26)), (.val (.ref a34)), .unset, .unset]) rfl rfl ?_
      refine iAload C d0_108 rfl rfl ?_
      refine iCallV C (rmK_0 hw a34 pm_35 G O35 M) (A34.keep K35) tw71 tw72 (Or.inl rfl) tw74 tw73 tw28 tw75 ⟨by decide, by decide⟩ (argsL := []) (S' := []) (lenOf pd15 rfl) rfl rfl d0_110 rfl (W := 0) rfl ⟨by decide, by decide, rfl, rfl, by decide, by decide⟩ fun v36 h36 q36 => ?_
      obtain ⟨rfl, rfl⟩ := q36
      show Go B n0 _ h35 9 26 113 #[(.val (.int f)), (.val (.int p)), (.val (.int q)), (.val (.int r)), (.val (.int (0 : Int32))), (.val (.int (3 : Int32))), (.val (.int (3 : Int32))), (.val (.ref a26)), (.val (.ref a34)), .unset, .unset] [(.ref ga5)]
      refine iAstore C d0_113 (Ls' := #[(.val (.int f)), (.val (.int p)), (.val (.int q)), (.val (.int r)), (.val (.int (0 : Int32))), (.val (.int (3 : Int32))), (.val (.int (3 : Int32))), (.val (.ref a26)), (.val (.ref a34)), (.val (.ref ga5)), .unset]) rfl rfl ?_
      refine iIload C d0_115 rfl ?_
      refine iIfF C d0_117 (by decide) ?_
      refine iAload C d0_120 rfl rfl ?_
      refine iCallV C (rmIP_0 hw ga5 (G.2.2.2.2.2.2.2.2.2.2.2.2.2.2.2.2.2.2.2.2.2.2.1.ext O35.2) G O35 M) (G.2.2.2.2.2.2.2.2.2.2.2.2.1.ext O35.2) tw81 tw82 (Or.inl rfl) tw84 tw83 tw78 tw85 ⟨by decide, by decide⟩ (argsL := []) (S' := []) (lenOf pd12 rfl) rfl rfl d0_122 rfl (W := 0) rfl ⟨by decide, by decide, rfl, rfl, by decide, by decide⟩ fun v37 h37 q37 => ?_
      obtain ⟨rfl, rfl⟩ := q37
      show Go B n0 _ h35 9 26 125 #[(.val (.int f)), (.val (.int p)), (.val (.int q)), (.val (.int r)), (.val (.int (0 : Int32))), (.val (.int (3 : Int32))), (.val (.int (3 : Int32))), (.val (.ref a26)), (.val (.ref a34)), (.val (.ref ga5)), .unset] [(.int (0 : Int32))]
      refine iIfF C d0_125 (by decide) ?_
      refine iIconst C d0_128 (v := (1 : Int32)) (by decide) ?_
      refine iGoto C (t := 133) d0_129 ⟨by decide, by decide⟩ ?_
      refine iRetZ C d0_133 (by simp) ⟨by decide, by decide⟩ ?_
      exact rfl
  · refine iIfF C d0_3 ((if0 _ _).trans (feq hc1).1) ?_
    refine iIconst C d0_6 (v := (1 : Int32)) (by decide) ?_
    refine iGoto C (t := 11) d0_7 ⟨by decide, by decide⟩ ?_
    refine iIstore C d0_11 (Ls' := #[(.val (.int f)), (.val (.int p)), (.val (.int q)), (.val (.int r)), (.val (.int (1 : Int32))), .unset, .unset, .unset, .unset, .unset, .unset]) rfl ?_
    refine iIloadN C d0_13 rfl ?_
    refine iIconst C d0_14 (v := (1 : Int32)) (by decide) ?_
    refine iIushr C d0_15 rfl ?_
    refine iIconst C d0_16 (v := (3 : Int32)) (by decide) ?_
    refine iIand C d0_17 rfl ?_
    rcases own_four ((f).toUInt32 >>> ((1 : Int32) &&& 31).toUInt32).toInt32 with q' | q' | q' | q'
    · rw [q']
      refine iIstore C d0_18 (Ls' := #[(.val (.int f)), (.val (.int p)), (.val (.int q)), (.val (.int r)), (.val (.int (1 : Int32))), (.val (.int (0 : Int32))), .unset, .unset, .unset, .unset, .unset]) rfl ?_
      refine iIload C d0_20 rfl ?_
      refine iIfF C d0_22 (by decide) ?_
      refine iIload C d0_25 rfl ?_
      refine iIconst C d0_27 (v := (3 : Int32)) (by decide) ?_
      refine iIrem C d0_28 (by decide) (v := (0 : Int32)) (by decide) ?_
      refine iIconst C d0_29 (v := (1 : Int32)) (by decide) ?_
      refine iIadd C d0_30 (v := (1 : Int32)) (by decide) ?_
      refine iGoto C (t := 36) d0_31 ⟨by decide, by decide⟩ ?_
      refine iIstore C d0_36 (Ls' := #[(.val (.int f)), (.val (.int p)), (.val (.int q)), (.val (.int r)), (.val (.int (1 : Int32))), (.val (.int (0 : Int32))), (.val (.int (1 : Int32))), .unset, .unset, .unset, .unset]) rfl ?_
      refine iNew C tw0 tw1 tw2 d0_38 ⟨rfl, rfl, by decide, by decide⟩ fun h38 a38 g38 E38 A38 D38 => ?_
      have n_a38 : n0 ≤ a38 := oFresh O g38
      have O38 := O.ext E38
      have F38_modCount : Fld Z h38 a38 "java/util/AbstractList" "modCount" "I" (.int (0 : Int32)) := D38 (Or.inl (hw _ tw22)) (ty := .int) (by decide)
      have F38_elementData : Fld Z h38 a38 "java/util/ArrayList" "elementData" "[Ljava/lang/Object;" .null := D38 (Or.inl (hw _ tw25)) (ty := (.array (.object "java/lang/Object"))) (by decide)
      have F38_size : Fld Z h38 a38 "java/util/ArrayList" "size" "I" (.int (0 : Int32)) := D38 (Or.inl (hw _ tw62)) (ty := .int) (by decide)
      refine iDup C d0_41 rfl ?_
      refine iCallI C (rmAL hw a38 A38 F38_modCount F38_size F38_elementData n_a38 G O38 M) rfl tw3 tw4 tw2 tw5 ⟨by decide, by decide⟩ (a := a38) (argsL := []) (S' := [(.ref a38)]) (lenOf pd0 rfl) rfl rfl d0_42 rfl (W := 1) rfl ⟨by decide, by decide, rfl, rfl, by decide, by decide⟩ fun v39 h39 q39 => ?_
      obtain ⟨rfl, K39, e_39, f1_39, f2_39, f3_39⟩ := q39
      have O39 := O38.keep K39 (allS n_a38 all0)
      show Go B n0 _ h39 1 3 45 #[(.val (.int f)), (.val (.int p)), (.val (.int q)), (.val (.int r)), (.val (.int (1 : Int32))), (.val (.int (0 : Int32))), (.val (.int (1 : Int32))), .unset, .unset, .unset, .unset] [(.ref a38)]
      refine iAstore C d0_45 (Ls' := #[(.val (.int f)), (.val (.int p)), (.val (.int q)), (.val (.int r)), (.val (.int (1 : Int32))), (.val (.int (0 : Int32))), (.val (.int (1 : Int32))), (.val (.ref a38)), .unset, .unset, .unset]) rfl rfl ?_
      refine iIload C d0_47 rfl ?_
      refine iIconst C d0_49 (v := (1 : Int32)) (by decide) ?_
      refine iCmpF C d0_50 (by decide) ?_
      refine iAload C d0_53 rfl rfl ?_
      refine iIloadN C d0_55 rfl ?_
      refine iCallS C (rmVO hw p HC G O39 M) tw88 tw89 tw90 tw91 ⟨by decide, by decide⟩ (argsL := [(.int p)]) (S' := [(.ref a38)]) (lenOf pd21 rfl) rfl rfl d0_56 rfl (W := 1) rfl ⟨by decide, by decide, rfl, rfl, by decide, by decide⟩ fun v40 h40 q40 => ?_
      obtain ⟨x_40, rfl, K40, xe_40, xf_40⟩ := q40
      have O40 := O39.keep K40 all0
      show Go B n0 _ h40 2 4 59 #[(.val (.int f)), (.val (.int p)), (.val (.int q)), (.val (.int r)), (.val (.int (1 : Int32))), (.val (.int (0 : Int32))), (.val (.int (1 : Int32))), (.val (.ref a38)), .unset, .unset, .unset] [(.ref x_40), (.ref a38)]
      refine iCallV C (rmA_0 hw x_40 (Ins.of_exa xe_40 (hw _ tw123)) a38 (e_39.keep K40) (f1_39.keep K40 nin0) (f2_39.keep K40 nin0) (f3_39.keep K40 nin0) n_a38 G O40 M) (e_39.keep K40) tw95 tw96 (Or.inl rfl) tw98 tw97 tw2 tw99 ⟨by decide, by decide⟩ (argsL := [(.ref x_40)]) (S' := []) (lenOf pd22 rfl) rfl rfl d0_59 rfl (W := 0) rfl ⟨by decide, by decide, rfl, rfl, by decide, by decide⟩ fun v41 h41 q41 => ?_
      obtain ⟨rfl, b_41, k_41, sb_41, K41, e_41, f1_41, f2_41, f3_41, eb_41, vb_41, ov_41⟩ := q41
      have O41 := O40.keep K41 (allS n_a38 all0)
      have n_b_41 : n0 ≤ b_41 := Nat.le_trans (oSize O40) sb_41
      show Go B n0 _ h41 3 14 62 #[(.val (.int f)), (.val (.int p)), (.val (.int q)), (.val (.int r)), (.val (.int (1 : Int32))), (.val (.int (0 : Int32))), (.val (.int (1 : Int32))), (.val (.ref a38)), .unset, .unset, .unset] [(.int (1 : Int32))]
      refine iPop C d0_62 rfl ?_
      refine iIload C d0_63 rfl ?_
      refine iIconst C d0_65 (v := (2 : Int32)) (by decide) ?_
      refine iCmpT C (t := 79) d0_66 (by decide) ⟨by decide, by decide⟩ ?_
      refine iIload C d0_79 rfl ?_
      refine iIconst C d0_81 (v := (3 : Int32)) (by decide) ?_
      refine iCmpT C (t := 95) d0_82 (by decide) ⟨by decide, by decide⟩ ?_
      refine iNew C tw26 tw27 tw28 d0_95 ⟨rfl, rfl, by decide, by decide⟩ fun h42 a42 g42 E42 A42 D42 => ?_
      have n_a42 : n0 ≤ a42 := oFresh O41 g42
      have O42 := O41.ext E42
      have F42_items : Fld Z h42 a42 "com/example/uketsuke/uketsuke/core/conversation/Page" "items" "Ljava/util/List;" .null := D42 (Or.inr (hw _ tw68)) (ty := (.object "java/util/List")) (by decide)
      have F42_more : Fld Z h42 a42 "com/example/uketsuke/uketsuke/core/conversation/Page" "more" "Z" (.int (0 : Int32)) := D42 (Or.inr (hw _ tw70)) (ty := .boolean) (by decide)
      refine iDup C d0_98 rfl ?_
      refine iAload C d0_99 rfl rfl ?_
      refine iIload C d0_101 rfl ?_
      refine iCallI C (rmP_1_1 hw a42 A42 F42_items F42_more n_a42 a38 (e_41.ext E42) (f1_41.ext E42) (f2_41.ext E42) (f3_41.ext E42) n_a38 (eb_41.ext E42) (vb_41.ext E42) ov_41 n_b_41 (Ins.of_exa ((xe_40.keep K41).ext E42) (hw _ tw123)) G O42 M) rfl tw29 tw30 tw28 tw31 ⟨by decide, by decide⟩ (a := a42) (argsL := [(.ref a38), (.int (1 : Int32))]) (S' := [(.ref a42)]) (lenOf pd20 rfl) rfl rfl d0_103 rfl (W := 1) rfl ⟨by decide, by decide, rfl, rfl, by decide, by decide⟩ fun v43 h43 q43 => ?_
      obtain ⟨rfl, K43, pm_43, L_43, sL_43, pi_43, le_43, l0_43, l1_43⟩ := q43
      have O43 := O42.keep K43 (allS n_a42 all0)
      show Go B n0 _ h43 6 19 106 #[(.val (.int f)), (.val (.int p)), (.val (.int q)), (.val (.int r)), (.val (.int (1 : Int32))), (.val (.int (0 : Int32))), (.val (.int (1 : Int32))), (.val (.ref a38)), .unset, .unset, .unset] [(.ref a42)]
      refine iAstore C d0_106 (Ls' := #[(.val (.int f)), (.val (.int p)), (.val (.int q)), (.val (.int r)), (.val (.int (1 : Int32))), (.val (.int (0 : Int32))), (.val (.int (1 : Int32))), (.val (.ref a38)), (.val (.ref a42)), .unset, .unset]) rfl rfl ?_
      refine iAload C d0_108 rfl rfl ?_
      refine iCallV C (rmK_1 hw a42 L_43 ⟨le_43, l0_43, l1_43⟩ (((xe_40.keep K41).ext E42).keep K43) pm_43 pi_43 G O43 M) (A42.keep K43) tw71 tw72 (Or.inl rfl) tw74 tw73 tw28 tw75 ⟨by decide, by decide⟩ (argsL := []) (S' := []) (lenOf pd15 rfl) rfl rfl d0_110 rfl (W := 0) rfl ⟨by decide, by decide, rfl, rfl, by decide, by decide⟩ fun v44 h44 q44 => ?_
      obtain ⟨q_44, rfl, sq_44, K44, qe_44, qf_44⟩ := q44
      have O44 := O43.keep K44 all0
      show Go B n0 _ h44 7 20 113 #[(.val (.int f)), (.val (.int p)), (.val (.int q)), (.val (.int r)), (.val (.int (1 : Int32))), (.val (.int (0 : Int32))), (.val (.int (1 : Int32))), (.val (.ref a38)), (.val (.ref a42)), .unset, .unset] [(.ref q_44)]
      refine iAstore C d0_113 (Ls' := #[(.val (.int f)), (.val (.int p)), (.val (.int q)), (.val (.int r)), (.val (.int (1 : Int32))), (.val (.int (0 : Int32))), (.val (.int (1 : Int32))), (.val (.ref a38)), (.val (.ref a42)), (.val (.ref q_44)), .unset]) rfl rfl ?_
      refine iIload C d0_115 rfl ?_
      refine iIfT C (t := 134) d0_117 (by decide) ⟨by decide, by decide⟩ ?_
      refine iIload C d0_134 rfl ?_
      refine iIconst C d0_136 (v := (1 : Int32)) (by decide) ?_
      refine iCmpF C d0_137 (by decide) ?_
      refine iIloadN C d0_140 rfl ?_
      refine iGoto C (t := 155) d0_141 ⟨by decide, by decide⟩ ?_
      refine iIstore C d0_155 (Ls' := #[(.val (.int f)), (.val (.int p)), (.val (.int q)), (.val (.int r)), (.val (.int (1 : Int32))), (.val (.int (0 : Int32))), (.val (.int (1 : Int32))), (.val (.ref a38)), (.val (.ref a42)), (.val (.ref q_44)), (.val (.int p))]) rfl ?_
      refine iAload C d0_157 rfl rfl ?_
      refine iCallV C (rmIP_1 hw q_44 x_40 qf_44 G O44 M) qe_44 tw81 tw82 (Or.inl rfl) tw84 tw83 tw78 tw85 ⟨by decide, by decide⟩ (argsL := []) (S' := []) (lenOf pd12 rfl) rfl rfl d0_159 rfl (W := 0) rfl ⟨by decide, by decide, rfl, rfl, by decide, by decide⟩ fun v45 h45 q45 => ?_
      obtain ⟨rfl, rfl⟩ := q45
      show Go B n0 _ h44 7 20 162 #[(.val (.int f)), (.val (.int p)), (.val (.int q)), (.val (.int r)), (.val (.int (1 : Int32))), (.val (.int (0 : Int32))), (.val (.int (1 : Int32))), (.val (.ref a38)), (.val (.ref a42)), (.val (.ref q_44)), (.val (.int p))] [(.int (1 : Int32))]
      refine iIfF C d0_162 (by decide) ?_
      refine iAload C d0_165 rfl rfl ?_
      refine iCallV C (rmOG hw q_44 x_40 qf_44 G O44 M) qe_44 tw233 tw234 (Or.inl rfl) tw236 tw235 tw78 tw237 ⟨by decide, by decide⟩ (argsL := []) (S' := []) (lenOf pd23 rfl) rfl rfl d0_167 rfl (W := 0) rfl ⟨by decide, by decide, rfl, rfl, by decide, by decide⟩ fun v46 h46 q46 => ?_
      obtain ⟨rfl, rfl⟩ := q46
      show Go B n0 _ h44 7 20 170 #[(.val (.int f)), (.val (.int p)), (.val (.int q)), (.val (.int r)), (.val (.int (1 : Int32))), (.val (.int (0 : Int32))), (.val (.int (1 : Int32))), (.val (.ref a38)), (.val (.ref a42)), (.val (.ref q_44)), (.val (.int p))] [(.ref x_40)]
      refine iCast C tw238 (Ins.self ((((xe_40.keep K41).ext E42).keep K43).keep K44)) d0_170 ?_
      refine iCallV C (rmIV hw x_40 p ((((xf_40.keep K41 (ninS (ne_exa ((((xe_40.keep K41).ext E42).keep K43).keep K44) (((e_41.ext E42).keep K43).keep K44) (by decide)) nin0)).ext E42).keep K43 (ninS (ne_exa ((((xe_40.keep K41).ext E42).keep K43).keep K44) ((A42.keep K43).keep K44) (by decide)) nin0)).keep K44 nin0) G O44 M) ((((xe_40.keep K41).ext E42).keep K43).keep K44) tw239 tw240 (Or.inl rfl) tw242 tw241 tw90 tw243 ⟨by decide, by decide⟩ (argsL := []) (S' := []) (lenOf pd16 rfl) rfl rfl d0_173 rfl (W := 0) rfl ⟨by decide, by decide, rfl, rfl, by decide, by decide⟩ fun v47 h47 q47 => ?_
      obtain ⟨rfl, rfl⟩ := q47
      show Go B n0 _ h44 7 20 176 #[(.val (.int f)), (.val (.int p)), (.val (.int q)), (.val (.int r)), (.val (.int (1 : Int32))), (.val (.int (0 : Int32))), (.val (.int (1 : Int32))), (.val (.ref a38)), (.val (.ref a42)), (.val (.ref q_44)), (.val (.int p))] [(.int p)]
      refine iIload C d0_176 rfl ?_
      refine iCmpF C d0_178 (teq rfl).2 ?_
      refine iIconst C d0_181 (v := (1 : Int32)) (by decide) ?_
      refine iGoto C (t := 186) d0_182 ⟨by decide, by decide⟩ ?_
      refine iRetZ C d0_186 (by simp) ⟨by decide, by decide⟩ ?_
      exact rfl
    · rw [q']
      refine iIstore C d0_18 (Ls' := #[(.val (.int f)), (.val (.int p)), (.val (.int q)), (.val (.int r)), (.val (.int (1 : Int32))), (.val (.int (1 : Int32))), .unset, .unset, .unset, .unset, .unset]) rfl ?_
      refine iIload C d0_20 rfl ?_
      refine iIfF C d0_22 (by decide) ?_
      refine iIload C d0_25 rfl ?_
      refine iIconst C d0_27 (v := (3 : Int32)) (by decide) ?_
      refine iIrem C d0_28 (by decide) (v := (1 : Int32)) (by decide) ?_
      refine iIconst C d0_29 (v := (1 : Int32)) (by decide) ?_
      refine iIadd C d0_30 (v := (2 : Int32)) (by decide) ?_
      refine iGoto C (t := 36) d0_31 ⟨by decide, by decide⟩ ?_
      refine iIstore C d0_36 (Ls' := #[(.val (.int f)), (.val (.int p)), (.val (.int q)), (.val (.int r)), (.val (.int (1 : Int32))), (.val (.int (1 : Int32))), (.val (.int (2 : Int32))), .unset, .unset, .unset, .unset]) rfl ?_
      refine iNew C tw0 tw1 tw2 d0_38 ⟨rfl, rfl, by decide, by decide⟩ fun h48 a48 g48 E48 A48 D48 => ?_
      have n_a48 : n0 ≤ a48 := oFresh O g48
      have O48 := O.ext E48
      have F48_modCount : Fld Z h48 a48 "java/util/AbstractList" "modCount" "I" (.int (0 : Int32)) := D48 (Or.inl (hw _ tw22)) (ty := .int) (by decide)
      have F48_elementData : Fld Z h48 a48 "java/util/ArrayList" "elementData" "[Ljava/lang/Object;" .null := D48 (Or.inl (hw _ tw25)) (ty := (.array (.object "java/lang/Object"))) (by decide)
      have F48_size : Fld Z h48 a48 "java/util/ArrayList" "size" "I" (.int (0 : Int32)) := D48 (Or.inl (hw _ tw62)) (ty := .int) (by decide)
      refine iDup C d0_41 rfl ?_
      refine iCallI C (rmAL hw a48 A48 F48_modCount F48_size F48_elementData n_a48 G O48 M) rfl tw3 tw4 tw2 tw5 ⟨by decide, by decide⟩ (a := a48) (argsL := []) (S' := [(.ref a48)]) (lenOf pd0 rfl) rfl rfl d0_42 rfl (W := 1) rfl ⟨by decide, by decide, rfl, rfl, by decide, by decide⟩ fun v49 h49 q49 => ?_
      obtain ⟨rfl, K49, e_49, f1_49, f2_49, f3_49⟩ := q49
      have O49 := O48.keep K49 (allS n_a48 all0)
      show Go B n0 _ h49 1 3 45 #[(.val (.int f)), (.val (.int p)), (.val (.int q)), (.val (.int r)), (.val (.int (1 : Int32))), (.val (.int (1 : Int32))), (.val (.int (2 : Int32))), .unset, .unset, .unset, .unset] [(.ref a48)]
      refine iAstore C d0_45 (Ls' := #[(.val (.int f)), (.val (.int p)), (.val (.int q)), (.val (.int r)), (.val (.int (1 : Int32))), (.val (.int (1 : Int32))), (.val (.int (2 : Int32))), (.val (.ref a48)), .unset, .unset, .unset]) rfl rfl ?_
      refine iIload C d0_47 rfl ?_
      refine iIconst C d0_49 (v := (1 : Int32)) (by decide) ?_
      refine iCmpF C d0_50 (by decide) ?_
      refine iAload C d0_53 rfl rfl ?_
      refine iIloadN C d0_55 rfl ?_
      refine iCallS C (rmVO hw p HC G O49 M) tw88 tw89 tw90 tw91 ⟨by decide, by decide⟩ (argsL := [(.int p)]) (S' := [(.ref a48)]) (lenOf pd21 rfl) rfl rfl d0_56 rfl (W := 1) rfl ⟨by decide, by decide, rfl, rfl, by decide, by decide⟩ fun v50 h50 q50 => ?_
      obtain ⟨x_50, rfl, K50, xe_50, xf_50⟩ := q50
      have O50 := O49.keep K50 all0
      show Go B n0 _ h50 2 4 59 #[(.val (.int f)), (.val (.int p)), (.val (.int q)), (.val (.int r)), (.val (.int (1 : Int32))), (.val (.int (1 : Int32))), (.val (.int (2 : Int32))), (.val (.ref a48)), .unset, .unset, .unset] [(.ref x_50), (.ref a48)]
      refine iCallV C (rmA_0 hw x_50 (Ins.of_exa xe_50 (hw _ tw123)) a48 (e_49.keep K50) (f1_49.keep K50 nin0) (f2_49.keep K50 nin0) (f3_49.keep K50 nin0) n_a48 G O50 M) (e_49.keep K50) tw95 tw96 (Or.inl rfl) tw98 tw97 tw2 tw99 ⟨by decide, by decide⟩ (argsL := [(.ref x_50)]) (S' := []) (lenOf pd22 rfl) rfl rfl d0_59 rfl (W := 0) rfl ⟨by decide, by decide, rfl, rfl, by decide, by decide⟩ fun v51 h51 q51 => ?_
      obtain ⟨rfl, b_51, k_51, sb_51, K51, e_51, f1_51, f2_51, f3_51, eb_51, vb_51, ov_51⟩ := q51
      have O51 := O50.keep K51 (allS n_a48 all0)
      have n_b_51 : n0 ≤ b_51 := Nat.le_trans (oSize O50) sb_51
      show Go B n0 _ h51 3 14 62 #[(.val (.int f)), (.val (.int p)), (.val (.int q)), (.val (.int r)), (.val (.int (1 : Int32))), (.val (.int (1 : Int32))), (.val (.int (2 : Int32))), (.val (.ref a48)), .unset, .unset, .unset] [(.int (1 : Int32))]
      refine iPop C d0_62 rfl ?_
      refine iIload C d0_63 rfl ?_
      refine iIconst C d0_65 (v := (2 : Int32)) (by decide) ?_
      refine iCmpF C d0_66 (by decide) ?_
      refine iAload C d0_69 rfl rfl ?_
      refine iIloadN C d0_71 rfl ?_
      refine iCallS C (rmVO hw q HC G O51 M) tw88 tw89 tw90 tw91 ⟨by decide, by decide⟩ (argsL := [(.int q)]) (S' := [(.ref a48)]) (lenOf pd21 rfl) rfl rfl d0_72 rfl (W := 1) rfl ⟨by decide, by decide, rfl, rfl, by decide, by decide⟩ fun v52 h52 q52 => ?_
      obtain ⟨x_52, rfl, K52, xe_52, xf_52⟩ := q52
      have O52 := O51.keep K52 all0
      show Go B n0 _ h52 4 15 75 #[(.val (.int f)), (.val (.int p)), (.val (.int q)), (.val (.int r)), (.val (.int (1 : Int32))), (.val (.int (1 : Int32))), (.val (.int (2 : Int32))), (.val (.ref a48)), .unset, .unset, .unset] [(.ref x_52), (.ref a48)]
      refine iCallV C (rmA_1 hw x_52 (Ins.of_exa xe_52 (hw _ tw123)) a48 (e_51.keep K52) (f1_51.keep K52 nin0) (f2_51.keep K52 nin0) (f3_51.keep K52 nin0) n_a48 (eb_51.keep K52) (vb_51.keep K52 nin0) ov_51 n_b_51 G O52 M) (e_51.keep K52) tw95 tw96 (Or.inl rfl) tw98 tw97 tw2 tw99 ⟨by decide, by decide⟩ (argsL := [(.ref x_52)]) (S' := []) (lenOf pd22 rfl) rfl rfl d0_75 rfl (W := 0) rfl ⟨by decide, by decide, rfl, rfl, by decide, by decide⟩ fun v53 h53 q53 => ?_
      obtain ⟨rfl, K53, e_53, f1_53, f2_53, f3_53, eb_53, vb_53, -⟩ := q53
      have O53 := O52.keep K53 (allS n_a48 (allS n_b_51 all0))
      show Go B n0 _ h53 4 15 78 #[(.val (.int f)), (.val (.int p)), (.val (.int q)), (.val (.int r)), (.val (.int (1 : Int32))), (.val (.int (1 : Int32))), (.val (.int (2 : Int32))), (.val (.ref a48)), .unset, .unset, .unset] [(.int (1 : Int32))]
      refine iPop C d0_78 rfl ?_
      refine iIload C d0_79 rfl ?_
      refine iIconst C d0_81 (v := (3 : Int32)) (by decide) ?_
      refine iCmpT C (t := 95) d0_82 (by decide) ⟨by decide, by decide⟩ ?_
      refine iNew C tw26 tw27 tw28 d0_95 ⟨rfl, rfl, by decide, by decide⟩ fun h54 a54 g54 E54 A54 D54 => ?_
      have n_a54 : n0 ≤ a54 := oFresh O53 g54
      have O54 := O53.ext E54
      have F54_items : Fld Z h54 a54 "com/example/uketsuke/uketsuke/core/conversation/Page" "items" "Ljava/util/List;" .null := D54 (Or.inr (hw _ tw68)) (ty := (.object "java/util/List")) (by decide)
      have F54_more : Fld Z h54 a54 "com/example/uketsuke/uketsuke/core/conversation/Page" "more" "Z" (.int (0 : Int32)) := D54 (Or.inr (hw _ tw70)) (ty := .boolean) (by decide)
      refine iDup C d0_98 rfl ?_
      refine iAload C d0_99 rfl rfl ?_
      refine iIload C d0_101 rfl ?_
      refine iCallI C (rmP_2_1 hw a54 A54 F54_items F54_more n_a54 a48 (e_53.ext E54) (f1_53.ext E54) (f2_53.ext E54) (f3_53.ext E54) n_a48 (eb_53.ext E54) (vb_53.ext E54) ov_51 n_b_51 (Ins.of_exa ((((xe_50.keep K51).keep K52).keep K53).ext E54) (hw _ tw123)) (Ins.of_exa ((xe_52.keep K53).ext E54) (hw _ tw123)) G O54 M) rfl tw29 tw30 tw28 tw31 ⟨by decide, by decide⟩ (a := a54) (argsL := [(.ref a48), (.int (1 : Int32))]) (S' := [(.ref a54)]) (lenOf pd20 rfl) rfl rfl d0_103 rfl (W := 1) rfl ⟨by decide, by decide, rfl, rfl, by decide, by decide⟩ fun v55 h55 q55 => ?_
      obtain ⟨rfl, K55, pm_55, L_55, sL_55, pi_55, le_55, l0_55, l1_55⟩ := q55
      have O55 := O54.keep K55 (allS n_a54 all0)
      show Go B n0 _ h55 7 21 106 #[(.val (.int f)), (.val (.int p)), (.val (.int q)), (.val (.int r)), (.val (.int (1 : Int32))), (.val (.int (1 : Int32))), (.val (.int (2 : Int32))), (.val (.ref a48)), .unset, .unset, .unset] [(.ref a54)]
      refine iAstore C d0_106 (Ls' := #[(.val (.int f)), (.val (.int p)), (.val (.int q)), (.val (.int r)), (.val (.int (1 : Int32))), (.val (.int (1 : Int32))), (.val (.int (2 : Int32))), (.val (.ref a48)), (.val (.ref a54)), .unset, .unset]) rfl rfl ?_
      refine iAload C d0_108 rfl rfl ?_
      refine iCallV C (rmK_2 hw a54 L_55 ⟨le_55, l0_55, l1_55⟩ (((((xe_50.keep K51).keep K52).keep K53).ext E54).keep K55) (((xe_52.keep K53).ext E54).keep K55) pm_55 pi_55 G O55 M) (A54.keep K55) tw71 tw72 (Or.inl rfl) tw74 tw73 tw28 tw75 ⟨by decide, by decide⟩ (argsL := []) (S' := []) (lenOf pd15 rfl) rfl rfl d0_110 rfl (W := 0) rfl ⟨by decide, by decide, rfl, rfl, by decide, by decide⟩ fun v56 h56 q56 => ?_
      obtain ⟨q_56, rfl, sq_56, K56, qe_56, qf_56⟩ := q56
      have O56 := O55.keep K56 all0
      show Go B n0 _ h56 8 22 113 #[(.val (.int f)), (.val (.int p)), (.val (.int q)), (.val (.int r)), (.val (.int (1 : Int32))), (.val (.int (1 : Int32))), (.val (.int (2 : Int32))), (.val (.ref a48)), (.val (.ref a54)), .unset, .unset] [(.ref q_56)]
      refine iAstore C d0_113 (Ls' := #[(.val (.int f)), (.val (.int p)), (.val (.int q)), (.val (.int r)), (.val (.int (1 : Int32))), (.val (.int (1 : Int32))), (.val (.int (2 : Int32))), (.val (.ref a48)), (.val (.ref a54)), (.val (.ref q_56)), .unset]) rfl rfl ?_
      refine iIload C d0_115 rfl ?_
      refine iIfT C (t := 134) d0_117 (by decide) ⟨by decide, by decide⟩ ?_
      refine iIload C d0_134 rfl ?_
      refine iIconst C d0_136 (v := (1 : Int32)) (by decide) ?_
      refine iCmpT C (t := 144) d0_137 (by decide) ⟨by decide, by decide⟩ ?_
      refine iIload C d0_144 rfl ?_
      refine iIconst C d0_146 (v := (2 : Int32)) (by decide) ?_
      refine iCmpF C d0_147 (by decide) ?_
      refine iIloadN C d0_150 rfl ?_
      refine iGoto C (t := 155) d0_151 ⟨by decide, by decide⟩ ?_
      refine iIstore C d0_155 (Ls' := #[(.val (.int f)), (.val (.int p)), (.val (.int q)), (.val (.int r)), (.val (.int (1 : Int32))), (.val (.int (1 : Int32))), (.val (.int (2 : Int32))), (.val (.ref a48)), (.val (.ref a54)), (.val (.ref q_56)), (.val (.int q))]) rfl ?_
      refine iAload C d0_157 rfl rfl ?_
      refine iCallV C (rmIP_1 hw q_56 x_52 qf_56 G O56 M) qe_56 tw81 tw82 (Or.inl rfl) tw84 tw83 tw78 tw85 ⟨by decide, by decide⟩ (argsL := []) (S' := []) (lenOf pd12 rfl) rfl rfl d0_159 rfl (W := 0) rfl ⟨by decide, by decide, rfl, rfl, by decide, by decide⟩ fun v57 h57 q57 => ?_
      obtain ⟨rfl, rfl⟩ := q57
      show Go B n0 _ h56 8 22 162 #[(.val (.int f)), (.val (.int p)), (.val (.int q)), (.val (.int r)), (.val (.int (1 : Int32))), (.val (.int (1 : Int32))), (.val (.int (2 : Int32))), (.val (.ref a48)), (.val (.ref a54)), (.val (.ref q_56)), (.val (.int q))] [(.int (1 : Int32))]
      refine iIfF C d0_162 (by decide) ?_
      refine iAload C d0_165 rfl rfl ?_
      refine iCallV C (rmOG hw q_56 x_52 qf_56 G O56 M) qe_56 tw233 tw234 (Or.inl rfl) tw236 tw235 tw78 tw237 ⟨by decide, by decide⟩ (argsL := []) (S' := []) (lenOf pd23 rfl) rfl rfl d0_167 rfl (W := 0) rfl ⟨by decide, by decide, rfl, rfl, by decide, by decide⟩ fun v58 h58 q58 => ?_
      obtain ⟨rfl, rfl⟩ := q58
      show Go B n0 _ h56 8 22 170 #[(.val (.int f)), (.val (.int p)), (.val (.int q)), (.val (.int r)), (.val (.int (1 : Int32))), (.val (.int (1 : Int32))), (.val (.int (2 : Int32))), (.val (.ref a48)), (.val (.ref a54)), (.val (.ref q_56)), (.val (.int q))] [(.ref x_52)]
      refine iCast C tw238 (Ins.self ((((xe_52.keep K53).ext E54).keep K55).keep K56)) d0_170 ?_
      refine iCallV C (rmIV hw x_52 q ((((xf_52.keep K53 (ninS (ne_exa ((((xe_52.keep K53).ext E54).keep K55).keep K56) (((e_53.ext E54).keep K55).keep K56) (by decide)) (ninS (ne_exa ((((xe_52.keep K53).ext E54).keep K55).keep K56) (((eb_53.ext E54).keep K55).keep K56) (by decide)) nin0))).ext E54).keep K55 (ninS (ne_exa ((((xe_52.keep K53).ext E54).keep K55).keep K56) ((A54.keep K55).keep K56) (by decide)) nin0)).keep K56 nin0) G O56 M) ((((xe_52.keep K53).ext E54).keep K55).keep K56) tw239 tw240 (Or.inl rfl) tw242 tw241 tw90 tw243 ⟨by decide, by decide⟩ (argsL := []) (S' := []) (lenOf pd16 rfl) rfl rfl d0_173 rfl (W := 0) rfl ⟨by decide, by decide, rfl, rfl, by decide, by decide⟩ fun v59 h59 q59 => ?_
      obtain ⟨rfl, rfl⟩ := q59
      show Go B n0 _ h56 8 22 176 #[(.val (.int f)), (.val (.int p)), (.val (.int q)), (.val (.int r)), (.val (.int (1 : Int32))), (.val (.int (1 : Int32))), (.val (.int (2 : Int32))), (.val (.ref a48)), (.val (.ref a54)), (.val (.ref q_56)), (.val (.int q))] [(.int q)]
      refine iIload C d0_176 rfl ?_
      refine iCmpF C d0_178 (teq rfl).2 ?_
      refine iIconst C d0_181 (v := (1 : Int32)) (by decide) ?_
      refine iGoto C (t := 186) d0_182 ⟨by decide, by decide⟩ ?_
      refine iRetZ C d0_186 (by simp) ⟨by decide, by decide⟩ ?_
      exact rfl
    · rw [q']
      refine iIstore C d0_18 (Ls' := #[(.val (.int f)), (.val (.int p)), (.val (.int q)), (.val (.int r)), (.val (.int (1 : Int32))), (.val (.int (2 : Int32))), .unset, .unset, .unset, .unset, .unset]) rfl ?_
      refine iIload C d0_20 rfl ?_
      refine iIfF C d0_22 (by decide) ?_
      refine iIload C d0_25 rfl ?_
      refine iIconst C d0_27 (v := (3 : Int32)) (by decide) ?_
      refine iIrem C d0_28 (by decide) (v := (2 : Int32)) (by decide) ?_
      refine iIconst C d0_29 (v := (1 : Int32)) (by decide) ?_
      refine iIadd C d0_30 (v := (3 : Int32)) (by decide) ?_
      refine iGoto C (t := 36) d0_31 ⟨by decide, by decide⟩ ?_
      refine iIstore C d0_36 (Ls' := #[(.val (.int f)), (.val (.int p)), (.val (.int q)), (.val (.int r)), (.val (.int (1 : Int32))), (.val (.int (2 : Int32))), (.val (.int (3 : Int32))), .unset, .unset, .unset, .unset]) rfl ?_
      refine iNew C tw0 tw1 tw2 d0_38 ⟨rfl, rfl, by decide, by decide⟩ fun h60 a60 g60 E60 A60 D60 => ?_
      have n_a60 : n0 ≤ a60 := oFresh O g60
      have O60 := O.ext E60
      have F60_modCount : Fld Z h60 a60 "java/util/AbstractList" "modCount" "I" (.int (0 : Int32)) := D60 (Or.inl (hw _ tw22)) (ty := .int) (by decide)
      have F60_elementData : Fld Z h60 a60 "java/util/ArrayList" "elementData" "[Ljava/lang/Object;" .null := D60 (Or.inl (hw _ tw25)) (ty := (.array (.object "java/lang/Object"))) (by decide)
      have F60_size : Fld Z h60 a60 "java/util/ArrayList" "size" "I" (.int (0 : Int32)) := D60 (Or.inl (hw _ tw62)) (ty := .int) (by decide)
      refine iDup C d0_41 rfl ?_
      refine iCallI C (rmAL hw a60 A60 F60_modCount F60_size F60_elementData n_a60 G O60 M) rfl tw3 tw4 tw2 tw5 ⟨by decide, by decide⟩ (a := a60) (argsL := []) (S' := [(.ref a60)]) (lenOf pd0 rfl) rfl rfl d0_42 rfl (W := 1) rfl ⟨by decide, by decide, rfl, rfl, by decide, by decide⟩ fun v61 h61 q61 => ?_
      obtain ⟨rfl, K61, e_61, f1_61, f2_61, f3_61⟩ := q61
      have O61 := O60.keep K61 (allS n_a60 all0)
      show Go B n0 _ h61 1 3 45 #[(.val (.int f)), (.val (.int p)), (.val (.int q)), (.val (.int r)), (.val (.int (1 : Int32))), (.val (.int (2 : Int32))), (.val (.int (3 : Int32))), .unset, .unset, .unset, .unset] [(.ref a60)]
      refine iAstore C d0_45 (Ls' := #[(.val (.int f)), (.val (.int p)), (.val (.int q)), (.val (.int r)), (.val (.int (1 : Int32))), (.val (.int (2 : Int32))), (.val (.int (3 : Int32))), (.val (.ref a60)), .unset, .unset, .unset]) rfl rfl ?_
      refine iIload C d0_47 rfl ?_
      refine iIconst C d0_49 (v := (1 : Int32)) (by decide) ?_
      refine iCmpF C d0_50 (by decide) ?_
      refine iAload C d0_53 rfl rfl ?_
      refine iIloadN C d0_55 rfl ?_
      refine iCallS C (rmVO hw p HC G O61 M) tw88 tw89 tw90 tw91 ⟨by decide, by decide⟩ (argsL := [(.int p)]) (S' := [(.ref a60)]) (lenOf pd21 rfl) rfl rfl d0_56 rfl (W := 1) rfl ⟨by decide, by decide, rfl, rfl, by decide, by decide⟩ fun v62 h62 q62 => ?_
      obtain ⟨x_62, rfl, K62, xe_62, xf_62⟩ := q62
      have O62 := O61.keep K62 all0
      show Go B n0 _ h62 2 4 59 #[(.val (.int f)), (.val (.int p)), (.val (.int q)), (.val (.int r)), (.val (.int (1 : Int32))), (.val (.int (2 : Int32))), (.val (.int (3 : Int32))), (.val (.ref a60)), .unset, .unset, .unset] [(.ref x_62), (.ref a60)]
      refine iCallV C (rmA_0 hw x_62 (Ins.of_exa xe_62 (hw _ tw123)) a60 (e_61.keep K62) (f1_61.keep K62 nin0) (f2_61.keep K62 nin0) (f3_61.keep K62 nin0) n_a60 G O62 M) (e_61.keep K62) tw95 tw96 (Or.inl rfl) tw98 tw97 tw2 tw99 ⟨by decide, by decide⟩ (argsL := [(.ref x_62)]) (S' := []) (lenOf pd22 rfl) rfl rfl d0_59 rfl (W := 0) rfl ⟨by decide, by decide, rfl, rfl, by decide, by decide⟩ fun v63 h63 q63 => ?_
      obtain ⟨rfl, b_63, k_63, sb_63, K63, e_63, f1_63, f2_63, f3_63, eb_63, vb_63, ov_63⟩ := q63
      have O63 := O62.keep K63 (allS n_a60 all0)
      have n_b_63 : n0 ≤ b_63 := Nat.le_trans (oSize O62) sb_63
      show Go B n0 _ h63 3 14 62 #[(.val (.int f)), (.val (.int p)), (.val (.int q)), (.val (.int r)), (.val (.int (1 : Int32))), (.val (.int (2 : Int32))), (.val (.int (3 : Int32))), (.val (.ref a60)), .unset, .unset, .unset] [(.int (1 : Int32))]
      refine iPop C d0_62 rfl ?_
      refine iIload C d0_63 rfl ?_
      refine iIconst C d0_65 (v := (2 : Int32)) (by decide) ?_
      refine iCmpF C d0_66 (by decide) ?_
      refine iAload C d0_69 rfl rfl ?_
      refine iIloadN C d0_71 rfl ?_
      refine iCallS C (rmVO hw q HC G O63 M) tw88 tw89 tw90 tw91 ⟨by decide, by decide⟩ (argsL := [(.int q)]) (S' := [(.ref a60)]) (lenOf pd21 rfl) rfl rfl d0_72 rfl (W := 1) rfl ⟨by decide, by decide, rfl, rfl, by decide, by decide⟩ fun v64 h64 q64 => ?_
      obtain ⟨x_64, rfl, K64, xe_64, xf_64⟩ := q64
      have O64 := O63.keep K64 all0
      show Go B n0 _ h64 4 15 75 #[(.val (.int f)), (.val (.int p)), (.val (.int q)), (.val (.int r)), (.val (.int (1 : Int32))), (.val (.int (2 : Int32))), (.val (.int (3 : Int32))), (.val (.ref a60)), .unset, .unset, .unset] [(.ref x_64), (.ref a60)]
      refine iCallV C (rmA_1 hw x_64 (Ins.of_exa xe_64 (hw _ tw123)) a60 (e_63.keep K64) (f1_63.keep K64 nin0) (f2_63.keep K64 nin0) (f3_63.keep K64 nin0) n_a60 (eb_63.keep K64) (vb_63.keep K64 nin0) ov_63 n_b_63 G O64 M) (e_63.keep K64) tw95 tw96 (Or.inl rfl) tw98 tw97 tw2 tw99 ⟨by decide, by decide⟩ (argsL := [(.ref x_64)]) (S' := []) (lenOf pd22 rfl) rfl rfl d0_75 rfl (W := 0) rfl ⟨by decide, by decide, rfl, rfl, by decide, by decide⟩ fun v65 h65 q65 => ?_
      obtain ⟨rfl, K65, e_65, f1_65, f2_65, f3_65, eb_65, vb_65, -⟩ := q65
      have O65 := O64.keep K65 (allS n_a60 (allS n_b_63 all0))
      show Go B n0 _ h65 4 15 78 #[(.val (.int f)), (.val (.int p)), (.val (.int q)), (.val (.int r)), (.val (.int (1 : Int32))), (.val (.int (2 : Int32))), (.val (.int (3 : Int32))), (.val (.ref a60)), .unset, .unset, .unset] [(.int (1 : Int32))]
      refine iPop C d0_78 rfl ?_
      refine iIload C d0_79 rfl ?_
      refine iIconst C d0_81 (v := (3 : Int32)) (by decide) ?_
      refine iCmpF C d0_82 (by decide) ?_
      refine iAload C d0_85 rfl rfl ?_
      refine iIloadN C d0_87 rfl ?_
      refine iCallS C (rmVO hw r HC G O65 M) tw88 tw89 tw90 tw91 ⟨by decide, by decide⟩ (argsL := [(.int r)]) (S' := [(.ref a60)]) (lenOf pd21 rfl) rfl rfl d0_88 rfl (W := 1) rfl ⟨by decide, by decide, rfl, rfl, by decide, by decide⟩ fun v66 h66 q66 => ?_
      obtain ⟨x_66, rfl, K66, xe_66, xf_66⟩ := q66
      have O66 := O65.keep K66 all0
      show Go B n0 _ h66 5 16 91 #[(.val (.int f)), (.val (.int p)), (.val (.int q)), (.val (.int r)), (.val (.int (1 : Int32))), (.val (.int (2 : Int32))), (.val (.int (3 : Int32))), (.val (.ref a60)), .unset, .unset, .unset] [(.ref x_66), (.ref a60)]
      refine iCallV C (rmA_2 hw x_66 (Ins.of_exa xe_66 (hw _ tw123)) a60 (e_65.keep K66) (f1_65.keep K66 nin0) (f2_65.keep K66 nin0) (f3_65.keep K66 nin0) n_a60 (eb_65.keep K66) (vb_65.keep K66 nin0) ov_63 n_b_63 G O66 M) (e_65.keep K66) tw95 tw96 (Or.inl rfl) tw98 tw97 tw2 tw99 ⟨by decide, by decide⟩ (argsL := [(.ref x_66)]) (S' := []) (lenOf pd22 rfl) rfl rfl d0_91 rfl (W := 0) rfl ⟨by decide, by decide, rfl, rfl, by decide, by decide⟩ fun v67 h67 q67 => ?_
      obtain ⟨rfl, K67, e_67, f1_67, f2_67, f3_67, eb_67, vb_67, -⟩ := q67
      have O67 := O66.keep K67 (allS n_a60 (allS n_b_63 all0))
      show Go B n0 _ h67 5 16 94 #[(.val (.int f)), (.val (.int p)), (.val (.int q)), (.val (.int r)), (.val (.int (1 : Int32))), (.val (.int (2 : Int32))), (.val (.int (3 : Int32))), (.val (.ref a60)), .unset, .unset, .unset] [(.int (1 : Int32))]
      refine iPop C d0_94 rfl ?_
      refine iNew C tw26 tw27 tw28 d0_95 ⟨rfl, rfl, by decide, by decide⟩ fun h68 a68 g68 E68 A68 D68 => ?_
      have n_a68 : n0 ≤ a68 := oFresh O67 g68
      have O68 := O67.ext E68
      have F68_items : Fld Z h68 a68 "com/example/uketsuke/uketsuke/core/conversation/Page" "items" "Ljava/util/List;" .null := D68 (Or.inr (hw _ tw68)) (ty := (.object "java/util/List")) (by decide)
      have F68_more : Fld Z h68 a68 "com/example/uketsuke/uketsuke/core/conversation/Page" "more" "Z" (.int (0 : Int32)) := D68 (Or.inr (hw _ tw70)) (ty := .boolean) (by decide)
      refine iDup C d0_98 rfl ?_
      refine iAload C d0_99 rfl rfl ?_
      refine iIload C d0_101 rfl ?_
      refine iCallI C (rmP_3_1 hw a68 A68 F68_items F68_more n_a68 a60 (e_67.ext E68) (f1_67.ext E68) (f2_67.ext E68) (f3_67.ext E68) n_a60 (eb_67.ext E68) (vb_67.ext E68) ov_63 n_b_63 (Ins.of_exa ((((((xe_62.keep K63).keep K64).keep K65).keep K66).keep K67).ext E68) (hw _ tw123)) (Ins.of_exa ((((xe_64.keep K65).keep K66).keep K67).ext E68) (hw _ tw123)) (Ins.of_exa ((xe_66.keep K67).ext E68) (hw _ tw123)) G O68 M) rfl tw29 tw30 tw28 tw31 ⟨by decide, by decide⟩ (a := a68) (argsL := [(.ref a60), (.int (1 : Int32))]) (S' := [(.ref a68)]) (lenOf pd20 rfl) rfl rfl d0_103 rfl (W := 1) rfl ⟨by decide, by decide, rfl, rfl, by decide, by decide⟩ fun v69 h69 q69 => ?_
      obtain ⟨rfl, K69, pm_69, L_69, sL_69, pi_69, le_69, lx_69, lk_69, l0_69, lxe_69, lv_69⟩ := q69
      have O69 := O68.keep K69 (allS n_a68 all0)
      show Go B n0 _ h69 9 26 106 #[(.val (.int f)), (.val (.int p)), (.val (.int q)), (.val (.int r)), (.val (.int (1 : Int32))), (.val (.int (2 : Int32))), (.val (.int (3 : Int32))), (.val (.ref a60)), .unset, .unset, .unset] [(.ref a68)]
      refine iAstore C d0_106 (Ls' := #[(.val (.int f)), (.val (.int p)), (.val (.int q)), (.val (.int r)), (.val (.int (1 : Int32))), (.val (.int (2 : Int32))), (.val (.int (3 : Int32))), (.val (.ref a60)), (.val (.ref a68)), .unset, .unset]) rfl rfl ?_
      refine iAload C d0_108 rfl rfl ?_
      refine iCallV C (rmK_3 hw a68 L_69 ⟨le_69, lx_69, lk_69, l0_69, lxe_69, lv_69⟩ (((((((xe_62.keep K63).keep K64).keep K65).keep K66).keep K67).ext E68).keep K69) (((((xe_64.keep K65).keep K66).keep K67).ext E68).keep K69) (((xe_66.keep K67).ext E68).keep K69) pm_69 pi_69 G O69 M) (A68.keep K69) tw71 tw72 (Or.inl rfl) tw74 tw73 tw28 tw75 ⟨by decide, by decide⟩ (argsL := []) (S' := []) (lenOf pd15 rfl) rfl rfl d0_110 rfl (W := 0) rfl ⟨by decide, by decide, rfl, rfl, by decide, by decide⟩ fun v70 h70 q70 => ?_
      obtain ⟨q_70, rfl, sq_70, K70, qe_70, qf_70⟩ := q70
      have O70 := O69.keep K70 all0
      show Go B n0 _ h70 10 27 113 #[(.val (.int f)), (.val (.int p)), (.val (.int q)), (.val (.int r)), (.val (.int (1 : Int32))), (.val (.int (2 : Int32))), (.val (.int (3 : Int32))), (.val (.ref a60)), (.val (.ref a68)), .unset, .unset] [(.ref q_70)]
      refine iAstore C d0_113 (Ls' := #[(.val (.int f)), (.val (.int p)), (.val (.int q)), (.val (.int r)), (.val (.int (1 : Int32))), (.val (.int (2 : Int32))), (.val (.int (3 : Int32))), (.val (.ref a60)), (.val (.ref a68)), (.val (.ref q_70)), .unset]) rfl rfl ?_
      refine iIload C d0_115 rfl ?_
      refine iIfT C (t := 134) d0_117 (by decide) ⟨by decide, by decide⟩ ?_
      refine iIload C d0_134 rfl ?_
      refine iIconst C d0_136 (v := (1 : Int32)) (by decide) ?_
      refine iCmpT C (t := 144) d0_137 (by decide) ⟨by decide, by decide⟩ ?_
      refine iIload C d0_144 rfl ?_
      refine iIconst C d0_146 (v := (2 : Int32)) (by decide) ?_
      refine iCmpT C (t := 154) d0_147 (by decide) ⟨by decide, by decide⟩ ?_
      refine iIloadN C d0_154 rfl ?_
      refine iIstore C d0_155 (Ls' := #[(.val (.int f)), (.val (.int p)), (.val (.int q)), (.val (.int r)), (.val (.int (1 : Int32))), (.val (.int (2 : Int32))), (.val (.int (3 : Int32))), (.val (.ref a60)), (.val (.ref a68)), (.val (.ref q_70)), (.val (.int r))]) rfl ?_
      refine iAload C d0_157 rfl rfl ?_
      refine iCallV C (rmIP_1 hw q_70 x_66 qf_70 G O70 M) qe_70 tw81 tw82 (Or.inl rfl) tw84 tw83 tw78 tw85 ⟨by decide, by decide⟩ (argsL := []) (S' := []) (lenOf pd12 rfl) rfl rfl d0_159 rfl (W := 0) rfl ⟨by decide, by decide, rfl, rfl, by decide, by decide⟩ fun v71 h71 q71 => ?_
      obtain ⟨rfl, rfl⟩ := q71
      show Go B n0 _ h70 10 27 162 #[(.val (.int f)), (.val (.int p)), (.val (.int q)), (.val (.int r)), (.val (.int (1 : Int32))), (.val (.int (2 : Int32))), (.val (.int (3 : Int32))), (.val (.ref a60)), (.val (.ref a68)), (.val (.ref q_70)), (.val (.int r))] [(.int (1 : Int32))]
      refine iIfF C d0_162 (by decide) ?_
      refine iAload C d0_165 rfl rfl ?_
      refine iCallV C (rmOG hw q_70 x_66 qf_70 G O70 M) qe_70 tw233 tw234 (Or.inl rfl) tw236 tw235 tw78 tw237 ⟨by decide, by decide⟩ (argsL := []) (S' := []) (lenOf pd23 rfl) rfl rfl d0_167 rfl (W := 0) rfl ⟨by decide, by decide, rfl, rfl, by decide, by decide⟩ fun v72 h72 q72 => ?_
      obtain ⟨rfl, rfl⟩ := q72
      show Go B n0 _ h70 10 27 170 #[(.val (.int f)), (.val (.int p)), (.val (.int q)), (.val (.int r)), (.val (.int (1 : Int32))), (.val (.int (2 : Int32))), (.val (.int (3 : Int32))), (.val (.ref a60)), (.val (.ref a68)), (.val (.ref q_70)), (.val (.int r))] [(.ref x_66)]
      refine iCast C tw238 (Ins.self ((((xe_66.keep K67).ext E68).keep K69).keep K70)) d0_170 ?_
      refine iCallV C (rmIV hw x_66 r ((((xf_66.keep K67 (ninS (ne_exa ((((xe_66.keep K67).ext E68).keep K69).keep K70) (((e_67.ext E68).keep K69).keep K70) (by decide)) (ninS (ne_exa ((((xe_66.keep K67).ext E68).keep K69).keep K70) (((eb_67.ext E68).keep K69).keep K70) (by decide)) nin0))).ext E68).keep K69 (ninS (ne_exa ((((xe_66.keep K67).ext E68).keep K69).keep K70) ((A68.keep K69).keep K70) (by decide)) nin0)).keep K70 nin0) G O70 M) ((((xe_66.keep K67).ext E68).keep K69).keep K70) tw239 tw240 (Or.inl rfl) tw242 tw241 tw90 tw243 ⟨by decide, by decide⟩ (argsL := []) (S' := []) (lenOf pd16 rfl) rfl rfl d0_173 rfl (W := 0) rfl ⟨by decide, by decide, rfl, rfl, by decide, by decide⟩ fun v73 h73 q73 => ?_
      obtain ⟨rfl, rfl⟩ := q73
      show Go B n0 _ h70 10 27 176 #[(.val (.int f)), (.val (.int p)), (.val (.int q)), (.val (.int r)), (.val (.int (1 : Int32))), (.val (.int (2 : Int32))), (.val (.int (3 : Int32))), (.val (.ref a60)), (.val (.ref a68)), (.val (.ref q_70)), (.val (.int r))] [(.int r)]
      refine iIload C d0_176 rfl ?_
      refine iCmpF C d0_178 (teq rfl).2 ?_
      refine iIconst C d0_181 (v := (1 : Int32)) (by decide) ?_
      refine iGoto C (t := 186) d0_182 ⟨by decide, by decide⟩ ?_
      refine iRetZ C d0_186 (by simp) ⟨by decide, by decide⟩ ?_
      exact rfl
    · rw [q']
      refine iIstore C d0_18 (Ls' := #[(.val (.int f)), (.val (.int p)), (.val (.int q)), (.val (.int r)), (.val (.int (1 : Int32))), (.val (.int (3 : Int32))), .unset, .unset, .unset, .unset, .unset]) rfl ?_
      refine iIload C d0_20 rfl ?_
      refine iIfF C d0_22 (by decide) ?_
      refine iIload C d0_25 rfl ?_
      refine iIconst C d0_27 (v := (3 : Int32)) (by decide) ?_
      refine iIrem C d0_28 (by decide) (v := (0 : Int32)) (by decide) ?_
      refine iIconst C d0_29 (v := (1 : Int32)) (by decide) ?_
      refine iIadd C d0_30 (v := (1 : Int32)) (by decide) ?_
      refine iGoto C (t := 36) d0_31 ⟨by decide, by decide⟩ ?_
      refine iIstore C d0_36 (Ls' := #[(.val (.int f)), (.val (.int p)), (.val (.int q)), (.val (.int r)), (.val (.int (1 : Int32))), (.val (.int (3 : Int32))), (.val (.int (1 : Int32))), .unset, .unset, .unset, .unset]) rfl ?_
      refine iNew C tw0 tw1 tw2 d0_38 ⟨rfl, rfl, by decide, by decide⟩ fun h74 a74 g74 E74 A74 D74 => ?_
      have n_a74 : n0 ≤ a74 := oFresh O g74
      have O74 := O.ext E74
      have F74_modCount : Fld Z h74 a74 "java/util/AbstractList" "modCount" "I" (.int (0 : Int32)) := D74 (Or.inl (hw _ tw22)) (ty := .int) (by decide)
      have F74_elementData : Fld Z h74 a74 "java/util/ArrayList" "elementData" "[Ljava/lang/Object;" .null := D74 (Or.inl (hw _ tw25)) (ty := (.array (.object "java/lang/Object"))) (by decide)
      have F74_size : Fld Z h74 a74 "java/util/ArrayList" "size" "I" (.int (0 : Int32)) := D74 (Or.inl (hw _ tw62)) (ty := .int) (by decide)
      refine iDup C d0_41 rfl ?_
      refine iCallI C (rmAL hw a74 A74 F74_modCount F74_size F74_elementData n_a74 G O74 M) rfl tw3 tw4 tw2 tw5 ⟨by decide, by decide⟩ (a := a74) (argsL := []) (S' := [(.ref a74)]) (lenOf pd0 rfl) rfl rfl d0_42 rfl (W := 1) rfl ⟨by decide, by decide, rfl, rfl, by decide, by decide⟩ fun v75 h75 q75 => ?_
      obtain ⟨rfl, K75, e_75, f1_75, f2_75, f3_75⟩ := q75
      have O75 := O74.keep K75 (allS n_a74 all0)
      show Go B n0 _ h75 1 3 45 #[(.val (.int f)), (.val (.int p)), (.val (.int q)), (.val (.int r)), (.val (.int (1 : Int32))), (.val (.int (3 : Int32))), (.val (.int (1 : Int32))), .unset, .unset, .unset, .unset] [(.ref a74)]
      refine iAstore C d0_45 (Ls' := #[(.val (.int f)), (.val (.int p)), (.val (.int q)), (.val (.int r)), (.val (.int (1 : Int32))), (.val (.int (3 : Int32))), (.val (.int (1 : Int32))), (.val (.ref a74)), .unset, .unset, .unset]) rfl rfl ?_
      refine iIload C d0_47 rfl ?_
      refine iIconst C d0_49 (v := (1 : Int32)) (by decide) ?_
      refine iCmpF C d0_50 (by decide) ?_
      refine iAload C d0_53 rfl rfl ?_
      refine iIloadN C d0_55 rfl ?_
      refine iCallS C (rmVO hw p HC G O75 M) tw88 tw89 tw90 tw91 ⟨by decide, by decide⟩ (argsL := [(.int p)]) (S' := [(.ref a74)]) (lenOf pd21 rfl) rfl rfl d0_56 rfl (W := 1) rfl ⟨by decide, by decide, rfl, rfl, by decide, by decide⟩ fun v76 h76 q76 => ?_
      obtain ⟨x_76, rfl, K76, xe_76, xf_76⟩ := q76
      have O76 := O75.keep K76 all0
      show Go B n0 _ h76 2 4 59 #[(.val (.int f)), (.val (.int p)), (.val (.int q)), (.val (.int r)), (.val (.int (1 : Int32))), (.val (.int (3 : Int32))), (.val (.int (1 : Int32))), (.val (.ref a74)), .unset, .unset, .unset] [(.ref x_76), (.ref a74)]
      refine iCallV C (rmA_0 hw x_76 (Ins.of_exa xe_76 (hw _ tw123)) a74 (e_75.keep K76) (f1_75.keep K76 nin0) (f2_75.keep K76 nin0) (f3_75.keep K76 nin0) n_a74 G O76 M) (e_75.keep K76) tw95 tw96 (Or.inl rfl) tw98 tw97 tw2 tw99 ⟨by decide, by decide⟩ (argsL := [(.ref x_76)]) (S' := []) (lenOf pd22 rfl) rfl rfl d0_59 rfl (W := 0) rfl ⟨by decide, by decide, rfl, rfl, by decide, by decide⟩ fun v77 h77 q77 => ?_
      obtain ⟨rfl, b_77, k_77, sb_77, K77, e_77, f1_77, f2_77, f3_77, eb_77, vb_77, ov_77⟩ := q77
      have O77 := O76.keep K77 (allS n_a74 all0)
      have n_b_77 : n0 ≤ b_77 := Nat.le_trans (oSize O76) sb_77
      show Go B n0 _ h77 3 14 62 #[(.val (.int f)), (.val (.int p)), (.val (.int q)), (.val (.int r)), (.val (.int (1 : Int32))), (.val (.int (3 : Int32))), (.val (.int (1 : Int32))), (.val (.ref a74)), .unset, .unset, .unset] [(.int (1 : Int32))]
      refine iPop C d0_62 rfl ?_
      refine iIload C d0_63 rfl ?_
      refine iIconst C d0_65 (v := (2 : Int32)) (by decide) ?_
      refine iCmpT C (t := 79) d0_66 (by decide) ⟨by decide, by decide⟩ ?_
      refine iIload C d0_79 rfl ?_
      refine iIconst C d0_81 (v := (3 : Int32)) (by decide) ?_
      refine iCmpT C (t := 95) d0_82 (by decide) ⟨by decide, by decide⟩ ?_
      refine iNew C tw26 tw27 tw28 d0_95 ⟨rfl, rfl, by decide, by decide⟩ fun h78 a78 g78 E78 A78 D78 => ?_
      have n_a78 : n0 ≤ a78 := oFresh O77 g78
      have O78 := O77.ext E78
      have F78_items : Fld Z h78 a78 "com/example/uketsuke/uketsuke/core/conversation/Page" "items" "Ljava/util/List;" .null := D78 (Or.inr (hw _ tw68)) (ty := (.object "java/util/List")) (by decide)
      have F78_more : Fld Z h78 a78 "com/example/uketsuke/uketsuke/core/conversation/Page" "more" "Z" (.int (0 : Int32)) := D78 (Or.inr (hw _ tw70)) (ty := .boolean) (by decide)
      refine iDup C d0_98 rfl ?_
      refine iAload C d0_99 rfl rfl ?_
      refine iIload C d0_101 rfl ?_
      refine iCallI C (rmP_1_1 hw a78 A78 F78_items F78_more n_a78 a74 (e_77.ext E78) (f1_77.ext E78) (f2_77.ext E78) (f3_77.ext E78) n_a74 (eb_77.ext E78) (vb_77.ext E78) ov_77 n_b_77 (Ins.of_exa ((xe_76.keep K77).ext E78) (hw _ tw123)) G O78 M) rfl tw29 tw30 tw28 tw31 ⟨by decide, by decide⟩ (a := a78) (argsL := [(.ref a74), (.int (1 : Int32))]) (S' := [(.ref a78)]) (lenOf pd20 rfl) rfl rfl d0_103 rfl (W := 1) rfl ⟨by decide, by decide, rfl, rfl, by decide, by decide⟩ fun v79 h79 q79 => ?_
      obtain ⟨rfl, K79, pm_79, L_79, sL_79, pi_79, le_79, l0_79, l1_79⟩ := q79
      have O79 := O78.keep K79 (allS n_a78 all0)
      show Go B n0 _ h79 6 19 106 #[(.val (.int f)), (.val (.int p)), (.val (.int q)), (.val (.int r)), (.val (.int (1 : Int32))), (.val (.int (3 : Int32))), (.val (.int (1 : Int32))), (.val (.ref a74)), .unset, .unset, .unset] [(.ref a78)]
      refine iAstore C d0_106 (Ls' := #[(.val (.int f)), (.val (.int p)), (.val (.int q)), (.val (.int r)), (.val (.int (1 : Int32))), (.val (.int (3 : Int32))), (.val (.int (1 : Int32))), (.val (.ref a74)), (.val (.ref a78)), .unset, .unset]) rfl rfl ?_
      refine iAload C d0_108 rfl rfl ?_
      refine iCallV C (rmK_1 hw a78 L_79 ⟨le_79, l0_79, l1_79⟩ (((xe_76.keep K77).ext E78).keep K79) pm_79 pi_79 G O79 M) (A78.keep K79) tw71 tw72 (Or.inl rfl) tw74 tw73 tw28 tw75 ⟨by decide, by decide⟩ (argsL := []) (S' := []) (lenOf pd15 rfl) rfl rfl d0_110 rfl (W := 0) rfl ⟨by decide, by decide, rfl, rfl, by decide, by decide⟩ fun v80 h80 q80 => ?_
      obtain ⟨q_80, rfl, sq_80, K80, qe_80, qf_80⟩ := q80
      have O80 := O79.keep K80 all0
      show Go B n0 _ h80 7 20 113 #[(.val (.int f)), (.val (.int p)), (.val (.int q)), (.val (.int r)), (.val (.int (1 : Int32))), (.val (.int (3 : Int32))), (.val (.int (1 : Int32))), (.val (.ref a74)), (.val (.ref a78)), .unset, .unset] [(.ref q_80)]
      refine iAstore C d0_113 (Ls' := #[(.val (.int f)), (.val (.int p)), (.val (.int q)), (.val (.int r)), (.val (.int (1 : Int32))), (.val (.int (3 : Int32))), (.val (.int (1 : Int32))), (.val (.ref a74)), (.val (.ref a78)), (.val (.ref q_80)), .unset]) rfl rfl ?_
      refine iIload C d0_115 rfl ?_
      refine iIfT C (t := 134) d0_117 (by decide) ⟨by decide, by decide⟩ ?_
      refine iIload C d0_134 rfl ?_
      refine iIconst C d0_136 (v := (1 : Int32)) (by decide) ?_
      refine iCmpF C d0_137 (by decide) ?_
      refine iIloadN C d0_140 rfl ?_
      refine iGoto C (t := 155) d0_141 ⟨by decide, by decide⟩ ?_
      refine iIstore C d0_155 (Ls' := #[(.val (.int f)), (.val (.int p)), (.val (.int q)), (.val (.int r)), (.val (.int (1 : Int32))), (.val (.int (3 : Int32))), (.val (.int (1 : Int32))), (.val (.ref a74)), (.val (.ref a78)), (.val (.ref q_80)), (.val (.int p))]) rfl ?_
      refine iAload C d0_157 rfl rfl ?_
      refine iCallV C (rmIP_1 hw q_80 x_76 qf_80 G O80 M) qe_80 tw81 tw82 (Or.inl rfl) tw84 tw83 tw78 tw85 ⟨by decide, by decide⟩ (argsL := []) (S' := []) (lenOf pd12 rfl) rfl rfl d0_159 rfl (W := 0) rfl ⟨by decide, by decide, rfl, rfl, by decide, by decide⟩ fun v81 h81 q81 => ?_
      obtain ⟨rfl, rfl⟩ := q81
      show Go B n0 _ h80 7 20 162 #[(.val (.int f)), (.val (.int p)), (.val (.int q)), (.val (.int r)), (.val (.int (1 : Int32))), (.val (.int (3 : Int32))), (.val (.int (1 : Int32))), (.val (.ref a74)), (.val (.ref a78)), (.val (.ref q_80)), (.val (.int p))] [(.int (1 : Int32))]
      refine iIfF C d0_162 (by decide) ?_
      refine iAload C d0_165 rfl rfl ?_
      refine iCallV C (rmOG hw q_80 x_76 qf_80 G O80 M) qe_80 tw233 tw234 (Or.inl rfl) tw236 tw235 tw78 tw237 ⟨by decide, by decide⟩ (argsL := []) (S' := []) (lenOf pd23 rfl) rfl rfl d0_167 rfl (W := 0) rfl ⟨by decide, by decide, rfl, rfl, by decide, by decide⟩ fun v82 h82 q82 => ?_
      obtain ⟨rfl, rfl⟩ := q82
      show Go B n0 _ h80 7 20 170 #[(.val (.int f)), (.val (.int p)), (.val (.int q)), (.val (.int r)), (.val (.int (1 : Int32))), (.val (.int (3 : Int32))), (.val (.int (1 : Int32))), (.val (.ref a74)), (.val (.ref a78)), (.val (.ref q_80)), (.val (.int p))] [(.ref x_76)]
      refine iCast C tw238 (Ins.self ((((xe_76.keep K77).ext E78).keep K79).keep K80)) d0_170 ?_
      refine iCallV C (rmIV hw x_76 p ((((xf_76.keep K77 (ninS (ne_exa ((((xe_76.keep K77).ext E78).keep K79).keep K80) (((e_77.ext E78).keep K79).keep K80) (by decide)) nin0)).ext E78).keep K79 (ninS (ne_exa ((((xe_76.keep K77).ext E78).keep K79).keep K80) ((A78.keep K79).keep K80) (by decide)) nin0)).keep K80 nin0) G O80 M) ((((xe_76.keep K77).ext E78).keep K79).keep K80) tw239 tw240 (Or.inl rfl) tw242 tw241 tw90 tw243 ⟨by decide, by decide⟩ (argsL := []) (S' := []) (lenOf pd16 rfl) rfl rfl d0_173 rfl (W := 0) rfl ⟨by decide, by decide, rfl, rfl, by decide, by decide⟩ fun v83 h83 q83 => ?_
      obtain ⟨rfl, rfl⟩ := q83
      show Go B n0 _ h80 7 20 176 #[(.val (.int f)), (.val (.int p)), (.val (.int q)), (.val (.int r)), (.val (.int (1 : Int32))), (.val (.int (3 : Int32))), (.val (.int (1 : Int32))), (.val (.ref a74)), (.val (.ref a78)), (.val (.ref q_80)), (.val (.int p))] [(.int p)]
      refine iIload C d0_176 rfl ?_
      refine iCmpF C d0_178 (teq rfl).2 ?_
      refine iIconst C d0_181 (v := (1 : Int32)) (by decide) ?_
      refine iGoto C (t := 186) d0_182 ⟨by decide, by decide⟩ ?_
      refine iRetZ C d0_186 (by simp) ⟨by decide, by decide⟩ ?_
      exact rfl
theorem own_cache {args : Array Value} {s : State} {ca : Addr} {cl : Cell} (ec : (Term.static "java/lang/Integer$IntegerCache" "cache" "[Ljava/lang/Integer;").eval args s none [] s = some (.ref ca)) (A : Arr s s.heap ca cl (.object "java/lang/Integer")) (hl : (Jvm.Cond.eq (.length (Term.static "java/lang/Integer$IntegerCache" "cache" "[Ljava/lang/Integer;")) (.int 256)).value args s none s [] = some true)
    (hall : (Jvm.Cond.all (Term.static "java/lang/Integer$IntegerCache" "cache" "[Ljava/lang/Integer;") (.and (.exactly (.elem (Term.static "java/lang/Integer$IntegerCache" "cache" "[Ljava/lang/Integer;") (.index 0)) "java/lang/Integer") (.eq (.field (.elem (Term.static "java/lang/Integer$IntegerCache" "cache" "[Ljava/lang/Integer;") (.index 0)) "java/lang/Integer" "value" "I") (.sub (.index 0) (.int 128))))).value args s none s [] = some true) (p : Int32) (h1 : ¬ p < -128) (h2 : ¬ (127 : Int32) < p) :
    ∃ b : Addr, ¬ ((p + 128) < 0 ∨ cl.slots.size ≤ (p + 128).toNatClampNeg) ∧ cl.slots[(p + 128).toNatClampNeg]? = some (.ref b) ∧ Exa s s.heap b "java/lang/Integer" ∧ Fld s s.heap b "java/lang/Integer" "value" "I" (.int p) := by
  obtain ⟨l1, l2⟩ := Jvm.Free.IntBox.length_fwd (Cond.before_iff.mpr hl) ec A.1 A.2.1 A.2.2
  have hsz : cl.slots.size = 256 := by
    have q := len_toInt l1
    rw [l2] at q
    have q2 : (256 : Int32).toInt = 256 := by decide
    omega
  obtain ⟨hb, hlt⟩ := Jvm.Free.IntBox.place_ok p h1 h2
  have hnn : ¬ (p + 128) < 0 := fun q => hb (Or.inl q)
  have hat : s.arrayAt? ca = some cl := Arr.fin (Vm.Alike.refl _) A
  have hj := Cond.all_elim ec hat hall (p + 128).toNatClampNeg (by rw [hsz]; exact hlt)
  obtain ⟨hx, hq⟩ := and_e hj
  obtain ⟨b, eb⟩ := exa_v hx
  obtain ⟨c', g1, g2, g3⟩ := elem_at eb ec (idx_at hnn)
  cases A.1.symm.trans g1
  refine ⟨b, g2, g3, exa_at eb hx, Fld.start ?_⟩
  have hs : (Term.sub (.index 0) (.int 128)).eval args s none [(p + 128).toNatClampNeg] s = some (.int p) := by
    conv => rhs; rw [← Jvm.Free.IntBox.place_val p h1 h2]
    rfl
  obtain ⟨x, z, e1, e2, k1, k2⟩ := cmp_v (Or.inl hq)
  cases hs.symm.trans e2
  obtain ⟨w, rfl⟩ := k2
  have e3 := gotT (Cond.eq_ints e1 e2) hq
  subst e3
  exact (fld_at eb).symm.trans e1
set_option maxRecDepth 65536 in
set_option maxHeartbeats 4000000 in
theorem comes_1 {Post : Tables → Env → Array Value → State → Outcome → State → Prop} (hpost : ∀ tb e args s v u, (limb_1_1.after args s (.returned v) u = true ∧ limb_1_2.after args s (.returned v) u = true ∧ True) → FrameEnd s (.returned v) u (Jvm.fieldLocs frame_1_writes args s ++ Jvm.arrayLocs frame_1_arrays args s ++ Jvm.staticLocs frame_1_statics s) 32 128 → Post tb e args s (.returned v) u) :
    ArmFor flags0 classFile x code maxLocals ret World_1 tables_1 room_1 Calls_1 rest_1 Pre_1 Post := by
  intro l hfl _ _ p e ha hc hk s m args below hf hA hF happ hP
  obtain ⟨hcalls, hrest, hpre⟩ := hP
  obtain ⟨-, -, -, hnamed, -, -, -, hat⟩ := (Spec.applies_iff hf).mp happ
  obtain ⟨hg, hn⟩ := and_e (Cond.before_iff.mp (show (Jvm.Cond.and given_1 narrow_1).before args s = true from hpre))
  obtain ⟨hg_1, hg_2⟩ := and_e hg
  obtain ⟨hg_3, hg_4⟩ := and_e hg_2
  obtain ⟨hg_5, hg_6⟩ := and_e hg_4
  obtain ⟨hg_7, hg_8⟩ := and_e hg_6
  obtain ⟨w0, w1, w2, w3, rfl⟩ : ∃ w0 w1 w2 w3 : Value, args = #[w0, w1, w2, w3] := by
    have hs : args.size = 4 := by simpa [Cond.value, given_1] using hg_1
    obtain ⟨L⟩ := args
    match L, hs with
    | [w0, w1, w2, w3], _ => exact ⟨w0, w1, w2, w3, rfl⟩
  have hw := fun d (hd : d ∈ tables_1) => atoms_spec (ws := Jvm.Cond.code x code maxLocals ret :: tables_1) hat d (List.mem_cons_of_mem _ hd)
  have hfit : Fit s := fun {y c} hc i hi => by
    obtain ⟨ha, rfl⟩ := Array.getElem?_eq_some_iff.mp hc
    have q := List.all_eq_true.mp ((Array.all_eq_true_iff_forall_mem.mp hF) _ (Array.getElem_mem ha)) i (List.mem_range.mpr hi)
    simpa [Array.getElem?_eq_getElem hi] using q
  obtain ⟨hsets, hown0⟩ := atoms_of _ (rest_1_c_eq ▸ (show rest_1_c.before _ s = true from hrest))
  obtain ⟨i0, ei0⟩ := is_v hg_3
  obtain rfl : w0 = (.int i0) := Option.some.inj ei0
  obtain ⟨i1, ei1⟩ := is_v hg_5
  obtain rfl : w1 = (.int i1) := Option.some.inj ei1
  obtain ⟨i2, ei2⟩ := is_v hg_7
  obtain rfl : w2 = (.int i2) := Option.some.inj ei2
  obtain ⟨i3, ei3⟩ := is_v hg_8
  obtain rfl : w3 = (.int i3) := Option.some.inj ei3
  obtain ⟨ga1, ge1⟩ := arr_v (Cond.before_iff.mp (hsets _ (List.mem_of_getElem? (i := 3) rfl)))
  obtain ⟨gc1, gA1⟩ := Arr.start ge1 (Cond.before_iff.mp (hsets _ (List.mem_of_getElem? (i := 3) rfl)))
  obtain ⟨ga2, ge2⟩ := arr_v (Cond.before_iff.mp (hsets _ (List.mem_of_getElem? (i := 6) rfl)))
  obtain ⟨gc2, gA2⟩ := Arr.start ge2 (Cond.before_iff.mp (hsets _ (List.mem_of_getElem? (i := 6) rfl)))
  obtain ⟨ga3, ge3⟩ := exa_v (Cond.before_iff.mp (hsets _ (List.mem_of_getElem? (i := 11) rfl)))
  obtain ⟨ga4, ge4⟩ := arr_v (Cond.before_iff.mp (hsets _ (List.mem_of_getElem? (i := 12) rfl)))
  obtain ⟨gc4, gA4⟩ := Arr.start ge4 (Cond.before_iff.mp (hsets _ (List.mem_of_getElem? (i := 12) rfl)))
  obtain ⟨ga5, ge5⟩ := exa_v (Cond.before_iff.mp (hsets _ (List.mem_of_getElem? (i := 18) rfl)))
  obtain ⟨ga6, ge6⟩ := arr_v (Cond.before_iff.mp (hsets _ (List.mem_of_getElem? (i := 24) rfl)))
  obtain ⟨gc6, gA6⟩ := Arr.start ge6 (Cond.before_iff.mp (hsets _ (List.mem_of_getElem? (i := 24) rfl)))
  obtain ⟨ga7, ge7⟩ := exa_v (Cond.before_iff.mp (hsets _ (List.mem_of_getElem? (i := 30) rfl)))
  have G : GG s ga1 ga2 ga3 ga4 ga5 ga6 ga7 gc1 gc2 gc4 gc6 := ⟨Sta.start ge1 (Or.inl (hsets _ (List.mem_of_getElem? (i := 1) rfl))), gA1, Exa.start ge1 (Cond.before_iff.mp (hsets _ (List.mem_of_getElem? (i := 4) rfl))), Sta.start ge2 (Or.inr ⟨hw _ tw2, (hsets _ (List.mem_of_getElem? (i := 2) rfl))⟩), gA2, Exa.start ge2 (Cond.before_iff.mp (hsets _ (List.mem_of_getElem? (i := 7) rfl))), Sta.start ge3 (Or.inl (hsets _ (List.mem_of_getElem? (i := 35) rfl))), Exa.start ge3 (Cond.before_iff.mp (hsets _ (List.mem_of_getElem? (i := 11) rfl))), Fld.start ((fld_at ge3).symm.trans ge4), gA4, Exa.start ge4 (Cond.before_iff.mp (hsets _ (List.mem_of_getElem? (i := 13) rfl))), Sta.start ge5 (Or.inl (hsets _ (List.mem_of_getElem? (i := 17) rfl))), Exa.start ge5 (Cond.before_iff.mp (hsets _ (List.mem_of_getElem? (i := 18) rfl))), Sta.start ge6 (Or.inr ⟨hw _ tw93, (hsets _ (List.mem_of_getElem? (i := 22) rfl))⟩), gA6, Exa.start ge6 (Cond.before_iff.mp (hsets _ (List.mem_of_getElem? (i := 25) rfl))), Sta.start ge7 (Or.inl (hsets _ (List.mem_of_getElem? (i := 29) rfl))), Exa.start ge7 (Cond.before_iff.mp (hsets _ (List.mem_of_getElem? (i := 30) rfl))), oLen (eqI_v (Cond.before_iff.mp (hsets _ (List.mem_of_getElem? (i := 5) rfl)))) ge1 gA1.1, oLen (eqI_v (Cond.before_iff.mp (hsets _ (List.mem_of_getElem? (i := 8) rfl)))) ge2 gA2.1, oLen (eqI_v (Cond.before_iff.mp (hsets _ (List.mem_of_getElem? (i := 14) rfl)))) ge4 gA4.1, Fld.start ((fld_at ge3).symm.trans (eqI_v (Cond.before_iff.mp (hsets _ (List.mem_of_getElem? (i := 15) rfl))))), Fld.start ((fld_at ge5).symm.trans (null_v (Cond.before_iff.mp (hsets _ (List.mem_of_getElem? (i := 19) rfl))))), Sta.start (eqI_v (Cond.before_iff.mp (hsets _ (List.mem_of_getElem? (i := 23) rfl)))) (Or.inl (hsets _ (List.mem_of_getElem? (i := 21) rfl))), oLen (eqI_v (Cond.before_iff.mp (hsets _ (List.mem_of_getElem? (i := 26) rfl)))) ge6 gA6.1, Sta.start (eqI_v (Cond.before_iff.mp (hsets _ (List.mem_of_getElem? (i := 33) rfl)))) (Or.inl (hsets _ (List.mem_of_getElem? (i := 32) rfl)))⟩
  obtain ⟨⟨cM, kM, mr, m1, m2, m3, -⟩, -⟩ := hcalls
  have M : Mr s "[Ljava/lang/Object;" mr := ⟨cM, kM, m1, m2, m3⟩
  have HC := own_cache ge6 gA6 (Cond.before_iff.mp (hsets _ (List.mem_of_getElem? (i := 26) rfl))) (Cond.before_iff.mp (hsets _ (List.mem_of_getElem? (i := 27) rfl)))
  obtain ⟨n, o, h1, h2, h3, _, L, rfl, ⟨rfl, N⟩, hq⟩ := (rm0 (l := l) (Z := s) hw (n0 := s.heap.size) (h0 := s.heap) i0 i1 i2 i3 HC G (Old.start s) M) tables_1 p e ha hc hk s m _ below hf ((Spec.applies_iff_loose hf).mp happ).1 ⟨rfl, State.Warmed39.refl s, rfl⟩ trivial
  refine ⟨n, _, h1, h2, h3, hpost _ _ _ _ _ _ ⟨Cond.after_iff.mpr rfl, Cond.after_iff.mpr (eq_i res_at (Term.int_eval (1)) rfl), trivial⟩ ⟨hq.1, hq.2.1, (hq.2.2.sift fun y hy => Or.inr (N y hy)).mono (by decide) (by decide)⟩⟩
theorem main_1_1 : Claimed_1_1 := comes_1 fun _ _ _ _ _ _ h hF => ⟨h.1, hF⟩
theorem main_1_2 : Claimed_1_2 := comes_1 fun _ _ _ _ _ _ h hF => ⟨h.2.1, hF⟩
end Jvm.Pilot.@@N@@
namespace Jvm.Pilot.@@N@@
open Jvm Jvm.ClassFile Sem Op Lib Jvm.Free Jvm.Stand Jvm.Pilot.@@N@@.Jvm.D
/-! MADE BY PROGRAM (witnessworld.py) out of the Statement's table words and the real class files: 36 classes; the members and pool entries that the words name. The judged class is class 1, her method 1. -/
namespace start1
open Jvm.ClassFile
def u (s : String) : CpInfo := .utf8 (stringToUtf16 s)
/-- a pool by its gaps: so many unusable entries, then the entry; so many at the end -/
def gap : Nat → List CpInfo → List CpInfo
  | 0, r => r
  | n + 1, r => .unusable :: gap n r
def poolList (es : List (Nat × CpInfo)) (last : Nat) : List CpInfo := es.foldr (fun e r => gap e.1 (e.2 :: r)) (gap last [])
def pool (es : List (Nat × CpInfo)) (last : Nat) : Array CpInfo := ⟨poolList es last⟩
def fileOf (pool : Array CpInfo) (this : Nat) (attrs : Array Attribute := #[]) (ms : Array MethodInfo := #[]) (fl : Nat := 33) (sup : Nat := 0) (ifs : Array Nat := #[]) (fds : Array FieldInfo := #[]) : ClassFile where
  minorVersion := 0
  majorVersion := 65
  constantPool := pool
  accessFlags := fl
  thisClass := this
  superClass := sup
  interfaces := ifs
  fields := fds
  methods := ms
  attributes := attrs
def plain (name : String) (sup : Option ClassId) : Class where
  name := name
  kind := .ordinary
  loader := none
  accessFlags := 33
  super := sup
  interfaces := #[]
  cf := none
  fields := #[]
  methods := #[]
  instanceTypes := #[]
  staticTypes := #[]
  resolved := #[]
  callSites := []
  init := .initialized
  statics := none
  mirror := none

def pool0 : Array CpInfo := pool [(5, u "<init>"), (0, u "()V"), (1, .class_ 10), (1, u "java/lang/Object"), (0, u "getClass"), (0, u "()Ljava/lang/Class;")] 111

def k0c0 : Code := { maxStack := 0, maxLocals := 1, code := object_method_1_code, exceptionTable := #[], attributes := #[] }
def k0m0 : Method := { name := "<init>", desc := "()V", sig := { parameters := [], returnType := none }, accessFlags := 1, code := some k0c0 }
def k0m1 : Method := { name := "getClass", desc := "()Ljava/lang/Class;", sig := { parameters := [], returnType := some (.object "java/lang/Class") }, accessFlags := 273, code := none }
/-- java/lang/Object -/
def k0 : Class := { plain "java/lang/Object" none with
  accessFlags := 33
  interfaces := #[]
  cf := some (fileOf pool0 8 #[] #[{ accessFlags := 1, nameIndex := 5, descriptorIndex := 6, attributes := #[] }, { accessFlags := 273, nameIndex := 11, descriptorIndex := 12, attributes := #[] }] 33 0 #[] #[])
  fields := #[]
  methods := #[k0m0, k0m1]
  instanceTypes := #[]
  staticTypes := #[]
  resolved := Array.replicate 124 none
  statics := none }

def pool1 : Array CpInfo := pool [(2, .class_ 4), (0, .nameAndType 5 6), (0, u "java/lang/Object"), (0, u "<init>"), (0, u "()V"), (0, .class_ 8), (0, u "java/util/ArrayList"), (0, .methodref 7 3), (0, .methodref 11 12), (0, .class_ 13), (0, .nameAndType 14 15), (0, u "java/lang/Integer"), (0, u "valueOf"), (0, u "(I)Ljava/lang/Integer;"), (0, .methodref 7 17), (0, .nameAndType 18 19), (0, u "add"), (0, u "(Ljava/lang/Object;)Z"), (0, .class_ 21), (0, u "com/example/uketsuke/uketsuke/core/conversation/Page"), (0, .methodref 20 23), (0, .nameAndType 5 24), (0, u "(Ljava/util/List;Z)V"), (0, .methodref 20 26), (0, .nameAndType 27 28), (0, u "continuesAfter"), (0, u "()Ljava/util/Optional;"), (0, .methodref 30 31), (0, .class_ 32), (0, .nameAndType 33 34), (0, u "java/util/Optional"), (0, u "isPresent"), (0, u "()Z"), (0, .methodref 30 36), (0, .nameAndType 37 38), (0, u "get"), (0, u "()Ljava/lang/Object;"), (0, .methodref 11 40), (0, .nameAndType 41 42), (0, u "intValue"), (0, u "()I"), (0, .class_ 44), (0, u "com/example/uketsuke/uketsuke/core/conversation/PageContinuesAfterPinLaw"), (2, u "law"), (0, u "(IIII)Z")] 3

def k1m0 : Method := { name := "<init>", desc := "()V", sig := { parameters := [], returnType := none }, accessFlags := 1, code := none }
def k1c1 : Code := { maxStack := 4, maxLocals := 11, code := code, exceptionTable := #[], attributes := #[] }
def k1m1 : Method := { name := "law", desc := "(IIII)Z", sig := { parameters := [.int, .int, .int, .int], returnType := some .boolean }, accessFlags := 9, code := some k1c1 }
/-- com/example/uketsuke/uketsuke/core/conversation/PageContinuesAfterPinLaw -/
def k1 : Class := { plain "com/example/uketsuke/uketsuke/core/conversation/PageContinuesAfterPinLaw" (some 0) with
  accessFlags := 49
  interfaces := #[]
  cf := some (fileOf pool1 43 #[] #[{ accessFlags := 1, nameIndex := 5, descriptorIndex := 6, attributes := #[] }, { accessFlags := 9, nameIndex := 47, descriptorIndex := 48, attributes := #[] }] 49 2 #[] #[])
  fields := #[]
  methods := #[k1m0, k1m1]
  instanceTypes := #[]
  staticTypes := #[]
  resolved := Array.replicate 52 none
  statics := none }

def pool2 : Array CpInfo := pool [(8, .class_ 10), (1, u "java/lang/Iterable"), (24, .class_ 36), (0, u "java/lang/Object")] 25

/-- java/lang/Iterable -/
def k2 : Class := { plain "java/lang/Iterable" (some 0) with
  accessFlags := 1537
  interfaces := #[]
  cf := some (fileOf pool2 8 #[] #[] 1537 35 #[] #[])
  fields := #[]
  methods := #[]
  instanceTypes := #[]
  staticTypes := #[]
  resolved := Array.replicate 62 none
  statics := none }

def pool3 : Array CpInfo := pool [(10, .class_ 12), (1, u "java/util/Collection"), (0, u "toArray"), (16, u "()Z"), (29, .class_ 61), (0, u "java/lang/Object"), (0, .class_ 63), (0, u "java/lang/Iterable"), (2, u "isEmpty"), (3, u "()[Ljava/lang/Object;")] 44

def k3m0 : Method := { name := "isEmpty", desc := "()Z", sig := { parameters := [], returnType := some .boolean }, accessFlags := 1025, code := none }
def k3m1 : Method := { name := "toArray", desc := "()[Ljava/lang/Object;", sig := { parameters := [], returnType := some (.array (.object "java/lang/Object")) }, accessFlags := 1025, code := none }
/-- java/util/Collection -/
def k3 : Class := { plain "java/util/Collection" (some 0) with
  accessFlags := 1537
  interfaces := #[2]
  cf := some (fileOf pool3 10 #[] #[{ accessFlags := 1025, nameIndex := 66, descriptorIndex := 30, attributes := #[] }, { accessFlags := 1025, nameIndex := 13, descriptorIndex := 70, attributes := #[] }] 1537 60 #[62] #[])
  fields := #[]
  methods := #[k3m0, k3m1]
  instanceTypes := #[]
  staticTypes := #[]
  resolved := Array.replicate 115 none
  statics := none }

def pool4 : Array CpInfo := pool [(1, .methodref 2 3), (0, .class_ 4), (0, .nameAndType 5 6), (0, u "java/lang/Object"), (0, u "<init>"), (0, u "()V"), (1, .class_ 10), (1, u "java/util/AbstractCollection"), (66, .class_ 78), (0, u "java/util/Collection")] 81

def k4c0 : Code := { maxStack := 1, maxLocals := 1, code := jdk_22_method_1_code, exceptionTable := #[], attributes := #[] }
def k4m0 : Method := { name := "<init>", desc := "()V", sig := { parameters := [], returnType := none }, accessFlags := 4, code := some k4c0 }
/-- java/util/AbstractCollection -/
def k4 : Class := { plain "java/util/AbstractCollection" (some 0) with
  accessFlags := 1057
  interfaces := #[3]
  cf := some (fileOf pool4 8 #[] #[{ accessFlags := 4, nameIndex := 5, descriptorIndex := 6, attributes := #[] }] 1057 2 #[77] #[])
  fields := #[]
  methods := #[k4m0]
  instanceTypes := #[]
  staticTypes := #[]
  resolved := Array.replicate 160 none
  statics := none }

def pool5 : Array CpInfo := pool [(8, .class_ 10), (1, u "java/util/SequencedCollection"), (15, .class_ 27), (0, u "java/lang/Object"), (0, .class_ 29), (0, u "java/util/Collection")] 27

/-- java/util/SequencedCollection -/
def k5 : Class := { plain "java/util/SequencedCollection" (some 0) with
  accessFlags := 1537
  interfaces := #[3]
  cf := some (fileOf pool5 8 #[] #[] 1537 26 #[28] #[])
  fields := #[]
  methods := #[]
  instanceTypes := #[]
  staticTypes := #[]
  resolved := Array.replicate 57 none
  statics := none }

def pool6 : Array CpInfo := pool [(8, .class_ 10), (1, u "java/util/List"), (20, u "(Ljava/lang/Object;)V"), (16, u "<init>"), (26, u "get"), (0, u "(I)Ljava/lang/Object;"), (2, u "size"), (0, u "()I"), (7, u "of"), (1, .fieldref 91 92), (0, .class_ 93), (0, .nameAndType 94 95), (0, u "java/util/ImmutableCollections"), (0, u "EMPTY_LIST"), (0, u "Ljava/util/ImmutableCollections$ListN;"), (0, .class_ 97), (0, u "java/util/ImmutableCollections$List12"), (0, .methodref 96 99), (0, .nameAndType 48 31), (0, .methodref 96 101), (0, .nameAndType 48 102), (0, u "(Ljava/lang/Object;Ljava/lang/Object;)V"), (0, .class_ 104), (0, u "java/lang/Object"), (3, u "([Ljava/lang/Object;)Ljava/util/List;"), (0, .methodref 91 110), (0, .nameAndType 111 108), (0, u "listFromArray"), (0, .methodref 91 113), (0, .nameAndType 114 115), (0, u "listCopy"), (0, u "(Ljava/util/Collection;)Ljava/util/List;"), (3, u "()Ljava/util/List;"), (0, .class_ 121), (0, u "java/util/SequencedCollection"), (112, u "copyOf")] 16

def k6m0 : Method := { name := "size", desc := "()I", sig := { parameters := [], returnType := some .int }, accessFlags := 1025, code := none }
def k6m1 : Method := { name := "get", desc := "(I)Ljava/lang/Object;", sig := { parameters := [.int], returnType := some (.object "java/lang/Object") }, accessFlags := 1025, code := none }
def k6c2 : Code := { maxStack := 1, maxLocals := 0, code := jdk_40_method_36_code, exceptionTable := #[], attributes := #[] }
def k6m2 : Method := { name := "of", desc := "()Ljava/util/List;", sig := { parameters := [], returnType := some (.object "java/util/List") }, accessFlags := 9, code := some k6c2 }
def k6c3 : Code := { maxStack := 5, maxLocals := 2, code := jdk_40_method_47_code, exceptionTable := #[], attributes := #[] }
def k6m3 : Method := { name := "of", desc := "([Ljava/lang/Object;)Ljava/util/List;", sig := { parameters := [(.array (.object "java/lang/Object"))], returnType := some (.object "java/util/List") }, accessFlags := 137, code := some k6c3 }
def k6c4 : Code := { maxStack := 1, maxLocals := 1, code := jdk_40_method_48_code, exceptionTable := #[], attributes := #[] }
def k6m4 : Method := { name := "copyOf", desc := "(Ljava/util/Collection;)Ljava/util/List;", sig := { parameters := [(.object "java/util/Collection")], returnType := some (.object "java/util/List") }, accessFlags := 9, code := some k6c4 }
/-- java/util/List -/
def k6 : Class := { plain "java/util/List" (some 0) with
  accessFlags := 1537
  interfaces := #[5]
  cf := some (fileOf pool6 8 #[] #[{ accessFlags := 1025, nameIndex := 79, descriptorIndex := 80, attributes := #[] }, { accessFlags := 1025, nameIndex := 75, descriptorIndex := 76, attributes := #[] }, { accessFlags := 9, nameIndex := 88, descriptorIndex := 119, attributes := #[] }, { accessFlags := 137, nameIndex := 88, descriptorIndex := 108, attributes := #[] }, { accessFlags := 9, nameIndex := 234, descriptorIndex := 115, attributes := #[] }] 1537 103 #[120] #[])
  fields := #[]
  methods := #[k6m0, k6m1, k6m2, k6m3, k6m4]
  instanceTypes := #[]
  staticTypes := #[]
  resolved := Array.replicate 251 none
  statics := none }

def pool7 : Array CpInfo := pool [(1, .methodref 2 3), (0, .class_ 4), (0, .nameAndType 5 6), (0, u "java/util/AbstractCollection"), (0, u "<init>"), (0, u "()V"), (0, .fieldref 8 9), (0, .class_ 10), (0, .nameAndType 11 12), (0, u "java/util/AbstractList"), (0, u "modCount"), (0, u "I"), (64, .class_ 78), (0, u "java/util/AbstractList$Itr"), (3, .class_ 83), (0, u "java/util/AbstractList$ListItr"), (9, .class_ 94), (0, u "java/util/AbstractList$RandomAccessSubList"), (3, .class_ 99), (0, u "java/util/AbstractList$SubList"), (33, .class_ 134), (0, u "java/util/List"), (73, .class_ 209), (0, u "java/util/AbstractList$SubList$1"), (0, .class_ 211), (0, u "java/util/AbstractList$RandomAccessSpliterator")] 6

def k7c0 : Code := { maxStack := 2, maxLocals := 1, code := jdk_39_method_1_code, exceptionTable := #[], attributes := #[] }
def k7m0 : Method := { name := "<init>", desc := "()V", sig := { parameters := [], returnType := none }, accessFlags := 4, code := some k7c0 }
/-- java/util/AbstractList -/
def k7 : Class := { plain "java/util/AbstractList" (some 4) with
  accessFlags := 1057
  interfaces := #[6]
  cf := some (fileOf pool7 8 #[.nestMembers #[93, 98, 208, 210, 82, 77]] #[{ accessFlags := 4, nameIndex := 5, descriptorIndex := 6, attributes := #[] }] 1057 2 #[133] #[{ accessFlags := 132, nameIndex := 11, descriptorIndex := 12, attributes := #[] }])
  fields := #[{ name := "modCount", type := .int, accessFlags := 132, slot := 0, constantValue := 0 }]
  methods := #[k7m0]
  instanceTypes := #[.int]
  staticTypes := #[]
  resolved := Array.replicate 218 none
  statics := none }

def pool8 : Array CpInfo := pool [(1, .class_ 2), (0, u "java/util/RandomAccess"), (0, .class_ 4), (0, u "java/lang/Object")] 2

/-- java/util/RandomAccess -/
def k8 : Class := { plain "java/util/RandomAccess" (some 0) with
  accessFlags := 1537
  interfaces := #[]
  cf := some (fileOf pool8 1 #[] #[] 1537 3 #[] #[])
  fields := #[]
  methods := #[]
  instanceTypes := #[]
  staticTypes := #[]
  resolved := Array.replicate 7 none
  statics := none }

def pool9 : Array CpInfo := pool [(1, .class_ 2), (0, u "java/lang/Cloneable"), (0, .class_ 4), (0, u "java/lang/Object")] 2

/-- java/lang/Cloneable -/
def k9 : Class := { plain "java/lang/Cloneable" (some 0) with
  accessFlags := 1537
  interfaces := #[]
  cf := some (fileOf pool9 1 #[] #[] 1537 3 #[] #[])
  fields := #[]
  methods := #[]
  instanceTypes := #[]
  staticTypes := #[]
  resolved := Array.replicate 7 none
  statics := none }

def pool10 : Array CpInfo := pool [(1, .class_ 2), (0, u "java/io/Serializable"), (0, .class_ 4), (0, u "java/lang/Object")] 2

/-- java/io/Serializable -/
def k10 : Class := { plain "java/io/Serializable" (some 0) with
  accessFlags := 1537
  interfaces := #[]
  cf := some (fileOf pool10 1 #[] #[] 1537 3 #[] #[])
  fields := #[]
  methods := #[]
  instanceTypes := #[]
  staticTypes := #[]
  resolved := Array.replicate 7 none
  statics := none }

def pool11 : Array CpInfo := pool [(1, .methodref 2 3), (0, .class_ 4), (0, .nameAndType 5 6), (0, u "java/util/AbstractList"), (0, u "<init>"), (0, u "()V"), (0, .class_ 8), (0, u "java/lang/Object"), (0, .fieldref 10 11), (0, .class_ 12), (0, .nameAndType 13 14), (0, u "java/util/ArrayList"), (0, u "elementData"), (0, u "[Ljava/lang/Object;"), (2, u "EMPTY_ELEMENTDATA"), (21, .fieldref 10 40), (0, .nameAndType 41 14), (0, u "DEFAULTCAPACITY_EMPTY_ELEMENTDATA"), (4, u "toArray"), (0, u "()[Ljava/lang/Object;"), (0, .fieldref 10 49), (0, .nameAndType 50 51), (0, u "size"), (0, u "I"), (6, .class_ 60), (1, u "java/util/Arrays"), (0, u "copyOf"), (1, .fieldref 10 64), (0, .nameAndType 65 51), (0, u "modCount"), (0, .methodref 58 67), (0, .nameAndType 61 68), (0, u "([Ljava/lang/Object;I)[Ljava/lang/Object;"), (0, .methodref 10 70), (0, .nameAndType 71 72), (0, u "grow"), (0, u "(I)[Ljava/lang/Object;"), (6, .methodref 80 81), (0, .class_ 82), (0, .nameAndType 83 84), (0, u "java/lang/Math"), (0, u "max"), (0, u "(II)I"), (11, u "(Ljava/lang/Object;)Z"), (32, .methodref 10 130), (0, .nameAndType 71 47), (0, .methodref 10 132), (0, .nameAndType 133 134), (0, u "add"), (0, u "(Ljava/lang/Object;[Ljava/lang/Object;I)V"), (13, .class_ 149), (0, u "java/util/List"), (23, u "()Z"), (88, .class_ 263), (0, u "java/util/ArrayList$ListItr"), (3, .class_ 268), (0, u "java/util/ArrayList$Itr"), (7, .class_ 277), (0, u "java/util/ArrayList$SubList"), (12, .class_ 291), (0, u "java/util/ArrayList$ArrayListSpliterator"), (37, .class_ 330), (0, u "java/util/RandomAccess"), (0, .class_ 332), (0, u "java/lang/Cloneable"), (0, .class_ 334), (0, u "java/io/Serializable"), (0, u "serialVersionUID"), (0, u "J"), (3, u "DEFAULT_CAPACITY"), (22, u "isEmpty"), (136, .class_ 501), (0, u "java/util/ArrayList$SubList$2"), (0, .class_ 503), (0, u "java/util/ArrayList$SubList$1")] 5

def k11c0 : Code := { maxStack := 2, maxLocals := 1, code := jdk_38_method_2_code, exceptionTable := #[], attributes := #[] }
def k11m0 : Method := { name := "<init>", desc := "()V", sig := { parameters := [], returnType := none }, accessFlags := 1, code := some k11c0 }
def k11c1 : Code := { maxStack := 4, maxLocals := 4, code := jdk_38_method_6_code, exceptionTable := #[], attributes := #[] }
def k11m1 : Method := { name := "grow", desc := "(I)[Ljava/lang/Object;", sig := { parameters := [.int], returnType := some (.array (.object "java/lang/Object")) }, accessFlags := 2, code := some k11c1 }
def k11c2 : Code := { maxStack := 3, maxLocals := 1, code := jdk_38_method_7_code, exceptionTable := #[], attributes := #[] }
def k11m2 : Method := { name := "grow", desc := "()[Ljava/lang/Object;", sig := { parameters := [], returnType := some (.array (.object "java/lang/Object")) }, accessFlags := 2, code := some k11c2 }
def k11c3 : Code := { maxStack := 1, maxLocals := 1, code := jdk_38_method_9_code, exceptionTable := #[], attributes := #[] }
def k11m3 : Method := { name := "isEmpty", desc := "()Z", sig := { parameters := [], returnType := some .boolean }, accessFlags := 1, code := some k11c3 }
def k11c4 : Code := { maxStack := 2, maxLocals := 1, code := jdk_38_method_16_code, exceptionTable := #[], attributes := #[] }
def k11m4 : Method := { name := "toArray", desc := "()[Ljava/lang/Object;", sig := { parameters := [], returnType := some (.array (.object "java/lang/Object")) }, accessFlags := 1, code := some k11c4 }
def k11c5 : Code := { maxStack := 3, maxLocals := 4, code := jdk_38_method_24_code, exceptionTable := #[], attributes := #[] }
def k11m5 : Method := { name := "add", desc := "(Ljava/lang/Object;[Ljava/lang/Object;I)V", sig := { parameters := [(.object "java/lang/Object"), (.array (.object "java/lang/Object")), .int], returnType := none }, accessFlags := 2, code := some k11c5 }
def k11c6 : Code := { maxStack := 4, maxLocals := 2, code := jdk_38_method_25_code, exceptionTable := #[], attributes := #[] }
def k11m6 : Method := { name := "add", desc := "(Ljava/lang/Object;)Z", sig := { parameters := [(.object "java/lang/Object")], returnType := some .boolean }, accessFlags := 1, code := some k11c6 }
/-- java/util/ArrayList -/
def k11 : Class := { plain "java/util/ArrayList" (some 7) with
  accessFlags := 33
  interfaces := #[6, 8, 9, 10]
  cf := some (fileOf pool11 10 #[.nestMembers #[290, 276, 500, 502, 262, 267]] #[{ accessFlags := 1, nameIndex := 5, descriptorIndex := 6, attributes := #[] }, { accessFlags := 2, nameIndex := 71, descriptorIndex := 72, attributes := #[] }, { accessFlags := 2, nameIndex := 71, descriptorIndex := 47, attributes := #[] }, { accessFlags := 1, nameIndex := 363, descriptorIndex := 173, attributes := #[] }, { accessFlags := 1, nameIndex := 46, descriptorIndex := 47, attributes := #[] }, { accessFlags := 2, nameIndex := 133, descriptorIndex := 134, attributes := #[] }, { accessFlags := 1, nameIndex := 133, descriptorIndex := 96, attributes := #[] }] 33 2 #[148, 329, 331, 333] #[{ accessFlags := 26, nameIndex := 335, descriptorIndex := 336, attributes := #[] }, { accessFlags := 26, nameIndex := 340, descriptorIndex := 51, attributes := #[] }, { accessFlags := 26, nameIndex := 17, descriptorIndex := 14, attributes := #[] }, { accessFlags := 26, nameIndex := 41, descriptorIndex := 14, attributes := #[] }, { accessFlags := 128, nameIndex := 13, descriptorIndex := 14, attributes := #[] }, { accessFlags := 2, nameIndex := 50, descriptorIndex := 51, attributes := #[] }])
  fields := #[{ name := "serialVersionUID", type := .long, accessFlags := 26, slot := 0, constantValue := 0 }, { name := "DEFAULT_CAPACITY", type := .int, accessFlags := 26, slot := 1, constantValue := 0 }, { name := "EMPTY_ELEMENTDATA", type := (.array (.object "java/lang/Object")), accessFlags := 26, slot := 2, constantValue := 0 }, { name := "DEFAULTCAPACITY_EMPTY_ELEMENTDATA", type := (.array (.object "java/lang/Object")), accessFlags := 26, slot := 3, constantValue := 0 }, { name := "elementData", type := (.array (.object "java/lang/Object")), accessFlags := 128, slot := 1, constantValue := 0 }, { name := "size", type := .int, accessFlags := 2, slot := 2, constantValue := 0 }]
  methods := #[k11m0, k11m1, k11m2, k11m3, k11m4, k11m5, k11m6]
  instanceTypes := #[.int, (.array (.object "java/lang/Object")), .int]
  staticTypes := #[.long, .int, (.array (.object "java/lang/Object")), (.array (.object "java/lang/Object"))]
  resolved := Array.replicate 509 none
  statics := some 0 }

def pool12 : Array CpInfo := pool [(1, .methodref 2 3), (0, .class_ 4), (0, .nameAndType 5 6), (0, u "java/lang/Object"), (0, u "<init>"), (0, u "()V"), (0, .class_ 8), (0, u "java/lang/Record")] 13

def k12c0 : Code := { maxStack := 1, maxLocals := 1, code := jdk_30_method_1_code, exceptionTable := #[], attributes := #[] }
def k12m0 : Method := { name := "<init>", desc := "()V", sig := { parameters := [], returnType := none }, accessFlags := 4, code := some k12c0 }
/-- java/lang/Record -/
def k12 : Class := { plain "java/lang/Record" (some 0) with
  accessFlags := 1057
  interfaces := #[]
  cf := some (fileOf pool12 7 #[] #[{ accessFlags := 4, nameIndex := 5, descriptorIndex := 6, attributes := #[] }] 1057 2 #[] #[])
  fields := #[]
  methods := #[k12m0]
  instanceTypes := #[]
  staticTypes := #[]
  resolved := Array.replicate 22 none
  statics := none }

def pool13 : Array CpInfo := pool [(1, .methodref 2 3), (0, .class_ 4), (0, .nameAndType 5 6), (0, u "java/lang/Record"), (0, u "<init>"), (0, u "()V"), (0, .interfaceMethodref 8 9), (0, .class_ 10), (0, .nameAndType 11 12), (0, u "java/util/List"), (0, u "copyOf"), (0, u "(Ljava/util/Collection;)Ljava/util/List;"), (0, .fieldref 14 15), (0, .class_ 16), (0, .nameAndType 17 18), (0, u "com/example/uketsuke/uketsuke/core/conversation/Page"), (0, u "items"), (0, u "Ljava/util/List;"), (0, .fieldref 14 20), (0, .nameAndType 21 22), (0, u "more"), (0, u "Z"), (0, .interfaceMethodref 8 24), (0, .nameAndType 25 26), (0, u "size"), (0, u "()I"), (6, u "(Ljava/util/List;Z)V"), (0, .interfaceMethodref 8 35), (0, .nameAndType 36 37), (0, u "get"), (0, u "(I)Ljava/lang/Object;"), (0, .methodref 39 40), (0, .class_ 41), (0, .nameAndType 42 43), (0, u "java/util/Optional"), (0, u "of"), (0, u "(Ljava/lang/Object;)Ljava/util/Optional;"), (0, .methodref 39 45), (0, .nameAndType 46 47), (0, u "empty"), (0, u "()Ljava/util/Optional;"), (21, u "continuesAfter")] 28

def k13c0 : Code := { maxStack := 2, maxLocals := 3, code := prog_28_method_1_code, exceptionTable := #[], attributes := #[] }
def k13m0 : Method := { name := "<init>", desc := "(Ljava/util/List;Z)V", sig := { parameters := [(.object "java/util/List"), .boolean], returnType := none }, accessFlags := 1, code := some k13c0 }
def k13c1 : Code := { maxStack := 3, maxLocals := 1, code := prog_28_method_3_code, exceptionTable := #[], attributes := #[] }
def k13m1 : Method := { name := "continuesAfter", desc := "()Ljava/util/Optional;", sig := { parameters := [], returnType := some (.object "java/util/Optional") }, accessFlags := 1, code := some k13c1 }
/-- com/example/uketsuke/uketsuke/core/conversation/Page -/
def k13 : Class := { plain "com/example/uketsuke/uketsuke/core/conversation/Page" (some 12) with
  accessFlags := 49
  interfaces := #[]
  cf := some (fileOf pool13 14 #[] #[{ accessFlags := 1, nameIndex := 5, descriptorIndex := 33, attributes := #[] }, { accessFlags := 1, nameIndex := 69, descriptorIndex := 47, attributes := #[] }] 49 2 #[] #[{ accessFlags := 18, nameIndex := 17, descriptorIndex := 18, attributes := #[] }, { accessFlags := 18, nameIndex := 21, descriptorIndex := 22, attributes := #[] }])
  fields := #[{ name := "items", type := (.object "java/util/List"), accessFlags := 18, slot := 0, constantValue := 0 }, { name := "more", type := .boolean, accessFlags := 18, slot := 1, constantValue := 0 }]
  methods := #[k13m0, k13m1]
  instanceTypes := #[(.object "java/util/List"), .boolean]
  staticTypes := #[]
  resolved := Array.replicate 98 none
  statics := none }

def pool14 : Array CpInfo := pool [(2, .class_ 4), (1, u "java/lang/Object"), (0, u "<init>"), (0, u "()V"), (3, .class_ 11), (0, u "java/util/ImmutableCollections$List12"), (0, .class_ 13), (0, u "java/util/ImmutableCollections$ListN"), (3, u "Z"), (0, .class_ 19), (0, u "java/util/List"), (0, .interfaceMethodref 21 22), (0, .class_ 23), (0, .nameAndType 24 25), (0, u "java/util/Collection"), (0, u "isEmpty"), (0, u "()Z"), (0, .interfaceMethodref 18 27), (0, .nameAndType 28 29), (0, u "of"), (0, u "()Ljava/util/List;"), (0, .interfaceMethodref 21 31), (0, .nameAndType 32 33), (0, u "toArray"), (0, u "()[Ljava/lang/Object;"), (0, .interfaceMethodref 18 35), (0, .nameAndType 28 36), (0, u "([Ljava/lang/Object;)Ljava/util/List;"), (0, .methodref 38 39), (0, .class_ 40), (0, .nameAndType 41 42), (0, u "java/util/Objects"), (0, u "requireNonNull"), (0, u "(Ljava/lang/Object;)Ljava/lang/Object;"), (0, .methodref 12 44), (0, .nameAndType 5 45), (0, u "([Ljava/lang/Object;Z)V"), (1, .class_ 49), (1, u "java/util/ImmutableCollections"), (0, u "$assertionsDisabled"), (5, u "[Ljava/lang/Object;"), (5, u "EMPTY_LIST"), (0, u "Ljava/util/ImmutableCollections$ListN;"), (8, u "EMPTY_LIST_NULLS"), (22, u "SALT32L"), (0, u "J"), (2, u "REVERSE"), (6, u "archivedObjects"), (2, u "EMPTY"), (0, u "Ljava/lang/Object;"), (0, .class_ 112), (0, u "java/util/ImmutableCollections$SetN"), (5, u "EMPTY_SET"), (0, u "Ljava/util/ImmutableCollections$SetN;"), (0, .class_ 121), (0, u "java/util/ImmutableCollections$MapN"), (3, u "EMPTY_MAP"), (0, u "Ljava/util/ImmutableCollections$MapN;"), (4, u "EXPAND_FACTOR"), (0, u "I"), (9, u "listCopy"), (0, u "(Ljava/util/Collection;)Ljava/util/List;"), (7, u "listFromArray"), (17, .class_ 170), (0, u "java/util/ImmutableCollections$MapN$MapNIterator"), (0, .class_ 172), (0, u "java/util/ImmutableCollections$MapN$1"), (0, .class_ 174), (0, u "java/util/ImmutableCollections$Map1"), (0, .class_ 176), (0, u "java/util/ImmutableCollections$AbstractImmutableMap"), (0, .class_ 178), (0, u "java/util/ImmutableCollections$SetN$SetNIterator"), (0, .class_ 180), (0, u "java/util/ImmutableCollections$Set12"), (0, .class_ 182), (0, u "java/util/ImmutableCollections$Set12$1"), (0, .class_ 184), (0, u "java/util/ImmutableCollections$AbstractImmutableSet"), (0, .class_ 186), (0, u "java/util/ImmutableCollections$SubList"), (0, .class_ 188), (0, u "java/util/ImmutableCollections$ListItr"), (0, .class_ 190), (0, u "java/util/ImmutableCollections$AbstractImmutableList"), (0, .class_ 192), (0, u "java/util/ImmutableCollections$AbstractImmutableCollection"), (0, .class_ 194), (0, u "java/util/ImmutableCollections$Access"), (0, .class_ 196), (0, u "java/util/ImmutableCollections$Access$1")] 16

def k14m0 : Method := { name := "<init>", desc := "()V", sig := { parameters := [], returnType := none }, accessFlags := 2, code := none }
def k14c1 : Code := { maxStack := 1, maxLocals := 2, code := jdk_56_method_3_code, exceptionTable := #[], attributes := #[] }
def k14m1 : Method := { name := "listCopy", desc := "(Ljava/util/Collection;)Ljava/util/List;", sig := { parameters := [(.object "java/util/Collection")], returnType := some (.object "java/util/List") }, accessFlags := 8, code := some k14c1 }
def k14c2 : Code := { maxStack := 4, maxLocals := 3, code := jdk_56_method_4_code, exceptionTable := #[], attributes := #[] }
def k14m2 : Method := { name := "listFromArray", desc := "([Ljava/lang/Object;)Ljava/util/List;", sig := { parameters := [(.array (.object "java/lang/Object"))], returnType := some (.object "java/util/List") }, accessFlags := 136, code := some k14c2 }
/-- java/util/ImmutableCollections -/
def k14 : Class := { plain "java/util/ImmutableCollections" (some 0) with
  accessFlags := 32
  interfaces := #[]
  cf := some (fileOf pool14 47 #[.nestMembers #[120, 169, 171, 173, 175, 111, 177, 179, 181, 183, 12, 10, 185, 187, 189, 191, 193, 195]] #[{ accessFlags := 2, nameIndex := 5, descriptorIndex := 6, attributes := #[] }, { accessFlags := 8, nameIndex := 142, descriptorIndex := 143, attributes := #[] }, { accessFlags := 136, nameIndex := 151, descriptorIndex := 36, attributes := #[] }] 32 2 #[] #[{ accessFlags := 26, nameIndex := 95, descriptorIndex := 96, attributes := #[] }, { accessFlags := 26, nameIndex := 99, descriptorIndex := 17, attributes := #[] }, { accessFlags := 10, nameIndex := 106, descriptorIndex := 56, attributes := #[] }, { accessFlags := 26, nameIndex := 109, descriptorIndex := 110, attributes := #[] }, { accessFlags := 24, nameIndex := 62, descriptorIndex := 63, attributes := #[] }, { accessFlags := 24, nameIndex := 72, descriptorIndex := 63, attributes := #[] }, { accessFlags := 24, nameIndex := 118, descriptorIndex := 119, attributes := #[] }, { accessFlags := 24, nameIndex := 125, descriptorIndex := 126, attributes := #[] }, { accessFlags := 24, nameIndex := 131, descriptorIndex := 132, attributes := #[] }, { accessFlags := 4120, nameIndex := 50, descriptorIndex := 17, attributes := #[] }])
  fields := #[{ name := "SALT32L", type := .long, accessFlags := 26, slot := 0, constantValue := 0 }, { name := "REVERSE", type := .boolean, accessFlags := 26, slot := 1, constantValue := 0 }, { name := "archivedObjects", type := (.array (.object "java/lang/Object")), accessFlags := 10, slot := 2, constantValue := 0 }, { name := "EMPTY", type := (.object "java/lang/Object"), accessFlags := 26, slot := 3, constantValue := 0 }, { name := "EMPTY_LIST", type := (.object "java/util/ImmutableCollections$ListN"), accessFlags := 24, slot := 4, constantValue := 0 }, { name := "EMPTY_LIST_NULLS", type := (.object "java/util/ImmutableCollections$ListN"), accessFlags := 24, slot := 5, constantValue := 0 }, { name := "EMPTY_SET", type := (.object "java/util/ImmutableCollections$SetN"), accessFlags := 24, slot := 6, constantValue := 0 }, { name := "EMPTY_MAP", type := (.object "java/util/ImmutableCollections$MapN"), accessFlags := 24, slot := 7, constantValue := 0 }, { name := "EXPAND_FACTOR", type := .int, accessFlags := 24, slot := 8, constantValue := 0 }, { name := "$assertionsDisabled", type := .boolean, accessFlags := 4120, slot := 9, constantValue := 0 }]
  methods := #[k14m0, k14m1, k14m2]
  instanceTypes := #[]
  staticTypes := #[.long, .boolean, (.array (.object "java/lang/Object")), (.object "java/lang/Object"), (.object "java/util/ImmutableCollections$ListN"), (.object "java/util/ImmutableCollections$ListN"), (.object "java/util/ImmutableCollections$SetN"), (.object "java/util/ImmutableCollections$MapN"), .int, .boolean]
  resolved := Array.replicate 213 none
  statics := some 1 }

def pool15 : Array CpInfo := pool [(1, .methodref 2 3), (0, .class_ 4), (0, .nameAndType 5 6), (0, u "java/util/AbstractCollection"), (0, u "<init>"), (0, u "()V"), (1, .class_ 10), (1, u "java/util/ImmutableCollections"), (2, .class_ 14), (0, u "java/util/ImmutableCollections$AbstractImmutableCollection")] 41

def k15c0 : Code := { maxStack := 1, maxLocals := 1, code := jdk_47_method_1_code, exceptionTable := #[], attributes := #[] }
def k15m0 : Method := { name := "<init>", desc := "()V", sig := { parameters := [], returnType := none }, accessFlags := 0, code := some k15c0 }
/-- java/util/ImmutableCollections$AbstractImmutableCollection -/
def k15 : Class := { plain "java/util/ImmutableCollections$AbstractImmutableCollection" (some 4) with
  accessFlags := 1056
  interfaces := #[]
  cf := some (fileOf pool15 13 #[.nestHost 8] #[{ accessFlags := 0, nameIndex := 5, descriptorIndex := 6, attributes := #[] }] 1056 2 #[] #[])
  fields := #[]
  methods := #[k15m0]
  instanceTypes := #[]
  staticTypes := #[]
  resolved := Array.replicate 56 none
  statics := none }

def pool16 : Array CpInfo := pool [(1, .methodref 2 3), (0, .class_ 4), (0, .nameAndType 5 6), (0, u "java/util/ImmutableCollections$AbstractImmutableCollection"), (0, u "<init>"), (0, u "()V"), (1, .class_ 10), (1, u "java/util/ImmutableCollections"), (3, .class_ 16), (1, u "java/util/ImmutableCollections$AbstractImmutableList"), (60, .class_ 78), (0, u "java/util/List"), (45, .class_ 125), (0, u "java/util/RandomAccess")] 70

def k16c0 : Code := { maxStack := 1, maxLocals := 1, code := jdk_46_method_1_code, exceptionTable := #[], attributes := #[] }
def k16m0 : Method := { name := "<init>", desc := "()V", sig := { parameters := [], returnType := none }, accessFlags := 0, code := some k16c0 }
/-- java/util/ImmutableCollections$AbstractImmutableList -/
def k16 : Class := { plain "java/util/ImmutableCollections$AbstractImmutableList" (some 15) with
  accessFlags := 1056
  interfaces := #[6, 8]
  cf := some (fileOf pool16 14 #[.nestHost 8] #[{ accessFlags := 0, nameIndex := 5, descriptorIndex := 6, attributes := #[] }] 1056 2 #[77, 124] #[])
  fields := #[]
  methods := #[k16m0]
  instanceTypes := #[]
  staticTypes := #[]
  resolved := Array.replicate 196 none
  statics := none }

def pool17 : Array CpInfo := pool [(1, .methodref 2 3), (0, .class_ 4), (0, .nameAndType 5 6), (0, u "java/util/ImmutableCollections$AbstractImmutableList"), (0, u "<init>"), (0, u "()V"), (0, .methodref 8 9), (0, .class_ 10), (0, .nameAndType 11 12), (0, u "java/util/Objects"), (0, u "requireNonNull"), (0, u "(Ljava/lang/Object;)Ljava/lang/Object;"), (0, .fieldref 14 15), (0, .class_ 16), (0, .nameAndType 17 18), (0, u "java/util/ImmutableCollections$List12"), (0, u "e0"), (0, u "Ljava/lang/Object;"), (0, .fieldref 20 21), (0, .class_ 22), (0, .nameAndType 23 18), (0, u "java/util/ImmutableCollections"), (0, u "EMPTY"), (0, .fieldref 14 25), (0, .nameAndType 26 18), (0, u "e1"), (24, u "size"), (0, u "()I"), (17, .class_ 71), (0, u "java/io/Serializable"), (4, u "(Ljava/lang/Object;)V"), (8, u "(Ljava/lang/Object;Ljava/lang/Object;)V"), (4, u "get"), (0, u "(I)Ljava/lang/Object;")] 33

def k17c0 : Code := { maxStack := 2, maxLocals := 2, code := jdk_44_method_1_code, exceptionTable := #[], attributes := #[] }
def k17m0 : Method := { name := "<init>", desc := "(Ljava/lang/Object;)V", sig := { parameters := [(.object "java/lang/Object")], returnType := none }, accessFlags := 0, code := some k17c0 }
def k17c1 : Code := { maxStack := 2, maxLocals := 3, code := jdk_44_method_2_code, exceptionTable := #[], attributes := #[] }
def k17m1 : Method := { name := "<init>", desc := "(Ljava/lang/Object;Ljava/lang/Object;)V", sig := { parameters := [(.object "java/lang/Object"), (.object "java/lang/Object")], returnType := none }, accessFlags := 0, code := some k17c1 }
def k17c2 : Code := { maxStack := 2, maxLocals := 1, code := jdk_44_method_3_code, exceptionTable := #[], attributes := #[] }
def k17m2 : Method := { name := "size", desc := "()I", sig := { parameters := [], returnType := some .int }, accessFlags := 1, code := some k17c2 }
def k17c3 : Code := { maxStack := 2, maxLocals := 2, code := jdk_44_method_5_code, exceptionTable := #[], attributes := #[] }
def k17m3 : Method := { name := "get", desc := "(I)Ljava/lang/Object;", sig := { parameters := [.int], returnType := some (.object "java/lang/Object") }, accessFlags := 1, code := some k17c3 }
/-- java/util/ImmutableCollections$List12 -/
def k17 : Class := { plain "java/util/ImmutableCollections$List12" (some 16) with
  accessFlags := 48
  interfaces := #[10]
  cf := some (fileOf pool17 14 #[.nestHost 20] #[{ accessFlags := 0, nameIndex := 5, descriptorIndex := 76, attributes := #[] }, { accessFlags := 0, nameIndex := 5, descriptorIndex := 85, attributes := #[] }, { accessFlags := 1, nameIndex := 51, descriptorIndex := 52, attributes := #[] }, { accessFlags := 1, nameIndex := 90, descriptorIndex := 91, attributes := #[] }] 48 2 #[70] #[{ accessFlags := 18, nameIndex := 17, descriptorIndex := 18, attributes := #[] }, { accessFlags := 18, nameIndex := 26, descriptorIndex := 18, attributes := #[] }])
  fields := #[{ name := "e0", type := (.object "java/lang/Object"), accessFlags := 18, slot := 0, constantValue := 0 }, { name := "e1", type := (.object "java/lang/Object"), accessFlags := 18, slot := 1, constantValue := 0 }]
  methods := #[k17m0, k17m1, k17m2, k17m3]
  instanceTypes := #[(.object "java/lang/Object"), (.object "java/lang/Object")]
  staticTypes := #[]
  resolved := Array.replicate 125 none
  statics := none }

def pool18 : Array CpInfo := pool [(1, .methodref 2 3), (0, .class_ 4), (0, .nameAndType 5 6), (0, u "java/util/ImmutableCollections$AbstractImmutableList"), (0, u "<init>"), (0, u "()V"), (0, .fieldref 8 9), (0, .class_ 10), (0, .nameAndType 11 12), (0, u "java/util/ImmutableCollections$ListN"), (0, u "elements"), (0, u "[Ljava/lang/Object;"), (0, .fieldref 8 14), (0, .nameAndType 15 16), (0, u "allowNulls"), (0, u "Z"), (42, .class_ 60), (0, u "java/io/Serializable"), (4, u "([Ljava/lang/Object;Z)V"), (11, u "size"), (0, u "()I"), (0, u "get"), (0, u "(I)Ljava/lang/Object;"), (33, .class_ 115), (0, u "java/util/ImmutableCollections")] 3

def k18c0 : Code := { maxStack := 2, maxLocals := 3, code := jdk_45_method_1_code, exceptionTable := #[], attributes := #[] }
def k18m0 : Method := { name := "<init>", desc := "([Ljava/lang/Object;Z)V", sig := { parameters := [(.array (.object "java/lang/Object")), .boolean], returnType := none }, accessFlags := 2, code := some k18c0 }
def k18c1 : Code := { maxStack := 1, maxLocals := 1, code := jdk_45_method_3_code, exceptionTable := #[], attributes := #[] }
def k18m1 : Method := { name := "size", desc := "()I", sig := { parameters := [], returnType := some .int }, accessFlags := 1, code := some k18c1 }
def k18c2 : Code := { maxStack := 2, maxLocals := 2, code := jdk_45_method_4_code, exceptionTable := #[], attributes := #[] }
def k18m2 : Method := { name := "get", desc := "(I)Ljava/lang/Object;", sig := { parameters := [.int], returnType := some (.object "java/lang/Object") }, accessFlags := 1, code := some k18c2 }
/-- java/util/ImmutableCollections$ListN -/
def k18 : Class := { plain "java/util/ImmutableCollections$ListN" (some 16) with
  accessFlags := 48
  interfaces := #[10]
  cf := some (fileOf pool18 8 #[.nestHost 114] #[{ accessFlags := 2, nameIndex := 5, descriptorIndex := 65, attributes := #[] }, { accessFlags := 1, nameIndex := 77, descriptorIndex := 78, attributes := #[] }, { accessFlags := 1, nameIndex := 79, descriptorIndex := 80, attributes := #[] }] 48 2 #[59] #[{ accessFlags := 18, nameIndex := 11, descriptorIndex := 12, attributes := #[] }, { accessFlags := 18, nameIndex := 15, descriptorIndex := 16, attributes := #[] }])
  fields := #[{ name := "elements", type := (.array (.object "java/lang/Object")), accessFlags := 18, slot := 0, constantValue := 0 }, { name := "allowNulls", type := .boolean, accessFlags := 18, slot := 1, constantValue := 0 }]
  methods := #[k18m0, k18m1, k18m2]
  instanceTypes := #[(.array (.object "java/lang/Object")), .boolean]
  staticTypes := #[]
  resolved := Array.replicate 119 none
  statics := none }

def pool19 : Array CpInfo := pool [(1, .fieldref 2 3), (0, .class_ 4), (0, .nameAndType 5 6), (0, u "java/util/Optional"), (0, u "EMPTY"), (0, u "Ljava/util/Optional;"), (0, .methodref 8 9), (0, .class_ 10), (0, .nameAndType 11 12), (0, u "java/lang/Object"), (0, u "<init>"), (0, u "()V"), (0, .fieldref 2 14), (0, .nameAndType 15 16), (0, u "value"), (0, u "Ljava/lang/Object;"), (0, .methodref 18 19), (0, .class_ 20), (0, .nameAndType 21 22), (0, u "java/util/Objects"), (0, u "requireNonNull"), (0, u "(Ljava/lang/Object;)Ljava/lang/Object;"), (0, .methodref 2 24), (0, .nameAndType 11 25), (0, u "(Ljava/lang/Object;)V"), (20, u "()Z"), (8, u "empty"), (0, u "()Ljava/util/Optional;"), (8, u "(Ljava/lang/Object;)Ljava/util/Optional;"), (2, u "isPresent"), (4, u "get"), (0, u "()Ljava/lang/Object;"), (7, u "of")] 104

def k19c0 : Code := { maxStack := 1, maxLocals := 1, code := jdk_32_method_1_code, exceptionTable := #[], attributes := #[] }
def k19m0 : Method := { name := "empty", desc := "()Ljava/util/Optional;", sig := { parameters := [], returnType := some (.object "java/util/Optional") }, accessFlags := 9, code := some k19c0 }
def k19c1 : Code := { maxStack := 2, maxLocals := 2, code := jdk_32_method_2_code, exceptionTable := #[], attributes := #[] }
def k19m1 : Method := { name := "<init>", desc := "(Ljava/lang/Object;)V", sig := { parameters := [(.object "java/lang/Object")], returnType := none }, accessFlags := 2, code := some k19c1 }
def k19c2 : Code := { maxStack := 3, maxLocals := 1, code := jdk_32_method_3_code, exceptionTable := #[], attributes := #[] }
def k19m2 : Method := { name := "of", desc := "(Ljava/lang/Object;)Ljava/util/Optional;", sig := { parameters := [(.object "java/lang/Object")], returnType := some (.object "java/util/Optional") }, accessFlags := 9, code := some k19c2 }
def k19c3 : Code := { maxStack := 3, maxLocals := 1, code := jdk_32_method_5_code, exceptionTable := #[], attributes := #[] }
def k19m3 : Method := { name := "get", desc := "()Ljava/lang/Object;", sig := { parameters := [], returnType := some (.object "java/lang/Object") }, accessFlags := 1, code := some k19c3 }
def k19c4 : Code := { maxStack := 1, maxLocals := 1, code := jdk_32_method_6_code, exceptionTable := #[], attributes := #[] }
def k19m4 : Method := { name := "isPresent", desc := "()Z", sig := { parameters := [], returnType := some .boolean }, accessFlags := 1, code := some k19c4 }
/-- java/util/Optional -/
def k19 : Class := { plain "java/util/Optional" (some 0) with
  accessFlags := 49
  interfaces := #[]
  cf := some (fileOf pool19 2 #[] #[{ accessFlags := 9, nameIndex := 55, descriptorIndex := 56, attributes := #[] }, { accessFlags := 2, nameIndex := 11, descriptorIndex := 25, attributes := #[] }, { accessFlags := 9, nameIndex := 82, descriptorIndex := 65, attributes := #[] }, { accessFlags := 1, nameIndex := 73, descriptorIndex := 74, attributes := #[] }, { accessFlags := 1, nameIndex := 68, descriptorIndex := 46, attributes := #[] }] 49 8 #[] #[{ accessFlags := 26, nameIndex := 5, descriptorIndex := 6, attributes := #[] }, { accessFlags := 18, nameIndex := 15, descriptorIndex := 16, attributes := #[] }])
  fields := #[{ name := "EMPTY", type := (.object "java/util/Optional"), accessFlags := 26, slot := 0, constantValue := 0 }, { name := "value", type := (.object "java/lang/Object"), accessFlags := 18, slot := 0, constantValue := 0 }]
  methods := #[k19m0, k19m1, k19m2, k19m3, k19m4]
  instanceTypes := #[(.object "java/lang/Object")]
  staticTypes := #[(.object "java/util/Optional")]
  resolved := Array.replicate 187 none
  statics := some 2 }

def pool20 : Array CpInfo := pool [(1, .methodref 2 3), (0, .class_ 4), (0, .nameAndType 5 6), (0, u "java/lang/Object"), (0, u "<init>"), (0, u "()V"), (1, .class_ 10), (1, u "java/lang/Number"), (2, .class_ 14), (0, u "java/io/Serializable"), (0, u "serialVersionUID"), (0, u "J")] 20

def k20c0 : Code := { maxStack := 1, maxLocals := 1, code := jdk_18_method_1_code, exceptionTable := #[], attributes := #[] }
def k20m0 : Method := { name := "<init>", desc := "()V", sig := { parameters := [], returnType := none }, accessFlags := 1, code := some k20c0 }
/-- java/lang/Number -/
def k20 : Class := { plain "java/lang/Number" (some 0) with
  accessFlags := 1057
  interfaces := #[10]
  cf := some (fileOf pool20 8 #[] #[{ accessFlags := 1, nameIndex := 5, descriptorIndex := 6, attributes := #[] }] 1057 2 #[13] #[{ accessFlags := 26, nameIndex := 15, descriptorIndex := 16, attributes := #[] }])
  fields := #[{ name := "serialVersionUID", type := .long, accessFlags := 26, slot := 0, constantValue := 0 }]
  methods := #[k20m0]
  instanceTypes := #[]
  staticTypes := #[.long]
  resolved := Array.replicate 37 none
  statics := none }

def pool21 : Array CpInfo := pool [(1, .class_ 2), (0, u "java/lang/Comparable"), (0, .class_ 4), (0, u "java/lang/Object")] 7

/-- java/lang/Comparable -/
def k21 : Class := { plain "java/lang/Comparable" (some 0) with
  accessFlags := 1537
  interfaces := #[]
  cf := some (fileOf pool21 1 #[] #[] 1537 3 #[] #[])
  fields := #[]
  methods := #[]
  instanceTypes := #[]
  staticTypes := #[]
  resolved := Array.replicate 12 none
  statics := none }

def pool22 : Array CpInfo := pool [(1, .class_ 2), (0, u "java/lang/constant/Constable"), (0, .class_ 4), (0, u "java/lang/Object")] 6

/-- java/lang/constant/Constable -/
def k22 : Class := { plain "java/lang/constant/Constable" (some 0) with
  accessFlags := 1537
  interfaces := #[]
  cf := some (fileOf pool22 1 #[] #[] 1537 3 #[] #[])
  fields := #[]
  methods := #[]
  instanceTypes := #[]
  staticTypes := #[]
  resolved := Array.replicate 11 none
  statics := none }

def pool23 : Array CpInfo := pool [(1, .class_ 2), (0, u "java/lang/constant/ConstantDesc"), (0, .class_ 4), (0, u "java/lang/Object")] 32

/-- java/lang/constant/ConstantDesc -/
def k23 : Class := { plain "java/lang/constant/ConstantDesc" (some 0) with
  accessFlags := 1537
  interfaces := #[]
  cf := some (fileOf pool23 1 #[] #[] 1537 3 #[] #[])
  fields := #[]
  methods := #[]
  instanceTypes := #[]
  staticTypes := #[]
  resolved := Array.replicate 37 none
  statics := none }

def pool24 : Array CpInfo := pool [(1, .class_ 2), (0, u "java/lang/Integer"), (16, u "digits"), (0, u "[C"), (46, u "<init>"), (17, u "DigitOnes"), (0, u "[B"), (2, u "DigitTens"), (10, .nameAndType 67 101), (0, u "()V"), (19, u "()I"), (65, u "valueOf"), (0, u "(I)Ljava/lang/Integer;"), (0, .class_ 190), (0, u "java/lang/Integer$IntegerCache"), (0, .fieldref 189 192), (0, .nameAndType 193 194), (0, u "high"), (0, u "I"), (0, .fieldref 189 196), (0, .nameAndType 197 198), (0, u "cache"), (0, u "[Ljava/lang/Integer;"), (0, .methodref 1 200), (0, .nameAndType 67 201), (0, u "(I)V"), (0, .methodref 203 100), (0, .class_ 204), (0, u "java/lang/Number"), (0, .fieldref 1 206), (0, .nameAndType 207 194), (0, u "value"), (5, u "intValue"), (88, u "TYPE"), (0, u "Ljava/lang/Class;"), (0, .class_ 305), (0, u "java/lang/Comparable"), (0, .class_ 307), (0, u "java/lang/constant/Constable"), (0, .class_ 309), (0, u "java/lang/constant/ConstantDesc"), (0, u "MIN_VALUE"), (1, u "MAX_VALUE"), (3, u "SIZE"), (1, u "BYTES"), (1, u "serialVersionUID"), (0, u "J")] 131

def k24c0 : Code := { maxStack := 3, maxLocals := 1, code := jdk_33_method_22_code, exceptionTable := #[], attributes := #[] }
def k24m0 : Method := { name := "valueOf", desc := "(I)Ljava/lang/Integer;", sig := { parameters := [.int], returnType := some (.object "java/lang/Integer") }, accessFlags := 9, code := some k24c0 }
def k24c1 : Code := { maxStack := 2, maxLocals := 2, code := jdk_33_method_23_code, exceptionTable := #[], attributes := #[] }
def k24m1 : Method := { name := "<init>", desc := "(I)V", sig := { parameters := [.int], returnType := none }, accessFlags := 1, code := some k24c1 }
def k24c2 : Code := { maxStack := 1, maxLocals := 1, code := jdk_33_method_27_code, exceptionTable := #[], attributes := #[] }
def k24m2 : Method := { name := "intValue", desc := "()I", sig := { parameters := [], returnType := some .int }, accessFlags := 1, code := some k24c2 }
/-- java/lang/Integer -/
def k24 : Class := { plain "java/lang/Integer" (some 20) with
  accessFlags := 49
  interfaces := #[21, 22, 23]
  cf := some (fileOf pool24 1 #[.nestMembers #[189]] #[{ accessFlags := 9, nameIndex := 187, descriptorIndex := 188, attributes := #[] }, { accessFlags := 1, nameIndex := 67, descriptorIndex := 201, attributes := #[] }, { accessFlags := 1, nameIndex := 213, descriptorIndex := 121, attributes := #[] }] 49 203 #[304, 306, 308] #[{ accessFlags := 25, nameIndex := 310, descriptorIndex := 194, attributes := #[] }, { accessFlags := 25, nameIndex := 312, descriptorIndex := 194, attributes := #[] }, { accessFlags := 25, nameIndex := 302, descriptorIndex := 303, attributes := #[] }, { accessFlags := 24, nameIndex := 19, descriptorIndex := 20, attributes := #[] }, { accessFlags := 24, nameIndex := 89, descriptorIndex := 86, attributes := #[] }, { accessFlags := 24, nameIndex := 85, descriptorIndex := 86, attributes := #[] }, { accessFlags := 18, nameIndex := 207, descriptorIndex := 194, attributes := #[] }, { accessFlags := 25, nameIndex := 316, descriptorIndex := 194, attributes := #[] }, { accessFlags := 25, nameIndex := 318, descriptorIndex := 194, attributes := #[] }, { accessFlags := 26, nameIndex := 320, descriptorIndex := 321, attributes := #[] }])
  fields := #[{ name := "MIN_VALUE", type := .int, accessFlags := 25, slot := 0, constantValue := 0 }, { name := "MAX_VALUE", type := .int, accessFlags := 25, slot := 1, constantValue := 0 }, { name := "TYPE", type := (.object "java/lang/Class"), accessFlags := 25, slot := 2, constantValue := 0 }, { name := "digits", type := (.array .char), accessFlags := 24, slot := 3, constantValue := 0 }, { name := "DigitTens", type := (.array .byte), accessFlags := 24, slot := 4, constantValue := 0 }, { name := "DigitOnes", type := (.array .byte), accessFlags := 24, slot := 5, constantValue := 0 }, { name := "value", type := .int, accessFlags := 18, slot := 0, constantValue := 0 }, { name := "SIZE", type := .int, accessFlags := 25, slot := 6, constantValue := 0 }, { name := "BYTES", type := .int, accessFlags := 25, slot := 7, constantValue := 0 }, { name := "serialVersionUID", type := .long, accessFlags := 26, slot := 8, constantValue := 0 }]
  methods := #[k24m0, k24m1, k24m2]
  instanceTypes := #[.int]
  staticTypes := #[.int, .int, (.object "java/lang/Class"), (.array .char), (.array .byte), (.array .byte), .int, .int, .long]
  resolved := Array.replicate 453 none
  statics := none }

def pool25 : Array CpInfo := pool [(2, .class_ 4), (1, u "java/lang/Object"), (0, u "<init>"), (0, u "()V"), (0, .class_ 8), (0, u "java/lang/Integer"), (7, .class_ 18), (1, u "java/lang/Integer$IntegerCache"), (0, u "$assertionsDisabled"), (0, u "Z"), (26, u "high"), (0, u "I"), (8, u "archivedCache"), (0, u "[Ljava/lang/Integer;"), (12, u "cache"), (0, u "low")] 27

def k25m0 : Method := { name := "<init>", desc := "()V", sig := { parameters := [], returnType := none }, accessFlags := 2, code := none }
/-- java/lang/Integer$IntegerCache -/
def k25 : Class := { plain "java/lang/Integer$IntegerCache" (some 0) with
  accessFlags := 48
  interfaces := #[]
  cf := some (fileOf pool25 16 #[.nestHost 7] #[{ accessFlags := 2, nameIndex := 5, descriptorIndex := 6, attributes := #[] }] 48 2 #[] #[{ accessFlags := 24, nameIndex := 72, descriptorIndex := 48, attributes := #[] }, { accessFlags := 24, nameIndex := 47, descriptorIndex := 48, attributes := #[] }, { accessFlags := 24, nameIndex := 71, descriptorIndex := 58, attributes := #[] }, { accessFlags := 8, nameIndex := 57, descriptorIndex := 58, attributes := #[] }, { accessFlags := 4120, nameIndex := 19, descriptorIndex := 20, attributes := #[] }])
  fields := #[{ name := "low", type := .int, accessFlags := 24, slot := 0, constantValue := 0 }, { name := "high", type := .int, accessFlags := 24, slot := 1, constantValue := 0 }, { name := "cache", type := (.array (.object "java/lang/Integer")), accessFlags := 24, slot := 2, constantValue := 0 }, { name := "archivedCache", type := (.array (.object "java/lang/Integer")), accessFlags := 8, slot := 3, constantValue := 0 }, { name := "$assertionsDisabled", type := .boolean, accessFlags := 4120, slot := 4, constantValue := 0 }]
  methods := #[k25m0]
  instanceTypes := #[]
  staticTypes := #[.int, .int, (.array (.object "java/lang/Integer")), (.array (.object "java/lang/Integer")), .boolean]
  resolved := Array.replicate 100 none
  statics := some 3 }

def pool26 : Array CpInfo := pool [(1, .class_ 2), (0, u "java/lang/Math"), (1, .class_ 6), (1, u "java/lang/Object"), (0, u "<init>"), (0, u "()V"), (89, .class_ 100), (1, u "java/lang/Math$RandomNumberGeneratorHolder"), (71, u "negativeZeroFloatBits"), (0, u "J"), (2, u "negativeZeroDoubleBits"), (21, u "max"), (2, u "min"), (43, u "$assertionsDisabled"), (0, u "Z"), (88, u "(II)I"), (2, u "twoToTheDoubleScaleDown"), (0, u "D"), (4, u "twoToTheDoubleScaleUp"), (9, u "E"), (3, u "PI"), (2, u "TAU"), (2, u "DEGREES_TO_RADIANS"), (0, u "RADIANS_TO_DEGREES")] 94

def k26m0 : Method := { name := "<init>", desc := "()V", sig := { parameters := [], returnType := none }, accessFlags := 2, code := none }
def k26c1 : Code := { maxStack := 2, maxLocals := 2, code := jdk_29_method_65_code, exceptionTable := #[], attributes := #[] }
def k26m1 : Method := { name := "max", desc := "(II)I", sig := { parameters := [.int, .int], returnType := some .int }, accessFlags := 9, code := some k26c1 }
def k26c2 : Code := { maxStack := 2, maxLocals := 2, code := jdk_29_method_69_code, exceptionTable := #[], attributes := #[] }
def k26m2 : Method := { name := "min", desc := "(II)I", sig := { parameters := [.int, .int], returnType := some .int }, accessFlags := 9, code := some k26c2 }
/-- java/lang/Math -/
def k26 : Class := { plain "java/lang/Math" (some 0) with
  accessFlags := 49
  interfaces := #[]
  cf := some (fileOf pool26 1 #[.nestMembers #[98]] #[{ accessFlags := 2, nameIndex := 7, descriptorIndex := 8, attributes := #[] }, { accessFlags := 9, nameIndex := 198, descriptorIndex := 335, attributes := #[] }, { accessFlags := 9, nameIndex := 201, descriptorIndex := 335, attributes := #[] }] 49 4 #[] #[{ accessFlags := 25, nameIndex := 354, descriptorIndex := 339, attributes := #[] }, { accessFlags := 25, nameIndex := 358, descriptorIndex := 339, attributes := #[] }, { accessFlags := 25, nameIndex := 361, descriptorIndex := 339, attributes := #[] }, { accessFlags := 26, nameIndex := 364, descriptorIndex := 339, attributes := #[] }, { accessFlags := 26, nameIndex := 365, descriptorIndex := 339, attributes := #[] }, { accessFlags := 26, nameIndex := 172, descriptorIndex := 173, attributes := #[] }, { accessFlags := 26, nameIndex := 176, descriptorIndex := 173, attributes := #[] }, { accessFlags := 8, nameIndex := 344, descriptorIndex := 339, attributes := #[] }, { accessFlags := 8, nameIndex := 338, descriptorIndex := 339, attributes := #[] }, { accessFlags := 4120, nameIndex := 245, descriptorIndex := 246, attributes := #[] }])
  fields := #[{ name := "E", type := .double, accessFlags := 25, slot := 0, constantValue := 0 }, { name := "PI", type := .double, accessFlags := 25, slot := 1, constantValue := 0 }, { name := "TAU", type := .double, accessFlags := 25, slot := 2, constantValue := 0 }, { name := "DEGREES_TO_RADIANS", type := .double, accessFlags := 26, slot := 3, constantValue := 0 }, { name := "RADIANS_TO_DEGREES", type := .double, accessFlags := 26, slot := 4, constantValue := 0 }, { name := "negativeZeroFloatBits", type := .long, accessFlags := 26, slot := 5, constantValue := 0 }, { name := "negativeZeroDoubleBits", type := .long, accessFlags := 26, slot := 6, constantValue := 0 }, { name := "twoToTheDoubleScaleUp", type := .double, accessFlags := 8, slot := 7, constantValue := 0 }, { name := "twoToTheDoubleScaleDown", type := .double, accessFlags := 8, slot := 8, constantValue := 0 }, { name := "$assertionsDisabled", type := .boolean, accessFlags := 4120, slot := 9, constantValue := 0 }]
  methods := #[k26m0, k26m1, k26m2]
  instanceTypes := #[]
  staticTypes := #[.double, .double, .double, .double, .double, .long, .long, .double, .double, .boolean]
  resolved := Array.replicate 460 none
  statics := none }

def pool27 : Array CpInfo := pool [(2, .class_ 4), (1, u "java/lang/Object"), (0, u "<init>"), (0, u "()V"), (7, .class_ 16), (1, u "java/util/Arrays"), (57, .class_ 76), (1, u "java/util/Arrays$NaturalOrder"), (9, .methodref 2 87), (0, .nameAndType 88 89), (0, u "getClass"), (0, u "()Ljava/lang/Class;"), (20, .class_ 111), (0, u "[Ljava/lang/Object;"), (1, .class_ 115), (1, u "java/util/Arrays$LegacyMergeSort"), (1, u "Z"), (32, .methodref 151 152), (0, .class_ 153), (0, .nameAndType 154 155), (0, u "java/lang/System"), (0, u "arraycopy"), (0, u "(Ljava/lang/Object;ILjava/lang/Object;II)V"), (144, .methodref 14 301), (0, .nameAndType 302 303), (0, u "copyOf"), (0, u "([Ljava/lang/Object;ILjava/lang/Class;)[Ljava/lang/Object;"), (0, .methodref 305 306), (0, .class_ 307), (0, .nameAndType 308 309), (0, u "java/lang/Math"), (0, u "min"), (0, u "(II)I"), (65, .class_ 376), (0, u "java/util/Arrays$ArrayList"), (68, u "$assertionsDisabled"), (269, u "MIN_ARRAY_SORT_GRAN"), (0, u "I"), (2, u "INSERTIONSORT_THRESHOLD"), (140, u "([Ljava/lang/Object;I)[Ljava/lang/Object;"), (114, .class_ 976), (0, u "java/util/Arrays$ArrayItr")] 52

def k27m0 : Method := { name := "<init>", desc := "()V", sig := { parameters := [], returnType := none }, accessFlags := 2, code := none }
def k27c1 : Code := { maxStack := 3, maxLocals := 2, code := jdk_65_method_119_code, exceptionTable := #[], attributes := #[] }
def k27m1 : Method := { name := "copyOf", desc := "([Ljava/lang/Object;I)[Ljava/lang/Object;", sig := { parameters := [(.array (.object "java/lang/Object")), .int], returnType := some (.array (.object "java/lang/Object")) }, accessFlags := 9, code := some k27c1 }
def k27c2 : Code := { maxStack := 6, maxLocals := 4, code := jdk_65_method_120_code, exceptionTable := #[], attributes := #[] }
def k27m2 : Method := { name := "copyOf", desc := "([Ljava/lang/Object;ILjava/lang/Class;)[Ljava/lang/Object;", sig := { parameters := [(.array (.object "java/lang/Object")), .int, (.object "java/lang/Class")], returnType := some (.array (.object "java/lang/Object")) }, accessFlags := 9, code := some k27c2 }
/-- java/util/Arrays -/
def k27 : Class := { plain "java/util/Arrays" (some 0) with
  accessFlags := 49
  interfaces := #[]
  cf := some (fileOf pool27 14 #[.nestMembers #[975, 375, 113, 74]] #[{ accessFlags := 2, nameIndex := 5, descriptorIndex := 6, attributes := #[] }, { accessFlags := 9, nameIndex := 302, descriptorIndex := 860, attributes := #[] }, { accessFlags := 9, nameIndex := 302, descriptorIndex := 303, attributes := #[] }] 49 2 #[] #[{ accessFlags := 26, nameIndex := 715, descriptorIndex := 716, attributes := #[] }, { accessFlags := 26, nameIndex := 719, descriptorIndex := 716, attributes := #[] }, { accessFlags := 4120, nameIndex := 445, descriptorIndex := 117, attributes := #[] }])
  fields := #[{ name := "MIN_ARRAY_SORT_GRAN", type := .int, accessFlags := 26, slot := 0, constantValue := 0 }, { name := "INSERTIONSORT_THRESHOLD", type := .int, accessFlags := 26, slot := 1, constantValue := 0 }, { name := "$assertionsDisabled", type := .boolean, accessFlags := 4120, slot := 2, constantValue := 0 }]
  methods := #[k27m0, k27m1, k27m2]
  instanceTypes := #[]
  staticTypes := #[.int, .int, .boolean]
  resolved := Array.replicate 1029 none
  statics := none }

def pool28 : Array CpInfo := pool [(2, .class_ 4), (1, u "java/lang/Object"), (0, u "<init>"), (0, u "()V"), (1, .class_ 10), (1, u "java/lang/System"), (0, u "allowSecurityManager"), (0, u "I"), (16, u "cons"), (0, u "Ljava/io/Console;"), (77, .class_ 110), (1, u "java/lang/System$CallersHolder"), (43, u "initialErrStream"), (0, u "Ljava/io/PrintStream;"), (19, u "security"), (0, u "Ljava/lang/SecurityManager;"), (31, .class_ 209), (0, u "java/lang/System$1"), (7, u "props"), (0, u "Ljava/util/Properties;"), (2, u "lineSeparator"), (0, u "Ljava/lang/String;"), (96, .class_ 321), (1, u "java/lang/System$LoggerFinder"), (5, .class_ 328), (0, u "java/lang/System$Logger"), (67, u "err"), (2, u "out"), (91, u "notSupportedJnuEncoding"), (15, u "in"), (17, u "initialIn"), (0, u "Ljava/io/InputStream;"), (35, u "bootLayer"), (0, u "Ljava/lang/ModuleLayer;"), (99, .class_ 664), (0, u "java/lang/System$2"), (9, u "NEVER"), (2, u "MAYBE"), (49, u "arraycopy"), (0, u "(Ljava/lang/Object;ILjava/lang/Object;II)V"), (72, .class_ 802), (0, u "java/lang/System$Logger$Level")] 31

def k28m0 : Method := { name := "<init>", desc := "()V", sig := { parameters := [], returnType := none }, accessFlags := 2, code := none }
def k28m1 : Method := { name := "arraycopy", desc := "(Ljava/lang/Object;ILjava/lang/Object;II)V", sig := { parameters := [(.object "java/lang/Object"), .int, (.object "java/lang/Object"), .int, .int], returnType := none }, accessFlags := 265, code := none }
/-- java/lang/System -/
def k28 : Class := { plain "java/lang/System" (some 0) with
  accessFlags := 49
  interfaces := #[]
  cf := some (fileOf pool28 8 #[.nestMembers #[319, 327, 801, 108, 663, 208]] #[{ accessFlags := 2, nameIndex := 5, descriptorIndex := 6, attributes := #[] }, { accessFlags := 265, nameIndex := 727, descriptorIndex := 728, attributes := #[] }] 49 2 #[] #[{ accessFlags := 25, nameIndex := 507, descriptorIndex := 526, attributes := #[] }, { accessFlags := 25, nameIndex := 399, descriptorIndex := 155, attributes := #[] }, { accessFlags := 25, nameIndex := 396, descriptorIndex := 155, attributes := #[] }, { accessFlags := 10, nameIndex := 525, descriptorIndex := 526, attributes := #[] }, { accessFlags := 26, nameIndex := 674, descriptorIndex := 12, attributes := #[] }, { accessFlags := 26, nameIndex := 677, descriptorIndex := 12, attributes := #[] }, { accessFlags := 10, nameIndex := 11, descriptorIndex := 12, attributes := #[] }, { accessFlags := 74, nameIndex := 175, descriptorIndex := 176, attributes := #[] }, { accessFlags := 10, nameIndex := 491, descriptorIndex := 222, attributes := #[] }, { accessFlags := 74, nameIndex := 29, descriptorIndex := 30, attributes := #[] }, { accessFlags := 74, nameIndex := 154, descriptorIndex := 155, attributes := #[] }, { accessFlags := 10, nameIndex := 217, descriptorIndex := 218, attributes := #[] }, { accessFlags := 10, nameIndex := 221, descriptorIndex := 222, attributes := #[] }, { accessFlags := 8, nameIndex := 562, descriptorIndex := 563, attributes := #[] }])
  fields := #[{ name := "in", type := (.object "java/io/InputStream"), accessFlags := 25, slot := 0, constantValue := 0 }, { name := "out", type := (.object "java/io/PrintStream"), accessFlags := 25, slot := 1, constantValue := 0 }, { name := "err", type := (.object "java/io/PrintStream"), accessFlags := 25, slot := 2, constantValue := 0 }, { name := "initialIn", type := (.object "java/io/InputStream"), accessFlags := 10, slot := 3, constantValue := 0 }, { name := "NEVER", type := .int, accessFlags := 26, slot := 4, constantValue := 0 }, { name := "MAYBE", type := .int, accessFlags := 26, slot := 5, constantValue := 0 }, { name := "allowSecurityManager", type := .int, accessFlags := 10, slot := 6, constantValue := 0 }, { name := "security", type := (.object "java/lang/SecurityManager"), accessFlags := 74, slot := 7, constantValue := 0 }, { name := "notSupportedJnuEncoding", type := (.object "java/lang/String"), accessFlags := 10, slot := 8, constantValue := 0 }, { name := "cons", type := (.object "java/io/Console"), accessFlags := 74, slot := 9, constantValue := 0 }, { name := "initialErrStream", type := (.object "java/io/PrintStream"), accessFlags := 74, slot := 10, constantValue := 0 }, { name := "props", type := (.object "java/util/Properties"), accessFlags := 10, slot := 11, constantValue := 0 }, { name := "lineSeparator", type := (.object "java/lang/String"), accessFlags := 10, slot := 12, constantValue := 0 }, { name := "bootLayer", type := (.object "java/lang/ModuleLayer"), accessFlags := 8, slot := 13, constantValue := 0 }]
  methods := #[k28m0, k28m1]
  instanceTypes := #[]
  staticTypes := #[(.object "java/io/InputStream"), (.object "java/io/PrintStream"), (.object "java/io/PrintStream"), (.object "java/io/InputStream"), .int, .int, .int, (.object "java/lang/SecurityManager"), (.object "java/lang/String"), (.object "java/io/Console"), (.object "java/io/PrintStream"), (.object "java/util/Properties"), (.object "java/lang/String"), (.object "java/lang/ModuleLayer")]
  resolved := Array.replicate 834 none
  statics := none }

def pool29 : Array CpInfo := pool [(2, .class_ 4), (1, u "java/lang/Object"), (0, u "<init>"), (0, u "()V"), (35, .class_ 44), (1, u "java/util/Objects"), (0, u "requireNonNull"), (0, u "(Ljava/lang/Object;)Ljava/lang/Object;")] 137

def k29m0 : Method := { name := "<init>", desc := "()V", sig := { parameters := [], returnType := none }, accessFlags := 2, code := none }
def k29c1 : Code := { maxStack := 2, maxLocals := 1, code := jdk_31_method_10_code, exceptionTable := #[], attributes := #[] }
def k29m1 : Method := { name := "requireNonNull", desc := "(Ljava/lang/Object;)Ljava/lang/Object;", sig := { parameters := [(.object "java/lang/Object")], returnType := some (.object "java/lang/Object") }, accessFlags := 9, code := some k29c1 }
/-- java/util/Objects -/
def k29 : Class := { plain "java/util/Objects" (some 0) with
  accessFlags := 49
  interfaces := #[]
  cf := some (fileOf pool29 42 #[] #[{ accessFlags := 2, nameIndex := 5, descriptorIndex := 6, attributes := #[] }, { accessFlags := 9, nameIndex := 45, descriptorIndex := 46, attributes := #[] }] 49 2 #[] #[])
  fields := #[]
  methods := #[k29m0, k29m1]
  instanceTypes := #[]
  staticTypes := #[]
  resolved := Array.replicate 184 none
  statics := none }

/-- the primitive byte -/
def k30 : Class := { plain "byte" none with kind := .primitive 'B', accessFlags := 0x411 }
/-- [B -/
def k31 : Class := { plain "[B" (some 0) with kind := .array 30 .byte, interfaces := #[9, 10], accessFlags := 1041 }

/-- the primitive int -/
def k32 : Class := { plain "int" none with kind := .primitive 'I', accessFlags := 0x411 }
/-- [I -/
def k33 : Class := { plain "[I" (some 0) with kind := .array 32 .int, interfaces := #[9, 10], accessFlags := 1041 }

/-- [Ljava/lang/Integer; -/
def k34 : Class := { plain "[Ljava/lang/Integer;" (some 0) with kind := .array 24 (.object "java/lang/Integer"), interfaces := #[9, 10], accessFlags := 1041 }

/-- [Ljava/lang/Object; -/
def k35 : Class := { plain "[Ljava/lang/Object;" (some 0) with kind := .array 0 (.object "java/lang/Object"), interfaces := #[9, 10], accessFlags := 1041, mirror := some 267 }

def heap : Heap := #[{ cls := 11, slots := #[.long 0, .int 0, .ref 263, .ref 264], vm := .statics 11 },
  { cls := 14, slots := #[.long 0, .int 0, .null, .ref 266, .ref 262, .null, .null, .null, .int 0, .int 1], vm := .statics 14 },
  { cls := 19, slots := #[.ref 265], vm := .statics 19 },
  { cls := 25, slots := #[.int 0, .int 127, .ref 4, .null, .int 0], vm := .statics 25 },
  { cls := 34, slots := #[.ref 6, .ref 7, .ref 8, .ref 9, .ref 10, .ref 11, .ref 12, .ref 13, .ref 14, .ref 15, .ref 16, .ref 17, .ref 18, .ref 19, .ref 20, .ref 21, .ref 22, .ref 23, .ref 24, .ref 25, .ref 26, .ref 27, .ref 28, .ref 29, .ref 30, .ref 31, .ref 32, .ref 33, .ref 34, .ref 35, .ref 36, .ref 37, .ref 38, .ref 39, .ref 40, .ref 41, .ref 42, .ref 43, .ref 44, .ref 45, .ref 46, .ref 47, .ref 48, .ref 49, .ref 50, .ref 51, .ref 52, .ref 53, .ref 54, .ref 55, .ref 56, .ref 57, .ref 58, .ref 59, .ref 60, .ref 61, .ref 62, .ref 63, .ref 64, .ref 65, .ref 66, .ref 67, .ref 68, .ref 69, .ref 70, .ref 71, .ref 72, .ref 73, .ref 74, .ref 75, .ref 76, .ref 77, .ref 78, .ref 79, .ref 80, .ref 81, .ref 82, .ref 83, .ref 84, .ref 85, .ref 86, .ref 87, .ref 88, .ref 89, .ref 90, .ref 91, .ref 92, .ref 93, .ref 94, .ref 95, .ref 96, .ref 97, .ref 98, .ref 99, .ref 100, .ref 101, .ref 102, .ref 103, .ref 104, .ref 105, .ref 106, .ref 107, .ref 108, .ref 109, .ref 110, .ref 111, .ref 112, .ref 113, .ref 114, .ref 115, .ref 116, .ref 117, .ref 118, .ref 119, .ref 120, .ref 121, .ref 122, .ref 123, .ref 124, .ref 125, .ref 126, .ref 127, .ref 128, .ref 129, .ref 130, .ref 131, .ref 132, .ref 133, .ref 134, .ref 135, .ref 136, .ref 137, .ref 138, .ref 139, .ref 140, .ref 141, .ref 142, .ref 143, .ref 144, .ref 145, .ref 146, .ref 147, .ref 148, .ref 149, .ref 150, .ref 151, .ref 152, .ref 153, .ref 154, .ref 155, .ref 156, .ref 157, .ref 158, .ref 159, .ref 160, .ref 161, .ref 162, .ref 163, .ref 164, .ref 165, .ref 166, .ref 167, .ref 168, .ref 169, .ref 170, .ref 171, .ref 172, .ref 173, .ref 174, .ref 175, .ref 176, .ref 177, .ref 178, .ref 179, .ref 180, .ref 181, .ref 182, .ref 183, .ref 184, .ref 185, .ref 186, .ref 187, .ref 188, .ref 189, .ref 190, .ref 191, .ref 192, .ref 193, .ref 194, .ref 195, .ref 196, .ref 197, .ref 198, .ref 199, .ref 200, .ref 201, .ref 202, .ref 203, .ref 204, .ref 205, .ref 206, .ref 207, .ref 208, .ref 209, .ref 210, .ref 211, .ref 212, .ref 213, .ref 214, .ref 215, .ref 216, .ref 217, .ref 218, .ref 219, .ref 220, .ref 221, .ref 222, .ref 223, .ref 224, .ref 225, .ref 226, .ref 227, .ref 228, .ref 229, .ref 230, .ref 231, .ref 232, .ref 233, .ref 234, .ref 235, .ref 236, .ref 237, .ref 238, .ref 239, .ref 240, .ref 241, .ref 242, .ref 243, .ref 244, .ref 245, .ref 246, .ref 247, .ref 248, .ref 249, .ref 250, .ref 251, .ref 252, .ref 253, .ref 254, .ref 255, .ref 256, .ref 257, .ref 258, .ref 259, .ref 260, .ref 261], vm := .none },
  { cls := 35, slots := #[], vm := .none },
  { cls := 24, slots := #[.int (-128)], vm := .none },
  { cls := 24, slots := #[.int (-127)], vm := .none },
  { cls := 24, slots := #[.int (-126)], vm := .none },
  { cls := 24, slots := #[.int (-125)], vm := .none },
  { cls := 24, slots := #[.int (-124)], vm := .none },
  { cls := 24, slots := #[.int (-123)], vm := .none },
  { cls := 24, slots := #[.int (-122)], vm := .none },
  { cls := 24, slots := #[.int (-121)], vm := .none },
  { cls := 24, slots := #[.int (-120)], vm := .none },
  { cls := 24, slots := #[.int (-119)], vm := .none },
  { cls := 24, slots := #[.int (-118)], vm := .none },
  { cls := 24, slots := #[.int (-117)], vm := .none },
  { cls := 24, slots := #[.int (-116)], vm := .none },
  { cls := 24, slots := #[.int (-115)], vm := .none },
  { cls := 24, slots := #[.int (-114)], vm := .none },
  { cls := 24, slots := #[.int (-113)], vm := .none },
  { cls := 24, slots := #[.int (-112)], vm := .none },
  { cls := 24, slots := #[.int (-111)], vm := .none },
  { cls := 24, slots := #[.int (-110)], vm := .none },
  { cls := 24, slots := #[.int (-109)], vm := .none },
  { cls := 24, slots := #[.int (-108)], vm := .none },
  { cls := 24, slots := #[.int (-107)], vm := .none },
  { cls := 24, slots := #[.int (-106)], vm := .none },
  { cls := 24, slots := #[.int (-105)], vm := .none },
  { cls := 24, slots := #[.int (-104)], vm := .none },
  { cls := 24, slots := #[.int (-103)], vm := .none },
  { cls := 24, slots := #[.int (-102)], vm := .none },
  { cls := 24, slots := #[.int (-101)], vm := .none },
  { cls := 24, slots := #[.int (-100)], vm := .none },
  { cls := 24, slots := #[.int (-99)], vm := .none },
  { cls := 24, slots := #[.int (-98)], vm := .none },
  { cls := 24, slots := #[.int (-97)], vm := .none },
  { cls := 24, slots := #[.int (-96)], vm := .none },
  { cls := 24, slots := #[.int (-95)], vm := .none },
  { cls := 24, slots := #[.int (-94)], vm := .none },
  { cls := 24, slots := #[.int (-93)], vm := .none },
  { cls := 24, slots := #[.int (-92)], vm := .none },
  { cls := 24, slots := #[.int (-91)], vm := .none },
  { cls := 24, slots := #[.int (-90)], vm := .none },
  { cls := 24, slots := #[.int (-89)], vm := .none },
  { cls := 24, slots := #[.int (-88)], vm := .none },
  { cls := 24, slots := #[.int (-87)], vm := .none },
  { cls := 24, slots := #[.int (-86)], vm := .none },
  { cls := 24, slots := #[.int (-85)], vm := .none },
  { cls := 24, slots := #[.int (-84)], vm := .none },
  { cls := 24, slots := #[.int (-83)], vm := .none },
  { cls := 24, slots := #[.int (-82)], vm := .none },
  { cls := 24, slots := #[.int (-81)], vm := .none },
  { cls := 24, slots := #[.int (-80)], vm := .none },
  { cls := 24, slots := #[.int (-79)], vm := .none },
  { cls := 24, slots := #[.int (-78)], vm := .none },
  { cls := 24, slots := #[.int (-77)], vm := .none },
  { cls := 24, slots := #[.int (-76)], vm := .none },
  { cls := 24, slots := #[.int (-75)], vm := .none },
  { cls := 24, slots := #[.int (-74)], vm := .none },
  { cls := 24, slots := #[.int (-73)], vm := .none },
  { cls := 24, slots := #[.int (-72)], vm := .none },
  { cls := 24, slots := #[.int (-71)], vm := .none },
  { cls := 24, slots := #[.int (-70)], vm := .none },
  { cls := 24, slots := #[.int (-69)], vm := .none },
  { cls := 24, slots := #[.int (-68)], vm := .none },
  { cls := 24, slots := #[.int (-67)], vm := .none },
  { cls := 24, slots := #[.int (-66)], vm := .none },
  { cls := 24, slots := #[.int (-65)], vm := .none },
  { cls := 24, slots := #[.int (-64)], vm := .none },
  { cls := 24, slots := #[.int (-63)], vm := .none },
  { cls := 24, slots := #[.int (-62)], vm := .none },
  { cls := 24, slots := #[.int (-61)], vm := .none },
  { cls := 24, slots := #[.int (-60)], vm := .none },
  { cls := 24, slots := #[.int (-59)], vm := .none },
  { cls := 24, slots := #[.int (-58)], vm := .none },
  { cls := 24, slots := #[.int (-57)], vm := .none },
  { cls := 24, slots := #[.int (-56)], vm := .none },
  { cls := 24, slots := #[.int (-55)], vm := .none },
  { cls := 24, slots := #[.int (-54)], vm := .none },
  { cls := 24, slots := #[.int (-53)], vm := .none },
  { cls := 24, slots := #[.int (-52)], vm := .none },
  { cls := 24, slots := #[.int (-51)], vm := .none },
  { cls := 24, slots := #[.int (-50)], vm := .none },
  { cls := 24, slots := #[.int (-49)], vm := .none },
  { cls := 24, slots := #[.int (-48)], vm := .none },
  { cls := 24, slots := #[.int (-47)], vm := .none },
  { cls := 24, slots := #[.int (-46)], vm := .none },
  { cls := 24, slots := #[.int (-45)], vm := .none },
  { cls := 24, slots := #[.int (-44)], vm := .none },
  { cls := 24, slots := #[.int (-43)], vm := .none },
  { cls := 24, slots := #[.int (-42)], vm := .none },
  { cls := 24, slots := #[.int (-41)], vm := .none },
  { cls := 24, slots := #[.int (-40)], vm := .none },
  { cls := 24, slots := #[.int (-39)], vm := .none },
  { cls := 24, slots := #[.int (-38)], vm := .none },
  { cls := 24, slots := #[.int (-37)], vm := .none },
  { cls := 24, slots := #[.int (-36)], vm := .none },
  { cls := 24, slots := #[.int (-35)], vm := .none },
  { cls := 24, slots := #[.int (-34)], vm := .none },
  { cls := 24, slots := #[.int (-33)], vm := .none },
  { cls := 24, slots := #[.int (-32)], vm := .none },
  { cls := 24, slots := #[.int (-31)], vm := .none },
  { cls := 24, slots := #[.int (-30)], vm := .none },
  { cls := 24, slots := #[.int (-29)], vm := .none },
  { cls := 24, slots := #[.int (-28)], vm := .none },
  { cls := 24, slots := #[.int (-27)], vm := .none },
  { cls := 24, slots := #[.int (-26)], vm := .none },
  { cls := 24, slots := #[.int (-25)], vm := .none },
  { cls := 24, slots := #[.int (-24)], vm := .none },
  { cls := 24, slots := #[.int (-23)], vm := .none },
  { cls := 24, slots := #[.int (-22)], vm := .none },
  { cls := 24, slots := #[.int (-21)], vm := .none },
  { cls := 24, slots := #[.int (-20)], vm := .none },
  { cls := 24, slots := #[.int (-19)], vm := .none },
  { cls := 24, slots := #[.int (-18)], vm := .none },
  { cls := 24, slots := #[.int (-17)], vm := .none },
  { cls := 24, slots := #[.int (-16)], vm := .none },
  { cls := 24, slots := #[.int (-15)], vm := .none },
  { cls := 24, slots := #[.int (-14)], vm := .none },
  { cls := 24, slots := #[.int (-13)], vm := .none },
  { cls := 24, slots := #[.int (-12)], vm := .none },
  { cls := 24, slots := #[.int (-11)], vm := .none },
  { cls := 24, slots := #[.int (-10)], vm := .none },
  { cls := 24, slots := #[.int (-9)], vm := .none },
  { cls := 24, slots := #[.int (-8)], vm := .none },
  { cls := 24, slots := #[.int (-7)], vm := .none },
  { cls := 24, slots := #[.int (-6)], vm := .none },
  { cls := 24, slots := #[.int (-5)], vm := .none },
  { cls := 24, slots := #[.int (-4)], vm := .none },
  { cls := 24, slots := #[.int (-3)], vm := .none },
  { cls := 24, slots := #[.int (-2)], vm := .none },
  { cls := 24, slots := #[.int (-1)], vm := .none },
  { cls := 24, slots := #[.int 0], vm := .none },
  { cls := 24, slots := #[.int 1], vm := .none },
  { cls := 24, slots := #[.int 2], vm := .none },
  { cls := 24, slots := #[.int 3], vm := .none },
  { cls := 24, slots := #[.int 4], vm := .none },
  { cls := 24, slots := #[.int 5], vm := .none },
  { cls := 24, slots := #[.int 6], vm := .none },
  { cls := 24, slots := #[.int 7], vm := .none },
  { cls := 24, slots := #[.int 8], vm := .none },
  { cls := 24, slots := #[.int 9], vm := .none },
  { cls := 24, slots := #[.int 10], vm := .none },
  { cls := 24, slots := #[.int 11], vm := .none },
  { cls := 24, slots := #[.int 12], vm := .none },
  { cls := 24, slots := #[.int 13], vm := .none },
  { cls := 24, slots := #[.int 14], vm := .none },
  { cls := 24, slots := #[.int 15], vm := .none },
  { cls := 24, slots := #[.int 16], vm := .none },
  { cls := 24, slots := #[.int 17], vm := .none },
  { cls := 24, slots := #[.int 18], vm := .none },
  { cls := 24, slots := #[.int 19], vm := .none },
  { cls := 24, slots := #[.int 20], vm := .none },
  { cls := 24, slots := #[.int 21], vm := .none },
  { cls := 24, slots := #[.int 22], vm := .none },
  { cls := 24, slots := #[.int 23], vm := .none },
  { cls := 24, slots := #[.int 24], vm := .none },
  { cls := 24, slots := #[.int 25], vm := .none },
  { cls := 24, slots := #[.int 26], vm := .none },
  { cls := 24, slots := #[.int 27], vm := .none },
  { cls := 24, slots := #[.int 28], vm := .none },
  { cls := 24, slots := #[.int 29], vm := .none },
  { cls := 24, slots := #[.int 30], vm := .none },
  { cls := 24, slots := #[.int 31], vm := .none },
  { cls := 24, slots := #[.int 32], vm := .none },
  { cls := 24, slots := #[.int 33], vm := .none },
  { cls := 24, slots := #[.int 34], vm := .none },
  { cls := 24, slots := #[.int 35], vm := .none },
  { cls := 24, slots := #[.int 36], vm := .none },
  { cls := 24, slots := #[.int 37], vm := .none },
  { cls := 24, slots := #[.int 38], vm := .none },
  { cls := 24, slots := #[.int 39], vm := .none },
  { cls := 24, slots := #[.int 40], vm := .none },
  { cls := 24, slots := #[.int 41], vm := .none },
  { cls := 24, slots := #[.int 42], vm := .none },
  { cls := 24, slots := #[.int 43], vm := .none },
  { cls := 24, slots := #[.int 44], vm := .none },
  { cls := 24, slots := #[.int 45], vm := .none },
  { cls := 24, slots := #[.int 46], vm := .none },
  { cls := 24, slots := #[.int 47], vm := .none },
  { cls := 24, slots := #[.int 48], vm := .none },
  { cls := 24, slots := #[.int 49], vm := .none },
  { cls := 24, slots := #[.int 50], vm := .none },
  { cls := 24, slots := #[.int 51], vm := .none },
  { cls := 24, slots := #[.int 52], vm := .none },
  { cls := 24, slots := #[.int 53], vm := .none },
  { cls := 24, slots := #[.int 54], vm := .none },
  { cls := 24, slots := #[.int 55], vm := .none },
  { cls := 24, slots := #[.int 56], vm := .none },
  { cls := 24, slots := #[.int 57], vm := .none },
  { cls := 24, slots := #[.int 58], vm := .none },
  { cls := 24, slots := #[.int 59], vm := .none },
  { cls := 24, slots := #[.int 60], vm := .none },
  { cls := 24, slots := #[.int 61], vm := .none },
  { cls := 24, slots := #[.int 62], vm := .none },
  { cls := 24, slots := #[.int 63], vm := .none },
  { cls := 24, slots := #[.int 64], vm := .none },
  { cls := 24, slots := #[.int 65], vm := .none },
  { cls := 24, slots := #[.int 66], vm := .none },
  { cls := 24, slots := #[.int 67], vm := .none },
  { cls := 24, slots := #[.int 68], vm := .none },
  { cls := 24, slots := #[.int 69], vm := .none },
  { cls := 24, slots := #[.int 70], vm := .none },
  { cls := 24, slots := #[.int 71], vm := .none },
  { cls := 24, slots := #[.int 72], vm := .none },
  { cls := 24, slots := #[.int 73], vm := .none },
  { cls := 24, slots := #[.int 74], vm := .none },
  { cls := 24, slots := #[.int 75], vm := .none },
  { cls := 24, slots := #[.int 76], vm := .none },
  { cls := 24, slots := #[.int 77], vm := .none },
  { cls := 24, slots := #[.int 78], vm := .none },
  { cls := 24, slots := #[.int 79], vm := .none },
  { cls := 24, slots := #[.int 80], vm := .none },
  { cls := 24, slots := #[.int 81], vm := .none },
  { cls := 24, slots := #[.int 82], vm := .none },
  { cls := 24, slots := #[.int 83], vm := .none },
  { cls := 24, slots := #[.int 84], vm := .none },
  { cls := 24, slots := #[.int 85], vm := .none },
  { cls := 24, slots := #[.int 86], vm := .none },
  { cls := 24, slots := #[.int 87], vm := .none },
  { cls := 24, slots := #[.int 88], vm := .none },
  { cls := 24, slots := #[.int 89], vm := .none },
  { cls := 24, slots := #[.int 90], vm := .none },
  { cls := 24, slots := #[.int 91], vm := .none },
  { cls := 24, slots := #[.int 92], vm := .none },
  { cls := 24, slots := #[.int 93], vm := .none },
  { cls := 24, slots := #[.int 94], vm := .none },
  { cls := 24, slots := #[.int 95], vm := .none },
  { cls := 24, slots := #[.int 96], vm := .none },
  { cls := 24, slots := #[.int 97], vm := .none },
  { cls := 24, slots := #[.int 98], vm := .none },
  { cls := 24, slots := #[.int 99], vm := .none },
  { cls := 24, slots := #[.int 100], vm := .none },
  { cls := 24, slots := #[.int 101], vm := .none },
  { cls := 24, slots := #[.int 102], vm := .none },
  { cls := 24, slots := #[.int 103], vm := .none },
  { cls := 24, slots := #[.int 104], vm := .none },
  { cls := 24, slots := #[.int 105], vm := .none },
  { cls := 24, slots := #[.int 106], vm := .none },
  { cls := 24, slots := #[.int 107], vm := .none },
  { cls := 24, slots := #[.int 108], vm := .none },
  { cls := 24, slots := #[.int 109], vm := .none },
  { cls := 24, slots := #[.int 110], vm := .none },
  { cls := 24, slots := #[.int 111], vm := .none },
  { cls := 24, slots := #[.int 112], vm := .none },
  { cls := 24, slots := #[.int 113], vm := .none },
  { cls := 24, slots := #[.int 114], vm := .none },
  { cls := 24, slots := #[.int 115], vm := .none },
  { cls := 24, slots := #[.int 116], vm := .none },
  { cls := 24, slots := #[.int 117], vm := .none },
  { cls := 24, slots := #[.int 118], vm := .none },
  { cls := 24, slots := #[.int 119], vm := .none },
  { cls := 24, slots := #[.int 120], vm := .none },
  { cls := 24, slots := #[.int 121], vm := .none },
  { cls := 24, slots := #[.int 122], vm := .none },
  { cls := 24, slots := #[.int 123], vm := .none },
  { cls := 24, slots := #[.int 124], vm := .none },
  { cls := 24, slots := #[.int 125], vm := .none },
  { cls := 24, slots := #[.int 126], vm := .none },
  { cls := 24, slots := #[.int 127], vm := .none },
  { cls := 18, slots := #[.ref 5, .int 0], vm := .none },
  { cls := 35, slots := #[], vm := .none },
  { cls := 35, slots := #[], vm := .none },
  { cls := 19, slots := #[.null], vm := .none },
  { cls := 0, slots := #[], vm := .none },
  { cls := 0, slots := #[], vm := .mirror 35 }]
def classes : Array Class := #[k0, k1, k2, k3, k4, k5, k6, k7, k8, k9, k10, k11, k12, k13, k14, k15, k16, k17, k18, k19, k20, k21, k22, k23, k24, k25, k26, k27, k28, k29, k30, k31, k32, k33, k34, k35]
def interned : List (Array UInt16 × Addr) := []
def slotsUsed : Nat := 535
def theMethod : MethodId := ⟨1, 1⟩
def args0 : Array Value := #[.int 3, .int 500, .int 600, .int 700]
def aboutOver (below : List Frame) : State where
  vm := { classes := classes, interned := interned.toArray }
  heap := heap
  slotsUsed := slotsUsed
  threads := #[{ frames := .invoking theMethod args0 :: below }]
def below0 : List Frame := [.native { method := ⟨0, 0⟩, args := #[] }]
def about1 : State := aboutOver below0
def p0 : Program := .bare "" "" ""
def e0 : Env := launch0.env 0 0 0
theorem w_frames : about1.frames = Frame.invoking theMethod args0 :: below0 := rfl
set_option maxRecDepth 65536 in
theorem w_args : argsFit about1.vm theMethod args0 = true := by decide +kernel
set_option maxRecDepth 65536 in
theorem w_heap : heapFits about1 = true := by decide +kernel
set_option maxRecDepth 65536 in
theorem w_runnable : about1.curStatus? = some .runnable := by decide +kernel
set_option maxRecDepth 65536 in
theorem w_alone : about1.alone = true := by decide +kernel
set_option maxRecDepth 65536 in
theorem w_named : about1.methodNamed? x = some theMethod := by decide +kernel
set_option maxRecDepth 65536 in
theorem w_hears : about1.hears theMethod below0 = true := by decide +kernel
set_option maxRecDepth 65536 in
theorem w_ripe : about1.ripe theMethod args0 below0 = true := by decide +kernel
theorem w_running : about1.status = .running := rfl
set_option maxRecDepth 65536 in
theorem w_room : about1.hasRoom e0.platform room_1 = true :=
  launch0.hasRoom_least _ room_1 (by decide +kernel) (by decide +kernel) (by decide +kernel) (by decide +kernel) (by decide +kernel) (by decide +kernel)
theorem allAtoms_all (ts : List Jvm.Cond) (a : Array Jvm.Value) (st : Jvm.State) : (allAtoms ts).before a st = ts.all (fun c => c.before a st) := by
  induction ts with
  | nil => rfl
  | cons c t ih =>
    show (Jvm.Cond.and c (allAtoms t)).before a st = _
    rw [Jvm.Cond.before_and, ih, List.all_cons]
def words1 : List Jvm.Cond := Jvm.Cond.code x code maxLocals ret :: tables_1
/-- a 'code' word, met by the world's own term for the bytes: nothing is compared byte by byte -/
theorem code_word {y : MethodName} {bytes : ByteArray} {mx : Nat} {rt : Option FieldType} {a : Array Value} {s : State} {m : MethodId} {meth : Method} {c : Code} (h1 : s.methodNamed? y = some m) (h2 : s.vm.method? m = some meth) (h3 : meth.code = some c) (h4 : c.code = bytes)
    (h5 : (c.maxLocals == mx && c.exceptionTable.isEmpty && decide (c.maxStack ≤ mostOperands) && decide (meth.sig.returnType = rt) && !meth.locks && decide (parseMethodDescriptor y.desc = some meth.sig)) = true) : (Jvm.Cond.code y bytes mx rt).before a s = true := by
  simp only [Bool.and_eq_true, beq_iff_eq, Bool.not_eq_true', decide_eq_true_eq] at h5
  obtain ⟨⟨⟨⟨⟨g1, g2⟩, g3⟩, g4⟩, g5⟩, g6⟩ := h5
  simp [Cond.before, Cond.holds, Cond.value, h1, h2, h3, h4, g1, g2, g3, g4, g5, g6]
def isCode : Jvm.Cond → Bool
  | .code _ _ _ _ => true
  | _ => false
theorem all_split {L : List Jvm.Cond} {P : Jvm.Cond → Bool} (h1 : L.all (fun c => isCode c || P c) = true) (h2 : ∀ c ∈ L.filter isCode, P c = true) : L.all P = true := by
  refine List.all_eq_true.mpr fun c hc => ?_
  have h := List.all_eq_true.mp h1 c hc
  rcases Bool.eq_false_or_eq_true (isCode c) with hi | hi
  · exact h2 c (List.mem_filter.mpr ⟨hc, hi⟩)
  · simpa [hi] using h
set_option maxRecDepth 65536 in
theorem w_c0 : (Jvm.Cond.code x code maxLocals ret).before args0 about1 = true := code_word (m := ⟨1, 1⟩) (meth := k1m1) (c := k1c1) (by decide +kernel) rfl rfl rfl (by decide +kernel)
set_option maxRecDepth 65536 in
theorem w_c1 : (Jvm.Cond.code ({ cls := "java/util/ArrayList", name := "<init>", desc := "()V" } : Jvm.MethodName) jdk_38_method_2_code (1 : Nat) (Option.none : Option Jvm.ClassFile.FieldType)).before args0 about1 = true := code_word (m := ⟨11, 0⟩) (meth := k11m0) (c := k11c0) (by decide +kernel) rfl rfl rfl (by decide +kernel)
set_option maxRecDepth 65536 in
theorem w_c2 : (Jvm.Cond.code ({ cls := "java/util/AbstractList", name := "<init>", desc := "()V" } : Jvm.MethodName) jdk_39_method_1_code (1 : Nat) (Option.none : Option Jvm.ClassFile.FieldType)).before args0 about1 = true := code_word (m := ⟨7, 0⟩) (meth := k7m0) (c := k7c0) (by decide +kernel) rfl rfl rfl (by decide +kernel)
set_option maxRecDepth 65536 in
theorem w_c3 : (Jvm.Cond.code ({ cls := "java/util/AbstractCollection", name := "<init>", desc := "()V" } : Jvm.MethodName) jdk_22_method_1_code (1 : Nat) (Option.none : Option Jvm.ClassFile.FieldType)).before args0 about1 = true := code_word (m := ⟨4, 0⟩) (meth := k4m0) (c := k4c0) (by decide +kernel) rfl rfl rfl (by decide +kernel)
set_option maxRecDepth 65536 in
theorem w_c4 : (Jvm.Cond.code ({ cls := "java/lang/Object", name := "<init>", desc := "()V" } : Jvm.MethodName) object_method_1_code (1 : Nat) (Option.none : Option Jvm.ClassFile.FieldType)).before args0 about1 = true := code_word (m := ⟨0, 0⟩) (meth := k0m0) (c := k0c0) (by decide +kernel) rfl rfl rfl (by decide +kernel)
set_option maxRecDepth 65536 in
theorem w_c5 : (Jvm.Cond.code ({ cls := "com/example/uketsuke/uketsuke/core/conversation/Page", name := "<init>", desc := "(Ljava/util/List;Z)V" } : Jvm.MethodName) prog_28_method_1_code (3 : Nat) (Option.none : Option Jvm.ClassFile.FieldType)).before args0 about1 = true := code_word (m := ⟨13, 0⟩) (meth := k13m0) (c := k13c0) (by decide +kernel) rfl rfl rfl (by decide +kernel)
set_option maxRecDepth 65536 in
theorem w_c6 : (Jvm.Cond.code ({ cls := "java/lang/Record", name := "<init>", desc := "()V" } : Jvm.MethodName) jdk_30_method_1_code (1 : Nat) (Option.none : Option Jvm.ClassFile.FieldType)).before args0 about1 = true := code_word (m := ⟨12, 0⟩) (meth := k12m0) (c := k12c0) (by decide +kernel) rfl rfl rfl (by decide +kernel)
set_option maxRecDepth 65536 in
theorem w_c7 : (Jvm.Cond.code ({ cls := "java/util/List", name := "copyOf", desc := "(Ljava/util/Collection;)Ljava/util/List;" } : Jvm.MethodName) jdk_40_method_48_code (1 : Nat) (Option.some (Jvm.ClassFile.FieldType.object "java/util/List"))).before args0 about1 = true := code_word (m := ⟨6, 4⟩) (meth := k6m4) (c := k6c4) (by decide +kernel) rfl rfl rfl (by decide +kernel)
set_option maxRecDepth 65536 in
theorem w_c8 : (Jvm.Cond.code ({ cls := "java/util/ImmutableCollections", name := "listCopy", desc := "(Ljava/util/Collection;)Ljava/util/List;" } : Jvm.MethodName) jdk_56_method_3_code (2 : Nat) (Option.some (Jvm.ClassFile.FieldType.object "java/util/List"))).before args0 about1 = true := code_word (m := ⟨14, 1⟩) (meth := k14m1) (c := k14c1) (by decide +kernel) rfl rfl rfl (by decide +kernel)
set_option maxRecDepth 65536 in
theorem w_c9 : (Jvm.Cond.code ({ cls := "java/util/ArrayList", name := "isEmpty", desc := "()Z" } : Jvm.MethodName) jdk_38_method_9_code (1 : Nat) (Option.some Jvm.ClassFile.FieldType.boolean)).before args0 about1 = true := code_word (m := ⟨11, 3⟩) (meth := k11m3) (c := k11c3) (by decide +kernel) rfl rfl rfl (by decide +kernel)
set_option maxRecDepth 65536 in
theorem w_c10 : (Jvm.Cond.code ({ cls := "java/util/List", name := "of", desc := "()Ljava/util/List;" } : Jvm.MethodName) jdk_40_method_36_code (0 : Nat) (Option.some (Jvm.ClassFile.FieldType.object "java/util/List"))).before args0 about1 = true := code_word (m := ⟨6, 2⟩) (meth := k6m2) (c := k6c2) (by decide +kernel) rfl rfl rfl (by decide +kernel)
set_option maxRecDepth 65536 in
theorem w_c11 : (Jvm.Cond.code ({ cls := "com/example/uketsuke/uketsuke/core/conversation/Page", name := "continuesAfter", desc := "()Ljava/util/Optional;" } : Jvm.MethodName) prog_28_method_3_code (1 : Nat) (Option.some (Jvm.ClassFile.FieldType.object "java/util/Optional"))).before args0 about1 = true := code_word (m := ⟨13, 1⟩) (meth := k13m1) (c := k13c1) (by decide +kernel) rfl rfl rfl (by decide +kernel)
set_option maxRecDepth 65536 in
theorem w_c12 : (Jvm.Cond.code ({ cls := "java/util/Optional", name := "empty", desc := "()Ljava/util/Optional;" } : Jvm.MethodName) jdk_32_method_1_code (1 : Nat) (Option.some (Jvm.ClassFile.FieldType.object "java/util/Optional"))).before args0 about1 = true := code_word (m := ⟨19, 0⟩) (meth := k19m0) (c := k19c0) (by decide +kernel) rfl rfl rfl (by decide +kernel)
set_option maxRecDepth 65536 in
theorem w_c13 : (Jvm.Cond.code ({ cls := "java/util/Optional", name := "isPresent", desc := "()Z" } : Jvm.MethodName) jdk_32_method_6_code (1 : Nat) (Option.some Jvm.ClassFile.FieldType.boolean)).before args0 about1 = true := code_word (m := ⟨19, 4⟩) (meth := k19m4) (c := k19c4) (by decide +kernel) rfl rfl rfl (by decide +kernel)
set_option maxRecDepth 65536 in
theorem w_c14 : (Jvm.Cond.code ({ cls := "java/lang/Integer", name := "valueOf", desc := "(I)Ljava/lang/Integer;" } : Jvm.MethodName) jdk_33_method_22_code (1 : Nat) (Option.some (Jvm.ClassFile.FieldType.object "java/lang/Integer"))).before args0 about1 = true := code_word (m := ⟨24, 0⟩) (meth := k24m0) (c := k24c0) (by decide +kernel) rfl rfl rfl (by decide +kernel)
set_option maxRecDepth 65536 in
theorem w_c15 : (Jvm.Cond.code ({ cls := "java/util/ArrayList", name := "add", desc := "(Ljava/lang/Object;)Z" } : Jvm.MethodName) jdk_38_method_25_code (2 : Nat) (Option.some Jvm.ClassFile.FieldType.boolean)).before args0 about1 = true := code_word (m := ⟨11, 6⟩) (meth := k11m6) (c := k11c6) (by decide +kernel) rfl rfl rfl (by decide +kernel)
set_option maxRecDepth 65536 in
theorem w_c16 : (Jvm.Cond.code ({ cls := "java/util/ArrayList", name := "add", desc := "(Ljava/lang/Object;[Ljava/lang/Object;I)V" } : Jvm.MethodName) jdk_38_method_24_code (4 : Nat) (Option.none : Option Jvm.ClassFile.FieldType)).before args0 about1 = true := code_word (m := ⟨11, 5⟩) (meth := k11m5) (c := k11c5) (by decide +kernel) rfl rfl rfl (by decide +kernel)
set_option maxRecDepth 65536 in
theorem w_c17 : (Jvm.Cond.code ({ cls := "java/util/ArrayList", name := "grow", desc := "()[Ljava/lang/Object;" } : Jvm.MethodName) jdk_38_method_7_code (1 : Nat) (Option.some (Jvm.ClassFile.FieldType.array (Jvm.ClassFile.FieldType.object "java/lang/Object")))).before args0 about1 = true := code_word (m := ⟨11, 2⟩) (meth := k11m2) (c := k11c2) (by decide +kernel) rfl rfl rfl (by decide +kernel)
set_option maxRecDepth 65536 in
theorem w_c18 : (Jvm.Cond.code ({ cls := "java/util/ArrayList", name := "grow", desc := "(I)[Ljava/lang/Object;" } : Jvm.MethodName) jdk_38_method_6_code (4 : Nat) (Option.some (Jvm.ClassFile.FieldType.array (Jvm.ClassFile.FieldType.object "java/lang/Object")))).before args0 about1 = true := code_word (m := ⟨11, 1⟩) (meth := k11m1) (c := k11c1) (by decide +kernel) rfl rfl rfl (by decide +kernel)
set_option maxRecDepth 65536 in
theorem w_c19 : (Jvm.Cond.code ({ cls := "java/lang/Math", name := "max", desc := "(II)I" } : Jvm.MethodName) jdk_29_method_65_code (2 : Nat) (Option.some Jvm.ClassFile.FieldType.int)).before args0 about1 = true := code_word (m := ⟨26, 1⟩) (meth := k26m1) (c := k26c1) (by decide +kernel) rfl rfl rfl (by decide +kernel)
set_option maxRecDepth 65536 in
theorem w_c20 : (Jvm.Cond.code ({ cls := "java/util/ArrayList", name := "toArray", desc := "()[Ljava/lang/Object;" } : Jvm.MethodName) jdk_38_method_16_code (1 : Nat) (Option.some (Jvm.ClassFile.FieldType.array (Jvm.ClassFile.FieldType.object "java/lang/Object")))).before args0 about1 = true := code_word (m := ⟨11, 4⟩) (meth := k11m4) (c := k11c4) (by decide +kernel) rfl rfl rfl (by decide +kernel)
set_option maxRecDepth 65536 in
theorem w_c21 : (Jvm.Cond.code ({ cls := "java/util/Arrays", name := "copyOf", desc := "([Ljava/lang/Object;I)[Ljava/lang/Object;" } : Jvm.MethodName) jdk_65_method_119_code (2 : Nat) (Option.some (Jvm.ClassFile.FieldType.array (Jvm.ClassFile.FieldType.object "java/lang/Object")))).before args0 about1 = true := code_word (m := ⟨27, 1⟩) (meth := k27m1) (c := k27c1) (by decide +kernel) rfl rfl rfl (by decide +kernel)
set_option maxRecDepth 65536 in
theorem w_c22 : (Jvm.Cond.code ({ cls := "java/util/Arrays", name := "copyOf", desc := "([Ljava/lang/Object;ILjava/lang/Class;)[Ljava/lang/Object;" } : Jvm.MethodName) jdk_65_method_120_code (4 : Nat) (Option.some (Jvm.ClassFile.FieldType.array (Jvm.ClassFile.FieldType.object "java/lang/Object")))).before args0 about1 = true := code_word (m := ⟨27, 2⟩) (meth := k27m2) (c := k27c2) (by decide +kernel) rfl rfl rfl (by decide +kernel)
set_option maxRecDepth 65536 in
theorem w_c23 : (Jvm.Cond.code ({ cls := "java/lang/Math", name := "min", desc := "(II)I" } : Jvm.MethodName) jdk_29_method_69_code (2 : Nat) (Option.some Jvm.ClassFile.FieldType.int)).before args0 about1 = true := code_word (m := ⟨26, 2⟩) (meth := k26m2) (c := k26c2) (by decide +kernel) rfl rfl rfl (by decide +kernel)
set_option maxRecDepth 65536 in
theorem w_c24 : (Jvm.Cond.code ({ cls := "java/util/List", name := "of", desc := "([Ljava/lang/Object;)Ljava/util/List;" } : Jvm.MethodName) jdk_40_method_47_code (2 : Nat) (Option.some (Jvm.ClassFile.FieldType.object "java/util/List"))).before args0 about1 = true := code_word (m := ⟨6, 3⟩) (meth := k6m3) (c := k6c3) (by decide +kernel) rfl rfl rfl (by decide +kernel)
set_option maxRecDepth 65536 in
theorem w_c25 : (Jvm.Cond.code ({ cls := "java/util/ImmutableCollections$List12", name := "<init>", desc := "(Ljava/lang/Object;Ljava/lang/Object;)V" } : Jvm.MethodName) jdk_44_method_2_code (3 : Nat) (Option.none : Option Jvm.ClassFile.FieldType)).before args0 about1 = true := code_word (m := ⟨17, 1⟩) (meth := k17m1) (c := k17c1) (by decide +kernel) rfl rfl rfl (by decide +kernel)
set_option maxRecDepth 65536 in
theorem w_c26 : (Jvm.Cond.code ({ cls := "java/util/ImmutableCollections$AbstractImmutableList", name := "<init>", desc := "()V" } : Jvm.MethodName) jdk_46_method_1_code (1 : Nat) (Option.none : Option Jvm.ClassFile.FieldType)).before args0 about1 = true := code_word (m := ⟨16, 0⟩) (meth := k16m0) (c := k16c0) (by decide +kernel) rfl rfl rfl (by decide +kernel)
set_option maxRecDepth 65536 in
theorem w_c27 : (Jvm.Cond.code ({ cls := "java/util/ImmutableCollections$AbstractImmutableCollection", name := "<init>", desc := "()V" } : Jvm.MethodName) jdk_47_method_1_code (1 : Nat) (Option.none : Option Jvm.ClassFile.FieldType)).before args0 about1 = true := code_word (m := ⟨15, 0⟩) (meth := k15m0) (c := k15c0) (by decide +kernel) rfl rfl rfl (by decide +kernel)
set_option maxRecDepth 65536 in
theorem w_c28 : (Jvm.Cond.code ({ cls := "java/util/Objects", name := "requireNonNull", desc := "(Ljava/lang/Object;)Ljava/lang/Object;" } : Jvm.MethodName) jdk_31_method_10_code (1 : Nat) (Option.some (Jvm.ClassFile.FieldType.object "java/lang/Object"))).before args0 about1 = true := code_word (m := ⟨29, 1⟩) (meth := k29m1) (c := k29c1) (by decide +kernel) rfl rfl rfl (by decide +kernel)
set_option maxRecDepth 65536 in
theorem w_c29 : (Jvm.Cond.code ({ cls := "java/lang/Integer", name := "<init>", desc := "(I)V" } : Jvm.MethodName) jdk_33_method_23_code (2 : Nat) (Option.none : Option Jvm.ClassFile.FieldType)).before args0 about1 = true := code_word (m := ⟨24, 1⟩) (meth := k24m1) (c := k24c1) (by decide +kernel) rfl rfl rfl (by decide +kernel)
set_option maxRecDepth 65536 in
theorem w_c30 : (Jvm.Cond.code ({ cls := "java/lang/Number", name := "<init>", desc := "()V" } : Jvm.MethodName) jdk_18_method_1_code (1 : Nat) (Option.none : Option Jvm.ClassFile.FieldType)).before args0 about1 = true := code_word (m := ⟨20, 0⟩) (meth := k20m0) (c := k20c0) (by decide +kernel) rfl rfl rfl (by decide +kernel)
set_option maxRecDepth 65536 in
theorem w_c31 : (Jvm.Cond.code ({ cls := "java/util/ImmutableCollections$List12", name := "<init>", desc := "(Ljava/lang/Object;)V" } : Jvm.MethodName) jdk_44_method_1_code (2 : Nat) (Option.none : Option Jvm.ClassFile.FieldType)).before args0 about1 = true := code_word (m := ⟨17, 0⟩) (meth := k17m0) (c := k17c0) (by decide +kernel) rfl rfl rfl (by decide +kernel)
set_option maxRecDepth 65536 in
theorem w_c32 : (Jvm.Cond.code ({ cls := "java/util/ImmutableCollections$List12", name := "size", desc := "()I" } : Jvm.MethodName) jdk_44_method_3_code (1 : Nat) (Option.some Jvm.ClassFile.FieldType.int)).before args0 about1 = true := code_word (m := ⟨17, 2⟩) (meth := k17m2) (c := k17c2) (by decide +kernel) rfl rfl rfl (by decide +kernel)
set_option maxRecDepth 65536 in
theorem w_c33 : (Jvm.Cond.code ({ cls := "java/util/ImmutableCollections$List12", name := "get", desc := "(I)Ljava/lang/Object;" } : Jvm.MethodName) jdk_44_method_5_code (2 : Nat) (Option.some (Jvm.ClassFile.FieldType.object "java/lang/Object"))).before args0 about1 = true := code_word (m := ⟨17, 3⟩) (meth := k17m3) (c := k17c3) (by decide +kernel) rfl rfl rfl (by decide +kernel)
set_option maxRecDepth 65536 in
theorem w_c34 : (Jvm.Cond.code ({ cls := "java/util/Optional", name := "of", desc := "(Ljava/lang/Object;)Ljava/util/Optional;" } : Jvm.MethodName) jdk_32_method_3_code (1 : Nat) (Option.some (Jvm.ClassFile.FieldType.object "java/util/Optional"))).before args0 about1 = true := code_word (m := ⟨19, 2⟩) (meth := k19m2) (c := k19c2) (by decide +kernel) rfl rfl rfl (by decide +kernel)
set_option maxRecDepth 65536 in
theorem w_c35 : (Jvm.Cond.code ({ cls := "java/util/Optional", name := "<init>", desc := "(Ljava/lang/Object;)V" } : Jvm.MethodName) jdk_32_method_2_code (2 : Nat) (Option.none : Option Jvm.ClassFile.FieldType)).before args0 about1 = true := code_word (m := ⟨19, 1⟩) (meth := k19m1) (c := k19c1) (by decide +kernel) rfl rfl rfl (by decide +kernel)
set_option maxRecDepth 65536 in
theorem w_c36 : (Jvm.Cond.code ({ cls := "java/util/Optional", name := "get", desc := "()Ljava/lang/Object;" } : Jvm.MethodName) jdk_32_method_5_code (1 : Nat) (Option.some (Jvm.ClassFile.FieldType.object "java/lang/Object"))).before args0 about1 = true := code_word (m := ⟨19, 3⟩) (meth := k19m3) (c := k19c3) (by decide +kernel) rfl rfl rfl (by decide +kernel)
set_option maxRecDepth 65536 in
theorem w_c37 : (Jvm.Cond.code ({ cls := "java/lang/Integer", name := "intValue", desc := "()I" } : Jvm.MethodName) jdk_33_method_27_code (1 : Nat) (Option.some Jvm.ClassFile.FieldType.int)).before args0 about1 = true := code_word (m := ⟨24, 2⟩) (meth := k24m2) (c := k24c2) (by decide +kernel) rfl rfl rfl (by decide +kernel)
set_option maxRecDepth 65536 in
theorem w_c38 : (Jvm.Cond.code ({ cls := "java/util/ImmutableCollections", name := "listFromArray", desc := "([Ljava/lang/Object;)Ljava/util/List;" } : Jvm.MethodName) jdk_56_method_4_code (3 : Nat) (Option.some (Jvm.ClassFile.FieldType.object "java/util/List"))).before args0 about1 = true := code_word (m := ⟨14, 2⟩) (meth := k14m2) (c := k14c2) (by decide +kernel) rfl rfl rfl (by decide +kernel)
set_option maxRecDepth 65536 in
theorem w_c39 : (Jvm.Cond.code ({ cls := "java/util/ImmutableCollections$ListN", name := "<init>", desc := "([Ljava/lang/Object;Z)V" } : Jvm.MethodName) jdk_45_method_1_code (3 : Nat) (Option.none : Option Jvm.ClassFile.FieldType)).before args0 about1 = true := code_word (m := ⟨18, 0⟩) (meth := k18m0) (c := k18c0) (by decide +kernel) rfl rfl rfl (by decide +kernel)
set_option maxRecDepth 65536 in
theorem w_c40 : (Jvm.Cond.code ({ cls := "java/util/ImmutableCollections$ListN", name := "size", desc := "()I" } : Jvm.MethodName) jdk_45_method_3_code (1 : Nat) (Option.some Jvm.ClassFile.FieldType.int)).before args0 about1 = true := code_word (m := ⟨18, 1⟩) (meth := k18m1) (c := k18c1) (by decide +kernel) rfl rfl rfl (by decide +kernel)
set_option maxRecDepth 65536 in
theorem w_c41 : (Jvm.Cond.code ({ cls := "java/util/ImmutableCollections$ListN", name := "get", desc := "(I)Ljava/lang/Object;" } : Jvm.MethodName) jdk_45_method_4_code (2 : Nat) (Option.some (Jvm.ClassFile.FieldType.object "java/lang/Object"))).before args0 about1 = true := code_word (m := ⟨18, 2⟩) (meth := k18m2) (c := k18c2) (by decide +kernel) rfl rfl rfl (by decide +kernel)
def codes1 : List Jvm.Cond := [Jvm.Cond.code x code maxLocals ret, Jvm.Cond.code ({ cls := "java/util/ArrayList", name := "<init>", desc := "()V" } : Jvm.MethodName) jdk_38_method_2_code (1 : Nat) (Option.none : Option Jvm.ClassFile.FieldType), Jvm.Cond.code ({ cls := "java/util/AbstractList", name := "<init>", desc := "()V" } : Jvm.MethodName) jdk_39_method_1_code (1 : Nat) (Option.none : Option Jvm.ClassFile.FieldType), Jvm.Cond.code ({ cls := "java/util/AbstractCollection", name := "<init>", desc := "()V" } : Jvm.MethodName) jdk_22_method_1_code (1 : Nat) (Option.none : Option Jvm.ClassFile.FieldType), Jvm.Cond.code ({ cls := "java/lang/Object", name := "<init>", desc := "()V" } : Jvm.MethodName) object_method_1_code (1 : Nat) (Option.none : Option Jvm.ClassFile.FieldType), Jvm.Cond.code ({ cls := "com/example/uketsuke/uketsuke/core/conversation/Page", name := "<init>", desc := "(Ljava/util/List;Z)V" } : Jvm.MethodName) prog_28_method_1_code (3 : Nat) (Option.none : Option Jvm.ClassFile.FieldType), Jvm.Cond.code ({ cls := "java/lang/Record", name := "<init>", desc := "()V" } : Jvm.MethodName) jdk_30_method_1_code (1 : Nat) (Option.none : Option Jvm.ClassFile.FieldType), Jvm.Cond.code ({ cls := "java/util/List", name := "copyOf", desc := "(Ljava/util/Collection;)Ljava/util/List;" } : Jvm.MethodName) jdk_40_method_48_code (1 : Nat) (Option.some (Jvm.ClassFile.FieldType.object "java/util/List")), Jvm.Cond.code ({ cls := "java/util/ImmutableCollections", name := "listCopy", desc := "(Ljava/util/Collection;)Ljava/util/List;" } : Jvm.MethodName) jdk_56_method_3_code (2 : Nat) (Option.some (Jvm.ClassFile.FieldType.object "java/util/List")), Jvm.Cond.code ({ cls := "java/util/ArrayList", name := "isEmpty", desc := "()Z" } : Jvm.MethodName) jdk_38_method_9_code (1 : Nat) (Option.some Jvm.ClassFile.FieldType.boolean), Jvm.Cond.code ({ cls := "java/util/List", name := "of", desc := "()Ljava/util/List;" } : Jvm.MethodName) jdk_40_method_36_code (0 : Nat) (Option.some (Jvm.ClassFile.FieldType.object "java/util/List")), Jvm.Cond.code ({ cls := "com/example/uketsuke/uketsuke/core/conversation/Page", name := "continuesAfter", desc := "()Ljava/util/Optional;" } : Jvm.MethodName) prog_28_method_3_code (1 : Nat) (Option.some (Jvm.ClassFile.FieldType.object "java/util/Optional")), Jvm.Cond.code ({ cls := "java/util/Optional", name := "empty", desc := "()Ljava/util/Optional;" } : Jvm.MethodName) jdk_32_method_1_code (1 : Nat) (Option.some (Jvm.ClassFile.FieldType.object "java/util/Optional")), Jvm.Cond.code ({ cls := "java/util/Optional", name := "isPresent", desc := "()Z" } : Jvm.MethodName) jdk_32_method_6_code (1 : Nat) (Option.some Jvm.ClassFile.FieldType.boolean), Jvm.Cond.code ({ cls := "java/lang/Integer", name := "valueOf", desc := "(I)Ljava/lang/Integer;" } : Jvm.MethodName) jdk_33_method_22_code (1 : Nat) (Option.some (Jvm.ClassFile.FieldType.object "java/lang/Integer")), Jvm.Cond.code ({ cls := "java/util/ArrayList", name := "add", desc := "(Ljava/lang/Object;)Z" } : Jvm.MethodName) jdk_38_method_25_code (2 : Nat) (Option.some Jvm.ClassFile.FieldType.boolean), Jvm.Cond.code ({ cls := "java/util/ArrayList", name := "add", desc := "(Ljava/lang/Object;[Ljava/lang/Object;I)V" } : Jvm.MethodName) jdk_38_method_24_code (4 : Nat) (Option.none : Option Jvm.ClassFile.FieldType), Jvm.Cond.code ({ cls := "java/util/ArrayList", name := "grow", desc := "()[Ljava/lang/Object;" } : Jvm.MethodName) jdk_38_method_7_code (1 : Nat) (Option.some (Jvm.ClassFile.FieldType.array (Jvm.ClassFile.FieldType.object "java/lang/Object"))), Jvm.Cond.code ({ cls := "java/util/ArrayList", name := "grow", desc := "(I)[Ljava/lang/Object;" } : Jvm.MethodName) jdk_38_method_6_code (4 : Nat) (Option.some (Jvm.ClassFile.FieldType.array (Jvm.ClassFile.FieldType.object "java/lang/Object"))), Jvm.Cond.code ({ cls := "java/lang/Math", name := "max", desc := "(II)I" } : Jvm.MethodName) jdk_29_method_65_code (2 : Nat) (Option.some Jvm.ClassFile.FieldType.int), Jvm.Cond.code ({ cls := "java/util/ArrayList", name := "toArray", desc := "()[Ljava/lang/Object;" } : Jvm.MethodName) jdk_38_method_16_code (1 : Nat) (Option.some (Jvm.ClassFile.FieldType.array (Jvm.ClassFile.FieldType.object "java/lang/Object"))), Jvm.Cond.code ({ cls := "java/util/Arrays", name := "copyOf", desc := "([Ljava/lang/Object;I)[Ljava/lang/Object;" } : Jvm.MethodName) jdk_65_method_119_code (2 : Nat) (Option.some (Jvm.ClassFile.FieldType.array (Jvm.ClassFile.FieldType.object "java/lang/Object"))), Jvm.Cond.code ({ cls := "java/util/Arrays", name := "copyOf", desc := "([Ljava/lang/Object;ILjava/lang/Class;)[Ljava/lang/Object;" } : Jvm.MethodName) jdk_65_method_120_code (4 : Nat) (Option.some (Jvm.ClassFile.FieldType.array (Jvm.ClassFile.FieldType.object "java/lang/Object"))), Jvm.Cond.code ({ cls := "java/lang/Math", name := "min", desc := "(II)I" } : Jvm.MethodName) jdk_29_method_69_code (2 : Nat) (Option.some Jvm.ClassFile.FieldType.int), Jvm.Cond.code ({ cls := "java/util/List", name := "of", desc := "([Ljava/lang/Object;)Ljava/util/List;" } : Jvm.MethodName) jdk_40_method_47_code (2 : Nat) (Option.some (Jvm.ClassFile.FieldType.object "java/util/List")), Jvm.Cond.code ({ cls := "java/util/ImmutableCollections$List12", name := "<init>", desc := "(Ljava/lang/Object;Ljava/lang/Object;)V" } : Jvm.MethodName) jdk_44_method_2_code (3 : Nat) (Option.none : Option Jvm.ClassFile.FieldType), Jvm.Cond.code ({ cls := "java/util/ImmutableCollections$AbstractImmutableList", name := "<init>", desc := "()V" } : Jvm.MethodName) jdk_46_method_1_code (1 : Nat) (Option.none : Option Jvm.ClassFile.FieldType), Jvm.Cond.code ({ cls := "java/util/ImmutableCollections$AbstractImmutableCollection", name := "<init>", desc := "()V" } : Jvm.MethodName) jdk_47_method_1_code (1 : Nat) (Option.none : Option Jvm.ClassFile.FieldType), Jvm.Cond.code ({ cls := "java/util/Objects", name := "requireNonNull", desc := "(Ljava/lang/Object;)Ljava/lang/Object;" } : Jvm.MethodName) jdk_31_method_10_code (1 : Nat) (Option.some (Jvm.ClassFile.FieldType.object "java/lang/Object")), Jvm.Cond.code ({ cls := "java/lang/Integer", name := "<init>", desc := "(I)V" } : Jvm.MethodName) jdk_33_method_23_code (2 : Nat) (Option.none : Option Jvm.ClassFile.FieldType), Jvm.Cond.code ({ cls := "java/lang/Number", name := "<init>", desc := "()V" } : Jvm.MethodName) jdk_18_method_1_code (1 : Nat) (Option.none : Option Jvm.ClassFile.FieldType), Jvm.Cond.code ({ cls := "java/util/ImmutableCollections$List12", name := "<init>", desc := "(Ljava/lang/Object;)V" } : Jvm.MethodName) jdk_44_method_1_code (2 : Nat) (Option.none : Option Jvm.ClassFile.FieldType), Jvm.Cond.code ({ cls := "java/util/ImmutableCollections$List12", name := "size", desc := "()I" } : Jvm.MethodName) jdk_44_method_3_code (1 : Nat) (Option.some Jvm.ClassFile.FieldType.int), Jvm.Cond.code ({ cls := "java/util/ImmutableCollections$List12", name := "get", desc := "(I)Ljava/lang/Object;" } : Jvm.MethodName) jdk_44_method_5_code (2 : Nat) (Option.some (Jvm.ClassFile.FieldType.object "java/lang/Object")), Jvm.Cond.code ({ cls := "java/util/Optional", name := "of", desc := "(Ljava/lang/Object;)Ljava/util/Optional;" } : Jvm.MethodName) jdk_32_method_3_code (1 : Nat) (Option.some (Jvm.ClassFile.FieldType.object "java/util/Optional")), Jvm.Cond.code ({ cls := "java/util/Optional", name := "<init>", desc := "(Ljava/lang/Object;)V" } : Jvm.MethodName) jdk_32_method_2_code (2 : Nat) (Option.none : Option Jvm.ClassFile.FieldType), Jvm.Cond.code ({ cls := "java/util/Optional", name := "get", desc := "()Ljava/lang/Object;" } : Jvm.MethodName) jdk_32_method_5_code (1 : Nat) (Option.some (Jvm.ClassFile.FieldType.object "java/lang/Object")), Jvm.Cond.code ({ cls := "java/lang/Integer", name := "intValue", desc := "()I" } : Jvm.MethodName) jdk_33_method_27_code (1 : Nat) (Option.some Jvm.ClassFile.FieldType.int), Jvm.Cond.code ({ cls := "java/util/ImmutableCollections", name := "listFromArray", desc := "([Ljava/lang/Object;)Ljava/util/List;" } : Jvm.MethodName) jdk_56_method_4_code (3 : Nat) (Option.some (Jvm.ClassFile.FieldType.object "java/util/List")), Jvm.Cond.code ({ cls := "java/util/ImmutableCollections$ListN", name := "<init>", desc := "([Ljava/lang/Object;Z)V" } : Jvm.MethodName) jdk_45_method_1_code (3 : Nat) (Option.none : Option Jvm.ClassFile.FieldType), Jvm.Cond.code ({ cls := "java/util/ImmutableCollections$ListN", name := "size", desc := "()I" } : Jvm.MethodName) jdk_45_method_3_code (1 : Nat) (Option.some Jvm.ClassFile.FieldType.int), Jvm.Cond.code ({ cls := "java/util/ImmutableCollections$ListN", name := "get", desc := "(I)Ljava/lang/Object;" } : Jvm.MethodName) jdk_45_method_4_code (2 : Nat) (Option.some (Jvm.ClassFile.FieldType.object "java/lang/Object"))]
set_option maxRecDepth 65536 in
theorem codes_eq : words1.filter isCode = codes1 := rfl
theorem w_codes : ∀ c ∈ words1.filter isCode, c.before args0 about1 = true := by
  rw [codes_eq]
  intro c hc
  simp only [codes1, List.mem_cons, List.not_mem_nil, or_false] at hc
  rcases hc with rfl | rfl | rfl | rfl | rfl | rfl | rfl | rfl | rfl | rfl | rfl | rfl | rfl | rfl | rfl | rfl | rfl | rfl | rfl | rfl | rfl | rfl | rfl | rfl | rfl | rfl | rfl | rfl | rfl | rfl | rfl | rfl | rfl | rfl | rfl | rfl | rfl | rfl | rfl | rfl | rfl | rfl
  · exact w_c0
  · exact w_c1
  · exact w_c2
  · exact w_c3
  · exact w_c4
  · exact w_c5
  · exact w_c6
  · exact w_c7
  · exact w_c8
  · exact w_c9
  · exact w_c10
  · exact w_c11
  · exact w_c12
  · exact w_c13
  · exact w_c14
  · exact w_c15
  · exact w_c16
  · exact w_c17
  · exact w_c18
  · exact w_c19
  · exact w_c20
  · exact w_c21
  · exact w_c22
  · exact w_c23
  · exact w_c24
  · exact w_c25
  · exact w_c26
  · exact w_c27
  · exact w_c28
  · exact w_c29
  · exact w_c30
  · exact w_c31
  · exact w_c32
  · exact w_c33
  · exact w_c34
  · exact w_c35
  · exact w_c36
  · exact w_c37
  · exact w_c38
  · exact w_c39
  · exact w_c40
  · exact w_c41
set_option maxRecDepth 65536 in
theorem w_t1 : (words1.take 24).all (fun c => isCode c || c.before args0 about1) = true := by decide +kernel
set_option maxRecDepth 65536 in
theorem w_t2 : ((words1.drop 24).take 24).all (fun c => isCode c || c.before args0 about1) = true := by decide +kernel
set_option maxRecDepth 65536 in
theorem w_t3 : (((words1.drop 24).drop 24).take 24).all (fun c => isCode c || c.before args0 about1) = true := by decide +kernel
set_option maxRecDepth 65536 in
theorem w_t4 : ((((words1.drop 24).drop 24).drop 24).take 24).all (fun c => isCode c || c.before args0 about1) = true := by decide +kernel
set_option maxRecDepth 65536 in
theorem w_t5 : (((((words1.drop 24).drop 24).drop 24).drop 24).take 24).all (fun c => isCode c || c.before args0 about1) = true := by decide +kernel
set_option maxRecDepth 65536 in
theorem w_t6 : ((((((words1.drop 24).drop 24).drop 24).drop 24).drop 24).take 24).all (fun c => isCode c || c.before args0 about1) = true := by decide +kernel
set_option maxRecDepth 65536 in
theorem w_t7 : (((((((words1.drop 24).drop 24).drop 24).drop 24).drop 24).drop 24).take 24).all (fun c => isCode c || c.before args0 about1) = true := by decide +kernel
set_option maxRecDepth 65536 in
theorem w_t8 : ((((((((words1.drop 24).drop 24).drop 24).drop 24).drop 24).drop 24).drop 24).take 24).all (fun c => isCode c || c.before args0 about1) = true := by decide +kernel
set_option maxRecDepth 65536 in
theorem w_t9 : (((((((((words1.drop 24).drop 24).drop 24).drop 24).drop 24).drop 24).drop 24).drop 24).take 24).all (fun c => isCode c || c.before args0 about1) = true := by decide +kernel
set_option maxRecDepth 65536 in
theorem w_t10 : ((((((((((words1.drop 24).drop 24).drop 24).drop 24).drop 24).drop 24).drop 24).drop 24).drop 24).take 24).all (fun c => isCode c || c.before args0 about1) = true := by decide +kernel
set_option maxRecDepth 65536 in
theorem w_t11 : (((((((((((words1.drop 24).drop 24).drop 24).drop 24).drop 24).drop 24).drop 24).drop 24).drop 24).drop 24).take 24).all (fun c => isCode c || c.before args0 about1) = true := by decide +kernel
set_option maxRecDepth 65536 in
theorem w_t12 : (((((((((((words1.drop 24).drop 24).drop 24).drop 24).drop 24).drop 24).drop 24).drop 24).drop 24).drop 24).drop 24).all (fun c => isCode c || c.before args0 about1) = true := by decide +kernel
theorem w_tables : (allAtoms (Jvm.Cond.code x code maxLocals ret :: tables_1)).before args0 about1 = true := by
  rw [allAtoms_all]
  show words1.all (fun c => c.before args0 about1) = true
  refine all_split ?_ w_codes
  rw [← List.take_append_drop 24 words1, List.all_append, w_t1, ← List.take_append_drop 24 (words1.drop 24), List.all_append, w_t2, ← List.take_append_drop 24 ((words1.drop 24).drop 24), List.all_append, w_t3, ← List.take_append_drop 24 (((words1.drop 24).drop 24).drop 24), List.all_append, w_t4, ← List.take_append_drop 24 ((((words1.drop 24).drop 24).drop 24).drop 24), List.all_append, w_t5, ← List.take_append_drop 24 (((((words1.drop 24).drop 24).drop 24).drop 24).drop 24), List.all_append, w_t6, ← List.take_append_drop 24 ((((((words1.drop 24).drop 24).drop 24).drop 24).drop 24).drop 24), List.all_append, w_t7, ← List.take_append_drop 24 (((((((words1.drop 24).drop 24).drop 24).drop 24).drop 24).drop 24).drop 24), List.all_append, w_t8, ← List.take_append_drop 24 ((((((((words1.drop 24).drop 24).drop 24).drop 24).drop 24).drop 24).drop 24).drop 24), List.all_append, w_t9, ← List.take_append_drop 24 (((((((((words1.drop 24).drop 24).drop 24).drop 24).drop 24).drop 24).drop 24).drop 24).drop 24), List.all_append, w_t10, ← List.take_append_drop 24 ((((((((((words1.drop 24).drop 24).drop 24).drop 24).drop 24).drop 24).drop 24).drop 24).drop 24).drop 24), List.all_append, w_t11, w_t12]
  rfl
set_option maxRecDepth 65536 in
theorem w_rest : rest_1_c.before args0 about1 = true := by decide +kernel
set_option maxRecDepth 65536 in
theorem w_case : (Jvm.Cond.and given_1 narrow_1).before args0 about1 = true := by decide +kernel
theorem w_applies : (headSpec (Jvm.Cond.code x code maxLocals ret :: tables_1) room_1).applies x e0.platform about1 = true :=
  (Spec.applies_iff w_frames).mpr ⟨w_running, w_runnable, w_alone, w_named, w_hears, w_ripe, w_room, w_tables⟩
set_option maxRecDepth 65536 in
theorem atStart : AtStart classFile x code maxLocals ret World_1 tables_1 room_1 Calls_1 rest_1 Pre_1 launch0 p0 e0 about1 theMethod args0 below0 :=
  ⟨lists_1, trivial, launch0.admits_env _ _ _, launch0.least_env, fairChoices_fair.cas, fairChoices_fair.clock, w_frames, w_args, w_heap, w_applies, ⟨⟨35, k35, 267, by decide +kernel, rfl, rfl, _, rfl, rfl⟩, trivial⟩, w_rest, w_case⟩
end start1
theorem witness_1 : WitnessClaimed_1 := ⟨start1.p0, start1.e0, start1.about1, start1.theMethod, start1.args0, start1.below0, start1.atStart⟩
end Jvm.Pilot.@@N@@
