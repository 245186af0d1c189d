import JvmDerived
import JvmDerived.Pilot.@@N@@Statement
import JvmDerived.Pilot.@@N@@Code
set_option linter.unusedVariables false
set_option linter.unusedSimpArgs false
/- laws to paste: Road.backV, Road.lenW, Road.chN, Road.eqW, Road.codOf (cut by pick.py; bodies as the Statement names them) -/
namespace Jvm.Pilot.@@N@@
namespace StrChars
open Jvm Sem ClassFile Op Lib Jvm.Stand Jvm.Free.XT Jvm.Free.ALB Jvm.Free.JM Jvm.Free
open Jvm.Lib.Cold (StaticIs)
/-- a char array whose places are chars -/
def Ch (a : Addr) (A : Cell) (U : State) : Prop := Arr .char a A U ∧ Typed .char A
theorem Ch.mv {a : Addr} {A : Cell} {U U' : State} (h : Ch a A U) (hal : U.vm.Alike U'.vm) (hh : U'.heap = U.heap) : Ch a A U' := ⟨h.1.mv hal hh, h.2⟩
theorem Ch.keep {a : Addr} {A : Cell} {U U' : State} (h : Ch a A U) (hal : U.vm.Alike U'.vm) (hk : U'.heap[a]? = some A) : Ch a A U' := ⟨h.1.keep hal hk, h.2⟩
/-- what place i of a char[]'s cell holds -/
def cv (A : Cell) (i : Nat) : Int32 := match A.slots[i]? with | some (.int x) => x | _ => 0
theorem Ch.get {a : Addr} {A : Cell} {U : State} (h : Ch a A U) {i : Nat} (hi : i < A.slots.size) : A.slots[i]? = some (.int (cv A i)) := by
  have e := Array.getElem?_eq_getElem hi
  have f := h.2 i _ e
  unfold cv; rw [e]
  generalize A.slots[i] = v at f
  cases v <;> simp [fits] at f ⊢
/-- the byte that i2b leaves of a char -/
def lo8 (x : Int32) : Int32 := x.toInt8.toInt32
theorem fits_lo8 (y : Int32) : fits .byte (.int (lo8 y)) = true := by
  have h1 := y.toInt8.le_toInt
  have h2 := y.toInt8.toInt_lt
  simp only [lo8, fits, Bool.and_eq_true, decide_eq_true_eq, Int32.le_iff_toInt_le, Int8.toInt_toInt32, show (-128 : Int32).toInt = -128 from by decide, show (127 : Int32).toInt = 127 from by decide]
  omega
/-- A' is A but that each place j of lo .. hi - 1 holds f j -/
def Laid (A A' : Cell) (lo hi : Nat) (f : Nat → Value) : Prop := A'.cls = A.cls ∧ A'.vm = A.vm ∧ A'.slots.size = A.slots.size ∧ ∀ i, A'.slots[i]? = if lo ≤ i ∧ i < hi then some (f i) else A.slots[i]?
theorem Laid.zero (A : Cell) (lo : Nat) (f : Nat → Value) : Laid A A lo (lo + 0) f := ⟨rfl, rfl, rfl, fun i => by rw [if_neg (by omega)]⟩
theorem Laid.step {A Ak : Cell} {lo k : Nat} {f : Nat → Value} {v : Value} (h : Laid A Ak lo k f) (hlo : lo ≤ k) (hk : k < Ak.slots.size) (hv : v = f k) : Laid A (Ak.setSlot k v) lo (k + 1) f := by
  refine ⟨h.1, h.2.1, by simpa [Cell.setSlot] using h.2.2.1, fun i => ?_⟩
  by_cases e : k = i
  · subst e; rw [Cell.slots_setSlot_self v hk, if_pos (by omega), hv]
  · rw [Cell.slots_setSlot_ne v e, h.2.2.2 i]
    by_cases q : lo ≤ i ∧ i < k
    · rw [if_pos q, if_pos (by omega)]
    · rw [if_neg q, if_neg (by omega)]
def U16 : String := "java/lang/StringUTF16"
namespace Cmp5
def yN : MethodName := ⟨"java/lang/StringUTF16", "compress", "([CI[BII)I"⟩
abbrev yB : ByteArray := jdk_52_method_21_code
theorem d0 : decode yB 0 = .ok (.iconst 0, 1) := by decide +kernel
theorem d1 : decode yB 1 = .ok (.istore 5, 2) := by decide +kernel
theorem d3 : decode yB 3 = .ok (.iload 5, 2) := by decide +kernel
theorem d5 : decode yB 5 = .ok (.iload 4, 2) := by decide +kernel
theorem d7 : decode yB 7 = .ok (.if_icmp (.ge) 37, 3) := by decide +kernel
theorem d10 : decode yB 10 = .ok (.aload_n 0, 1) := by decide +kernel
theorem d11 : decode yB 11 = .ok (.iload_n 1, 1) := by decide +kernel
theorem d12 : decode yB 12 = .ok (.caload, 1) := by decide +kernel
theorem d13 : decode yB 13 = .ok (.istore 6, 2) := by decide +kernel
theorem d15 : decode yB 15 = .ok (.iload 6, 2) := by decide +kernel
theorem d17 : decode yB 17 = .ok (.sipush 255, 3) := by decide +kernel
theorem d20 : decode yB 20 = .ok (.if_icmp (.le) 6, 3) := by decide +kernel
theorem d26 : decode yB 26 = .ok (.aload_n 2, 1) := by decide +kernel
theorem d27 : decode yB 27 = .ok (.iload_n 3, 1) := by decide +kernel
theorem d28 : decode yB 28 = .ok (.iload 6, 2) := by decide +kernel
theorem d30 : decode yB 30 = .ok (.i2b, 1) := by decide +kernel
theorem d31 : decode yB 31 = .ok (.bastore, 1) := by decide +kernel
theorem d32 : decode yB 32 = .ok (.iinc 1 1, 3) := by decide +kernel
theorem d35 : decode yB 35 = .ok (.iinc 3 1, 3) := by decide +kernel
theorem d38 : decode yB 38 = .ok (.iinc 5 1, 3) := by decide +kernel
theorem d41 : decode yB 41 = .ok (.goto (-38), 3) := by decide +kernel
theorem d44 : decode yB 44 = .ok (.iload 4, 2) := by decide +kernel
theorem d46 : decode yB 46 = .ok (.ireturn, 1) := by decide +kernel
def site : List Cond := []
def tab : Cond := tabOf yN yB 7 (some .int) site
def P (b : Addr) (A : Cell) (d : Addr) (B : Cell) (o q len : Nat) (args : Array Value) (s : State) : Prop := args = #[.ref b, .int (Int32.ofNat o), .ref d, .int (Int32.ofNat q), .int (Int32.ofNat len)] ∧ Ch b A s ∧ Arr .byte d B s ∧ b ≠ d ∧ o + len ≤ A.slots.size ∧ q + len ≤ B.slots.size ∧ ∀ i, i < len → ¬ 255 < cv A (o + i)
def E (b : Addr) (A : Cell) (d : Addr) (B : Cell) (o q len : Nat) (r : Option Value) (s u : State) : Prop := r = some (.int (Int32.ofNat len)) ∧ ∃ B', Put d B' s u ∧ Laid B B' q (q + len) (fun j => Value.int (lo8 (cv A (o + (j - q)))))
/-- no char of the range above 255: len; the places written hold each char's low byte -/
theorem law (l : Launch) (b : Addr) (A : Cell) (d : Addr) (B : Cell) (o q len : Nat) : Law l yN 5 5 0 0 yB 7 (some .int) site (P b A d B o q len) (E b A d B o q len) (copyLocs d q len) 0 0 := by
  refine Law.of_walk (plainFor_of_name (by decide +kernel)) (by decide +kernel) (by decide +kernel) (by decide) (fun _ _ h => by rw [h.1]; rfl) (fun _ U U' hal hh h => ⟨h.1, h.2.1.mv hal hh, h.2.2.1.mv hal hh, h.2.2.2⟩) (fun r U U' V V' h1 hal h2 h => ⟨h.1, h.2.elim fun B' q => ⟨B', q.1.mv h1 h2, q.2⟩⟩) ?_
  intro p e s m args below meth c s₁ X0 hexec hbytes hml hret hlk hnm hown hh0 W hP
  obtain ⟨rfl, hA, hB, hne, l1, l2, hp⟩ := hP
  have c1 : Steps p.tables e below (s₁.setTop (entryFrame m #[.ref b, .int (Int32.ofNat o), .ref d, .int (Int32.ofNat q), .int (Int32.ofNat len)] 7)) (s₁.setTop (mkF m 0 #[.val (.ref b), .val (.int (Int32.ofNat o)), .val (.ref d), .val (.int (Int32.ofNat q)), .val (.int (Int32.ofNat len)), .unset, .unset] [])) := entry rfl
  have hA0 := hA.1.mv X0.warmed.alike hh0
  have hB0 := hB.mv X0.warmed.alike hh0
  have a31 := hA.1.2.2.2
  have c2 : Steps p.tables e below (s₁.setTop (entryFrame m #[.ref b, .int (Int32.ofNat o), .ref d, .int (Int32.ofNat q), .int (Int32.ofNat len)] 7)) (s₁.setTop (mkF m 3 #[.val (.ref b), .val (.int (Int32.ofNat o)), .val (.ref d), .val (.int (Int32.ofNat q)), .val (.int (Int32.ofNat len)), .val (.int 0), .unset] [])) := c1.trans (by
    refine iconstV X0.here hexec rfl 0 (hb hbytes d0) (by decide) ?_
    refine XS.istore X0.here hexec rfl (hb hbytes d1) rfl rfl ?_
    exact Steps.refl _)
  have loop : ∀ (r i : Nat), i + r = len → ∀ (z : Slot), (z = .unset ∨ ∃ w, z = .val w ∧ w.category = 1) → ∀ (Tl : State) (Bk : Cell), Stand p l e { frames := 0, locals := 0, cells := 0, slots := 0 } s m #[.ref b, .int (Int32.ofNat o), .ref d, .int (Int32.ofNat q), .int (Int32.ofNat len)] below meth c Tl ([] ++ copyLocs d q i) 0 0 → Put d Bk s₁ Tl → Laid B Bk q (q + i) (fun j => Value.int (lo8 (cv A (o + (j - q))))) →
      Steps p.tables e below (s₁.setTop (entryFrame m #[.ref b, .int (Int32.ofNat o), .ref d, .int (Int32.ofNat q), .int (Int32.ofNat len)] 7)) (Tl.setTop (mkF m 3 #[.val (.ref b), .val (.int (Int32.ofNat (o + i))), .val (.ref d), .val (.int (Int32.ofNat (q + i))), .val (.int (Int32.ofNat len)), .val (.int (Int32.ofNat i)), z] [])) → ∃ (T' : State) (B' : Cell) (z' : Slot), Stand p l e { frames := 0, locals := 0, cells := 0, slots := 0 } s m #[.ref b, .int (Int32.ofNat o), .ref d, .int (Int32.ofNat q), .int (Int32.ofNat len)] below meth c T' ([] ++ copyLocs d q len) 0 0 ∧ Put d B' s₁ T' ∧ Laid B B' q (q + len) (fun j => Value.int (lo8 (cv A (o + (j - q))))) ∧
      Steps p.tables e below (s₁.setTop (entryFrame m #[.ref b, .int (Int32.ofNat o), .ref d, .int (Int32.ofNat q), .int (Int32.ofNat len)] 7)) (T'.setTop (mkF m 3 #[.val (.ref b), .val (.int (Int32.ofNat (o + len))), .val (.ref d), .val (.int (Int32.ofNat (q + len))), .val (.int (Int32.ofNat len)), .val (.int (Int32.ofNat len)), z'] [])) := by
    intro r
    induction r with
    | zero =>
      intro i hi z hz Tl Bk Xl pl fl cl
      have hil : i = len := by omega
      rw [hil] at Xl fl cl
      exact ⟨Tl, Bk, z, Xl, pl, fl, cl⟩
    | succ r ih =>
      intro i hi z hz Tl Bk Xl pl fl cl
      have all := X0.warmed.alike.symm.trans Xl.warmed.alike
      have hAl := hA0.keep all (pl.other hne hA0.1)
      have hBk := hB0.like all pl.1 fl.1 fl.2.1 fl.2.2.1
      have hlt : q + i < Bk.slots.size := by rw [fl.2.2.1]; omega
      have c3 : Steps p.tables e below (s₁.setTop (entryFrame m #[.ref b, .int (Int32.ofNat o), .ref d, .int (Int32.ofNat q), .int (Int32.ofNat len)] 7)) (Tl.setTop (mkF m 12 #[.val (.ref b), .val (.int (Int32.ofNat (o + i))), .val (.ref d), .val (.int (Int32.ofNat (q + i))), .val (.int (Int32.ofNat len)), .val (.int (Int32.ofNat i)), z] [.int (Int32.ofNat (o + i)), .ref b])) := cl.trans (by
        refine XS.iload Xl.here hexec rfl (hb hbytes d3) rfl ?_
        refine XS.iload Xl.here hexec rfl (hb hbytes d5) rfl ?_
        refine XS.icmpNo Xl.here hexec rfl (hb hbytes d7) rfl (ii_ge_f (lt32 (by omega) (by omega))) ?_
        refine XS.aloadN Xl.here hexec rfl (hb hbytes d10) rfl rfl ?_
        refine XS.iloadN Xl.here hexec rfl (hb hbytes d11) rfl ?_
        exact Steps.refl _)
      have c4 : Steps p.tables e below (s₁.setTop (entryFrame m #[.ref b, .int (Int32.ofNat o), .ref d, .int (Int32.ofNat q), .int (Int32.ofNat len)] 7)) (Tl.setTop (mkF m 13 #[.val (.ref b), .val (.int (Int32.ofNat (o + i))), .val (.ref d), .val (.int (Int32.ofNat (q + i))), .val (.int (Int32.ofNat len)), .val (.int (Int32.ofNat i)), z] [.int (cv A (o + i))])) := c3.trans (by
        refine Xl.aget hexec hAl rfl (hA.get (i := o + i) (by omega)) rfl rfl (hb hbytes d12) ?_
        exact Steps.refl _)
      have c5 : Steps p.tables e below (s₁.setTop (entryFrame m #[.ref b, .int (Int32.ofNat o), .ref d, .int (Int32.ofNat q), .int (Int32.ofNat len)] 7)) (Tl.setTop (mkF m 15 #[.val (.ref b), .val (.int (Int32.ofNat (o + i))), .val (.ref d), .val (.int (Int32.ofNat (q + i))), .val (.int (Int32.ofNat len)), .val (.int (Int32.ofNat i)), .val (.int (cv A (o + i)))] [])) := c4.trans (by
        refine XS.istoreS Xl.here hexec rfl (hb hbytes d13) rfl rfl hz ?_
        exact Steps.refl _)
      have c6 : Steps p.tables e below (s₁.setTop (entryFrame m #[.ref b, .int (Int32.ofNat o), .ref d, .int (Int32.ofNat q), .int (Int32.ofNat len)] 7)) (Tl.setTop (mkF m 31 #[.val (.ref b), .val (.int (Int32.ofNat (o + i))), .val (.ref d), .val (.int (Int32.ofNat (q + i))), .val (.int (Int32.ofNat len)), .val (.int (Int32.ofNat i)), .val (.int (cv A (o + i)))] [.int (lo8 (cv A (o + i))), .int (Int32.ofNat (q + i)), .ref d])) := c5.trans (by
        refine XS.iload Xl.here hexec rfl (hb hbytes d15) rfl ?_
        refine sipushV Xl.here hexec rfl 255 (hb hbytes d17) (by decide) ?_
        refine XS.icmpYes Xl.here hexec rfl (pc0 := 20) rfl (hb hbytes d20) rfl (ii_le_t (hp i (by omega))) (by decide) rfl ?_
        refine XS.aloadN Xl.here hexec rfl (hb hbytes d26) rfl rfl ?_
        refine XS.iloadN Xl.here hexec rfl (hb hbytes d27) rfl ?_
        refine XS.iload Xl.here hexec rfl (hb hbytes d28) rfl ?_
        refine i2b Xl.here hexec rfl (hb hbytes d30) rfl ?_
        exact Steps.refl _)
      obtain ⟨T7, X7, p7, st7⟩ := Xl.aput hexec hBk rfl hlt rfl (fits_lo8 (cv A (o + i))) (g := (mkF m 31 #[.val (.ref b), .val (.int (Int32.ofNat (o + i))), .val (.ref d), .val (.int (Int32.ofNat (q + i))), .val (.int (Int32.ofNat len)), .val (.int (Int32.ofNat i)), .val (.int (cv A (o + i)))] [.int (lo8 (cv A (o + i))), .int (Int32.ofNat (q + i)), .ref d])) rfl (rest := []) rfl (hb hbytes d31)
      have c8 : Steps p.tables e below (s₁.setTop (entryFrame m #[.ref b, .int (Int32.ofNat o), .ref d, .int (Int32.ofNat q), .int (Int32.ofNat len)] 7)) (T7.setTop (mkF m 32 #[.val (.ref b), .val (.int (Int32.ofNat (o + i))), .val (.ref d), .val (.int (Int32.ofNat (q + i))), .val (.int (Int32.ofNat len)), .val (.int (Int32.ofNat i)), .val (.int (cv A (o + i)))] [])) := c6.trans (st7 _ (Steps.refl _))
      have c9 : Steps p.tables e below (s₁.setTop (entryFrame m #[.ref b, .int (Int32.ofNat o), .ref d, .int (Int32.ofNat q), .int (Int32.ofNat len)] 7)) (T7.setTop (mkF m 3 #[.val (.ref b), .val (.int (Int32.ofNat (o + i) + 1)), .val (.ref d), .val (.int (Int32.ofNat (q + i) + 1)), .val (.int (Int32.ofNat len)), .val (.int (Int32.ofNat i + 1)), .val (.int (cv A (o + i)))] [])) := c8.trans (by
        refine iincV X7.here hexec rfl 1 (hb hbytes d32) (by decide) rfl rfl ?_
        refine iincV X7.here hexec rfl 1 (hb hbytes d35) (by decide) rfl rfl ?_
        refine iincV X7.here hexec rfl 1 (hb hbytes d38) (by decide) rfl rfl ?_
        refine XS.goto X7.here hexec rfl (pc0 := 41) rfl (hb hbytes d41) (by decide) rfl ?_
        exact Steps.refl _)
      have c10 : Steps p.tables e below (s₁.setTop (entryFrame m #[.ref b, .int (Int32.ofNat o), .ref d, .int (Int32.ofNat q), .int (Int32.ofNat len)] 7)) (T7.setTop (mkF m 3 #[.val (.ref b), .val (.int (Int32.ofNat (o + (i + 1)))), .val (.ref d), .val (.int (Int32.ofNat (q + (i + 1)))), .val (.int (Int32.ofNat len)), .val (.int (Int32.ofNat (i + 1))), .val (.int (cv A (o + i)))] [])) := by
        have := c9
        rw [succ32, succ32, succ32] at this
        exact this
      exact ih (i + 1) (by omega) _ (Or.inr ⟨_, rfl, rfl⟩) T7 _ (by rw [copyLocs_step, ← List.append_assoc]; exact X7) (pl.trans p7) (fl.step (by omega) hlt (by simp)) c10
  obtain ⟨T9, B9, z9, X9, p9, f9, g9⟩ := loop len 0 (by omega) .unset (Or.inl rfl) s₁ B (by simpa [copyLocs] using X0) ⟨hB0.1, fun _ _ => rfl, rfl⟩ (Laid.zero _ _ _) c2
  have c11 : Steps p.tables e below (s₁.setTop (entryFrame m #[.ref b, .int (Int32.ofNat o), .ref d, .int (Int32.ofNat q), .int (Int32.ofNat len)] 7)) (T9.setTop (mkF m 46 #[.val (.ref b), .val (.int (Int32.ofNat (o + len))), .val (.ref d), .val (.int (Int32.ofNat (q + len))), .val (.int (Int32.ofNat len)), .val (.int (Int32.ofNat len)), z9] [.int (Int32.ofNat len)])) := g9.trans (by
    refine XS.iload X9.here hexec rfl (hb hbytes d3) rfl ?_
    refine XS.iload X9.here hexec rfl (hb hbytes d5) rfl ?_
    refine XS.icmpYes X9.here hexec rfl (pc0 := 7) rfl (hb hbytes d7) rfl (ii_ge_t (nlt32 (by omega) (Nat.le_refl _))) (by decide) rfl ?_
    refine XS.iload X9.here hexec rfl (hb hbytes d44) rfl ?_
    exact Steps.refl _)
  exact ⟨T9, some (.int (Int32.ofNat len)), _, _, _, X9, by simp, rfl, rfl, (fun h => by cases h), ⟨rfl, B9, p9.from hh0, f9⟩, fun fs hl => c11.trans (X9.ireturnOut hexec hret rfl (Or.inl rfl) (hb hbytes d46) hl)⟩
end Cmp5
namespace Cmp3
def yN : MethodName := ⟨"java/lang/StringUTF16", "compress", "([CII)[B"⟩
abbrev yB : ByteArray := jdk_52_method_16_code
theorem d0 : decode yB 0 = .ok (.iload_n 2, 1) := by decide +kernel
theorem d1 : decode yB 1 = .ok (.newarray .byte, 2) := by decide +kernel
theorem d3 : decode yB 3 = .ok (.astore_n 3, 1) := by decide +kernel
theorem d4 : decode yB 4 = .ok (.aload_n 0, 1) := by decide +kernel
theorem d5 : decode yB 5 = .ok (.iload_n 1, 1) := by decide +kernel
theorem d6 : decode yB 6 = .ok (.aload_n 3, 1) := by decide +kernel
theorem d7 : decode yB 7 = .ok (.iconst 0, 1) := by decide +kernel
theorem d8 : decode yB 8 = .ok (.iload_n 2, 1) := by decide +kernel
theorem d9 : decode yB 9 = .ok (.invokestatic 115, 3) := by decide +kernel
theorem d12 : decode yB 12 = .ok (.istore 4, 2) := by decide +kernel
theorem d14 : decode yB 14 = .ok (.iload 4, 2) := by decide +kernel
theorem d16 : decode yB 16 = .ok (.iload_n 2, 1) := by decide +kernel
theorem d17 : decode yB 17 = .ok (.if_icmp (.eq) 40, 3) := by decide +kernel
theorem d57 : decode yB 57 = .ok (.aload_n 3, 1) := by decide +kernel
theorem d58 : decode yB 58 = .ok (.areturn, 1) := by decide +kernel
def site : List Cond := [.arrayClass .byte, Cmp5.tab] ++ staticW U16 115 Cmp5.yN
def tab : Cond := tabOf yN yB 6 (some (.array .byte)) site
def P (b : Addr) (A : Cell) (o len : Nat) (args : Array Value) (s : State) : Prop := args = #[.ref b, .int (Int32.ofNat o), .int (Int32.ofNat len)] ∧ Ch b A s ∧ o + len ≤ A.slots.size ∧ len ≤ 536870912 ∧ ∀ i, i < len → ¬ 255 < cv A (o + i)
def E (b : Addr) (A : Cell) (o len : Nat) (r : Option Value) (s u : State) : Prop := NewArr .byte "[B" len (fun j => .int (lo8 (cv A (o + j)))) r s u ∧ u.heap.size = s.heap.size + 1
/-- no char of the range above 255: a new byte[] of their low bytes -/
theorem law (l : Launch) (b : Addr) (A : Cell) (o len : Nat) : Law l yN 3 3 1 18 yB 6 (some (.array .byte)) site (P b A o len) (E b A o len) [] 1 len := by
  refine Law.of_walk (plainFor_of_name (by decide +kernel)) (by decide +kernel) (by decide +kernel) (by decide) (fun _ _ h => by rw [h.1]; rfl) (fun _ U U' hal hh h => ⟨h.1, h.2.1.mv hal hh, h.2.2⟩) (fun r U U' V V' h1 hal h2 h => ⟨NewArr.mv r U U' V V' h1 hal h2 h.1, by rw [h1, h2]; exact h.2⟩) ?_
  intro p e s m args below meth c s₁ X0 hexec hbytes hml hret hlk hnm hown hh0 W hP
  obtain ⟨rfl, hA, l1, l2, hp⟩ := hP
  have a31 := hA.1.2.2.2
  have c1 : Steps p.tables e below (s₁.setTop (entryFrame m #[.ref b, .int (Int32.ofNat o), .int (Int32.ofNat len)] 6)) (s₁.setTop (mkF m 0 #[.val (.ref b), .val (.int (Int32.ofNat o)), .val (.int (Int32.ofNat len)), .unset, .unset, .unset] [])) := entry rfl
  have c2 : Steps p.tables e below (s₁.setTop (entryFrame m #[.ref b, .int (Int32.ofNat o), .int (Int32.ofNat len)] 6)) (s₁.setTop (mkF m 1 #[.val (.ref b), .val (.int (Int32.ofNat o)), .val (.int (Int32.ofNat len)), .unset, .unset, .unset] [.int (Int32.ofNat len)])) := c1.trans (by
    refine XS.iloadN X0.here hexec rfl (hb hbytes d0) rfl ?_
    exact Steps.refl _)
  obtain ⟨T3, B3, X3, ba3, bs3, bv3, bh3, bf3, st3⟩ := X0.anew hexec (atype := .byte) (wk W (.arrayClass .byte)) rfl (by show len * 1 ≤ _; omega) (by omega) (g := (mkF m 1 #[.val (.ref b), .val (.int (Int32.ofNat o)), .val (.int (Int32.ofNat len)), .unset, .unset, .unset] [.int (Int32.ofNat len)])) rfl (hb hbytes d1) (rest := []) rfl (Nat.le_refl _) (by show 0 + len ≤ len; omega)
  rw [hh0] at ba3 st3
  have kp3 : XT.Kept s T3 := (XT.Kept.of_eq hh0).push bh3
  have hA3 := hA.keep X3.warmed.alike (kp3 _ _ hA.1.1)
  have hne : b ≠ s.heap.size := hA.1.ne
  have c4 : Steps p.tables e below (s₁.setTop (entryFrame m #[.ref b, .int (Int32.ofNat o), .int (Int32.ofNat len)] 6)) (T3.setTop (mkF m 3 #[.val (.ref b), .val (.int (Int32.ofNat o)), .val (.int (Int32.ofNat len)), .unset, .unset, .unset] [.ref s.heap.size])) := c2.trans (st3 _ (Steps.refl _))
  have c5 : Steps p.tables e below (s₁.setTop (entryFrame m #[.ref b, .int (Int32.ofNat o), .int (Int32.ofNat len)] 6)) (T3.setTop (mkF m 9 #[.val (.ref b), .val (.int (Int32.ofNat o)), .val (.int (Int32.ofNat len)), .val (.ref s.heap.size), .unset, .unset] [.int (Int32.ofNat len), .int 0, .ref s.heap.size, .int (Int32.ofNat o), .ref b])) := c4.trans (by
    refine XS.astoreN X3.here hexec rfl (hb hbytes d3) rfl rfl rfl ?_
    refine XS.aloadN X3.here hexec rfl (hb hbytes d4) rfl rfl ?_
    refine XS.iloadN X3.here hexec rfl (hb hbytes d5) rfl ?_
    refine XS.aloadN X3.here hexec rfl (hb hbytes d6) rfl rfl ?_
    refine iconstV X3.here hexec rfl 0 (hb hbytes d7) (by decide) ?_
    refine XS.iloadN X3.here hexec rfl (hb hbytes d8) rfl ?_
    exact Steps.refl _)
  obtain ⟨v6, T6, X6, E6, g6⟩ := X3.callS hexec (Cmp5.law l b A s.heap.size B3 o 0 len) hown (wks W (staticW U16 115 Cmp5.yN)) (wk W Cmp5.tab) (W := 0) (Nat.le_of_ble_eq_true rfl) (Nat.le_of_ble_eq_true rfl) (Nat.le_refl _) (by show 0 + len + 0 ≤ len; omega) (g := (mkF m 9 #[.val (.ref b), .val (.int (Int32.ofNat o)), .val (.int (Int32.ofNat len)), .val (.ref s.heap.size), .unset, .unset] [.int (Int32.ofNat len), .int (Int32.ofNat 0), .ref s.heap.size, .int (Int32.ofNat o), .ref b])) rfl (by rw [hml]; rfl) c5 (argsL := [.ref b, .int (Int32.ofNat o), .ref s.heap.size, .int (Int32.ofNat 0), .int (Int32.ofNat len)]) (rest := []) rfl rfl (by show 2 * 0 + 0 ≤ _; decide) (hb hbytes d9) (⟨rfl, hA3, ba3, hne, l1, by rw [bs3]; simp, hp⟩)
  obtain ⟨rfl, B6, p6, f6⟩ := E6
  have c7 : Steps p.tables e below (s₁.setTop (entryFrame m #[.ref b, .int (Int32.ofNat o), .int (Int32.ofNat len)] 6)) (T6.setTop (mkF m 12 #[.val (.ref b), .val (.int (Int32.ofNat o)), .val (.int (Int32.ofNat len)), .val (.ref s.heap.size), .unset, .unset] [.int (Int32.ofNat len)])) := g6
  have c8 : Steps p.tables e below (s₁.setTop (entryFrame m #[.ref b, .int (Int32.ofNat o), .int (Int32.ofNat len)] 6)) (T6.setTop (mkF m 58 #[.val (.ref b), .val (.int (Int32.ofNat o)), .val (.int (Int32.ofNat len)), .val (.ref s.heap.size), .val (.int (Int32.ofNat len)), .unset] [.ref s.heap.size])) := c7.trans (by
    refine XS.istore X6.here hexec rfl (hb hbytes d12) rfl rfl ?_
    refine XS.iload X6.here hexec rfl (hb hbytes d14) rfl ?_
    refine XS.iloadN X6.here hexec rfl (hb hbytes d16) rfl ?_
    refine XS.icmpYes X6.here hexec rfl (pc0 := 17) rfl (hb hbytes d17) rfl (ii_eq_t rfl) (by decide) rfl ?_
    refine XS.aloadN X6.here hexec rfl (hb hbytes d57) rfl rfl ?_
    exact Steps.refl _)
  have X8 := X6.wide (L' := []) (cells' := 1) (slots' := len) (fun x hx hlt => by
    simp only [List.nil_append, copyLocs, List.mem_map, List.mem_range] at hx
    obtain ⟨i, -, rfl⟩ := hx
    exact absurd hlt (Nat.lt_irrefl _)) (Nat.le_refl _) (by omega)
  exact ⟨T6, some (.ref s.heap.size), _, _, _, X8, rfl, rfl, rfl, (fun h => by cases h), ⟨⟨rfl, B6, ba3.like (X3.warmed.alike.symm.trans X6.warmed.alike) p6.1 f6.1 f6.2.1 f6.2.2.1, f6.2.1.trans bv3, by rw [X6.warmed.alike.findClass, f6.1]; exact bf3, by rw [f6.2.2.1, bs3]; simp, fun j hj => by rw [f6.2.2.2 j, if_pos (by omega)]; rfl, kp3.put p6 (Nat.le_refl _)⟩, by rw [p6.2.2, bh3, hh0]; simp⟩, fun fs hl => c8.trans (X8.areturnOut hexec rfl hret rfl (hb hbytes d58) hl)⟩
end Cmp3
namespace CodL
def yN : MethodName := ⟨"java/lang/StringUTF16", "coderFromArrayLen", "([BI)B"⟩
abbrev yB : ByteArray := jdk_52_method_15_code
theorem d0 : decode yB 0 = .ok (.iload_n 1, 1) := by decide +kernel
theorem d1 : decode yB 1 = .ok (.aload_n 0, 1) := by decide +kernel
theorem d2 : decode yB 2 = .ok (.arraylength, 1) := by decide +kernel
theorem d3 : decode yB 3 = .ok (.isub, 1) := by decide +kernel
theorem d4 : decode yB 4 = .ok (.bipush 31, 2) := by decide +kernel
theorem d6 : decode yB 6 = .ok (.iushr, 1) := by decide +kernel
theorem d7 : decode yB 7 = .ok (.i2b, 1) := by decide +kernel
theorem d8 : decode yB 8 = .ok (.ireturn, 1) := by decide +kernel
def site : List Cond := []
def tab : Cond := tabOf yN yB 2 (some .byte) site
def P (d : Addr) (B : Cell) (args : Array Value) (s : State) : Prop := args = #[.ref d, .int (Int32.ofNat B.slots.size)] ∧ Arr .byte d B s
def E (r : Option Value) (s u : State) : Prop := XT.PureE (some (.int 0)) r s u
/-- an array as long as the number of chars: LATIN1 -/
theorem law (l : Launch) (d : Addr) (B : Cell) : Law l yN 2 2 0 0 yB 2 (some .byte) site (P d B) E [] 0 0 := by
  refine Law.of_walk (plainFor_of_name (by decide +kernel)) (by decide +kernel) (by decide +kernel) (by decide) (fun _ _ h => by rw [h.1]; rfl) (fun _ U U' hal hh h => ⟨h.1, h.2.mv hal hh⟩) (fun r U U' V V' h1 hal h2 h => XT.PureE.mv r U U' V V' h1 hal h2 h) ?_
  intro p e s m args below meth c s₁ X0 hexec hbytes hml hret hlk hnm hown hh0 W hP
  obtain ⟨rfl, hB⟩ := hP
  have hB0 := hB.mv X0.warmed.alike hh0
  have c1 : Steps p.tables e below (s₁.setTop (entryFrame m #[.ref d, .int (Int32.ofNat B.slots.size)] 2)) (s₁.setTop (mkF m 0 #[.val (.ref d), .val (.int (Int32.ofNat B.slots.size))] [])) := entry rfl
  have c2 : Steps p.tables e below (s₁.setTop (entryFrame m #[.ref d, .int (Int32.ofNat B.slots.size)] 2)) (s₁.setTop (mkF m 2 #[.val (.ref d), .val (.int (Int32.ofNat B.slots.size))] [.ref d, .int (Int32.ofNat B.slots.size)])) := c1.trans (by
    refine XS.iloadN X0.here hexec rfl (hb hbytes d0) rfl ?_
    refine XS.aloadN X0.here hexec rfl (hb hbytes d1) rfl rfl ?_
    exact Steps.refl _)
  have c3 : Steps p.tables e below (s₁.setTop (entryFrame m #[.ref d, .int (Int32.ofNat B.slots.size)] 2)) (s₁.setTop (mkF m 8 #[.val (.ref d), .val (.int (Int32.ofNat B.slots.size))] [.int (lo8 (ushr (Int32.ofNat B.slots.size - Int32.ofNat B.slots.size) 31))])) := c2.trans (by
    refine X0.alen hexec hB0 rfl rfl (hb hbytes d2) ?_
    refine XS.isub X0.here hexec rfl (hb hbytes d3) rfl ?_
    refine bipushV X0.here hexec rfl 31 (hb hbytes d4) (by decide) ?_
    refine iushr X0.here hexec rfl (hb hbytes d6) rfl ?_
    refine i2b X0.here hexec rfl (hb hbytes d7) rfl ?_
    exact Steps.refl _)
  have e0 : lo8 (ushr (Int32.ofNat B.slots.size - Int32.ofNat B.slots.size) 31) = 0 := by rw [Int32.sub_self]; decide
  rw [e0] at c3
  exact ⟨s₁, some (.int 0), _, _, _, X0, rfl, rfl, rfl, (fun h => by cases h), ⟨rfl, hh0⟩, fun fs hl => c3.trans (X0.ireturnOut hexec hret rfl (Or.inr (Or.inr (Or.inl rfl))) (hb hbytes d8) hl)⟩
end CodL
/-- the String at a is Latin-1 over a new byte[] (the heap's one new cell): the low bytes of the len chars of A from o on; every cell but a is kept -/
def Got (a : Addr) (D : Cell) (fV fC : Field) (A : Cell) (o len : Nat) (r : Option Value) (s u : State) : Prop := r = none ∧ ∃ D' V : Cell, Blank "java/lang/String" a D' u ∧ Same D D' [fV.slot, fC.slot] ∧ D'.slots[fV.slot]? = some (.ref s.heap.size) ∧ D'.slots[fC.slot]? = some (.int 0) ∧ Arr .byte s.heap.size V u ∧ V.vm = .none ∧ u.vm.findClass "[B" = some V.cls ∧ V.slots.size = len ∧ (∀ j, j < len → V.slots[j]? = some (.int (lo8 (cv A (o + j))))) ∧ (∀ (y : Addr) (c : Cell), y ≠ a → s.heap[y]? = some c → u.heap[y]? = some c) ∧ u.heap.size = s.heap.size + 1
theorem Got.mv {a : Addr} {D A : Cell} {fV fC : Field} {o len : Nat} : ∀ r (U U' V V' : State), U'.heap = U.heap → V.vm.Alike V'.vm → V'.heap = V.heap → Got a D fV fC A o len r U V → Got a D fV fC A o len r U' V' :=
  fun r U U' V V' h1 hal h2 ⟨e0, D', X, a1, a2, a3, a4, a5, a6, a7, a8, a9, a10, a11⟩ => ⟨e0, D', X, a1.mv hal h2, a2, by rw [h1]; exact a3, a4, by rw [h1]; exact a5.mv hal h2, a6, by rw [hal.findClass]; exact a7, a8, a9, by rw [h1, h2]; exact a10, by rw [h1, h2]; exact a11⟩
namespace New4
def yN : MethodName := ⟨"java/lang/String", "<init>", "([CIILjava/lang/Void;)V"⟩
abbrev yB : ByteArray := jdk_42_method_149_code
theorem d0 : decode yB 0 = .ok (.aload_n 0, 1) := by decide +kernel
theorem d1 : decode yB 1 = .ok (.invokespecial 1, 3) := by decide +kernel
theorem d4 : decode yB 4 = .ok (.iload_n 3, 1) := by decide +kernel
theorem d5 : decode yB 5 = .ok (.ifCond (.ne) 22, 3) := by decide +kernel
theorem d27 : decode yB 27 = .ok (.getstatic 38, 3) := by decide +kernel
theorem d30 : decode yB 30 = .ok (.ifCond (.eq) 28, 3) := by decide +kernel
theorem d33 : decode yB 33 = .ok (.aload_n 1, 1) := by decide +kernel
theorem d34 : decode yB 34 = .ok (.iload_n 2, 1) := by decide +kernel
theorem d35 : decode yB 35 = .ok (.iload_n 3, 1) := by decide +kernel
theorem d36 : decode yB 36 = .ok (.invokestatic 177, 3) := by decide +kernel
theorem d39 : decode yB 39 = .ok (.astore 5, 2) := by decide +kernel
theorem d41 : decode yB 41 = .ok (.aload_n 0, 1) := by decide +kernel
theorem d42 : decode yB 42 = .ok (.aload 5, 2) := by decide +kernel
theorem d44 : decode yB 44 = .ok (.iload_n 3, 1) := by decide +kernel
theorem d45 : decode yB 45 = .ok (.invokestatic 47, 3) := by decide +kernel
theorem d48 : decode yB 48 = .ok (.putfield 15, 3) := by decide +kernel
theorem d51 : decode yB 51 = .ok (.aload_n 0, 1) := by decide +kernel
theorem d52 : decode yB 52 = .ok (.aload 5, 2) := by decide +kernel
theorem d54 : decode yB 54 = .ok (.putfield 9, 3) := by decide +kernel
theorem d57 : decode yB 57 = .ok (.return_, 1) := by decide +kernel
def site : List Cond := [.fieldLink "java/lang/String" 38 "java/lang/String" "COMPACT_STRINGS" "Z", Cmp3.tab, CodL.tab, .laysFinal "java/lang/String" "java/lang/String" "value" "[B", .fieldLink "java/lang/String" 9 "java/lang/String" "value" "[B", .laysFinal "java/lang/String" "java/lang/String" "coder" "B", .fieldLink "java/lang/String" 15 "java/lang/String" "coder" "B"] ++ objW "java/lang/String" 1 ++ staticW "java/lang/String" 177 Cmp3.yN ++ staticW "java/lang/String" 47 CodL.yN
def tab : Cond := tabOf yN yB 6 none site
def P (a : Addr) (D : Cell) (fV fC : Field) (b : Addr) (A : Cell) (z : Int32) (o len : Nat) (args : Array Value) (s : State) : Prop := args = #[.ref a, .ref b, .int (Int32.ofNat o), .int (Int32.ofNat len), .null] ∧ Blank "java/lang/String" a D s ∧ Found "java/lang/String" "value" "[B" fV s ∧ Found "java/lang/String" "coder" "B" fC s ∧ Ch b A s ∧ StaticIs s "java/lang/String" "COMPACT_STRINGS" "Z" (.int z) ∧ ¬ z = 0 ∧ 0 < len ∧ o + len ≤ A.slots.size ∧ len ≤ 536870912 ∧ ∀ i, i < len → ¬ 255 < cv A (o + i)
def E (a : Addr) (D : Cell) (fV fC : Field) (A : Cell) (o len : Nat) (r : Option Value) (s u : State) : Prop := Got a D fV fC A o len r s u
/-- len > 0, no char of the range above 255: a Latin-1 String of their low bytes -/
theorem law (l : Launch) (a : Addr) (D : Cell) (fV fC : Field) (b : Addr) (A : Cell) (z : Int32) (o len : Nat) : Law l yN 5 4 2 35 yB 6 none site (P a D fV fC b A z o len) (E a D fV fC A o len) [⟨a, fC.slot⟩, ⟨a, fV.slot⟩] 1 len := by
  refine Law.of_walk (plainFor_of_name (by decide +kernel)) (by decide +kernel) (by decide +kernel) (by decide) (fun _ _ h => by rw [h.1]; rfl) (fun _ U U' hal hh h => ⟨h.1, h.2.1.mv hal hh, h.2.2.1.al hal, h.2.2.2.1.al hal, h.2.2.2.2.1.mv hal hh, h.2.2.2.2.2.1.there hal hh, h.2.2.2.2.2.2⟩) (fun r U U' V V' h1 hal h2 h => Got.mv r U U' V V' h1 hal h2 h) ?_
  intro p e s m args below meth c s₁ X0 hexec hbytes hml hret hlk hnm hown hh0 W hP
  obtain ⟨rfl, hB, f1, f2, hA, s1, hz, l0, l1, l2, hp⟩ := hP
  have a31 := hA.1.2.2.2
  have c1 : Steps p.tables e below (s₁.setTop (entryFrame m #[.ref a, .ref b, .int (Int32.ofNat o), .int (Int32.ofNat len), .null] 6)) (s₁.setTop (mkF m 0 #[.val (.ref a), .val (.ref b), .val (.int (Int32.ofNat o)), .val (.int (Int32.ofNat len)), .val .null, .unset] [])) := entry rfl
  have c2 : Steps p.tables e below (s₁.setTop (entryFrame m #[.ref a, .ref b, .int (Int32.ofNat o), .int (Int32.ofNat len), .null] 6)) (s₁.setTop (mkF m 1 #[.val (.ref a), .val (.ref b), .val (.int (Int32.ofNat o)), .val (.int (Int32.ofNat len)), .val .null, .unset] [.ref a])) := c1.trans (by
    refine XS.aloadN X0.here hexec rfl (hb hbytes d0) rfl rfl ?_
    exact Steps.refl _)
  obtain ⟨T3, X3, q3, st3⟩ := X0.oinit hexec hown (wks W (objW "java/lang/String" 1)) (g := (mkF m 1 #[.val (.ref a), .val (.ref b), .val (.int (Int32.ofNat o)), .val (.int (Int32.ofNat len)), .val .null, .unset] [.ref a])) rfl (by rw [hml]; rfl) (rest := []) rfl (hb hbytes d1) (W := 0) (by show 2 * 0 + 0 ≤ _; decide) (Nat.le_of_ble_eq_true rfl) (Nat.le_of_ble_eq_true rfl)
  have hh3 := q3.trans hh0
  have c4 : Steps p.tables e below (s₁.setTop (entryFrame m #[.ref a, .ref b, .int (Int32.ofNat o), .int (Int32.ofNat len), .null] 6)) (T3.setTop (mkF m 27 #[.val (.ref a), .val (.ref b), .val (.int (Int32.ofNat o)), .val (.int (Int32.ofNat len)), .val .null, .unset] [])) := (c2.trans (st3 _ (Steps.refl _))).trans (by
    refine XS.iloadN X3.here hexec rfl (hb hbytes d4) rfl ?_
    refine XS.ifYes X3.here hexec rfl (pc0 := 5) rfl (hb hbytes d5) rfl (i0_ne_t (nz32 (by omega) l0)) (by decide) rfl ?_
    exact Steps.refl _)
  obtain ⟨T5, X5, q5, st5⟩ := X3.sget hexec hown (wk W (.fieldLink "java/lang/String" 38 "java/lang/String" "COMPACT_STRINGS" "Z")) s1 (fun _ _ h => by rw [hh3]; exact h) (g := (mkF m 27 #[.val (.ref a), .val (.ref b), .val (.int (Int32.ofNat o)), .val (.int (Int32.ofNat len)), .val .null, .unset] [])) rfl (hb hbytes d27)
  have hh5 := q5.trans hh3
  have c6 : Steps p.tables e below (s₁.setTop (entryFrame m #[.ref a, .ref b, .int (Int32.ofNat o), .int (Int32.ofNat len), .null] 6)) (T5.setTop (mkF m 30 #[.val (.ref a), .val (.ref b), .val (.int (Int32.ofNat o)), .val (.int (Int32.ofNat len)), .val .null, .unset] [.int z])) := c4.trans (st5 _ (Steps.refl _))
  have c7 : Steps p.tables e below (s₁.setTop (entryFrame m #[.ref a, .ref b, .int (Int32.ofNat o), .int (Int32.ofNat len), .null] 6)) (T5.setTop (mkF m 36 #[.val (.ref a), .val (.ref b), .val (.int (Int32.ofNat o)), .val (.int (Int32.ofNat len)), .val .null, .unset] [.int (Int32.ofNat len), .int (Int32.ofNat o), .ref b])) := c6.trans (by
    refine XS.ifNo X5.here hexec rfl (hb hbytes d30) rfl (i0_eq_f hz) ?_
    refine XS.aloadN X5.here hexec rfl (hb hbytes d33) rfl rfl ?_
    refine XS.iloadN X5.here hexec rfl (hb hbytes d34) rfl ?_
    refine XS.iloadN X5.here hexec rfl (hb hbytes d35) rfl ?_
    exact Steps.refl _)
  obtain ⟨v8, T8, X8, E8, g8⟩ := X5.callS hexec (Cmp3.law l b A o len) hown (wks W (staticW "java/lang/String" 177 Cmp3.yN)) (wk W Cmp3.tab) (W := 0) (Nat.le_of_ble_eq_true rfl) (Nat.le_of_ble_eq_true rfl) (Nat.le_refl _) (by show 0 + len ≤ len; omega) (g := (mkF m 36 #[.val (.ref a), .val (.ref b), .val (.int (Int32.ofNat o)), .val (.int (Int32.ofNat len)), .val .null, .unset] [.int (Int32.ofNat len), .int (Int32.ofNat o), .ref b])) rfl (by rw [hml]; rfl) c7 (argsL := [.ref b, .int (Int32.ofNat o), .int (Int32.ofNat len)]) (rest := []) rfl rfl (by show 2 * 0 + 0 ≤ _; decide) (hb hbytes d36) (⟨rfl, hA.mv X5.warmed.alike hh5, l1, l2, hp⟩)
  obtain ⟨e8, z8⟩ := E8
  obtain ⟨rfl, N, n1, n2, n3, n4, n5, n6⟩ := NewArr.mv _ T5 s _ _ hh5.symm (Vm.Alike.refl _) rfl e8
  rw [hh5] at z8
  have hB1 := hB.keep X8.warmed.alike (n6 _ _ hB.1)
  have hne : s.heap.size ≠ a := (Nat.ne_of_lt (Array.getElem?_eq_some_iff.mp hB.1).1).symm
  have c9 : Steps p.tables e below (s₁.setTop (entryFrame m #[.ref a, .ref b, .int (Int32.ofNat o), .int (Int32.ofNat len), .null] 6)) (T8.setTop (mkF m 39 #[.val (.ref a), .val (.ref b), .val (.int (Int32.ofNat o)), .val (.int (Int32.ofNat len)), .val .null, .unset] [.ref s.heap.size])) := g8
  have c10 : Steps p.tables e below (s₁.setTop (entryFrame m #[.ref a, .ref b, .int (Int32.ofNat o), .int (Int32.ofNat len), .null] 6)) (T8.setTop (mkF m 45 #[.val (.ref a), .val (.ref b), .val (.int (Int32.ofNat o)), .val (.int (Int32.ofNat len)), .val .null, .val (.ref s.heap.size)] [.int (Int32.ofNat N.slots.size), .ref s.heap.size, .ref a])) := by
    have hc : Steps p.tables e below (s₁.setTop (entryFrame m #[.ref a, .ref b, .int (Int32.ofNat o), .int (Int32.ofNat len), .null] 6)) (T8.setTop (mkF m 45 #[.val (.ref a), .val (.ref b), .val (.int (Int32.ofNat o)), .val (.int (Int32.ofNat len)), .val .null, .val (.ref s.heap.size)] [.int (Int32.ofNat len), .ref s.heap.size, .ref a])) := c9.trans (by
      refine XS.astore X8.here hexec rfl (hb hbytes d39) rfl rfl rfl ?_
      refine XS.aloadN X8.here hexec rfl (hb hbytes d41) rfl rfl ?_
      refine XS.aload X8.here hexec rfl (hb hbytes d42) rfl rfl ?_
      refine XS.iloadN X8.here hexec rfl (hb hbytes d44) rfl ?_
      exact Steps.refl _)
    rw [n4]; exact hc
  obtain ⟨v11, T11, X11, E11, g11⟩ := X8.callS hexec (CodL.law l s.heap.size N) hown (wks W (staticW "java/lang/String" 47 CodL.yN)) (wk W CodL.tab) (W := 1) (Nat.le_of_ble_eq_true rfl) (Nat.le_of_ble_eq_true rfl) (Nat.le_refl _) (by show 0 + len + 0 ≤ len; omega) (g := (mkF m 45 #[.val (.ref a), .val (.ref b), .val (.int (Int32.ofNat o)), .val (.int (Int32.ofNat len)), .val .null, .val (.ref s.heap.size)] [.int (Int32.ofNat N.slots.size), .ref s.heap.size, .ref a])) rfl (by rw [hml]; rfl) c10 (argsL := [.ref s.heap.size, .int (Int32.ofNat N.slots.size)]) (rest := [.ref a]) rfl rfl (by show 2 * 0 + (1 + 0) ≤ _; decide) (hb hbytes d45) (⟨rfl, n1⟩)
  obtain ⟨rfl, q11⟩ := E11
  have hB11 := hB1.mv (X8.warmed.alike.symm.trans X11.warmed.alike) q11
  have c12 : Steps p.tables e below (s₁.setTop (entryFrame m #[.ref a, .ref b, .int (Int32.ofNat o), .int (Int32.ofNat len), .null] 6)) (T11.setTop (mkF m 48 #[.val (.ref a), .val (.ref b), .val (.int (Int32.ofNat o)), .val (.int (Int32.ofNat len)), .val .null, .val (.ref s.heap.size)] [.int 0, .ref a])) := g11
  obtain ⟨T13, X13, p13, bl13, sl13, st13⟩ := X11.finit hexec hown (wk W (.fieldLink "java/lang/String" 15 "java/lang/String" "coder" "B")) (Or.inr ⟨_, (wk W (.laysFinal "java/lang/String" "java/lang/String" "coder" "B"))⟩) (Or.inl ⟨rfl, hnm⟩) f2 (Or.inl rfl) hB11 (t := .byte) (by decide +kernel) rfl (g := (mkF m 48 #[.val (.ref a), .val (.ref b), .val (.int (Int32.ofNat o)), .val (.int (Int32.ofNat len)), .val .null, .val (.ref s.heap.size)] [.int 0, .ref a])) rfl (rest := []) rfl (hb hbytes d48)
  have c14 : Steps p.tables e below (s₁.setTop (entryFrame m #[.ref a, .ref b, .int (Int32.ofNat o), .int (Int32.ofNat len), .null] 6)) (T13.setTop (mkF m 54 #[.val (.ref a), .val (.ref b), .val (.int (Int32.ofNat o)), .val (.int (Int32.ofNat len)), .val .null, .val (.ref s.heap.size)] [.ref s.heap.size, .ref a])) := (c12.trans (st13 _ (Steps.refl _))).trans (by
    refine XS.aloadN X13.here hexec rfl (hb hbytes d51) rfl rfl ?_
    refine XS.aload X13.here hexec rfl (hb hbytes d52) rfl rfl ?_
    exact Steps.refl _)
  obtain ⟨T15, X15, p15, bl15, sl15, st15⟩ := X13.finit hexec hown (wk W (.fieldLink "java/lang/String" 9 "java/lang/String" "value" "[B")) (Or.inr ⟨_, (wk W (.laysFinal "java/lang/String" "java/lang/String" "value" "[B"))⟩) (Or.inl ⟨rfl, hnm⟩) f1 (Or.inl rfl) bl13 (t := (.array .byte)) (by decide +kernel) rfl (g := (mkF m 54 #[.val (.ref a), .val (.ref b), .val (.int (Int32.ofNat o)), .val (.int (Int32.ofNat len)), .val .null, .val (.ref s.heap.size)] [.ref s.heap.size, .ref a])) rfl (rest := []) rfl (hb hbytes d54)
  have c16 : Steps p.tables e below (s₁.setTop (entryFrame m #[.ref a, .ref b, .int (Int32.ofNat o), .int (Int32.ofNat len), .null] 6)) (T15.setTop (mkF m 57 #[.val (.ref a), .val (.ref b), .val (.int (Int32.ofNat o)), .val (.int (Int32.ofNat len)), .val .null, .val (.ref s.heap.size)] [])) := c14.trans (st15 _ (Steps.refl _))
  have ap := apart (Or.inr ⟨_, (wk W (.laysFinal "java/lang/String" "java/lang/String" "value" "[B"))⟩) (Or.inr ⟨_, (wk W (.laysFinal "java/lang/String" "java/lang/String" "coder" "B"))⟩) f1 f2 (t₁ := .array .byte) (t₂ := .byte) (by decide +kernel) (by decide +kernel) (by decide)
  have al := X8.warmed.alike.symm.trans X15.warmed.alike
  have n7 : T11.heap[s.heap.size]? = some N := by rw [q11]; exact n1.1
  exact ⟨T15, none, _, _, _, X15, by simp, rfl, by omega, (fun _ => rfl), ⟨rfl, _, N, bl15, ((Same.refl D _).set _ (by simp)).set _ (by simp), sl15, (Cell.slots_setSlot_ne _ ap).trans sl13, n1.keep al (p15.other hne (p13.other hne n7)), n2, by rw [al.findClass]; exact n3, n4, n5, fun y c h1 h2 => p15.other h1 (p13.other h1 (by rw [q11]; exact n6 y c h2)), by rw [p15.2.2, p13.2.2, q11]; exact z8⟩, fun fs hl => c16.trans (X15.returnOut hexec hret (hb hbytes d57) hl)⟩
end New4
namespace New1
def yN : MethodName := ⟨"java/lang/String", "<init>", "([C)V"⟩
abbrev yB : ByteArray := jdk_42_method_3_code
theorem d0 : decode yB 0 = .ok (.aload_n 0, 1) := by decide +kernel
theorem d1 : decode yB 1 = .ok (.aload_n 1, 1) := by decide +kernel
theorem d2 : decode yB 2 = .ok (.iconst 0, 1) := by decide +kernel
theorem d3 : decode yB 3 = .ok (.aload_n 1, 1) := by decide +kernel
theorem d4 : decode yB 4 = .ok (.arraylength, 1) := by decide +kernel
theorem d5 : decode yB 5 = .ok (.aconst_null, 1) := by decide +kernel
theorem d6 : decode yB 6 = .ok (.invokespecial 27, 3) := by decide +kernel
theorem d9 : decode yB 9 = .ok (.return_, 1) := by decide +kernel
def site : List Cond := [New4.tab] ++ initW "java/lang/String" 27 New4.yN
def tab : Cond := tabOf yN yB 2 none site
def P (a : Addr) (D : Cell) (fV fC : Field) (b : Addr) (A : Cell) (z : Int32) (args : Array Value) (s : State) : Prop := args = #[.ref a, .ref b] ∧ Blank "java/lang/String" a D s ∧ Found "java/lang/String" "value" "[B" fV s ∧ Found "java/lang/String" "coder" "B" fC s ∧ Ch b A s ∧ StaticIs s "java/lang/String" "COMPACT_STRINGS" "Z" (.int z) ∧ ¬ z = 0 ∧ 0 < A.slots.size ∧ A.slots.size ≤ 536870912 ∧ ∀ i, i < A.slots.size → ¬ 255 < cv A i
def E (a : Addr) (D : Cell) (fV fC : Field) (A : Cell) (r : Option Value) (s u : State) : Prop := Got a D fV fC A 0 A.slots.size r s u
/-- new String(chars), not empty, no char above 255: a Latin-1 String of their low bytes -/
theorem law (l : Launch) (a : Addr) (D : Cell) (fV fC : Field) (b : Addr) (A : Cell) (z : Int32) : Law l yN 2 1 3 52 yB 2 none site (P a D fV fC b A z) (E a D fV fC A) [⟨a, fC.slot⟩, ⟨a, fV.slot⟩] 1 A.slots.size := by
  refine Law.of_walk (plainFor_of_name (by decide +kernel)) (by decide +kernel) (by decide +kernel) (by decide) (fun _ _ h => by rw [h.1]; rfl) (fun _ U U' hal hh h => ⟨h.1, h.2.1.mv hal hh, h.2.2.1.al hal, h.2.2.2.1.al hal, h.2.2.2.2.1.mv hal hh, h.2.2.2.2.2.1.there hal hh, h.2.2.2.2.2.2⟩) (fun r U U' V V' h1 hal h2 h => Got.mv r U U' V V' h1 hal h2 h) ?_
  intro p e s m args below meth c s₁ X0 hexec hbytes hml hret hlk hnm hown hh0 W hP
  obtain ⟨rfl, hB, f1, f2, hA, s1, hz, l0, l2, hp⟩ := hP
  have c1 : Steps p.tables e below (s₁.setTop (entryFrame m #[.ref a, .ref b] 2)) (s₁.setTop (mkF m 0 #[.val (.ref a), .val (.ref b)] [])) := entry rfl
  have c2 : Steps p.tables e below (s₁.setTop (entryFrame m #[.ref a, .ref b] 2)) (s₁.setTop (mkF m 6 #[.val (.ref a), .val (.ref b)] [.null, .int (Int32.ofNat A.slots.size), .int 0, .ref b, .ref a])) := c1.trans (by
    refine XS.aloadN X0.here hexec rfl (hb hbytes d0) rfl rfl ?_
    refine XS.aloadN X0.here hexec rfl (hb hbytes d1) rfl rfl ?_
    refine iconstV X0.here hexec rfl 0 (hb hbytes d2) (by decide) ?_
    refine XS.aloadN X0.here hexec rfl (hb hbytes d3) rfl rfl ?_
    refine X0.alen hexec (hA.1.mv X0.warmed.alike hh0) rfl rfl (hb hbytes d4) ?_
    refine XS.aconstNull X0.here hexec rfl (hb hbytes d5) ?_
    exact Steps.refl _)
  obtain ⟨v3, T3, X3, E3, g3⟩ := X0.callN hexec (New4.law l a D fV fC b A z 0 A.slots.size) rfl hown (wks W (initW "java/lang/String" 27 New4.yN)) (W New4.tab (by simp only [site, List.mem_cons, List.mem_append, true_or, or_true])) (W := 0) (Nat.le_of_ble_eq_true rfl) (Nat.le_of_ble_eq_true rfl) (Nat.le_refl _) (by show 0 + A.slots.size ≤ A.slots.size; omega) (g := (mkF m 6 #[.val (.ref a), .val (.ref b)] [.null, .int (Int32.ofNat A.slots.size), .int (Int32.ofNat 0), .ref b, .ref a])) rfl (by rw [hml]; rfl) c2 (argsL := [.ref b, .int (Int32.ofNat 0), .int (Int32.ofNat A.slots.size), .null]) (rest := []) rfl rfl (by show 2 * 0 + 0 ≤ _; decide) (hb hbytes d6) (⟨rfl, hB.mv X0.warmed.alike hh0, f1.al X0.warmed.alike, f2.al X0.warmed.alike, hA.mv X0.warmed.alike hh0, s1.there X0.warmed.alike hh0, hz, l0, by omega, l2, fun i hi => by rw [Nat.zero_add]; exact hp i hi⟩)
  have e0 := Got.mv _ s₁ s _ _ hh0.symm (Vm.Alike.refl _) rfl E3
  obtain rfl := e0.1
  have c4 : Steps p.tables e below (s₁.setTop (entryFrame m #[.ref a, .ref b] 2)) (T3.setTop (mkF m 9 #[.val (.ref a), .val (.ref b)] [])) := g3
  exact ⟨T3, none, _, _, _, X3, by simp, rfl, by omega, (fun _ => rfl), e0, fun fs hl => c4.trans (X3.returnOut hexec hret (hb hbytes d9) hl)⟩
theorem pays {l : Launch} {R : Room} {p : Program} {e : Env} {below : List Frame} {s : State} {sargs : Array Value} {len W : Nat} (a : Addr) (D : Cell) (fV fC : Field) (b : Addr) (A : Cell) (z : Int32) (htab : tab.before sargs s = true) (hfr : 4 ≤ R.frames) (hlo : W + 65 ≤ R.locals) :
    Back l R p e below s sargs yN len W (fun A₁ a₁ => A₁.cells + 1 ≤ R.cells ∧ A₁.slots + A.slots.size ≤ R.slots ∧ P a D fV fC b A z a₁ A₁.U) (fun A₁ _ v₁ B₁ => E a D fV fC A v₁ A₁.U B₁.U ∧ B₁.locs = A₁.locs ++ [⟨a, fC.slot⟩, ⟨a, fV.slot⟩] ∧ B₁.cells = A₁.cells + 1 ∧ B₁.slots = A₁.slots + A.slots.size) :=
  (law l a D fV fC b A z).pays htab hfr (by omega)
end New1
/-- the byte, read back as charAt reads it, is the char -/
theorem lo8_mask {x : Int32} (h0 : ¬ x < 0) (h1 : ¬ 255 < x) : lo8 x &&& 255 = x := by
  have t : ∀ k : Fin 256, lo8 (Int32.ofNat k.val) &&& 255 = Int32.ofNat k.val := by decide +kernel
  rw [Int32.lt_iff_toInt_lt] at h0 h1
  have e0 : (0 : Int32).toInt = 0 := rfl
  have e1 : (255 : Int32).toInt = 255 := rfl
  obtain ⟨k, hk⟩ : ∃ k : Nat, x.toInt = k := ⟨x.toInt.toNat, by omega⟩
  have hx : x = Int32.ofNat k := Int32.toInt_inj.mp (by rw [hk, Int32.toInt_ofNat_small (by omega)])
  rw [hx]
  exact t ⟨k, by omega⟩
end StrChars
namespace StrChars.Road
open Jvm Sem ClassFile Op Lib Jvm.Stand Jvm.Free Jvm.Free.XT
open Jvm.Lib.Cold (StaticIs)
abbrev ST : String := "java/lang/String"
/-- every table word that New1's law asks, flat -/
abbrev words : List Jvm.Cond := [.code New1.yN New1.yB 2 none, .initialized ST, .methodLink ST 27 New4.yN, .instanceMethod New4.yN,
  .code New4.yN New4.yB 6 none, .fieldLink ST 38 ST "COMPACT_STRINGS" "Z", .laysFinal ST ST "value" "[B", .fieldLink ST 9 ST "value" "[B", .laysFinal ST ST "coder" "B", .fieldLink ST 15 ST "coder" "B",
  .methodLink ST 1 Lib.objectInit, .instanceMethod Lib.objectInit, .code Lib.objectInit ⟨#[0xb1]⟩ 1 none, .methodLink ST 177 Cmp3.yN, .static Cmp3.yN, .methodLink ST 47 CodL.yN, .static CodL.yN,
  .code Cmp3.yN Cmp3.yB 6 (some (.array .byte)), .initialized U16, .arrayClass .byte, .methodLink U16 115 Cmp5.yN, .static Cmp5.yN, .code Cmp5.yN Cmp5.yB 7 (some .int), .code CodL.yN CodL.yB 2 (some .byte)]
theorem tab_of {a : Array Value} {s : State} (h : ∀ w ∈ words, w.before a s = true) : New1.tab.before a s = true := by
  have h5 : Cmp5.tab.before a s = true := unparts (wk h (.code Cmp5.yN Cmp5.yB 7 (some .int))) (wks h (.initialized Cmp5.yN.cls :: Cmp5.site))
  have hc : CodL.tab.before a s = true := unparts (wk h (.code CodL.yN CodL.yB 2 (some .byte))) (wks h (.initialized CodL.yN.cls :: CodL.site))
  have q5 : ∀ w ∈ Cmp5.tab :: words, w.before a s = true := fun w hw => (List.mem_cons.mp hw).elim (fun e => e ▸ h5) (h w)
  have h3 : Cmp3.tab.before a s = true := unparts (wk q5 (.code Cmp3.yN Cmp3.yB 6 (some (.array .byte)))) (wks q5 (.initialized Cmp3.yN.cls :: Cmp3.site))
  have q3 : ∀ w ∈ Cmp3.tab :: CodL.tab :: words, w.before a s = true := fun w hw => (List.mem_cons.mp hw).elim (fun e => e ▸ h3) fun hw => (List.mem_cons.mp hw).elim (fun e => e ▸ hc) (h w)
  have h4 : New4.tab.before a s = true := unparts (wk q3 (.code New4.yN New4.yB 6 none)) (wks q3 (.initialized New4.yN.cls :: New4.site))
  have q4 : ∀ w ∈ New4.tab :: words, w.before a s = true := fun w hw => (List.mem_cons.mp hw).elim (fun e => e ▸ h4) (h w)
  exact unparts (wk q4 (.code New1.yN New1.yB 2 none)) (wks q4 (.initialized New1.yN.cls :: New1.site))
/-- the words ride from the start Z to the walk's own state -/
theorem moved {Z s : State} {a0 args : Array Value} (hZ : Z.Warmed39 s.vm) (hw : ∀ d ∈ words, d.before a0 Z = true) : ∀ d ∈ words, d.before args s = true := fun d hd => by
  have q := hw d hd
  have t : ∀ d ∈ words, d = .arrayClass .byte ∨ (d.onTables && d.keepsFace) = true := by decide +kernel
  rcases t d hd with rfl | t
  · exact RoadKit.mvA hZ q
  · exact RoadKit.mv hZ q t
/-- WHAT COMES BACK, over the tables of the start Z: h the heap at the call, h' behind it -/
def Q (Z : State) (x : Addr) (A : Cell) (h : Heap) (v : Option Value) (h' : Heap) (L : List Loc) : Prop := v = none ∧ (∀ y ∈ L, y.base = x) ∧ RoadKit.Keep h h' [x] ∧ h'.size = h.size + 1 ∧ RoadKit.Exa Z h' x ST ∧ RoadKit.Fld Z h' x ST "value" "[B" (.ref h.size) ∧ RoadKit.Fld Z h' x ST "coder" "B" (.int 0) ∧
  (∃ V : Cell, RoadKit.Arr Z h' h.size V .byte ∧ V.vm = .none ∧ Z.vm.findClass "[B" = some V.cls ∧ V.slots.size = A.slots.size ∧ ∀ j, j < A.slots.size → V.slots[j]? = some (.int (lo8 (cv A j)))) ∧
  ∀ (O n d : String) (w : Value), RoadKit.Fld Z h x O n d w → RoadKit.slotOf Z O n d ≠ RoadKit.slotOf Z ST "value" "[B" → RoadKit.slotOf Z O n d ≠ RoadKit.slotOf Z ST "coder" "B" → RoadKit.Fld Z h' x O n d w
/-- **new String(chars) AT A CALL, IN THE ROAD'S FORM**: for specialBack behind newO: x the fresh String, b the char[] with the cell A -/
theorem back {p : Program} {l : Launch} {e : Env} {R : Room} {s : State} {args : Array Value} {below : List Frame} {len W : Nat} {Z : State} {a0 : Array Value} {h : Heap} (hZ : Z.Warmed39 s.vm) (hw : ∀ d ∈ words, d.before a0 Z = true) {kI : Nat} (wi : (Jvm.Cond.instantiable ST kI).before a0 Z = true)
    {x b : Addr} {A : Cell} {z : Int32} {v0 c0 : Value} (E : RoadKit.Exa Z h x ST) (V : RoadKit.Fld Z h x ST "value" "[B" v0) (C : RoadKit.Fld Z h x ST "coder" "B" c0) (K : RoadKit.Arr Z h b A .char) (hty : Typed .char A) (S : RoadKit.Sta Z h ST "COMPACT_STRINGS" "Z" (.int z)) (hz : ¬ z = 0)
    (l0 : 0 < A.slots.size) (l2 : A.slots.size ≤ 536870912) (hp : ∀ i, i < A.slots.size → ¬ 255 < cv A i) (hfr : 4 ≤ R.frames) (hlo : W + 65 ≤ R.locals) :
    Back l R p e below s args New1.yN len W (fun P a => a = #[.ref x, .ref b] ∧ P.U.heap = h ∧ P.cells + 1 ≤ R.cells ∧ P.slots + A.slots.size ≤ R.slots)
      (fun P _ v B => ∃ L, Q Z x A h v B.U.heap L ∧ B.locs = P.locs ++ L ∧ B.cells = P.cells + 1 ∧ B.slots = P.slots + A.slots.size) := by
  intro m meth c P g ig mk a X hg hsize hdg hW hn hp'
  obtain ⟨rfl, rfl, r1, r2⟩ := hp'
  have al : Z.vm.Alike P.U.vm := hZ.alike.trans X.warmed.alike
  obtain ⟨D, cfV, kV, iV, fV, hD, gV, stV, knV, obV, asV, slV⟩ := id V
  obtain ⟨D', cfC, kC, iC, fC, hD', gC, stC, -, -, asC, slC⟩ := id C
  cases hD.symm.trans hD'
  obtain ⟨D2, kD, e1, e2, e3, e4, e5⟩ := id E
  cases hD.symm.trans e1
  obtain ⟨c2, k2, i1, i2, i3, -⟩ := Cond.instantiable_spec wi
  cases e2.symm.trans i1
  cases e3.symm.trans i2
  obtain ⟨kU, u1, u2⟩ := al.2.2 _ _ e3
  have hB : Blank ST x D P.U := ⟨hD, ⟨knV, fun q hq => by rw [hq] at obV; cases obV⟩, by rw [al.findClass]; exact e2, kU, u1, by rw [u2]; exact i3, by rw [u2]; exact e5 i3⟩
  have F1 : Found ST "value" "[B" fV P.U := ⟨SBG.found_only al ⟨cfV, kV, iV, gV⟩, stV⟩
  have F2 : Found ST "coder" "B" fC P.U := ⟨SBG.found_only al ⟨cfC, kC, iC, gC⟩, stC⟩
  have hA : Ch b A P.U := ⟨⟨K.1, State.isArrayOf_alike al K.2.1, K.2.2, by omega⟩, hty⟩
  have hS : StaticIs P.U ST "COMPACT_STRINGS" "Z" (.int z) := by
    obtain ⟨cfS, iS, kS, fS, st, cS, t1, t2, t3, t4, t5, t6, t7⟩ := S
    exact StaticIs.there (s := { Z with heap := P.U.heap }) ⟨cfS, iS, kS, fS, st, cS, t1, t2, t3, t4, t5, (fun q => by rw [q] at t6; cases t6), t7⟩ al rfl
  obtain ⟨v, B, X', ⟨⟨hv, E', V', q1, q2, q3, q4, q5, q6, q7, q8, q9, q10, q11⟩, hl, hc, hs⟩, st⟩ := New1.pays x D fV fC b A z (tab_of (moved hZ hw)) hfr hlo m meth c P g ig mk _ X hg hsize hdg hW hn ⟨r1, r2, rfl, hB, F1, F2, hA, hS, hz, l0, l2, hp⟩
  have al' : Z.vm.Alike B.U.vm := hZ.alike.trans X'.warmed.alike
  have hsz : E'.slots.size = D.slots.size := by
    obtain ⟨-, -, -, kB, w1, w2, w3⟩ := q1
    obtain ⟨kB', y1, y2⟩ := al'.2.2 _ _ e3
    rw [q2.2.1] at w1
    cases w1.symm.trans y1
    rw [w3, e5 i3, y2]
  refine ⟨v, B, X', ⟨_, ⟨hv, ?_, ⟨by omega, fun y cy hy hn' => q10 y cy (by simpa using hn') hy, fun y cy hy => ?_⟩, q11, ⟨E', _, q1.1, by rw [q2.2.1]; exact e2, by rw [q2.2.1]; exact e3, by rw [q2.1]; exact obV, fun _ => by rw [hsz]; exact e5 i3⟩,
    ⟨E', cfV, kV, iV, fV, q1.1, gV, stV, by rw [q2.1]; exact knV, by rw [q2.1]; exact obV, by rw [q2.2.1]; exact asV, q3⟩, ⟨E', cfC, kC, iC, fC, q1.1, gC, stC, by rw [q2.1]; exact knV, by rw [q2.1]; exact obV, by rw [q2.2.1]; exact asC, q4⟩,
    ⟨V', ⟨q5.1, State.isArrayOf_alike al'.symm q5.2.1, q5.2.2.1⟩, q6, by rw [← al'.findClass]; exact q7, q8, fun j hj => by have := q9 j hj; rwa [Nat.zero_add] at this⟩, fun O n d w F n1 n2 => ?_⟩, hl, hc, hs⟩, st⟩
  · intro y hy
    simp only [List.mem_cons, List.not_mem_nil, or_false] at hy
    rcases hy with rfl | rfl <;> rfl
  · by_cases q : y = x
    · subst q
      cases hD.symm.trans hy
      exact ⟨E', q1.1, q2.2.1, q2.1, hsz⟩
    · exact ⟨cy, q10 y cy q hy, rfl, rfl, rfl⟩
  · obtain ⟨D3, cf, k, i, f, g1, g2, g3, g4, g5, g6, g7⟩ := F
    cases hD.symm.trans g1
    simp only [RoadKit.slotOf, g2, gV, gC, Option.map_some, Option.getD_some] at n1 n2
    exact ⟨E', cf, k, i, f, q1.1, g2, g3, by rw [q2.1]; exact g4, by rw [q2.1]; exact g5, by rw [q2.2.1]; exact g6, by rw [q2.2.2 f.slot (by simp [n1, n2])]; exact g7⟩
end StrChars.Road
namespace StrChars.Road
open Jvm Sem ClassFile Op Lib Jvm.Stand Jvm.Free Jvm.Free.XT
/-- WHAT COMES BACK, the byte[] as a list of values -/
def QA (Z : State) (x : Addr) (zn : Int32) (cs : List Int32) (h : Heap) (v : Option Value) (h' : Heap) (L : List Loc) : Prop := v = none ∧ (∀ y ∈ L, y.base = x) ∧ RoadKit.Keep h h' [x] ∧ h'.size = h.size + 1 ∧ RoadKit.Exa Z h' x ST ∧ RoadKit.Fld Z h' x ST "value" "[B" (.ref h.size) ∧ RoadKit.Fld Z h' x ST "coder" "B" (.int 0) ∧
  (∃ kb, Z.vm.findClass "[B" = some kb ∧ RoadKit.Arv Z h' h.size kb .byte zn (cs.map fun c => .int (lo8 c)) (.int 0)) ∧
  ∀ (O n d : String) (w : Value), RoadKit.Fld Z h x O n d w → RoadKit.slotOf Z O n d ≠ RoadKit.slotOf Z ST "value" "[B" → RoadKit.slotOf Z O n d ≠ RoadKit.slotOf Z ST "coder" "B" → RoadKit.Fld Z h' x O n d w
/-- **new String(chars) AT A CALL, THE ARRAYS AS LISTS**: the char[] at b holds cs, not empty, no char above 255 -/
theorem backArv {p : Program} {l : Launch} {e : Env} {R : Room} {s : State} {args : Array Value} {below : List Frame} {len W : Nat} {Z : State} {a0 : Array Value} {h : Heap} (hZ : Z.Warmed39 s.vm) (hw : ∀ d ∈ words, d.before a0 Z = true) {kI : Nat} (wi : (Jvm.Cond.instantiable ST kI).before a0 Z = true)
    {x b : Addr} {k : ClassId} {zn z : Int32} {cs : List Int32} {dv v0 c0 : Value} (E : RoadKit.Exa Z h x ST) (V : RoadKit.Fld Z h x ST "value" "[B" v0) (C : RoadKit.Fld Z h x ST "coder" "B" c0) (K : RoadKit.Arv Z h b k .char zn (cs.map Value.int) dv) (S : RoadKit.Sta Z h ST "COMPACT_STRINGS" "Z" (.int z)) (hz : ¬ z = 0)
    (hlen : zn.toNatClampNeg = cs.length) (h0 : 0 < cs.length) (hbig : cs.length ≤ 536870912) (hall : ∀ c ∈ cs, ¬ 255 < c) (hfr : 4 ≤ R.frames) (hlo : W + 65 ≤ R.locals) :
    Back l R p e below s args New1.yN len W (fun P a => a = #[.ref x, .ref b] ∧ P.U.heap = h ∧ P.cells + 1 ≤ R.cells ∧ P.slots + cs.length ≤ R.slots)
      (fun P _ v B => ∃ L, QA Z x zn cs h v B.U.heap L ∧ B.locs = P.locs ++ L ∧ B.cells = P.cells + 1 ∧ B.slots = P.slots + cs.length) := by
  obtain ⟨A, K1, K2, K3, K4, K5, K6⟩ := K
  have e : A.slots.size = cs.length := K3.trans hlen
  have hat : ∀ (i : Nat) (hi : i < cs.length), A.slots[i]? = some (.int cs[i]) := fun i hi => by rw [K5 i (by omega)]; simp [List.getD_eq_getElem?_getD, hi]
  have hcv : ∀ (i : Nat) (hi : i < cs.length), cv A i = cs[i] := fun i hi => by unfold cv; rw [hat i hi]
  have hty : Typed .char A := fun i v hv => by
    have hi : i < A.slots.size := (Array.getElem?_eq_some_iff.mp hv).1
    have q := K5 i hi
    rw [hv] at q
    rw [Option.some.inj q]
    exact K6 i hi
  refine Back.mono (back hZ hw wi E V C K1 hty S hz (by omega) (by omega) (fun i hi => by rw [hcv i (by omega)]; exact hall _ (List.getElem_mem _)) hfr hlo) (fun P a hp => ⟨hp.1, hp.2.1, hp.2.2.1, by rw [e]; exact hp.2.2.2⟩) (fun P a v B hp hq => ?_)
  obtain ⟨L, ⟨q1, q2, q3, q4, q5, q6, q7, ⟨V', v1, v2, v3, v4, v5⟩, q9⟩, hl, hc, hs⟩ := hq
  refine ⟨L, ⟨q1, q2, q3, q4, q5, q6, q7, ⟨V'.cls, v3, V', v1, rfl, by rw [v4, e, hlen], K4, fun i hi => ?_, fun i hi => ?_⟩, q9⟩, hl, hc, by rw [hs, e]⟩
  · have hi' : i < cs.length := by omega
    rw [v5 i (by omega), hcv i hi']; simp [List.getD_eq_getElem?_getD, hi']
  · have hi' : i < cs.length := by omega
    simp only [List.getD_eq_getElem?_getD, List.getElem?_map, List.getElem?_eq_getElem hi', Option.map_some, Option.getD_some]
    exact fits_lo8 _
end StrChars.Road
namespace StrChars.Road
open Jvm Sem ClassFile Op Lib Jvm.Stand Jvm.Free Jvm.Free.XT
/-- WHAT COMES BACK, in the writer's own shape -/
def QV (Z : State) (x : Addr) (N : Int32) (bs : List Int32) (h : Heap) (n0 : Nat) (v : Option Value) (h' : Heap) (L : List Loc) : Prop := v = none ∧ RoadKit.Fr n0 L ∧ RoadKit.Keep h h' [x] ∧ RoadKit.Exa Z h' x ST ∧ RoadKit.Fld Z h' x ST "coder" "B" (.int 0) ∧
  ∃ (t : Addr) (kb : ClassId), n0 ≤ t ∧ h.size ≤ t ∧ ¬ t = x ∧ RoadKit.Fld Z h' x ST "value" "[B" (.ref t) ∧ RoadKit.Arv Z h' t kb .byte N (bs.map Value.int) (.int 0)
/-- **new String(chars) AT A CALL, FOR THE WRITER**: a char[] of n known ints, each 0 to 255 -/
theorem backV {p : Program} {l : Launch} {e : Env} {R : Room} {s : State} {args : Array Value} {below : List Frame} {len W : Nat} {Z : State} {a0 : Array Value} {h : Heap} (hZ : Z.Warmed39 s.vm) (hw : ∀ d ∈ words, d.before a0 Z = true) {kI : Nat} (wi : (Jvm.Cond.instantiable ST kI).before a0 Z = true)
    {x b : Addr} {kC : ClassId} {cs bs : List Int32} {d v0 c0 : Value} {z N : Int32} {n n0 : Nat} (hx0 : n0 ≤ x) (hh0 : n0 ≤ h.size) (E : RoadKit.Exa Z h x ST) (V : RoadKit.Fld Z h x ST "value" "[B" v0) (C : RoadKit.Fld Z h x ST "coder" "B" c0) (K : RoadKit.Arv Z h b kC .char N (cs.map Value.int) d) (S : RoadKit.Sta Z h ST "COMPACT_STRINGS" "Z" (.int z)) (hz : ¬ z = 0)
    (hn : cs.length = n) (hN : N = Int32.ofNat n) (l0 : 0 < n) (l2 : n ≤ 4000) (hp : ∀ c ∈ cs, ¬ c < 0 ∧ ¬ (255 : Int32) < c) (hb : bs = cs.map (fun c => c.toInt8.toInt32)) (hfr : 4 ≤ R.frames) (hlo : W + 65 ≤ R.locals) :
    Back l R p e below s args (⟨"java/lang/String", "<init>", "([C)V"⟩ : MethodName) len W (fun P a => a = #[.ref x, .ref b] ∧ P.U.heap = h ∧ P.cells + 1 ≤ R.cells ∧ P.slots + n ≤ R.slots)
      (fun P _ v B => ∃ L, QV Z x N bs h n0 v B.U.heap L ∧ B.locs = P.locs ++ L ∧ B.cells = P.cells + 1 ∧ B.slots = P.slots + n) := by
  subst hn hN hb
  refine Back.mono (backArv hZ hw wi E V C K S hz (n32 (by omega)) l0 (by omega) (fun c hc => (hp c hc).2) hfr hlo) (fun P a hp => hp) (fun P a v B hp hq => ?_)
  obtain ⟨L, ⟨q1, q2, q3, q4, q5, q6, q7, ⟨kb, v1, v2⟩, q9⟩, hl, hc, hs⟩ := hq
  exact ⟨L, ⟨q1, fun y hy => by rw [q2 y hy]; exact hx0, q3, q5, q7, h.size, kb, hh0, Nat.le_refl _, Nat.ne_of_gt E.lt, q6, by rw [List.map_map]; exact v2⟩, hl, hc, hs⟩
end StrChars.Road
namespace StrChars
open Jvm Sem ClassFile Op Lib Jvm.Stand Jvm.Free.XT Jvm.Free.ALB Jvm.Free.JM Jvm.Free
open Jvm.Lib.Cold (StaticIs)
def hi8 (x : Int32) : Int32 := lo8 (x >>> ((8 : Int32) &&& 31))
/-- what StringUTF16.getChar makes of two bytes -/
def pairCh (u v : Int32) : Int32 := (((u &&& 255) <<< ((0 : Int32) &&& 31)) ||| ((v &&& 255) <<< ((8 : Int32) &&& 31))).toUInt32.toUInt16.toUInt32.toInt32
theorem shr0 (c : Int32) : c >>> ((0 : Int32) &&& 31) = c := by
  have e : ((0 : Int32) &&& 31) = 0 := by decide
  rw [e]
  apply Int32.toBitVec_inj.mp
  rw [Int32.toBitVec_shiftRight]
  have e1 : ((0 : Int32).toBitVec.smod 32) = 0#32 := by decide
  rw [e1, BitVec.sshiftRight_eq']
  exact BitVec.sshiftRight_zero
theorem lo8_and (x : Int32) : (lo8 x &&& 255).toBitVec.toNat = x.toBitVec.toNat % 256 := by
  have h : (lo8 x).toBitVec = (x.toBitVec.signExtend 8).signExtend 32 := by rw [lo8, Int8.toBitVec_toInt32, Int32.toBitVec_toInt8]
  rw [Int32.toBitVec_and, BitVec.toNat_and, h]
  have e : ((x.toBitVec.signExtend 8).signExtend 32).toNat % 256 = x.toBitVec.toNat % 256 := by
    rw [BitVec.toNat_signExtend]
    have hlt := x.toBitVec.isLt
    simp only [BitVec.toNat_setWidth, BitVec.toNat_signExtend]
    split <;> split <;> omega
  rw [← e]
  exact Nat.and_two_pow_sub_one_eq_mod _ 8
theorem pair_says {c : Int32} (h0 : ¬ c < 0) (h1 : ¬ 65535 < c) : pairCh (lo8 c) (hi8 c) = c := by
  rw [Int32.lt_iff_toInt_lt] at h0 h1
  have e0 : (0 : Int32).toInt = 0 := rfl
  have e1 : (65535 : Int32).toInt = 65535 := rfl
  have hc : c.toInt = c.toBitVec.toNat := by
    have := c.toBitVec.isLt
    have e : c.toInt = c.toBitVec.toInt := rfl
    rw [e] at h0 h1
    rw [e]
    rw [BitVec.toInt_eq_toNat_cond] at h0 h1 ⊢
    split at h0 <;> split <;> omega
  have hn : c.toBitVec.toNat < 65536 := by omega
  have a1 := lo8_and c
  have a2 : (hi8 c &&& 255).toBitVec.toNat = c.toBitVec.toNat / 256 := by
    rw [hi8, lo8_and]
    have e : ((8 : Int32) &&& 31) = 8 := by decide
    rw [e, Int32.toBitVec_shiftRight]
    have e2 : ((8 : Int32).toBitVec.smod 32) = 8#32 := by decide
    rw [e2, BitVec.sshiftRight_eq', BitVec.toNat_sshiftRight_of_msb_false (by rw [BitVec.msb_eq_false_iff_two_mul_lt]; omega)]
    show c.toBitVec.toNat >>> 8 % 256 = _
    rw [Nat.shiftRight_eq_div_pow]
    omega
  unfold pairCh
  apply Int32.toBitVec_inj.mp
  apply BitVec.eq_of_toNat_eq
  have f0 : ((0 : Int32) &&& 31) = 0 := by decide
  have f8 : ((8 : Int32) &&& 31) = 8 := by decide
  rw [f0, f8]
  have g : (((lo8 c &&& 255) <<< (0 : Int32)) ||| ((hi8 c &&& 255) <<< (8 : Int32))).toBitVec.toNat = c.toBitVec.toNat := by
    rw [Int32.toBitVec_or, Int32.toBitVec_shiftLeft, Int32.toBitVec_shiftLeft]
    have s0 : ((0 : Int32).toBitVec.smod 32) = 0#32 := by decide
    have s8 : ((8 : Int32).toBitVec.smod 32) = 8#32 := by decide
    rw [s0, s8, BitVec.toNat_or]
    simp only [BitVec.shiftLeft_eq', BitVec.toNat_shiftLeft, a1, a2]
    show (c.toBitVec.toNat % 256) <<< 0 % 2 ^ 32 ||| (c.toBitVec.toNat / 256) <<< 8 % 2 ^ 32 = _
    rw [Nat.shiftLeft_zero, Nat.mod_eq_of_lt (show c.toBitVec.toNat % 256 < 2 ^ 32 by omega), Nat.mod_eq_of_lt (show (c.toBitVec.toNat / 256) <<< 8 < 2 ^ 32 by rw [Nat.shiftLeft_eq]; omega), Nat.or_comm, ← Nat.shiftLeft_add_eq_or_of_lt (by omega), Nat.shiftLeft_eq]
    omega
  show BitVec.toNat (((((lo8 c &&& 255) <<< (0 : Int32)) ||| ((hi8 c &&& 255) <<< (8 : Int32))).toBitVec.setWidth 16).setWidth 32) = _
  rw [BitVec.toNat_setWidth, BitVec.toNat_setWidth, g]
  omega
end StrChars
namespace StrChars
open Jvm Sem ClassFile Op Lib Jvm.Stand Jvm.Free.XT Jvm.Free.ALB Jvm.Free.JM Jvm.Free
open Jvm.Lib.Cold (StaticIs)
theorem shr1 {n : Nat} (h : 2 * n < 2 ^ 31) : Int32.ofNat (2 * n) >>> ((1 : Int32) &&& 31) = Int32.ofNat n := by
  have e : ((1 : Int32) &&& 31) = 1 := by decide
  rw [e]
  apply Int32.toBitVec_inj.mp
  rw [Int32.toBitVec_shiftRight]
  have e1 : ((1 : Int32).toBitVec.smod 32) = 1#32 := by decide
  have hm : (BitVec.ofNat 32 (2 * n)).toNat = 2 * n := by rw [BitVec.toNat_ofNat, Nat.mod_eq_of_lt (by omega)]
  rw [e1, BitVec.sshiftRight_eq']
  apply BitVec.eq_of_toNat_eq
  show ((BitVec.ofNat 32 (2 * n)).sshiftRight 1).toNat = (BitVec.ofNat 32 n).toNat
  rw [BitVec.toNat_sshiftRight_of_msb_false (by rw [BitVec.msb_eq_false_iff_two_mul_lt, hm]; omega), hm, BitVec.toNat_ofNat, Nat.shiftRight_eq_div_pow]
  omega
/-- charAt's cast of a byte read back -/
def chr8 (u : Int32) : Int32 := (u &&& 255).toUInt32.toUInt16.toUInt32.toInt32
theorem chr8_lo8 {c : Int32} (h0 : ¬ c < 0) (h1 : ¬ 255 < c) : chr8 (lo8 c) = c := by
  have t : ∀ k : Fin 256, (Int32.ofNat k.val).toUInt32.toUInt16.toUInt32.toInt32 = Int32.ofNat k.val := by decide +kernel
  unfold chr8
  rw [lo8_mask h0 h1]
  rw [Int32.lt_iff_toInt_lt] at h0 h1
  have e0 : (0 : Int32).toInt = 0 := rfl
  have e1 : (255 : Int32).toInt = 255 := rfl
  obtain ⟨k, hk⟩ : ∃ k : Nat, c.toInt = k := ⟨c.toInt.toNat, by omega⟩
  have hx : c = Int32.ofNat k := Int32.toInt_inj.mp (by rw [hk, Int32.toInt_ofNat_small (by omega)])
  rw [hx]
  exact t ⟨k, by omega⟩
theorem narrow_ch {c : Int32} (h0 : ¬ c < 0) (h1 : ¬ 65535 < c) : narrow .char (.int c) = .int c := by
  have q : narrow .char (.int (pairCh (lo8 c) (hi8 c))) = .int (pairCh (lo8 c) (hi8 c)) := narrow_c _
  rwa [pair_says h0 h1] at q
/-- the array's cell V codes the n chars f 0 .. f (n - 1) by the coder cd, as the JDK does: coder 1 just where some char is above 255 -/
def Cod (cd : Int32) (n : Nat) (f : Nat → Int32) (V : Cell) : Prop := (cd = 0 ∧ V.slots.size = n ∧ ∀ j, j < n → V.slots[j]? = some (.int (lo8 (f j))) ∧ ¬ 255 < f j) ∨ (cd = 1 ∧ V.slots.size = 2 * n ∧ (∀ j, j < n → V.slots[2 * j]? = some (.int (lo8 (f j))) ∧ V.slots[2 * j + 1]? = some (.int (hi8 (f j)))) ∧ ∃ j, j < n ∧ 255 < f j)
theorem Cod.cd {cd : Int32} {n : Nat} {f : Nat → Int32} {V : Cell} (h : Cod cd n f V) : cd = 0 ∨ cd = 1 := h.imp (fun q => q.1) fun q => q.1
theorem Cod.len {cd : Int32} {n : Nat} {f : Nat → Int32} {V : Cell} (h : Cod cd n f V) (hs : V.slots.size < 2 ^ 31) : Int32.ofNat V.slots.size >>> (cd &&& 31) = Int32.ofNat n := by
  rcases h with ⟨rfl, h, -⟩ | ⟨rfl, h, -⟩
  · rw [shr0, h]
  · rw [h, shr1 (by omega)]
/-- **x is a String of the n chars f 0 .. f (n - 1)**, Latin-1 or UTF-16; its array at t has the cell V -/
def Txt (x t : Addr) (V : Cell) (cd : Int32) (n : Nat) (f : Nat → Int32) (U : State) : Prop := Exact "java/lang/String" x U ∧ Has x "java/lang/String" "value" "[B" (.ref t) U ∧ Has x "java/lang/String" "coder" "B" (.int cd) U ∧ XT.Arr .byte t V U ∧ Cod cd n f V ∧ ∀ j, j < n → ¬ f j < 0 ∧ ¬ 65535 < f j
theorem Txt.mv {x t : Addr} {V : Cell} {cd : Int32} {n : Nat} {f : Nat → Int32} {U U' : State} (h : Txt x t V cd n f U) (hal : U.vm.Alike U'.vm) (hh : U'.heap = U.heap) : Txt x t V cd n f U' := ⟨h.1.mv hal hh, h.2.1.mv hal hh, h.2.2.1.mv hal hh, h.2.2.2.1.mv hal hh, h.2.2.2.2⟩
namespace Cdr
def yN : MethodName := ⟨"java/lang/String", "coder", "()B"⟩
abbrev yB : ByteArray := jdk_42_method_152_code
theorem d0 : decode yB 0 = .ok (.getstatic 38, 3) := by decide +kernel
theorem d3 : decode yB 3 = .ok (.ifCond (.eq) 10, 3) := by decide +kernel
theorem d6 : decode yB 6 = .ok (.aload_n 0, 1) := by decide +kernel
theorem d7 : decode yB 7 = .ok (.getfield 15, 3) := by decide +kernel
theorem d10 : decode yB 10 = .ok (.goto 4, 3) := by decide +kernel
theorem d14 : decode yB 14 = .ok (.ireturn, 1) := by decide +kernel
def site : List Cond := [.fieldLink "java/lang/String" 38 "java/lang/String" "COMPACT_STRINGS" "Z", .fieldLink "java/lang/String" 15 "java/lang/String" "coder" "B"]
def tab : Cond := tabOf yN yB 1 (some .byte) site
def P (x : Addr) (cd z : Int32) (args : Array Value) (s : State) : Prop := args = #[.ref x] ∧ Has x "java/lang/String" "coder" "B" (.int cd) s ∧ (cd = 0 ∨ cd = 1) ∧ StaticIs s "java/lang/String" "COMPACT_STRINGS" "Z" (.int z) ∧ ¬ z = 0
def E (cd : Int32) (r : Option Value) (s u : State) : Prop := XT.PureE (some (.int cd)) r s u
theorem law (l : Launch) (x : Addr) (cd z : Int32) : Law l yN 1 0 0 0 yB 1 (some .byte) site (P x cd z) (E cd) [] 0 0 := by
  refine Law.of_walk (plainFor_of_name (by decide +kernel)) (by decide +kernel) (by decide +kernel) (by decide) (fun _ _ h => by rw [h.1]; rfl) (fun _ U U' hal hh h => ⟨h.1, h.2.1.mv hal hh, h.2.2.1, h.2.2.2.1.there hal hh, h.2.2.2.2⟩) (fun r U U' V V' h1 hal h2 h => XT.PureE.mv r U U' V V' h1 hal h2 h) ?_
  intro p e s m args below meth c s₁ X0 hexec hbytes hml hret hlk hnm hown hh0 W hP
  obtain ⟨rfl, hx, hc, s1, hz⟩ := hP
  have c1 : Steps p.tables e below (s₁.setTop (entryFrame m #[.ref x] 1)) (s₁.setTop (mkF m 0 #[.val (.ref x)] [])) := entry rfl
  obtain ⟨T2, X2, q2, st2⟩ := X0.sget hexec hown (wk W (.fieldLink "java/lang/String" 38 "java/lang/String" "COMPACT_STRINGS" "Z")) s1 (fun _ _ h => by rw [hh0]; exact h) (g := (mkF m 0 #[.val (.ref x)] [])) rfl (hb hbytes d0)
  have hh2 := q2.trans hh0
  have c3 : Steps p.tables e below (s₁.setTop (entryFrame m #[.ref x] 1)) (T2.setTop (mkF m 7 #[.val (.ref x)] [.ref x])) := (c1.trans (st2 _ (Steps.refl _))).trans (by
    refine XS.ifNo X2.here hexec rfl (hb hbytes d3) rfl (i0_eq_f hz) ?_
    refine XS.aloadN X2.here hexec rfl (hb hbytes d6) rfl rfl ?_
    exact Steps.refl _)
  obtain ⟨T4, X4, q4, st4⟩ := X2.hget hexec hown (wk W (.fieldLink "java/lang/String" 15 "java/lang/String" "coder" "B")) (hx.mv X2.warmed.alike hh2) (g := (mkF m 7 #[.val (.ref x)] [.ref x])) rfl (rest := []) rfl (hb hbytes d7)
  have c5 : Steps p.tables e below (s₁.setTop (entryFrame m #[.ref x] 1)) (T4.setTop (mkF m 14 #[.val (.ref x)] [.int cd])) := (c3.trans (st4 _ (Steps.refl _))).trans (by
    refine XS.goto X4.here hexec rfl (pc0 := 10) rfl (hb hbytes d10) (by decide) rfl ?_
    exact Steps.refl _)
  exact ⟨T4, some (.int cd), _, _, _, X4, rfl, rfl, rfl, (fun h => by cases h), ⟨rfl, q4.trans hh2⟩, fun fs hl => c5.trans (X4.ireturnOut hexec hret (by rcases hc with rfl | rfl <;> rfl) (Or.inr (Or.inr (Or.inl rfl))) (hb hbytes d14) hl)⟩
end Cdr
namespace Len
def yN : MethodName := ⟨"java/lang/String", "length", "()I"⟩
abbrev yB : ByteArray := jdk_42_method_54_code
theorem d0 : decode yB 0 = .ok (.aload_n 0, 1) := by decide +kernel
theorem d1 : decode yB 1 = .ok (.getfield 9, 3) := by decide +kernel
theorem d4 : decode yB 4 = .ok (.arraylength, 1) := by decide +kernel
theorem d5 : decode yB 5 = .ok (.aload_n 0, 1) := by decide +kernel
theorem d6 : decode yB 6 = .ok (.invokevirtual 335, 3) := by decide +kernel
theorem d9 : decode yB 9 = .ok (.ishr, 1) := by decide +kernel
theorem d10 : decode yB 10 = .ok (.ireturn, 1) := by decide +kernel
def site : List Cond := [.fieldLink "java/lang/String" 9 "java/lang/String" "value" "[B", Cdr.tab] ++ virtW "java/lang/String" 335 "java/lang/String" Cdr.yN Cdr.yN
def tab : Cond := tabOf yN yB 1 (some .int) site
def P (x t : Addr) (V : Cell) (cd : Int32) (n : Nat) (f : Nat → Int32) (z : Int32) (args : Array Value) (s : State) : Prop := args = #[.ref x] ∧ Txt x t V cd n f s ∧ StaticIs s "java/lang/String" "COMPACT_STRINGS" "Z" (.int z) ∧ ¬ z = 0
def E (n : Nat) (r : Option Value) (s u : State) : Prop := XT.PureE (some (.int (Int32.ofNat n))) r s u
/-- length() of a String of n chars, in either coding -/
theorem law (l : Launch) (x t : Addr) (V : Cell) (cd : Int32) (n : Nat) (f : Nat → Int32) (z : Int32) : Law l yN 1 0 1 13 yB 1 (some .int) site (P x t V cd n f z) (E n) [] 0 0 := by
  refine Law.of_walk (plainFor_of_name (by decide +kernel)) (by decide +kernel) (by decide +kernel) (by decide) (fun _ _ h => by rw [h.1]; rfl) (fun _ U U' hal hh h => ⟨h.1, h.2.1.mv hal hh, h.2.2.1.there hal hh, h.2.2.2⟩) (fun r U U' V V' h1 hal h2 h => XT.PureE.mv r U U' V V' h1 hal h2 h) ?_
  intro p e s m args below meth c s₁ X0 hexec hbytes hml hret hlk hnm hown hh0 W hP
  obtain ⟨rfl, hx, s1, hz⟩ := hP
  have v31 := hx.2.2.2.1.2.2.2
  have c1 : Steps p.tables e below (s₁.setTop (entryFrame m #[.ref x] 1)) (s₁.setTop (mkF m 1 #[.val (.ref x)] [.ref x])) := Steps.trans (entry rfl) (by
    show Steps p.tables e below (s₁.setTop (mkF m 0 #[.val (.ref x)] [])) _
    refine XS.aloadN X0.here hexec rfl (hb hbytes d0) rfl rfl ?_
    exact Steps.refl _)
  obtain ⟨T2, X2, q2, st2⟩ := X0.hget hexec hown (wk W (.fieldLink "java/lang/String" 9 "java/lang/String" "value" "[B")) (hx.mv X0.warmed.alike hh0).2.1 (g := (mkF m 1 #[.val (.ref x)] [.ref x])) rfl (rest := []) rfl (hb hbytes d1)
  have hh2 := q2.trans hh0
  have hx2 := hx.mv X2.warmed.alike hh2
  have c3 : Steps p.tables e below (s₁.setTop (entryFrame m #[.ref x] 1)) (T2.setTop (mkF m 6 #[.val (.ref x)] [.ref x, .int (Int32.ofNat V.slots.size)])) := (c1.trans (st2 _ (Steps.refl _))).trans (by
    refine X2.alen hexec hx2.2.2.2.1 rfl rfl (hb hbytes d4) ?_
    refine XS.aloadN X2.here hexec rfl (hb hbytes d5) rfl rfl ?_
    exact Steps.refl _)
  obtain ⟨v4, T4, X4, E4, g4⟩ := X2.callV hexec (Cdr.law l x cd z) hown (wks W (virtW "java/lang/String" 335 "java/lang/String" Cdr.yN Cdr.yN)) rfl (by decide) (wk W Cdr.tab) (W := 1) (Nat.le_of_ble_eq_true rfl) (Nat.le_of_ble_eq_true rfl) (Nat.le_refl _) (Nat.le_refl _) (hx2.1.fc X2.warmed.alike) hx2.1.is (g := (mkF m 6 #[.val (.ref x)] [.ref x, .int (Int32.ofNat V.slots.size)])) rfl (by rw [hml]; rfl) c3 (argsL := []) (rest := [.int (Int32.ofNat V.slots.size)]) rfl rfl (by show 2 * 0 + (1 + 0) ≤ _; decide) (hb hbytes d6) (⟨rfl, hx2.2.2.1, hx.2.2.2.2.1.cd, s1.there X2.warmed.alike hh2, hz⟩)
  obtain ⟨rfl, q4⟩ := E4
  have c5 : Steps p.tables e below (s₁.setTop (entryFrame m #[.ref x] 1)) (T4.setTop (mkF m 10 #[.val (.ref x)] [.int (Int32.ofNat V.slots.size >>> (cd &&& 31))])) := Steps.trans g4 (by
    refine ishr X4.here hexec rfl (hb hbytes d9) rfl ?_
    exact Steps.refl _)
  rw [hx.2.2.2.2.1.len v31] at c5
  exact ⟨T4, some (.int (Int32.ofNat n)), _, _, _, X4, rfl, rfl, rfl, (fun h => by cases h), ⟨rfl, q4.trans hh2⟩, fun fs hl => c5.trans (X4.ireturnOut hexec hret rfl (Or.inl rfl) (hb hbytes d10) hl)⟩
theorem pays {l : Launch} {R : Room} {p : Program} {e : Env} {below : List Frame} {s : State} {sargs : Array Value} {len W : Nat} (x t : Addr) (V : Cell) (cd : Int32) (n : Nat) (f : Nat → Int32) (z : Int32) (htab : tab.before sargs s = true) (hfr : 2 ≤ R.frames) (hlo : W + 25 ≤ R.locals) :
    Back l R p e below s sargs yN len W (fun A₁ a₁ => A₁.cells + 0 ≤ R.cells ∧ A₁.slots + 0 ≤ R.slots ∧ P x t V cd n f z a₁ A₁.U) (fun A₁ _ v₁ B₁ => E n v₁ A₁.U B₁.U ∧ B₁.locs = A₁.locs ++ [] ∧ B₁.cells = A₁.cells + 0 ∧ B₁.slots = A₁.slots + 0) :=
  (law l x t V cd n f z).pays htab hfr (by omega)
end Len
namespace IsL
def yN : MethodName := ⟨"java/lang/String", "isLatin1", "()Z"⟩
abbrev yB : ByteArray := jdk_42_method_154_code
theorem d0 : decode yB 0 = .ok (.getstatic 38, 3) := by decide +kernel
theorem d3 : decode yB 3 = .ok (.ifCond (.eq) 14, 3) := by decide +kernel
theorem d6 : decode yB 6 = .ok (.aload_n 0, 1) := by decide +kernel
theorem d7 : decode yB 7 = .ok (.getfield 15, 3) := by decide +kernel
theorem d10 : decode yB 10 = .ok (.ifCond (.ne) 7, 3) := by decide +kernel
theorem d13 : decode yB 13 = .ok (.iconst 1, 1) := by decide +kernel
theorem d14 : decode yB 14 = .ok (.goto 4, 3) := by decide +kernel
theorem d17 : decode yB 17 = .ok (.iconst 0, 1) := by decide +kernel
theorem d18 : decode yB 18 = .ok (.ireturn, 1) := by decide +kernel
def site : List Cond := [.fieldLink "java/lang/String" 38 "java/lang/String" "COMPACT_STRINGS" "Z", .fieldLink "java/lang/String" 15 "java/lang/String" "coder" "B"]
def tab : Cond := tabOf yN yB 1 (some .boolean) site
def P (x : Addr) (cd z : Int32) (args : Array Value) (s : State) : Prop := args = #[.ref x] ∧ Has x "java/lang/String" "coder" "B" (.int cd) s ∧ (cd = 0 ∨ cd = 1) ∧ StaticIs s "java/lang/String" "COMPACT_STRINGS" "Z" (.int z) ∧ ¬ z = 0
def E (cd : Int32) (r : Option Value) (s u : State) : Prop := XT.PureE (some (.int (1 - cd))) r s u
theorem law (l : Launch) (x : Addr) (cd z : Int32) : Law l yN 1 0 0 0 yB 1 (some .boolean) site (P x cd z) (E cd) [] 0 0 := by
  refine Law.of_walk (plainFor_of_name (by decide +kernel)) (by decide +kernel) (by decide +kernel) (by decide) (fun _ _ h => by rw [h.1]; rfl) (fun _ U U' hal hh h => ⟨h.1, h.2.1.mv hal hh, h.2.2.1, h.2.2.2.1.there hal hh, h.2.2.2.2⟩) (fun r U U' V V' h1 hal h2 h => XT.PureE.mv r U U' V V' h1 hal h2 h) ?_
  intro p e s m args below meth c s₁ X0 hexec hbytes hml hret hlk hnm hown hh0 W hP
  obtain ⟨rfl, hx, hc, s1, hz⟩ := hP
  have c1 : Steps p.tables e below (s₁.setTop (entryFrame m #[.ref x] 1)) (s₁.setTop (mkF m 0 #[.val (.ref x)] [])) := entry rfl
  obtain ⟨T2, X2, q2, st2⟩ := X0.sget hexec hown (wk W (.fieldLink "java/lang/String" 38 "java/lang/String" "COMPACT_STRINGS" "Z")) s1 (fun _ _ h => by rw [hh0]; exact h) (g := (mkF m 0 #[.val (.ref x)] [])) rfl (hb hbytes d0)
  have hh2 := q2.trans hh0
  have c3 : Steps p.tables e below (s₁.setTop (entryFrame m #[.ref x] 1)) (T2.setTop (mkF m 7 #[.val (.ref x)] [.ref x])) := (c1.trans (st2 _ (Steps.refl _))).trans (by
    refine XS.ifNo X2.here hexec rfl (hb hbytes d3) rfl (i0_eq_f hz) ?_
    refine XS.aloadN X2.here hexec rfl (hb hbytes d6) rfl rfl ?_
    exact Steps.refl _)
  obtain ⟨T4, X4, q4, st4⟩ := X2.hget hexec hown (wk W (.fieldLink "java/lang/String" 15 "java/lang/String" "coder" "B")) (hx.mv X2.warmed.alike hh2) (g := (mkF m 7 #[.val (.ref x)] [.ref x])) rfl (rest := []) rfl (hb hbytes d7)
  have c5 : Steps p.tables e below (s₁.setTop (entryFrame m #[.ref x] 1)) (T4.setTop (mkF m 10 #[.val (.ref x)] [.int cd])) := c3.trans (st4 _ (Steps.refl _))
  have c6 : Steps p.tables e below (s₁.setTop (entryFrame m #[.ref x] 1)) (T4.setTop (mkF m 18 #[.val (.ref x)] [.int (1 - cd)])) := by
    rcases hc with rfl | rfl
    · exact c5.trans (by
        refine XS.ifNo X4.here hexec rfl (hb hbytes d10) rfl (i0_ne_f rfl) ?_
        refine iconstV X4.here hexec rfl 1 (hb hbytes d13) (by decide) ?_
        refine XS.goto X4.here hexec rfl (pc0 := 14) rfl (hb hbytes d14) (by decide) rfl ?_
        exact Steps.refl _)
    · exact c5.trans (by
        refine XS.ifYes X4.here hexec rfl (pc0 := 10) rfl (hb hbytes d10) rfl (i0_ne_t (by decide)) (by decide) rfl ?_
        refine iconstV X4.here hexec rfl 0 (hb hbytes d17) (by decide) ?_
        exact Steps.refl _)
  exact ⟨T4, some (.int (1 - cd)), _, _, _, X4, rfl, rfl, rfl, (fun h => by cases h), ⟨rfl, q4.trans hh2⟩, fun fs hl => c6.trans (X4.ireturnOut hexec hret (by rcases hc with rfl | rfl <;> rfl) (Or.inr (Or.inl rfl)) (hb hbytes d18) hl)⟩
end IsL
namespace LChA
def yN : MethodName := ⟨"java/lang/StringLatin1", "charAt", "([BI)C"⟩
abbrev yB : ByteArray := jdk_43_method_2_code
theorem d0 : decode yB 0 = .ok (.iload_n 1, 1) := by decide +kernel
theorem d1 : decode yB 1 = .ok (.aload_n 0, 1) := by decide +kernel
theorem d2 : decode yB 2 = .ok (.arraylength, 1) := by decide +kernel
theorem d3 : decode yB 3 = .ok (.invokestatic 9, 3) := by decide +kernel
theorem d6 : decode yB 6 = .ok (.aload_n 0, 1) := by decide +kernel
theorem d7 : decode yB 7 = .ok (.iload_n 1, 1) := by decide +kernel
theorem d8 : decode yB 8 = .ok (.baload, 1) := by decide +kernel
theorem d9 : decode yB 9 = .ok (.sipush 255, 3) := by decide +kernel
theorem d12 : decode yB 12 = .ok (.iand, 1) := by decide +kernel
theorem d13 : decode yB 13 = .ok (.i2c, 1) := by decide +kernel
theorem d14 : decode yB 14 = .ok (.ireturn, 1) := by decide +kernel
def site : List Cond := [JO.Str_checkIndex.tab] ++ staticW "java/lang/StringLatin1" 9 JO.Str_checkIndex.yN
def tab : Cond := tabOf yN yB 2 (some .char) site
def P (t : Addr) (V : Cell) (i : Nat) (u : Int32) (fm : Value) (args : Array Value) (s : State) : Prop := args = #[.ref t, .int (Int32.ofNat i)] ∧ XT.Arr .byte t V s ∧ V.slots[i]? = some (.int u) ∧ (StaticIs s "jdk/internal/util/Preconditions" "SIOOBE_FORMATTER" "Ljava/util/function/BiFunction;" fm ∧ fm.isRef = true)
def E (u : Int32) (r : Option Value) (s w : State) : Prop := XT.PureE (some (.int (chr8 u))) r s w
theorem law (l : Launch) (t : Addr) (V : Cell) (i : Nat) (u : Int32) (fm : Value) : Law l yN 2 2 2 27 yB 2 (some .char) site (P t V i u fm) (E u) [] 0 0 := by
  refine Law.of_walk (plainFor_of_name (by decide +kernel)) (by decide +kernel) (by decide +kernel) (by decide) (fun _ _ h => by rw [h.1]; rfl) (fun _ U U' hal hh h => ⟨h.1, h.2.1.mv hal hh, h.2.2.1, h.2.2.2.1.there hal hh, h.2.2.2.2⟩) (fun r U U' V V' h1 hal h2 h => XT.PureE.mv r U U' V V' h1 hal h2 h) ?_
  intro p e s m args below meth c s₁ X0 hexec hbytes hml hret hlk hnm hown hh0 W hP
  obtain ⟨rfl, hV, hu, s1, rf⟩ := hP
  have v31 := hV.2.2.2
  have hi : i < V.slots.size := (Array.getElem?_eq_some_iff.mp hu).1
  have c1 : Steps p.tables e below (s₁.setTop (entryFrame m #[.ref t, .int (Int32.ofNat i)] 2)) (s₁.setTop (mkF m 0 #[.val (.ref t), .val (.int (Int32.ofNat i))] [])) := entry rfl
  have c2 : Steps p.tables e below (s₁.setTop (entryFrame m #[.ref t, .int (Int32.ofNat i)] 2)) (s₁.setTop (mkF m 3 #[.val (.ref t), .val (.int (Int32.ofNat i))] [.int (Int32.ofNat V.slots.size), .int (Int32.ofNat i)])) := c1.trans (by
    refine XS.iloadN X0.here hexec rfl (hb hbytes d0) rfl ?_
    refine XS.aloadN X0.here hexec rfl (hb hbytes d1) rfl rfl ?_
    refine X0.alen hexec (hV.mv X0.warmed.alike hh0) rfl rfl (hb hbytes d2) ?_
    exact Steps.refl _)
  obtain ⟨v3, T3, X3, E3, g3⟩ := X0.callS hexec (JO.Str_checkIndex.law l (Int32.ofNat i) (Int32.ofNat V.slots.size) fm) hown (wks W (staticW "java/lang/StringLatin1" 9 JO.Str_checkIndex.yN)) (wk W JO.Str_checkIndex.tab) (W := 0) (Nat.le_of_ble_eq_true rfl) (Nat.le_of_ble_eq_true rfl) (Nat.le_refl _) (Nat.le_refl _) (g := (mkF m 3 #[.val (.ref t), .val (.int (Int32.ofNat i))] [.int (Int32.ofNat V.slots.size), .int (Int32.ofNat i)])) rfl (by rw [hml]; rfl) c2 (argsL := [.int (Int32.ofNat i), .int (Int32.ofNat V.slots.size)]) (rest := []) rfl rfl (by show 2 * 0 + 0 ≤ _; decide) (hb hbytes d3) (⟨rfl, rf, s1.there X0.warmed.alike hh0, Int32.ofNat_not_neg (by omega), lt32 v31 hi⟩)
  obtain ⟨rfl, q3⟩ := E3
  have hh3 := q3.trans hh0
  have c4 : Steps p.tables e below (s₁.setTop (entryFrame m #[.ref t, .int (Int32.ofNat i)] 2)) (T3.setTop (mkF m 14 #[.val (.ref t), .val (.int (Int32.ofNat i))] [.int (chr8 u)])) := Steps.trans g3 (by
    refine XS.aloadN X3.here hexec rfl (hb hbytes d6) rfl rfl ?_
    refine XS.iloadN X3.here hexec rfl (hb hbytes d7) rfl ?_
    refine X3.aget hexec (hV.mv X3.warmed.alike hh3) rfl hu rfl rfl (hb hbytes d8) ?_
    refine sipushV X3.here hexec rfl 255 (hb hbytes d9) (by decide) ?_
    refine XS.iand X3.here hexec rfl (hb hbytes d12) rfl ?_
    refine i2c X3.here hexec rfl (hb hbytes d13) rfl ?_
    exact Steps.refl _)
  exact ⟨T3, some (.int (chr8 u)), _, _, _, X3, rfl, rfl, rfl, (fun h => by cases h), ⟨rfl, hh3⟩, fun fs hl => c4.trans (X3.ireturnOut hexec hret (narrow_c _) (Or.inr (Or.inr (Or.inr (Or.inl rfl)))) (hb hbytes d14) hl)⟩
end LChA
end StrChars
namespace StrChars.Road
open Jvm Sem ClassFile Op Lib Jvm.Stand Jvm.Free Jvm.Free.XT
open Jvm.Lib.Cold (StaticIs)
theorem consq {a : Array Value} {s : State} {c : Jvm.Cond} {L : List Jvm.Cond} (h0 : c.before a s = true) (h : ∀ w ∈ L, w.before a s = true) : ∀ w ∈ c :: L, w.before a s = true := fun w hw => (List.mem_cons.mp hw).elim (fun e => e ▸ h0) (h w)
/-- the words of String.length(), either coding -/
abbrev wordsLen : List Jvm.Cond := [.code Len.yN Len.yB 1 (some .int), .initialized ST, .fieldLink ST 9 ST "value" "[B", .fieldLink ST 38 ST "COMPACT_STRINGS" "Z", .fieldLink ST 15 ST "coder" "B", .code Cdr.yN Cdr.yB 1 (some .byte), .methodLink ST 335 Cdr.yN, .declares Cdr.yN, .selects ST Cdr.yN Cdr.yN, .instanceMethod Cdr.yN]
theorem tabLen_of {a : Array Value} {s : State} (h : ∀ w ∈ wordsLen, w.before a s = true) : Len.tab.before a s = true := by
  have hc : Cdr.tab.before a s = true := unparts (wk h (.code Cdr.yN Cdr.yB 1 (some .byte))) (wks h (.initialized Cdr.yN.cls :: Cdr.site))
  have q := consq hc h
  exact unparts (wk q (.code Len.yN Len.yB 1 (some .int))) (wks q (.initialized Len.yN.cls :: Len.site))
theorem movedLen {Z s : State} {a0 args : Array Value} (hZ : Z.Warmed39 s.vm) (hw : ∀ d ∈ wordsLen, d.before a0 Z = true) : ∀ d ∈ wordsLen, d.before args s = true := fun d hd => by
  have q := hw d hd
  have t : ∀ d ∈ wordsLen, d = .arrayClass .byte ∨ (d.onTables && d.keepsFace) = true := by decide +kernel
  rcases t d hd with rfl | t
  · exact RoadKit.mvA hZ q
  · exact RoadKit.mv hZ q t
/-- the bytes of the chars cs, low before high -/
def wideBytes : List Int32 → List Value
  | [] => []
  | c :: cs => .int (lo8 c) :: .int (hi8 c) :: wideBytes cs
theorem wide_lo (d : Value) : ∀ (cs : List Int32) (j : Nat), j < cs.length → (wideBytes cs).getD (2 * j) d = .int (lo8 (cs.getD j 0))
  | [], j, h => absurd h (Nat.not_lt_zero j)
  | c :: cs, 0, _ => rfl
  | c :: cs, j + 1, h => by
    have q := wide_lo d cs j (by simpa using h)
    rw [show 2 * (j + 1) = 2 * j + 1 + 1 from by omega]
    simpa [wideBytes] using q
theorem wide_hi (d : Value) : ∀ (cs : List Int32) (j : Nat), j < cs.length → (wideBytes cs).getD (2 * j + 1) d = .int (hi8 (cs.getD j 0))
  | [], j, h => absurd h (Nat.not_lt_zero j)
  | c :: cs, 0, _ => rfl
  | c :: cs, j + 1, h => by
    have q := wide_hi d cs j (by simpa using h)
    rw [show 2 * (j + 1) + 1 = 2 * j + 1 + 1 + 1 from by omega]
    simpa [wideBytes] using q
theorem low_at (d : Value) (cs : List Int32) (j : Nat) (h : j < cs.length) : (cs.map fun c => Value.int (lo8 c)).getD j d = .int (lo8 (cs.getD j 0)) := by
  simp [List.getD_eq_getElem?_getD, h]
/-- an array of N2 bytes vs codes the chars cs by the coder cd -/
def CodA (cs : List Int32) (cd N2 : Int32) (vs : List Value) : Prop := (cd = 0 ∧ N2 = Int32.ofNat cs.length ∧ vs = (cs.map fun c => Value.int (lo8 c)) ∧ ∀ c ∈ cs, ¬ 255 < c) ∨ (cd = 1 ∧ N2 = Int32.ofNat (2 * cs.length) ∧ vs = wideBytes cs ∧ ∃ c ∈ cs, 255 < c)
theorem CodA.cod {cs : List Int32} {cd N2 : Int32} {vs : List Value} {V : Cell} (h : CodA cs cd N2 vs) (hn : 2 * cs.length < 2 ^ 31) (hs : V.slots.size = N2.toNatClampNeg) (hv : RoadKit.Has V vs (.int 0)) : Cod cd cs.length (fun j => cs.getD j 0) V := by
  rcases h with ⟨rfl, rfl, rfl, h⟩ | ⟨rfl, rfl, rfl, c, hc, hw⟩
  · rw [n32 (by omega)] at hs
    exact Or.inl ⟨rfl, hs, fun j hj => ⟨by rw [hv j (by omega), low_at _ _ _ hj], by
      have e : cs.getD j 0 = cs[j] := by simp [List.getD_eq_getElem?_getD, hj]
      show ¬ 255 < cs.getD j 0
      rw [e]; exact h _ (List.getElem_mem _)⟩⟩
  · rw [n32 (by omega)] at hs
    obtain ⟨j, hj, rfl⟩ := List.getElem_of_mem hc
    exact Or.inr ⟨rfl, hs, fun j hj => ⟨by rw [hv _ (by omega), wide_lo _ _ _ hj], by rw [hv _ (by omega), wide_hi _ _ _ hj]⟩, j, hj, by
      have e : cs.getD j 0 = cs[j] := by simp [List.getD_eq_getElem?_getD, hj]
      show 255 < cs.getD j 0
      rw [e]; exact hw⟩
/-- an object of exactly java/lang/String, its two fields found: as the laws ask it -/
theorem strObj {Z U : State} {a0 : Array Value} {kI : Nat} (wi : (Jvm.Cond.instantiable ST kI).before a0 Z = true) (al : Z.vm.Alike U.vm) {x : Addr} {v0 c0 : Value} (E : RoadKit.Exa Z U.heap x ST) (V : RoadKit.Fld Z U.heap x ST "value" "[B" v0) (C : RoadKit.Fld Z U.heap x ST "coder" "B" c0) :
    ∃ (D : Cell) (fV fC : Field), Blank ST x D U ∧ Found ST "value" "[B" fV U ∧ Found ST "coder" "B" fC U ∧ D.slots[fV.slot]? = some v0 ∧ D.slots[fC.slot]? = some c0 ∧ RoadKit.slotOf Z ST "value" "[B" = fV.slot ∧ RoadKit.slotOf Z ST "coder" "B" = fC.slot := by
  obtain ⟨D, cfV, kV, iV, fV, hD, gV, stV, knV, obV, asV, slV⟩ := V
  obtain ⟨D', cfC, kC, iC, fC, hD', gC, stC, -, -, asC, slC⟩ := C
  cases hD.symm.trans hD'
  obtain ⟨D2, kD, e1, e2, e3, e4, e5⟩ := E
  cases hD.symm.trans e1
  obtain ⟨c2, k2, i1, i2, i3, -⟩ := Cond.instantiable_spec wi
  cases e2.symm.trans i1
  cases e3.symm.trans i2
  obtain ⟨kU, u1, u2⟩ := al.2.2 _ _ e3
  exact ⟨D, fV, fC, ⟨hD, ⟨knV, fun q hq => by rw [hq] at obV; cases obV⟩, by rw [al.findClass]; exact e2, kU, u1, by rw [u2]; exact i3, by rw [u2]; exact e5 i3⟩, ⟨SBG.found_only al ⟨cfV, kV, iV, gV⟩, stV⟩, ⟨SBG.found_only al ⟨cfC, kC, iC, gC⟩, stC⟩, slV, slC, by simp [RoadKit.slotOf, gV], by simp [RoadKit.slotOf, gC]⟩
theorem sta_is {Z U : State} (al : Z.vm.Alike U.vm) {C n d : String} {v : Value} (S : RoadKit.Sta Z U.heap C n d v) : StaticIs U C n d v := by
  obtain ⟨cfS, iS, kS, fS, st, cS, t1, t2, t3, t4, t5, t6, t7⟩ := S
  exact StaticIs.there (s := { Z with heap := U.heap }) ⟨cfS, iS, kS, fS, st, cS, t1, t2, t3, t4, t5, (fun q => by rw [q] at t6; cases t6), t7⟩ al rfl
/-- **length() OF SUCH A STRING** -/
theorem lenW {p : Program} {l : Launch} {e : Env} {R : Room} {s : State} {args : Array Value} {below : List Frame} {len W : Nat} {Z : State} {a0 : Array Value} {h : Heap} (hZ : Z.Warmed39 s.vm) (hw : ∀ d ∈ wordsLen, d.before a0 Z = true) {kI : Nat} (wi : (Jvm.Cond.instantiable ST kI).before a0 Z = true)
    {x t : Addr} {kb : ClassId} {cs : List Int32} {cd N2 z : Int32} {vs : List Value} (E : RoadKit.Exa Z h x ST) (V : RoadKit.Fld Z h x ST "value" "[B" (.ref t)) (C : RoadKit.Fld Z h x ST "coder" "B" (.int cd)) (K : RoadKit.Arv Z h t kb .byte N2 vs (.int 0)) (hc : CodA cs cd N2 vs) (hb : ∀ c ∈ cs, ¬ c < 0 ∧ ¬ (65535 : Int32) < c)
    (S : RoadKit.Sta Z h ST "COMPACT_STRINGS" "Z" (.int z)) (hz : ¬ z = 0) (l2 : cs.length ≤ 4000) (hfr : 2 ≤ R.frames) (hlo : W + 25 ≤ R.locals) :
    Back l R p e below s args (⟨"java/lang/String", "length", "()I"⟩ : MethodName) len W (fun P a => a = #[.ref x] ∧ P.U.heap = h ∧ P.cells + 0 ≤ R.cells ∧ P.slots + 0 ≤ R.slots)
      (fun P _ v B => ∃ L, (v = some (.int (Int32.ofNat cs.length)) ∧ L = [] ∧ B.U.heap = h) ∧ B.locs = P.locs ++ L ∧ B.cells = P.cells + 0 ∧ B.slots = P.slots + 0) := by
  obtain ⟨A, K1, K2, K3, K4, K5, K6⟩ := K
  have hcod := hc.cod (by omega) K3 K5
  intro m meth c P g ig mk a X hg hsize hdg hW hn hp'
  obtain ⟨rfl, rfl, r1, r2⟩ := hp'
  have al : Z.vm.Alike P.U.vm := hZ.alike.trans X.warmed.alike
  obtain ⟨D, fV, fC, hB, F1, F2, g1, g2, -, -⟩ := strObj wi al E V C
  have hx : Txt x t A cd cs.length (fun j => cs.getD j 0) P.U := ⟨⟨_, hB.2.2.1, D, hB.1, rfl, by cases q : D.vm <;> first | rfl | exact absurd q (hB.2.1.2 _)⟩, Has.of hB F1 g1, Has.of hB F2 g2, ⟨K1.1, State.isArrayOf_alike al K1.2.1, K1.2.2, by rcases hcod with ⟨-, q, -⟩ | ⟨-, q, -⟩ <;> omega⟩, hcod, fun j hj => by
    have e : cs.getD j 0 = cs[j] := by simp [List.getD_eq_getElem?_getD, hj]
    show ¬ cs.getD j 0 < 0 ∧ ¬ 65535 < cs.getD j 0
    rw [e]; exact hb _ (List.getElem_mem _)⟩
  obtain ⟨v, B, X', ⟨⟨hv, hh⟩, hl, hk, hs⟩, st⟩ := Len.pays x t A cd cs.length (fun j => cs.getD j 0) z (tabLen_of (movedLen hZ hw)) hfr hlo m meth c P g ig mk _ X hg hsize hdg hW hn ⟨r1, r2, rfl, hx, sta_is al S, hz⟩
  exact ⟨v, B, X', ⟨[], ⟨hv, rfl, hh⟩, hl, hk, hs⟩, st⟩
end StrChars.Road
namespace StrChars
open Jvm Sem ClassFile Op Lib Jvm.Stand Jvm.Free.XT Jvm.Free.ALB Jvm.Free.JM Jvm.Free
open Jvm.Lib.Cold (StaticIs)
/-- what place i of a byte[]'s cell holds -/
def yv (A : Cell) (i : Nat) : Int32 := match A.slots[i]? with | some (.int x) => x | _ => 0
theorem yv_get {a : Addr} {A : Cell} {U : State} (h : XT.Arr .byte a A U) (ht : Typed .byte A) {i : Nat} (hi : i < A.slots.size) : A.slots[i]? = some (.int (yv A i)) := by
  have e := Array.getElem?_eq_getElem hi
  have f := ht i _ e
  unfold yv; rw [e]
  generalize A.slots[i] = v at f
  cases v <;> simp [fits] at f ⊢
/-- the two arrays are equal, place for place -/
def EqC (A B : Cell) : Prop := A.slots.size = B.slots.size ∧ ∀ i, i < A.slots.size → yv A i = yv B i
/-- a boolean that says whether p -/
def Says01 (q : Prop) (r : Option Value) (s u : State) : Prop := ∃ v : Int32, r = some (.int v) ∧ u.heap = s.heap ∧ ((v = 1 ∧ q) ∨ (v = 0 ∧ ¬ q))
theorem Says01.mv {q : Prop} : ∀ r (U U' V V' : State), U'.heap = U.heap → V.vm.Alike V'.vm → V'.heap = V.heap → Says01 q r U V → Says01 q r U' V' :=
  fun r U U' V V' h1 _ h2 ⟨v, a, b, c⟩ => ⟨v, a, by rw [h1, h2]; exact b, c⟩
namespace LEq
def yN : MethodName := ⟨"java/lang/StringLatin1", "equals", "([B[B)Z"⟩
abbrev yB : ByteArray := jdk_43_method_13_code
theorem d0 : decode yB 0 = .ok (.aload_n 0, 1) := by decide +kernel
theorem d1 : decode yB 1 = .ok (.arraylength, 1) := by decide +kernel
theorem d2 : decode yB 2 = .ok (.aload_n 1, 1) := by decide +kernel
theorem d3 : decode yB 3 = .ok (.arraylength, 1) := by decide +kernel
theorem d4 : decode yB 4 = .ok (.if_icmp (.ne) 30, 3) := by decide +kernel
theorem d7 : decode yB 7 = .ok (.iconst 0, 1) := by decide +kernel
theorem d8 : decode yB 8 = .ok (.istore_n 2, 1) := by decide +kernel
theorem d9 : decode yB 9 = .ok (.iload_n 2, 1) := by decide +kernel
theorem d10 : decode yB 10 = .ok (.aload_n 0, 1) := by decide +kernel
theorem d11 : decode yB 11 = .ok (.arraylength, 1) := by decide +kernel
theorem d12 : decode yB 12 = .ok (.if_icmp (.ge) 20, 3) := by decide +kernel
theorem d15 : decode yB 15 = .ok (.aload_n 0, 1) := by decide +kernel
theorem d16 : decode yB 16 = .ok (.iload_n 2, 1) := by decide +kernel
theorem d17 : decode yB 17 = .ok (.baload, 1) := by decide +kernel
theorem d18 : decode yB 18 = .ok (.aload_n 1, 1) := by decide +kernel
theorem d19 : decode yB 19 = .ok (.iload_n 2, 1) := by decide +kernel
theorem d20 : decode yB 20 = .ok (.baload, 1) := by decide +kernel
theorem d21 : decode yB 21 = .ok (.if_icmp (.eq) 5, 3) := by decide +kernel
theorem d24 : decode yB 24 = .ok (.iconst 0, 1) := by decide +kernel
theorem d25 : decode yB 25 = .ok (.ireturn, 1) := by decide +kernel
theorem d26 : decode yB 26 = .ok (.iinc 2 1, 3) := by decide +kernel
theorem d29 : decode yB 29 = .ok (.goto (-20), 3) := by decide +kernel
theorem d32 : decode yB 32 = .ok (.iconst 1, 1) := by decide +kernel
theorem d33 : decode yB 33 = .ok (.ireturn, 1) := by decide +kernel
theorem d34 : decode yB 34 = .ok (.iconst 0, 1) := by decide +kernel
theorem d35 : decode yB 35 = .ok (.ireturn, 1) := by decide +kernel
def site : List Cond := []
def tab : Cond := tabOf yN yB 3 (some .boolean) site
def P (a : Addr) (A : Cell) (b : Addr) (B : Cell) (args : Array Value) (s : State) : Prop := args = #[.ref a, .ref b] ∧ XT.Arr .byte a A s ∧ Typed .byte A ∧ XT.Arr .byte b B s ∧ Typed .byte B
/-- whether two byte[] are equal, place for place -/
theorem law (l : Launch) (a : Addr) (A : Cell) (b : Addr) (B : Cell) : Law l yN 2 2 0 0 yB 3 (some .boolean) site (P a A b B) (Says01 (EqC A B)) [] 0 0 := by
  refine Law.of_walk (plainFor_of_name (by decide +kernel)) (by decide +kernel) (by decide +kernel) (by decide) (fun _ _ h => by rw [h.1]; rfl) (fun _ U U' hal hh h => ⟨h.1, h.2.1.mv hal hh, h.2.2.1, h.2.2.2.1.mv hal hh, h.2.2.2.2⟩) (fun r U U' V V' h1 hal h2 h => Says01.mv r U U' V V' h1 hal h2 h) ?_
  intro p e s m args below meth c s₁ X0 hexec hbytes hml hret hlk hnm hown hh0 W hP
  obtain ⟨rfl, hA, tA, hB, tB⟩ := hP
  have a31 := hA.2.2.2
  have b31 := hB.2.2.2
  have hA0 := hA.mv X0.warmed.alike hh0
  have hB0 := hB.mv X0.warmed.alike hh0
  have c1 : Steps p.tables e below (s₁.setTop (entryFrame m #[.ref a, .ref b] 3)) (s₁.setTop (mkF m 0 #[.val (.ref a), .val (.ref b), .unset] [])) := entry rfl
  have c2 : Steps p.tables e below (s₁.setTop (entryFrame m #[.ref a, .ref b] 3)) (s₁.setTop (mkF m 4 #[.val (.ref a), .val (.ref b), .unset] [.int (Int32.ofNat B.slots.size), .int (Int32.ofNat A.slots.size)])) := c1.trans (by
    refine XS.aloadN X0.here hexec rfl (hb hbytes d0) rfl rfl ?_
    refine X0.alen hexec hA0 rfl rfl (hb hbytes d1) ?_
    refine XS.aloadN X0.here hexec rfl (hb hbytes d2) rfl rfl ?_
    refine X0.alen hexec hB0 rfl rfl (hb hbytes d3) ?_
    exact Steps.refl _)
  by_cases hs : A.slots.size = B.slots.size
  · have c3 : Steps p.tables e below (s₁.setTop (entryFrame m #[.ref a, .ref b] 3)) (s₁.setTop (mkF m 9 #[.val (.ref a), .val (.ref b), .val (.int 0)] [])) := c2.trans (by
      refine XS.icmpNo X0.here hexec rfl (hb hbytes d4) rfl (ii_ne_f (by rw [hs])) ?_
      refine iconstV X0.here hexec rfl 0 (hb hbytes d7) (by decide) ?_
      refine XS.istoreN X0.here hexec rfl (hb hbytes d8) rfl rfl ?_
      exact Steps.refl _)
    have loop : ∀ (r i : Nat), i + r = A.slots.size → (∀ j, j < i → yv A j = yv B j) → Steps p.tables e below (s₁.setTop (entryFrame m #[.ref a, .ref b] 3)) (s₁.setTop (mkF m 9 #[.val (.ref a), .val (.ref b), .val (.int (Int32.ofNat i))] [])) → ∃ (pc : Nat) (Ls : Array Slot) (v : Int32), (pc = 25 ∨ pc = 33) ∧ ((v = 1 ∧ EqC A B) ∨ (v = 0 ∧ ¬ EqC A B)) ∧ Steps p.tables e below (s₁.setTop (entryFrame m #[.ref a, .ref b] 3)) (s₁.setTop (mkF m pc Ls [.int v])) := by
      intro r
      induction r with
      | zero =>
        intro i hi he cl
        exact ⟨33, _, 1, Or.inr rfl, Or.inl ⟨rfl, hs, fun j hj => he j (by omega)⟩, cl.trans (by
          refine XS.iloadN X0.here hexec rfl (hb hbytes d9) rfl ?_
          refine XS.aloadN X0.here hexec rfl (hb hbytes d10) rfl rfl ?_
          refine X0.alen hexec hA0 rfl rfl (hb hbytes d11) ?_
          refine XS.icmpYes X0.here hexec rfl (pc0 := 12) rfl (hb hbytes d12) rfl (ii_ge_t (nlt32 (by omega) (by omega))) (by decide) rfl ?_
          refine iconstV X0.here hexec rfl 1 (hb hbytes d32) (by decide) ?_
          exact Steps.refl _)⟩
      | succ r ih =>
        intro i hi he cl
        have c4 : Steps p.tables e below (s₁.setTop (entryFrame m #[.ref a, .ref b] 3)) (s₁.setTop (mkF m 21 #[.val (.ref a), .val (.ref b), .val (.int (Int32.ofNat i))] [.int (yv B i), .int (yv A i)])) := cl.trans (by
          refine XS.iloadN X0.here hexec rfl (hb hbytes d9) rfl ?_
          refine XS.aloadN X0.here hexec rfl (hb hbytes d10) rfl rfl ?_
          refine X0.alen hexec hA0 rfl rfl (hb hbytes d11) ?_
          refine XS.icmpNo X0.here hexec rfl (hb hbytes d12) rfl (ii_ge_f (lt32 (by omega) (by omega))) ?_
          refine XS.aloadN X0.here hexec rfl (hb hbytes d15) rfl rfl ?_
          refine XS.iloadN X0.here hexec rfl (hb hbytes d16) rfl ?_
          refine X0.aget hexec hA0 rfl (yv_get hA tA (i := i) (by omega)) rfl rfl (hb hbytes d17) ?_
          refine XS.aloadN X0.here hexec rfl (hb hbytes d18) rfl rfl ?_
          refine XS.iloadN X0.here hexec rfl (hb hbytes d19) rfl ?_
          refine X0.aget hexec hB0 rfl (yv_get hB tB (i := i) (by omega)) rfl rfl (hb hbytes d20) ?_
          exact Steps.refl _)
        by_cases hv : yv A i = yv B i
        · have c5 : Steps p.tables e below (s₁.setTop (entryFrame m #[.ref a, .ref b] 3)) (s₁.setTop (mkF m 9 #[.val (.ref a), .val (.ref b), .val (.int (Int32.ofNat i + 1))] [])) := c4.trans (by
            refine XS.icmpYes X0.here hexec rfl (pc0 := 21) rfl (hb hbytes d21) rfl (ii_eq_t hv) (by decide) rfl ?_
            refine iincV X0.here hexec rfl 1 (hb hbytes d26) (by decide) rfl rfl ?_
            refine XS.goto X0.here hexec rfl (pc0 := 29) rfl (hb hbytes d29) (by decide) rfl ?_
            exact Steps.refl _)
          rw [succ32] at c5
          exact ih (i + 1) (by omega) (fun j hj => by
            by_cases e : j = i
            · rw [e]; exact hv
            · exact he j (by omega)) c5
        · exact ⟨25, _, 0, Or.inl rfl, Or.inr ⟨rfl, fun q => hv (q.2 i (by omega))⟩, c4.trans (by
            refine XS.icmpNo X0.here hexec rfl (hb hbytes d21) rfl (ii_eq_f hv) ?_
            refine iconstV X0.here hexec rfl 0 (hb hbytes d24) (by decide) ?_
            exact Steps.refl _)⟩
    obtain ⟨pc, Ls, v, hpc, hv, cz⟩ := loop A.slots.size 0 (by omega) (fun j hj => absurd hj (Nat.not_lt_zero j)) c3
    have nv : narrow .boolean (.int v) = .int v := by rcases hv with ⟨rfl, -⟩ | ⟨rfl, -⟩ <;> rfl
    rcases hpc with rfl | rfl
    · exact ⟨s₁, some (.int v), _, _, _, X0, rfl, rfl, rfl, (fun h => by cases h), ⟨v, rfl, hh0, hv⟩, fun fs hl => cz.trans (X0.ireturnOut hexec hret nv (Or.inr (Or.inl rfl)) (hb hbytes d25) hl)⟩
    · exact ⟨s₁, some (.int v), _, _, _, X0, rfl, rfl, rfl, (fun h => by cases h), ⟨v, rfl, hh0, hv⟩, fun fs hl => cz.trans (X0.ireturnOut hexec hret nv (Or.inr (Or.inl rfl)) (hb hbytes d33) hl)⟩
  · have c3 : Steps p.tables e below (s₁.setTop (entryFrame m #[.ref a, .ref b] 3)) (s₁.setTop (mkF m 35 #[.val (.ref a), .val (.ref b), .unset] [.int 0])) := c2.trans (by
      refine XS.icmpYes X0.here hexec rfl (pc0 := 4) rfl (hb hbytes d4) rfl (ii_ne_t (ne32 a31 b31 hs)) (by decide) rfl ?_
      refine iconstV X0.here hexec rfl 0 (hb hbytes d34) (by decide) ?_
      exact Steps.refl _)
    exact ⟨s₁, some (.int 0), _, _, _, X0, rfl, rfl, rfl, (fun h => by cases h), ⟨0, rfl, hh0, Or.inr ⟨rfl, fun q => hs q.1⟩⟩, fun fs hl => c3.trans (X0.ireturnOut hexec hret rfl (Or.inr (Or.inl rfl)) (hb hbytes d35) hl)⟩
end LEq
theorem Cod.ty {cd : Int32} {n : Nat} {f : Nat → Int32} {V : Cell} (h : Cod cd n f V) : Typed .byte V := fun i v hv => by
  have hi : i < V.slots.size := (Array.getElem?_eq_some_iff.mp hv).1
  rcases h with ⟨-, k1, k2⟩ | ⟨-, k1, k2, -⟩
  · rw [(k2 i (by omega)).1] at hv; cases hv; exact fits_lo8 _
  · rcases Nat.mod_two_eq_zero_or_one i with e | e
    · obtain ⟨j, rfl⟩ : ∃ j, i = 2 * j := ⟨i / 2, by omega⟩
      rw [(k2 j (by omega)).1] at hv; cases hv; exact fits_lo8 _
    · obtain ⟨j, rfl⟩ : ∃ j, i = 2 * j + 1 := ⟨i / 2, by omega⟩
      rw [(k2 j (by omega)).2] at hv; cases hv; exact fits_lo8 _
/-- the same text -/
def SameT (n : Nat) (f : Nat → Int32) (k : Nat) (g : Nat → Int32) : Prop := n = k ∧ ∀ j, j < n → f j = g j
theorem lo8_inj {x y : Int32} (h0 : ¬ x < 0) (h1 : ¬ 255 < x) (k0 : ¬ y < 0) (k1 : ¬ 255 < y) (h : lo8 x = lo8 y) : x = y := by
  rw [← lo8_mask h0 h1, ← lo8_mask k0 k1, h]
/-- arrays coded by one coder are equal just where the texts are -/
theorem Cod.eqv {cd : Int32} {n k : Nat} {f g : Nat → Int32} {V V' : Cell} (h : Cod cd n f V) (h' : Cod cd k g V') (hf : ∀ j, j < n → ¬ f j < 0 ∧ ¬ 65535 < f j) (hg : ∀ j, j < k → ¬ g j < 0 ∧ ¬ 65535 < g j) : EqC V V' ↔ SameT n f k g := by
  have yvv : ∀ {W : Cell} {i : Nat} {x : Int32}, W.slots[i]? = some (.int x) → yv W i = x := fun q => by unfold yv; rw [q]
  rcases h with ⟨rfl, k1, k2⟩ | ⟨rfl, k1, k2, -⟩
  · rcases h' with ⟨-, m1, m2⟩ | ⟨e, -⟩
    · constructor
      · rintro ⟨e1, e2⟩
        refine ⟨by omega, fun j hj => ?_⟩
        have q := e2 j (by omega)
        rw [yvv (k2 j hj).1, yvv (m2 j (by omega)).1] at q
        exact lo8_inj (hf j hj).1 (k2 j hj).2 (hg j (by omega)).1 (m2 j (by omega)).2 q
      · rintro ⟨rfl, e2⟩
        refine ⟨by omega, fun j hj => ?_⟩
        rw [yvv (k2 j (by omega)).1, yvv (m2 j (by omega)).1, e2 j (by omega)]
    · exact absurd e (by decide)
  · rcases h' with ⟨e, -⟩ | ⟨-, m1, m2, -⟩
    · exact absurd e (by decide)
    · constructor
      · rintro ⟨e1, e2⟩
        refine ⟨by omega, fun j hj => ?_⟩
        have q1 := e2 (2 * j) (by omega)
        have q2 := e2 (2 * j + 1) (by omega)
        rw [yvv (k2 j hj).1, yvv (m2 j (by omega)).1] at q1
        rw [yvv (k2 j hj).2, yvv (m2 j (by omega)).2] at q2
        rw [← pair_says (hf j hj).1 (hf j hj).2, ← pair_says (hg j (by omega)).1 (hg j (by omega)).2, q1, q2]
      · rintro ⟨rfl, e2⟩
        refine ⟨by omega, fun i hi => ?_⟩
        rcases Nat.mod_two_eq_zero_or_one i with e | e
        · obtain ⟨j, rfl⟩ : ∃ j, i = 2 * j := ⟨i / 2, by omega⟩
          rw [yvv (k2 j (by omega)).1, yvv (m2 j (by omega)).1, e2 j (by omega)]
        · obtain ⟨j, rfl⟩ : ∃ j, i = 2 * j + 1 := ⟨i / 2, by omega⟩
          rw [yvv (k2 j (by omega)).2, yvv (m2 j (by omega)).2, e2 j (by omega)]
/-- two codings differ: so do the texts -/
theorem Cod.dif {cd cd' : Int32} {n k : Nat} {f g : Nat → Int32} {V V' : Cell} (h : Cod cd n f V) (h' : Cod cd' k g V') (hne : ¬ cd = cd') : ¬ SameT n f k g := by
  rintro ⟨rfl, e⟩
  rcases h with ⟨rfl, -, k2⟩ | ⟨rfl, -, -, j, hj, hw⟩
  · rcases h' with ⟨rfl, -⟩ | ⟨-, -, -, j, hj, hw⟩
    · exact hne rfl
    · exact (k2 j hj).2 (by rw [e j hj]; exact hw)
  · rcases h' with ⟨-, -, m2⟩ | ⟨rfl, -⟩
    · exact (m2 j hj).2 (by rw [← e j hj]; exact hw)
    · exact hne rfl
/-- an object of exactly C is an instance of C -/
theorem cinst {p : Program} {l : Launch} {e : Env} {R : Room} {s : State} {m : MethodId} {args : Array Value} {below : List Frame} {meth : Method} {c : Code} {T : State} {locs : List Loc} {cells slots : Nat} (X : Stand p l e R s m args below meth c T locs cells slots) (hexec : p.tables.exec = Jvm.exec) {own C : String} {index : Nat} (hown : s.vm.findClass own = some m.cls) (hlink : (Cond.classLink own index C).before args s = true) {a : Addr} (hE : Exact C a T)
    {g : JFrame} (hg : g.method = m) {rest : List Value} (hstack : g.stack = .ref a :: rest) (hdg : decode c.code g.pc = .ok (.instanceof index, 3)) :
    ∃ T', Stand p l e R s m args below meth c T' locs cells slots ∧ T'.heap = T.heap ∧ ∀ target, Steps p.tables e below (T'.setTop { g with pc := g.pc + 3, stack := .int 1 :: rest }) target → Steps p.tables e below (T.setTop g) target := by
  obtain ⟨cB, h1, D, h2, h3, h4⟩ := hE
  have h1' : s.vm.findClass C = some cB := by rw [← X.warmed.alike.findClass]; exact h1
  obtain ⟨vm', X', st⟩ := X.instanceofYes hexec hown hlink h2 h4 h1' (by rw [h3]; exact Jvm.Free.SB.assignable_self _ _) hg hstack hdg
  exact ⟨_, X', rfl, st⟩
theorem cself {p : Program} {l : Launch} {e : Env} {R : Room} {s : State} {m : MethodId} {args : Array Value} {below : List Frame} {meth : Method} {c : Code} {T : State} {locs : List Loc} {cells slots : Nat} (X : Stand p l e R s m args below meth c T locs cells slots) (hexec : p.tables.exec = Jvm.exec) {own C : String} {index : Nat} (hown : s.vm.findClass own = some m.cls) (hlink : (Cond.classLink own index C).before args s = true) {a : Addr} (hE : Exact C a T)
    {g : JFrame} (hg : g.method = m) {rest : List Value} (hstack : g.stack = .ref a :: rest) (hdg : decode c.code g.pc = .ok (.checkcast index, 3)) :
    ∃ T', Stand p l e R s m args below meth c T' locs cells slots ∧ T'.heap = T.heap ∧ ∀ target, Steps p.tables e below (T'.setTop { g with pc := g.pc + 3, stack := .ref a :: rest }) target → Steps p.tables e below (T.setTop g) target := by
  obtain ⟨cB, h1, D, h2, h3, h4⟩ := hE
  have h1' : s.vm.findClass C = some cB := by rw [← X.warmed.alike.findClass]; exact h1
  obtain ⟨vm', X', st⟩ := X.checkcastYes hexec hown hlink h2 h4 h1' (by rw [h3]; exact Jvm.Free.SB.assignable_self _ _) hg hstack hdg
  exact ⟨_, X', rfl, fun t h => st t (by rw [← hstack] at h; exact h)⟩
namespace SEq
def yN : MethodName := ⟨"java/lang/String", "equals", "(Ljava/lang/Object;)Z"⟩
abbrev yB : ByteArray := jdk_42_method_66_code
theorem d0 : decode yB 0 = .ok (.aload_n 0, 1) := by decide +kernel
theorem d1 : decode yB 1 = .ok (.aload_n 1, 1) := by decide +kernel
theorem d2 : decode yB 2 = .ok (.if_acmp (.ne) 5, 3) := by decide +kernel
theorem d5 : decode yB 5 = .ok (.iconst 1, 1) := by decide +kernel
theorem d6 : decode yB 6 = .ok (.ireturn, 1) := by decide +kernel
theorem d7 : decode yB 7 = .ok (.aload_n 1, 1) := by decide +kernel
theorem d8 : decode yB 8 = .ok (.instanceof 10, 3) := by decide +kernel
theorem d11 : decode yB 11 = .ok (.ifCond (.eq) 43, 3) := by decide +kernel
theorem d14 : decode yB 14 = .ok (.aload_n 1, 1) := by decide +kernel
theorem d15 : decode yB 15 = .ok (.checkcast 10, 3) := by decide +kernel
theorem d18 : decode yB 18 = .ok (.astore_n 2, 1) := by decide +kernel
theorem d19 : decode yB 19 = .ok (.getstatic 38, 3) := by decide +kernel
theorem d22 : decode yB 22 = .ok (.ifCond (.eq) 14, 3) := by decide +kernel
theorem d25 : decode yB 25 = .ok (.aload_n 0, 1) := by decide +kernel
theorem d26 : decode yB 26 = .ok (.getfield 15, 3) := by decide +kernel
theorem d29 : decode yB 29 = .ok (.aload_n 2, 1) := by decide +kernel
theorem d30 : decode yB 30 = .ok (.getfield 15, 3) := by decide +kernel
theorem d33 : decode yB 33 = .ok (.if_icmp (.ne) 21, 3) := by decide +kernel
theorem d36 : decode yB 36 = .ok (.aload_n 0, 1) := by decide +kernel
theorem d37 : decode yB 37 = .ok (.getfield 9, 3) := by decide +kernel
theorem d40 : decode yB 40 = .ok (.aload_n 2, 1) := by decide +kernel
theorem d41 : decode yB 41 = .ok (.getfield 9, 3) := by decide +kernel
theorem d44 : decode yB 44 = .ok (.invokestatic 541, 3) := by decide +kernel
theorem d47 : decode yB 47 = .ok (.ifCond (.eq) 7, 3) := by decide +kernel
theorem d50 : decode yB 50 = .ok (.iconst 1, 1) := by decide +kernel
theorem d51 : decode yB 51 = .ok (.goto 4, 3) := by decide +kernel
theorem d54 : decode yB 54 = .ok (.iconst 0, 1) := by decide +kernel
theorem d55 : decode yB 55 = .ok (.ireturn, 1) := by decide +kernel
def site : List Cond := [.classLink "java/lang/String" 10 "java/lang/String", .fieldLink "java/lang/String" 38 "java/lang/String" "COMPACT_STRINGS" "Z", .fieldLink "java/lang/String" 15 "java/lang/String" "coder" "B", .fieldLink "java/lang/String" 9 "java/lang/String" "value" "[B", LEq.tab] ++ staticW "java/lang/String" 541 LEq.yN
def tab : Cond := tabOf yN yB 3 (some .boolean) site
def P (x t : Addr) (V : Cell) (cd : Int32) (n : Nat) (f : Nat → Int32) (y t' : Addr) (V' : Cell) (cd' : Int32) (k : Nat) (g : Nat → Int32) (z : Int32) (args : Array Value) (s : State) : Prop := args = #[.ref x, .ref y] ∧ Txt x t V cd n f s ∧ Txt y t' V' cd' k g s ∧ StaticIs s "java/lang/String" "COMPACT_STRINGS" "Z" (.int z) ∧ ¬ z = 0
/-- equals(Object) of two Strings: whether the texts are the same -/
theorem law (l : Launch) (x t : Addr) (V : Cell) (cd : Int32) (n : Nat) (f : Nat → Int32) (y t' : Addr) (V' : Cell) (cd' : Int32) (k : Nat) (g : Nat → Int32) (z : Int32) : Law l yN 2 1 1 14 yB 3 (some .boolean) site (P x t V cd n f y t' V' cd' k g z) (Says01 (SameT n f k g)) [] 0 0 := by
  refine Law.of_walk (plainFor_of_name (by decide +kernel)) (by decide +kernel) (by decide +kernel) (by decide) (fun _ _ h => by rw [h.1]; rfl) (fun _ U U' hal hh h => ⟨h.1, h.2.1.mv hal hh, h.2.2.1.mv hal hh, h.2.2.2.1.there hal hh, h.2.2.2.2⟩) (fun r U U' V V' h1 hal h2 h => Says01.mv r U U' V V' h1 hal h2 h) ?_
  intro p e s m args below meth c s₁ X0 hexec hbytes hml hret hlk hnm hown hh0 W hP
  obtain ⟨rfl, hx, hy, s1, hz⟩ := hP
  have c1 : Steps p.tables e below (s₁.setTop (entryFrame m #[.ref x, .ref y] 3)) (s₁.setTop (mkF m 2 #[.val (.ref x), .val (.ref y), .unset] [.ref y, .ref x])) := Steps.trans (entry rfl) (by
    show Steps p.tables e below (s₁.setTop (mkF m 0 #[.val (.ref x), .val (.ref y), .unset] [])) _
    refine XS.aloadN X0.here hexec rfl (hb hbytes d0) rfl rfl ?_
    refine XS.aloadN X0.here hexec rfl (hb hbytes d1) rfl rfl ?_
    exact Steps.refl _)
  by_cases hxy : x = y
  · have c2 : Steps p.tables e below (s₁.setTop (entryFrame m #[.ref x, .ref y] 3)) (s₁.setTop (mkF m 6 #[.val (.ref x), .val (.ref y), .unset] [.int 1])) := c1.trans (by
      refine acmpNo X0.here hexec rfl (hb hbytes d2) rfl rfl rfl (by simp [acmp, hxy]) ?_
      refine iconstV X0.here hexec rfl 1 (hb hbytes d5) (by decide) ?_
      exact Steps.refl _)
    subst hxy
    have ec : cd = cd' := by
      obtain ⟨D, fd, a1, a2, a3⟩ := hx.2.2.1
      obtain ⟨D', fd', b1, b2, b3⟩ := hy.2.2.1
      cases a1.symm.trans b1
      obtain ⟨q1, q2, q3, q4⟩ := a2.1
      obtain ⟨r1, r2, r3, r4⟩ := b2.1
      cases q4.symm.trans r4
      cases a3.symm.trans b3; rfl
    have et : t = t' := by
      obtain ⟨D, fd, a1, a2, a3⟩ := hx.2.1
      obtain ⟨D', fd', b1, b2, b3⟩ := hy.2.1
      cases a1.symm.trans b1
      obtain ⟨q1, q2, q3, q4⟩ := a2.1
      obtain ⟨r1, r2, r3, r4⟩ := b2.1
      cases q4.symm.trans r4
      cases a3.symm.trans b3; rfl
    subst ec et
    have ev : V = V' := by cases hx.2.2.2.1.1.symm.trans hy.2.2.2.1.1; rfl
    subst ev
    have hs : SameT n f k g := (Cod.eqv hx.2.2.2.2.1 hy.2.2.2.2.1 hx.2.2.2.2.2 hy.2.2.2.2.2).mp ⟨rfl, fun _ _ => rfl⟩
    exact ⟨s₁, some (.int 1), _, _, _, X0, rfl, rfl, rfl, (fun h => by cases h), ⟨1, rfl, hh0, Or.inl ⟨rfl, hs⟩⟩, fun fs hl => c2.trans (X0.ireturnOut hexec hret rfl (Or.inr (Or.inl rfl)) (hb hbytes d6) hl)⟩
  · have c2 : Steps p.tables e below (s₁.setTop (entryFrame m #[.ref x, .ref y] 3)) (s₁.setTop (mkF m 8 #[.val (.ref x), .val (.ref y), .unset] [.ref y])) := c1.trans (by
      refine acmpYes X0.here hexec rfl (pc0 := 2) rfl (hb hbytes d2) rfl rfl rfl (by simp [acmp, hxy]) (by decide) rfl ?_
      refine XS.aloadN X0.here hexec rfl (hb hbytes d7) rfl rfl ?_
      exact Steps.refl _)
    obtain ⟨T3, X3, q3, st3⟩ := cinst X0 hexec hown (wk W (.classLink "java/lang/String" 10 "java/lang/String")) (hy.mv X0.warmed.alike hh0).1 (g := (mkF m 8 #[.val (.ref x), .val (.ref y), .unset] [.ref y])) rfl (rest := []) rfl (hb hbytes d8)
    have hh3 := q3.trans hh0
    have c4 : Steps p.tables e below (s₁.setTop (entryFrame m #[.ref x, .ref y] 3)) (T3.setTop (mkF m 15 #[.val (.ref x), .val (.ref y), .unset] [.ref y])) := (c2.trans (st3 _ (Steps.refl _))).trans (by
      refine XS.ifNo X3.here hexec rfl (hb hbytes d11) rfl (i0_eq_f (by decide)) ?_
      refine XS.aloadN X3.here hexec rfl (hb hbytes d14) rfl rfl ?_
      exact Steps.refl _)
    obtain ⟨T5, X5, q5, st5⟩ := cself X3 hexec hown (wk W (.classLink "java/lang/String" 10 "java/lang/String")) (hy.mv X3.warmed.alike hh3).1 (g := (mkF m 15 #[.val (.ref x), .val (.ref y), .unset] [.ref y])) rfl (rest := []) rfl (hb hbytes d15)
    have hh5 := q5.trans hh3
    have c6 : Steps p.tables e below (s₁.setTop (entryFrame m #[.ref x, .ref y] 3)) (T5.setTop (mkF m 19 #[.val (.ref x), .val (.ref y), .val (.ref y)] [])) := (c4.trans (st5 _ (Steps.refl _))).trans (by
      refine XS.astoreN X5.here hexec rfl (hb hbytes d18) rfl rfl rfl ?_
      exact Steps.refl _)
    obtain ⟨T7, X7, q7, st7⟩ := X5.sget hexec hown (wk W (.fieldLink "java/lang/String" 38 "java/lang/String" "COMPACT_STRINGS" "Z")) s1 (fun _ _ h => by rw [hh5]; exact h) (g := (mkF m 19 #[.val (.ref x), .val (.ref y), .val (.ref y)] [])) rfl (hb hbytes d19)
    have hh7 := q7.trans hh5
    have c8 : Steps p.tables e below (s₁.setTop (entryFrame m #[.ref x, .ref y] 3)) (T7.setTop (mkF m 26 #[.val (.ref x), .val (.ref y), .val (.ref y)] [.ref x])) := (c6.trans (st7 _ (Steps.refl _))).trans (by
      refine XS.ifNo X7.here hexec rfl (hb hbytes d22) rfl (i0_eq_f hz) ?_
      refine XS.aloadN X7.here hexec rfl (hb hbytes d25) rfl rfl ?_
      exact Steps.refl _)
    obtain ⟨T9, X9, q9, st9⟩ := X7.hget hexec hown (wk W (.fieldLink "java/lang/String" 15 "java/lang/String" "coder" "B")) (hx.mv X7.warmed.alike hh7).2.2.1 (g := (mkF m 26 #[.val (.ref x), .val (.ref y), .val (.ref y)] [.ref x])) rfl (rest := []) rfl (hb hbytes d26)
    have hh9 := q9.trans hh7
    have c10 : Steps p.tables e below (s₁.setTop (entryFrame m #[.ref x, .ref y] 3)) (T9.setTop (mkF m 30 #[.val (.ref x), .val (.ref y), .val (.ref y)] [.ref y, .int cd])) := (c8.trans (st9 _ (Steps.refl _))).trans (by
      refine XS.aloadN X9.here hexec rfl (hb hbytes d29) rfl rfl ?_
      exact Steps.refl _)
    obtain ⟨T11, X11, q11, st11⟩ := X9.hget hexec hown (wk W (.fieldLink "java/lang/String" 15 "java/lang/String" "coder" "B")) (hy.mv X9.warmed.alike hh9).2.2.1 (g := (mkF m 30 #[.val (.ref x), .val (.ref y), .val (.ref y)] [.ref y, .int cd])) rfl (rest := [.int cd]) rfl (hb hbytes d30)
    have hh11 := q11.trans hh9
    have c12 : Steps p.tables e below (s₁.setTop (entryFrame m #[.ref x, .ref y] 3)) (T11.setTop (mkF m 33 #[.val (.ref x), .val (.ref y), .val (.ref y)] [.int cd', .int cd])) := c10.trans (st11 _ (Steps.refl _))
    by_cases hcd : cd = cd'
    · subst hcd
      have c13 : Steps p.tables e below (s₁.setTop (entryFrame m #[.ref x, .ref y] 3)) (T11.setTop (mkF m 37 #[.val (.ref x), .val (.ref y), .val (.ref y)] [.ref x])) := c12.trans (by
        refine XS.icmpNo X11.here hexec rfl (hb hbytes d33) rfl (ii_ne_f rfl) ?_
        refine XS.aloadN X11.here hexec rfl (hb hbytes d36) rfl rfl ?_
        exact Steps.refl _)
      obtain ⟨T14, X14, q14, st14⟩ := X11.hget hexec hown (wk W (.fieldLink "java/lang/String" 9 "java/lang/String" "value" "[B")) (hx.mv X11.warmed.alike hh11).2.1 (g := (mkF m 37 #[.val (.ref x), .val (.ref y), .val (.ref y)] [.ref x])) rfl (rest := []) rfl (hb hbytes d37)
      have hh14 := q14.trans hh11
      have c15 : Steps p.tables e below (s₁.setTop (entryFrame m #[.ref x, .ref y] 3)) (T14.setTop (mkF m 41 #[.val (.ref x), .val (.ref y), .val (.ref y)] [.ref y, .ref t])) := (c13.trans (st14 _ (Steps.refl _))).trans (by
        refine XS.aloadN X14.here hexec rfl (hb hbytes d40) rfl rfl ?_
        exact Steps.refl _)
      obtain ⟨T16, X16, q16, st16⟩ := X14.hget hexec hown (wk W (.fieldLink "java/lang/String" 9 "java/lang/String" "value" "[B")) (hy.mv X14.warmed.alike hh14).2.1 (g := (mkF m 41 #[.val (.ref x), .val (.ref y), .val (.ref y)] [.ref y, .ref t])) rfl (rest := [.ref t]) rfl (hb hbytes d41)
      have hh16 := q16.trans hh14
      have c17 : Steps p.tables e below (s₁.setTop (entryFrame m #[.ref x, .ref y] 3)) (T16.setTop (mkF m 44 #[.val (.ref x), .val (.ref y), .val (.ref y)] [.ref t', .ref t])) := c15.trans (st16 _ (Steps.refl _))
      obtain ⟨v18, T18, X18, E18, g18⟩ := X16.callS hexec (LEq.law l t V t' V') hown (wks W (staticW "java/lang/String" 541 LEq.yN)) (wk W LEq.tab) (W := 0) (Nat.le_of_ble_eq_true rfl) (Nat.le_of_ble_eq_true rfl) (Nat.le_refl _) (Nat.le_refl _) (g := (mkF m 44 #[.val (.ref x), .val (.ref y), .val (.ref y)] [.ref t', .ref t])) rfl (by rw [hml]; rfl) c17 (argsL := [.ref t, .ref t']) (rest := []) rfl rfl (by show 2 * 0 + 0 ≤ _; decide) (hb hbytes d44) (⟨rfl, hx.2.2.2.1.mv X16.warmed.alike hh16, hx.2.2.2.2.1.ty, hy.2.2.2.1.mv X16.warmed.alike hh16, hy.2.2.2.2.1.ty⟩)
      obtain ⟨v, rfl, q18, hv⟩ := E18
      have iff := Cod.eqv hx.2.2.2.2.1 hy.2.2.2.2.1 hx.2.2.2.2.2 hy.2.2.2.2.2
      rcases hv with ⟨rfl, he⟩ | ⟨rfl, he⟩
      · have c19 : Steps p.tables e below (s₁.setTop (entryFrame m #[.ref x, .ref y] 3)) (T18.setTop (mkF m 55 #[.val (.ref x), .val (.ref y), .val (.ref y)] [.int 1])) := Steps.trans g18 (by
          refine XS.ifNo X18.here hexec rfl (hb hbytes d47) rfl (i0_eq_f (by decide)) ?_
          refine iconstV X18.here hexec rfl 1 (hb hbytes d50) (by decide) ?_
          refine XS.goto X18.here hexec rfl (pc0 := 51) rfl (hb hbytes d51) (by decide) rfl ?_
          exact Steps.refl _)
        exact ⟨T18, some (.int 1), _, _, _, X18, rfl, rfl, rfl, (fun h => by cases h), ⟨1, rfl, q18.trans hh16, Or.inl ⟨rfl, iff.mp he⟩⟩, fun fs hl => c19.trans (X18.ireturnOut hexec hret rfl (Or.inr (Or.inl rfl)) (hb hbytes d55) hl)⟩
      · have c19 : Steps p.tables e below (s₁.setTop (entryFrame m #[.ref x, .ref y] 3)) (T18.setTop (mkF m 55 #[.val (.ref x), .val (.ref y), .val (.ref y)] [.int 0])) := Steps.trans g18 (by
          refine XS.ifYes X18.here hexec rfl (pc0 := 47) rfl (hb hbytes d47) rfl (i0_eq_t rfl) (by decide) rfl ?_
          refine iconstV X18.here hexec rfl 0 (hb hbytes d54) (by decide) ?_
          exact Steps.refl _)
        exact ⟨T18, some (.int 0), _, _, _, X18, rfl, rfl, rfl, (fun h => by cases h), ⟨0, rfl, q18.trans hh16, Or.inr ⟨rfl, fun q => he (iff.mpr q)⟩⟩, fun fs hl => c19.trans (X18.ireturnOut hexec hret rfl (Or.inr (Or.inl rfl)) (hb hbytes d55) hl)⟩
    · have c13 : Steps p.tables e below (s₁.setTop (entryFrame m #[.ref x, .ref y] 3)) (T11.setTop (mkF m 55 #[.val (.ref x), .val (.ref y), .val (.ref y)] [.int 0])) := c12.trans (by
        refine XS.icmpYes X11.here hexec rfl (pc0 := 33) rfl (hb hbytes d33) rfl (ii_ne_t hcd) (by decide) rfl ?_
        refine iconstV X11.here hexec rfl 0 (hb hbytes d54) (by decide) ?_
        exact Steps.refl _)
      exact ⟨T11, some (.int 0), _, _, _, X11, rfl, rfl, rfl, (fun h => by cases h), ⟨0, rfl, hh11, Or.inr ⟨rfl, Cod.dif hx.2.2.2.2.1 hy.2.2.2.2.1 hcd⟩⟩, fun fs hl => c13.trans (X11.ireturnOut hexec hret rfl (Or.inr (Or.inl rfl)) (hb hbytes d55) hl)⟩
theorem pays {l : Launch} {R : Room} {p : Program} {e : Env} {below : List Frame} {s : State} {sargs : Array Value} {len W : Nat} (x t : Addr) (V : Cell) (cd : Int32) (n : Nat) (f : Nat → Int32) (y t' : Addr) (V' : Cell) (cd' : Int32) (k : Nat) (g : Nat → Int32) (z : Int32) (htab : tab.before sargs s = true) (hfr : 2 ≤ R.frames) (hlo : W + 28 ≤ R.locals) :
    Back l R p e below s sargs yN len W (fun A₁ a₁ => A₁.cells + 0 ≤ R.cells ∧ A₁.slots + 0 ≤ R.slots ∧ P x t V cd n f y t' V' cd' k g z a₁ A₁.U) (fun A₁ _ v₁ B₁ => Says01 (SameT n f k g) v₁ A₁.U B₁.U ∧ B₁.locs = A₁.locs ++ [] ∧ B₁.cells = A₁.cells + 0 ∧ B₁.slots = A₁.slots + 0) :=
  (law l x t V cd n f y t' V' cd' k g z).pays htab hfr (by omega)
end SEq
end StrChars
namespace StrChars.Road
open Jvm Sem ClassFile Op Lib Jvm.Stand Jvm.Free Jvm.Free.XT
open Jvm.Lib.Cold (StaticIs)
/-- the words of String.equals(Object) -/
abbrev wordsEq : List Jvm.Cond := [.code SEq.yN SEq.yB 3 (some .boolean), .initialized ST, .classLink ST 10 ST, .fieldLink ST 38 ST "COMPACT_STRINGS" "Z", .fieldLink ST 15 ST "coder" "B", .fieldLink ST 9 ST "value" "[B", .methodLink ST 541 LEq.yN, .static LEq.yN, .code LEq.yN LEq.yB 3 (some .boolean), .initialized "java/lang/StringLatin1"]
theorem tabEq_of {a : Array Value} {s : State} (h : ∀ w ∈ wordsEq, w.before a s = true) : SEq.tab.before a s = true := by
  have hl : LEq.tab.before a s = true := unparts (wk h (.code LEq.yN LEq.yB 3 (some .boolean))) (wks h (.initialized LEq.yN.cls :: LEq.site))
  have q := consq hl h
  exact unparts (wk q (.code SEq.yN SEq.yB 3 (some .boolean))) (wks q (.initialized SEq.yN.cls :: SEq.site))
theorem movedEq {Z s : State} {a0 args : Array Value} (hZ : Z.Warmed39 s.vm) (hw : ∀ d ∈ wordsEq, d.before a0 Z = true) : ∀ d ∈ wordsEq, d.before args s = true := fun d hd => by
  have t : ∀ d ∈ wordsEq, (d.onTables && d.keepsFace) = true := by decide +kernel
  exact RoadKit.mv hZ (hw d hd) (t d hd)
/-- the road's facts of a String, as the laws ask it -/
theorem txt_of {Z U : State} {a0 : Array Value} {kI : Nat} (wi : (Jvm.Cond.instantiable ST kI).before a0 Z = true) (al : Z.vm.Alike U.vm) {x t : Addr} {kb : ClassId} {cs : List Int32} {cd N2 : Int32} {vs : List Value} (E : RoadKit.Exa Z U.heap x ST) (V : RoadKit.Fld Z U.heap x ST "value" "[B" (.ref t)) (C : RoadKit.Fld Z U.heap x ST "coder" "B" (.int cd)) (K : RoadKit.Arv Z U.heap t kb .byte N2 vs (.int 0)) (hc : CodA cs cd N2 vs) (hb : ∀ c ∈ cs, ¬ c < 0 ∧ ¬ (65535 : Int32) < c) (l2 : cs.length ≤ 4000) :
    ∃ A, Txt x t A cd cs.length (fun j => cs.getD j 0) U := by
  obtain ⟨A, K1, K2, K3, K4, K5, K6⟩ := K
  have hcod := hc.cod (by omega) K3 K5
  obtain ⟨D, fV, fC, hB, F1, F2, g1, g2, -, -⟩ := strObj wi al E V C
  exact ⟨A, ⟨_, hB.2.2.1, D, hB.1, rfl, by cases q : D.vm <;> first | rfl | exact absurd q (hB.2.1.2 _)⟩, Has.of hB F1 g1, Has.of hB F2 g2, ⟨K1.1, State.isArrayOf_alike al K1.2.1, K1.2.2, by rcases hcod with ⟨-, q, -⟩ | ⟨-, q, -⟩ <;> omega⟩, hcod, fun j hj => by
    have e : cs.getD j 0 = cs[j] := by simp [List.getD_eq_getElem?_getD, hj]
    show ¬ cs.getD j 0 < 0 ∧ ¬ 65535 < cs.getD j 0
    rw [e]; exact hb _ (List.getElem_mem _)⟩
theorem same_list (cs ds : List Int32) : SameT cs.length (fun j => cs.getD j 0) ds.length (fun j => ds.getD j 0) ↔ cs = ds := by
  constructor
  · rintro ⟨e, q⟩
    refine List.ext_getElem e fun j h1 h2 => ?_
    have := q j h1
    simpa [List.getD_eq_getElem?_getD, h1, h2] using this
  · rintro rfl
    exact ⟨rfl, fun _ _ => rfl⟩
/-- **equals(Object) OF TWO SUCH STRINGS**: 1 just where the chars are the same -/
theorem eqW {p : Program} {l : Launch} {e : Env} {R : Room} {s : State} {args : Array Value} {below : List Frame} {len W : Nat} {Z : State} {a0 : Array Value} {h : Heap} (hZ : Z.Warmed39 s.vm) (hw : ∀ d ∈ wordsEq, d.before a0 Z = true) {kI : Nat} (wi : (Jvm.Cond.instantiable ST kI).before a0 Z = true)
    {x t : Addr} {kb : ClassId} {cs : List Int32} {cd N2 : Int32} {vs : List Value} (E : RoadKit.Exa Z h x ST) (V : RoadKit.Fld Z h x ST "value" "[B" (.ref t)) (C : RoadKit.Fld Z h x ST "coder" "B" (.int cd)) (K : RoadKit.Arv Z h t kb .byte N2 vs (.int 0)) (hc : CodA cs cd N2 vs) (hb : ∀ c ∈ cs, ¬ c < 0 ∧ ¬ (65535 : Int32) < c) (l2 : cs.length ≤ 4000)
    {y t' : Addr} {kb' : ClassId} {ds : List Int32} {cd' N2' : Int32} {vs' : List Value} (E' : RoadKit.Exa Z h y ST) (V' : RoadKit.Fld Z h y ST "value" "[B" (.ref t')) (C' : RoadKit.Fld Z h y ST "coder" "B" (.int cd')) (K' : RoadKit.Arv Z h t' kb' .byte N2' vs' (.int 0)) (hc' : CodA ds cd' N2' vs') (hb' : ∀ c ∈ ds, ¬ c < 0 ∧ ¬ (65535 : Int32) < c) (l2' : ds.length ≤ 4000)
    {z : Int32} (S : RoadKit.Sta Z h ST "COMPACT_STRINGS" "Z" (.int z)) (hz : ¬ z = 0) (hfr : 2 ≤ R.frames) (hlo : W + 28 ≤ R.locals) :
    Back l R p e below s args (⟨"java/lang/String", "equals", "(Ljava/lang/Object;)Z"⟩ : MethodName) len W (fun P a => a = #[.ref x, .ref y] ∧ P.U.heap = h ∧ P.cells + 0 ≤ R.cells ∧ P.slots + 0 ≤ R.slots)
      (fun P _ v B => ∃ L, (((v = some (.int 1) ∧ cs = ds) ∨ (v = some (.int 0) ∧ ¬ cs = ds)) ∧ L = [] ∧ B.U.heap = h) ∧ B.locs = P.locs ++ L ∧ B.cells = P.cells + 0 ∧ B.slots = P.slots + 0) := by
  intro m meth c P g ig mk a X hg hsize hdg hW hn hp'
  obtain ⟨rfl, rfl, r1, r2⟩ := hp'
  have al : Z.vm.Alike P.U.vm := hZ.alike.trans X.warmed.alike
  obtain ⟨A, hx⟩ := txt_of wi al E V C K hc hb l2
  obtain ⟨A', hy⟩ := txt_of wi al E' V' C' K' hc' hb' l2'
  obtain ⟨v, B, X', ⟨⟨w, hv, hh, hq⟩, hl, hk, hs⟩, st⟩ := SEq.pays x t A cd cs.length (fun j => cs.getD j 0) y t' A' cd' ds.length (fun j => ds.getD j 0) z (tabEq_of (movedEq hZ hw)) hfr hlo m meth c P g ig mk _ X hg hsize hdg hW hn ⟨r1, r2, rfl, hx, hy, sta_is al S, hz⟩
  refine ⟨v, B, X', ⟨[], ⟨?_, rfl, hh⟩, hl, hk, hs⟩, st⟩
  rcases hq with ⟨rfl, q⟩ | ⟨rfl, q⟩
  · exact Or.inl ⟨hv, (same_list cs ds).mp q⟩
  · exact Or.inr ⟨hv, fun e => q ((same_list cs ds).mpr e)⟩
end StrChars.Road
namespace StrChars
open Jvm Sem ClassFile Op Lib Jvm.Stand Jvm.Free.XT Jvm.Free.ALB Jvm.Free.JM Jvm.Free
open Jvm.Lib.Cold (StaticIs)
namespace ChN
def yN : MethodName := ⟨"java/lang/String", "charAt", "(I)C"⟩
abbrev yB : ByteArray := jdk_42_method_56_code
theorem d0 : decode yB 0 = .ok (.aload_n 0, 1) := by decide +kernel
theorem d1 : decode yB 1 = .ok (.invokevirtual 492, 3) := by decide +kernel
theorem d4 : decode yB 4 = .ok (.ifCond (.eq) 12, 3) := by decide +kernel
theorem d7 : decode yB 7 = .ok (.aload_n 0, 1) := by decide +kernel
theorem d8 : decode yB 8 = .ok (.getfield 9, 3) := by decide +kernel
theorem d11 : decode yB 11 = .ok (.iload_n 1, 1) := by decide +kernel
theorem d12 : decode yB 12 = .ok (.invokestatic 495, 3) := by decide +kernel
theorem d15 : decode yB 15 = .ok (.ireturn, 1) := by decide +kernel
def site : List Cond := [.fieldLink "java/lang/String" 9 "java/lang/String" "value" "[B", IsL.tab, LChA.tab] ++ virtW "java/lang/String" 492 "java/lang/String" IsL.yN IsL.yN ++ staticW "java/lang/String" 495 LChA.yN
def tab : Cond := tabOf yN yB 2 (some .char) site
def P (x t : Addr) (V : Cell) (n : Nat) (f : Nat → Int32) (z : Int32) (fm : Value) (i : Nat) (args : Array Value) (s : State) : Prop := args = #[.ref x, .int (Int32.ofNat i)] ∧ Txt x t V 0 n f s ∧ i < n ∧ StaticIs s "java/lang/String" "COMPACT_STRINGS" "Z" (.int z) ∧ ¬ z = 0 ∧ StaticIs s "jdk/internal/util/Preconditions" "SIOOBE_FORMATTER" "Ljava/util/function/BiFunction;" fm ∧ fm.isRef = true
def E (f : Nat → Int32) (i : Nat) (r : Option Value) (s u : State) : Prop := XT.PureE (some (.int (f i))) r s u
/-- charAt(i) of a Latin-1 String of n chars, i < n: f i -/
theorem law (l : Launch) (x t : Addr) (V : Cell) (n : Nat) (f : Nat → Int32) (z : Int32) (fm : Value) (i : Nat) : Law l yN 2 1 3 40 yB 2 (some .char) site (P x t V n f z fm i) (E f i) [] 0 0 := by
  refine Law.of_walk (plainFor_of_name (by decide +kernel)) (by decide +kernel) (by decide +kernel) (by decide) (fun _ _ h => by rw [h.1]; rfl) (fun _ U U' hal hh h => ⟨h.1, h.2.1.mv hal hh, h.2.2.1, h.2.2.2.1.there hal hh, h.2.2.2.2.1, h.2.2.2.2.2.1.there hal hh, h.2.2.2.2.2.2⟩) (fun r U U' V V' h1 hal h2 h => XT.PureE.mv r U U' V V' h1 hal h2 h) ?_
  intro p e s m args below meth c s₁ X0 hexec hbytes hml hret hlk hnm hown hh0 W hP
  obtain ⟨rfl, hx, hi, s1, hz, s3, rf⟩ := hP
  have v31 := hx.2.2.2.1.2.2.2
  have hr := hx.2.2.2.2.2 i hi
  have hx0 := hx.mv X0.warmed.alike hh0
  have c1 : Steps p.tables e below (s₁.setTop (entryFrame m #[.ref x, .int (Int32.ofNat i)] 2)) (s₁.setTop (mkF m 1 #[.val (.ref x), .val (.int (Int32.ofNat i))] [.ref x])) := Steps.trans (entry rfl) (by
    show Steps p.tables e below (s₁.setTop (mkF m 0 #[.val (.ref x), .val (.int (Int32.ofNat i))] [])) _
    refine XS.aloadN X0.here hexec rfl (hb hbytes d0) rfl rfl ?_
    exact Steps.refl _)
  obtain ⟨v2, T2, X2, E2, g2⟩ := X0.callV hexec (IsL.law l x 0 z) hown (wks W (virtW "java/lang/String" 492 "java/lang/String" IsL.yN IsL.yN)) rfl (by decide) (wk W IsL.tab) (W := 0) (Nat.le_of_ble_eq_true rfl) (Nat.le_of_ble_eq_true rfl) (Nat.le_refl _) (Nat.le_refl _) (hx0.1.fc X0.warmed.alike) hx0.1.is (g := (mkF m 1 #[.val (.ref x), .val (.int (Int32.ofNat i))] [.ref x])) rfl (by rw [hml]; rfl) c1 (argsL := []) (rest := []) rfl rfl (by show 2 * 0 + 0 ≤ _; decide) (hb hbytes d1) (⟨rfl, hx0.2.2.1, hx.2.2.2.2.1.cd, s1.there X0.warmed.alike hh0, hz⟩)
  obtain ⟨rfl, q2⟩ := E2
  have hh2 := q2.trans hh0
  have hx2 := hx.mv X2.warmed.alike hh2
  obtain ⟨-, k1, k2⟩ | ⟨k0, -⟩ := hx.2.2.2.2.1
  · have c3 : Steps p.tables e below (s₁.setTop (entryFrame m #[.ref x, .int (Int32.ofNat i)] 2)) (T2.setTop (mkF m 8 #[.val (.ref x), .val (.int (Int32.ofNat i))] [.ref x])) := Steps.trans g2 (by
      refine XS.ifNo X2.here hexec rfl (hb hbytes d4) rfl (i0_eq_f (by decide)) ?_
      refine XS.aloadN X2.here hexec rfl (hb hbytes d7) rfl rfl ?_
      exact Steps.refl _)
    obtain ⟨T4, X4, q4, st4⟩ := X2.hget hexec hown (wk W (.fieldLink "java/lang/String" 9 "java/lang/String" "value" "[B")) hx2.2.1 (g := (mkF m 8 #[.val (.ref x), .val (.int (Int32.ofNat i))] [.ref x])) rfl (rest := []) rfl (hb hbytes d8)
    have hh4 := q4.trans hh2
    have c5 : Steps p.tables e below (s₁.setTop (entryFrame m #[.ref x, .int (Int32.ofNat i)] 2)) (T4.setTop (mkF m 12 #[.val (.ref x), .val (.int (Int32.ofNat i))] [.int (Int32.ofNat i), .ref t])) := (c3.trans (st4 _ (Steps.refl _))).trans (by
      refine XS.iloadN X4.here hexec rfl (hb hbytes d11) rfl ?_
      exact Steps.refl _)
    obtain ⟨v6, T6, X6, E6, g6⟩ := X4.callS hexec (LChA.law l t V i (lo8 (f i)) fm) hown (wks W (staticW "java/lang/String" 495 LChA.yN)) (wk W LChA.tab) (W := 0) (Nat.le_of_ble_eq_true rfl) (Nat.le_of_ble_eq_true rfl) (Nat.le_refl _) (Nat.le_refl _) (g := (mkF m 12 #[.val (.ref x), .val (.int (Int32.ofNat i))] [.int (Int32.ofNat i), .ref t])) rfl (by rw [hml]; rfl) c5 (argsL := [.ref t, .int (Int32.ofNat i)]) (rest := []) rfl rfl (by show 2 * 0 + 0 ≤ _; decide) (hb hbytes d12) (⟨rfl, hx.2.2.2.1.mv X4.warmed.alike hh4, (k2 i hi).1, s3.there X4.warmed.alike hh4, rf⟩)
    obtain ⟨rfl, q6⟩ := E6
    rw [chr8_lo8 hr.1 (k2 i hi).2] at g6
    exact ⟨T6, some (.int (f i)), _, _, _, X6, rfl, rfl, rfl, (fun h => by cases h), ⟨rfl, q6.trans hh4⟩, fun fs hl => Steps.trans g6 (X6.ireturnOut hexec hret (narrow_ch hr.1 hr.2) (Or.inr (Or.inr (Or.inr (Or.inl rfl)))) (hb hbytes d15) hl)⟩
  · exact absurd k0 (by decide)
theorem pays {l : Launch} {R : Room} {p : Program} {e : Env} {below : List Frame} {s : State} {sargs : Array Value} {len W : Nat} (x t : Addr) (V : Cell) (n : Nat) (f : Nat → Int32) (z : Int32) (fm : Value) (i : Nat) (htab : tab.before sargs s = true) (hfr : 4 ≤ R.frames) (hlo : W + 53 ≤ R.locals) :
    Back l R p e below s sargs yN len W (fun A₁ a₁ => A₁.cells + 0 ≤ R.cells ∧ A₁.slots + 0 ≤ R.slots ∧ P x t V n f z fm i a₁ A₁.U) (fun A₁ _ v₁ B₁ => E f i v₁ A₁.U B₁.U ∧ B₁.locs = A₁.locs ++ [] ∧ B₁.cells = A₁.cells + 0 ∧ B₁.slots = A₁.slots + 0) :=
  (law l x t V n f z fm i).pays htab hfr (by omega)
end ChN
end StrChars
namespace StrChars.Road
open Jvm Sem ClassFile Op Lib Jvm.Stand Jvm.Free Jvm.Free.XT
open Jvm.Lib.Cold (StaticIs)
/-- the words of String.charAt(int), the Latin-1 road alone -/
abbrev wordsChN : List Jvm.Cond := [.code ChN.yN ChN.yB 2 (some .char), .initialized ST, .fieldLink ST 9 ST "value" "[B", .fieldLink ST 38 ST "COMPACT_STRINGS" "Z", .fieldLink ST 15 ST "coder" "B", .code IsL.yN IsL.yB 1 (some .boolean), .methodLink ST 492 IsL.yN, .declares IsL.yN, .selects ST IsL.yN IsL.yN, .instanceMethod IsL.yN,
  .methodLink ST 495 LChA.yN, .static LChA.yN, .code LChA.yN LChA.yB 2 (some .char), .initialized "java/lang/StringLatin1", .methodLink "java/lang/StringLatin1" 9 JO.Str_checkIndex.yN, .static JO.Str_checkIndex.yN, .code JO.Str_checkIndex.yN JO.Str_checkIndex.yB 2 none,
  .fieldLink ST 1053 "jdk/internal/util/Preconditions" "SIOOBE_FORMATTER" "Ljava/util/function/BiFunction;", .methodLink ST 1059 JC.PreCheck.yN, .static JC.PreCheck.yN, .code JC.PreCheck.yN JC.PreCheck.yB 3 (some .int), .initialized "jdk/internal/util/Preconditions"]
theorem tabChN_of {a : Array Value} {s : State} (h : ∀ w ∈ wordsChN, w.before a s = true) : ChN.tab.before a s = true := by
  have hp : JC.PreCheck.tab.before a s = true := unparts (wk h (.code JC.PreCheck.yN JC.PreCheck.yB 3 (some .int))) (wks h (.initialized JC.PreCheck.yN.cls :: JC.PreCheck.site))
  have qk := consq hp h
  have hk : JO.Str_checkIndex.tab.before a s = true := unparts (wk qk (.code JO.Str_checkIndex.yN JO.Str_checkIndex.yB 2 none)) (wks qk (.initialized JO.Str_checkIndex.yN.cls :: JO.Str_checkIndex.site))
  have ql := consq hk h
  have hl : LChA.tab.before a s = true := unparts (wk ql (.code LChA.yN LChA.yB 2 (some .char))) (wks ql (.initialized LChA.yN.cls :: LChA.site))
  have hi : IsL.tab.before a s = true := unparts (wk h (.code IsL.yN IsL.yB 1 (some .boolean))) (wks h (.initialized IsL.yN.cls :: IsL.site))
  have q := consq hi (consq hl h)
  exact unparts (wk q (.code ChN.yN ChN.yB 2 (some .char))) (wks q (.initialized ChN.yN.cls :: ChN.site))
theorem movedChN {Z s : State} {a0 args : Array Value} (hZ : Z.Warmed39 s.vm) (hw : ∀ d ∈ wordsChN, d.before a0 Z = true) : ∀ d ∈ wordsChN, d.before args s = true := fun d hd => by
  have t : ∀ d ∈ wordsChN, (d.onTables && d.keepsFace) = true := by decide +kernel
  exact RoadKit.mv hZ (hw d hd) (t d hd)
/-- **charAt(i) OF A LATIN-1 STRING**, i < n: the char -/
theorem chN {p : Program} {l : Launch} {e : Env} {R : Room} {s : State} {args : Array Value} {below : List Frame} {len W : Nat} {Z : State} {a0 : Array Value} {h : Heap} (hZ : Z.Warmed39 s.vm) (hw : ∀ d ∈ wordsChN, d.before a0 Z = true) {kI : Nat} (wi : (Jvm.Cond.instantiable ST kI).before a0 Z = true)
    {x t : Addr} {kb : ClassId} {cs : List Int32} {N2 z : Int32} {vs : List Value} {fm : Value} {i : Nat} {j : Int32} (E : RoadKit.Exa Z h x ST) (V : RoadKit.Fld Z h x ST "value" "[B" (.ref t)) (C : RoadKit.Fld Z h x ST "coder" "B" (.int 0)) (K : RoadKit.Arv Z h t kb .byte N2 vs (.int 0)) (hc : CodA cs 0 N2 vs) (hb : ∀ c ∈ cs, ¬ c < 0 ∧ ¬ (65535 : Int32) < c)
    (S : RoadKit.Sta Z h ST "COMPACT_STRINGS" "Z" (.int z)) (hz : ¬ z = 0) (F : RoadKit.Sta Z h "jdk/internal/util/Preconditions" "SIOOBE_FORMATTER" "Ljava/util/function/BiFunction;" fm) (rf : fm.isRef = true) (l2 : cs.length ≤ 4000) (hi : i < cs.length) (hj : j = Int32.ofNat i) (hfr : 4 ≤ R.frames) (hlo : W + 53 ≤ R.locals) :
    Back l R p e below s args (⟨"java/lang/String", "charAt", "(I)C"⟩ : MethodName) len W (fun P a => a = #[.ref x, .int j] ∧ P.U.heap = h ∧ P.cells + 0 ≤ R.cells ∧ P.slots + 0 ≤ R.slots)
      (fun P _ v B => ∃ L, (v = some (.int (cs.getD i 0)) ∧ L = [] ∧ B.U.heap = h) ∧ B.locs = P.locs ++ L ∧ B.cells = P.cells + 0 ∧ B.slots = P.slots + 0) := by
  subst hj
  intro m meth c P g ig mk a X hg hsize hdg hW hn hp'
  obtain ⟨rfl, rfl, r1, r2⟩ := hp'
  have al : Z.vm.Alike P.U.vm := hZ.alike.trans X.warmed.alike
  obtain ⟨A, hx⟩ := txt_of wi al E V C K hc hb l2
  obtain ⟨v, B, X', ⟨⟨hv, hh⟩, hl, hk, hs⟩, st⟩ := ChN.pays x t A cs.length (fun j => cs.getD j 0) z fm i (tabChN_of (movedChN hZ hw)) hfr hlo m meth c P g ig mk _ X hg hsize hdg hW hn ⟨r1, r2, rfl, hx, hi, sta_is al S, hz, sta_is al F, rf⟩
  exact ⟨v, B, X', ⟨[], ⟨hv, rfl, hh⟩, hl, hk, hs⟩, st⟩
/-- what backV says of its String, as the contracts of this text ask it: cs's low bytes, coder 0 -/
theorem codOf {cs : List Int32} {n : Nat} (hn : cs.length = n) (hb : ∀ c ∈ cs, ¬ 255 < c) : CodA cs 0 (Int32.ofNat n) ((cs.map lo8).map Value.int) := Or.inl ⟨rfl, by rw [hn], by simp [List.map_map, Function.comp_def], hb⟩
end StrChars.Road
end Jvm.Pilot.@@N@@

namespace Jvm.Pilot.@@N@@
open Jvm Jvm.ClassFile Sem Op Lib Jvm.Free Jvm.Stand Jvm.LawKit Jvm.RoadKit Bundle Jvm.Pilot.@@N@@.Jvm.D
/-! MY OWN LAYER: the walk in continuation form -/
abbrev Bx : Type := Program × Launch × Env × Room × State × MethodId × Array Value × List Frame × Method × Code × (Option Value → State → List Loc → Prop)
def De (b : ByteArray) (pc : Nat) (i : Instr) (k n : Nat) : Prop := decode b pc = .ok (i, k) ∧ pc + k = n
def Go (B : Bx) (n0 : Nat) (Q : Option Value → Heap → Prop) (h : Heap) (ce sl pc : Nat) (Ls : Array Slot) (S : List Value) : Prop :=
  match B with
  | (p, l, e, R, s, m, args, below, meth, c, Fin) => ∀ (T : State) (locs : List Loc), Stand p l e R s m args below meth c T locs ce sl → T.heap = h → Fr n0 locs →
    ∃ s₂ o, Steps p.tables e below (T.setTop (mkF m pc Ls S)) s₂ ∧ s₂.status = .running ∧ Ended s₂ below o ∧ h.size ≤ s₂.heap.size ∧ ∃ (v : Option Value) (L : List Loc), o = .returned v ∧ Q v s₂.heap ∧ Fin v s₂ L
def Cx (B : Bx) (l0 : Launch) (Z : State) (a0 : Array Value) (R0 : Room) (y : MethodName) (b : ByteArray) (mx : Nat) (rt : Option FieldType) (nf : Nat) : Prop :=
  match B with
  | (p, l, e, R, s, m, args, below, meth, c, Fin) => l = l0 ∧ R = R0 ∧ p.tables.exec = Jvm.exec ∧ c.code = b ∧ c.maxLocals = mx ∧ s.vm.findClass y.cls = some m.cls ∧ meth.name = y.name ∧ meth.sig.returnType = rt ∧ meth.locks = false ∧ Z.Warmed39 s.vm ∧ (∀ (v : Option Value) (t : State) (L : List Loc), Fr nf L → FrameEnd s (.returned v) t L R.cells R.slots → Fin v t L) ∧ ∀ d ∈ tables_1, d.before a0 Z = true
def QQ (n0 : Nat) (h0 : Heap) (Q : Option Value → Heap → Prop) (v : Option Value) (h : Heap) (L : List Loc) : Prop := Q v h ∧ Fr n0 L ∧ h0.size ≤ h.size
def Pays (l : Launch) (Z : State) (y : MethodName) (b : ByteArray) (mx : Nat) (rt : Option FieldType) (rm : Room) (as' : Array Value) (n0 : Nat) (h0 : Heap) (Q : Option Value → Heap → Prop) : Prop :=
  ∀ ws : List Jvm.Cond, MetFree l y (head1 (Jvm.Cond.code y b mx rt :: ws) rm) (fun a U => a = as' ∧ Z.Warmed39 U.vm ∧ U.heap = h0) (fun _ _ _ _ _ => True) (fun _ U o U' => ∃ v L, o = .returned v ∧ QQ n0 h0 Q v U'.heap L ∧ FrameEnd U o U' L rm.cells rm.slots)
section Flow
variable {B : Bx} {n0 nf : Nat} {Q : Option Value → Heap → Prop} {h : Heap} {ce sl pc n : Nat} {Ls Ls' : Array Slot} {S S' : List Value} {l : Launch} {Z : State} {a0 : Array Value} {R : Room} {y : MethodName} {b : ByteArray} {mx : Nat} {rt : Option FieldType}
theorem Pays.mono {rm : Room} {as' : Array Value} {Q' : Option Value → Heap → Prop} (hM : Pays l Z y b mx rt rm as' n0 h Q) (hq : ∀ v h, Q v h → Q' v h) : Pays l Z y b mx rt rm as' n0 h Q' := by
  intro ws p e ha hc hk s m args below hf happ hP hK
  obtain ⟨k, o, h1, h2, h3, v, L, h4, h5, h6⟩ := hM ws p e ha hc hk s m args below hf happ hP hK
  exact ⟨k, o, h1, h2, h3, v, L, h4, ⟨hq _ _ h5.1, h5.2⟩, h6⟩
theorem Pays.of (hw : ∀ d ∈ tables_1, d.before a0 Z = true) (hp : plainFor y = true) {rm : Room} {as' : Array Value} (ef : ∀ m, entryFrame m as' mx = mkF m 0 Ls []) (hb : ∀ B, Cx B l Z a0 rm y b mx rt n0 → Go B n0 Q h 0 0 0 Ls []) : Pays l Z y b mx rt rm as' n0 h Q := by
  intro ws
  refine MetFree.of_bodySF hp hisR ?_
  intro p e s m args below meth c s₁ Bd hml0 hP hK
  obtain ⟨rfl, hZ, hh⟩ := hP
  have X0 : Stand p l e rm s m args below meth c s₁ [] 0 0 := Stand.of_body Bd
  have e0 : s₁.heap = h := by rw [← hh, Bd.state]; rfl
  obtain ⟨s₂, o, st, r1, r2, r6, v, L, r3, r4, r5, r7⟩ := hb (p, l, e, rm, s, m, args, below, meth, c, fun v t L => Fr n0 L ∧ FrameEnd s (.returned v) t L rm.cells rm.slots) ⟨rfl, rfl, Bd.exec, Bd.bytes, hml0, findClass_of_methodNamed Bd.named, (name_of_methodNamed Bd.named Bd.method).1, Bd.returns, BodyLoose.notSynchronized Bd, hZ, fun _ _ _ q1 q2 => ⟨q1, q2⟩, hw⟩ s₁ [] X0 e0 (Fr.nil n0)
  subst r3
  exact ⟨s₂, _, castTop (ef m) st, r1, r2, v, L, rfl, ⟨r4, r5, r6⟩, r7⟩
theorem iAloadN (C : Cx B l Z a0 R y b mx rt nf) {k : Fin 4} {v : Value} (hd : De b pc (.aload_n k) 1 n) (hl : Ls[k.val]? = some (.val v)) (hv : v.isRef = true) (K : Go B n0 Q h ce sl n Ls (v :: S)) : Go B n0 Q h ce sl pc Ls (S) := by
  obtain ⟨p, l', e, R', s, m, args, below, meth, c, Fin⟩ := B
  obtain ⟨rfl, rfl, hx, rfl, hml, hown, hnm, hret, hlk, hZ, hfin, hw⟩ := C
  intro T locs X eT N
  obtain ⟨hd, rfl⟩ := hd
  obtain ⟨s₂, o, st, r⟩ := K T locs X eT N
  exact ⟨s₂, o, XS.aloadN X.here hx rfl hd hl hv st, r⟩
theorem iAload (C : Cx B l Z a0 R y b mx rt nf) {k : Nat} {v : Value} (hd : De b pc (.aload k) 2 n) (hl : Ls[k]? = some (.val v)) (hv : v.isRef = true) (K : Go B n0 Q h ce sl n Ls (v :: S)) : Go B n0 Q h ce sl pc Ls (S) := by
  obtain ⟨p, l', e, R', s, m, args, below, meth, c, Fin⟩ := B
  obtain ⟨rfl, rfl, hx, rfl, hml, hown, hnm, hret, hlk, hZ, hfin, hw⟩ := C
  intro T locs X eT N
  obtain ⟨hd, rfl⟩ := hd
  obtain ⟨s₂, o, st, r⟩ := K T locs X eT N
  exact ⟨s₂, o, XS.aload X.here hx rfl hd hl hv st, r⟩
theorem iIloadN (C : Cx B l Z a0 R y b mx rt nf) {k : Fin 4} {v : Int32} (hd : De b pc (.iload_n k) 1 n) (hl : Ls[k.val]? = some (.val (.int v))) (K : Go B n0 Q h ce sl n Ls (.int v :: S)) : Go B n0 Q h ce sl pc Ls (S) := by
  obtain ⟨p, l', e, R', s, m, args, below, meth, c, Fin⟩ := B
  obtain ⟨rfl, rfl, hx, rfl, hml, hown, hnm, hret, hlk, hZ, hfin, hw⟩ := C
  intro T locs X eT N
  obtain ⟨hd, rfl⟩ := hd
  obtain ⟨s₂, o, st, r⟩ := K T locs X eT N
  exact ⟨s₂, o, XS.iloadN X.here hx rfl hd hl st, r⟩
theorem iIload (C : Cx B l Z a0 R y b mx rt nf) {k : Nat} {v : Int32} (hd : De b pc (.iload k) 2 n) (hl : Ls[k]? = some (.val (.int v))) (K : Go B n0 Q h ce sl n Ls (.int v :: S)) : Go B n0 Q h ce sl pc Ls (S) := by
  obtain ⟨p, l', e, R', s, m, args, below, meth, c, Fin⟩ := B
  obtain ⟨rfl, rfl, hx, rfl, hml, hown, hnm, hret, hlk, hZ, hfin, hw⟩ := C
  intro T locs X eT N
  obtain ⟨hd, rfl⟩ := hd
  obtain ⟨s₂, o, st, r⟩ := K T locs X eT N
  exact ⟨s₂, o, XS.iload X.here hx rfl hd hl st, r⟩
theorem iLloadN (C : Cx B l Z a0 R y b mx rt nf) {k : Fin 4} {v : Int64} (hd : De b pc (.lload_n k) 1 n) (hl : Ls[k.val]? = some (.val (.long v))) (K : Go B n0 Q h ce sl n Ls (.long v :: S)) : Go B n0 Q h ce sl pc Ls (S) := by
  obtain ⟨p, l', e, R', s, m, args, below, meth, c, Fin⟩ := B
  obtain ⟨rfl, rfl, hx, rfl, hml, hown, hnm, hret, hlk, hZ, hfin, hw⟩ := C
  intro T locs X eT N
  obtain ⟨hd, rfl⟩ := hd
  obtain ⟨s₂, o, st, r⟩ := K T locs X eT N
  exact ⟨s₂, o, XT.lloadN X.here hx rfl hd hl st, r⟩
theorem iLload (C : Cx B l Z a0 R y b mx rt nf) {k : Nat} {v : Int64} (hd : De b pc (.lload k) 2 n) (hl : Ls[k]? = some (.val (.long v))) (K : Go B n0 Q h ce sl n Ls (.long v :: S)) : Go B n0 Q h ce sl pc Ls (S) := by
  obtain ⟨p, l', e, R', s, m, args, below, meth, c, Fin⟩ := B
  obtain ⟨rfl, rfl, hx, rfl, hml, hown, hnm, hret, hlk, hZ, hfin, hw⟩ := C
  intro T locs X eT N
  obtain ⟨hd, rfl⟩ := hd
  obtain ⟨s₂, o, st, r⟩ := K T locs X eT N
  exact ⟨s₂, o, XT.lload X.here hx rfl hd hl st, r⟩
theorem iIconst (C : Cx B l Z a0 R y b mx rt nf) {i : Int} {v : Int32} (hd : De b pc (.iconst i) 1 n) (hv : Int32.ofInt i = v) (K : Go B n0 Q h ce sl n Ls (.int v :: S)) : Go B n0 Q h ce sl pc Ls (S) := by
  obtain ⟨p, l', e, R', s, m, args, below, meth, c, Fin⟩ := B
  obtain ⟨rfl, rfl, hx, rfl, hml, hown, hnm, hret, hlk, hZ, hfin, hw⟩ := C
  intro T locs X eT N
  obtain ⟨hd, rfl⟩ := hd
  subst hv
  obtain ⟨s₂, o, st, r⟩ := K T locs X eT N
  exact ⟨s₂, o, XS.iconst X.here hx rfl hd st, r⟩
theorem iBipush (C : Cx B l Z a0 R y b mx rt nf) {i : Int} {v : Int32} (hd : De b pc (.bipush i) 2 n) (hv : (Int8.ofInt i).toInt32 = v) (K : Go B n0 Q h ce sl n Ls (.int v :: S)) : Go B n0 Q h ce sl pc Ls (S) := by
  obtain ⟨p, l', e, R', s, m, args, below, meth, c, Fin⟩ := B
  obtain ⟨rfl, rfl, hx, rfl, hml, hown, hnm, hret, hlk, hZ, hfin, hw⟩ := C
  intro T locs X eT N
  obtain ⟨hd, rfl⟩ := hd
  subst hv
  obtain ⟨s₂, o, st, r⟩ := K T locs X eT N
  exact ⟨s₂, o, XS.bipush X.here hx rfl hd st, r⟩
theorem iSipush (C : Cx B l Z a0 R y b mx rt nf) {i : Int} {v : Int32} (hd : De b pc (.sipush i) 3 n) (hv : (Int16.ofInt i).toInt32 = v) (K : Go B n0 Q h ce sl n Ls (.int v :: S)) : Go B n0 Q h ce sl pc Ls (S) := by
  obtain ⟨p, l', e, R', s, m, args, below, meth, c, Fin⟩ := B
  obtain ⟨rfl, rfl, hx, rfl, hml, hown, hnm, hret, hlk, hZ, hfin, hw⟩ := C
  intro T locs X eT N
  obtain ⟨hd, rfl⟩ := hd
  subst hv
  obtain ⟨s₂, o, st, r⟩ := K T locs X eT N
  exact ⟨s₂, o, XS.sipush X.here hx rfl hd st, r⟩
theorem iNull (C : Cx B l Z a0 R y b mx rt nf)  (hd : De b pc (.aconst_null) 1 n) (K : Go B n0 Q h ce sl n Ls (.null :: S)) : Go B n0 Q h ce sl pc Ls (S) := by
  obtain ⟨p, l', e, R', s, m, args, below, meth, c, Fin⟩ := B
  obtain ⟨rfl, rfl, hx, rfl, hml, hown, hnm, hret, hlk, hZ, hfin, hw⟩ := C
  intro T locs X eT N
  obtain ⟨hd, rfl⟩ := hd
  obtain ⟨s₂, o, st, r⟩ := K T locs X eT N
  exact ⟨s₂, o, XS.aconstNull X.here hx rfl hd st, r⟩
theorem iIadd (C : Cx B l Z a0 R y b mx rt nf) {x z v : Int32} (hd : De b pc (.iadd) 1 n) (hv : x + z = v) (K : Go B n0 Q h ce sl n Ls (.int v :: S)) : Go B n0 Q h ce sl pc Ls (.int z :: .int x :: S) := by
  obtain ⟨p, l', e, R', s, m, args, below, meth, c, Fin⟩ := B
  obtain ⟨rfl, rfl, hx, rfl, hml, hown, hnm, hret, hlk, hZ, hfin, hw⟩ := C
  intro T locs X eT N
  obtain ⟨hd, rfl⟩ := hd
  subst hv
  obtain ⟨s₂, o, st, r⟩ := K T locs X eT N
  exact ⟨s₂, o, XS.iadd X.here hx rfl hd rfl st, r⟩
theorem iIsub (C : Cx B l Z a0 R y b mx rt nf) {x z v : Int32} (hd : De b pc (.isub) 1 n) (hv : x - z = v) (K : Go B n0 Q h ce sl n Ls (.int v :: S)) : Go B n0 Q h ce sl pc Ls (.int z :: .int x :: S) := by
  obtain ⟨p, l', e, R', s, m, args, below, meth, c, Fin⟩ := B
  obtain ⟨rfl, rfl, hx, rfl, hml, hown, hnm, hret, hlk, hZ, hfin, hw⟩ := C
  intro T locs X eT N
  obtain ⟨hd, rfl⟩ := hd
  subst hv
  obtain ⟨s₂, o, st, r⟩ := K T locs X eT N
  exact ⟨s₂, o, XS.isub X.here hx rfl hd rfl st, r⟩
theorem iIand (C : Cx B l Z a0 R y b mx rt nf) {x z v : Int32} (hd : De b pc (.iand) 1 n) (hv : x &&& z = v) (K : Go B n0 Q h ce sl n Ls (.int v :: S)) : Go B n0 Q h ce sl pc Ls (.int z :: .int x :: S) := by
  obtain ⟨p, l', e, R', s, m, args, below, meth, c, Fin⟩ := B
  obtain ⟨rfl, rfl, hx, rfl, hml, hown, hnm, hret, hlk, hZ, hfin, hw⟩ := C
  intro T locs X eT N
  obtain ⟨hd, rfl⟩ := hd
  subst hv
  obtain ⟨s₂, o, st, r⟩ := K T locs X eT N
  exact ⟨s₂, o, XS.iand X.here hx rfl hd rfl st, r⟩
theorem iImul (C : Cx B l Z a0 R y b mx rt nf) {x z v : Int32} (hd : De b pc (.imul) 1 n) (hv : x * z = v) (K : Go B n0 Q h ce sl n Ls (.int v :: S)) : Go B n0 Q h ce sl pc Ls (.int z :: .int x :: S) := by
  obtain ⟨p, l', e, R', s, m, args, below, meth, c, Fin⟩ := B
  obtain ⟨rfl, rfl, hx, rfl, hml, hown, hnm, hret, hlk, hZ, hfin, hw⟩ := C
  intro T locs X eT N
  obtain ⟨hd, rfl⟩ := hd
  subst hv
  obtain ⟨s₂, o, st, r⟩ := K T locs X eT N
  exact ⟨s₂, o, XS.imul X.here hx rfl hd rfl st, r⟩
theorem iIdiv (C : Cx B l Z a0 R y b mx rt nf) {x z v : Int32} (hd : De b pc (.idiv) 1 n) (hz : z ≠ 0) (hv : x / z = v) (K : Go B n0 Q h ce sl n Ls (.int v :: S)) : Go B n0 Q h ce sl pc Ls (.int z :: .int x :: S) := by
  obtain ⟨p, l', e, R', s, m, args, below, meth, c, Fin⟩ := B
  obtain ⟨rfl, rfl, hx, rfl, hml, hown, hnm, hret, hlk, hZ, hfin, hw⟩ := C
  intro T locs X eT N
  obtain ⟨hd, rfl⟩ := hd
  subst hv
  obtain ⟨s₂, o, st, r⟩ := K T locs X eT N
  exact ⟨s₂, o, XS.idiv X.here hx rfl hd rfl hz st, r⟩
theorem iIrem (C : Cx B l Z a0 R y b mx rt nf) {x z v : Int32} (hd : De b pc (.irem) 1 n) (hz : z ≠ 0) (hv : x % z = v) (K : Go B n0 Q h ce sl n Ls (.int v :: S)) : Go B n0 Q h ce sl pc Ls (.int z :: .int x :: S) := by
  obtain ⟨p, l', e, R', s, m, args, below, meth, c, Fin⟩ := B
  obtain ⟨rfl, rfl, hx, rfl, hml, hown, hnm, hret, hlk, hZ, hfin, hw⟩ := C
  intro T locs X eT N
  obtain ⟨hd, rfl⟩ := hd
  subst hv
  obtain ⟨s₂, o, st, r⟩ := K T locs X eT N
  exact ⟨s₂, o, iremM X hx rfl hd rfl hz st, r⟩
theorem iDup (C : Cx B l Z a0 R y b mx rt nf) {x : Value} (hd : De b pc (.dup) 1 n) (hc : x.category = 1) (K : Go B n0 Q h ce sl n Ls (x :: x :: S)) : Go B n0 Q h ce sl pc Ls (x :: S) := by
  obtain ⟨p, l', e, R', s, m, args, below, meth, c, Fin⟩ := B
  obtain ⟨rfl, rfl, hx, rfl, hml, hown, hnm, hret, hlk, hZ, hfin, hw⟩ := C
  intro T locs X eT N
  obtain ⟨hd, rfl⟩ := hd
  obtain ⟨s₂, o, st, r⟩ := K T locs X eT N
  exact ⟨s₂, o, XS.dup X.here hx rfl hd rfl hc st, r⟩
theorem iPop (C : Cx B l Z a0 R y b mx rt nf) {x : Value} (hd : De b pc (.pop) 1 n) (hc : x.category = 1) (K : Go B n0 Q h ce sl n Ls (S)) : Go B n0 Q h ce sl pc Ls (x :: S) := by
  obtain ⟨p, l', e, R', s, m, args, below, meth, c, Fin⟩ := B
  obtain ⟨rfl, rfl, hx, rfl, hml, hown, hnm, hret, hlk, hZ, hfin, hw⟩ := C
  intro T locs X eT N
  obtain ⟨hd, rfl⟩ := hd
  obtain ⟨s₂, o, st, r⟩ := K T locs X eT N
  exact ⟨s₂, o, XT.pop X.here hx rfl hd rfl hc st, r⟩
theorem iIstoreN (C : Cx B l Z a0 R y b mx rt nf) {k : Fin 4} {x : Int32} (hd : De b pc (.istore_n k) 1 n) (hl : storeLocals Ls k.val (.int x) = some Ls') (K : Go B n0 Q h ce sl n Ls' (S)) : Go B n0 Q h ce sl pc Ls (.int x :: S) := by
  obtain ⟨p, l', e, R', s, m, args, below, meth, c, Fin⟩ := B
  obtain ⟨rfl, rfl, hx, rfl, hml, hown, hnm, hret, hlk, hZ, hfin, hw⟩ := C
  intro T locs X eT N
  obtain ⟨hd, rfl⟩ := hd
  obtain ⟨s₂, o, st, r⟩ := K T locs X eT N
  exact ⟨s₂, o, XS.istoreN X.here hx rfl hd rfl hl st, r⟩
theorem iIstore (C : Cx B l Z a0 R y b mx rt nf) {k : Nat} {x : Int32} (hd : De b pc (.istore k) 2 n) (hl : storeLocals Ls k (.int x) = some Ls') (K : Go B n0 Q h ce sl n Ls' (S)) : Go B n0 Q h ce sl pc Ls (.int x :: S) := by
  obtain ⟨p, l', e, R', s, m, args, below, meth, c, Fin⟩ := B
  obtain ⟨rfl, rfl, hx, rfl, hml, hown, hnm, hret, hlk, hZ, hfin, hw⟩ := C
  intro T locs X eT N
  obtain ⟨hd, rfl⟩ := hd
  obtain ⟨s₂, o, st, r⟩ := K T locs X eT N
  exact ⟨s₂, o, XS.istore X.here hx rfl hd rfl hl st, r⟩
theorem iAstoreN (C : Cx B l Z a0 R y b mx rt nf) {k : Fin 4} {x : Value} (hd : De b pc (.astore_n k) 1 n) (hv : x.isRef = true) (hl : storeLocals Ls k.val x = some Ls') (K : Go B n0 Q h ce sl n Ls' (S)) : Go B n0 Q h ce sl pc Ls (x :: S) := by
  obtain ⟨p, l', e, R', s, m, args, below, meth, c, Fin⟩ := B
  obtain ⟨rfl, rfl, hx, rfl, hml, hown, hnm, hret, hlk, hZ, hfin, hw⟩ := C
  intro T locs X eT N
  obtain ⟨hd, rfl⟩ := hd
  obtain ⟨s₂, o, st, r⟩ := K T locs X eT N
  exact ⟨s₂, o, XS.astoreN X.here hx rfl hd rfl hv hl st, r⟩
theorem iAstore (C : Cx B l Z a0 R y b mx rt nf) {k : Nat} {x : Value} (hd : De b pc (.astore k) 2 n) (hv : x.isRef = true) (hl : storeLocals Ls k x = some Ls') (K : Go B n0 Q h ce sl n Ls' (S)) : Go B n0 Q h ce sl pc Ls (x :: S) := by
  obtain ⟨p, l', e, R', s, m, args, below, meth, c, Fin⟩ := B
  obtain ⟨rfl, rfl, hx, rfl, hml, hown, hnm, hret, hlk, hZ, hfin, hw⟩ := C
  intro T locs X eT N
  obtain ⟨hd, rfl⟩ := hd
  obtain ⟨s₂, o, st, r⟩ := K T locs X eT N
  exact ⟨s₂, o, XS.astore X.here hx rfl hd rfl hv hl st, r⟩
theorem iIinc (C : Cx B l Z a0 R y b mx rt nf) {k : Nat} {cst : Int} {x v : Int32} (hd : De b pc (.iinc k cst) 3 n) (hl : Ls[k]? = some (.val (.int x))) (hv : x + Int32.ofInt cst = v) (hl' : storeLocals Ls k (.int v) = some Ls') (K : Go B n0 Q h ce sl n Ls' (S)) : Go B n0 Q h ce sl pc Ls (S) := by
  obtain ⟨p, l', e, R', s, m, args, below, meth, c, Fin⟩ := B
  obtain ⟨rfl, rfl, hx, rfl, hml, hown, hnm, hret, hlk, hZ, hfin, hw⟩ := C
  intro T locs X eT N
  obtain ⟨hd, rfl⟩ := hd
  subst hv
  obtain ⟨s₂, o, st, r⟩ := K T locs X eT N
  exact ⟨s₂, o, XS.iinc X.here hx rfl hd hl hl' st, r⟩
theorem iI2b (C : Cx B l Z a0 R y b mx rt nf) {x v : Int32} (hd : De b pc (.i2b) 1 n) (hv : x.toInt8.toInt32 = v) (K : Go B n0 Q h ce sl n Ls (.int v :: S)) : Go B n0 Q h ce sl pc Ls (.int x :: S) := by
  obtain ⟨p, l', e, R', s, m, args, below, meth, c, Fin⟩ := B
  obtain ⟨rfl, rfl, hx, rfl, hml, hown, hnm, hret, hlk, hZ, hfin, hw⟩ := C
  intro T locs X eT N
  obtain ⟨hd, rfl⟩ := hd
  subst hv
  obtain ⟨s₂, o, st, r⟩ := K T locs X eT N
  exact ⟨s₂, o, XT.i2b X.here hx rfl hd rfl st, r⟩
theorem iI2c (C : Cx B l Z a0 R y b mx rt nf) {x v : Int32} (hd : De b pc (.i2c) 1 n) (hv : x.toUInt32.toUInt16.toUInt32.toInt32 = v) (K : Go B n0 Q h ce sl n Ls (.int v :: S)) : Go B n0 Q h ce sl pc Ls (.int x :: S) := by
  obtain ⟨p, l', e, R', s, m, args, below, meth, c, Fin⟩ := B
  obtain ⟨rfl, rfl, hx, rfl, hml, hown, hnm, hret, hlk, hZ, hfin, hw⟩ := C
  intro T locs X eT N
  obtain ⟨hd, rfl⟩ := hd
  subst hv
  obtain ⟨s₂, o, st, r⟩ := K T locs X eT N
  exact ⟨s₂, o, XT.i2c X.here hx rfl hd rfl st, r⟩
theorem iIushr (C : Cx B l Z a0 R y b mx rt nf) {x z v : Int32} (hd : De b pc (.iushr) 1 n) (hv : (x.toUInt32 >>> (z &&& 31).toUInt32).toInt32 = v) (K : Go B n0 Q h ce sl n Ls (.int v :: S)) : Go B n0 Q h ce sl pc Ls (.int z :: .int x :: S) := by
  obtain ⟨p, l', e, R', s, m, args, below, meth, c, Fin⟩ := B
  obtain ⟨rfl, rfl, hx, rfl, hml, hown, hnm, hret, hlk, hZ, hfin, hw⟩ := C
  intro T locs X eT N
  obtain ⟨hd, rfl⟩ := hd
  subst hv
  obtain ⟨s₂, o, st, r⟩ := K T locs X eT N
  exact ⟨s₂, o, XT.iushr X.here hx rfl hd rfl st, r⟩
theorem iIfF (C : Cx B l Z a0 R y b mx rt nf) {cd : ClassFile.Cond} {o : Int} {x : Int32} (hd : De b pc (.ifCond cd o) 3 n) (hc : ifCond.holds cd x = false) (K : Go B n0 Q h ce sl n Ls (S)) : Go B n0 Q h ce sl pc Ls (.int x :: S) := by
  obtain ⟨p, l', e, R', s, m, args, below, meth, c, Fin⟩ := B
  obtain ⟨rfl, rfl, hx, rfl, hml, hown, hnm, hret, hlk, hZ, hfin, hw⟩ := C
  intro T locs X eT N
  obtain ⟨hd, rfl⟩ := hd
  obtain ⟨s₂, o, st, r⟩ := K T locs X eT N
  exact ⟨s₂, o, XS.ifNo X.here hx rfl hd rfl hc st, r⟩
theorem iCmpF (C : Cx B l Z a0 R y b mx rt nf) {cd : ClassFile.Cond} {o : Int} {x z : Int32} (hd : De b pc (.if_icmp cd o) 3 n) (hc : if_icmp.holds cd x z = false) (K : Go B n0 Q h ce sl n Ls (S)) : Go B n0 Q h ce sl pc Ls (.int z :: .int x :: S) := by
  obtain ⟨p, l', e, R', s, m, args, below, meth, c, Fin⟩ := B
  obtain ⟨rfl, rfl, hx, rfl, hml, hown, hnm, hret, hlk, hZ, hfin, hw⟩ := C
  intro T locs X eT N
  obtain ⟨hd, rfl⟩ := hd
  obtain ⟨s₂, o, st, r⟩ := K T locs X eT N
  exact ⟨s₂, o, XS.icmpNo X.here hx rfl hd rfl hc st, r⟩
theorem iNullF (C : Cx B l Z a0 R y b mx rt nf) {o : Int} {a : Addr} (hd : De b pc (.ifnull o) 3 n) (K : Go B n0 Q h ce sl n Ls (S)) : Go B n0 Q h ce sl pc Ls (.ref a :: S) := by
  obtain ⟨p, l', e, R', s, m, args, below, meth, c, Fin⟩ := B
  obtain ⟨rfl, rfl, hx, rfl, hml, hown, hnm, hret, hlk, hZ, hfin, hw⟩ := C
  intro T locs X eT N
  obtain ⟨hd, rfl⟩ := hd
  obtain ⟨s₂, o, st, r⟩ := K T locs X eT N
  exact ⟨s₂, o, XS.ifnullNo X.here hx rfl hd rfl st, r⟩
theorem iNonnullF (C : Cx B l Z a0 R y b mx rt nf) {o : Int} (hd : De b pc (.ifnonnull o) 3 n) (K : Go B n0 Q h ce sl n Ls (S)) : Go B n0 Q h ce sl pc Ls (.null :: S) := by
  obtain ⟨p, l', e, R', s, m, args, below, meth, c, Fin⟩ := B
  obtain ⟨rfl, rfl, hx, rfl, hml, hown, hnm, hret, hlk, hZ, hfin, hw⟩ := C
  intro T locs X eT N
  obtain ⟨hd, rfl⟩ := hd
  obtain ⟨s₂, o, st, r⟩ := K T locs X eT N
  exact ⟨s₂, o, XT.ifnonnullNo X.here hx rfl hd rfl st, r⟩
theorem iAcmpF (C : Cx B l Z a0 R y b mx rt nf) {cd : ClassFile.ACond} {o : Int} {x z : Value} (hd : De b pc (.if_acmp cd o) 3 n) (hx1 : x.isRef = true) (hz1 : z.isRef = true) (hc : XT.acmp cd x z = false) (K : Go B n0 Q h ce sl n Ls (S)) : Go B n0 Q h ce sl pc Ls (z :: x :: S) := by
  obtain ⟨p, l', e, R', s, m, args, below, meth, c, Fin⟩ := B
  obtain ⟨rfl, rfl, hx, rfl, hml, hown, hnm, hret, hlk, hZ, hfin, hw⟩ := C
  intro T locs X eT N
  obtain ⟨hd, rfl⟩ := hd
  obtain ⟨s₂, o, st, r⟩ := K T locs X eT N
  exact ⟨s₂, o, XT.acmpNo X.here hx rfl hd rfl hx1 hz1 hc st, r⟩
theorem iGoto (C : Cx B l Z a0 R y b mx rt nf) {o : Int} {t : Nat} (hd : De b pc (.goto o) 3 n) (hj : 0 ≤ (pc : Int) + o ∧ ((pc : Int) + o).toNat = t) (K : Go B n0 Q h ce sl t Ls (S)) : Go B n0 Q h ce sl pc Ls (S) := by
  obtain ⟨p, l', e, R', s, m, args, below, meth, c, Fin⟩ := B
  obtain ⟨rfl, rfl, hx, rfl, hml, hown, hnm, hret, hlk, hZ, hfin, hw⟩ := C
  intro T locs X eT N
  obtain ⟨hd, rfl⟩ := hd
  obtain ⟨s₂, oo, st, r⟩ := K T locs X eT N
  exact ⟨s₂, oo, XS.goto X.here hx rfl rfl hd hj.1 hj.2 st, r⟩
theorem iIfT (C : Cx B l Z a0 R y b mx rt nf) {cd : ClassFile.Cond} {o : Int} {x : Int32} {t : Nat} (hd : De b pc (.ifCond cd o) 3 n) (hc : ifCond.holds cd x = true) (hj : 0 ≤ (pc : Int) + o ∧ ((pc : Int) + o).toNat = t) (K : Go B n0 Q h ce sl t Ls (S)) : Go B n0 Q h ce sl pc Ls (.int x :: S) := by
  obtain ⟨p, l', e, R', s, m, args, below, meth, c, Fin⟩ := B
  obtain ⟨rfl, rfl, hx, rfl, hml, hown, hnm, hret, hlk, hZ, hfin, hw⟩ := C
  intro T locs X eT N
  obtain ⟨hd, rfl⟩ := hd
  obtain ⟨s₂, oo, st, r⟩ := K T locs X eT N
  exact ⟨s₂, oo, XS.ifYes X.here hx rfl rfl hd rfl hc hj.1 hj.2 st, r⟩
theorem iCmpT (C : Cx B l Z a0 R y b mx rt nf) {cd : ClassFile.Cond} {o : Int} {x z : Int32} {t : Nat} (hd : De b pc (.if_icmp cd o) 3 n) (hc : if_icmp.holds cd x z = true) (hj : 0 ≤ (pc : Int) + o ∧ ((pc : Int) + o).toNat = t) (K : Go B n0 Q h ce sl t Ls (S)) : Go B n0 Q h ce sl pc Ls (.int z :: .int x :: S) := by
  obtain ⟨p, l', e, R', s, m, args, below, meth, c, Fin⟩ := B
  obtain ⟨rfl, rfl, hx, rfl, hml, hown, hnm, hret, hlk, hZ, hfin, hw⟩ := C
  intro T locs X eT N
  obtain ⟨hd, rfl⟩ := hd
  obtain ⟨s₂, oo, st, r⟩ := K T locs X eT N
  exact ⟨s₂, oo, XS.icmpYes X.here hx rfl rfl hd rfl hc hj.1 hj.2 st, r⟩
theorem iNullT (C : Cx B l Z a0 R y b mx rt nf) {o : Int} {t : Nat} (hd : De b pc (.ifnull o) 3 n) (hj : 0 ≤ (pc : Int) + o ∧ ((pc : Int) + o).toNat = t) (K : Go B n0 Q h ce sl t Ls (S)) : Go B n0 Q h ce sl pc Ls (.null :: S) := by
  obtain ⟨p, l', e, R', s, m, args, below, meth, c, Fin⟩ := B
  obtain ⟨rfl, rfl, hx, rfl, hml, hown, hnm, hret, hlk, hZ, hfin, hw⟩ := C
  intro T locs X eT N
  obtain ⟨hd, rfl⟩ := hd
  obtain ⟨s₂, oo, st, r⟩ := K T locs X eT N
  exact ⟨s₂, oo, XS.ifnullYes X.here hx rfl rfl hd rfl hj.1 hj.2 st, r⟩
theorem iNonnullT (C : Cx B l Z a0 R y b mx rt nf) {o : Int} {a : Addr} {t : Nat} (hd : De b pc (.ifnonnull o) 3 n) (hj : 0 ≤ (pc : Int) + o ∧ ((pc : Int) + o).toNat = t) (K : Go B n0 Q h ce sl t Ls (S)) : Go B n0 Q h ce sl pc Ls (.ref a :: S) := by
  obtain ⟨p, l', e, R', s, m, args, below, meth, c, Fin⟩ := B
  obtain ⟨rfl, rfl, hx, rfl, hml, hown, hnm, hret, hlk, hZ, hfin, hw⟩ := C
  intro T locs X eT N
  obtain ⟨hd, rfl⟩ := hd
  obtain ⟨s₂, oo, st, r⟩ := K T locs X eT N
  exact ⟨s₂, oo, XT.ifnonnullYes X.here hx rfl rfl hd rfl hj.1 hj.2 st, r⟩
theorem iAcmpT (C : Cx B l Z a0 R y b mx rt nf) {cd : ClassFile.ACond} {o : Int} {x z : Value} {t : Nat} (hd : De b pc (.if_acmp cd o) 3 n) (hx1 : x.isRef = true) (hz1 : z.isRef = true) (hc : XT.acmp cd x z = true) (hj : 0 ≤ (pc : Int) + o ∧ ((pc : Int) + o).toNat = t) (K : Go B n0 Q h ce sl t Ls (S)) : Go B n0 Q h ce sl pc Ls (z :: x :: S) := by
  obtain ⟨p, l', e, R', s, m, args, below, meth, c, Fin⟩ := B
  obtain ⟨rfl, rfl, hx, rfl, hml, hown, hnm, hret, hlk, hZ, hfin, hw⟩ := C
  intro T locs X eT N
  obtain ⟨hd, rfl⟩ := hd
  obtain ⟨s₂, oo, st, r⟩ := K T locs X eT N
  exact ⟨s₂, oo, XT.acmpYes X.here hx rfl rfl hd rfl hx1 hz1 hc hj.1 hj.2 st, r⟩
theorem iLdcI (C : Cx B l Z a0 R y b mx rt nf) {i : Nat} {v : Int32} (w : Jvm.Cond.constant y.cls i v ∈ tables_1) (hd : De b pc (.ldc i) 2 n) (K : Go B n0 Q h ce sl n Ls (.int v :: S)) : Go B n0 Q h ce sl pc Ls S := by
  obtain ⟨p, l', e, R', s, m, args, below, meth, c, Fin⟩ := B
  obtain ⟨rfl, rfl, hx, rfl, hml, hown, hnm, hret, hlk, hZ, hfin, hw⟩ := C
  intro T locs X eT N
  obtain ⟨hd, rfl⟩ := hd
  obtain ⟨s₂, o, st, r⟩ := K T locs X eT N
  exact ⟨s₂, o, X.ldcInt hx hown (mvT hZ (hw _ w)) (g := mkF m pc Ls S) rfl hd _ st, r⟩
theorem iGetS (C : Cx B l Z a0 R y b mx rt nf) {i : Nat} {O f d : String} {v : Value} (w : Jvm.Cond.fieldLink y.cls i O f d ∈ tables_1) (F : Sta Z h O f d v) (hd : De b pc (.getstatic i) 3 n) (K : Go B n0 Q h ce sl n Ls (v :: S)) : Go B n0 Q h ce sl pc Ls S := by
  obtain ⟨p, l', e, R', s, m, args, below, meth, c, Fin⟩ := B
  obtain ⟨rfl, rfl, hx, rfl, hml, hown, hnm, hret, hlk, hZ, hfin, hw⟩ := C
  intro T locs X eT N
  obtain ⟨hd, rfl⟩ := hd
  obtain ⟨T', X', e', st⟩ := getS X hx hZ (host := "") hown (hw _ w) Via.refl eT F (g := mkF m pc Ls S) rfl hd
  obtain ⟨s₂, o, st', r⟩ := K T' locs X' e' N
  exact ⟨s₂, o, st _ st', r⟩
theorem iGetF (C : Cx B l Z a0 R y b mx rt nf) {i : Nat} {O f d : String} {a : Addr} {v : Value} (w : Jvm.Cond.fieldLink y.cls i O f d ∈ tables_1) (F : Fld Z h a O f d v) (hd : De b pc (.getfield i) 3 n) (K : Go B n0 Q h ce sl n Ls (v :: S)) : Go B n0 Q h ce sl pc Ls (.ref a :: S) := by
  obtain ⟨p, l', e, R', s, m, args, below, meth, c, Fin⟩ := B
  obtain ⟨rfl, rfl, hx, rfl, hml, hown, hnm, hret, hlk, hZ, hfin, hw⟩ := C
  intro T locs X eT N
  obtain ⟨hd, rfl⟩ := hd
  obtain ⟨T', X', e', st⟩ := getF X hx hZ hown (host := "") (Or.inl (hw _ w)) Via.refl eT F (g := mkF m pc Ls (.ref a :: S)) rfl rfl hd
  obtain ⟨s₂, o, st', r⟩ := K T' locs X' e' N
  exact ⟨s₂, o, st _ st', r⟩
theorem iPutF (C : Cx B l Z a0 R y b mx rt nf) {i kk : Nat} {O f d CC : String} {a : Addr} {v old : Value} {ty : FieldType} (w : Jvm.Cond.fieldLink y.cls i O f d ∈ tables_1) (F : Fld Z h a O f d old) (E : Exa Z h a CC) (L : Jvm.Cond.lays CC O f d ∈ tables_1 ∨ (Jvm.Cond.laysFinal CC O f d ∈ tables_1 ∧ y.cls = O ∧ y.name = "<init>")) (wi : Jvm.Cond.instantiable CC kk ∈ tables_1) (hty : parseFieldDescriptor d = some ty) (hn : narrow ty v = v) (hf : fits ty v = true) (ha : n0 ≤ a) (hd : De b pc (.putfield i) 3 n) (K : ∀ h', Wr h h' a (Jvm.RoadKit.slotOf Z O f d) v → Go B n0 Q h' ce sl n Ls S) : Go B n0 Q h ce sl pc Ls (v :: .ref a :: S) := by
  obtain ⟨p, l', e, R', s, m, args, below, meth, c, Fin⟩ := B
  obtain ⟨rfl, rfl, hx, rfl, hml, hown, hnm, hret, hlk, hZ, hfin, hw⟩ := C
  intro T locs X eT N
  obtain ⟨hd, rfl⟩ := hd
  obtain ⟨T', h', X', e', W, st⟩ := putF X hx hZ hown (host := "") (Or.inl (hw _ w)) Via.refl eT F E (L.imp (fun q => hw _ q) fun q => ⟨hw _ q.1, q.2.1, hnm.trans q.2.2⟩) (hw _ wi) hty hn hf (g := mkF m pc Ls (v :: .ref a :: S)) rfl rfl hd
  obtain ⟨s₂, o, st', r1, r2, r3, r4⟩ := K h' W T' _ X' e' (Fr.snoc X' N ha)
  exact ⟨s₂, o, st _ st', r1, r2, Nat.le_trans (Nat.le_of_eq W.size.symm) r3, r4⟩
theorem iNew (C : Cx B l Z a0 R y b mx rt nf) {i kk ce' sl' : Nat} {CC : String} (w1 : Jvm.Cond.classLink y.cls i CC ∈ tables_1) (w2 : Jvm.Cond.instantiable CC kk ∈ tables_1) (w3 : Jvm.Cond.initialized CC ∈ tables_1) (hd : De b pc (.new i) 3 n) (hc : ce + 1 = ce' ∧ sl + kk = sl' ∧ ce' ≤ R.cells ∧ sl' ≤ R.slots) (K : ∀ (h' : Heap) (a : Addr), a = h.size → Ext h h' → Exa Z h' a CC → (∀ {O nm d : String} {ty : FieldType}, Laid Z a0 CC O nm d → parseFieldDescriptor d = some ty → Fld Z h' a O nm d (defaultValue ty)) → Go B n0 Q h' ce' sl' n Ls (.ref a :: S)) : Go B n0 Q h ce sl pc Ls S := by
  obtain ⟨p, l', e, R', s, m, args, below, meth, c, Fin⟩ := B
  obtain ⟨rfl, rfl, hx, rfl, hml, hown, hnm, hret, hlk, hZ, hfin, hw⟩ := C
  intro T locs X eT N
  obtain ⟨hd, rfl⟩ := hd
  obtain ⟨rfl, rfl, hc, hs⟩ := hc
  obtain ⟨T', h', X', e', E, A, D, -, st⟩ := newO X hx hZ hown (hw _ w1) (hw _ w2) (hw _ w3) eT (g := mkF m pc Ls S) rfl hd hc hs
  obtain ⟨s₂, o, st', r1, r2, r3, r4⟩ := K h' _ rfl E A D T' locs X' e' N
  exact ⟨s₂, o, st _ st', r1, r2, Nat.le_trans E.1 r3, r4⟩
theorem iInitO (C : Cx B l Z a0 R y b mx rt nf) {i W : Nat} {a : Addr} (w1 : Jvm.Cond.methodLink y.cls i Lib.objectInit ∈ tables_1) (w2 : Jvm.Cond.instanceMethod Lib.objectInit ∈ tables_1) (w3 : Jvm.Cond.code Lib.objectInit ⟨#[0xb1]⟩ 1 none ∈ tables_1) (hd : De b pc (.invokespecial i) 3 n) (hsz : Ls.size = mx) (hf : 1 ≤ R.frames) (hW : (S.map fun v => v.category).sum = W) (hl : W + 12 ≤ R.locals) (K : Go B n0 Q h ce sl n Ls S) : Go B n0 Q h ce sl pc Ls (.ref a :: S) := by
  obtain ⟨p, l', e, R', s, m, args, below, meth, c, Fin⟩ := B
  obtain ⟨rfl, rfl, hx, rfl, hml, hown, hnm, hret, hlk, hZ, hfin, hw⟩ := C
  intro T locs X eT N
  obtain ⟨hd, rfl⟩ := hd
  obtain ⟨T', X', e', st⟩ := initO X hx hZ hown (hw _ w1) (hw _ w2) (hw _ w3) eT (g := mkF m pc Ls (.ref a :: S)) rfl (by rw [hml]; exact hsz) rfl hd hf (W := W) (by show 2 * 0 + _ ≤ _; omega) hl
  obtain ⟨s₂, o, st', r⟩ := K T' locs X' e' N
  exact ⟨s₂, o, st _ st', r⟩
def Pay (l : Launch) (Z : State) (R : Room) (yc : MethodName) (len W : Nat) (as' : Array Value) (n0 : Nat) (h : Heap) (cc ss : Nat) (Qc : Option Value → Heap → Prop) : Prop :=
  ∀ (p : Program) (e : Env) (below : List Frame) (s : State) (args : Array Value), Z.Warmed39 s.vm → Back l R p e below s args yc len W (fun A a => a = as' ∧ A.U.heap = h ∧ A.cells + cc ≤ R.cells ∧ A.slots + ss ≤ R.slots) (fun A _ v B => ∃ L, QQ n0 h Qc v B.U.heap L ∧ B.locs = A.locs ++ L ∧ B.cells = A.cells + cc ∧ B.slots = A.slots + ss)
theorem Pay.of {yc : MethodName} {cb : ByteArray} {cm len W : Nat} {cr : Option FieldType} {rm : Room} {as' : Array Value} {Qc : Option Value → Heap → Prop} (hM : Pays l Z yc cb cm cr rm as' n0 h Qc) (hw : ∀ d ∈ tables_1, d.before a0 Z = true) (w4 : Jvm.Cond.code yc cb cm cr ∈ tables_1) (w3 : Jvm.Cond.initialized yc.cls ∈ tables_1) (hr1 : rm.frames + 1 ≤ R.frames) (hr2 : W + (cm + 11) + rm.locals ≤ R.locals) : Pay l Z R yc len W as' n0 h rm.cells rm.slots Qc :=
  fun p e below s args hZ => backOf (W := W) (hM []) hZ (hw _ w4) (hw _ w3) hr1 hr2
theorem Cx.words (C : Cx B l Z a0 R y b mx rt nf) : ∀ d ∈ tables_1, d.before a0 Z = true := by
  obtain ⟨p, l', e, R', s, m, args, below, meth, c, Fin⟩ := B
  obtain ⟨rfl, rfl, hx, rfl, hml, hown, hnm, hret, hlk, hZ, hfin, hw⟩ := C
  exact hw
theorem iCallSB (C : Cx B l Z a0 R y b mx rt nf) {yc : MethodName} {as' : Array Value} {Qc : Option Value → Heap → Prop} {i W cc ss ce' sl' : Nat} {argsL : List Value} {cbx : ByteArray} {cmx : Nat} {crx : Option FieldType} (hM : Pay l Z R yc 3 W as' n0 h cc ss Qc) (w1 : Jvm.Cond.methodLink y.cls i yc ∈ tables_1) (w2 : Jvm.Cond.static yc ∈ tables_1) (w3 : Jvm.Cond.initialized yc.cls ∈ tables_1) (w4 : Jvm.Cond.code yc cbx cmx crx ∈ tables_1) (hy : yc.cls ≠ "java/lang/invoke/MethodHandle" ∧ yc.cls ≠ "java/lang/invoke/VarHandle") (hlen : ∀ sig, parseMethodDescriptor yc.desc = some sig → argsL.length = sig.parameters.length) (hS : S = argsL.reverse ++ S') (has : argsL.toArray = as') (hd : De b pc (.invokestatic i) 3 n) (hsz : Ls.size = mx) (hW : (S'.map fun v => v.category).sum = W) (hr : ce + cc = ce' ∧ sl + ss = sl' ∧ ce' ≤ R.cells ∧ sl' ≤ R.slots) (K : ∀ (v : Option Value) (h' : Heap), Qc v h' → Go B n0 Q h' ce' sl' n Ls (v.toList ++ S')) : Go B n0 Q h ce sl pc Ls S := by
  obtain ⟨p, l', e, R', s, m, args, below, meth, c, Fin⟩ := B
  obtain ⟨rfl, rfl, hx, rfl, hml, hown, hnm, hret, hlk, hZ, hfin, hw⟩ := C
  intro T locs X eT N
  obtain ⟨hd, rfl⟩ := hd
  obtain ⟨rfl, rfl, hr3, hr4⟩ := hr
  subst hS has
  obtain ⟨v, vm₁, ⟨T', L', k', n'⟩, -, X', ⟨Lc, hQ, l', y', z'⟩, st⟩ := Jvm.LawKit.callS X hx (y := yc) hown (mvT hZ (hw _ w1)) (mvT hZ (hw _ w2)) (mvT hZ (hw _ w3)) (mvT hZ (hw _ w4)) hy (hM p e below s args hZ) (g := mkF m pc Ls (argsL.reverse ++ S')) rfl (by rw [hml]; exact hsz) (argsL := argsL) (rest := S') hlen rfl (by show 2 * 0 + _ ≤ _; omega) hd (fun _ _ => ⟨rfl, eT, hr3, hr4⟩)
  dsimp only [Pt.U, Pt.locs, Pt.cells, Pt.slots] at X' l' y' z' st hQ
  subst l' y' z'
  obtain ⟨s₂, o, st', r1, r2, r3, r4⟩ := K v _ hQ.1 T' _ X' rfl (Fr.app N hQ.2.1)
  exact ⟨s₂, o, st _ st', r1, r2, Nat.le_trans hQ.2.2 r3, r4⟩
theorem iCallS (C : Cx B l Z a0 R y b mx rt nf) {yc : MethodName} {cb : ByteArray} {cm : Nat} {cr : Option FieldType} {rm : Room} {as' : Array Value} {Qc : Option Value → Heap → Prop} {i W ce' sl' : Nat} {argsL : List Value} (hM : Pays l Z yc cb cm cr rm as' n0 h Qc) (w1 : Jvm.Cond.methodLink y.cls i yc ∈ tables_1) (w2 : Jvm.Cond.static yc ∈ tables_1) (w3 : Jvm.Cond.initialized yc.cls ∈ tables_1) (w4 : Jvm.Cond.code yc cb cm cr ∈ tables_1) (hy : yc.cls ≠ "java/lang/invoke/MethodHandle" ∧ yc.cls ≠ "java/lang/invoke/VarHandle") (hlen : ∀ sig, parseMethodDescriptor yc.desc = some sig → argsL.length = sig.parameters.length) (hS : S = argsL.reverse ++ S') (has : argsL.toArray = as') (hd : De b pc (.invokestatic i) 3 n) (hsz : Ls.size = mx) (hW : (S'.map fun v => v.category).sum = W) (hr : rm.frames + 1 ≤ R.frames ∧ W + (cm + 11) + rm.locals ≤ R.locals ∧ ce + rm.cells = ce' ∧ sl + rm.slots = sl' ∧ ce' ≤ R.cells ∧ sl' ≤ R.slots) (K : ∀ (v : Option Value) (h' : Heap), Qc v h' → Go B n0 Q h' ce' sl' n Ls (v.toList ++ S')) : Go B n0 Q h ce sl pc Ls S :=
  iCallSB C (Pay.of hM C.words w4 w3 hr.1 hr.2.1) w1 w2 w3 w4 hy hlen hS has hd hsz hW hr.2.2 K
theorem iCallIB (C : Cx B l Z a0 R y b mx rt nf) {yc : MethodName} {as' : Array Value} {Qc : Option Value → Heap → Prop} {i W cc ss ce' sl' : Nat} {argsL : List Value} {a : Addr} {cbx : ByteArray} {cmx : Nat} (hM : Pay l Z R yc 3 W as' n0 h cc ss Qc) (hi : yc.name = "<init>") (w1 : Jvm.Cond.methodLink y.cls i yc ∈ tables_1) (w2 : Jvm.Cond.instanceMethod yc ∈ tables_1) (w4 : Jvm.Cond.code yc cbx cmx none ∈ tables_1) (hy : yc.cls ≠ "java/lang/invoke/MethodHandle" ∧ yc.cls ≠ "java/lang/invoke/VarHandle") (hlen : ∀ sig, parseMethodDescriptor yc.desc = some sig → argsL.length = sig.parameters.length) (hS : S = argsL.reverse ++ .ref a :: S') (has : (.ref a :: argsL).toArray = as') (hd : De b pc (.invokespecial i) 3 n) (hsz : Ls.size = mx) (hW : (S'.map fun v => v.category).sum = W) (hr : ce + cc = ce' ∧ sl + ss = sl' ∧ ce' ≤ R.cells ∧ sl' ≤ R.slots) (K : ∀ (v : Option Value) (h' : Heap), Qc v h' → Go B n0 Q h' ce' sl' n Ls (v.toList ++ S')) : Go B n0 Q h ce sl pc Ls S := by
  obtain ⟨p, l', e, R', s, m, args, below, meth, c, Fin⟩ := B
  obtain ⟨rfl, rfl, hx, rfl, hml, hown, hnm, hret, hlk, hZ, hfin, hw⟩ := C
  intro T locs X eT N
  obtain ⟨hd, rfl⟩ := hd
  obtain ⟨rfl, rfl, hr3, hr4⟩ := hr
  subst hS has
  obtain ⟨v, vm₁, ⟨T', L', k', n'⟩, -, X', ⟨Lc, hQ, l', y', z'⟩, st⟩ := X.specialBack hx (y := yc) hi hown (mvT hZ (hw _ w1)) (mvT hZ (hw _ w2)) (mvT hZ (hw _ w4)) hy (hM p e below s args hZ) (g := mkF m pc Ls (argsL.reverse ++ .ref a :: S')) rfl (by rw [hml]; exact hsz) (Steps.refl _) (a := a) (argsL := argsL) (rest := S') hlen rfl (by show 2 * 0 + _ ≤ _; omega) hd (fun _ _ => ⟨rfl, eT, hr3, hr4⟩)
  dsimp only [Pt.U, Pt.locs, Pt.cells, Pt.slots] at X' l' y' z' st hQ
  subst l' y' z'
  obtain ⟨s₂, o, st', r1, r2, r3, r4⟩ := K v _ hQ.1 T' _ X' rfl (Fr.app N hQ.2.1)
  exact ⟨s₂, o, st.trans st', r1, r2, Nat.le_trans hQ.2.2 r3, r4⟩
theorem iCallI (C : Cx B l Z a0 R y b mx rt nf) {yc : MethodName} {cb : ByteArray} {cm : Nat} {rm : Room} {as' : Array Value} {Qc : Option Value → Heap → Prop} {i W ce' sl' : Nat} {argsL : List Value} {a : Addr} (hM : Pays l Z yc cb cm none rm as' n0 h Qc) (hi : yc.name = "<init>") (w1 : Jvm.Cond.methodLink y.cls i yc ∈ tables_1) (w2 : Jvm.Cond.instanceMethod yc ∈ tables_1) (w3 : Jvm.Cond.initialized yc.cls ∈ tables_1) (w4 : Jvm.Cond.code yc cb cm none ∈ tables_1) (hy : yc.cls ≠ "java/lang/invoke/MethodHandle" ∧ yc.cls ≠ "java/lang/invoke/VarHandle") (hlen : ∀ sig, parseMethodDescriptor yc.desc = some sig → argsL.length = sig.parameters.length) (hS : S = argsL.reverse ++ .ref a :: S') (has : (.ref a :: argsL).toArray = as') (hd : De b pc (.invokespecial i) 3 n) (hsz : Ls.size = mx) (hW : (S'.map fun v => v.category).sum = W) (hr : rm.frames + 1 ≤ R.frames ∧ W + (cm + 11) + rm.locals ≤ R.locals ∧ ce + rm.cells = ce' ∧ sl + rm.slots = sl' ∧ ce' ≤ R.cells ∧ sl' ≤ R.slots) (K : ∀ (v : Option Value) (h' : Heap), Qc v h' → Go B n0 Q h' ce' sl' n Ls (v.toList ++ S')) : Go B n0 Q h ce sl pc Ls S :=
  iCallIB C (Pay.of hM C.words w4 w3 hr.1 hr.2.1) hi w1 w2 w4 hy hlen hS has hd hsz hW hr.2.2 K
theorem iCallVB (C : Cx B l Z a0 R y b mx rt nf) {yc : MethodName} {as' : Array Value} {Qc : Option Value → Heap → Prop} {i W cc ss ce' sl' : Nat} {argsL : List Value} {a : Addr} {CC : String} {yd : MethodName} (hM : Pay l Z R yc 3 W as' n0 h cc ss Qc) (E : Exa Z h a CC) (w1 : Jvm.Cond.methodLink y.cls i yd ∈ tables_1) (w2 : Jvm.Cond.declares yd ∈ tables_1) (wn : yd = yc ∨ ∃ SS, Jvm.Cond.superclass yd.cls SS ∈ tables_1) (w5 : Jvm.Cond.selects CC yd yc ∈ tables_1) (w6 : Jvm.Cond.instanceMethod yc ∈ tables_1) (hy : yd.cls ≠ "java/lang/invoke/MethodHandle" ∧ yd.cls ≠ "java/lang/invoke/VarHandle") (hlen : ∀ sig, parseMethodDescriptor yd.desc = some sig → argsL.length = sig.parameters.length) (hS : S = argsL.reverse ++ .ref a :: S') (has : (.ref a :: argsL).toArray = as') (hd : De b pc (.invokevirtual i) 3 n) (hsz : Ls.size = mx) (hW : (S'.map fun v => v.category).sum = W) (hr : ce + cc = ce' ∧ sl + ss = sl' ∧ ce' ≤ R.cells ∧ sl' ≤ R.slots) (K : ∀ (v : Option Value) (h' : Heap), Qc v h' → Go B n0 Q h' ce' sl' n Ls (v.toList ++ S')) : Go B n0 Q h ce sl pc Ls S := by
  obtain ⟨p, l', e, R', s, m, args, below, meth, c, Fin⟩ := B
  obtain ⟨rfl, rfl, hx, rfl, hml, hown, hnm, hret, hlk, hZ, hfin, hw⟩ := C
  intro T locs X eT N
  obtain ⟨hd, rfl⟩ := hd
  obtain ⟨rfl, rfl, hr3, hr4⟩ := hr
  subst hS has
  obtain ⟨cq, kq, q1, q2, q3⟩ := isOf hZ eT E
  have nf : NotFace s yd := by
    rcases wn with rfl | ⟨SS, wn⟩
    · exact notFace_of_selects (args := #[]) (mvT hZ (hw _ w5))
    · exact nf_super (args := #[]) (mvT hZ (hw _ wn))
  obtain ⟨v, vm₁, ⟨T', L', k', n'⟩, -, X', ⟨Lc, hQ, l', y', z'⟩, st⟩ := X.virtualBack hx (y := yd) (z := yc) hown (mvT hZ (hw _ w1)) (mvT hZ (hw _ w2)) nf (mvT hZ (hw _ w5)) (mvT hZ (hw _ w6)) hy (hM p e below s args hZ) q1 q3 (g := mkF m pc Ls (argsL.reverse ++ .ref a :: S')) rfl (by rw [hml]; exact hsz) (Steps.refl _) (argsL := argsL) (rest := S') hlen rfl (by show 2 * 0 + _ ≤ _; omega) hd (fun _ _ => ⟨rfl, eT, hr3, hr4⟩)
  dsimp only [Pt.U, Pt.locs, Pt.cells, Pt.slots] at X' l' y' z' st hQ
  subst l' y' z'
  obtain ⟨s₂, o, st', r1, r2, r3, r4⟩ := K v _ hQ.1 T' _ X' rfl (Fr.app N hQ.2.1)
  exact ⟨s₂, o, st.trans st', r1, r2, Nat.le_trans hQ.2.2 r3, r4⟩
theorem iCallV (C : Cx B l Z a0 R y b mx rt nf) {yc : MethodName} {cb : ByteArray} {cm : Nat} {cr : Option FieldType} {rm : Room} {as' : Array Value} {Qc : Option Value → Heap → Prop} {i W ce' sl' : Nat} {argsL : List Value} {a : Addr} {CC : String} {yd : MethodName} (hM : Pays l Z yc cb cm cr rm as' n0 h Qc) (E : Exa Z h a CC) (w1 : Jvm.Cond.methodLink y.cls i yd ∈ tables_1) (w2 : Jvm.Cond.declares yd ∈ tables_1) (wn : yd = yc ∨ ∃ SS, Jvm.Cond.superclass yd.cls SS ∈ tables_1) (w5 : Jvm.Cond.selects CC yd yc ∈ tables_1) (w6 : Jvm.Cond.instanceMethod yc ∈ tables_1) (w3 : Jvm.Cond.initialized yc.cls ∈ tables_1) (w4 : Jvm.Cond.code yc cb cm cr ∈ tables_1) (hy : yd.cls ≠ "java/lang/invoke/MethodHandle" ∧ yd.cls ≠ "java/lang/invoke/VarHandle") (hlen : ∀ sig, parseMethodDescriptor yd.desc = some sig → argsL.length = sig.parameters.length) (hS : S = argsL.reverse ++ .ref a :: S') (has : (.ref a :: argsL).toArray = as') (hd : De b pc (.invokevirtual i) 3 n) (hsz : Ls.size = mx) (hW : (S'.map fun v => v.category).sum = W) (hr : rm.frames + 1 ≤ R.frames ∧ W + (cm + 11) + rm.locals ≤ R.locals ∧ ce + rm.cells = ce' ∧ sl + rm.slots = sl' ∧ ce' ≤ R.cells ∧ sl' ≤ R.slots) (K : ∀ (v : Option Value) (h' : Heap), Qc v h' → Go B n0 Q h' ce' sl' n Ls (v.toList ++ S')) : Go B n0 Q h ce sl pc Ls S :=
  iCallVB C (Pay.of hM C.words w4 w3 hr.1 hr.2.1) E w1 w2 wn w5 w6 hy hlen hS has hd hsz hW hr.2.2 K
theorem iCallFB (C : Cx B l Z a0 R y b mx rt nf) {yc : MethodName} {as' : Array Value} {Qc : Option Value → Heap → Prop} {i W cc ss ce' sl' : Nat} {argsL : List Value} {a : Addr} {CC : String} {yd : MethodName} {cnt : Nat} (hM : Pay l Z R yc 5 W as' n0 h cc ss Qc) (E : Exa Z h a CC) (w1 : Jvm.Cond.methodLink y.cls i yd ∈ tables_1) (w2 : Jvm.Cond.declares yd ∈ tables_1) (w7 : Jvm.Cond.interfaceMethod yd.cls yd.cls yd.name yd.desc ∈ tables_1) (h7 : ((Jvm.Cond.interfaceMethod yd.cls yd.cls yd.name yd.desc).onTables && (Jvm.Cond.interfaceMethod yd.cls yd.cls yd.name yd.desc).keepsFace) = true) (w5 : Jvm.Cond.selects CC yd yc ∈ tables_1) (w6 : Jvm.Cond.instanceMethod yc ∈ tables_1) (w8 : Jvm.Cond.publicMethod yc ∈ tables_1) (w9 : Jvm.Cond.unhidden CC yd.name yd.desc ∈ tables_1) (w0 : Jvm.Cond.castable CC yd.cls ∈ tables_1) (hy : yd.cls ≠ "java/lang/invoke/MethodHandle" ∧ yd.cls ≠ "java/lang/invoke/VarHandle") (hlen : ∀ sig, parseMethodDescriptor yd.desc = some sig → argsL.length = sig.parameters.length) (hS : S = argsL.reverse ++ .ref a :: S') (has : (.ref a :: argsL).toArray = as') (hd : De b pc (.invokeinterface i cnt) 5 n) (hsz : Ls.size = mx) (hW : (S'.map fun v => v.category).sum = W) (hr : ce + cc = ce' ∧ sl + ss = sl' ∧ ce' ≤ R.cells ∧ sl' ≤ R.slots) (K : ∀ (v : Option Value) (h' : Heap), Qc v h' → Go B n0 Q h' ce' sl' n Ls (v.toList ++ S')) : Go B n0 Q h ce sl pc Ls S := by
  obtain ⟨p, l', e, R', s, m, args, below, meth, c, Fin⟩ := B
  obtain ⟨rfl, rfl, hx, rfl, hml, hown, hnm, hret, hlk, hZ, hfin, hw⟩ := C
  intro T locs X eT N
  obtain ⟨hd, rfl⟩ := hd
  obtain ⟨rfl, rfl, hr3, hr4⟩ := hr
  subst hS has
  obtain ⟨cq, kq, q1, q2, q3⟩ := isOf hZ eT E
  obtain ⟨v, vm₁, ⟨T', L', k', n'⟩, -, X', ⟨Lc, hQ, l', y', z'⟩, st⟩ := X.interfaceBack hx (xi := yd) (y := yc) hown (mvT hZ (hw _ w1)) (mvT hZ (hw _ w2)) (mvT hZ (hw _ w7) h7) (mvT hZ (hw _ w5)) (mvT hZ (hw _ w6)) (mvT hZ (hw _ w8)) (mvT hZ (hw _ w9)) (mvT hZ (hw _ w0)) hy (hM p e below s args hZ) q1 q2 q3 (g := mkF m pc Ls (argsL.reverse ++ .ref a :: S')) rfl (by rw [hml]; exact hsz) (Steps.refl _) (argsL := argsL) (rest := S') hlen rfl (by show 2 * 0 + _ ≤ _; omega) hd (fun _ _ => ⟨rfl, eT, hr3, hr4⟩)
  dsimp only [Pt.U, Pt.locs, Pt.cells, Pt.slots] at X' l' y' z' st hQ
  subst l' y' z'
  obtain ⟨s₂, o, st', r1, r2, r3, r4⟩ := K v _ hQ.1 T' _ X' rfl (Fr.app N hQ.2.1)
  exact ⟨s₂, o, st.trans st', r1, r2, Nat.le_trans hQ.2.2 r3, r4⟩
theorem iCallF (C : Cx B l Z a0 R y b mx rt nf) {yc : MethodName} {cb : ByteArray} {cm : Nat} {cr : Option FieldType} {rm : Room} {as' : Array Value} {Qc : Option Value → Heap → Prop} {i W ce' sl' : Nat} {argsL : List Value} {a : Addr} {CC : String} {yd : MethodName} {cnt : Nat} (hM : Pays l Z yc cb cm cr rm as' n0 h Qc) (E : Exa Z h a CC) (w1 : Jvm.Cond.methodLink y.cls i yd ∈ tables_1) (w2 : Jvm.Cond.declares yd ∈ tables_1) (w7 : Jvm.Cond.interfaceMethod yd.cls yd.cls yd.name yd.desc ∈ tables_1) (h7 : ((Jvm.Cond.interfaceMethod yd.cls yd.cls yd.name yd.desc).onTables && (Jvm.Cond.interfaceMethod yd.cls yd.cls yd.name yd.desc).keepsFace) = true) (w5 : Jvm.Cond.selects CC yd yc ∈ tables_1) (w6 : Jvm.Cond.instanceMethod yc ∈ tables_1) (w8 : Jvm.Cond.publicMethod yc ∈ tables_1) (w9 : Jvm.Cond.unhidden CC yd.name yd.desc ∈ tables_1) (w0 : Jvm.Cond.castable CC yd.cls ∈ tables_1) (w3 : Jvm.Cond.initialized yc.cls ∈ tables_1) (w4 : Jvm.Cond.code yc cb cm cr ∈ tables_1) (hy : yd.cls ≠ "java/lang/invoke/MethodHandle" ∧ yd.cls ≠ "java/lang/invoke/VarHandle") (hlen : ∀ sig, parseMethodDescriptor yd.desc = some sig → argsL.length = sig.parameters.length) (hS : S = argsL.reverse ++ .ref a :: S') (has : (.ref a :: argsL).toArray = as') (hd : De b pc (.invokeinterface i cnt) 5 n) (hsz : Ls.size = mx) (hW : (S'.map fun v => v.category).sum = W) (hr : rm.frames + 1 ≤ R.frames ∧ W + (cm + 11) + rm.locals ≤ R.locals ∧ ce + rm.cells = ce' ∧ sl + rm.slots = sl' ∧ ce' ≤ R.cells ∧ sl' ≤ R.slots) (K : ∀ (v : Option Value) (h' : Heap), Qc v h' → Go B n0 Q h' ce' sl' n Ls (v.toList ++ S')) : Go B n0 Q h ce sl pc Ls S :=
  iCallFB C (Pay.of hM C.words w4 w3 hr.1 hr.2.1) E w1 w2 w7 h7 w5 w6 w8 w9 w0 hy hlen hS has hd hsz hW hr.2.2 K
theorem iLen (C : Cx B l Z a0 R y b mx rt nf) {a : Addr} {cl : Cell} {ty : FieldType} {z : Int32} (A : Arr Z h a cl ty) (hz : cl.slots.size.toInt32 = z) (hd : De b pc (.arraylength) 1 n) (K : Go B n0 Q h ce sl n Ls (.int z :: S)) : Go B n0 Q h ce sl pc Ls (.ref a :: S) := by
  obtain ⟨p, l', e, R', s, m, args, below, meth, c, Fin⟩ := B
  obtain ⟨rfl, rfl, hx, rfl, hml, hown, hnm, hret, hlk, hZ, hfin, hw⟩ := C
  intro T locs X eT N
  obtain ⟨hd, rfl⟩ := hd
  subst hz
  obtain ⟨s₂, o, st, r⟩ := K T locs X eT N
  exact ⟨s₂, o, X.arraylength hx (by rw [eT]; exact A.1) (State.isArrayOf_alike hZ.alike A.2.1) (g := mkF m pc Ls (.ref a :: S)) rfl rfl hd _ st, r⟩
theorem iIaload (C : Cx B l Z a0 R y b mx rt nf) {a : Addr} {cl : Cell} {j : Int32} {v : Value} (A : Arr Z h a cl .int) (hj : ¬ (j < 0 ∨ cl.slots.size ≤ j.toNatClampNeg)) (hv : cl.slots[j.toNatClampNeg]? = some v) (hd : De b pc (.iaload) 1 n) (K : Go B n0 Q h ce sl n Ls (v :: S)) : Go B n0 Q h ce sl pc Ls (.int j :: .ref a :: S) := by
  obtain ⟨p, l', e, R', s, m, args, below, meth, c, Fin⟩ := B
  obtain ⟨rfl, rfl, hx, rfl, hml, hown, hnm, hret, hlk, hZ, hfin, hw⟩ := C
  intro T locs X eT N
  obtain ⟨hd, rfl⟩ := hd
  obtain ⟨s₂, o, st, r⟩ := K T locs X eT N
  exact ⟨s₂, o, X.iaload hx (by rw [eT]; exact A.1) (State.isArrayOf_alike hZ.alike A.2.1) A.2.2 hj hv (g := mkF m pc Ls (.int j :: .ref a :: S)) rfl rfl hd _ st, r⟩
theorem iCaload (C : Cx B l Z a0 R y b mx rt nf) {a : Addr} {cl : Cell} {j : Int32} {v : Value} (A : Arr Z h a cl .char) (hj : ¬ (j < 0 ∨ cl.slots.size ≤ j.toNatClampNeg)) (hv : cl.slots[j.toNatClampNeg]? = some v) (hd : De b pc (.caload) 1 n) (K : Go B n0 Q h ce sl n Ls (v :: S)) : Go B n0 Q h ce sl pc Ls (.int j :: .ref a :: S) := by
  obtain ⟨p, l', e, R', s, m, args, below, meth, c, Fin⟩ := B
  obtain ⟨rfl, rfl, hx, rfl, hml, hown, hnm, hret, hlk, hZ, hfin, hw⟩ := C
  intro T locs X eT N
  obtain ⟨hd, rfl⟩ := hd
  obtain ⟨s₂, o, st, r⟩ := K T locs X eT N
  exact ⟨s₂, o, X.caload hx (by rw [eT]; exact A.1) (State.isArrayOf_alike hZ.alike A.2.1) A.2.2 hj hv (g := mkF m pc Ls (.int j :: .ref a :: S)) rfl rfl hd _ st, r⟩
theorem iBaload (C : Cx B l Z a0 R y b mx rt nf) {a : Addr} {cl : Cell} {j : Int32} {v : Value} (A : Arr Z h a cl .byte) (hj : ¬ (j < 0 ∨ cl.slots.size ≤ j.toNatClampNeg)) (hv : cl.slots[j.toNatClampNeg]? = some v) (hd : De b pc (.baload) 1 n) (K : Go B n0 Q h ce sl n Ls (v :: S)) : Go B n0 Q h ce sl pc Ls (.int j :: .ref a :: S) := by
  obtain ⟨p, l', e, R', s, m, args, below, meth, c, Fin⟩ := B
  obtain ⟨rfl, rfl, hx, rfl, hml, hown, hnm, hret, hlk, hZ, hfin, hw⟩ := C
  intro T locs X eT N
  obtain ⟨hd, rfl⟩ := hd
  obtain ⟨s₂, o, st, r⟩ := K T locs X eT N
  exact ⟨s₂, o, X.baloadBytes hx (by rw [eT]; exact A.1) (State.isArrayOf_alike hZ.alike A.2.1) A.2.2 hj hv (g := mkF m pc Ls (.int j :: .ref a :: S)) rfl rfl hd _ st, r⟩
theorem iLaload (C : Cx B l Z a0 R y b mx rt nf) {a : Addr} {cl : Cell} {j : Int32} {v : Value} (A : Arr Z h a cl .long) (hj : ¬ (j < 0 ∨ cl.slots.size ≤ j.toNatClampNeg)) (hv : cl.slots[j.toNatClampNeg]? = some v) (hd : De b pc (.laload) 1 n) (K : Go B n0 Q h ce sl n Ls (v :: S)) : Go B n0 Q h ce sl pc Ls (.int j :: .ref a :: S) := by
  obtain ⟨p, l', e, R', s, m, args, below, meth, c, Fin⟩ := B
  obtain ⟨rfl, rfl, hx, rfl, hml, hown, hnm, hret, hlk, hZ, hfin, hw⟩ := C
  intro T locs X eT N
  obtain ⟨hd, rfl⟩ := hd
  obtain ⟨s₂, o, st, r⟩ := K T locs X eT N
  exact ⟨s₂, o, X.laload hx (by rw [eT]; exact A.1) (State.isArrayOf_alike hZ.alike A.2.1) A.2.2 hj hv (g := mkF m pc Ls (.int j :: .ref a :: S)) rfl rfl hd _ st, r⟩
theorem iAaload (C : Cx B l Z a0 R y b mx rt nf) {a : Addr} {cl : Cell} {j : Int32} {v : Value} {ty : FieldType} (hty : ty.isReference = true) (A : Arr Z h a cl ty) (hj : ¬ (j < 0 ∨ cl.slots.size ≤ j.toNatClampNeg)) (hv : cl.slots[j.toNatClampNeg]? = some v) (hd : De b pc (.aaload) 1 n) (K : Go B n0 Q h ce sl n Ls (v :: S)) : Go B n0 Q h ce sl pc Ls (.int j :: .ref a :: S) := by
  obtain ⟨p, l', e, R', s, m, args, below, meth, c, Fin⟩ := B
  obtain ⟨rfl, rfl, hx, rfl, hml, hown, hnm, hret, hlk, hZ, hfin, hw⟩ := C
  intro T locs X eT N
  obtain ⟨hd, rfl⟩ := hd
  obtain ⟨s₂, o, st, r⟩ := K T locs X eT N
  exact ⟨s₂, o, X.aaload hx (by rw [eT]; exact A.1) (State.isArrayOf_alike hZ.alike A.2.1) hty A.2.2 hj hv (g := mkF m pc Ls (.int j :: .ref a :: S)) rfl rfl hd _ st, r⟩
theorem iNewP (C : Cx B l Z a0 R y b mx rt nf) {aty : ArrayType} {z : Int32} {cap ce' sl' : Nat} (w : Jvm.Cond.arrayClass (newarray.typeOf aty) ∈ tables_1) (hd : De b pc (.newarray aty) 2 n) (hz : ¬ z < 0) (hcap : z.toNatClampNeg ≤ cap) (hb : cap * 8 ≤ 536870912) (hc : ce + 1 = ce' ∧ sl + cap = sl' ∧ ce' ≤ R.cells ∧ sl' ≤ R.slots) (K : ∀ (h' : Heap) (a : Addr) (k : ClassId), a = h.size → Ext h h' → Arv Z h' a k (newarray.typeOf aty) z [] (defaultValue (newarray.typeOf aty)) → Go B n0 Q h' ce' sl' n Ls (.ref a :: S)) : Go B n0 Q h ce sl pc Ls (.int z :: S) := by
  obtain ⟨p, l', e, R', s, m, args, below, meth, c, Fin⟩ := B
  obtain ⟨rfl, rfl, hx, rfl, hml, hown, hnm, hret, hlk, hZ, hfin, hw⟩ := C
  intro T locs X eT N
  obtain ⟨hd, rfl⟩ := hd
  obtain ⟨rfl, rfl, hc, hs⟩ := hc
  obtain ⟨T', h', kA, X', e', E, A, st⟩ := newP X hx hZ (hw _ w) eT (g := mkF m pc Ls (.int z :: S)) rfl hd rfl hz hcap hb hc hs
  obtain ⟨s₂, o, st', r1, r2, r3, r4⟩ := K h' _ kA rfl E (Arv.new A hz) T' locs X' e' N
  exact ⟨s₂, o, st _ st', r1, r2, Nat.le_trans E.1 r3, r4⟩
theorem iIastore (C : Cx B l Z a0 R y b mx rt nf) {a : Addr} {cl : Cell} {j : Int32} {x : Int32} (A : Arr Z h a cl .int) (hj : ¬ (j < 0 ∨ cl.slots.size ≤ j.toNatClampNeg)) (ha : n0 ≤ a) (hd : De b pc (.iastore) 1 n) (K : ∀ h', Wr h h' a j.toNatClampNeg (.int x) → Go B n0 Q h' ce sl n Ls S) : Go B n0 Q h ce sl pc Ls (.int x :: .int j :: .ref a :: S) := by
  obtain ⟨p, l', e, R', s, m, args, below, meth, c, Fin⟩ := B
  obtain ⟨rfl, rfl, hx, rfl, hml, hown, hnm, hret, hlk, hZ, hfin, hw⟩ := C
  intro T locs X eT N
  obtain ⟨hd, rfl⟩ := hd
  obtain ⟨T', h', X', e', W, st⟩ := stI X hx hZ eT A (j := j) hj (g := mkF m pc Ls (.int x :: .int j :: .ref a :: S)) rfl rfl hd
  obtain ⟨s₂, o, st', r1, r2, r3, r4⟩ := K h' W T' _ X' e' (Fr.snoc X' N ha)
  exact ⟨s₂, o, st _ st', r1, r2, Nat.le_trans (Nat.le_of_eq W.size.symm) r3, r4⟩
theorem iCastore (C : Cx B l Z a0 R y b mx rt nf) {a : Addr} {cl : Cell} {j : Int32} {x : Int32} (A : Arr Z h a cl .char) (hj : ¬ (j < 0 ∨ cl.slots.size ≤ j.toNatClampNeg)) (ha : n0 ≤ a) (hd : De b pc (.castore) 1 n) (K : ∀ h', Wr h h' a j.toNatClampNeg (.int (nar .char x)) → Go B n0 Q h' ce sl n Ls S) : Go B n0 Q h ce sl pc Ls (.int x :: .int j :: .ref a :: S) := by
  obtain ⟨p, l', e, R', s, m, args, below, meth, c, Fin⟩ := B
  obtain ⟨rfl, rfl, hx, rfl, hml, hown, hnm, hret, hlk, hZ, hfin, hw⟩ := C
  intro T locs X eT N
  obtain ⟨hd, rfl⟩ := hd
  obtain ⟨T', h', X', e', W, st⟩ := stC X hx hZ eT A (j := j) hj (g := mkF m pc Ls (.int x :: .int j :: .ref a :: S)) rfl rfl hd
  obtain ⟨s₂, o, st', r1, r2, r3, r4⟩ := K h' W T' _ X' e' (Fr.snoc X' N ha)
  exact ⟨s₂, o, st _ st', r1, r2, Nat.le_trans (Nat.le_of_eq W.size.symm) r3, r4⟩
theorem iBastore (C : Cx B l Z a0 R y b mx rt nf) {a : Addr} {cl : Cell} {j : Int32} {x : Int32} (A : Arr Z h a cl .byte) (hj : ¬ (j < 0 ∨ cl.slots.size ≤ j.toNatClampNeg)) (ha : n0 ≤ a) (hd : De b pc (.bastore) 1 n) (K : ∀ h', Wr h h' a j.toNatClampNeg (.int (nar .byte x)) → Go B n0 Q h' ce sl n Ls S) : Go B n0 Q h ce sl pc Ls (.int x :: .int j :: .ref a :: S) := by
  obtain ⟨p, l', e, R', s, m, args, below, meth, c, Fin⟩ := B
  obtain ⟨rfl, rfl, hx, rfl, hml, hown, hnm, hret, hlk, hZ, hfin, hw⟩ := C
  intro T locs X eT N
  obtain ⟨hd, rfl⟩ := hd
  obtain ⟨T', h', X', e', W, st⟩ := stB X hx hZ eT A (j := j) hj (g := mkF m pc Ls (.int x :: .int j :: .ref a :: S)) rfl rfl hd
  obtain ⟨s₂, o, st', r1, r2, r3, r4⟩ := K h' W T' _ X' e' (Fr.snoc X' N ha)
  exact ⟨s₂, o, st _ st', r1, r2, Nat.le_trans (Nat.le_of_eq W.size.symm) r3, r4⟩
theorem iLastore (C : Cx B l Z a0 R y b mx rt nf) {a : Addr} {cl : Cell} {j : Int32} {x : Int64} (A : Arr Z h a cl .long) (hj : ¬ (j < 0 ∨ cl.slots.size ≤ j.toNatClampNeg)) (ha : n0 ≤ a) (hd : De b pc (.lastore) 1 n) (K : ∀ h', Wr h h' a j.toNatClampNeg (.long x) → Go B n0 Q h' ce sl n Ls S) : Go B n0 Q h ce sl pc Ls (.long x :: .int j :: .ref a :: S) := by
  obtain ⟨p, l', e, R', s, m, args, below, meth, c, Fin⟩ := B
  obtain ⟨rfl, rfl, hx, rfl, hml, hown, hnm, hret, hlk, hZ, hfin, hw⟩ := C
  intro T locs X eT N
  obtain ⟨hd, rfl⟩ := hd
  obtain ⟨T', h', X', e', W, st⟩ := stJ X hx hZ eT A (j := j) hj (g := mkF m pc Ls (.long x :: .int j :: .ref a :: S)) rfl rfl hd
  obtain ⟨s₂, o, st', r1, r2, r3, r4⟩ := K h' W T' _ X' e' (Fr.snoc X' N ha)
  exact ⟨s₂, o, st _ st', r1, r2, Nat.le_trans (Nat.le_of_eq W.size.symm) r3, r4⟩
theorem iAastore (C : Cx B l Z a0 R y b mx rt nf) {a : Addr} {cl : Cell} {j : Int32} {v : Value} {ty : FieldType} (A : Arr Z h a cl ty) (hj : ¬ (j < 0 ∨ cl.slots.size ≤ j.toNatClampNeg)) (hty : ty.isReference = true) (F : Sto Z h a v) (ha : n0 ≤ a) (hd : De b pc (.aastore) 1 n) (K : ∀ h', Wr h h' a j.toNatClampNeg v → Go B n0 Q h' ce sl n Ls S) : Go B n0 Q h ce sl pc Ls (v :: .int j :: .ref a :: S) := by
  obtain ⟨p, l', e, R', s, m, args, below, meth, c, Fin⟩ := B
  obtain ⟨rfl, rfl, hx, rfl, hml, hown, hnm, hret, hlk, hZ, hfin, hw⟩ := C
  intro T locs X eT N
  obtain ⟨hd, rfl⟩ := hd
  obtain ⟨T', h', X', e', W, st⟩ := stR X hx hZ eT A (j := j) hj hty F (g := mkF m pc Ls (v :: .int j :: .ref a :: S)) rfl rfl hd
  obtain ⟨s₂, o, st', r1, r2, r3, r4⟩ := K h' W T' _ X' e' (Fr.snoc X' N ha)
  exact ⟨s₂, o, st _ st', r1, r2, Nat.le_trans (Nat.le_of_eq W.size.symm) r3, r4⟩
theorem iCast (C : Cx B l Z a0 R y b mx rt nf) {i : Nat} {a : Addr} {K0 : String} (w : Jvm.Cond.classLink y.cls i K0 ∈ tables_1) (F : Ins Z h a K0 true) (hd : De b pc (.checkcast i) 3 n) (K : Go B n0 Q h ce sl n Ls (.ref a :: S)) : Go B n0 Q h ce sl pc Ls (.ref a :: S) := by
  obtain ⟨p, l', e, R', s, m, args, below, meth, c, Fin⟩ := B
  obtain ⟨rfl, rfl, hx, rfl, hml, hown, hnm, hret, hlk, hZ, hfin, hw⟩ := C
  intro T locs X eT N
  obtain ⟨hd, rfl⟩ := hd
  obtain ⟨T', X', e', st⟩ := castY X hx hZ hown (hw _ w) eT F (g := mkF m pc Ls (.ref a :: S)) rfl rfl hd
  obtain ⟨s₂, o, st', r⟩ := K T' locs X' e' N
  exact ⟨s₂, o, st _ st', r⟩
theorem iInstY (C : Cx B l Z a0 R y b mx rt nf) {i : Nat} {a : Addr} {K0 : String} (w : Jvm.Cond.classLink y.cls i K0 ∈ tables_1) (F : Ins Z h a K0 true) (hd : De b pc (.instanceof i) 3 n) (K : Go B n0 Q h ce sl n Ls (.int 1 :: S)) : Go B n0 Q h ce sl pc Ls (.ref a :: S) := by
  obtain ⟨p, l', e, R', s, m, args, below, meth, c, Fin⟩ := B
  obtain ⟨rfl, rfl, hx, rfl, hml, hown, hnm, hret, hlk, hZ, hfin, hw⟩ := C
  intro T locs X eT N
  obtain ⟨hd, rfl⟩ := hd
  obtain ⟨T', X', e', st⟩ := instY X hx hZ hown (hw _ w) eT F (g := mkF m pc Ls (.ref a :: S)) rfl rfl hd
  obtain ⟨s₂, o, st', r⟩ := K T' locs X' e' N
  exact ⟨s₂, o, st _ st', r⟩
theorem iInstN (C : Cx B l Z a0 R y b mx rt nf) {i : Nat} {a : Addr} {K0 CC : String} (w : Jvm.Cond.classLink y.cls i K0 ∈ tables_1) (E : Exa Z h a CC) (F : ∃ c t, Z.vm.findClass CC = some c ∧ Z.vm.findClass K0 = some t ∧ Z.vm.assignable c t = false) (hd : De b pc (.instanceof i) 3 n) (K : Go B n0 Q h ce sl n Ls (.int 0 :: S)) : Go B n0 Q h ce sl pc Ls (.ref a :: S) := by
  obtain ⟨p, l', e, R', s, m, args, below, meth, c, Fin⟩ := B
  obtain ⟨rfl, rfl, hx, rfl, hml, hown, hnm, hret, hlk, hZ, hfin, hw⟩ := C
  intro T locs X eT N
  obtain ⟨hd, rfl⟩ := hd
  obtain ⟨T', X', e', st⟩ := instNo X hx hZ hown (hw _ w) eT E F (g := mkF m pc Ls (.ref a :: S)) rfl rfl hd
  obtain ⟨s₂, o, st', r⟩ := K T' locs X' e' N
  exact ⟨s₂, o, st _ st', r⟩
theorem iRetV  (C : Cx B l Z a0 R y b mx none nf) (hd : De b pc (.return_) 1 n) (hc : nf ≤ n0 ∧ ce ≤ R.cells ∧ sl ≤ R.slots) (hQ : Q none h) : Go B n0 Q h ce sl pc Ls ([]) := by
  obtain ⟨p, l', e, R', s, m, args, below, meth, c, Fin⟩ := B
  obtain ⟨rfl, rfl, hx, rfl, hml, hown, hnm, hret, hlk, hZ, hfin, hw⟩ := C
  intro T locs X eT N
  obtain ⟨hd, rfl⟩ := hd
  obtain ⟨fs, hr, hrun, hended, hW, hsame⟩ := X.leave (v := none) (fun q => by first | rfl | (rw [hret] at q; cases q)) hlk
  exact ⟨_, _, X.returnOut hx hret hd hr, hrun, hended, Nat.le_of_eq (eT ▸ rfl), _, _, rfl, eT ▸ hQ, hfin _ _ _ (fun y hy => Nat.le_trans hc.1 (N y hy)) ⟨⟨_, rfl⟩, hW, hsame.mono hc.2.1 hc.2.2⟩⟩
theorem iRetZ {z : Int32} {t : FieldType} (C : Cx B l Z a0 R y b mx (some t) nf) (hd : De b pc (.ireturn) 1 n) (ht : t = .boolean ∨ t = .byte ∨ t = .char ∨ t = .short) (hc : nf ≤ n0 ∧ ce ≤ R.cells ∧ sl ≤ R.slots) (hQ : Q (some (.int (nar t z))) h) : Go B n0 Q h ce sl pc Ls (.int z :: S) := by
  obtain ⟨p, l', e, R', s, m, args, below, meth, c, Fin⟩ := B
  obtain ⟨rfl, rfl, hx, rfl, hml, hown, hnm, hret, hlk, hZ, hfin, hw⟩ := C
  intro T locs X eT N
  obtain ⟨hd, rfl⟩ := hd
  obtain ⟨fs, hr, hrun, hended, hW, hsame⟩ := X.leave (v := (some (.int (nar t z)))) (fun q => by first | rfl | (rw [hret] at q; cases q)) hlk
  exact ⟨_, _, retN X hx hret ht hd hr, hrun, hended, Nat.le_of_eq (eT ▸ rfl), _, _, rfl, eT ▸ hQ, hfin _ _ _ (fun y hy => Nat.le_trans hc.1 (N y hy)) ⟨⟨_, rfl⟩, hW, hsame.mono hc.2.1 hc.2.2⟩⟩
theorem iRetI {z : Int32} (C : Cx B l Z a0 R y b mx (some .int) nf) (hd : De b pc (.ireturn) 1 n) (hc : nf ≤ n0 ∧ ce ≤ R.cells ∧ sl ≤ R.slots) (hQ : Q (some (.int z)) h) : Go B n0 Q h ce sl pc Ls (.int z :: S) := by
  obtain ⟨p, l', e, R', s, m, args, below, meth, c, Fin⟩ := B
  obtain ⟨rfl, rfl, hx, rfl, hml, hown, hnm, hret, hlk, hZ, hfin, hw⟩ := C
  intro T locs X eT N
  obtain ⟨hd, rfl⟩ := hd
  obtain ⟨fs, hr, hrun, hended, hW, hsame⟩ := X.leave (v := (some (.int z))) (fun q => by first | rfl | (rw [hret] at q; cases q)) hlk
  exact ⟨_, _, retOut X hx hret rfl (Or.inl ⟨rfl, Or.inl rfl, z, rfl⟩) hd hr, hrun, hended, Nat.le_of_eq (eT ▸ rfl), _, _, rfl, eT ▸ hQ, hfin _ _ _ (fun y hy => Nat.le_trans hc.1 (N y hy)) ⟨⟨_, rfl⟩, hW, hsame.mono hc.2.1 hc.2.2⟩⟩
theorem iRetA {w : Value} {t : FieldType} (C : Cx B l Z a0 R y b mx (some t) nf) (hd : De b pc (.areturn) 1 n) (ht : t.isReference = true) (hw' : w.isRef = true) (hna : narrow t w = w) (hc : nf ≤ n0 ∧ ce ≤ R.cells ∧ sl ≤ R.slots) (hQ : Q (some w) h) : Go B n0 Q h ce sl pc Ls (w :: S) := by
  obtain ⟨p, l', e, R', s, m, args, below, meth, c, Fin⟩ := B
  obtain ⟨rfl, rfl, hx, rfl, hml, hown, hnm, hret, hlk, hZ, hfin, hw⟩ := C
  intro T locs X eT N
  obtain ⟨hd, rfl⟩ := hd
  obtain ⟨fs, hr, hrun, hended, hW, hsame⟩ := X.leave (v := (some w)) (fun q => by first | rfl | (rw [hret] at q; cases q)) hlk
  exact ⟨_, _, retOut X hx hret hna (Or.inr (Or.inr (Or.inr (Or.inr ⟨rfl, ht, hw'⟩)))) hd hr, hrun, hended, Nat.le_of_eq (eT ▸ rfl), _, _, rfl, eT ▸ hQ, hfin _ _ _ (fun y hy => Nat.le_trans hc.1 (N y hy)) ⟨⟨_, rfl⟩, hW, hsame.mono hc.2.1 hc.2.2⟩⟩
theorem iRetJ {z : Int64} (C : Cx B l Z a0 R y b mx (some .long) nf) (hd : De b pc (.lreturn) 1 n) (hc : nf ≤ n0 ∧ ce ≤ R.cells ∧ sl ≤ R.slots) (hQ : Q (some (.long z)) h) : Go B n0 Q h ce sl pc Ls (.long z :: S) := by
  obtain ⟨p, l', e, R', s, m, args, below, meth, c, Fin⟩ := B
  obtain ⟨rfl, rfl, hx, rfl, hml, hown, hnm, hret, hlk, hZ, hfin, hw⟩ := C
  intro T locs X eT N
  obtain ⟨hd, rfl⟩ := hd
  obtain ⟨fs, hr, hrun, hended, hW, hsame⟩ := X.leave (v := (some (.long z))) (fun q => by first | rfl | (rw [hret] at q; cases q)) hlk
  exact ⟨_, _, retOut X hx hret rfl (Or.inr (Or.inl ⟨rfl, rfl, z, rfl⟩)) hd hr, hrun, hended, Nat.le_of_eq (eT ▸ rfl), _, _, rfl, eT ▸ hQ, hfin _ _ _ (fun y hy => Nat.le_trans hc.1 (N y hy)) ⟨⟨_, rfl⟩, hW, hsame.mono hc.2.1 hc.2.2⟩⟩
theorem oFresh {a : Addr} (O : Old Z n0 h) (g : a = h.size) : n0 ≤ a := by
  have q1 := O.1
  have q2 := O.2.1
  subst g
  omega
theorem oNe {a a' : Addr} (q : a < h.size) (g : h.size ≤ a') : a ≠ a' := Nat.ne_of_lt (Nat.lt_of_lt_of_le q g)
theorem oSize (O : Old Z n0 h) : n0 ≤ h.size := by
  have q1 := O.1
  have q2 := O.2.1
  omega
theorem acE {x z : Value} (q : x = z) : XT.acmp .eq x z = true ∧ XT.acmp .ne x z = false := by
  show decide (x = z) = true ∧ decide (x ≠ z) = false
  simp [q]
theorem acN {x z : Value} (q : ¬ x = z) : XT.acmp .eq x z = false ∧ XT.acmp .ne x z = true := by
  show decide (x = z) = false ∧ decide (x ≠ z) = true
  simp [q]
theorem acNr {a a' : Addr} (q : ¬ a = a') : XT.acmp .eq (.ref a) (.ref a') = false ∧ XT.acmp .ne (.ref a) (.ref a') = true := acN fun r => q (Value.ref.inj r)
def QP (r : Option Value) (h0 : Heap) (v : Option Value) (h : Heap) : Prop := v = r ∧ h0 = h
theorem eqI_v {args : Array Value} {first s : State} {o : Option Outcome} {idx : List Nat} {t : Term} {k : Int32} (q : (Jvm.Cond.eq t (.int k)).value args first o s idx = some true) : t.eval args first o idx s = some (.int k) := by
  obtain ⟨x, z, e1, e2, k1, k2⟩ := cmp_v (Or.inl q)
  have e3 : (Term.int k).eval args first o idx s = some (.int k) := Term.int_eval k
  cases e3.symm.trans e2
  obtain ⟨w, rfl⟩ := k2
  have e4 := Cond.eq_ints (args := args) (first := first) (o := o) (s := s) (idx := idx) e1 e2
  rw [e1, gotT e4 q]
theorem eqQ_v {args : Array Value} {first s : State} {o : Option Outcome} {idx : List Nat} {t u : Term} {a' : Addr} (q : (Jvm.Cond.eq t u).value args first o s idx = some true) (e2 : u.eval args first o idx s = some (.ref a')) : t.eval args first o idx s = some (.ref a') := by
  obtain ⟨x, z, e1, e3, k1, k2⟩ := cmp_v (Or.inl q)
  cases e2.symm.trans e3
  have e4 := gotT (eq_R e1 e2 k2.2 rfl) q
  rw [e1, e4]
theorem oLen {args : Array Value} {s : State} {t : Term} {k : Int32} {a : Addr} {cl : Cell} (q : (Term.length t).eval args s none [] s = some (.int k)) (ev : t.eval args s none [] s = some (.ref a)) (hc : s.heap[a]? = some cl) : cl.slots.size.toInt32 = k := by
  obtain ⟨c', e1, e3⟩ := length_at q ev
  cases hc.symm.trans e1
  exact e3
theorem oOld {a a' : Addr} (O : Old Z n0 h) (q : a < Z.heap.size) (r : n0 ≤ a') : a ≠ a' := O.ne q r
theorem eqR_v {args : Array Value} {first s : State} {o : Option Outcome} {idx : List Nat} {t u : Term} {a a' : Addr} (q : (Jvm.Cond.eq t u).value args first o s idx = some true) (e1 : t.eval args first o idx s = some (.ref a)) (e2 : u.eval args first o idx s = some (.ref a')) : a = a' := Value.ref.inj (gotT (eq_R e1 e2 rfl rfl) q)
theorem iDupX1 (C : Cx B l Z a0 R y b mx rt nf) {x z : Value} (hd : De b pc (.dup_x1) 1 n) (hc : x.category = 1) (hc' : z.category = 1) (K : Go B n0 Q h ce sl n Ls (x :: z :: x :: S)) : Go B n0 Q h ce sl pc Ls (x :: z :: S) := by
  obtain ⟨p, l', e, R', s, m, args, below, meth, c, Fin⟩ := B
  obtain ⟨rfl, rfl, hx, rfl, hml, hown, hnm, hret, hlk, hZ, hfin, hw⟩ := C
  intro T locs X eT N
  obtain ⟨hd, rfl⟩ := hd
  obtain ⟨s₂, o, st, r⟩ := K T locs X eT N
  exact ⟨s₂, o, XT.dupX1 X.here hx rfl hd rfl hc hc' st, r⟩
theorem iGetFV (C : Cx B l Z a0 R y b mx rt nf) {i : Nat} {R1 O f d : String} {a : Addr} {v : Value} (w : Jvm.Cond.fieldLink y.cls i R1 f d ∈ tables_1) (wv : Jvm.Cond.sameField R1 O f d ∈ tables_1) (F : Fld Z h a O f d v) (hd : De b pc (.getfield i) 3 n) (K : Go B n0 Q h ce sl n Ls (v :: S)) : Go B n0 Q h ce sl pc Ls (.ref a :: S) := by
  obtain ⟨p, l', e, R', s, m, args, below, meth, c, Fin⟩ := B
  obtain ⟨rfl, rfl, hx, rfl, hml, hown, hnm, hret, hlk, hZ, hfin, hw⟩ := C
  intro T locs X eT N
  obtain ⟨hd, rfl⟩ := hd
  obtain ⟨T', X', e', st⟩ := getF X hx hZ hown (host := "") (Or.inl (hw _ w)) (Via.of (hw _ wv)) eT F (g := mkF m pc Ls (.ref a :: S)) rfl rfl hd
  obtain ⟨s₂, o, st', r⟩ := K T' locs X' e' N
  exact ⟨s₂, o, st _ st', r⟩
theorem iPutFV (C : Cx B l Z a0 R y b mx rt nf) {i kk : Nat} {R1 O f d CC : String} {a : Addr} {v old : Value} {ty : FieldType} (w : Jvm.Cond.fieldLink y.cls i R1 f d ∈ tables_1) (wv : Jvm.Cond.sameField R1 O f d ∈ tables_1) (F : Fld Z h a O f d old) (E : Exa Z h a CC) (L : Jvm.Cond.lays CC O f d ∈ tables_1) (wi : Jvm.Cond.instantiable CC kk ∈ tables_1) (hty : parseFieldDescriptor d = some ty) (hn : narrow ty v = v) (hf : fits ty v = true) (ha : n0 ≤ a) (hd : De b pc (.putfield i) 3 n) (K : ∀ h', Wr h h' a (Jvm.RoadKit.slotOf Z O f d) v → Go B n0 Q h' ce sl n Ls S) : Go B n0 Q h ce sl pc Ls (v :: .ref a :: S) := by
  obtain ⟨p, l', e, R', s, m, args, below, meth, c, Fin⟩ := B
  obtain ⟨rfl, rfl, hx, rfl, hml, hown, hnm, hret, hlk, hZ, hfin, hw⟩ := C
  intro T locs X eT N
  obtain ⟨hd, rfl⟩ := hd
  obtain ⟨T', h', X', e', W, st⟩ := putF X hx hZ hown (host := "") (Or.inl (hw _ w)) (Via.of (hw _ wv)) eT F E (Or.inl (hw _ L)) (hw _ wi) hty hn hf (g := mkF m pc Ls (v :: .ref a :: S)) rfl rfl hd
  obtain ⟨s₂, o, st', r1, r2, r3, r4⟩ := K h' W T' _ X' e' (Fr.snoc X' N ha)
  exact ⟨s₂, o, st _ st', r1, r2, Nat.le_trans (Nat.le_of_eq W.size.symm) r3, r4⟩
theorem iGetSN (C : Cx B l Z a0 R y b mx rt nf) {i : Nat} {O f d host : String} {v : Value} (w : Jvm.Cond.fieldLinkNest y.cls i O f d host ∈ tables_1) (F : Sta Z h O f d v) (hd : De b pc (.getstatic i) 3 n) (K : Go B n0 Q h ce sl n Ls (v :: S)) : Go B n0 Q h ce sl pc Ls S := by
  obtain ⟨p, l', e, R', s, m, args, below, meth, c, Fin⟩ := B
  obtain ⟨rfl, rfl, hx, rfl, hml, hown, hnm, hret, hlk, hZ, hfin, hw⟩ := C
  intro T locs X eT N
  obtain ⟨hd, rfl⟩ := hd
  obtain ⟨T', X', e', st⟩ := getS2 X hx hZ hown (Or.inr (hw _ w)) Via.refl eT F (g := mkF m pc Ls S) rfl hd
  obtain ⟨s₂, o, st', r⟩ := K T' locs X' e' N
  exact ⟨s₂, o, st _ st', r⟩
theorem iCallPB (C : Cx B l Z a0 R y b mx rt nf) {yc : MethodName} {as' : Array Value} {Qc : Option Value → Heap → Prop} {i W cc ss ce' sl' : Nat} {argsL : List Value} {a : Addr} {CC : String} {cbx : ByteArray} {cmx : Nat} {crx : Option FieldType} (hM : Pay l Z R yc 3 W as' n0 h cc ss Qc) (E : Exa Z h a CC) (w1 : Jvm.Cond.methodLink y.cls i yc ∈ tables_1) (w2 : Jvm.Cond.instanceMethod yc ∈ tables_1) (w5 : Jvm.Cond.selects yc.cls yc yc ∈ tables_1) (w6 : Jvm.Cond.privateMethod yc ∈ tables_1) (w4 : Jvm.Cond.code yc cbx cmx crx ∈ tables_1) (hy : yc.cls ≠ "java/lang/invoke/MethodHandle" ∧ yc.cls ≠ "java/lang/invoke/VarHandle") (hlen : ∀ sig, parseMethodDescriptor yc.desc = some sig → argsL.length = sig.parameters.length) (hS : S = argsL.reverse ++ .ref a :: S') (has : (.ref a :: argsL).toArray = as') (hd : De b pc (.invokevirtual i) 3 n) (hsz : Ls.size = mx) (hW : (S'.map fun v => v.category).sum = W) (hr : ce + cc = ce' ∧ sl + ss = sl' ∧ ce' ≤ R.cells ∧ sl' ≤ R.slots) (K : ∀ (v : Option Value) (h' : Heap), Qc v h' → Go B n0 Q h' ce' sl' n Ls (v.toList ++ S')) : Go B n0 Q h ce sl pc Ls S := by
  obtain ⟨p, l', e, R', s, m, args, below, meth, c, Fin⟩ := B
  obtain ⟨rfl, rfl, hx, rfl, hml, hown, hnm, hret, hlk, hZ, hfin, hw⟩ := C
  intro T locs X eT N
  obtain ⟨hd, rfl⟩ := hd
  obtain ⟨rfl, rfl, hr3, hr4⟩ := hr
  subst hS has
  obtain ⟨cq, q1, q2⟩ := E.cell
  obtain ⟨v, vm₁, ⟨T', L', k', n'⟩, -, X', ⟨Lc, hQ, l', y', z'⟩, st⟩ := X.privateBack hx (y := yc) hown (mvT hZ (hw _ w1)) (mvT hZ (hw _ w2)) (mvT hZ (hw _ w5)) (Cond.privateMethod_at (mvP hZ (hw _ w6) (args := #[]))) (mvT hZ (hw _ w4)) hy (hM p e below s args hZ) (g := mkF m pc Ls (argsL.reverse ++ .ref a :: S')) rfl (by rw [hml]; exact hsz) (Steps.refl _) (a := a) (by rw [eT]; exact q1) q2 (argsL := argsL) (rest := S') hlen rfl (by show 2 * 0 + _ ≤ _; omega) hd (fun _ _ => ⟨rfl, eT, hr3, hr4⟩)
  dsimp only [Pt.U, Pt.locs, Pt.cells, Pt.slots] at X' l' y' z' st hQ
  subst l' y' z'
  obtain ⟨s₂, o, st', r1, r2, r3, r4⟩ := K v _ hQ.1 T' _ X' rfl (Fr.app N hQ.2.1)
  exact ⟨s₂, o, st.trans st', r1, r2, Nat.le_trans hQ.2.2 r3, r4⟩
theorem iCallP (C : Cx B l Z a0 R y b mx rt nf) {yc : MethodName} {cb : ByteArray} {cm : Nat} {cr : Option FieldType} {rm : Room} {as' : Array Value} {Qc : Option Value → Heap → Prop} {i W ce' sl' : Nat} {argsL : List Value} {a : Addr} {CC : String} (hM : Pays l Z yc cb cm cr rm as' n0 h Qc) (E : Exa Z h a CC) (w1 : Jvm.Cond.methodLink y.cls i yc ∈ tables_1) (w2 : Jvm.Cond.instanceMethod yc ∈ tables_1) (w5 : Jvm.Cond.selects yc.cls yc yc ∈ tables_1) (w6 : Jvm.Cond.privateMethod yc ∈ tables_1) (w3 : Jvm.Cond.initialized yc.cls ∈ tables_1) (w4 : Jvm.Cond.code yc cb cm cr ∈ tables_1) (hy : yc.cls ≠ "java/lang/invoke/MethodHandle" ∧ yc.cls ≠ "java/lang/invoke/VarHandle") (hlen : ∀ sig, parseMethodDescriptor yc.desc = some sig → argsL.length = sig.parameters.length) (hS : S = argsL.reverse ++ .ref a :: S') (has : (.ref a :: argsL).toArray = as') (hd : De b pc (.invokevirtual i) 3 n) (hsz : Ls.size = mx) (hW : (S'.map fun v => v.category).sum = W) (hr : rm.frames + 1 ≤ R.frames ∧ W + (cm + 11) + rm.locals ≤ R.locals ∧ ce + rm.cells = ce' ∧ sl + rm.slots = sl' ∧ ce' ≤ R.cells ∧ sl' ≤ R.slots) (K : ∀ (v : Option Value) (h' : Heap), Qc v h' → Go B n0 Q h' ce' sl' n Ls (v.toList ++ S')) : Go B n0 Q h ce sl pc Ls S :=
  iCallPB C (Pay.of hM C.words w4 w3 hr.1 hr.2.1) E w1 w2 w5 w6 w4 hy hlen hS has hd hsz hW hr.2.2 K
theorem mvLN {s : State} {args : Array Value} {own host : String} {i : Nat} {yc : MethodName} (hZ : Z.Warmed39 s.vm) (w : (Jvm.Cond.methodLinkNest own i yc host).before a0 Z = true) : (Jvm.Cond.methodLinkNest own i yc host).before args s = true := (Cond.methodLinkNest_wide hZ w :)
theorem iCallNB (C : Cx B l Z a0 R y b mx rt nf) {yc : MethodName} {as' : Array Value} {Qc : Option Value → Heap → Prop} {i W cc ss ce' sl' : Nat} {argsL : List Value} {a : Addr} {host : String} {cbx : ByteArray} {cmx : Nat} (hM : Pay l Z R yc 3 W as' n0 h cc ss Qc) (hi : yc.name = "<init>") (w1 : Jvm.Cond.methodLinkNest y.cls i yc host ∈ tables_1) (w2 : Jvm.Cond.instanceMethod yc ∈ tables_1) (w4 : Jvm.Cond.code yc cbx cmx none ∈ tables_1) (hy : yc.cls ≠ "java/lang/invoke/MethodHandle" ∧ yc.cls ≠ "java/lang/invoke/VarHandle") (hlen : ∀ sig, parseMethodDescriptor yc.desc = some sig → argsL.length = sig.parameters.length) (hS : S = argsL.reverse ++ .ref a :: S') (has : (.ref a :: argsL).toArray = as') (hd : De b pc (.invokespecial i) 3 n) (hsz : Ls.size = mx) (hW : (S'.map fun v => v.category).sum = W) (hr : ce + cc = ce' ∧ sl + ss = sl' ∧ ce' ≤ R.cells ∧ sl' ≤ R.slots) (K : ∀ (v : Option Value) (h' : Heap), Qc v h' → Go B n0 Q h' ce' sl' n Ls (v.toList ++ S')) : Go B n0 Q h ce sl pc Ls S := by
  obtain ⟨p, l', e, R', s, m, args, below, meth, c, Fin⟩ := B
  obtain ⟨rfl, rfl, hx, rfl, hml, hown, hnm, hret, hlk, hZ, hfin, hw⟩ := C
  intro T locs X eT N
  obtain ⟨hd, rfl⟩ := hd
  obtain ⟨rfl, rfl, hr3, hr4⟩ := hr
  subst hS has
  obtain ⟨v, vm₁, ⟨T', L', k', n'⟩, -, X', ⟨Lc, hQ, l', y', z'⟩, st⟩ := X.specialBackNest hx (y := yc) hi hown (mvLN hZ (hw _ w1)) (mvT hZ (hw _ w2)) (mvT hZ (hw _ w4)) hy (hM p e below s args hZ) (g := mkF m pc Ls (argsL.reverse ++ .ref a :: S')) rfl (by rw [hml]; exact hsz) (Steps.refl _) (a := a) (argsL := argsL) (rest := S') hlen rfl (by show 2 * 0 + _ ≤ _; omega) hd (fun _ _ => ⟨rfl, eT, hr3, hr4⟩)
  dsimp only [Pt.U, Pt.locs, Pt.cells, Pt.slots] at X' l' y' z' st hQ
  subst l' y' z'
  obtain ⟨s₂, o, st', r1, r2, r3, r4⟩ := K v _ hQ.1 T' _ X' rfl (Fr.app N hQ.2.1)
  exact ⟨s₂, o, st.trans st', r1, r2, Nat.le_trans hQ.2.2 r3, r4⟩
theorem iCallN (C : Cx B l Z a0 R y b mx rt nf) {yc : MethodName} {cb : ByteArray} {cm : Nat} {rm : Room} {as' : Array Value} {Qc : Option Value → Heap → Prop} {i W ce' sl' : Nat} {argsL : List Value} {a : Addr} {host : String} (hM : Pays l Z yc cb cm none rm as' n0 h Qc) (hi : yc.name = "<init>") (w1 : Jvm.Cond.methodLinkNest y.cls i yc host ∈ tables_1) (w2 : Jvm.Cond.instanceMethod yc ∈ tables_1) (w3 : Jvm.Cond.initialized yc.cls ∈ tables_1) (w4 : Jvm.Cond.code yc cb cm none ∈ tables_1) (hy : yc.cls ≠ "java/lang/invoke/MethodHandle" ∧ yc.cls ≠ "java/lang/invoke/VarHandle") (hlen : ∀ sig, parseMethodDescriptor yc.desc = some sig → argsL.length = sig.parameters.length) (hS : S = argsL.reverse ++ .ref a :: S') (has : (.ref a :: argsL).toArray = as') (hd : De b pc (.invokespecial i) 3 n) (hsz : Ls.size = mx) (hW : (S'.map fun v => v.category).sum = W) (hr : rm.frames + 1 ≤ R.frames ∧ W + (cm + 11) + rm.locals ≤ R.locals ∧ ce + rm.cells = ce' ∧ sl + rm.slots = sl' ∧ ce' ≤ R.cells ∧ sl' ≤ R.slots) (K : ∀ (v : Option Value) (h' : Heap), Qc v h' → Go B n0 Q h' ce' sl' n Ls (v.toList ++ S')) : Go B n0 Q h ce sl pc Ls S :=
  iCallNB C (Pay.of hM C.words w4 w3 hr.1 hr.2.1) hi w1 w2 w4 hy hlen hS has hd hsz hW hr.2.2 K
theorem iNewR (C : Cx B l Z a0 R y b mx rt nf) {i : Nat} {CC ad : String} {z : Int32} {cap ce' sl' : Nat} (w1 : Jvm.Cond.classLink y.cls i CC ∈ tables_1) (w2 : Jvm.Cond.arrayOver (.object CC) ∈ tables_1) (had : "[" ++ (FieldType.object CC).toString = ad) (hd : De b pc (.anewarray i) 3 n) (hz : ¬ z < 0) (hcap : z.toNatClampNeg ≤ cap) (hb : cap * 8 ≤ 536870912) (hc : ce + 1 = ce' ∧ sl + cap = sl' ∧ ce' ≤ R.cells ∧ sl' ≤ R.slots) (K : ∀ (h' : Heap) (a : Addr) (k : ClassId), a = h.size → Ext h h' → Arv Z h' a k (.object CC) z [] .null → Exa Z h' a ad → Ovr Z k CC → Go B n0 Q h' ce' sl' n Ls (.ref a :: S)) : Go B n0 Q h ce sl pc Ls (.int z :: S) := by
  obtain ⟨p, l', e, R', s, m, args, below, meth, c, Fin⟩ := B
  obtain ⟨rfl, rfl, hx, rfl, hml, hown, hnm, hret, hlk, hZ, hfin, hw⟩ := C
  intro T locs X eT N
  obtain ⟨hd, rfl⟩ := hd
  obtain ⟨rfl, rfl, hc, hs⟩ := hc
  obtain ⟨T', h', kA, X', e', E, A, A2, O, st⟩ := newRE X hx hZ hown (hw _ w1) (hw _ w2) eT (g := mkF m pc Ls (.int z :: S)) rfl hd rfl hz hcap hb hc hs had
  obtain ⟨s₂, o, st', r1, r2, r3, r4⟩ := K h' _ kA rfl E (Arv.new A hz) A2 O T' locs X' e' N
  exact ⟨s₂, o, st _ st', r1, r2, Nat.le_trans E.1 r3, r4⟩
def Mr (Z : State) (CC : String) (m : Addr) : Prop := ∃ (c : ClassId) (k : Class), Z.vm.findClass CC = some c ∧ Z.vm.classes[c]? = some k ∧ k.mirror = some m
theorem iGcls (C : Cx B l Z a0 R y b mx rt nf) {i W : Nat} {a mr : Addr} {CC : String} (w1 : Jvm.Cond.methodLink y.cls i ⟨"java/lang/Object", "getClass", "()Ljava/lang/Class;"⟩ ∈ tables_1) (w2 : Jvm.Cond.declares ⟨"java/lang/Object", "getClass", "()Ljava/lang/Class;"⟩ ∈ tables_1) (w3 : Jvm.Cond.noSuperclass "java/lang/Object" ∈ tables_1) (w4 : Jvm.Cond.selects CC ⟨"java/lang/Object", "getClass", "()Ljava/lang/Class;"⟩ ⟨"java/lang/Object", "getClass", "()Ljava/lang/Class;"⟩ ∈ tables_1) (w5 : Jvm.Cond.instanceMethod ⟨"java/lang/Object", "getClass", "()Ljava/lang/Class;"⟩ ∈ tables_1) (w6 : Jvm.Cond.native ⟨"java/lang/Object", "getClass", "()Ljava/lang/Class;"⟩ ∈ tables_1) (E : Exa Z h a CC) (M : Mr Z CC mr) (hd : De b pc (.invokevirtual i) 3 n) (hsz : Ls.size = mx) (hf : 1 ≤ R.frames) (hW : (S.map fun v => v.category).sum = W) (hl : W + (nativeFrameWords "java/lang/Object" "getClass" 1 + 11) ≤ R.locals) (K : Go B n0 Q h ce sl n Ls (.ref mr :: S)) : Go B n0 Q h ce sl pc Ls (.ref a :: S) := by
  obtain ⟨p, l', e, R', s, m, args, below, meth, c, Fin⟩ := B
  obtain ⟨rfl, rfl, hx, rfl, hml, hown, hnm, hret, hlk, hZ, hfin, hw⟩ := C
  intro T locs X eT N
  obtain ⟨hd, rfl⟩ := hd
  obtain ⟨cB, kB, i1, i2, i3⟩ := isOf hZ eT E
  obtain ⟨cc, kc, m1, m2, m3⟩ := M
  have f1 : s.vm.findClass CC = some cc := by rw [hZ.alike.findClass]; exact m1
  cases i1.symm.trans f1
  obtain ⟨k', q, ek⟩ := hZ.alike.2.2 _ _ m2
  obtain ⟨vm', X', st⟩ := X.getClassOf hx hown (mvT hZ (hw _ w1)) (mvT hZ (hw _ w2)) (nf_top (args := #[]) (mvT hZ (hw _ w3))) (mvT hZ (hw _ w4)) (mvT hZ (hw _ w5)) (mvT hZ (hw _ w6)) f1 i3 q (by rw [ek]; exact m3) (g := mkF m pc Ls (.ref a :: S)) rfl (by rw [hml]; exact hsz) rfl hd hf (by show 2 * 0 + _ + _ ≤ _; omega)
  obtain ⟨s₂, o, st', r⟩ := K _ locs X' eT N
  exact ⟨s₂, o, st _ st', r⟩
theorem iLdcM (C : Cx B l Z a0 R y b mx rt nf) {i : Nat} {CC : String} {mr : Addr} (w : Jvm.Cond.classLink y.cls i CC ∈ tables_1) (M : Mr Z CC mr) (hd : De b pc (.ldc i) 2 n) (K : Go B n0 Q h ce sl n Ls (.ref mr :: S)) : Go B n0 Q h ce sl pc Ls S := by
  obtain ⟨p, l', e, R', s, m, args, below, meth, c, Fin⟩ := B
  obtain ⟨rfl, rfl, hx, rfl, hml, hown, hnm, hret, hlk, hZ, hfin, hw⟩ := C
  intro T locs X eT N
  obtain ⟨hd, rfl⟩ := hd
  obtain ⟨cc, k, m1, m2, m3⟩ := M
  obtain ⟨k', q1, q2⟩ := hZ.alike.2.2 _ _ m2
  have f1 : s.vm.findClass CC = some cc := by rw [hZ.alike.findClass]; exact m1
  have f2 : k'.mirror = some mr := by rw [q2]; exact m3
  have ev : (Term.mirror CC).eval args s none [] s = some (.ref mr) := by simp [Term.eval, f1, q1, f2]
  obtain ⟨vm', X', st⟩ := X.ldcMirror hx hown (mvT hZ (hw _ w)) ev (g := mkF m pc Ls S) rfl hd
  obtain ⟨s₂, o, st', r⟩ := K _ locs X' eT N
  exact ⟨s₂, o, st _ st', r⟩
theorem iCpA (C : Cx B l Z a0 R y b mx rt nf) {i W : Nat} {a a' : Addr} {k k' : ClassId} {ty ty' : FieldType} {z z' sp dp nn : Int32} {vs vd us : List Value} {dv dd : Value} (w1 : Jvm.Cond.methodLink y.cls i Jvm.Stand.acN ∈ tables_1) (w2 : Jvm.Cond.native Jvm.Stand.acN ∈ tables_1) (w3 : Jvm.Cond.static Jvm.Stand.acN ∈ tables_1) (w4 : Jvm.Cond.initialized "java/lang/System" ∈ tables_1) (A : Arv Z h a k ty z vs dv) (A' : Arv Z h a' k' ty' z' vd dd) (hty : (ty = ty' ∧ refKind ty = false) ∨ (refKind ty = true ∧ refKind ty' = true ∧ StoL Z h a' us)) (h1 : ¬ sp < 0) (h2 : ¬ dp < 0) (h3 : ¬ nn < 0) (h4 : sp.toNatClampNeg + nn.toNatClampNeg ≤ z.toNatClampNeg) (h5 : dp.toNatClampNeg + nn.toNatClampNeg ≤ z'.toNatClampNeg) (hus : us = (List.range nn.toNatClampNeg).map fun i => vs.getD (sp.toNatClampNeg + i) dv) (hl : dp.toNatClampNeg + nn.toNatClampNeg ≤ vd.length) (ge : n0 ≤ a') (hd : De b pc (.invokestatic i) 3 n) (hsz : Ls.size = mx) (hf : 1 ≤ R.frames) (hW : (S.map fun v => v.category).sum = W) (hlo : W + (nativeFrameWords "java/lang/System" "arraycopy" 5 + 11) ≤ R.locals) (K : ∀ h', Keep h h' [a'] → Arv Z h' a' k' ty' z' (vd.take dp.toNatClampNeg ++ us ++ vd.drop (dp.toNatClampNeg + nn.toNatClampNeg)) dd → Go B n0 Q h' ce sl n Ls S) : Go B n0 Q h ce sl pc Ls (.int nn :: .int dp :: .ref a' :: .int sp :: .ref a :: S) := by
  obtain ⟨p, l', e, R', s, m, args, below, meth, c, Fin⟩ := B
  obtain ⟨rfl, rfl, hx, rfl, hml, hown, hnm, hret, hlk, hZ, hfin, hw⟩ := C
  intro T locs X eT N
  obtain ⟨hd, rfl⟩ := hd
  obtain ⟨T', h', L', X', e', N', K', A2, st⟩ := cpA X hx hZ hown (hw _ w1) (hw _ w2) (hw _ w3) (hw _ w4) eT A A' hty h1 h2 h3 h4 h5 hus hl N ge (g := mkF m pc Ls (.int nn :: .int dp :: .ref a' :: .int sp :: .ref a :: S)) rfl (by rw [hml]; exact hsz) rfl hd hf (W := W) (by show 2 * 0 + _ ≤ _; omega) hlo
  obtain ⟨s₂, o, st', r1, r2, r3, r4⟩ := K h' K' A2 T' L' X' e' N'
  exact ⟨s₂, o, st _ st', r1, r2, Nat.le_trans K'.1 r3, r4⟩
theorem iTswIn (C : Cx B l Z a0 R y b mx rt nf) {dflt low high : Int} {offs : Array Int} {len t : Nat} {o : Int} {x : Int32} (hd : De b pc (.tableswitch dflt low high offs) len n) (hin : ¬ (x.toInt < low ∨ x.toInt > high)) (hoff : offs[(x.toInt - low).toNat]? = some o) (hj : 0 ≤ (pc : Int) + o ∧ ((pc : Int) + o).toNat = t) (K : Go B n0 Q h ce sl t Ls S) : Go B n0 Q h ce sl pc Ls (.int x :: S) := by
  obtain ⟨p, l', e, R', s, m, args, below, meth, c, Fin⟩ := B
  obtain ⟨rfl, rfl, hx, rfl, hml, hown, hnm, hret, hlk, hZ, hfin, hw⟩ := C
  intro T locs X eT N
  obtain ⟨hd, -⟩ := hd
  obtain ⟨s₂, oo, st, r⟩ := K T locs X eT N
  exact ⟨s₂, oo, XS.tswIn X.here hx rfl rfl hd rfl hin hoff hj.1 hj.2 st, r⟩
theorem iTswOut (C : Cx B l Z a0 R y b mx rt nf) {dflt low high : Int} {offs : Array Int} {len t : Nat} {x : Int32} (hd : De b pc (.tableswitch dflt low high offs) len n) (hout : x.toInt < low ∨ x.toInt > high) (hj : 0 ≤ (pc : Int) + dflt ∧ ((pc : Int) + dflt).toNat = t) (K : Go B n0 Q h ce sl t Ls S) : Go B n0 Q h ce sl pc Ls (.int x :: S) := by
  obtain ⟨p, l', e, R', s, m, args, below, meth, c, Fin⟩ := B
  obtain ⟨rfl, rfl, hx, rfl, hml, hown, hnm, hret, hlk, hZ, hfin, hw⟩ := C
  intro T locs X eT N
  obtain ⟨hd, -⟩ := hd
  obtain ⟨s₂, oo, st, r⟩ := K T locs X eT N
  exact ⟨s₂, oo, XS.tswOut X.here hx rfl rfl hd rfl hout hj.1 hj.2 st, r⟩
theorem insKeep {a : Addr} {K1 : String} {h' : Heap} {ws : List Addr} (F : Ins Z h a K1 true) (K : Keep h h' ws) : Ins Z h' a K1 true := by
  obtain ⟨cell, cT, h1, h2, h3⟩ := F
  obtain ⟨c', q1, q2, q3, q4⟩ := K.2.2 a cell h1
  exact ⟨c', cT, q1, h2, by rw [q2, q3]; exact h3⟩
theorem nsI {a0' : Array Value} {CC S1 K1 : String} {kk : Nat} (w : (Jvm.Cond.superclass CC S1).before a0' Z = true) (wk : (Jvm.Cond.instantiable K1 kk).before a0' Z = true) (q : NS Z CC K1) (hn : CC ≠ K1) : ∃ c t, Z.vm.findClass CC = some c ∧ Z.vm.findClass K1 = some t ∧ Z.vm.assignable c t = false := by
  obtain ⟨c, t, h0, g0, n3⟩ := q
  obtain ⟨p, k, kp, h1, h2, h3, h4, h5, -, h7⟩ := Cond.superclass_spec h0 w
  obtain ⟨t', k', g1, g2, g3, g4, -⟩ := Cond.instantiable_spec wk
  cases g0.symm.trans g1
  have g7 : k'.isInterface = false := (Bool.or_eq_false_iff.mp g4).1
  have ne := ids_ne h0 g0 hn
  refine ⟨c, t, h0, g0, ?_⟩
  show Z.vm.assignableAux (255 + 1) c t = false
  simp [Vm.assignableAux, ne, h2, g2, h5, g3, g7, Vm.isSubclass, n3]
theorem nsRoot {a0' : Array Value} {O1 K1 : String} {kk : Nat} (w : (Jvm.Cond.noSuperclass O1).before a0' Z = true) (wk : (Jvm.Cond.instantiable K1 kk).before a0' Z = true) (hn : O1 ≠ K1) : NS Z O1 K1 := by
  obtain ⟨c, k, h1, h2, h3, -, -⟩ := Cond.noSuperclass_spec w
  obtain ⟨t, k', g1, -⟩ := Cond.instantiable_spec wk
  have ne := ids_ne h1 g1 hn
  refine ⟨c, t, h1, g1, fun fuel => ?_⟩
  cases fuel with
  | zero => rfl
  | succ f => simp [Vm.isSubclassAux, ne, h2, h3]
theorem Go.low {n1 : Nat} (q : n1 ≤ n0) (K : Go B n1 Q h ce sl pc Ls S) : Go B n0 Q h ce sl pc Ls S := by
  obtain ⟨p, l', e, R', s, m, args, below, meth, c, Fin⟩ := B
  intro T locs X eT N
  exact K T locs X eT (fun y hy => Nat.le_trans q (N y hy))
theorem ibW {s : State} {vm1 : Vm} {Ts : List String} (I : IB Z s.vm Ts) (hW : s.WarmedH vm1) : IB Z vm1 Ts := by
  obtain ⟨more, q1, q2⟩ := I
  exact ⟨more, by rw [hW.interned_eq, q1], q2⟩
theorem ibM {vm1 : Vm} {Ts Tm : List String} (I : IB Z vm1 Ts) (hs : ∀ x ∈ Ts, x ∈ Tm) : IB Z vm1 Tm := by
  obtain ⟨more, q1, q2⟩ := I
  exact ⟨more, q1, fun q hq => by obtain ⟨t, h1, h2⟩ := q2 q hq; exact ⟨t, hs t h1, h2⟩⟩
/-- the walk may intern texts of Tm: its end may be the wide one; what the table has got; the start's heap lies in the base's -/
def Wx (B : Bx) (Z : State) (nf : Nat) (Ts Tm : List String) : Prop :=
  match B with
  | (p, l, e, R, s, m, args, below, meth, c, Fin) => (∀ (v : Option Value) (t : State) (L : List Loc), Fr nf L → ReturnedEndW s (.returned v) t L R.cells R.slots → IB Z t.vm Tm → Fin v t L) ∧ IB Z s.vm Ts ∧ (∀ x ∈ Ts, x ∈ Tm) ∧ ∀ (b : Addr) (cl : Cell), Z.heap[b]? = some cl → s.heap[b]? = some cl
def Hz (B : Bx) (n0 : Nat) : Prop :=
  match B with
  | (p, l, e, R, s, m, args, below, meth, c, Fin) => s.heap.size ≤ n0
theorem endW {s t : State} {vm1 : Vm} {k1 : Nat} {o : Outcome} {L : List Loc} {k n : Nat} (hS : s.Since vm1 k1) (hk : k1 ≤ t.heap.size) (q : ReturnedEndW (s.setVm vm1) o t L k n) : ReturnedEndW s o t L k n := by
  obtain ⟨q1, q2, q3, q4⟩ := q
  have hT : s.Since t.vm t.heap.size := hS.trans ⟨q2, q3⟩ hk
  exact ⟨q1, hT.1, hT.2, q4.setVm s.vm⟩
def Bk (B : Bx) (own : String) (i : Nat) (a : Addr) : Prop :=
  match B with
  | (p, l, e, R, s, m, args, below, meth, c, Fin) => Jvm.RoadKit.Lit s own i a
theorem iLdcS (C : Cx B l Z a0 R y b mx rt nf) {Ts Tm : List String} (D : Wx B Z nf Ts Tm) (hs : Hz B n0) {i : Nat} {text : String} {vs : List Value} {z : Int32} {nn ce' sl' : Nat} (w : Jvm.Cond.stringLink y.cls i text ∈ tables_1) (wS : ∀ d ∈ Bundle.stringAtoms, d ∈ tables_1) (hh : Jvm.Lit.constHeld Z y.cls i) (hcw : Jvm.Lit.compactW.before a0 Z = true) (hnot : text ∉ Ts) (hin : text ∈ Tm) (ht : (∀ c ∈ text.toList, c.toNat < 256) ∧ text.toList.map (fun c => Value.int (Jvm.Lit.byteI c.toNat.toUInt16)) = vs) (hz : ¬ z < 0) (hl : z.toNatClampNeg = vs.length) (hd : De b pc (.ldc i) 2 n) (hn : 4 * text.toList.length ≤ nn) (hbig : nn ≤ 536870912) (hc : ce + 2 = ce' ∧ sl + (nn + 4) = sl' ∧ ce' ≤ R.cells ∧ sl' ≤ R.slots)
    (K : ∀ (B' : Bx) (h' : Heap) (a b' : Addr) (k : ClassId), Cx B' l Z a0 R y b mx rt nf → Wx B' Z nf (text :: Ts) Tm → Hz B' n0 → Bk B' y.cls i a → Ext h h' → Exa Z h' a "java/lang/String" → Fld Z h' a "java/lang/String" "coder" "B" (.int 0) → Fld Z h' a "java/lang/String" "value" "[B" (.ref b') → Arv Z h' b' k .byte z vs (.int 0) → Go B' n0 Q h' ce' sl' n Ls (.ref a :: S)) : Go B n0 Q h ce sl pc Ls S := by
  obtain ⟨p, l', e, R', s, m, args, below, meth, c, Fin⟩ := B
  obtain ⟨rfl, rfl, hx, rfl, hml, hown, hnm, hret, hlk, hZ, hfin, hw⟩ := C
  obtain ⟨d1, d2, d3, d4⟩ := D
  intro T locs X eT N
  obtain ⟨hd, rfl⟩ := hd
  obtain ⟨rfl, rfl, hc1, hc2⟩ := hc
  have hs' : s.heap.size ≤ n0 := hs
  obtain ⟨a, T', h', k1, b', k, X', e', E, hS, hk, hZ', hown', A1, F1, F2, V, -, -, I', Li, st⟩ := ldcSVL (s := s) (vm0 := s.vm) X hx hZ hown (hw _ w) (fun d hd => hw _ (wS d hd)) eT (k0 := 0) ((State.WarmedH.refl s).since 0) (Nat.zero_le _) (fun y hy => Nat.le_trans hs' (N y hy)) d4 d2 hnot hh hcw ht hz hl (g := mkF m pc Ls S) rfl hd hn hbig hc1 hc2
  have hsub : ∀ x ∈ text :: Ts, x ∈ Tm := fun x q => (List.mem_cons.mp q).elim (fun r => r ▸ hin) (d3 x)
  obtain ⟨s₂, o, st', r1, r2, r3, v, L, r4, r5, r6⟩ := K (p, l', e, R', s.setVm T'.vm, m, args, below, meth, c, fun v t L => k1 ≤ t.heap.size → Fin v t L) h' a b' k ⟨rfl, rfl, hx, rfl, hml, hown', hnm, hret, hlk, hZ', fun v t L q1 q2 q3 => d1 v t L q1 (endW hS q3 (ReturnedEndW.of_narrow q2.1 q2.2.1 q2.2.2)) (ibM (ibW (s := s.setVm T'.vm) I' q2.2.1) hsub), hw⟩ ⟨fun v t L q1 q2 q4 q3 => d1 v t L q1 (endW hS q3 q2) q4, I', hsub, d4⟩ hs Li E A1 F1 F2 V T' locs X' e' N
  exact ⟨s₂, o, st _ st', r1, r2, Nat.le_trans E.1 r3, v, L, r4, r5, r6 (Nat.le_trans hk r3)⟩
def PaysW (l : Launch) (Z : State) (Ts Tm : List String) (y : MethodName) (b : ByteArray) (mx : Nat) (rt : Option FieldType) (rm : Room) (as' : Array Value) (n0 : Nat) (h0 : Heap) (Q : Option Value → Heap → Prop) : Prop :=
  ∀ ws : List Jvm.Cond, MetFree l y (head1 (Jvm.Cond.code y b mx rt :: ws) rm) (fun a U => a = as' ∧ Z.Warmed39 U.vm ∧ U.heap = h0 ∧ IB Z U.vm Ts) (fun _ _ _ _ _ => True) (fun _ U o U' => ∃ v L, o = .returned v ∧ QQ n0 h0 Q v U'.heap L ∧ IB Z U'.vm Tm ∧ ReturnedEndW U o U' L rm.cells rm.slots)
theorem PaysW.of (hw : ∀ d ∈ tables_1, d.before a0 Z = true) (hp : plainFor y = true) {Ts Tm : List String} (hsub : ∀ x ∈ Ts, x ∈ Tm) {rm : Room} {as' : Array Value} (hkeep : ∀ (b : Addr) (cl : Cell), Z.heap[b]? = some cl → h[b]? = some cl) (ef : ∀ m, entryFrame m as' mx = mkF m 0 Ls []) (hb : ∀ B, Cx B l Z a0 rm y b mx rt n0 → Wx B Z n0 Ts Tm → Hz B h.size → Go B h.size Q h 0 0 0 Ls []) : PaysW l Z Ts Tm y b mx rt rm as' n0 h Q := by
  intro ws
  refine MetFree.of_bodySF hp hisR ?_
  intro p e s m args below meth c s₁ Bd hml0 hP hK
  obtain ⟨rfl, hZ, hh, hI⟩ := hP
  have X0 : Stand p l e rm s m args below meth c s₁ [] 0 0 := Stand.of_body Bd
  have e0 : s₁.heap = h := by rw [← hh, Bd.state]; rfl
  obtain ⟨s₂, o, st, r1, r2, r6, v, L, r3, r4, r5, r7, r8⟩ := hb (p, l, e, rm, s, m, args, below, meth, c, fun v t L => Fr n0 L ∧ ReturnedEndW s (.returned v) t L rm.cells rm.slots ∧ IB Z t.vm Tm) ⟨rfl, rfl, Bd.exec, Bd.bytes, hml0, findClass_of_methodNamed Bd.named, (name_of_methodNamed Bd.named Bd.method).1, Bd.returns, BodyLoose.notSynchronized Bd, hZ, fun _ _ _ q1 q2 => ⟨q1, ReturnedEndW.of_narrow q2.1 q2.2.1 q2.2.2, ibM (ibW hI q2.2.1) hsub⟩, hw⟩ ⟨fun _ _ _ q1 q2 q3 => ⟨q1, q2, q3⟩, hI, hsub, fun b cl q => by rw [hh]; exact hkeep b cl q⟩ (Nat.le_of_eq (by rw [hh])) s₁ [] X0 e0 (Fr.nil _)
  subst r3
  exact ⟨s₂, _, castTop (ef m) st, r1, r2, v, L, rfl, ⟨r4, r5, r6⟩, r8, r7⟩
def PayW (l : Launch) (Z : State) (R : Room) (Ts Tm : List String) (yc : MethodName) (len W : Nat) (as' : Array Value) (n0 : Nat) (h : Heap) (cc ss : Nat) (Qc : Option Value → Heap → Prop) : Prop :=
  ∀ (p : Program) (e : Env) (below : List Frame) (s : State) (args : Array Value), Z.Warmed39 s.vm → BackS l R p e below s args yc len W (fun A a => a = as' ∧ A.U.heap = h ∧ IB Z A.U.vm Ts ∧ A.cells + cc ≤ R.cells ∧ A.slots + ss ≤ R.slots) (fun A _ v B => ∃ L, (QQ n0 h Qc v B.U.heap L ∧ IB Z B.U.vm Tm) ∧ B.locs = A.locs ++ L ∧ B.cells = A.cells + cc ∧ B.slots = A.slots + ss)
theorem PayW.of {Ts Tm : List String} {yc : MethodName} {cb : ByteArray} {cm len W : Nat} {cr : Option FieldType} {rm : Room} {as' : Array Value} {Qc : Option Value → Heap → Prop} (hM : PaysW l Z Ts Tm yc cb cm cr rm as' n0 h Qc) (hw : ∀ d ∈ tables_1, d.before a0 Z = true) (w4 : Jvm.Cond.code yc cb cm cr ∈ tables_1) (w3 : Jvm.Cond.initialized yc.cls ∈ tables_1) (hr1 : rm.frames + 1 ≤ R.frames) (hr2 : W + (cm + 11) + rm.locals ≤ R.locals) : PayW l Z R Ts Tm yc len W as' n0 h rm.cells rm.slots Qc :=
  fun p e below s args hZ => BackS.of_freeW (bytes := cb) (maxL := cm) (ret := cr) (E := fun _ _ o t L k n => k = rm.cells ∧ n = rm.slots ∧ ∃ v, o = .returned v ∧ QQ n0 h Qc v t.heap L ∧ IB Z t.vm Tm) (hM []) hr1 hr2
    (fun m meth c A a Y hp => have hU : Z.Warmed39 A.U.vm := wtrans hZ Y.warmed
      ⟨by show (Jvm.Cond.and _ .tt).before a A.U = true; rw [Cond.before_and, mv hU (hw _ w4)]; rfl, mv hU (hw _ w4), mv hU (hw _ w3), hp.2.2.2.1, hp.2.2.2.2⟩)
    (fun m meth c A a g mk Y hp => ⟨hp.1, wtrans hZ Y.warmed, hp.2.1, hp.2.2.1⟩) (fun _ _ _ _ _ _ _ _ _ => trivial)
    (fun _ _ _ _ ⟨v, L, h1, h2, h3, h4⟩ => ⟨L, _, _, h4, rfl, rfl, v, h1, h2, h3⟩)
    (fun m meth c A a g mk v t L k n Y hp _ _ ⟨e1, e2, v', e3, e4, e5⟩ => by cases e3; subst e1 e2; exact ⟨L, ⟨e4, e5⟩, rfl, rfl, rfl⟩)
theorem iCallSW (C : Cx B l Z a0 R y b mx rt nf) {Ts T2 Tm : List String} (D : Wx B Z nf Ts Tm) {yc : MethodName} {cb : ByteArray} {cm : Nat} {cr : Option FieldType} {rm : Room} {as' : Array Value} {Qc : Option Value → Heap → Prop} {i W ce' sl' : Nat} {argsL : List Value} (hM : PaysW l Z Ts T2 yc cb cm cr rm as' n0 h Qc) (hsub : ∀ x ∈ T2, x ∈ Tm) (w1 : Jvm.Cond.methodLink y.cls i yc ∈ tables_1) (w2 : Jvm.Cond.static yc ∈ tables_1) (w3 : Jvm.Cond.initialized yc.cls ∈ tables_1) (w4 : Jvm.Cond.code yc cb cm cr ∈ tables_1) (hy : yc.cls ≠ "java/lang/invoke/MethodHandle" ∧ yc.cls ≠ "java/lang/invoke/VarHandle") (hlen : ∀ sig, parseMethodDescriptor yc.desc = some sig → argsL.length = sig.parameters.length) (hS : S = argsL.reverse ++ S') (has : argsL.toArray = as') (hd : De b pc (.invokestatic i) 3 n) (hsz : Ls.size = mx) (hW : (S'.map fun v => v.category).sum = W) (hr : rm.frames + 1 ≤ R.frames ∧ W + (cm + 11) + rm.locals ≤ R.locals ∧ ce + rm.cells = ce' ∧ sl + rm.slots = sl' ∧ ce' ≤ R.cells ∧ sl' ≤ R.slots) (K : ∀ (B' : Bx) (v : Option Value) (h' : Heap), Cx B' l Z a0 R y b mx rt nf → Wx B' Z nf T2 Tm → (Hz B n0 → Hz B' n0) → Qc v h' → Go B' n0 Q h' ce' sl' n Ls (v.toList ++ S')) : Go B n0 Q h ce sl pc Ls S := by
  obtain ⟨p, l', e, R', s, m, args, below, meth, c, Fin⟩ := B
  obtain ⟨rfl, rfl, hx, rfl, hml, hown, hnm, hret, hlk, hZ, hfin, hw⟩ := C
  obtain ⟨d1, d2, d3, d4⟩ := D
  intro T locs X eT N
  obtain ⟨hd, rfl⟩ := hd
  obtain ⟨hr1, hr2, rfl, rfl, hr3, hr4⟩ := hr
  subst hS has
  obtain ⟨v, vm₁, ⟨T', L', k', n'⟩, -, X', hSi, hgr, ⟨Lc, ⟨hQ, hI⟩, l1, y1, z1⟩, st⟩ := Jvm.RoadKit.callSS X hx (y := yc) hown (mvT hZ (hw _ w1)) (mvT hZ (hw _ w2)) (mvT hZ (hw _ w3)) (mvT hZ (hw _ w4)) hy (PayW.of hM hw w4 w3 hr1 hr2 p e below s args hZ) (g := mkF m pc Ls (argsL.reverse ++ S')) rfl (by rw [hml]; exact hsz) (argsL := argsL) (rest := S') hlen rfl (by show 2 * 0 + _ ≤ _; omega) hd (fun vm1 hW1 => ⟨rfl, eT, ibW d2 hW1, hr3, hr4⟩)
  dsimp only [Pt.U, Pt.locs, Pt.cells, Pt.slots] at X' l1 y1 z1 st hQ hI hSi hgr
  subst l1 y1 z1
  obtain ⟨s₂, o, st', r1, r2, r3, v', L, r4, r5, r6⟩ := K (p, l', e, R', s.setVm T'.vm, m, args, below, meth, c, fun v t L => T'.heap.size ≤ t.heap.size → Fin v t L) v _ ⟨rfl, rfl, hx, rfl, hml, (hSi.1.alike.findClass _ _).trans hown, hnm, hret, hlk, State.Warmed39.trans hZ hSi.1, fun v t L q1 q2 q3 => d1 v t L q1 (endW hSi q3 (ReturnedEndW.of_narrow q2.1 q2.2.1 q2.2.2)) (ibM (ibW (s := s.setVm T'.vm) hI q2.2.1) hsub), hw⟩ ⟨fun v t L q1 q2 q4 q3 => d1 v t L q1 (endW hSi q3 q2) q4, hI, hsub, d4⟩ (fun q => q) hQ.1 T' _ X' rfl (Fr.app N hQ.2.1)
  exact ⟨s₂, o, st.trans st', r1, r2, Nat.le_trans hQ.2.2 r3, v', L, r4, r5, r6 r3⟩
theorem iCallIW (C : Cx B l Z a0 R y b mx rt nf) {Ts T2 Tm : List String} (D : Wx B Z nf Ts Tm) {yc : MethodName} {cb : ByteArray} {cm : Nat} {cr : Option FieldType} {rm : Room} {as' : Array Value} {Qc : Option Value → Heap → Prop} {i W ce' sl' : Nat} {argsL : List Value} {a : Addr} (hM : PaysW l Z Ts T2 yc cb cm none rm as' n0 h Qc) (hsub : ∀ x ∈ T2, x ∈ Tm) (hi : yc.name = "<init>") (w1 : Jvm.Cond.methodLink y.cls i yc ∈ tables_1) (w2 : Jvm.Cond.instanceMethod yc ∈ tables_1) (w3 : Jvm.Cond.initialized yc.cls ∈ tables_1) (w4 : Jvm.Cond.code yc cb cm none ∈ tables_1) (hy : yc.cls ≠ "java/lang/invoke/MethodHandle" ∧ yc.cls ≠ "java/lang/invoke/VarHandle") (hlen : ∀ sig, parseMethodDescriptor yc.desc = some sig → argsL.length = sig.parameters.length) (hS : S = argsL.reverse ++ .ref a :: S') (has : (.ref a :: argsL).toArray = as') (hd : De b pc (.invokespecial i) 3 n) (hsz : Ls.size = mx) (hW : (S'.map fun v => v.category).sum = W) (hr : rm.frames + 1 ≤ R.frames ∧ W + (cm + 11) + rm.locals ≤ R.locals ∧ ce + rm.cells = ce' ∧ sl + rm.slots = sl' ∧ ce' ≤ R.cells ∧ sl' ≤ R.slots) (K : ∀ (B' : Bx) (v : Option Value) (h' : Heap), Cx B' l Z a0 R y b mx rt nf → Wx B' Z nf T2 Tm → (Hz B n0 → Hz B' n0) → Qc v h' → Go B' n0 Q h' ce' sl' n Ls (v.toList ++ S')) : Go B n0 Q h ce sl pc Ls S := by
  obtain ⟨p, l', e, R', s, m, args, below, meth, c, Fin⟩ := B
  obtain ⟨rfl, rfl, hx, rfl, hml, hown, hnm, hret, hlk, hZ, hfin, hw⟩ := C
  obtain ⟨d1, d2, d3, d4⟩ := D
  intro T locs X eT N
  obtain ⟨hd, rfl⟩ := hd
  obtain ⟨hr1, hr2, rfl, rfl, hr3, hr4⟩ := hr
  subst hS has
  obtain ⟨v, vm₁, ⟨T', L', k', n'⟩, -, X', hSi, hgr, ⟨Lc, ⟨hQ, hI⟩, l1, y1, z1⟩, st⟩ := X.specialBackS hx (y := yc) hi hown (mvT hZ (hw _ w1)) (mvT hZ (hw _ w2)) (mvT hZ (hw _ w4)) hy (PayW.of hM hw w4 w3 hr1 hr2 p e below s args hZ) (g := mkF m pc Ls (argsL.reverse ++ .ref a :: S')) rfl (by rw [hml]; exact hsz) (Steps.refl _) (a := a) (argsL := argsL) (rest := S') hlen rfl (by show 2 * 0 + _ ≤ _; omega) hd (fun vm1 hW1 => ⟨rfl, eT, ibW d2 hW1, hr3, hr4⟩)
  dsimp only [Pt.U, Pt.locs, Pt.cells, Pt.slots] at X' l1 y1 z1 st hQ hI hSi hgr
  subst l1 y1 z1
  obtain ⟨s₂, o, st', r1, r2, r3, v', L, r4, r5, r6⟩ := K (p, l', e, R', s.setVm T'.vm, m, args, below, meth, c, fun v t L => T'.heap.size ≤ t.heap.size → Fin v t L) v _ ⟨rfl, rfl, hx, rfl, hml, (hSi.1.alike.findClass _ _).trans hown, hnm, hret, hlk, State.Warmed39.trans hZ hSi.1, fun v t L q1 q2 q3 => d1 v t L q1 (endW hSi q3 (ReturnedEndW.of_narrow q2.1 q2.2.1 q2.2.2)) (ibM (ibW (s := s.setVm T'.vm) hI q2.2.1) hsub), hw⟩ ⟨fun v t L q1 q2 q4 q3 => d1 v t L q1 (endW hSi q3 q2) q4, hI, hsub, d4⟩ (fun q => q) hQ.1 T' _ X' rfl (Fr.app N hQ.2.1)
  exact ⟨s₂, o, st.trans st', r1, r2, Nat.le_trans hQ.2.2 r3, v', L, r4, r5, r6 r3⟩
theorem iCallVW (C : Cx B l Z a0 R y b mx rt nf) {Ts T2 Tm : List String} (D : Wx B Z nf Ts Tm) {yc : MethodName} {cb : ByteArray} {cm : Nat} {cr : Option FieldType} {rm : Room} {as' : Array Value} {Qc : Option Value → Heap → Prop} {i W ce' sl' : Nat} {argsL : List Value} {a : Addr} {CC : String} {yd : MethodName} (hM : PaysW l Z Ts T2 yc cb cm cr rm as' n0 h Qc) (hsub : ∀ x ∈ T2, x ∈ Tm) (E : Exa Z h a CC) (w1 : Jvm.Cond.methodLink y.cls i yd ∈ tables_1) (w2 : Jvm.Cond.declares yd ∈ tables_1) (wn : yd = yc ∨ ∃ SS, Jvm.Cond.superclass yd.cls SS ∈ tables_1) (w5 : Jvm.Cond.selects CC yd yc ∈ tables_1) (w6 : Jvm.Cond.instanceMethod yc ∈ tables_1) (w3 : Jvm.Cond.initialized yc.cls ∈ tables_1) (w4 : Jvm.Cond.code yc cb cm cr ∈ tables_1) (hy : yd.cls ≠ "java/lang/invoke/MethodHandle" ∧ yd.cls ≠ "java/lang/invoke/VarHandle") (hlen : ∀ sig, parseMethodDescriptor yd.desc = some sig → argsL.length = sig.parameters.length) (hS : S = argsL.reverse ++ .ref a :: S') (has : (.ref a :: argsL).toArray = as') (hd : De b pc (.invokevirtual i) 3 n) (hsz : Ls.size = mx) (hW : (S'.map fun v => v.category).sum = W) (hr : rm.frames + 1 ≤ R.frames ∧ W + (cm + 11) + rm.locals ≤ R.locals ∧ ce + rm.cells = ce' ∧ sl + rm.slots = sl' ∧ ce' ≤ R.cells ∧ sl' ≤ R.slots) (K : ∀ (B' : Bx) (v : Option Value) (h' : Heap), Cx B' l Z a0 R y b mx rt nf → Wx B' Z nf T2 Tm → (Hz B n0 → Hz B' n0) → Qc v h' → Go B' n0 Q h' ce' sl' n Ls (v.toList ++ S')) : Go B n0 Q h ce sl pc Ls S := by
  obtain ⟨p, l', e, R', s, m, args, below, meth, c, Fin⟩ := B
  obtain ⟨rfl, rfl, hx, rfl, hml, hown, hnm, hret, hlk, hZ, hfin, hw⟩ := C
  obtain ⟨d1, d2, d3, d4⟩ := D
  intro T locs X eT N
  obtain ⟨hd, rfl⟩ := hd
  obtain ⟨hr1, hr2, rfl, rfl, hr3, hr4⟩ := hr
  subst hS has
  obtain ⟨cq, kq, q1, q2, q3⟩ := isOf hZ eT E
  have nf' : NotFace s yd := by
    rcases wn with rfl | ⟨SS, wn⟩
    · exact notFace_of_selects (args := #[]) (mvT hZ (hw _ w5))
    · exact nf_super (args := #[]) (mvT hZ (hw _ wn))
  obtain ⟨v, vm₁, ⟨T', L', k', n'⟩, -, X', hSi, hgr, ⟨Lc, ⟨hQ, hI⟩, l1, y1, z1⟩, st⟩ := X.virtualBackS hx (y := yd) (z := yc) hown (mvT hZ (hw _ w1)) (mvT hZ (hw _ w2)) nf' (mvT hZ (hw _ w5)) (mvT hZ (hw _ w6)) hy (PayW.of hM hw w4 w3 hr1 hr2 p e below s args hZ) q1 q3 (g := mkF m pc Ls (argsL.reverse ++ .ref a :: S')) rfl (by rw [hml]; exact hsz) (Steps.refl _) (argsL := argsL) (rest := S') hlen rfl (by show 2 * 0 + _ ≤ _; omega) hd (fun vm1 hW1 => ⟨rfl, eT, ibW d2 hW1, hr3, hr4⟩)
  dsimp only [Pt.U, Pt.locs, Pt.cells, Pt.slots] at X' l1 y1 z1 st hQ hI hSi hgr
  subst l1 y1 z1
  obtain ⟨s₂, o, st', r1, r2, r3, v', L, r4, r5, r6⟩ := K (p, l', e, R', s.setVm T'.vm, m, args, below, meth, c, fun v t L => T'.heap.size ≤ t.heap.size → Fin v t L) v _ ⟨rfl, rfl, hx, rfl, hml, (hSi.1.alike.findClass _ _).trans hown, hnm, hret, hlk, State.Warmed39.trans hZ hSi.1, fun v t L q1 q2 q3 => d1 v t L q1 (endW hSi q3 (ReturnedEndW.of_narrow q2.1 q2.2.1 q2.2.2)) (ibM (ibW (s := s.setVm T'.vm) hI q2.2.1) hsub), hw⟩ ⟨fun v t L q1 q2 q4 q3 => d1 v t L q1 (endW hSi q3 q2) q4, hI, hsub, d4⟩ (fun q => q) hQ.1 T' _ X' rfl (Fr.app N hQ.2.1)
  exact ⟨s₂, o, st.trans st', r1, r2, Nat.le_trans hQ.2.2 r3, v', L, r4, r5, r6 r3⟩

theorem iLdcAgain (C : Cx B l Z a0 R y b mx rt nf) {i : Nat} {text : String} {a : Addr} (w : Jvm.Cond.stringLink y.cls i text ∈ tables_1) (L : Bk B y.cls i a) (hd : De b pc (.ldc i) 2 n) (K : Go B n0 Q h ce sl n Ls (.ref a :: S)) : Go B n0 Q h ce sl pc Ls S := by
  obtain ⟨p, l', e, R', s, m, args, below, meth, c, Fin⟩ := B
  obtain ⟨rfl, rfl, hx, rfl, hml, hown, hnm, hret, hlk, hZ, hfin, hw⟩ := C
  intro T locs X eT N
  obtain ⟨hd, rfl⟩ := hd
  have st := ldcAgain (s := s) (vm0 := s.vm) X hx hZ hown (hw _ w) L (g := mkF m pc Ls S) rfl hd
  obtain ⟨s₂, o, st', r⟩ := K T locs X eT N
  exact ⟨s₂, o, st _ st', r⟩
theorem iInst0 (C : Cx B l Z a0 R y b mx rt nf) {i : Nat} (hd : De b pc (.instanceof i) 3 n) (K : Go B n0 Q h ce sl n Ls (.int 0 :: S)) : Go B n0 Q h ce sl pc Ls (.null :: S) := by
  obtain ⟨p, l', e, R', s, m, args, below, meth, c, Fin⟩ := B
  obtain ⟨rfl, rfl, hx, rfl, hml, hown, hnm, hret, hlk, hZ, hfin, hw⟩ := C
  intro T locs X eT N
  obtain ⟨hd, rfl⟩ := hd
  obtain ⟨s₂, o, st', r⟩ := K T locs X eT N
  exact ⟨s₂, o, X.instanceofNull hx (g := mkF m pc Ls (.null :: S)) rfl rfl hd _ st', r⟩
theorem iClone (C : Cx B l Z a0 R y b mx rt nf) {i W cap ce' sl' : Nat} {ad : String} {a : Addr} {cl : Cell} {ty : FieldType} (w1 : Jvm.Cond.methodLink y.cls i ⟨ad, "clone", "()Ljava/lang/Object;"⟩ ∈ tables_1) (w2 : Jvm.Cond.sameMethod ad "java/lang/Object" "clone" "()Ljava/lang/Object;" ∈ tables_1) (w3 : Jvm.Cond.native ⟨"java/lang/Object", "clone", "()Ljava/lang/Object;"⟩ ∈ tables_1) (w4 : Jvm.Cond.instanceMethod ⟨"java/lang/Object", "clone", "()Ljava/lang/Object;"⟩ ∈ tables_1) (w5 : Jvm.Cond.selects ad ⟨ad, "clone", "()Ljava/lang/Object;"⟩ ⟨"java/lang/Object", "clone", "()Ljava/lang/Object;"⟩ ∈ tables_1) (w6 : Jvm.Cond.castable ad "java/lang/Cloneable" ∈ tables_1) (A : Arr Z h a cl ty) (E : Exa Z h a ad) (F : FitC Z cl) (hcap : cl.slots.size ≤ cap) (hd : De b pc (.invokevirtual i) 3 n) (hsz : Ls.size = mx) (hf : 1 ≤ R.frames) (hW : (S.map fun v => v.category).sum = W) (hl : W + 14 ≤ R.locals) (hc : ce + 1 = ce' ∧ sl + cap = sl' ∧ ce' ≤ R.cells ∧ sl' ≤ R.slots) (K : ∀ (h' : Heap) (a' : Addr), a' = h.size → Ext h h' → Arr Z h' a' (cloneOf cl) ty → Exa Z h' a' ad → Go B n0 Q h' ce' sl' n Ls (.ref a' :: S)) : Go B n0 Q h ce sl pc Ls (.ref a :: S) := by
  obtain ⟨p, l', e, R', s, m, args, below, meth, c, Fin⟩ := B
  obtain ⟨rfl, rfl, hx, rfl, hml, hown, hnm, hret, hlk, hZ, hfin, hw⟩ := C
  intro T locs X eT N
  obtain ⟨hd, rfl⟩ := hd
  obtain ⟨rfl, rfl, hc1, hc2⟩ := hc
  obtain ⟨T', h', X', e', E', A', Ex', st⟩ := cloneA X hx hZ hown (hw _ w1) (hw _ w2) (hw _ w3) (hw _ w4) (hw _ w5) (hw _ w6) eT A E F (g := mkF m pc Ls (.ref a :: S)) rfl (by rw [hml]; exact hsz) rfl hd hf (W := W) (by show 2 * 0 + _ ≤ _; omega) hl hcap hc1 hc2
  obtain ⟨s₂, o, st', r1, r2, r3, r4⟩ := K h' _ rfl E' A' Ex' T' locs X' e' N
  exact ⟨s₂, o, st _ st', r1, r2, Nat.le_trans E'.1 r3, r4⟩
theorem PaysW.at (hw : ∀ d ∈ tables_1, d.before a0 Z = true) (hp : plainFor y = true) {Ts Tm : List String} (hsub : ∀ x ∈ Ts, x ∈ Tm) {rm : Room} {as' : Array Value} (hkeep : ∀ (b : Addr) (cl : Cell), Z.heap[b]? = some cl → h[b]? = some cl) (hn0 : n0 = h.size) (ef : ∀ m, entryFrame m as' mx = mkF m 0 Ls []) (hb : ∀ B, Cx B l Z a0 rm y b mx rt n0 → Wx B Z n0 Ts Tm → Hz B n0 → Go B n0 Q h 0 0 0 Ls []) : PaysW l Z Ts Tm y b mx rt rm as' n0 h Q := by
  subst hn0
  exact PaysW.of hw hp hsub hkeep ef hb
end Flow


theorem tw0 : (Jvm.Cond.stringLink "com/example/hedgeline/hedgeline/FlowNamedPinLaw" (17 : Nat) "injection") ∈ tables_1 := List.mem_of_getElem? (i := 0) rfl
theorem tw1 : (Jvm.Cond.initialized "java/lang/String") ∈ tables_1 := List.mem_of_getElem? (i := 1) rfl
theorem tw2 : (Jvm.Cond.instantiable "java/lang/String" (4 : Nat)) ∈ tables_1 := List.mem_of_getElem? (i := 2) rfl
theorem tw4 : (Jvm.Cond.laysFinal "java/lang/String" "java/lang/String" "value" "[B") ∈ tables_1 := List.mem_of_getElem? (i := 4) rfl
theorem tw5 : (Jvm.Cond.laysFinal "java/lang/String" "java/lang/String" "coder" "B") ∈ tables_1 := List.mem_of_getElem? (i := 5) rfl
theorem tw8 : (Jvm.Cond.fieldLink "com/example/hedgeline/hedgeline/FlowNamedPinLaw" (21 : Nat) "com/example/hedgeline/hedgeline/Flow" "INJECTION" "Lcom/example/hedgeline/hedgeline/Flow;") ∈ tables_1 := List.mem_of_getElem? (i := 8) rfl
theorem tw9 : (Jvm.Cond.initialized "com/example/hedgeline/hedgeline/Flow") ∈ tables_1 := List.mem_of_getElem? (i := 9) rfl
theorem tw10 : (Jvm.Cond.laysStatic "com/example/hedgeline/hedgeline/Flow" "INJECTION" "Lcom/example/hedgeline/hedgeline/Flow;") ∈ tables_1 := List.mem_of_getElem? (i := 10) rfl
theorem tw11 : (Jvm.Cond.methodLink "com/example/hedgeline/hedgeline/FlowNamedPinLaw" (7 : Nat) ({ cls := "java/lang/String", name := "length", desc := "()I" } : Jvm.MethodName)) ∈ tables_1 := List.mem_of_getElem? (i := 11) rfl
theorem tw12 : (Jvm.Cond.declares ({ cls := "java/lang/String", name := "length", desc := "()I" } : Jvm.MethodName)) ∈ tables_1 := List.mem_of_getElem? (i := 12) rfl
theorem tw13 : (Jvm.Cond.instanceMethod ({ cls := "java/lang/String", name := "length", desc := "()I" } : Jvm.MethodName)) ∈ tables_1 := List.mem_of_getElem? (i := 13) rfl
theorem tw14 : (Jvm.Cond.selects "java/lang/String" ({ cls := "java/lang/String", name := "length", desc := "()I" } : Jvm.MethodName) ({ cls := "java/lang/String", name := "length", desc := "()I" } : Jvm.MethodName)) ∈ tables_1 := List.mem_of_getElem? (i := 14) rfl
theorem tw15 : (Jvm.Cond.code ({ cls := "java/lang/String", name := "length", desc := "()I" } : Jvm.MethodName) jdk_42_method_54_code (1 : Nat) (Option.some Jvm.ClassFile.FieldType.int)) ∈ tables_1 := List.mem_of_getElem? (i := 15) rfl
theorem tw16 : (Jvm.Cond.fieldLink "java/lang/String" (9 : Nat) "java/lang/String" "value" "[B") ∈ tables_1 := List.mem_of_getElem? (i := 16) rfl
theorem tw23 : (Jvm.Cond.fieldLink "java/lang/String" (15 : Nat) "java/lang/String" "coder" "B") ∈ tables_1 := List.mem_of_getElem? (i := 23) rfl
theorem tw24 : (Jvm.Cond.arrayClass Jvm.ClassFile.FieldType.char) ∈ tables_1 := List.mem_of_getElem? (i := 24) rfl
theorem tw25 : (Jvm.Cond.methodLink "com/example/hedgeline/hedgeline/FlowNamedPinLaw" (35 : Nat) ({ cls := "com/example/hedgeline/hedgeline/FlowNamedPinLaw", name := "at", desc := "(Ljava/lang/String;IIC)C" } : Jvm.MethodName)) ∈ tables_1 := List.mem_of_getElem? (i := 25) rfl
theorem tw26 : (Jvm.Cond.static ({ cls := "com/example/hedgeline/hedgeline/FlowNamedPinLaw", name := "at", desc := "(Ljava/lang/String;IIC)C" } : Jvm.MethodName)) ∈ tables_1 := List.mem_of_getElem? (i := 26) rfl
theorem tw27 : (Jvm.Cond.initialized "com/example/hedgeline/hedgeline/FlowNamedPinLaw") ∈ tables_1 := List.mem_of_getElem? (i := 27) rfl
theorem tw28 : (Jvm.Cond.code ({ cls := "com/example/hedgeline/hedgeline/FlowNamedPinLaw", name := "at", desc := "(Ljava/lang/String;IIC)C" } : Jvm.MethodName) method_2_code (4 : Nat) (Option.some Jvm.ClassFile.FieldType.char)) ∈ tables_1 := List.mem_of_getElem? (i := 28) rfl
theorem tw29 : (Jvm.Cond.methodLink "com/example/hedgeline/hedgeline/FlowNamedPinLaw" (13 : Nat) ({ cls := "java/lang/String", name := "charAt", desc := "(I)C" } : Jvm.MethodName)) ∈ tables_1 := List.mem_of_getElem? (i := 29) rfl
theorem tw30 : (Jvm.Cond.declares ({ cls := "java/lang/String", name := "charAt", desc := "(I)C" } : Jvm.MethodName)) ∈ tables_1 := List.mem_of_getElem? (i := 30) rfl
theorem tw31 : (Jvm.Cond.instanceMethod ({ cls := "java/lang/String", name := "charAt", desc := "(I)C" } : Jvm.MethodName)) ∈ tables_1 := List.mem_of_getElem? (i := 31) rfl
theorem tw32 : (Jvm.Cond.selects "java/lang/String" ({ cls := "java/lang/String", name := "charAt", desc := "(I)C" } : Jvm.MethodName) ({ cls := "java/lang/String", name := "charAt", desc := "(I)C" } : Jvm.MethodName)) ∈ tables_1 := List.mem_of_getElem? (i := 32) rfl
theorem tw33 : (Jvm.Cond.code ({ cls := "java/lang/String", name := "charAt", desc := "(I)C" } : Jvm.MethodName) jdk_42_method_56_code (2 : Nat) (Option.some Jvm.ClassFile.FieldType.char)) ∈ tables_1 := List.mem_of_getElem? (i := 33) rfl
theorem tw51 : (Jvm.Cond.classLink "com/example/hedgeline/hedgeline/FlowNamedPinLaw" (8 : Nat) "java/lang/String") ∈ tables_1 := List.mem_of_getElem? (i := 51) rfl
theorem tw52 : (Jvm.Cond.methodLink "com/example/hedgeline/hedgeline/FlowNamedPinLaw" (41 : Nat) ({ cls := "java/lang/String", name := "<init>", desc := "([C)V" } : Jvm.MethodName)) ∈ tables_1 := List.mem_of_getElem? (i := 52) rfl
theorem tw53 : (Jvm.Cond.instanceMethod ({ cls := "java/lang/String", name := "<init>", desc := "([C)V" } : Jvm.MethodName)) ∈ tables_1 := List.mem_of_getElem? (i := 53) rfl
theorem tw54 : (Jvm.Cond.code ({ cls := "java/lang/String", name := "<init>", desc := "([C)V" } : Jvm.MethodName) jdk_42_method_3_code (2 : Nat) (Option.none : Option Jvm.ClassFile.FieldType)) ∈ tables_1 := List.mem_of_getElem? (i := 54) rfl
theorem tw55 : (Jvm.Cond.methodLink "java/lang/String" (27 : Nat) ({ cls := "java/lang/String", name := "<init>", desc := "([CIILjava/lang/Void;)V" } : Jvm.MethodName)) ∈ tables_1 := List.mem_of_getElem? (i := 55) rfl
theorem tw56 : (Jvm.Cond.instanceMethod ({ cls := "java/lang/String", name := "<init>", desc := "([CIILjava/lang/Void;)V" } : Jvm.MethodName)) ∈ tables_1 := List.mem_of_getElem? (i := 56) rfl
theorem tw58 : (Jvm.Cond.code ({ cls := "java/lang/String", name := "<init>", desc := "([CIILjava/lang/Void;)V" } : Jvm.MethodName) jdk_42_method_149_code (6 : Nat) (Option.none : Option Jvm.ClassFile.FieldType)) ∈ tables_1 := List.mem_of_getElem? (i := 58) rfl
theorem tw59 : (Jvm.Cond.methodLink "java/lang/String" (1 : Nat) ({ cls := "java/lang/Object", name := "<init>", desc := "()V" } : Jvm.MethodName)) ∈ tables_1 := List.mem_of_getElem? (i := 59) rfl
theorem tw60 : (Jvm.Cond.instanceMethod ({ cls := "java/lang/Object", name := "<init>", desc := "()V" } : Jvm.MethodName)) ∈ tables_1 := List.mem_of_getElem? (i := 60) rfl
theorem tw61 : (Jvm.Cond.code ({ cls := "java/lang/Object", name := "<init>", desc := "()V" } : Jvm.MethodName) object_method_1_code (1 : Nat) (Option.none : Option Jvm.ClassFile.FieldType)) ∈ tables_1 := List.mem_of_getElem? (i := 61) rfl
theorem tw72 : (Jvm.Cond.methodLink "com/example/hedgeline/hedgeline/FlowNamedPinLaw" (31 : Nat) ({ cls := "com/example/hedgeline/hedgeline/Flow", name := "named", desc := "(Ljava/lang/String;)Lcom/example/hedgeline/hedgeline/Flow;" } : Jvm.MethodName)) ∈ tables_1 := List.mem_of_getElem? (i := 72) rfl
theorem tw73 : (Jvm.Cond.static ({ cls := "com/example/hedgeline/hedgeline/Flow", name := "named", desc := "(Ljava/lang/String;)Lcom/example/hedgeline/hedgeline/Flow;" } : Jvm.MethodName)) ∈ tables_1 := List.mem_of_getElem? (i := 73) rfl
theorem tw74 : (Jvm.Cond.code ({ cls := "com/example/hedgeline/hedgeline/Flow", name := "named", desc := "(Ljava/lang/String;)Lcom/example/hedgeline/hedgeline/Flow;" } : Jvm.MethodName) prog_26_method_4_code (5 : Nat) (Option.some (Jvm.ClassFile.FieldType.object "com/example/hedgeline/hedgeline/Flow"))) ∈ tables_1 := List.mem_of_getElem? (i := 74) rfl
theorem tw75 : (Jvm.Cond.methodLink "com/example/hedgeline/hedgeline/Flow" (33 : Nat) ({ cls := "com/example/hedgeline/hedgeline/Flow", name := "values", desc := "()[Lcom/example/hedgeline/hedgeline/Flow;" } : Jvm.MethodName)) ∈ tables_1 := List.mem_of_getElem? (i := 75) rfl
theorem tw76 : (Jvm.Cond.static ({ cls := "com/example/hedgeline/hedgeline/Flow", name := "values", desc := "()[Lcom/example/hedgeline/hedgeline/Flow;" } : Jvm.MethodName)) ∈ tables_1 := List.mem_of_getElem? (i := 76) rfl
theorem tw77 : (Jvm.Cond.code ({ cls := "com/example/hedgeline/hedgeline/Flow", name := "values", desc := "()[Lcom/example/hedgeline/hedgeline/Flow;" } : Jvm.MethodName) prog_26_method_1_code (0 : Nat) (Option.some (Jvm.ClassFile.FieldType.array (Jvm.ClassFile.FieldType.object "com/example/hedgeline/hedgeline/Flow")))) ∈ tables_1 := List.mem_of_getElem? (i := 77) rfl
theorem tw78 : (Jvm.Cond.fieldLink "com/example/hedgeline/hedgeline/Flow" (10 : Nat) "com/example/hedgeline/hedgeline/Flow" "$VALUES" "[Lcom/example/hedgeline/hedgeline/Flow;") ∈ tables_1 := List.mem_of_getElem? (i := 78) rfl
theorem tw79 : (Jvm.Cond.laysStatic "com/example/hedgeline/hedgeline/Flow" "$VALUES" "[Lcom/example/hedgeline/hedgeline/Flow;") ∈ tables_1 := List.mem_of_getElem? (i := 79) rfl
theorem tw80 : (Jvm.Cond.methodLink "com/example/hedgeline/hedgeline/Flow" (14 : Nat) ({ cls := "[Lcom/example/hedgeline/hedgeline/Flow;", name := "clone", desc := "()Ljava/lang/Object;" } : Jvm.MethodName)) ∈ tables_1 := List.mem_of_getElem? (i := 80) rfl
theorem tw81 : (Jvm.Cond.sameMethod "[Lcom/example/hedgeline/hedgeline/Flow;" "java/lang/Object" "clone" "()Ljava/lang/Object;") ∈ tables_1 := List.mem_of_getElem? (i := 81) rfl
theorem tw83 : (Jvm.Cond.instanceMethod ({ cls := "java/lang/Object", name := "clone", desc := "()Ljava/lang/Object;" } : Jvm.MethodName)) ∈ tables_1 := List.mem_of_getElem? (i := 83) rfl
theorem tw84 : (Jvm.Cond.selects "[Lcom/example/hedgeline/hedgeline/Flow;" ({ cls := "[Lcom/example/hedgeline/hedgeline/Flow;", name := "clone", desc := "()Ljava/lang/Object;" } : Jvm.MethodName) ({ cls := "java/lang/Object", name := "clone", desc := "()Ljava/lang/Object;" } : Jvm.MethodName)) ∈ tables_1 := List.mem_of_getElem? (i := 84) rfl
theorem tw85 : (Jvm.Cond.native ({ cls := "java/lang/Object", name := "clone", desc := "()Ljava/lang/Object;" } : Jvm.MethodName)) ∈ tables_1 := List.mem_of_getElem? (i := 85) rfl
theorem tw86 : (Jvm.Cond.castable "[Lcom/example/hedgeline/hedgeline/Flow;" "java/lang/Cloneable") ∈ tables_1 := List.mem_of_getElem? (i := 86) rfl
theorem tw87 : (Jvm.Cond.laysStatic "com/example/hedgeline/hedgeline/Flow" "WITHDRAWAL" "Lcom/example/hedgeline/hedgeline/Flow;") ∈ tables_1 := List.mem_of_getElem? (i := 87) rfl
theorem tw89 : (Jvm.Cond.classLink "com/example/hedgeline/hedgeline/Flow" (15 : Nat) "[Lcom/example/hedgeline/hedgeline/Flow;") ∈ tables_1 := List.mem_of_getElem? (i := 89) rfl
theorem tw91 : (Jvm.Cond.fieldLink "com/example/hedgeline/hedgeline/Flow" (29 : Nat) "com/example/hedgeline/hedgeline/Flow" "label" "Ljava/lang/String;") ∈ tables_1 := List.mem_of_getElem? (i := 91) rfl
theorem tw93 : (Jvm.Cond.methodLink "com/example/hedgeline/hedgeline/Flow" (37 : Nat) ({ cls := "java/lang/String", name := "equals", desc := "(Ljava/lang/Object;)Z" } : Jvm.MethodName)) ∈ tables_1 := List.mem_of_getElem? (i := 93) rfl
theorem tw94 : (Jvm.Cond.declares ({ cls := "java/lang/String", name := "equals", desc := "(Ljava/lang/Object;)Z" } : Jvm.MethodName)) ∈ tables_1 := List.mem_of_getElem? (i := 94) rfl
theorem tw95 : (Jvm.Cond.instanceMethod ({ cls := "java/lang/String", name := "equals", desc := "(Ljava/lang/Object;)Z" } : Jvm.MethodName)) ∈ tables_1 := List.mem_of_getElem? (i := 95) rfl
theorem tw96 : (Jvm.Cond.selects "java/lang/String" ({ cls := "java/lang/String", name := "equals", desc := "(Ljava/lang/Object;)Z" } : Jvm.MethodName) ({ cls := "java/lang/String", name := "equals", desc := "(Ljava/lang/Object;)Z" } : Jvm.MethodName)) ∈ tables_1 := List.mem_of_getElem? (i := 96) rfl
theorem tw97 : (Jvm.Cond.code ({ cls := "java/lang/String", name := "equals", desc := "(Ljava/lang/Object;)Z" } : Jvm.MethodName) jdk_42_method_66_code (3 : Nat) (Option.some Jvm.ClassFile.FieldType.boolean)) ∈ tables_1 := List.mem_of_getElem? (i := 97) rfl
theorem tw102 : (Jvm.Cond.constant "com/example/hedgeline/hedgeline/FlowNamedPinLaw" (30 : Nat) (2147483647 : Int32)) ∈ tables_1 := List.mem_of_getElem? (i := 102) rfl
theorem tw103 : (Jvm.Cond.stringLink "com/example/hedgeline/hedgeline/FlowNamedPinLaw" (19 : Nat) "withdrawal") ∈ tables_1 := List.mem_of_getElem? (i := 103) rfl
theorem tw104 : (Jvm.Cond.fieldLink "com/example/hedgeline/hedgeline/FlowNamedPinLaw" (27 : Nat) "com/example/hedgeline/hedgeline/Flow" "WITHDRAWAL" "Lcom/example/hedgeline/hedgeline/Flow;") ∈ tables_1 := List.mem_of_getElem? (i := 104) rfl
theorem tw105 : (Jvm.Cond.stringLink "java/lang/String" (7 : Nat) "") ∈ tables_1 := List.mem_of_getElem? (i := 105) rfl
theorem d0_0 : De code 0 (.iload_n 0) 1 1 := ⟨by decide +kernel, rfl⟩
theorem d0_1 : De code 1 (.iconst 1) 1 2 := ⟨by decide +kernel, rfl⟩
theorem d0_2 : De code 2 (.iand) 1 3 := ⟨by decide +kernel, rfl⟩
theorem d0_3 : De code 3 (.istore 4) 2 5 := ⟨by decide +kernel, rfl⟩
theorem d0_5 : De code 5 (.iload_n 0) 1 6 := ⟨by decide +kernel, rfl⟩
theorem d0_6 : De code 6 (.iconst 1) 1 7 := ⟨by decide +kernel, rfl⟩
theorem d0_7 : De code 7 (.iushr) 1 8 := ⟨by decide +kernel, rfl⟩
theorem d0_8 : De code 8 (.bipush 7) 2 10 := ⟨by decide +kernel, rfl⟩
theorem d0_10 : De code 10 (.iand) 1 11 := ⟨by decide +kernel, rfl⟩
theorem d0_11 : De code 11 (.istore 5) 2 13 := ⟨by decide +kernel, rfl⟩
theorem d0_13 : De code 13 (.iload 4) 2 15 := ⟨by decide +kernel, rfl⟩
theorem d0_15 : De code 15 (.ifCond .ne 8) 3 18 := ⟨by decide +kernel, rfl⟩
theorem d0_18 : De code 18 (.ldc 17) 2 20 := ⟨by decide +kernel, rfl⟩
theorem d0_20 : De code 20 (.goto 5) 3 23 := ⟨by decide +kernel, rfl⟩
theorem d0_23 : De code 23 (.ldc 19) 2 25 := ⟨by decide +kernel, rfl⟩
theorem d0_25 : De code 25 (.astore 6) 2 27 := ⟨by decide +kernel, rfl⟩
theorem d0_27 : De code 27 (.iload 4) 2 29 := ⟨by decide +kernel, rfl⟩
theorem d0_29 : De code 29 (.ifCond .ne 9) 3 32 := ⟨by decide +kernel, rfl⟩
theorem d0_32 : De code 32 (.getstatic 21) 3 35 := ⟨by decide +kernel, rfl⟩
theorem d0_35 : De code 35 (.goto 6) 3 38 := ⟨by decide +kernel, rfl⟩
theorem d0_38 : De code 38 (.getstatic 27) 3 41 := ⟨by decide +kernel, rfl⟩
theorem d0_41 : De code 41 (.astore 7) 2 43 := ⟨by decide +kernel, rfl⟩
theorem d0_43 : De code 43 (.aload 6) 2 45 := ⟨by decide +kernel, rfl⟩
theorem d0_45 : De code 45 (.invokevirtual 7) 3 48 := ⟨by decide +kernel, rfl⟩
theorem d0_48 : De code 48 (.istore 8) 2 50 := ⟨by decide +kernel, rfl⟩
theorem d0_50 : De code 50 (.iload_n 2) 1 51 := ⟨by decide +kernel, rfl⟩
theorem d0_51 : De code 51 (.sipush 255) 3 54 := ⟨by decide +kernel, rfl⟩
theorem d0_54 : De code 54 (.iand) 1 55 := ⟨by decide +kernel, rfl⟩
theorem d0_55 : De code 55 (.i2c) 1 56 := ⟨by decide +kernel, rfl⟩
theorem d0_56 : De code 56 (.istore 9) 2 58 := ⟨by decide +kernel, rfl⟩
theorem d0_58 : De code 58 (.iload 5) 2 60 := ⟨by decide +kernel, rfl⟩
theorem d0_60 : De code 60 (.ifCond .ne 17) 3 63 := ⟨by decide +kernel, rfl⟩
theorem d0_63 : De code 63 (.iload 8) 2 65 := ⟨by decide +kernel, rfl⟩
theorem d0_65 : De code 65 (.istore 10) 2 67 := ⟨by decide +kernel, rfl⟩
theorem d0_67 : De code 67 (.iconst (-1)) 1 68 := ⟨by decide +kernel, rfl⟩
theorem d0_68 : De code 68 (.istore 11) 2 70 := ⟨by decide +kernel, rfl⟩
theorem d0_70 : De code 70 (.aload 7) 2 72 := ⟨by decide +kernel, rfl⟩
theorem d0_72 : De code 72 (.astore 12) 2 74 := ⟨by decide +kernel, rfl⟩
theorem d0_74 : De code 74 (.goto 101) 3 77 := ⟨by decide +kernel, rfl⟩
theorem d0_77 : De code 77 (.iload 5) 2 79 := ⟨by decide +kernel, rfl⟩
theorem d0_79 : De code 79 (.iconst 2) 1 80 := ⟨by decide +kernel, rfl⟩
theorem d0_80 : De code 80 (.if_icmp .ne 21) 3 83 := ⟨by decide +kernel, rfl⟩
theorem d0_83 : De code 83 (.iload_n 3) 1 84 := ⟨by decide +kernel, rfl⟩
theorem d0_84 : De code 84 (.ldc 30) 2 86 := ⟨by decide +kernel, rfl⟩
theorem d0_86 : De code 86 (.iand) 1 87 := ⟨by decide +kernel, rfl⟩
theorem d0_87 : De code 87 (.iload 8) 2 89 := ⟨by decide +kernel, rfl⟩
theorem d0_89 : De code 89 (.irem) 1 90 := ⟨by decide +kernel, rfl⟩
theorem d0_90 : De code 90 (.istore 10) 2 92 := ⟨by decide +kernel, rfl⟩
theorem d0_92 : De code 92 (.iconst (-1)) 1 93 := ⟨by decide +kernel, rfl⟩
theorem d0_93 : De code 93 (.istore 11) 2 95 := ⟨by decide +kernel, rfl⟩
theorem d0_95 : De code 95 (.aconst_null) 1 96 := ⟨by decide +kernel, rfl⟩
theorem d0_96 : De code 96 (.astore 12) 2 98 := ⟨by decide +kernel, rfl⟩
theorem d0_98 : De code 98 (.goto 77) 3 101 := ⟨by decide +kernel, rfl⟩
theorem d0_101 : De code 101 (.iload 5) 2 103 := ⟨by decide +kernel, rfl⟩
theorem d0_103 : De code 103 (.iconst 3) 1 104 := ⟨by decide +kernel, rfl⟩
theorem d0_104 : De code 104 (.if_icmp .ne 19) 3 107 := ⟨by decide +kernel, rfl⟩
theorem d0_107 : De code 107 (.iload 8) 2 109 := ⟨by decide +kernel, rfl⟩
theorem d0_109 : De code 109 (.iconst 1) 1 110 := ⟨by decide +kernel, rfl⟩
theorem d0_110 : De code 110 (.iadd) 1 111 := ⟨by decide +kernel, rfl⟩
theorem d0_111 : De code 111 (.istore 10) 2 113 := ⟨by decide +kernel, rfl⟩
theorem d0_113 : De code 113 (.iload 8) 2 115 := ⟨by decide +kernel, rfl⟩
theorem d0_115 : De code 115 (.istore 11) 2 117 := ⟨by decide +kernel, rfl⟩
theorem d0_117 : De code 117 (.aconst_null) 1 118 := ⟨by decide +kernel, rfl⟩
theorem d0_118 : De code 118 (.astore 12) 2 120 := ⟨by decide +kernel, rfl⟩
theorem d0_120 : De code 120 (.goto 55) 3 123 := ⟨by decide +kernel, rfl⟩
theorem d0_123 : De code 123 (.iload 5) 2 125 := ⟨by decide +kernel, rfl⟩
theorem d0_125 : De code 125 (.iconst 4) 1 126 := ⟨by decide +kernel, rfl⟩
theorem d0_126 : De code 126 (.if_icmp .ne 16) 3 129 := ⟨by decide +kernel, rfl⟩
theorem d0_129 : De code 129 (.aconst_null) 1 130 := ⟨by decide +kernel, rfl⟩
theorem d0_130 : De code 130 (.invokestatic 31) 3 133 := ⟨by decide +kernel, rfl⟩
theorem d0_133 : De code 133 (.ifnonnull 7) 3 136 := ⟨by decide +kernel, rfl⟩
theorem d0_136 : De code 136 (.iconst 1) 1 137 := ⟨by decide +kernel, rfl⟩
theorem d0_137 : De code 137 (.goto 4) 3 140 := ⟨by decide +kernel, rfl⟩
theorem d0_141 : De code 141 (.ireturn) 1 142 := ⟨by decide +kernel, rfl⟩
theorem d0_142 : De code 142 (.iload 8) 2 144 := ⟨by decide +kernel, rfl⟩
theorem d0_144 : De code 144 (.istore 10) 2 146 := ⟨by decide +kernel, rfl⟩
theorem d0_146 : De code 146 (.iload_n 1) 1 147 := ⟨by decide +kernel, rfl⟩
theorem d0_147 : De code 147 (.ldc 30) 2 149 := ⟨by decide +kernel, rfl⟩
theorem d0_149 : De code 149 (.iand) 1 150 := ⟨by decide +kernel, rfl⟩
theorem d0_150 : De code 150 (.iload 8) 2 152 := ⟨by decide +kernel, rfl⟩
theorem d0_152 : De code 152 (.irem) 1 153 := ⟨by decide +kernel, rfl⟩
theorem d0_153 : De code 153 (.istore 11) 2 155 := ⟨by decide +kernel, rfl⟩
theorem d0_155 : De code 155 (.iload 9) 2 157 := ⟨by decide +kernel, rfl⟩
theorem d0_157 : De code 157 (.aload 6) 2 159 := ⟨by decide +kernel, rfl⟩
theorem d0_159 : De code 159 (.iload 11) 2 161 := ⟨by decide +kernel, rfl⟩
theorem d0_161 : De code 161 (.invokevirtual 13) 3 164 := ⟨by decide +kernel, rfl⟩
theorem d0_164 : De code 164 (.if_icmp .ne 8) 3 167 := ⟨by decide +kernel, rfl⟩
theorem d0_167 : De code 167 (.aload 7) 2 169 := ⟨by decide +kernel, rfl⟩
theorem d0_169 : De code 169 (.goto 4) 3 172 := ⟨by decide +kernel, rfl⟩
theorem d0_172 : De code 172 (.aconst_null) 1 173 := ⟨by decide +kernel, rfl⟩
theorem d0_173 : De code 173 (.astore 12) 2 175 := ⟨by decide +kernel, rfl⟩
theorem d0_175 : De code 175 (.iload 10) 2 177 := ⟨by decide +kernel, rfl⟩
theorem d0_177 : De code 177 (.newarray .char) 2 179 := ⟨by decide +kernel, rfl⟩
theorem d0_179 : De code 179 (.astore 13) 2 181 := ⟨by decide +kernel, rfl⟩
theorem d0_181 : De code 181 (.iload 10) 2 183 := ⟨by decide +kernel, rfl⟩
theorem d0_183 : De code 183 (.ifCond .le 17) 3 186 := ⟨by decide +kernel, rfl⟩
theorem d0_186 : De code 186 (.aload 13) 2 188 := ⟨by decide +kernel, rfl⟩
theorem d0_188 : De code 188 (.iconst 0) 1 189 := ⟨by decide +kernel, rfl⟩
theorem d0_189 : De code 189 (.aload 6) 2 191 := ⟨by decide +kernel, rfl⟩
theorem d0_191 : De code 191 (.iconst 0) 1 192 := ⟨by decide +kernel, rfl⟩
theorem d0_192 : De code 192 (.iload 11) 2 194 := ⟨by decide +kernel, rfl⟩
theorem d0_194 : De code 194 (.iload 9) 2 196 := ⟨by decide +kernel, rfl⟩
theorem d0_196 : De code 196 (.invokestatic 35) 3 199 := ⟨by decide +kernel, rfl⟩
theorem d0_199 : De code 199 (.castore) 1 200 := ⟨by decide +kernel, rfl⟩
theorem d0_200 : De code 200 (.iload 10) 2 202 := ⟨by decide +kernel, rfl⟩
theorem d0_202 : De code 202 (.iconst 1) 1 203 := ⟨by decide +kernel, rfl⟩
theorem d0_203 : De code 203 (.if_icmp .le 17) 3 206 := ⟨by decide +kernel, rfl⟩
theorem d0_206 : De code 206 (.aload 13) 2 208 := ⟨by decide +kernel, rfl⟩
theorem d0_208 : De code 208 (.iconst 1) 1 209 := ⟨by decide +kernel, rfl⟩
theorem d0_209 : De code 209 (.aload 6) 2 211 := ⟨by decide +kernel, rfl⟩
theorem d0_211 : De code 211 (.iconst 1) 1 212 := ⟨by decide +kernel, rfl⟩
theorem d0_212 : De code 212 (.iload 11) 2 214 := ⟨by decide +kernel, rfl⟩
theorem d0_214 : De code 214 (.iload 9) 2 216 := ⟨by decide +kernel, rfl⟩
theorem d0_216 : De code 216 (.invokestatic 35) 3 219 := ⟨by decide +kernel, rfl⟩
theorem d0_219 : De code 219 (.castore) 1 220 := ⟨by decide +kernel, rfl⟩
theorem d0_220 : De code 220 (.iload 10) 2 222 := ⟨by decide +kernel, rfl⟩
theorem d0_222 : De code 222 (.iconst 2) 1 223 := ⟨by decide +kernel, rfl⟩
theorem d0_223 : De code 223 (.if_icmp .le 17) 3 226 := ⟨by decide +kernel, rfl⟩
theorem d0_226 : De code 226 (.aload 13) 2 228 := ⟨by decide +kernel, rfl⟩
theorem d0_228 : De code 228 (.iconst 2) 1 229 := ⟨by decide +kernel, rfl⟩
theorem d0_229 : De code 229 (.aload 6) 2 231 := ⟨by decide +kernel, rfl⟩
theorem d0_231 : De code 231 (.iconst 2) 1 232 := ⟨by decide +kernel, rfl⟩
theorem d0_232 : De code 232 (.iload 11) 2 234 := ⟨by decide +kernel, rfl⟩
theorem d0_234 : De code 234 (.iload 9) 2 236 := ⟨by decide +kernel, rfl⟩
theorem d0_236 : De code 236 (.invokestatic 35) 3 239 := ⟨by decide +kernel, rfl⟩
theorem d0_239 : De code 239 (.castore) 1 240 := ⟨by decide +kernel, rfl⟩
theorem d0_240 : De code 240 (.iload 10) 2 242 := ⟨by decide +kernel, rfl⟩
theorem d0_242 : De code 242 (.iconst 3) 1 243 := ⟨by decide +kernel, rfl⟩
theorem d0_243 : De code 243 (.if_icmp .le 17) 3 246 := ⟨by decide +kernel, rfl⟩
theorem d0_246 : De code 246 (.aload 13) 2 248 := ⟨by decide +kernel, rfl⟩
theorem d0_248 : De code 248 (.iconst 3) 1 249 := ⟨by decide +kernel, rfl⟩
theorem d0_249 : De code 249 (.aload 6) 2 251 := ⟨by decide +kernel, rfl⟩
theorem d0_251 : De code 251 (.iconst 3) 1 252 := ⟨by decide +kernel, rfl⟩
theorem d0_252 : De code 252 (.iload 11) 2 254 := ⟨by decide +kernel, rfl⟩
theorem d0_254 : De code 254 (.iload 9) 2 256 := ⟨by decide +kernel, rfl⟩
theorem d0_256 : De code 256 (.invokestatic 35) 3 259 := ⟨by decide +kernel, rfl⟩
theorem d0_259 : De code 259 (.castore) 1 260 := ⟨by decide +kernel, rfl⟩
theorem d0_260 : De code 260 (.iload 10) 2 262 := ⟨by decide +kernel, rfl⟩
theorem d0_262 : De code 262 (.iconst 4) 1 263 := ⟨by decide +kernel, rfl⟩
theorem d0_263 : De code 263 (.if_icmp .le 17) 3 266 := ⟨by decide +kernel, rfl⟩
theorem d0_266 : De code 266 (.aload 13) 2 268 := ⟨by decide +kernel, rfl⟩
theorem d0_268 : De code 268 (.iconst 4) 1 269 := ⟨by decide +kernel, rfl⟩
theorem d0_269 : De code 269 (.aload 6) 2 271 := ⟨by decide +kernel, rfl⟩
theorem d0_271 : De code 271 (.iconst 4) 1 272 := ⟨by decide +kernel, rfl⟩
theorem d0_272 : De code 272 (.iload 11) 2 274 := ⟨by decide +kernel, rfl⟩
theorem d0_274 : De code 274 (.iload 9) 2 276 := ⟨by decide +kernel, rfl⟩
theorem d0_276 : De code 276 (.invokestatic 35) 3 279 := ⟨by decide +kernel, rfl⟩
theorem d0_279 : De code 279 (.castore) 1 280 := ⟨by decide +kernel, rfl⟩
theorem d0_280 : De code 280 (.iload 10) 2 282 := ⟨by decide +kernel, rfl⟩
theorem d0_282 : De code 282 (.iconst 5) 1 283 := ⟨by decide +kernel, rfl⟩
theorem d0_283 : De code 283 (.if_icmp .le 17) 3 286 := ⟨by decide +kernel, rfl⟩
theorem d0_286 : De code 286 (.aload 13) 2 288 := ⟨by decide +kernel, rfl⟩
theorem d0_288 : De code 288 (.iconst 5) 1 289 := ⟨by decide +kernel, rfl⟩
theorem d0_289 : De code 289 (.aload 6) 2 291 := ⟨by decide +kernel, rfl⟩
theorem d0_291 : De code 291 (.iconst 5) 1 292 := ⟨by decide +kernel, rfl⟩
theorem d0_292 : De code 292 (.iload 11) 2 294 := ⟨by decide +kernel, rfl⟩
theorem d0_294 : De code 294 (.iload 9) 2 296 := ⟨by decide +kernel, rfl⟩
theorem d0_296 : De code 296 (.invokestatic 35) 3 299 := ⟨by decide +kernel, rfl⟩
theorem d0_299 : De code 299 (.castore) 1 300 := ⟨by decide +kernel, rfl⟩
theorem d0_300 : De code 300 (.iload 10) 2 302 := ⟨by decide +kernel, rfl⟩
theorem d0_302 : De code 302 (.bipush 6) 2 304 := ⟨by decide +kernel, rfl⟩
theorem d0_304 : De code 304 (.if_icmp .le 19) 3 307 := ⟨by decide +kernel, rfl⟩
theorem d0_307 : De code 307 (.aload 13) 2 309 := ⟨by decide +kernel, rfl⟩
theorem d0_309 : De code 309 (.bipush 6) 2 311 := ⟨by decide +kernel, rfl⟩
theorem d0_311 : De code 311 (.aload 6) 2 313 := ⟨by decide +kernel, rfl⟩
theorem d0_313 : De code 313 (.bipush 6) 2 315 := ⟨by decide +kernel, rfl⟩
theorem d0_315 : De code 315 (.iload 11) 2 317 := ⟨by decide +kernel, rfl⟩
theorem d0_317 : De code 317 (.iload 9) 2 319 := ⟨by decide +kernel, rfl⟩
theorem d0_319 : De code 319 (.invokestatic 35) 3 322 := ⟨by decide +kernel, rfl⟩
theorem d0_322 : De code 322 (.castore) 1 323 := ⟨by decide +kernel, rfl⟩
theorem d0_323 : De code 323 (.iload 10) 2 325 := ⟨by decide +kernel, rfl⟩
theorem d0_325 : De code 325 (.bipush 7) 2 327 := ⟨by decide +kernel, rfl⟩
theorem d0_327 : De code 327 (.if_icmp .le 19) 3 330 := ⟨by decide +kernel, rfl⟩
theorem d0_330 : De code 330 (.aload 13) 2 332 := ⟨by decide +kernel, rfl⟩
theorem d0_332 : De code 332 (.bipush 7) 2 334 := ⟨by decide +kernel, rfl⟩
theorem d0_334 : De code 334 (.aload 6) 2 336 := ⟨by decide +kernel, rfl⟩
theorem d0_336 : De code 336 (.bipush 7) 2 338 := ⟨by decide +kernel, rfl⟩
theorem d0_338 : De code 338 (.iload 11) 2 340 := ⟨by decide +kernel, rfl⟩
theorem d0_340 : De code 340 (.iload 9) 2 342 := ⟨by decide +kernel, rfl⟩
theorem d0_342 : De code 342 (.invokestatic 35) 3 345 := ⟨by decide +kernel, rfl⟩
theorem d0_345 : De code 345 (.castore) 1 346 := ⟨by decide +kernel, rfl⟩
theorem d0_346 : De code 346 (.iload 10) 2 348 := ⟨by decide +kernel, rfl⟩
theorem d0_348 : De code 348 (.bipush 8) 2 350 := ⟨by decide +kernel, rfl⟩
theorem d0_350 : De code 350 (.if_icmp .le 19) 3 353 := ⟨by decide +kernel, rfl⟩
theorem d0_353 : De code 353 (.aload 13) 2 355 := ⟨by decide +kernel, rfl⟩
theorem d0_355 : De code 355 (.bipush 8) 2 357 := ⟨by decide +kernel, rfl⟩
theorem d0_357 : De code 357 (.aload 6) 2 359 := ⟨by decide +kernel, rfl⟩
theorem d0_359 : De code 359 (.bipush 8) 2 361 := ⟨by decide +kernel, rfl⟩
theorem d0_361 : De code 361 (.iload 11) 2 363 := ⟨by decide +kernel, rfl⟩
theorem d0_363 : De code 363 (.iload 9) 2 365 := ⟨by decide +kernel, rfl⟩
theorem d0_365 : De code 365 (.invokestatic 35) 3 368 := ⟨by decide +kernel, rfl⟩
theorem d0_368 : De code 368 (.castore) 1 369 := ⟨by decide +kernel, rfl⟩
theorem d0_369 : De code 369 (.iload 10) 2 371 := ⟨by decide +kernel, rfl⟩
theorem d0_371 : De code 371 (.bipush 9) 2 373 := ⟨by decide +kernel, rfl⟩
theorem d0_373 : De code 373 (.if_icmp .le 19) 3 376 := ⟨by decide +kernel, rfl⟩
theorem d0_376 : De code 376 (.aload 13) 2 378 := ⟨by decide +kernel, rfl⟩
theorem d0_378 : De code 378 (.bipush 9) 2 380 := ⟨by decide +kernel, rfl⟩
theorem d0_380 : De code 380 (.aload 6) 2 382 := ⟨by decide +kernel, rfl⟩
theorem d0_382 : De code 382 (.bipush 9) 2 384 := ⟨by decide +kernel, rfl⟩
theorem d0_384 : De code 384 (.iload 11) 2 386 := ⟨by decide +kernel, rfl⟩
theorem d0_386 : De code 386 (.iload 9) 2 388 := ⟨by decide +kernel, rfl⟩
theorem d0_388 : De code 388 (.invokestatic 35) 3 391 := ⟨by decide +kernel, rfl⟩
theorem d0_391 : De code 391 (.castore) 1 392 := ⟨by decide +kernel, rfl⟩
theorem d0_392 : De code 392 (.iload 10) 2 394 := ⟨by decide +kernel, rfl⟩
theorem d0_394 : De code 394 (.bipush 10) 2 396 := ⟨by decide +kernel, rfl⟩
theorem d0_396 : De code 396 (.if_icmp .le 19) 3 399 := ⟨by decide +kernel, rfl⟩
theorem d0_399 : De code 399 (.aload 13) 2 401 := ⟨by decide +kernel, rfl⟩
theorem d0_401 : De code 401 (.bipush 10) 2 403 := ⟨by decide +kernel, rfl⟩
theorem d0_403 : De code 403 (.aload 6) 2 405 := ⟨by decide +kernel, rfl⟩
theorem d0_405 : De code 405 (.bipush 10) 2 407 := ⟨by decide +kernel, rfl⟩
theorem d0_407 : De code 407 (.iload 11) 2 409 := ⟨by decide +kernel, rfl⟩
theorem d0_409 : De code 409 (.iload 9) 2 411 := ⟨by decide +kernel, rfl⟩
theorem d0_411 : De code 411 (.invokestatic 35) 3 414 := ⟨by decide +kernel, rfl⟩
theorem d0_414 : De code 414 (.castore) 1 415 := ⟨by decide +kernel, rfl⟩
theorem d0_415 : De code 415 (.new 8) 3 418 := ⟨by decide +kernel, rfl⟩
theorem d0_418 : De code 418 (.dup) 1 419 := ⟨by decide +kernel, rfl⟩
theorem d0_419 : De code 419 (.aload 13) 2 421 := ⟨by decide +kernel, rfl⟩
theorem d0_421 : De code 421 (.invokespecial 41) 3 424 := ⟨by decide +kernel, rfl⟩
theorem d0_424 : De code 424 (.astore 14) 2 426 := ⟨by decide +kernel, rfl⟩
theorem d0_426 : De code 426 (.aload 14) 2 428 := ⟨by decide +kernel, rfl⟩
theorem d0_428 : De code 428 (.invokestatic 31) 3 431 := ⟨by decide +kernel, rfl⟩
theorem d0_431 : De code 431 (.aload 12) 2 433 := ⟨by decide +kernel, rfl⟩
theorem d0_433 : De code 433 (.if_acmp .ne 7) 3 436 := ⟨by decide +kernel, rfl⟩
theorem d0_436 : De code 436 (.iconst 1) 1 437 := ⟨by decide +kernel, rfl⟩
theorem d0_437 : De code 437 (.goto 4) 3 440 := ⟨by decide +kernel, rfl⟩
theorem d0_441 : De code 441 (.ireturn) 1 442 := ⟨by decide +kernel, rfl⟩
theorem d3_0 : De method_2_code 0 (.iload_n 1) 1 1 := ⟨by decide +kernel, rfl⟩
theorem d3_1 : De method_2_code 1 (.iload_n 2) 1 2 := ⟨by decide +kernel, rfl⟩
theorem d3_2 : De method_2_code 2 (.if_icmp .ne 5) 3 5 := ⟨by decide +kernel, rfl⟩
theorem d3_5 : De method_2_code 5 (.iload_n 3) 1 6 := ⟨by decide +kernel, rfl⟩
theorem d3_6 : De method_2_code 6 (.ireturn) 1 7 := ⟨by decide +kernel, rfl⟩
theorem d3_7 : De method_2_code 7 (.iload_n 1) 1 8 := ⟨by decide +kernel, rfl⟩
theorem d3_8 : De method_2_code 8 (.aload_n 0) 1 9 := ⟨by decide +kernel, rfl⟩
theorem d3_9 : De method_2_code 9 (.invokevirtual 7) 3 12 := ⟨by decide +kernel, rfl⟩
theorem d3_12 : De method_2_code 12 (.if_icmp .ge 9) 3 15 := ⟨by decide +kernel, rfl⟩
theorem d3_15 : De method_2_code 15 (.aload_n 0) 1 16 := ⟨by decide +kernel, rfl⟩
theorem d3_16 : De method_2_code 16 (.iload_n 1) 1 17 := ⟨by decide +kernel, rfl⟩
theorem d3_17 : De method_2_code 17 (.invokevirtual 13) 3 20 := ⟨by decide +kernel, rfl⟩
theorem d3_20 : De method_2_code 20 (.ireturn) 1 21 := ⟨by decide +kernel, rfl⟩
theorem d3_21 : De method_2_code 21 (.bipush 120) 2 23 := ⟨by decide +kernel, rfl⟩
theorem d3_23 : De method_2_code 23 (.ireturn) 1 24 := ⟨by decide +kernel, rfl⟩
theorem d9_0 : De jdk_42_method_3_code 0 (.aload_n 0) 1 1 := ⟨by decide +kernel, rfl⟩
theorem d9_1 : De jdk_42_method_3_code 1 (.aload_n 1) 1 2 := ⟨by decide +kernel, rfl⟩
theorem d9_2 : De jdk_42_method_3_code 2 (.iconst 0) 1 3 := ⟨by decide +kernel, rfl⟩
theorem d9_3 : De jdk_42_method_3_code 3 (.aload_n 1) 1 4 := ⟨by decide +kernel, rfl⟩
theorem d9_4 : De jdk_42_method_3_code 4 (.arraylength) 1 5 := ⟨by decide +kernel, rfl⟩
theorem d9_5 : De jdk_42_method_3_code 5 (.aconst_null) 1 6 := ⟨by decide +kernel, rfl⟩
theorem d9_6 : De jdk_42_method_3_code 6 (.invokespecial 27) 3 9 := ⟨by decide +kernel, rfl⟩
theorem d9_9 : De jdk_42_method_3_code 9 (.return_) 1 10 := ⟨by decide +kernel, rfl⟩
theorem d10_0 : De jdk_42_method_149_code 0 (.aload_n 0) 1 1 := ⟨by decide +kernel, rfl⟩
theorem d10_1 : De jdk_42_method_149_code 1 (.invokespecial 1) 3 4 := ⟨by decide +kernel, rfl⟩
theorem d10_4 : De jdk_42_method_149_code 4 (.iload_n 3) 1 5 := ⟨by decide +kernel, rfl⟩
theorem d10_5 : De jdk_42_method_149_code 5 (.ifCond .ne 22) 3 8 := ⟨by decide +kernel, rfl⟩
theorem d10_8 : De jdk_42_method_149_code 8 (.aload_n 0) 1 9 := ⟨by decide +kernel, rfl⟩
theorem d10_9 : De jdk_42_method_149_code 9 (.ldc 7) 2 11 := ⟨by decide +kernel, rfl⟩
theorem d10_11 : De jdk_42_method_149_code 11 (.getfield 9) 3 14 := ⟨by decide +kernel, rfl⟩
theorem d10_14 : De jdk_42_method_149_code 14 (.putfield 9) 3 17 := ⟨by decide +kernel, rfl⟩
theorem d10_17 : De jdk_42_method_149_code 17 (.aload_n 0) 1 18 := ⟨by decide +kernel, rfl⟩
theorem d10_18 : De jdk_42_method_149_code 18 (.ldc 7) 2 20 := ⟨by decide +kernel, rfl⟩
theorem d10_20 : De jdk_42_method_149_code 20 (.getfield 15) 3 23 := ⟨by decide +kernel, rfl⟩
theorem d10_23 : De jdk_42_method_149_code 23 (.putfield 15) 3 26 := ⟨by decide +kernel, rfl⟩
theorem d10_26 : De jdk_42_method_149_code 26 (.return_) 1 27 := ⟨by decide +kernel, rfl⟩
theorem d15_0 : De prog_26_method_4_code 0 (.invokestatic 33) 3 3 := ⟨by decide +kernel, rfl⟩
theorem d15_3 : De prog_26_method_4_code 3 (.astore_n 1) 1 4 := ⟨by decide +kernel, rfl⟩
theorem d15_4 : De prog_26_method_4_code 4 (.aload_n 1) 1 5 := ⟨by decide +kernel, rfl⟩
theorem d15_5 : De prog_26_method_4_code 5 (.arraylength) 1 6 := ⟨by decide +kernel, rfl⟩
theorem d15_6 : De prog_26_method_4_code 6 (.istore_n 2) 1 7 := ⟨by decide +kernel, rfl⟩
theorem d15_7 : De prog_26_method_4_code 7 (.iconst 0) 1 8 := ⟨by decide +kernel, rfl⟩
theorem d15_8 : De prog_26_method_4_code 8 (.istore_n 3) 1 9 := ⟨by decide +kernel, rfl⟩
theorem d15_9 : De prog_26_method_4_code 9 (.iload_n 3) 1 10 := ⟨by decide +kernel, rfl⟩
theorem d15_10 : De prog_26_method_4_code 10 (.iload_n 2) 1 11 := ⟨by decide +kernel, rfl⟩
theorem d15_11 : De prog_26_method_4_code 11 (.if_icmp .ge 29) 3 14 := ⟨by decide +kernel, rfl⟩
theorem d15_14 : De prog_26_method_4_code 14 (.aload_n 1) 1 15 := ⟨by decide +kernel, rfl⟩
theorem d15_15 : De prog_26_method_4_code 15 (.iload_n 3) 1 16 := ⟨by decide +kernel, rfl⟩
theorem d15_16 : De prog_26_method_4_code 16 (.aaload) 1 17 := ⟨by decide +kernel, rfl⟩
theorem d15_17 : De prog_26_method_4_code 17 (.astore 4) 2 19 := ⟨by decide +kernel, rfl⟩
theorem d15_19 : De prog_26_method_4_code 19 (.aload 4) 2 21 := ⟨by decide +kernel, rfl⟩
theorem d15_21 : De prog_26_method_4_code 21 (.getfield 29) 3 24 := ⟨by decide +kernel, rfl⟩
theorem d15_24 : De prog_26_method_4_code 24 (.aload_n 0) 1 25 := ⟨by decide +kernel, rfl⟩
theorem d15_25 : De prog_26_method_4_code 25 (.invokevirtual 37) 3 28 := ⟨by decide +kernel, rfl⟩
theorem d15_28 : De prog_26_method_4_code 28 (.ifCond .eq 6) 3 31 := ⟨by decide +kernel, rfl⟩
theorem d15_31 : De prog_26_method_4_code 31 (.aload 4) 2 33 := ⟨by decide +kernel, rfl⟩
theorem d15_33 : De prog_26_method_4_code 33 (.areturn) 1 34 := ⟨by decide +kernel, rfl⟩
theorem d15_34 : De prog_26_method_4_code 34 (.iinc 3 1) 3 37 := ⟨by decide +kernel, rfl⟩
theorem d15_37 : De prog_26_method_4_code 37 (.goto (-28)) 3 40 := ⟨by decide +kernel, rfl⟩
theorem d15_40 : De prog_26_method_4_code 40 (.aconst_null) 1 41 := ⟨by decide +kernel, rfl⟩
theorem d15_41 : De prog_26_method_4_code 41 (.areturn) 1 42 := ⟨by decide +kernel, rfl⟩
theorem d16_0 : De prog_26_method_1_code 0 (.getstatic 10) 3 3 := ⟨by decide +kernel, rfl⟩
theorem d16_3 : De prog_26_method_1_code 3 (.invokevirtual 14) 3 6 := ⟨by decide +kernel, rfl⟩
theorem d16_6 : De prog_26_method_1_code 6 (.checkcast 15) 3 9 := ⟨by decide +kernel, rfl⟩
theorem d16_9 : De prog_26_method_1_code 9 (.areturn) 1 10 := ⟨by decide +kernel, rfl⟩
theorem d17_0 : De jdk_42_method_66_code 0 (.aload_n 0) 1 1 := ⟨by decide +kernel, rfl⟩
theorem d17_1 : De jdk_42_method_66_code 1 (.aload_n 1) 1 2 := ⟨by decide +kernel, rfl⟩
theorem d17_2 : De jdk_42_method_66_code 2 (.if_acmp .ne 5) 3 5 := ⟨by decide +kernel, rfl⟩
theorem d17_7 : De jdk_42_method_66_code 7 (.aload_n 1) 1 8 := ⟨by decide +kernel, rfl⟩
theorem d17_8 : De jdk_42_method_66_code 8 (.instanceof 10) 3 11 := ⟨by decide +kernel, rfl⟩
theorem d17_11 : De jdk_42_method_66_code 11 (.ifCond .eq 43) 3 14 := ⟨by decide +kernel, rfl⟩
theorem d17_54 : De jdk_42_method_66_code 54 (.iconst 0) 1 55 := ⟨by decide +kernel, rfl⟩
theorem d17_55 : De jdk_42_method_66_code 55 (.ireturn) 1 56 := ⟨by decide +kernel, rfl⟩
theorem pd0 : parseMethodDescriptor "()I" = some ⟨[], some .int⟩ := by decide +kernel
theorem pd1 : parseMethodDescriptor "(I)C" = some ⟨[.int], some .char⟩ := by decide +kernel
theorem pd2 : parseMethodDescriptor "()[Lcom/example/hedgeline/hedgeline/Flow;" = some ⟨[], some (.array (.object "com/example/hedgeline/hedgeline/Flow"))⟩ := by decide +kernel
theorem pd3 : parseMethodDescriptor "(Ljava/lang/Object;)Z" = some ⟨[(.object "java/lang/Object")], some .boolean⟩ := by decide +kernel
theorem pd4 : parseMethodDescriptor "([CIILjava/lang/Void;)V" = some ⟨[(.array .char), .int, .int, (.object "java/lang/Void")], none⟩ := by decide +kernel
theorem pd5 : parseMethodDescriptor "(Ljava/lang/String;IIC)C" = some ⟨[(.object "java/lang/String"), .int, .int, .char], some .char⟩ := by decide +kernel
theorem pd6 : parseMethodDescriptor "([C)V" = some ⟨[(.array .char)], none⟩ := by decide +kernel
theorem pd7 : parseMethodDescriptor "(Ljava/lang/String;)Lcom/example/hedgeline/hedgeline/Flow;" = some ⟨[(.object "java/lang/String")], some (.object "com/example/hedgeline/hedgeline/Flow")⟩ := by decide +kernel
theorem pn0 : plainName "com/example/hedgeline/hedgeline/FlowNamedPinLaw" = true := by first | (simp [plainName, overriddenIn]; done) | decide +kernel
theorem pn1 : plainName "com/example/hedgeline/hedgeline/Flow" = true := by first | (simp [plainName, overriddenIn]; done) | decide +kernel
theorem pn2 : plainName "java/lang/String" = true := by first | (simp [plainName, overriddenIn]; done) | decide +kernel
abbrev lo8 := StrChars.lo8
/-- the String at x holds the Latin-1 text cs -/
def SX (Z : State) (h : Heap) (x t : Addr) (k : ClassId) (cs : List Int32) : Prop := Exa Z h x "java/lang/String" ∧ Fld Z h x "java/lang/String" "coder" "B" (.int 0) ∧ Fld Z h x "java/lang/String" "value" "[B" (.ref t) ∧ Arv Z h t k .byte (Int32.ofNat cs.length) ((cs.map lo8).map Value.int) (.int 0) ∧ cs.length ≤ 4000 ∧ ∀ c ∈ cs, ¬ c < 0 ∧ ¬ (255 : Int32) < c
theorem SX.ext {Z : State} {h h' : Heap} {x t : Addr} {k : ClassId} {cs : List Int32} (q : SX Z h x t k cs) (E : Ext h h') : SX Z h' x t k cs := ⟨q.1.ext E, q.2.1.ext E, q.2.2.1.ext E, q.2.2.2.1.ext E, q.2.2.2.2⟩
theorem SX.cod {Z : State} {h : Heap} {x t : Addr} {k : ClassId} {cs : List Int32} (q : SX Z h x t k cs) : StrChars.Road.CodA cs 0 (Int32.ofNat cs.length) ((cs.map lo8).map Value.int) := StrChars.Road.codOf rfl fun c hc => (q.2.2.2.2.2 c hc).2
theorem SX.two {Z : State} {h : Heap} {x t : Addr} {k : ClassId} {cs : List Int32} (q : SX Z h x t k cs) : ∀ c ∈ cs, ¬ c < 0 ∧ ¬ (65535 : Int32) < c := fun c hc => by
  obtain ⟨a, b⟩ := q.2.2.2.2.2 c hc
  refine ⟨a, ?_⟩
  rw [Int32.lt_iff_toInt_lt] at b ⊢
  have q0 : (255 : Int32).toInt = 255 := by decide
  have q1 : (65535 : Int32).toInt = 65535 := by decide
  omega
set_option maxRecDepth 65536 in
theorem own_w1 {Z : State} {a0 : Array Value} (hw : ∀ d ∈ tables_1, d.before a0 Z = true) : ∀ d ∈ StrChars.Road.words, d.before a0 Z = true := fun d hd => hw d ((by decide +kernel : ∀ d ∈ StrChars.Road.words, d ∈ tables_1) d hd)
set_option maxRecDepth 65536 in
theorem own_w2 {Z : State} {a0 : Array Value} (hw : ∀ d ∈ tables_1, d.before a0 Z = true) : ∀ d ∈ StrChars.Road.wordsLen, d.before a0 Z = true := fun d hd => hw d ((by decide +kernel : ∀ d ∈ StrChars.Road.wordsLen, d ∈ tables_1) d hd)
set_option maxRecDepth 65536 in
theorem own_w3 {Z : State} {a0 : Array Value} (hw : ∀ d ∈ tables_1, d.before a0 Z = true) : ∀ d ∈ StrChars.Road.wordsEq, d.before a0 Z = true := fun d hd => hw d ((by decide +kernel : ∀ d ∈ StrChars.Road.wordsEq, d ∈ tables_1) d hd)
set_option maxRecDepth 65536 in
theorem own_w4 {Z : State} {a0 : Array Value} (hw : ∀ d ∈ tables_1, d.before a0 Z = true) : ∀ d ∈ StrChars.Road.wordsChN, d.before a0 Z = true := fun d hd => hw d ((by decide +kernel : ∀ d ∈ StrChars.Road.wordsChN, d ∈ tables_1) d hd)
set_option maxRecDepth 65536 in
theorem own_wS : ∀ d ∈ Bundle.stringAtoms, d ∈ tables_1 := by decide +kernel
def QStr (Z : State) (x : Addr) (cs : List Int32) (h : Heap) (n0 : Nat) (v : Option Value) (h' : Heap) : Prop := v = none ∧ Keep h h' [x] ∧ ∃ (t : Addr) (k : ClassId), SX Z h' x t k cs
theorem payStr {l : Launch} {Z : State} {a0 : Array Value} {R : Room} {W : Nat} {h : Heap} (hw : ∀ d ∈ tables_1, d.before a0 Z = true) {x b : Addr} {kC : ClassId} {cs : List Int32} {d v0 c0 : Value} {z N : Int32} {n n0 : Nat} (hx0 : n0 ≤ x) (O : Old Z n0 h) (E : Exa Z h x "java/lang/String") (V : Fld Z h x "java/lang/String" "value" "[B" v0) (C : Fld Z h x "java/lang/String" "coder" "B" c0) (K : Arv Z h b kC .char N (cs.map Value.int) d) (S : Sta Z h "java/lang/String" "COMPACT_STRINGS" "Z" (.int z)) (hz : ¬ z = 0)
    (hn : cs.length = n) (hN : N = Int32.ofNat n) (l0 : 0 < n) (l2 : n ≤ 4000) (hp : ∀ c ∈ cs, ¬ c < 0 ∧ ¬ (255 : Int32) < c) (hfr : 4 ≤ R.frames) (hlo : W + 65 ≤ R.locals) :
    Pay l Z R (⟨"java/lang/String", "<init>", "([C)V"⟩ : MethodName) 3 W #[.ref x, .ref b] n0 h 1 n (QStr Z x cs h n0) := by
  intro p e below s args hZ
  have hs : n0 ≤ h.size := by have q1 := O.1; have q2 := O.2.1; omega
  refine Back.mono (StrChars.Road.backV (W := W) hZ (own_w1 hw) (kI := 4) (hw _ tw2) hx0 hs E V C K S hz hn hN l0 l2 hp rfl hfr hlo) (fun P a hp => hp) (fun P a v B hp' hq => ?_)
  obtain ⟨L, ⟨q1, q2, q3, q4, q5, t, kb, q6, q7, q8, q9, q10⟩, r⟩ := hq
  exact ⟨L, ⟨⟨q1, q3, t, kb, q4, q5, q9, by rw [hn, ← hN]; exact q10, by omega, hp⟩, q2, q3.1⟩, r⟩
theorem payLen {l : Launch} {Z : State} {a0 : Array Value} {R : Room} {W n0 : Nat} {h : Heap} (hw : ∀ d ∈ tables_1, d.before a0 Z = true) {x t : Addr} {k : ClassId} {cs : List Int32} {z : Int32} (q : SX Z h x t k cs) (S : Sta Z h "java/lang/String" "COMPACT_STRINGS" "Z" (.int z)) (hz : ¬ z = 0) (hfr : 2 ≤ R.frames) (hlo : W + 25 ≤ R.locals) : Pay l Z R (⟨"java/lang/String", "length", "()I"⟩ : MethodName) 3 W #[.ref x] n0 h 0 0 (QP (some (.int (Int32.ofNat cs.length))) h) := by
  intro p e below s args hZ
  refine Back.mono (StrChars.Road.lenW (W := W) hZ (own_w2 hw) (kI := 4) (hw _ tw2) q.1 q.2.2.1 q.2.1 q.2.2.2.1 q.cod q.two S hz q.2.2.2.2.1 hfr hlo) (fun P a hp => hp) (fun P a v B hp hq => ?_)
  obtain ⟨L, ⟨q1, q2, q3⟩, r⟩ := hq
  subst q2
  exact ⟨[], ⟨⟨q1, q3.symm⟩, Fr.nil _, Nat.le_of_eq (by rw [q3])⟩, r⟩
theorem payCh {l : Launch} {Z : State} {a0 : Array Value} {R : Room} {W n0 : Nat} {h : Heap} (hw : ∀ d ∈ tables_1, d.before a0 Z = true) {x t : Addr} {k : ClassId} {cs : List Int32} {z j : Int32} {fm : Value} {i : Nat} (q : SX Z h x t k cs) (S : Sta Z h "java/lang/String" "COMPACT_STRINGS" "Z" (.int z)) (hz : ¬ z = 0) (F : Sta Z h "jdk/internal/util/Preconditions" "SIOOBE_FORMATTER" "Ljava/util/function/BiFunction;" fm) (rf : fm.isRef = true) (hi : i < cs.length) (hj : j = Int32.ofNat i) (hfr : 4 ≤ R.frames) (hlo : W + 53 ≤ R.locals) : Pay l Z R (⟨"java/lang/String", "charAt", "(I)C"⟩ : MethodName) 3 W #[.ref x, .int j] n0 h 0 0 (QP (some (.int (cs.getD i 0))) h) := by
  intro p e below s args hZ
  refine Back.mono (StrChars.Road.chN (W := W) hZ (own_w4 hw) (kI := 4) (hw _ tw2) q.1 q.2.2.1 q.2.1 q.2.2.2.1 q.cod q.two S hz F rf q.2.2.2.2.1 hi hj hfr hlo) (fun P a hp => hp) (fun P a v B hp hq => ?_)
  obtain ⟨L, ⟨q1, q2, q3⟩, r⟩ := hq
  subst q2
  exact ⟨[], ⟨⟨q1, q3.symm⟩, Fr.nil _, Nat.le_of_eq (by rw [q3])⟩, r⟩
def QEq (cs ds : List Int32) (h : Heap) (v : Option Value) (h' : Heap) : Prop := ((v = some (.int 1) ∧ cs = ds) ∨ (v = some (.int 0) ∧ ¬ cs = ds)) ∧ h = h'
theorem payEq {l : Launch} {Z : State} {a0 : Array Value} {R : Room} {W n0 : Nat} {h : Heap} (hw : ∀ d ∈ tables_1, d.before a0 Z = true) {x t y u : Addr} {k k' : ClassId} {cs ds : List Int32} {z : Int32} (q : SX Z h x t k cs) (q' : SX Z h y u k' ds) (S : Sta Z h "java/lang/String" "COMPACT_STRINGS" "Z" (.int z)) (hz : ¬ z = 0) (hfr : 2 ≤ R.frames) (hlo : W + 28 ≤ R.locals) : Pay l Z R (⟨"java/lang/String", "equals", "(Ljava/lang/Object;)Z"⟩ : MethodName) 3 W #[.ref x, .ref y] n0 h 0 0 (QEq cs ds h) := by
  intro p e below s args hZ
  refine Back.mono (StrChars.Road.eqW (W := W) hZ (own_w3 hw) (kI := 4) (hw _ tw2) q.1 q.2.2.1 q.2.1 q.2.2.2.1 q.cod q.two q.2.2.2.2.1 q'.1 q'.2.2.1 q'.2.1 q'.2.2.2.1 q'.cod q'.two q'.2.2.2.2.1 S hz hfr hlo) (fun P a hp => hp) (fun P a v B hp hq => ?_)
  obtain ⟨L, ⟨q1, q2, q3⟩, r⟩ := hq
  subst q2
  exact ⟨[], ⟨⟨q1, q3.symm⟩, Fr.nil _, Nat.le_of_eq (by rw [q3])⟩, r⟩
theorem oLen31 {args : Array Value} {s : State} {t : Term} {k : Int32} {a : Addr} {cl : Cell} (q : (Term.length t).eval args s none [] s = some (.int k)) (ev : t.eval args s none [] s = some (.ref a)) (hc : s.heap[a]? = some cl) : cl.slots.size < 2 ^ 31 := by
  simp only [Term.eval, ev, Option.bind_eq_bind, Option.bind_some, Option.bind_eq_some_iff] at q
  obtain ⟨c', e1, e2⟩ := q
  cases hc.symm.trans (State.arrayAt?_spec e1).1
  split at e2
  · assumption
  · cases e2
theorem oCap {n : Nat} {k : Int32} (h : n < 2 ^ 31) (e : n.toInt32 = k) : n = k.toInt.toNat := by
  rw [← e, len_toInt h]; rfl

theorem own_ch (x : Int32) : nar .char ((x &&& 255).toUInt32.toUInt16.toUInt32.toInt32) = x &&& 255 := by
  show ((x &&& 255).toUInt32.toUInt16.toUInt32.toInt32).toUInt32.toUInt16.toUInt32.toInt32 = x &&& 255
  rw [i2c_mask, i2c_mask]
theorem own_lat (x : Int32) : ¬ (x &&& 255) < 0 ∧ ¬ (255 : Int32) < (x &&& 255) := by
  have e1 := c_mask x 255 8 (by decide) (by decide)
  rw [Int32.lt_iff_toInt_lt, Int32.lt_iff_toInt_lt]
  have q0 : (0 : Int32).toInt = 0 := by decide
  have q1 : (255 : Int32).toInt = 255 := by decide
  omega
def GG (Z : State) (ga1 ga2 ga3 ga4 ga5 ga6 ga7 : Addr) (gc2 gc5 gc7 : Cell) : Prop := Sta Z Z.heap "com/example/hedgeline/hedgeline/Flow" "INJECTION" "Lcom/example/hedgeline/hedgeline/Flow;" (.ref ga1) ∧ Exa Z Z.heap ga1 "com/example/hedgeline/hedgeline/Flow" ∧ Sta Z Z.heap "com/example/hedgeline/hedgeline/Flow" "$VALUES" "[Lcom/example/hedgeline/hedgeline/Flow;" (.ref ga2) ∧ Arr Z Z.heap ga2 gc2 (Jvm.ClassFile.FieldType.object "com/example/hedgeline/hedgeline/Flow") ∧ Exa Z Z.heap ga2 "[Lcom/example/hedgeline/hedgeline/Flow;" ∧ Sta Z Z.heap "com/example/hedgeline/hedgeline/Flow" "WITHDRAWAL" "Lcom/example/hedgeline/hedgeline/Flow;" (.ref ga3) ∧ Exa Z Z.heap ga3 "com/example/hedgeline/hedgeline/Flow" ∧ Fld Z Z.heap ga1 "com/example/hedgeline/hedgeline/Flow" "label" "Ljava/lang/String;" (.ref ga4) ∧ Exa Z Z.heap ga4 "java/lang/String" ∧ Fld Z Z.heap ga4 "java/lang/String" "value" "[B" (.ref ga5) ∧ Arr Z Z.heap ga5 gc5 Jvm.ClassFile.FieldType.byte ∧ Fld Z Z.heap ga3 "com/example/hedgeline/hedgeline/Flow" "label" "Ljava/lang/String;" (.ref ga6) ∧ Exa Z Z.heap ga6 "java/lang/String" ∧ Fld Z Z.heap ga6 "java/lang/String" "value" "[B" (.ref ga7) ∧ Arr Z Z.heap ga7 gc7 Jvm.ClassFile.FieldType.byte ∧ gc2.slots.size.toInt32 = (2 : Int32) ∧ (¬ ((0 : Int32) < 0 ∨ gc2.slots.size ≤ (0 : Int32).toNatClampNeg) ∧ gc2.slots[(0 : Int32).toNatClampNeg]? = some (.ref ga1)) ∧ (¬ ((1 : Int32) < 0 ∨ gc2.slots.size ≤ (1 : Int32).toNatClampNeg) ∧ gc2.slots[(1 : Int32).toNatClampNeg]? = some (.ref ga3)) ∧ Fld Z Z.heap ga4 "java/lang/String" "coder" "B" (.int (0 : Int32)) ∧ gc5.slots.size.toInt32 = (9 : Int32) ∧ Fld Z Z.heap ga6 "java/lang/String" "coder" "B" (.int (0 : Int32)) ∧ gc7.slots.size.toInt32 = (10 : Int32) ∧ (¬ ((0 : Int32) < 0 ∨ gc5.slots.size ≤ (0 : Int32).toNatClampNeg) ∧ gc5.slots[(0 : Int32).toNatClampNeg]? = some (.int (105 : Int32))) ∧ (¬ ((1 : Int32) < 0 ∨ gc5.slots.size ≤ (1 : Int32).toNatClampNeg) ∧ gc5.slots[(1 : Int32).toNatClampNeg]? = some (.int (110 : Int32))) ∧ (¬ ((2 : Int32) < 0 ∨ gc5.slots.size ≤ (2 : Int32).toNatClampNeg) ∧ gc5.slots[(2 : Int32).toNatClampNeg]? = some (.int (106 : Int32))) ∧ (¬ ((3 : Int32) < 0 ∨ gc5.slots.size ≤ (3 : Int32).toNatClampNeg) ∧ gc5.slots[(3 : Int32).toNatClampNeg]? = some (.int (101 : Int32))) ∧ (¬ ((4 : Int32) < 0 ∨ gc5.slots.size ≤ (4 : Int32).toNatClampNeg) ∧ gc5.slots[(4 : Int32).toNatClampNeg]? = some (.int (99 : Int32))) ∧ (¬ ((5 : Int32) < 0 ∨ gc5.slots.size ≤ (5 : Int32).toNatClampNeg) ∧ gc5.slots[(5 : Int32).toNatClampNeg]? = some (.int (116 : Int32))) ∧ (¬ ((6 : Int32) < 0 ∨ gc5.slots.size ≤ (6 : Int32).toNatClampNeg) ∧ gc5.slots[(6 : Int32).toNatClampNeg]? = some (.int (105 : Int32))) ∧ (¬ ((7 : Int32) < 0 ∨ gc5.slots.size ≤ (7 : Int32).toNatClampNeg) ∧ gc5.slots[(7 : Int32).toNatClampNeg]? = some (.int (111 : Int32))) ∧ (¬ ((8 : Int32) < 0 ∨ gc5.slots.size ≤ (8 : Int32).toNatClampNeg) ∧ gc5.slots[(8 : Int32).toNatClampNeg]? = some (.int (110 : Int32))) ∧ (¬ ((0 : Int32) < 0 ∨ gc7.slots.size ≤ (0 : Int32).toNatClampNeg) ∧ gc7.slots[(0 : Int32).toNatClampNeg]? = some (.int (119 : Int32))) ∧ (¬ ((1 : Int32) < 0 ∨ gc7.slots.size ≤ (1 : Int32).toNatClampNeg) ∧ gc7.slots[(1 : Int32).toNatClampNeg]? = some (.int (105 : Int32))) ∧ (¬ ((2 : Int32) < 0 ∨ gc7.slots.size ≤ (2 : Int32).toNatClampNeg) ∧ gc7.slots[(2 : Int32).toNatClampNeg]? = some (.int (116 : Int32))) ∧ (¬ ((3 : Int32) < 0 ∨ gc7.slots.size ≤ (3 : Int32).toNatClampNeg) ∧ gc7.slots[(3 : Int32).toNatClampNeg]? = some (.int (104 : Int32))) ∧ (¬ ((4 : Int32) < 0 ∨ gc7.slots.size ≤ (4 : Int32).toNatClampNeg) ∧ gc7.slots[(4 : Int32).toNatClampNeg]? = some (.int (100 : Int32))) ∧ (¬ ((5 : Int32) < 0 ∨ gc7.slots.size ≤ (5 : Int32).toNatClampNeg) ∧ gc7.slots[(5 : Int32).toNatClampNeg]? = some (.int (114 : Int32))) ∧ (¬ ((6 : Int32) < 0 ∨ gc7.slots.size ≤ (6 : Int32).toNatClampNeg) ∧ gc7.slots[(6 : Int32).toNatClampNeg]? = some (.int (97 : Int32))) ∧ (¬ ((7 : Int32) < 0 ∨ gc7.slots.size ≤ (7 : Int32).toNatClampNeg) ∧ gc7.slots[(7 : Int32).toNatClampNeg]? = some (.int (119 : Int32))) ∧ (¬ ((8 : Int32) < 0 ∨ gc7.slots.size ≤ (8 : Int32).toNatClampNeg) ∧ gc7.slots[(8 : Int32).toNatClampNeg]? = some (.int (97 : Int32))) ∧ (¬ ((9 : Int32) < 0 ∨ gc7.slots.size ≤ (9 : Int32).toNatClampNeg) ∧ gc7.slots[(9 : Int32).toNatClampNeg]? = some (.int (108 : Int32)))
def SINJ : List Int32 := [105, 110, 106, 101, 99, 116, 105, 111, 110]
def SWD : List Int32 := [119, 105, 116, 104, 100, 114, 97, 119, 97, 108]
def SEMP : List Int32 := []
def pk (gi gw : Addr) (ds : List Int32) : Value := if SINJ = ds then .ref gi else if SWD = ds then .ref gw else .null
def ff (ss : List Int32) (d p : Int32) (i : Nat) : Int32 := if Int32.ofNat i = p then d else ss.getD i 120
theorem own_nar {c : Int32} (q : ¬ c < 0 ∧ ¬ (255 : Int32) < c) : nar .char c = c := by
  have e : c &&& 255 = c := by
    obtain ⟨q1, q2⟩ := q
    have e1 := c_mask c 255 8 (by decide) (by decide)
    rw [Int32.lt_iff_toInt_lt] at q1 q2
    have q0 : (0 : Int32).toInt = 0 := by decide
    have q3 : (255 : Int32).toInt = 255 := by decide
    apply Int32.toInt_inj.mp
    omega
  show c.toUInt32.toUInt16.toUInt32.toInt32 = c
  rw [← e, i2c_mask]
theorem own_gd {ss : List Int32} {i : Nat} (h : ∀ c ∈ ss, ¬ c < 0 ∧ ¬ (255 : Int32) < c) : ¬ (ss.getD i 120) < 0 ∧ ¬ (255 : Int32) < ss.getD i 120 := by
  by_cases q : i < ss.length
  · simp only [List.getD_eq_getElem?_getD, List.getElem?_eq_getElem q, Option.getD_some]
    exact h _ (List.getElem_mem q)
  · rw [List.getD_eq_getElem?_getD, List.getElem?_eq_none (Nat.le_of_not_lt q)]
    decide
theorem own_ff {ss : List Int32} {d p : Int32} (hd : ¬ d < 0 ∧ ¬ (255 : Int32) < d) (h : ∀ c ∈ ss, ¬ c < 0 ∧ ¬ (255 : Int32) < c) (i : Nat) : ¬ (ff ss d p i) < 0 ∧ ¬ (255 : Int32) < ff ss d p i := by
  unfold ff
  split
  · exact hd
  · exact own_gd h
theorem own_lt {i n : Nat} (hi : i ≤ 4000) (hn : n ≤ 4000) : (Int32.ofNat i < Int32.ofNat n) ↔ i < n := by
  rw [Int32.lt_iff_toInt_lt, Int32.toInt_ofNat_of_lt (by omega), Int32.toInt_ofNat_of_lt (by omega)]
  omega
theorem ef_rmA (m : MethodId) (x0 : Addr) (x1 : Int32) (x2 : Int32) (x3 : Int32) : entryFrame m #[(.ref x0), (.int x1), (.int x2), (.int x3)] 4 = mkF m 0 #[(.val (.ref x0)), (.val (.int x1)), (.val (.int x2)), (.val (.int x3))] [] := by first | (simp [entryFrame, mkF, argsToLocals, Value.category]; done) | rfl
set_option maxRecDepth 65536 in
set_option maxHeartbeats 4000000 in
theorem rmA {l : Launch} {Z : State} {a0 : Array Value} (hw : ∀ d ∈ tables_1, d.before a0 Z = true) {n0 : Nat} {h0 : Heap} {s t : Addr} {k : ClassId} {ss : List Int32} {i p d : Int32} {iN : Nat} (O : Old Z n0 h0) {z0 : Int32} (S0 : Sta Z Z.heap "java/lang/String" "COMPACT_STRINGS" "Z" (.int z0)) (hz0 : ¬ z0 = 0) {fm : Value} (S1 : Sta Z Z.heap "jdk/internal/util/Preconditions" "SIOOBE_FORMATTER" "Ljava/util/function/BiFunction;" fm) (rf : fm.isRef = true) (HS : SX Z h0 s t k ss) (hiN : i = Int32.ofNat iN) (hi : iN ≤ 4000) (hd : ¬ d < 0 ∧ ¬ (255 : Int32) < d) :
    Pays l Z (⟨"com/example/hedgeline/hedgeline/FlowNamedPinLaw", "at", "(Ljava/lang/String;IIC)C"⟩ : MethodName) method_2_code 4 (some .char) ({ frames := 4, cells := 0, slots := 0, locals := 53 } : Room) #[(.ref s), (.int i), (.int p), (.int d)] n0 h0 (QP (some (.int (ff ss d p iN))) h0) := by
  refine Pays.of hw (plainFor_of_name pn0) (fun m => ef_rmA m s i p d) fun B C => ?_
  refine iIloadN C d3_0 rfl ?_
  refine iIloadN C d3_1 rfl ?_
  by_cases hc1 : i = p
  · refine iCmpF C d3_2 (teq hc1).2 ?_
    refine iIloadN C d3_5 rfl ?_
    refine iRetZ C d3_6 (by simp) ⟨Nat.le_refl _, by decide, by decide⟩ ?_
    refine ⟨?_, rfl⟩
    rw [own_nar hd]
    unfold ff
    rw [← hiN, if_pos hc1]
  · refine iCmpT C (t := 7) d3_2 (feq hc1).2 ⟨by decide, by decide⟩ ?_
    refine iIloadN C d3_7 rfl ?_
    refine iAloadN C d3_8 rfl rfl ?_
    refine iCallVB C (payLen hw HS (S0.ext O.2) hz0 (by decide) (by decide)) HS.1 tw11 tw12 (Or.inl rfl) tw14 tw13 ⟨by decide, by decide⟩ (argsL := []) (S' := [(.int i)]) (lenOf pd0 rfl) rfl rfl d3_9 rfl (W := 1) rfl ⟨rfl, rfl, by decide, by decide⟩ fun v2 h2 q2 => ?_
    obtain ⟨rfl, rfl⟩ := q2
    show Go B n0 _ h0 0 0 12 #[(.val (.ref s)), (.val (.int i)), (.val (.int p)), (.val (.int d))] [(.int (Int32.ofNat ss.length)), (.int i)]
    by_cases hc3 : i < (Int32.ofNat ss.length)
    · refine iCmpF C d3_12 (tlt hc3).2.1 ?_
      refine iAloadN C d3_15 rfl rfl ?_
      refine iIloadN C d3_16 rfl ?_
      have hin : iN < ss.length := (own_lt hi HS.2.2.2.2.1).mp (by rw [← hiN]; exact hc3)
      refine iCallVB C (payCh hw HS (S0.ext O.2) hz0 (S1.ext O.2) rf hin hiN (by decide) (by decide)) HS.1 tw29 tw30 (Or.inl rfl) tw32 tw31 ⟨by decide, by decide⟩ (argsL := [(.int i)]) (S' := []) (lenOf pd1 rfl) rfl rfl d3_17 rfl (W := 0) rfl ⟨rfl, rfl, by decide, by decide⟩ fun v4 h4 q4 => ?_
      obtain ⟨rfl, rfl⟩ := q4
      show Go B n0 _ h0 0 0 20 #[(.val (.ref s)), (.val (.int i)), (.val (.int p)), (.val (.int d))] [(.int (ss.getD iN 0))]
      refine iRetZ C d3_20 (by simp) ⟨Nat.le_refl _, by decide, by decide⟩ ?_
      refine ⟨?_, rfl⟩
      have e0 : ss.getD iN 0 = ss.getD iN 120 := by simp [List.getD_eq_getElem?_getD, List.getElem?_eq_getElem hin]
      unfold ff
      rw [e0, own_nar (own_gd HS.2.2.2.2.2), ← hiN, if_neg hc1]
    · refine iCmpT C (t := 21) d3_12 (flt hc3).2.1 ⟨by decide, by decide⟩ ?_
      refine iBipush C d3_21 (v := (120 : Int32)) (by decide) ?_
      refine iRetZ C d3_23 (by simp) ⟨Nat.le_refl _, by decide, by decide⟩ ?_
      refine ⟨?_, rfl⟩
      have hout : ¬ iN < ss.length := fun q => hc3 (by rw [hiN]; exact (own_lt hi HS.2.2.2.2.1).mpr q)
      unfold ff
      rw [← hiN, if_neg hc1, List.getD_eq_getElem?_getD, List.getElem?_eq_none (Nat.le_of_not_lt hout)]
      rfl
def QV (Z : State) (cv : Cell) (h0 : Heap) (v : Option Value) (h : Heap) : Prop := ∃ a : Addr, v = some (.ref a) ∧ Ext h0 h ∧ Arr Z h a (cloneOf cv) (.object "com/example/hedgeline/hedgeline/Flow")
theorem ef_rmV (m : MethodId)  : entryFrame m #[] 0 = mkF m 0 #[] [] := by first | (simp [entryFrame, mkF, argsToLocals, Value.category]; done) | rfl
set_option maxRecDepth 65536 in
set_option maxHeartbeats 4000000 in
theorem rmV {l : Launch} {Z : State} {a0 : Array Value} (hw : ∀ d ∈ tables_1, d.before a0 Z = true) {n0 : Nat} {h0 : Heap}  {ga1 ga2 ga3 ga4 ga5 ga6 ga7 : Addr} {gc2 gc5 gc7 : Cell} (G : GG Z ga1 ga2 ga3 ga4 ga5 ga6 ga7 gc2 gc5 gc7) (O : Old Z n0 h0) (FV : FitC Z gc2) (hcap : gc2.slots.size ≤ 2) :
    Pays l Z (⟨"com/example/hedgeline/hedgeline/Flow", "values", "()[Lcom/example/hedgeline/hedgeline/Flow;"⟩ : MethodName) prog_26_method_1_code 0 (some (.array (.object "com/example/hedgeline/hedgeline/Flow"))) ({ frames := 1, cells := 1, slots := 2, locals := 14 } : Room) #[] n0 h0 (QV Z gc2 h0) := by
  refine Pays.of hw (plainFor_of_name pn1) (fun m => ef_rmV m ) fun B C => ?_
  refine iGetS C tw78 (G.2.2.1.ext O.2) d16_0 ?_
  refine iClone C tw80 tw81 tw85 tw83 tw84 tw86 (G.2.2.2.1.ext O.2) (G.2.2.2.2.1.ext O.2) FV (cap := 2) hcap d16_3 rfl (by decide) (W := 0) rfl (by decide) ⟨rfl, rfl, by decide, by decide⟩ fun h1 a1 g1 E1 A1 X1 => ?_
  have O1 := O.ext E1
  refine iCast C tw89 (Ins.self X1) d16_6 ?_
  refine iRetA C d16_9 rfl rfl rfl ⟨Nat.le_refl _, by decide, by decide⟩ ?_
  exact ⟨_, rfl, E1, A1⟩
theorem ef_rmEN (m : MethodId) (x0 : Addr) : entryFrame m #[(.ref x0), .null] 3 = mkF m 0 #[(.val (.ref x0)), (.val .null), .unset] [] := by first | (simp [entryFrame, mkF, argsToLocals, Value.category]; done) | rfl
set_option maxRecDepth 65536 in
set_option maxHeartbeats 4000000 in
theorem rmEN {l : Launch} {Z : State} {a0 : Array Value} (hw : ∀ d ∈ tables_1, d.before a0 Z = true) {n0 : Nat} {h0 : Heap} {s : Addr}  :
    Pays l Z (⟨"java/lang/String", "equals", "(Ljava/lang/Object;)Z"⟩ : MethodName) jdk_42_method_66_code 3 (some .boolean) ({ frames := 0, cells := 0, slots := 0, locals := 0 } : Room) #[(.ref s), .null] n0 h0 (QP (some (.int 0)) h0) := by
  refine Pays.of hw (plainFor_of_name pn2) (fun m => ef_rmEN m s) fun B C => ?_
  refine iAloadN C d17_0 rfl rfl ?_
  refine iAloadN C d17_1 rfl rfl ?_
  refine iAcmpT C (t := 7) d17_2 rfl rfl (acN (x := (.ref s)) (z := .null) nofun).2 ⟨by decide, by decide⟩ ?_
  refine iAloadN C d17_7 rfl rfl ?_
  refine iInst0 C d17_8 ?_
  refine iIfT C (t := 54) d17_11 (by decide) ⟨by decide, by decide⟩ ?_
  refine iIconst C d17_54 (v := (0 : Int32)) (by decide) ?_
  refine iRetZ C d17_55 (by simp) ⟨Nat.le_refl _, by decide, by decide⟩ ?_
  exact ⟨rfl, rfl⟩
def QN (r : Value) (h0 : Heap) (v : Option Value) (h : Heap) : Prop := v = some r ∧ Ext h0 h
theorem ef_rmN (m : MethodId) (x0 : Addr) : entryFrame m #[(.ref x0)] 5 = mkF m 0 #[(.val (.ref x0)), .unset, .unset, .unset, .unset] [] := by first | (simp [entryFrame, mkF, argsToLocals, Value.category]; done) | rfl
set_option maxRecDepth 65536 in
set_option maxHeartbeats 4000000 in
theorem rmN {l : Launch} {Z : State} {a0 : Array Value} (hw : ∀ d ∈ tables_1, d.before a0 Z = true) {n0 : Nat} {h0 : Heap} {s t : Addr} {k : ClassId} {ss : List Int32} {ga1 ga2 ga3 ga4 ga5 ga6 ga7 : Addr} {gc2 gc5 gc7 : Cell} (G : GG Z ga1 ga2 ga3 ga4 ga5 ga6 ga7 gc2 gc5 gc7) (O : Old Z n0 h0) (FV : FitC Z gc2) (hcap : gc2.slots.size ≤ 2) {z0 : Int32} (S0 : Sta Z Z.heap "java/lang/String" "COMPACT_STRINGS" "Z" (.int z0)) (hz0 : ¬ z0 = 0) (SI : SX Z Z.heap ga4 ga5 gc5.cls SINJ) (SW : SX Z Z.heap ga6 ga7 gc7.cls SWD) (HS : SX Z h0 s t k ss) :
    Pays l Z (⟨"com/example/hedgeline/hedgeline/Flow", "named", "(Ljava/lang/String;)Lcom/example/hedgeline/hedgeline/Flow;"⟩ : MethodName) prog_26_method_4_code 5 (some (.object "com/example/hedgeline/hedgeline/Flow")) ({ frames := 2, cells := 1, slots := 2, locals := 28 } : Room) #[(.ref s)] n0 h0 (QN (pk ga1 ga3 ss) h0) := by
  refine Pays.of hw (plainFor_of_name pn1) (fun m => ef_rmN m s) fun B C => ?_
  refine iCallS C (rmV hw G O FV hcap) tw75 tw76 tw9 tw77 ⟨by decide, by decide⟩ (argsL := []) (S' := []) (lenOf pd2 rfl) rfl rfl d15_0 rfl (W := 0) rfl ⟨by decide, by decide, rfl, rfl, by decide, by decide⟩ fun v1 h1 q1 => ?_
  obtain ⟨a1, rfl, E1, A1⟩ := q1
  have O1 := O.ext E1
  show Go B n0 _ h1 1 2 3 #[(.val (.ref s)), .unset, .unset, .unset, .unset] [(.ref a1)]
  refine iAstoreN C d15_3 (Ls' := #[(.val (.ref s)), (.val (.ref a1)), .unset, .unset, .unset]) rfl rfl ?_
  refine iAloadN C d15_4 rfl rfl ?_
  refine iLen C A1 G.2.2.2.2.2.2.2.2.2.2.2.2.2.2.2.1 d15_5 ?_
  refine iIstoreN C d15_6 (Ls' := #[(.val (.ref s)), (.val (.ref a1)), (.val (.int (2 : Int32))), .unset, .unset]) rfl ?_
  refine iIconst C d15_7 (v := (0 : Int32)) (by decide) ?_
  refine iIstoreN C d15_8 (Ls' := #[(.val (.ref s)), (.val (.ref a1)), (.val (.int (2 : Int32))), (.val (.int (0 : Int32))), .unset]) rfl ?_
  refine iIloadN C d15_9 rfl ?_
  refine iIloadN C d15_10 rfl ?_
  refine iCmpF C d15_11 (by decide) ?_
  refine iAloadN C d15_14 rfl rfl ?_
  refine iIloadN C d15_15 rfl ?_
  refine iAaload C (v := (.ref ga1)) rfl A1 G.2.2.2.2.2.2.2.2.2.2.2.2.2.2.2.2.1.1 G.2.2.2.2.2.2.2.2.2.2.2.2.2.2.2.2.1.2 d15_16 ?_
  refine iAstore C d15_17 (Ls' := #[(.val (.ref s)), (.val (.ref a1)), (.val (.int (2 : Int32))), (.val (.int (0 : Int32))), (.val (.ref ga1))]) rfl rfl ?_
  refine iAload C d15_19 rfl rfl ?_
  refine iGetF C tw91 (G.2.2.2.2.2.2.2.1.ext O1.2) d15_21 ?_
  refine iAloadN C d15_24 rfl rfl ?_
  refine iCallVB C (payEq hw (SI.ext O1.2) (HS.ext E1) (S0.ext O1.2) hz0 (by decide) (by decide)) (G.2.2.2.2.2.2.2.2.1.ext O1.2) tw93 tw94 (Or.inl rfl) tw96 tw95 ⟨by decide, by decide⟩ (argsL := [(.ref s)]) (S' := []) (lenOf pd3 rfl) rfl rfl d15_25 rfl (W := 0) rfl ⟨rfl, rfl, by decide, by decide⟩ fun v2 h2 q2 => ?_
  obtain ⟨hq2, rfl⟩ := q2
  rcases hq2 with ⟨rfl, e2⟩ | ⟨rfl, e2⟩
  · refine iIfF C d15_28 (by decide) ?_
    refine iAload C d15_31 rfl rfl ?_
    refine iRetA C d15_33 rfl rfl rfl ⟨Nat.le_refl _, by decide, by decide⟩ ?_
    exact ⟨by simp [pk, e2], E1⟩
  · refine iIfT C (t := 34) d15_28 (by decide) ⟨by decide, by decide⟩ ?_
    refine iIinc C d15_34 rfl (v := (1 : Int32)) (by decide) (Ls' := #[(.val (.ref s)), (.val (.ref a1)), (.val (.int (2 : Int32))), (.val (.int (1 : Int32))), (.val (.ref ga1))]) rfl ?_
    refine iGoto C (t := 9) d15_37 ⟨by decide, by decide⟩ ?_
    refine iIloadN C d15_9 rfl ?_
    refine iIloadN C d15_10 rfl ?_
    refine iCmpF C d15_11 (by decide) ?_
    refine iAloadN C d15_14 rfl rfl ?_
    refine iIloadN C d15_15 rfl ?_
    refine iAaload C (v := (.ref ga3)) rfl A1 G.2.2.2.2.2.2.2.2.2.2.2.2.2.2.2.2.2.1.1 G.2.2.2.2.2.2.2.2.2.2.2.2.2.2.2.2.2.1.2 d15_16 ?_
    refine iAstore C d15_17 (Ls' := #[(.val (.ref s)), (.val (.ref a1)), (.val (.int (2 : Int32))), (.val (.int (1 : Int32))), (.val (.ref ga3))]) rfl rfl ?_
    refine iAload C d15_19 rfl rfl ?_
    refine iGetF C tw91 (G.2.2.2.2.2.2.2.2.2.2.2.1.ext O1.2) d15_21 ?_
    refine iAloadN C d15_24 rfl rfl ?_
    refine iCallVB C (payEq hw (SW.ext O1.2) (HS.ext E1) (S0.ext O1.2) hz0 (by decide) (by decide)) (G.2.2.2.2.2.2.2.2.2.2.2.2.1.ext O1.2) tw93 tw94 (Or.inl rfl) tw96 tw95 ⟨by decide, by decide⟩ (argsL := [(.ref s)]) (S' := []) (lenOf pd3 rfl) rfl rfl d15_25 rfl (W := 0) rfl ⟨rfl, rfl, by decide, by decide⟩ fun v3 h3 q3 => ?_
    obtain ⟨hq3, rfl⟩ := q3
    rcases hq3 with ⟨rfl, e3⟩ | ⟨rfl, e3⟩
    · refine iIfF C d15_28 (by decide) ?_
      refine iAload C d15_31 rfl rfl ?_
      refine iRetA C d15_33 rfl rfl rfl ⟨Nat.le_refl _, by decide, by decide⟩ ?_
      exact ⟨by simp [pk, e2, e3], E1⟩
    · refine iIfT C (t := 34) d15_28 (by decide) ⟨by decide, by decide⟩ ?_
      refine iIinc C d15_34 rfl (v := (2 : Int32)) (by decide) (Ls' := #[(.val (.ref s)), (.val (.ref a1)), (.val (.int (2 : Int32))), (.val (.int (2 : Int32))), (.val (.ref ga3))]) rfl ?_
      refine iGoto C (t := 9) d15_37 ⟨by decide, by decide⟩ ?_
      refine iIloadN C d15_9 rfl ?_
      refine iIloadN C d15_10 rfl ?_
      refine iCmpT C (t := 40) d15_11 (by decide) ⟨by decide, by decide⟩ ?_
      refine iNull C d15_40 ?_
      refine iRetA C d15_41 rfl rfl rfl ⟨Nat.le_refl _, by decide, by decide⟩ ?_
      exact ⟨by simp [pk, e2, e3], E1⟩
theorem ef_rmNN (m : MethodId)  : entryFrame m #[.null] 5 = mkF m 0 #[(.val .null), .unset, .unset, .unset, .unset] [] := by first | (simp [entryFrame, mkF, argsToLocals, Value.category]; done) | rfl
set_option maxRecDepth 65536 in
set_option maxHeartbeats 4000000 in
theorem rmNN {l : Launch} {Z : State} {a0 : Array Value} (hw : ∀ d ∈ tables_1, d.before a0 Z = true) {n0 : Nat} {h0 : Heap}  {ga1 ga2 ga3 ga4 ga5 ga6 ga7 : Addr} {gc2 gc5 gc7 : Cell} (G : GG Z ga1 ga2 ga3 ga4 ga5 ga6 ga7 gc2 gc5 gc7) (O : Old Z n0 h0) (FV : FitC Z gc2) (hcap : gc2.slots.size ≤ 2) :
    Pays l Z (⟨"com/example/hedgeline/hedgeline/Flow", "named", "(Ljava/lang/String;)Lcom/example/hedgeline/hedgeline/Flow;"⟩ : MethodName) prog_26_method_4_code 5 (some (.object "com/example/hedgeline/hedgeline/Flow")) ({ frames := 2, cells := 1, slots := 2, locals := 25 } : Room) #[.null] n0 h0 (QN .null h0) := by
  refine Pays.of hw (plainFor_of_name pn1) (fun m => ef_rmNN m ) fun B C => ?_
  refine iCallS C (rmV hw G O FV hcap) tw75 tw76 tw9 tw77 ⟨by decide, by decide⟩ (argsL := []) (S' := []) (lenOf pd2 rfl) rfl rfl d15_0 rfl (W := 0) rfl ⟨by decide, by decide, rfl, rfl, by decide, by decide⟩ fun v1 h1 q1 => ?_
  obtain ⟨a1, rfl, E1, A1⟩ := q1
  have O1 := O.ext E1
  show Go B n0 _ h1 1 2 3 #[(.val .null), .unset, .unset, .unset, .unset] [(.ref a1)]
  refine iAstoreN C d15_3 (Ls' := #[(.val .null), (.val (.ref a1)), .unset, .unset, .unset]) rfl rfl ?_
  refine iAloadN C d15_4 rfl rfl ?_
  refine iLen C A1 G.2.2.2.2.2.2.2.2.2.2.2.2.2.2.2.1 d15_5 ?_
  refine iIstoreN C d15_6 (Ls' := #[(.val .null), (.val (.ref a1)), (.val (.int (2 : Int32))), .unset, .unset]) rfl ?_
  refine iIconst C d15_7 (v := (0 : Int32)) (by decide) ?_
  refine iIstoreN C d15_8 (Ls' := #[(.val .null), (.val (.ref a1)), (.val (.int (2 : Int32))), (.val (.int (0 : Int32))), .unset]) rfl ?_
  refine iIloadN C d15_9 rfl ?_
  refine iIloadN C d15_10 rfl ?_
  refine iCmpF C d15_11 (by decide) ?_
  refine iAloadN C d15_14 rfl rfl ?_
  refine iIloadN C d15_15 rfl ?_
  refine iAaload C (v := (.ref ga1)) rfl A1 G.2.2.2.2.2.2.2.2.2.2.2.2.2.2.2.2.1.1 G.2.2.2.2.2.2.2.2.2.2.2.2.2.2.2.2.1.2 d15_16 ?_
  refine iAstore C d15_17 (Ls' := #[(.val .null), (.val (.ref a1)), (.val (.int (2 : Int32))), (.val (.int (0 : Int32))), (.val (.ref ga1))]) rfl rfl ?_
  refine iAload C d15_19 rfl rfl ?_
  refine iGetF C tw91 (G.2.2.2.2.2.2.2.1.ext O1.2) d15_21 ?_
  refine iAloadN C d15_24 rfl rfl ?_
  refine iCallV C (rmEN hw) (G.2.2.2.2.2.2.2.2.1.ext O1.2) tw93 tw94 (Or.inl rfl) tw96 tw95 tw1 tw97 ⟨by decide, by decide⟩ (argsL := [.null]) (S' := []) (lenOf pd3 rfl) rfl rfl d15_25 rfl (W := 0) rfl ⟨by decide, by decide, rfl, rfl, by decide, by decide⟩ fun v2 h2 q2 => ?_
  obtain ⟨rfl, rfl⟩ := q2
  show Go B n0 _ h1 1 2 28 #[(.val .null), (.val (.ref a1)), (.val (.int (2 : Int32))), (.val (.int (0 : Int32))), (.val (.ref ga1))] [(.int (0 : Int32))]
  refine iIfT C (t := 34) d15_28 (by decide) ⟨by decide, by decide⟩ ?_
  refine iIinc C d15_34 rfl (v := (1 : Int32)) (by decide) (Ls' := #[(.val .null), (.val (.ref a1)), (.val (.int (2 : Int32))), (.val (.int (1 : Int32))), (.val (.ref ga1))]) rfl ?_
  refine iGoto C (t := 9) d15_37 ⟨by decide, by decide⟩ ?_
  refine iIloadN C d15_9 rfl ?_
  refine iIloadN C d15_10 rfl ?_
  refine iCmpF C d15_11 (by decide) ?_
  refine iAloadN C d15_14 rfl rfl ?_
  refine iIloadN C d15_15 rfl ?_
  refine iAaload C (v := (.ref ga3)) rfl A1 G.2.2.2.2.2.2.2.2.2.2.2.2.2.2.2.2.2.1.1 G.2.2.2.2.2.2.2.2.2.2.2.2.2.2.2.2.2.1.2 d15_16 ?_
  refine iAstore C d15_17 (Ls' := #[(.val .null), (.val (.ref a1)), (.val (.int (2 : Int32))), (.val (.int (1 : Int32))), (.val (.ref ga3))]) rfl rfl ?_
  refine iAload C d15_19 rfl rfl ?_
  refine iGetF C tw91 (G.2.2.2.2.2.2.2.2.2.2.2.1.ext O1.2) d15_21 ?_
  refine iAloadN C d15_24 rfl rfl ?_
  refine iCallV C (rmEN hw) (G.2.2.2.2.2.2.2.2.2.2.2.2.1.ext O1.2) tw93 tw94 (Or.inl rfl) tw96 tw95 tw1 tw97 ⟨by decide, by decide⟩ (argsL := [.null]) (S' := []) (lenOf pd3 rfl) rfl rfl d15_25 rfl (W := 0) rfl ⟨by decide, by decide, rfl, rfl, by decide, by decide⟩ fun v3 h3 q3 => ?_
  obtain ⟨rfl, rfl⟩ := q3
  show Go B n0 _ h1 1 2 28 #[(.val .null), (.val (.ref a1)), (.val (.int (2 : Int32))), (.val (.int (1 : Int32))), (.val (.ref ga3))] [(.int (0 : Int32))]
  refine iIfT C (t := 34) d15_28 (by decide) ⟨by decide, by decide⟩ ?_
  refine iIinc C d15_34 rfl (v := (2 : Int32)) (by decide) (Ls' := #[(.val .null), (.val (.ref a1)), (.val (.int (2 : Int32))), (.val (.int (2 : Int32))), (.val (.ref ga3))]) rfl ?_
  refine iGoto C (t := 9) d15_37 ⟨by decide, by decide⟩ ?_
  refine iIloadN C d15_9 rfl ?_
  refine iIloadN C d15_10 rfl ?_
  refine iCmpT C (t := 40) d15_11 (by decide) ⟨by decide, by decide⟩ ?_
  refine iNull C d15_40 ?_
  refine iRetA C d15_41 rfl rfl rfl ⟨Nat.le_refl _, by decide, by decide⟩ ?_
  exact ⟨rfl, E1⟩
theorem ef_rmE4i (m : MethodId) (x0 : Addr) (x1 : Addr) : entryFrame m #[(.ref x0), (.ref x1), (.int (0 : Int32)), (.int (0 : Int32)), .null] 6 = mkF m 0 #[(.val (.ref x0)), (.val (.ref x1)), (.val (.int (0 : Int32))), (.val (.int (0 : Int32))), (.val .null), .unset] [] := by first | (simp [entryFrame, mkF, argsToLocals, Value.category]; done) | rfl
set_option maxRecDepth 65536 in
set_option maxHeartbeats 4000000 in
theorem rmE4i {l : Launch} {Z : State} {a0 : Array Value} (hw : ∀ d ∈ tables_1, d.before a0 Z = true) {n0 : Nat} {h0 : Heap} (x b : Addr) (O : Old Z n0 h0) (nx : n0 ≤ x) (EX : Exa Z h0 x "java/lang/String") (F1 : Fld Z h0 x "java/lang/String" "value" "[B" .null) (F2 : Fld Z h0 x "java/lang/String" "coder" "B" (.int (0 : Int32))) (hcw : Jvm.Lit.compactW.before a0 Z = true) (hhE : Jvm.Lit.constHeld Z "java/lang/String" 7) :
    PaysW l Z ["injection"] ["injection", "withdrawal", ""] (⟨"java/lang/String", "<init>", "([CIILjava/lang/Void;)V"⟩ : MethodName) jdk_42_method_149_code 6 none ({ frames := 1, cells := 2, slots := 4, locals := 12 } : Room) #[(.ref x), (.ref b), (.int (0 : Int32)), (.int (0 : Int32)), .null] n0 h0 (QStr Z x SEMP h0 n0) := by
  refine PaysW.of hw (plainFor_of_name pn2) (by simp) (fun b cl q => O.2.2 b cl q) (fun m => ef_rmE4i m x b) fun B C D H => ?_
  refine iAloadN C d10_0 rfl rfl ?_
  refine iInitO C tw59 tw60 tw61 d10_1 rfl (by decide) (W := 0) rfl (by decide) ?_
  refine iIloadN C d10_4 rfl ?_
  refine iIfF C d10_5 (by decide) ?_
  refine iAloadN C d10_8 rfl rfl ?_
  refine iLdcS C D H (z := Int32.ofNat SEMP.length) (vs := (SEMP.map lo8).map Value.int) (nn := 0) tw105 own_wS hhE hcw (by simp) (by simp) ⟨by decide, by decide⟩ (by decide) (by decide) d10_9 (by decide) (by decide) ⟨rfl, rfl, by decide, by decide⟩ fun B h1 a1 t1 k1 C D H Bk1 E1 A1 Fc1 Fv1 V1 => ?_
  have O1 := O.ext E1
  refine Go.low (n1 := n0) (oSize O) ?_
  refine iGetF C tw16 Fv1 d10_11 ?_
  refine iPutF C (v := (.ref t1)) tw16 (F1.ext E1) (EX.ext E1) (Or.inr ⟨tw4, rfl, rfl⟩) tw2 (ty := (.array .byte)) (by decide) rfl rfl nx d10_14 fun h2 W2 => ?_
  have Fw2 := Fld.same W2 (F1.ext E1)
  have O2 := O1.wr W2 nx
  refine iAloadN C d10_17 rfl rfl ?_
  refine iLdcAgain C tw105 Bk1 d10_18 ?_
  refine iGetF C tw23 (Fld.other W2 Fc1 (Or.inr (slot_ne (Or.inr (hw _ tw5)) (Or.inr (hw _ tw4)) (by decide) (t := .byte) (t' := (.array .byte)) (by decide) (by decide)))) d10_20 ?_
  refine iPutF C (v := (.int (0 : Int32))) tw23 (Fld.other W2 (F2.ext E1) (Or.inr (slot_ne (Or.inr (hw _ tw5)) (Or.inr (hw _ tw4)) (by decide) (t := .byte) (t' := (.array .byte)) (by decide) (by decide)))) ((EX.ext E1).wr W2) (Or.inr ⟨tw5, rfl, rfl⟩) tw2 (ty := .byte) (by decide) rfl rfl nx d10_23 fun h3 W3 => ?_
  have Fw3 := Fld.same W3 (Fld.other W2 (F2.ext E1) (Or.inr (slot_ne (Or.inr (hw _ tw5)) (Or.inr (hw _ tw4)) (by decide) (t := .byte) (t' := (.array .byte)) (by decide) (by decide))))
  have O3 := O2.wr W3 nx
  refine iRetV C d10_26 ⟨Nat.le_refl _, by decide, by decide⟩ ?_
  exact ⟨rfl, (((Keep.refl _ _).ext E1).wr W2 (Or.inl (List.mem_singleton.mpr rfl))).wr W3 (Or.inl (List.mem_singleton.mpr rfl)), t1, k1, (((EX.ext E1).wr W2).wr W3), Fw3, (Fld.other W3 Fw2 (Or.inr (slot_ne (Or.inr (hw _ tw4)) (Or.inr (hw _ tw5)) (by decide) (t := (.array .byte)) (t' := .byte) (by decide) (by decide)))), ((V1.other W2 (Ne.symm (Exa.neArv (EX.ext E1) V1 (hw _ tw2)))).other W3 (Ne.symm (Exa.neArv (EX.ext E1) V1 (hw _ tw2)))), by decide, by decide⟩
theorem ef_rmE4w (m : MethodId) (x0 : Addr) (x1 : Addr) : entryFrame m #[(.ref x0), (.ref x1), (.int (0 : Int32)), (.int (0 : Int32)), .null] 6 = mkF m 0 #[(.val (.ref x0)), (.val (.ref x1)), (.val (.int (0 : Int32))), (.val (.int (0 : Int32))), (.val .null), .unset] [] := by first | (simp [entryFrame, mkF, argsToLocals, Value.category]; done) | rfl
set_option maxRecDepth 65536 in
set_option maxHeartbeats 4000000 in
theorem rmE4w {l : Launch} {Z : State} {a0 : Array Value} (hw : ∀ d ∈ tables_1, d.before a0 Z = true) {n0 : Nat} {h0 : Heap} (x b : Addr) (O : Old Z n0 h0) (nx : n0 ≤ x) (EX : Exa Z h0 x "java/lang/String") (F1 : Fld Z h0 x "java/lang/String" "value" "[B" .null) (F2 : Fld Z h0 x "java/lang/String" "coder" "B" (.int (0 : Int32))) (hcw : Jvm.Lit.compactW.before a0 Z = true) (hhE : Jvm.Lit.constHeld Z "java/lang/String" 7) :
    PaysW l Z ["withdrawal"] ["injection", "withdrawal", ""] (⟨"java/lang/String", "<init>", "([CIILjava/lang/Void;)V"⟩ : MethodName) jdk_42_method_149_code 6 none ({ frames := 1, cells := 2, slots := 4, locals := 12 } : Room) #[(.ref x), (.ref b), (.int (0 : Int32)), (.int (0 : Int32)), .null] n0 h0 (QStr Z x SEMP h0 n0) := by
  refine PaysW.of hw (plainFor_of_name pn2) (by simp) (fun b cl q => O.2.2 b cl q) (fun m => ef_rmE4w m x b) fun B C D H => ?_
  refine iAloadN C d10_0 rfl rfl ?_
  refine iInitO C tw59 tw60 tw61 d10_1 rfl (by decide) (W := 0) rfl (by decide) ?_
  refine iIloadN C d10_4 rfl ?_
  refine iIfF C d10_5 (by decide) ?_
  refine iAloadN C d10_8 rfl rfl ?_
  refine iLdcS C D H (z := Int32.ofNat SEMP.length) (vs := (SEMP.map lo8).map Value.int) (nn := 0) tw105 own_wS hhE hcw (by simp) (by simp) ⟨by decide, by decide⟩ (by decide) (by decide) d10_9 (by decide) (by decide) ⟨rfl, rfl, by decide, by decide⟩ fun B h1 a1 t1 k1 C D H Bk1 E1 A1 Fc1 Fv1 V1 => ?_
  have O1 := O.ext E1
  refine Go.low (n1 := n0) (oSize O) ?_
  refine iGetF C tw16 Fv1 d10_11 ?_
  refine iPutF C (v := (.ref t1)) tw16 (F1.ext E1) (EX.ext E1) (Or.inr ⟨tw4, rfl, rfl⟩) tw2 (ty := (.array .byte)) (by decide) rfl rfl nx d10_14 fun h2 W2 => ?_
  have Fw2 := Fld.same W2 (F1.ext E1)
  have O2 := O1.wr W2 nx
  refine iAloadN C d10_17 rfl rfl ?_
  refine iLdcAgain C tw105 Bk1 d10_18 ?_
  refine iGetF C tw23 (Fld.other W2 Fc1 (Or.inr (slot_ne (Or.inr (hw _ tw5)) (Or.inr (hw _ tw4)) (by decide) (t := .byte) (t' := (.array .byte)) (by decide) (by decide)))) d10_20 ?_
  refine iPutF C (v := (.int (0 : Int32))) tw23 (Fld.other W2 (F2.ext E1) (Or.inr (slot_ne (Or.inr (hw _ tw5)) (Or.inr (hw _ tw4)) (by decide) (t := .byte) (t' := (.array .byte)) (by decide) (by decide)))) ((EX.ext E1).wr W2) (Or.inr ⟨tw5, rfl, rfl⟩) tw2 (ty := .byte) (by decide) rfl rfl nx d10_23 fun h3 W3 => ?_
  have Fw3 := Fld.same W3 (Fld.other W2 (F2.ext E1) (Or.inr (slot_ne (Or.inr (hw _ tw5)) (Or.inr (hw _ tw4)) (by decide) (t := .byte) (t' := (.array .byte)) (by decide) (by decide))))
  have O3 := O2.wr W3 nx
  refine iRetV C d10_26 ⟨Nat.le_refl _, by decide, by decide⟩ ?_
  exact ⟨rfl, (((Keep.refl _ _).ext E1).wr W2 (Or.inl (List.mem_singleton.mpr rfl))).wr W3 (Or.inl (List.mem_singleton.mpr rfl)), t1, k1, (((EX.ext E1).wr W2).wr W3), Fw3, (Fld.other W3 Fw2 (Or.inr (slot_ne (Or.inr (hw _ tw4)) (Or.inr (hw _ tw5)) (by decide) (t := (.array .byte)) (t' := .byte) (by decide) (by decide)))), ((V1.other W2 (Ne.symm (Exa.neArv (EX.ext E1) V1 (hw _ tw2)))).other W3 (Ne.symm (Exa.neArv (EX.ext E1) V1 (hw _ tw2)))), by decide, by decide⟩
theorem ef_rmE1i (m : MethodId) (x0 : Addr) (x1 : Addr) : entryFrame m #[(.ref x0), (.ref x1)] 2 = mkF m 0 #[(.val (.ref x0)), (.val (.ref x1))] [] := by first | (simp [entryFrame, mkF, argsToLocals, Value.category]; done) | rfl
set_option maxRecDepth 65536 in
set_option maxHeartbeats 4000000 in
theorem rmE1i {l : Launch} {Z : State} {a0 : Array Value} (hw : ∀ d ∈ tables_1, d.before a0 Z = true) {n0 : Nat} {h0 : Heap} (x b : Addr) {kC : ClassId} (O : Old Z n0 h0) (nx : n0 ≤ x) (EX : Exa Z h0 x "java/lang/String") (F1 : Fld Z h0 x "java/lang/String" "value" "[B" .null) (F2 : Fld Z h0 x "java/lang/String" "coder" "B" (.int (0 : Int32))) (hcw : Jvm.Lit.compactW.before a0 Z = true) (hhE : Jvm.Lit.constHeld Z "java/lang/String" 7) (KB : Arv Z h0 b kC .char (0 : Int32) [] (.int 0)) :
    PaysW l Z ["injection"] ["injection", "withdrawal", ""] (⟨"java/lang/String", "<init>", "([C)V"⟩ : MethodName) jdk_42_method_3_code 2 none ({ frames := 2, cells := 2, slots := 4, locals := 29 } : Room) #[(.ref x), (.ref b)] n0 h0 (QStr Z x SEMP h0 n0) := by
  refine PaysW.of hw (plainFor_of_name pn2) (by simp) (fun b cl q => O.2.2 b cl q) (fun m => ef_rmE1i m x b) fun B C D H => ?_
  refine Go.low (n1 := n0) (oSize O) ?_
  refine iAloadN C d9_0 rfl rfl ?_
  refine iAloadN C d9_1 rfl rfl ?_
  refine iIconst C d9_2 (v := (0 : Int32)) (by decide) ?_
  refine iAloadN C d9_3 rfl rfl ?_
  obtain ⟨c1, A1, q1, z1, y1, H1, G1⟩ := id KB
  refine iLen C A1 (len_of z1 y1) d9_4 ?_
  refine iNull C d9_5 ?_
  refine iCallIW (cr := none) C D (rmE4i hw x b O nx EX F1 F2 hcw hhE) (by simp) rfl tw55 tw56 tw1 tw58 ⟨by decide, by decide⟩ (a := x) (argsL := [(.ref b), (.int (0 : Int32)), (.int (0 : Int32)), .null]) (S' := []) (lenOf pd4 rfl) rfl rfl d9_6 rfl (W := 0) rfl ⟨by decide, by decide, rfl, rfl, by decide, by decide⟩ fun B v2 h2 C D Hf q2 => ?_
  obtain ⟨rfl, K2, t2, k2, sx2⟩ := q2
  show Go B n0 _ h2 2 4 9 #[(.val (.ref x)), (.val (.ref b))] []
  refine iRetV C d9_9 ⟨Nat.le_refl _, by decide, by decide⟩ ?_
  exact ⟨rfl, K2, t2, k2, sx2⟩
theorem ef_rmE1w (m : MethodId) (x0 : Addr) (x1 : Addr) : entryFrame m #[(.ref x0), (.ref x1)] 2 = mkF m 0 #[(.val (.ref x0)), (.val (.ref x1))] [] := by first | (simp [entryFrame, mkF, argsToLocals, Value.category]; done) | rfl
set_option maxRecDepth 65536 in
set_option maxHeartbeats 4000000 in
theorem rmE1w {l : Launch} {Z : State} {a0 : Array Value} (hw : ∀ d ∈ tables_1, d.before a0 Z = true) {n0 : Nat} {h0 : Heap} (x b : Addr) {kC : ClassId} (O : Old Z n0 h0) (nx : n0 ≤ x) (EX : Exa Z h0 x "java/lang/String") (F1 : Fld Z h0 x "java/lang/String" "value" "[B" .null) (F2 : Fld Z h0 x "java/lang/String" "coder" "B" (.int (0 : Int32))) (hcw : Jvm.Lit.compactW.before a0 Z = true) (hhE : Jvm.Lit.constHeld Z "java/lang/String" 7) (KB : Arv Z h0 b kC .char (0 : Int32) [] (.int 0)) :
    PaysW l Z ["withdrawal"] ["injection", "withdrawal", ""] (⟨"java/lang/String", "<init>", "([C)V"⟩ : MethodName) jdk_42_method_3_code 2 none ({ frames := 2, cells := 2, slots := 4, locals := 29 } : Room) #[(.ref x), (.ref b)] n0 h0 (QStr Z x SEMP h0 n0) := by
  refine PaysW.of hw (plainFor_of_name pn2) (by simp) (fun b cl q => O.2.2 b cl q) (fun m => ef_rmE1w m x b) fun B C D H => ?_
  refine Go.low (n1 := n0) (oSize O) ?_
  refine iAloadN C d9_0 rfl rfl ?_
  refine iAloadN C d9_1 rfl rfl ?_
  refine iIconst C d9_2 (v := (0 : Int32)) (by decide) ?_
  refine iAloadN C d9_3 rfl rfl ?_
  obtain ⟨c1, A1, q1, z1, y1, H1, G1⟩ := id KB
  refine iLen C A1 (len_of z1 y1) d9_4 ?_
  refine iNull C d9_5 ?_
  refine iCallIW (cr := none) C D (rmE4w hw x b O nx EX F1 F2 hcw hhE) (by simp) rfl tw55 tw56 tw1 tw58 ⟨by decide, by decide⟩ (a := x) (argsL := [(.ref b), (.int (0 : Int32)), (.int (0 : Int32)), .null]) (S' := []) (lenOf pd4 rfl) rfl rfl d9_6 rfl (W := 0) rfl ⟨by decide, by decide, rfl, rfl, by decide, by decide⟩ fun B v2 h2 C D Hf q2 => ?_
  obtain ⟨rfl, K2, t2, k2, sx2⟩ := q2
  show Go B n0 _ h2 2 4 9 #[(.val (.ref x)), (.val (.ref b))] []
  refine iRetV C d9_9 ⟨Nat.le_refl _, by decide, by decide⟩ ?_
  exact ⟨rfl, K2, t2, k2, sx2⟩
set_option maxRecDepth 65536 in
set_option maxHeartbeats 4000000 in
theorem tl1 {l : Launch} {Z : State} {a0 : Array Value} (hw : ∀ d ∈ tables_1, d.before a0 Z = true) {n0 : Nat} {h0 : Heap} {ga1 ga2 ga3 ga4 ga5 ga6 ga7 : Addr} {gc2 gc5 gc7 : Cell} (G : GG Z ga1 ga2 ga3 ga4 ga5 ga6 ga7 gc2 gc5 gc7) (O : Old Z n0 h0) (FV : FitC Z gc2) (hcap : gc2.slots.size ≤ 2) {z0 : Int32} (S0 : Sta Z Z.heap "java/lang/String" "COMPACT_STRINGS" "Z" (.int z0)) (hz0 : ¬ z0 = 0) (SI : SX Z Z.heap ga4 ga5 gc5.cls SINJ) (SW : SX Z Z.heap ga6 ga7 gc7.cls SWD) {fm : Value} (S1 : Sta Z Z.heap "jdk/internal/util/Preconditions" "SIOOBE_FORMATTER" "Ljava/util/function/BiFunction;" fm) (rf : fm.isRef = true) (hcw : Jvm.Lit.compactW.before a0 Z = true) (hhE : Jvm.Lit.constHeld Z "java/lang/String" 7) {i0 i1 i2 i3 bb op L d p : Int32} {s base t : Addr} {k : ClassId} {ss : List Int32} {ev : Value} (HS : SX Z h0 s t k ss) (hd : ¬ d < 0 ∧ ¬ (255 : Int32) < d) (hev : ev = .null ∨ ∃ a, ev = .ref a) (hE : pk ga1 ga3 [ff ss d p 0] = ev) {B : Bx} (C : Cx B l Z a0 room_1 x code maxLocals ret n0) :
    Go B n0 (fun v _ => v = some (.int 1)) h0 2 44 175 #[(.val (.int i0)), (.val (.int i1)), (.val (.int i2)), (.val (.int i3)), (.val (.int bb)), (.val (.int op)), (.val (.ref s)), (.val (.ref base)), (.val (.int L)), (.val (.int d)), (.val (.int (1 : Int32))), (.val (.int p)), (.val ev), .unset, .unset] [] := by
  have hrf : ev.isRef = true := by rcases hev with rfl | ⟨a, rfl⟩ <;> rfl
  have hnf : ∀ i, nar .char (ff ss d p i) = ff ss d p i := fun i => own_nar (own_ff hd HS.2.2.2.2.2 i)
  refine iIload C d0_175 rfl ?_
  refine iNewP C (aty := .char) tw24 d0_177 (by decide) (cap := 1) (by decide) (by decide) ⟨rfl, rfl, by decide, by decide⟩ fun h1 a1 k1 g1 E1 V1 => ?_
  have n_a1 : n0 ≤ a1 := oFresh O g1
  have O1 := O.ext E1
  have V1 : Arv Z h1 a1 k1 .char (1 : Int32) [(.int 0)] (.int 0) := V1.pad (pad_rep [] (.int 0) 1)
  refine iAstore C d0_179 (Ls' := #[(.val (.int i0)), (.val (.int i1)), (.val (.int i2)), (.val (.int i3)), (.val (.int bb)), (.val (.int op)), (.val (.ref s)), (.val (.ref base)), (.val (.int L)), (.val (.int d)), (.val (.int (1 : Int32))), (.val (.int p)), (.val ev), (.val (.ref a1)), .unset]) rfl rfl ?_
  refine iIload C d0_181 rfl ?_
  refine iIfF C d0_183 (by decide) ?_
  refine iAload C d0_186 rfl rfl ?_
  refine iIconst C d0_188 (v := (0 : Int32)) (by decide) ?_
  refine iAload C d0_189 rfl rfl ?_
  refine iIconst C d0_191 (v := (0 : Int32)) (by decide) ?_
  refine iIload C d0_192 rfl ?_
  refine iIload C d0_194 rfl ?_
  refine iCallS C (rmA hw O1 S0 hz0 S1 rf ⟨(HS.1.ext E1), (HS.2.1.ext E1), (HS.2.2.1.ext E1), (HS.2.2.2.1.ext E1), HS.2.2.2.2.1, HS.2.2.2.2.2⟩ (i := (0 : Int32)) (iN := 0) (p := p) (d := d) rfl (by decide) hd) tw25 tw26 tw27 tw28 ⟨by decide, by decide⟩ (argsL := [(.ref s), (.int (0 : Int32)), (.int p), (.int d)]) (S' := [(.int (0 : Int32)), (.ref a1)]) (lenOf pd5 rfl) rfl rfl d0_196 rfl (W := 2) rfl ⟨by decide, by decide, rfl, rfl, by decide, by decide⟩ fun v2 h2 q2 => ?_
  obtain ⟨rfl, rfl⟩ := q2
  show Go B n0 _ h1 3 45 199 #[(.val (.int i0)), (.val (.int i1)), (.val (.int i2)), (.val (.int i3)), (.val (.int bb)), (.val (.int op)), (.val (.ref s)), (.val (.ref base)), (.val (.int L)), (.val (.int d)), (.val (.int (1 : Int32))), (.val (.int p)), (.val ev), (.val (.ref a1)), .unset] [(.int (ff ss d p 0)), (.int (0 : Int32)), (.ref a1)]
  obtain ⟨c3, A3, q3, z3, y3, H3, G3⟩ := id V1
  refine iCastore C A3 (inb_of z3 ⟨by decide, by decide⟩) n_a1 d0_199 fun h3 W3 => ?_
  have V3 : Arv Z h3 a1 k1 .char (1 : Int32) [(.int (nar .char (ff ss d p 0)))] (.int 0) := Arv.set A3 q3 z3 y3 H3 G3 (fits_nar_char _) W3 0 (by decide) (Nat.le_of_ble_eq_true rfl)
  have O3 := O1.wr W3 n_a1
  refine iIload C d0_200 rfl ?_
  refine iIconst C d0_202 (v := (1 : Int32)) (by decide) ?_
  refine iCmpT C (t := 220) d0_203 (by decide) ⟨by decide, by decide⟩ ?_
  refine iIload C d0_220 rfl ?_
  refine iIconst C d0_222 (v := (2 : Int32)) (by decide) ?_
  refine iCmpT C (t := 240) d0_223 (by decide) ⟨by decide, by decide⟩ ?_
  refine iIload C d0_240 rfl ?_
  refine iIconst C d0_242 (v := (3 : Int32)) (by decide) ?_
  refine iCmpT C (t := 260) d0_243 (by decide) ⟨by decide, by decide⟩ ?_
  refine iIload C d0_260 rfl ?_
  refine iIconst C d0_262 (v := (4 : Int32)) (by decide) ?_
  refine iCmpT C (t := 280) d0_263 (by decide) ⟨by decide, by decide⟩ ?_
  refine iIload C d0_280 rfl ?_
  refine iIconst C d0_282 (v := (5 : Int32)) (by decide) ?_
  refine iCmpT C (t := 300) d0_283 (by decide) ⟨by decide, by decide⟩ ?_
  refine iIload C d0_300 rfl ?_
  refine iBipush C d0_302 (v := (6 : Int32)) (by decide) ?_
  refine iCmpT C (t := 323) d0_304 (by decide) ⟨by decide, by decide⟩ ?_
  refine iIload C d0_323 rfl ?_
  refine iBipush C d0_325 (v := (7 : Int32)) (by decide) ?_
  refine iCmpT C (t := 346) d0_327 (by decide) ⟨by decide, by decide⟩ ?_
  refine iIload C d0_346 rfl ?_
  refine iBipush C d0_348 (v := (8 : Int32)) (by decide) ?_
  refine iCmpT C (t := 369) d0_350 (by decide) ⟨by decide, by decide⟩ ?_
  refine iIload C d0_369 rfl ?_
  refine iBipush C d0_371 (v := (9 : Int32)) (by decide) ?_
  refine iCmpT C (t := 392) d0_373 (by decide) ⟨by decide, by decide⟩ ?_
  refine iIload C d0_392 rfl ?_
  refine iBipush C d0_394 (v := (10 : Int32)) (by decide) ?_
  refine iCmpT C (t := 415) d0_396 (by decide) ⟨by decide, by decide⟩ ?_
  refine iNew C tw51 tw2 tw1 d0_415 ⟨rfl, rfl, by decide, by decide⟩ fun h4 a4 g4 E4 A4 D4 => ?_
  have n_a4 : n0 ≤ a4 := oFresh O3 g4
  have O4 := O3.ext E4
  have F4_value : Fld Z h4 a4 "java/lang/String" "value" "[B" .null := D4 (Or.inr (hw _ tw4)) (ty := (.array .byte)) (by decide)
  have F4_coder : Fld Z h4 a4 "java/lang/String" "coder" "B" (.int (0 : Int32)) := D4 (Or.inr (hw _ tw5)) (ty := .byte) (by decide)
  refine iDup C d0_418 rfl ?_
  refine iAload C d0_419 rfl rfl ?_
  have K5 : Arv Z h4 a1 k1 .char (1 : Int32) (List.map Value.int [ff ss d p 0]) (.int 0) := by
    have q := (V3.ext E4)
    simpa only [hnf, List.map] using q
  have P5 : ∀ c ∈ [ff ss d p 0], ¬ c < 0 ∧ ¬ (255 : Int32) < c := by
    intro c hc
    simp only [List.mem_cons, List.not_mem_nil, or_false] at hc
    rcases hc with rfl <;> exact own_ff hd HS.2.2.2.2.2 _
  refine iCallIB C (a := a4) (payStr hw n_a4 O4 A4 F4_value F4_coder K5 (S0.ext O4.2) hz0 (n := 1) rfl rfl (by decide) (by decide) P5 (by decide) (by decide)) rfl tw52 tw53 tw54 ⟨by decide, by decide⟩ (argsL := [(.ref a1)]) (S' := [(.ref a4)]) (lenOf pd6 rfl) rfl rfl d0_421 rfl (W := 1) rfl ⟨rfl, rfl, by decide, by decide⟩ fun v6 h6 q6 => ?_
  obtain ⟨rfl, K_6, t_6, k_6, sx_6⟩ := q6
  have O6 := O4.keep K_6 (allS n_a4 all0)
  show Go B n0 _ h6 5 50 424 #[(.val (.int i0)), (.val (.int i1)), (.val (.int i2)), (.val (.int i3)), (.val (.int bb)), (.val (.int op)), (.val (.ref s)), (.val (.ref base)), (.val (.int L)), (.val (.int d)), (.val (.int (1 : Int32))), (.val (.int p)), (.val ev), (.val (.ref a1)), .unset] [(.ref a4)]
  refine iAstore C d0_424 (Ls' := #[(.val (.int i0)), (.val (.int i1)), (.val (.int i2)), (.val (.int i3)), (.val (.int bb)), (.val (.int op)), (.val (.ref s)), (.val (.ref base)), (.val (.int L)), (.val (.int d)), (.val (.int (1 : Int32))), (.val (.int p)), (.val ev), (.val (.ref a1)), (.val (.ref a4))]) rfl rfl ?_
  refine iAload C d0_426 rfl rfl ?_
  refine iCallS C (rmN hw G O6 FV hcap S0 hz0 SI SW sx_6) tw72 tw73 tw9 tw74 ⟨by decide, by decide⟩ (argsL := [(.ref a4)]) (S' := []) (lenOf pd7 rfl) rfl rfl d0_428 rfl (W := 0) rfl ⟨by decide, by decide, rfl, rfl, by decide, by decide⟩ fun v7 h7 q7 => ?_
  obtain ⟨rfl, E7⟩ := q7
  show Go B n0 _ h7 6 52 431 #[(.val (.int i0)), (.val (.int i1)), (.val (.int i2)), (.val (.int i3)), (.val (.int bb)), (.val (.int op)), (.val (.ref s)), (.val (.ref base)), (.val (.int L)), (.val (.int d)), (.val (.int (1 : Int32))), (.val (.int p)), (.val ev), (.val (.ref a1)), (.val (.ref a4))] [(pk ga1 ga3 [ff ss d p 0])]
  rw [hE]
  rcases hev with rfl | ⟨ra, rfl⟩
  · refine iAload C d0_431 rfl rfl ?_
    refine iAcmpF C d0_433 rfl rfl (acE rfl).2 ?_
    refine iIconst C d0_436 (v := (1 : Int32)) (by decide) ?_
    refine iGoto C (t := 441) d0_437 ⟨by decide, by decide⟩ ?_
    refine iRetZ C d0_441 (by simp) ⟨Nat.le_refl _, by decide, by decide⟩ ?_
    exact rfl
  · refine iAload C d0_431 rfl rfl ?_
    refine iAcmpF C d0_433 rfl rfl (acE rfl).2 ?_
    refine iIconst C d0_436 (v := (1 : Int32)) (by decide) ?_
    refine iGoto C (t := 441) d0_437 ⟨by decide, by decide⟩ ?_
    refine iRetZ C d0_441 (by simp) ⟨Nat.le_refl _, by decide, by decide⟩ ?_
    exact rfl
set_option maxRecDepth 65536 in
set_option maxHeartbeats 4000000 in
theorem tl2 {l : Launch} {Z : State} {a0 : Array Value} (hw : ∀ d ∈ tables_1, d.before a0 Z = true) {n0 : Nat} {h0 : Heap} {ga1 ga2 ga3 ga4 ga5 ga6 ga7 : Addr} {gc2 gc5 gc7 : Cell} (G : GG Z ga1 ga2 ga3 ga4 ga5 ga6 ga7 gc2 gc5 gc7) (O : Old Z n0 h0) (FV : FitC Z gc2) (hcap : gc2.slots.size ≤ 2) {z0 : Int32} (S0 : Sta Z Z.heap "java/lang/String" "COMPACT_STRINGS" "Z" (.int z0)) (hz0 : ¬ z0 = 0) (SI : SX Z Z.heap ga4 ga5 gc5.cls SINJ) (SW : SX Z Z.heap ga6 ga7 gc7.cls SWD) {fm : Value} (S1 : Sta Z Z.heap "jdk/internal/util/Preconditions" "SIOOBE_FORMATTER" "Ljava/util/function/BiFunction;" fm) (rf : fm.isRef = true) (hcw : Jvm.Lit.compactW.before a0 Z = true) (hhE : Jvm.Lit.constHeld Z "java/lang/String" 7) {i0 i1 i2 i3 bb op L d p : Int32} {s base t : Addr} {k : ClassId} {ss : List Int32} {ev : Value} (HS : SX Z h0 s t k ss) (hd : ¬ d < 0 ∧ ¬ (255 : Int32) < d) (hev : ev = .null ∨ ∃ a, ev = .ref a) (hE : pk ga1 ga3 [ff ss d p 0, ff ss d p 1] = ev) {B : Bx} (C : Cx B l Z a0 room_1 x code maxLocals ret n0) :
    Go B n0 (fun v _ => v = some (.int 1)) h0 2 44 175 #[(.val (.int i0)), (.val (.int i1)), (.val (.int i2)), (.val (.int i3)), (.val (.int bb)), (.val (.int op)), (.val (.ref s)), (.val (.ref base)), (.val (.int L)), (.val (.int d)), (.val (.int (2 : Int32))), (.val (.int p)), (.val ev), .unset, .unset] [] := by
  have hrf : ev.isRef = true := by rcases hev with rfl | ⟨a, rfl⟩ <;> rfl
  have hnf : ∀ i, nar .char (ff ss d p i) = ff ss d p i := fun i => own_nar (own_ff hd HS.2.2.2.2.2 i)
  refine iIload C d0_175 rfl ?_
  refine iNewP C (aty := .char) tw24 d0_177 (by decide) (cap := 2) (by decide) (by decide) ⟨rfl, rfl, by decide, by decide⟩ fun h1 a1 k1 g1 E1 V1 => ?_
  have n_a1 : n0 ≤ a1 := oFresh O g1
  have O1 := O.ext E1
  have V1 : Arv Z h1 a1 k1 .char (2 : Int32) [(.int 0), (.int 0)] (.int 0) := V1.pad (pad_rep [] (.int 0) 2)
  refine iAstore C d0_179 (Ls' := #[(.val (.int i0)), (.val (.int i1)), (.val (.int i2)), (.val (.int i3)), (.val (.int bb)), (.val (.int op)), (.val (.ref s)), (.val (.ref base)), (.val (.int L)), (.val (.int d)), (.val (.int (2 : Int32))), (.val (.int p)), (.val ev), (.val (.ref a1)), .unset]) rfl rfl ?_
  refine iIload C d0_181 rfl ?_
  refine iIfF C d0_183 (by decide) ?_
  refine iAload C d0_186 rfl rfl ?_
  refine iIconst C d0_188 (v := (0 : Int32)) (by decide) ?_
  refine iAload C d0_189 rfl rfl ?_
  refine iIconst C d0_191 (v := (0 : Int32)) (by decide) ?_
  refine iIload C d0_192 rfl ?_
  refine iIload C d0_194 rfl ?_
  refine iCallS C (rmA hw O1 S0 hz0 S1 rf ⟨(HS.1.ext E1), (HS.2.1.ext E1), (HS.2.2.1.ext E1), (HS.2.2.2.1.ext E1), HS.2.2.2.2.1, HS.2.2.2.2.2⟩ (i := (0 : Int32)) (iN := 0) (p := p) (d := d) rfl (by decide) hd) tw25 tw26 tw27 tw28 ⟨by decide, by decide⟩ (argsL := [(.ref s), (.int (0 : Int32)), (.int p), (.int d)]) (S' := [(.int (0 : Int32)), (.ref a1)]) (lenOf pd5 rfl) rfl rfl d0_196 rfl (W := 2) rfl ⟨by decide, by decide, rfl, rfl, by decide, by decide⟩ fun v2 h2 q2 => ?_
  obtain ⟨rfl, rfl⟩ := q2
  show Go B n0 _ h1 3 46 199 #[(.val (.int i0)), (.val (.int i1)), (.val (.int i2)), (.val (.int i3)), (.val (.int bb)), (.val (.int op)), (.val (.ref s)), (.val (.ref base)), (.val (.int L)), (.val (.int d)), (.val (.int (2 : Int32))), (.val (.int p)), (.val ev), (.val (.ref a1)), .unset] [(.int (ff ss d p 0)), (.int (0 : Int32)), (.ref a1)]
  obtain ⟨c3, A3, q3, z3, y3, H3, G3⟩ := id V1
  refine iCastore C A3 (inb_of z3 ⟨by decide, by decide⟩) n_a1 d0_199 fun h3 W3 => ?_
  have V3 : Arv Z h3 a1 k1 .char (2 : Int32) [(.int (nar .char (ff ss d p 0))), (.int 0)] (.int 0) := Arv.set A3 q3 z3 y3 H3 G3 (fits_nar_char _) W3 0 (by decide) (Nat.le_of_ble_eq_true rfl)
  have O3 := O1.wr W3 n_a1
  refine iIload C d0_200 rfl ?_
  refine iIconst C d0_202 (v := (1 : Int32)) (by decide) ?_
  refine iCmpF C d0_203 (by decide) ?_
  refine iAload C d0_206 rfl rfl ?_
  refine iIconst C d0_208 (v := (1 : Int32)) (by decide) ?_
  refine iAload C d0_209 rfl rfl ?_
  refine iIconst C d0_211 (v := (1 : Int32)) (by decide) ?_
  refine iIload C d0_212 rfl ?_
  refine iIload C d0_214 rfl ?_
  refine iCallS C (rmA hw O3 S0 hz0 S1 rf ⟨((HS.1.ext E1).wr W3), ((HS.2.1.ext E1).other W3 (Or.inl (oNe HS.1.lt (Nat.le_of_eq g1.symm)))), ((HS.2.2.1.ext E1).other W3 (Or.inl (oNe HS.1.lt (Nat.le_of_eq g1.symm)))), ((HS.2.2.2.1.ext E1).other W3 (oNe HS.2.2.2.1.lt (Nat.le_of_eq g1.symm))), HS.2.2.2.2.1, HS.2.2.2.2.2⟩ (i := (1 : Int32)) (iN := 1) (p := p) (d := d) rfl (by decide) hd) tw25 tw26 tw27 tw28 ⟨by decide, by decide⟩ (argsL := [(.ref s), (.int (1 : Int32)), (.int p), (.int d)]) (S' := [(.int (1 : Int32)), (.ref a1)]) (lenOf pd5 rfl) rfl rfl d0_216 rfl (W := 2) rfl ⟨by decide, by decide, rfl, rfl, by decide, by decide⟩ fun v4 h4 q4 => ?_
  obtain ⟨rfl, rfl⟩ := q4
  show Go B n0 _ h3 3 46 219 #[(.val (.int i0)), (.val (.int i1)), (.val (.int i2)), (.val (.int i3)), (.val (.int bb)), (.val (.int op)), (.val (.ref s)), (.val (.ref base)), (.val (.int L)), (.val (.int d)), (.val (.int (2 : Int32))), (.val (.int p)), (.val ev), (.val (.ref a1)), .unset] [(.int (ff ss d p 1)), (.int (1 : Int32)), (.ref a1)]
  obtain ⟨c5, A5, q5, z5, y5, H5, G5⟩ := id V3
  refine iCastore C A5 (inb_of z5 ⟨by decide, by decide⟩) n_a1 d0_219 fun h5 W5 => ?_
  have V5 : Arv Z h5 a1 k1 .char (2 : Int32) [(.int (nar .char (ff ss d p 0))), (.int (nar .char (ff ss d p 1)))] (.int 0) := Arv.set A5 q5 z5 y5 H5 G5 (fits_nar_char _) W5 1 (by decide) (Nat.le_of_ble_eq_true rfl)
  have O5 := O3.wr W5 n_a1
  refine iIload C d0_220 rfl ?_
  refine iIconst C d0_222 (v := (2 : Int32)) (by decide) ?_
  refine iCmpT C (t := 240) d0_223 (by decide) ⟨by decide, by decide⟩ ?_
  refine iIload C d0_240 rfl ?_
  refine iIconst C d0_242 (v := (3 : Int32)) (by decide) ?_
  refine iCmpT C (t := 260) d0_243 (by decide) ⟨by decide, by decide⟩ ?_
  refine iIload C d0_260 rfl ?_
  refine iIconst C d0_262 (v := (4 : Int32)) (by decide) ?_
  refine iCmpT C (t := 280) d0_263 (by decide) ⟨by decide, by decide⟩ ?_
  refine iIload C d0_280 rfl ?_
  refine iIconst C d0_282 (v := (5 : Int32)) (by decide) ?_
  refine iCmpT C (t := 300) d0_283 (by decide) ⟨by decide, by decide⟩ ?_
  refine iIload C d0_300 rfl ?_
  refine iBipush C d0_302 (v := (6 : Int32)) (by decide) ?_
  refine iCmpT C (t := 323) d0_304 (by decide) ⟨by decide, by decide⟩ ?_
  refine iIload C d0_323 rfl ?_
  refine iBipush C d0_325 (v := (7 : Int32)) (by decide) ?_
  refine iCmpT C (t := 346) d0_327 (by decide) ⟨by decide, by decide⟩ ?_
  refine iIload C d0_346 rfl ?_
  refine iBipush C d0_348 (v := (8 : Int32)) (by decide) ?_
  refine iCmpT C (t := 369) d0_350 (by decide) ⟨by decide, by decide⟩ ?_
  refine iIload C d0_369 rfl ?_
  refine iBipush C d0_371 (v := (9 : Int32)) (by decide) ?_
  refine iCmpT C (t := 392) d0_373 (by decide) ⟨by decide, by decide⟩ ?_
  refine iIload C d0_392 rfl ?_
  refine iBipush C d0_394 (v := (10 : Int32)) (by decide) ?_
  refine iCmpT C (t := 415) d0_396 (by decide) ⟨by decide, by decide⟩ ?_
  refine iNew C tw51 tw2 tw1 d0_415 ⟨rfl, rfl, by decide, by decide⟩ fun h6 a6 g6 E6 A6 D6 => ?_
  have n_a6 : n0 ≤ a6 := oFresh O5 g6
  have O6 := O5.ext E6
  have F6_value : Fld Z h6 a6 "java/lang/String" "value" "[B" .null := D6 (Or.inr (hw _ tw4)) (ty := (.array .byte)) (by decide)
  have F6_coder : Fld Z h6 a6 "java/lang/String" "coder" "B" (.int (0 : Int32)) := D6 (Or.inr (hw _ tw5)) (ty := .byte) (by decide)
  refine iDup C d0_418 rfl ?_
  refine iAload C d0_419 rfl rfl ?_
  have K7 : Arv Z h6 a1 k1 .char (2 : Int32) (List.map Value.int [ff ss d p 0, ff ss d p 1]) (.int 0) := by
    have q := (V5.ext E6)
    simpa only [hnf, List.map] using q
  have P7 : ∀ c ∈ [ff ss d p 0, ff ss d p 1], ¬ c < 0 ∧ ¬ (255 : Int32) < c := by
    intro c hc
    simp only [List.mem_cons, List.not_mem_nil, or_false] at hc
    rcases hc with rfl | rfl <;> exact own_ff hd HS.2.2.2.2.2 _
  refine iCallIB C (a := a6) (payStr hw n_a6 O6 A6 F6_value F6_coder K7 (S0.ext O6.2) hz0 (n := 2) rfl rfl (by decide) (by decide) P7 (by decide) (by decide)) rfl tw52 tw53 tw54 ⟨by decide, by decide⟩ (argsL := [(.ref a1)]) (S' := [(.ref a6)]) (lenOf pd6 rfl) rfl rfl d0_421 rfl (W := 1) rfl ⟨rfl, rfl, by decide, by decide⟩ fun v8 h8 q8 => ?_
  obtain ⟨rfl, K_8, t_8, k_8, sx_8⟩ := q8
  have O8 := O6.keep K_8 (allS n_a6 all0)
  show Go B n0 _ h8 5 52 424 #[(.val (.int i0)), (.val (.int i1)), (.val (.int i2)), (.val (.int i3)), (.val (.int bb)), (.val (.int op)), (.val (.ref s)), (.val (.ref base)), (.val (.int L)), (.val (.int d)), (.val (.int (2 : Int32))), (.val (.int p)), (.val ev), (.val (.ref a1)), .unset] [(.ref a6)]
  refine iAstore C d0_424 (Ls' := #[(.val (.int i0)), (.val (.int i1)), (.val (.int i2)), (.val (.int i3)), (.val (.int bb)), (.val (.int op)), (.val (.ref s)), (.val (.ref base)), (.val (.int L)), (.val (.int d)), (.val (.int (2 : Int32))), (.val (.int p)), (.val ev), (.val (.ref a1)), (.val (.ref a6))]) rfl rfl ?_
  refine iAload C d0_426 rfl rfl ?_
  refine iCallS C (rmN hw G O8 FV hcap S0 hz0 SI SW sx_8) tw72 tw73 tw9 tw74 ⟨by decide, by decide⟩ (argsL := [(.ref a6)]) (S' := []) (lenOf pd7 rfl) rfl rfl d0_428 rfl (W := 0) rfl ⟨by decide, by decide, rfl, rfl, by decide, by decide⟩ fun v9 h9 q9 => ?_
  obtain ⟨rfl, E9⟩ := q9
  show Go B n0 _ h9 6 54 431 #[(.val (.int i0)), (.val (.int i1)), (.val (.int i2)), (.val (.int i3)), (.val (.int bb)), (.val (.int op)), (.val (.ref s)), (.val (.ref base)), (.val (.int L)), (.val (.int d)), (.val (.int (2 : Int32))), (.val (.int p)), (.val ev), (.val (.ref a1)), (.val (.ref a6))] [(pk ga1 ga3 [ff ss d p 0, ff ss d p 1])]
  rw [hE]
  rcases hev with rfl | ⟨ra, rfl⟩
  · refine iAload C d0_431 rfl rfl ?_
    refine iAcmpF C d0_433 rfl rfl (acE rfl).2 ?_
    refine iIconst C d0_436 (v := (1 : Int32)) (by decide) ?_
    refine iGoto C (t := 441) d0_437 ⟨by decide, by decide⟩ ?_
    refine iRetZ C d0_441 (by simp) ⟨Nat.le_refl _, by decide, by decide⟩ ?_
    exact rfl
  · refine iAload C d0_431 rfl rfl ?_
    refine iAcmpF C d0_433 rfl rfl (acE rfl).2 ?_
    refine iIconst C d0_436 (v := (1 : Int32)) (by decide) ?_
    refine iGoto C (t := 441) d0_437 ⟨by decide, by decide⟩ ?_
    refine iRetZ C d0_441 (by simp) ⟨Nat.le_refl _, by decide, by decide⟩ ?_
    exact rfl
set_option maxRecDepth 65536 in
set_option maxHeartbeats 4000000 in
theorem tl3 {l : Launch} {Z : State} {a0 : Array Value} (hw : ∀ d ∈ tables_1, d.before a0 Z = true) {n0 : Nat} {h0 : Heap} {ga1 ga2 ga3 ga4 ga5 ga6 ga7 : Addr} {gc2 gc5 gc7 : Cell} (G : GG Z ga1 ga2 ga3 ga4 ga5 ga6 ga7 gc2 gc5 gc7) (O : Old Z n0 h0) (FV : FitC Z gc2) (hcap : gc2.slots.size ≤ 2) {z0 : Int32} (S0 : Sta Z Z.heap "java/lang/String" "COMPACT_STRINGS" "Z" (.int z0)) (hz0 : ¬ z0 = 0) (SI : SX Z Z.heap ga4 ga5 gc5.cls SINJ) (SW : SX Z Z.heap ga6 ga7 gc7.cls SWD) {fm : Value} (S1 : Sta Z Z.heap "jdk/internal/util/Preconditions" "SIOOBE_FORMATTER" "Ljava/util/function/BiFunction;" fm) (rf : fm.isRef = true) (hcw : Jvm.Lit.compactW.before a0 Z = true) (hhE : Jvm.Lit.constHeld Z "java/lang/String" 7) {i0 i1 i2 i3 bb op L d p : Int32} {s base t : Addr} {k : ClassId} {ss : List Int32} {ev : Value} (HS : SX Z h0 s t k ss) (hd : ¬ d < 0 ∧ ¬ (255 : Int32) < d) (hev : ev = .null ∨ ∃ a, ev = .ref a) (hE : pk ga1 ga3 [ff ss d p 0, ff ss d p 1, ff ss d p 2] = ev) {B : Bx} (C : Cx B l Z a0 room_1 x code maxLocals ret n0) :
    Go B n0 (fun v _ => v = some (.int 1)) h0 2 44 175 #[(.val (.int i0)), (.val (.int i1)), (.val (.int i2)), (.val (.int i3)), (.val (.int bb)), (.val (.int op)), (.val (.ref s)), (.val (.ref base)), (.val (.int L)), (.val (.int d)), (.val (.int (3 : Int32))), (.val (.int p)), (.val ev), .unset, .unset] [] := by
  have hrf : ev.isRef = true := by rcases hev with rfl | ⟨a, rfl⟩ <;> rfl
  have hnf : ∀ i, nar .char (ff ss d p i) = ff ss d p i := fun i => own_nar (own_ff hd HS.2.2.2.2.2 i)
  refine iIload C d0_175 rfl ?_
  refine iNewP C (aty := .char) tw24 d0_177 (by decide) (cap := 3) (by decide) (by decide) ⟨rfl, rfl, by decide, by decide⟩ fun h1 a1 k1 g1 E1 V1 => ?_
  have n_a1 : n0 ≤ a1 := oFresh O g1
  have O1 := O.ext E1
  have V1 : Arv Z h1 a1 k1 .char (3 : Int32) [(.int 0), (.int 0), (.int 0)] (.int 0) := V1.pad (pad_rep [] (.int 0) 3)
  refine iAstore C d0_179 (Ls' := #[(.val (.int i0)), (.val (.int i1)), (.val (.int i2)), (.val (.int i3)), (.val (.int bb)), (.val (.int op)), (.val (.ref s)), (.val (.ref base)), (.val (.int L)), (.val (.int d)), (.val (.int (3 : Int32))), (.val (.int p)), (.val ev), (.val (.ref a1)), .unset]) rfl rfl ?_
  refine iIload C d0_181 rfl ?_
  refine iIfF C d0_183 (by decide) ?_
  refine iAload C d0_186 rfl rfl ?_
  refine iIconst C d0_188 (v := (0 : Int32)) (by decide) ?_
  refine iAload C d0_189 rfl rfl ?_
  refine iIconst C d0_191 (v := (0 : Int32)) (by decide) ?_
  refine iIload C d0_192 rfl ?_
  refine iIload C d0_194 rfl ?_
  refine iCallS C (rmA hw O1 S0 hz0 S1 rf ⟨(HS.1.ext E1), (HS.2.1.ext E1), (HS.2.2.1.ext E1), (HS.2.2.2.1.ext E1), HS.2.2.2.2.1, HS.2.2.2.2.2⟩ (i := (0 : Int32)) (iN := 0) (p := p) (d := d) rfl (by decide) hd) tw25 tw26 tw27 tw28 ⟨by decide, by decide⟩ (argsL := [(.ref s), (.int (0 : Int32)), (.int p), (.int d)]) (S' := [(.int (0 : Int32)), (.ref a1)]) (lenOf pd5 rfl) rfl rfl d0_196 rfl (W := 2) rfl ⟨by decide, by decide, rfl, rfl, by decide, by decide⟩ fun v2 h2 q2 => ?_
  obtain ⟨rfl, rfl⟩ := q2
  show Go B n0 _ h1 3 47 199 #[(.val (.int i0)), (.val (.int i1)), (.val (.int i2)), (.val (.int i3)), (.val (.int bb)), (.val (.int op)), (.val (.ref s)), (.val (.ref base)), (.val (.int L)), (.val (.int d)), (.val (.int (3 : Int32))), (.val (.int p)), (.val ev), (.val (.ref a1)), .unset] [(.int (ff ss d p 0)), (.int (0 : Int32)), (.ref a1)]
  obtain ⟨c3, A3, q3, z3, y3, H3, G3⟩ := id V1
  refine iCastore C A3 (inb_of z3 ⟨by decide, by decide⟩) n_a1 d0_199 fun h3 W3 => ?_
  have V3 : Arv Z h3 a1 k1 .char (3 : Int32) [(.int (nar .char (ff ss d p 0))), (.int 0), (.int 0)] (.int 0) := Arv.set A3 q3 z3 y3 H3 G3 (fits_nar_char _) W3 0 (by decide) (Nat.le_of_ble_eq_true rfl)
  have O3 := O1.wr W3 n_a1
  refine iIload C d0_200 rfl ?_
  refine iIconst C d0_202 (v := (1 : Int32)) (by decide) ?_
  refine iCmpF C d0_203 (by decide) ?_
  refine iAload C d0_206 rfl rfl ?_
  refine iIconst C d0_208 (v := (1 : Int32)) (by decide) ?_
  refine iAload C d0_209 rfl rfl ?_
  refine iIconst C d0_211 (v := (1 : Int32)) (by decide) ?_
  refine iIload C d0_212 rfl ?_
  refine iIload C d0_214 rfl ?_
  refine iCallS C (rmA hw O3 S0 hz0 S1 rf ⟨((HS.1.ext E1).wr W3), ((HS.2.1.ext E1).other W3 (Or.inl (oNe HS.1.lt (Nat.le_of_eq g1.symm)))), ((HS.2.2.1.ext E1).other W3 (Or.inl (oNe HS.1.lt (Nat.le_of_eq g1.symm)))), ((HS.2.2.2.1.ext E1).other W3 (oNe HS.2.2.2.1.lt (Nat.le_of_eq g1.symm))), HS.2.2.2.2.1, HS.2.2.2.2.2⟩ (i := (1 : Int32)) (iN := 1) (p := p) (d := d) rfl (by decide) hd) tw25 tw26 tw27 tw28 ⟨by decide, by decide⟩ (argsL := [(.ref s), (.int (1 : Int32)), (.int p), (.int d)]) (S' := [(.int (1 : Int32)), (.ref a1)]) (lenOf pd5 rfl) rfl rfl d0_216 rfl (W := 2) rfl ⟨by decide, by decide, rfl, rfl, by decide, by decide⟩ fun v4 h4 q4 => ?_
  obtain ⟨rfl, rfl⟩ := q4
  show Go B n0 _ h3 3 47 219 #[(.val (.int i0)), (.val (.int i1)), (.val (.int i2)), (.val (.int i3)), (.val (.int bb)), (.val (.int op)), (.val (.ref s)), (.val (.ref base)), (.val (.int L)), (.val (.int d)), (.val (.int (3 : Int32))), (.val (.int p)), (.val ev), (.val (.ref a1)), .unset] [(.int (ff ss d p 1)), (.int (1 : Int32)), (.ref a1)]
  obtain ⟨c5, A5, q5, z5, y5, H5, G5⟩ := id V3
  refine iCastore C A5 (inb_of z5 ⟨by decide, by decide⟩) n_a1 d0_219 fun h5 W5 => ?_
  have V5 : Arv Z h5 a1 k1 .char (3 : Int32) [(.int (nar .char (ff ss d p 0))), (.int (nar .char (ff ss d p 1))), (.int 0)] (.int 0) := Arv.set A5 q5 z5 y5 H5 G5 (fits_nar_char _) W5 1 (by decide) (Nat.le_of_ble_eq_true rfl)
  have O5 := O3.wr W5 n_a1
  refine iIload C d0_220 rfl ?_
  refine iIconst C d0_222 (v := (2 : Int32)) (by decide) ?_
  refine iCmpF C d0_223 (by decide) ?_
  refine iAload C d0_226 rfl rfl ?_
  refine iIconst C d0_228 (v := (2 : Int32)) (by decide) ?_
  refine iAload C d0_229 rfl rfl ?_
  refine iIconst C d0_231 (v := (2 : Int32)) (by decide) ?_
  refine iIload C d0_232 rfl ?_
  refine iIload C d0_234 rfl ?_
  refine iCallS C (rmA hw O5 S0 hz0 S1 rf ⟨(((HS.1.ext E1).wr W3).wr W5), (((HS.2.1.ext E1).other W3 (Or.inl (oNe HS.1.lt (Nat.le_of_eq g1.symm)))).other W5 (Or.inl (oNe HS.1.lt (Nat.le_of_eq g1.symm)))), (((HS.2.2.1.ext E1).other W3 (Or.inl (oNe HS.1.lt (Nat.le_of_eq g1.symm)))).other W5 (Or.inl (oNe HS.1.lt (Nat.le_of_eq g1.symm)))), (((HS.2.2.2.1.ext E1).other W3 (oNe HS.2.2.2.1.lt (Nat.le_of_eq g1.symm))).other W5 (oNe HS.2.2.2.1.lt (Nat.le_of_eq g1.symm))), HS.2.2.2.2.1, HS.2.2.2.2.2⟩ (i := (2 : Int32)) (iN := 2) (p := p) (d := d) rfl (by decide) hd) tw25 tw26 tw27 tw28 ⟨by decide, by decide⟩ (argsL := [(.ref s), (.int (2 : Int32)), (.int p), (.int d)]) (S' := [(.int (2 : Int32)), (.ref a1)]) (lenOf pd5 rfl) rfl rfl d0_236 rfl (W := 2) rfl ⟨by decide, by decide, rfl, rfl, by decide, by decide⟩ fun v6 h6 q6 => ?_
  obtain ⟨rfl, rfl⟩ := q6
  show Go B n0 _ h5 3 47 239 #[(.val (.int i0)), (.val (.int i1)), (.val (.int i2)), (.val (.int i3)), (.val (.int bb)), (.val (.int op)), (.val (.ref s)), (.val (.ref base)), (.val (.int L)), (.val (.int d)), (.val (.int (3 : Int32))), (.val (.int p)), (.val ev), (.val (.ref a1)), .unset] [(.int (ff ss d p 2)), (.int (2 : Int32)), (.ref a1)]
  obtain ⟨c7, A7, q7, z7, y7, H7, G7⟩ := id V5
  refine iCastore C A7 (inb_of z7 ⟨by decide, by decide⟩) n_a1 d0_239 fun h7 W7 => ?_
  have V7 : Arv Z h7 a1 k1 .char (3 : Int32) [(.int (nar .char (ff ss d p 0))), (.int (nar .char (ff ss d p 1))), (.int (nar .char (ff ss d p 2)))] (.int 0) := Arv.set A7 q7 z7 y7 H7 G7 (fits_nar_char _) W7 2 (by decide) (Nat.le_of_ble_eq_true rfl)
  have O7 := O5.wr W7 n_a1
  refine iIload C d0_240 rfl ?_
  refine iIconst C d0_242 (v := (3 : Int32)) (by decide) ?_
  refine iCmpT C (t := 260) d0_243 (by decide) ⟨by decide, by decide⟩ ?_
  refine iIload C d0_260 rfl ?_
  refine iIconst C d0_262 (v := (4 : Int32)) (by decide) ?_
  refine iCmpT C (t := 280) d0_263 (by decide) ⟨by decide, by decide⟩ ?_
  refine iIload C d0_280 rfl ?_
  refine iIconst C d0_282 (v := (5 : Int32)) (by decide) ?_
  refine iCmpT C (t := 300) d0_283 (by decide) ⟨by decide, by decide⟩ ?_
  refine iIload C d0_300 rfl ?_
  refine iBipush C d0_302 (v := (6 : Int32)) (by decide) ?_
  refine iCmpT C (t := 323) d0_304 (by decide) ⟨by decide, by decide⟩ ?_
  refine iIload C d0_323 rfl ?_
  refine iBipush C d0_325 (v := (7 : Int32)) (by decide) ?_
  refine iCmpT C (t := 346) d0_327 (by decide) ⟨by decide, by decide⟩ ?_
  refine iIload C d0_346 rfl ?_
  refine iBipush C d0_348 (v := (8 : Int32)) (by decide) ?_
  refine iCmpT C (t := 369) d0_350 (by decide) ⟨by decide, by decide⟩ ?_
  refine iIload C d0_369 rfl ?_
  refine iBipush C d0_371 (v := (9 : Int32)) (by decide) ?_
  refine iCmpT C (t := 392) d0_373 (by decide) ⟨by decide, by decide⟩ ?_
  refine iIload C d0_392 rfl ?_
  refine iBipush C d0_394 (v := (10 : Int32)) (by decide) ?_
  refine iCmpT C (t := 415) d0_396 (by decide) ⟨by decide, by decide⟩ ?_
  refine iNew C tw51 tw2 tw1 d0_415 ⟨rfl, rfl, by decide, by decide⟩ fun h8 a8 g8 E8 A8 D8 => ?_
  have n_a8 : n0 ≤ a8 := oFresh O7 g8
  have O8 := O7.ext E8
  have F8_value : Fld Z h8 a8 "java/lang/String" "value" "[B" .null := D8 (Or.inr (hw _ tw4)) (ty := (.array .byte)) (by decide)
  have F8_coder : Fld Z h8 a8 "java/lang/String" "coder" "B" (.int (0 : Int32)) := D8 (Or.inr (hw _ tw5)) (ty := .byte) (by decide)
  refine iDup C d0_418 rfl ?_
  refine iAload C d0_419 rfl rfl ?_
  have K9 : Arv Z h8 a1 k1 .char (3 : Int32) (List.map Value.int [ff ss d p 0, ff ss d p 1, ff ss d p 2]) (.int 0) := by
    have q := (V7.ext E8)
    simpa only [hnf, List.map] using q
  have P9 : ∀ c ∈ [ff ss d p 0, ff ss d p 1, ff ss d p 2], ¬ c < 0 ∧ ¬ (255 : Int32) < c := by
    intro c hc
    simp only [List.mem_cons, List.not_mem_nil, or_false] at hc
    rcases hc with rfl | rfl | rfl <;> exact own_ff hd HS.2.2.2.2.2 _
  refine iCallIB C (a := a8) (payStr hw n_a8 O8 A8 F8_value F8_coder K9 (S0.ext O8.2) hz0 (n := 3) rfl rfl (by decide) (by decide) P9 (by decide) (by decide)) rfl tw52 tw53 tw54 ⟨by decide, by decide⟩ (argsL := [(.ref a1)]) (S' := [(.ref a8)]) (lenOf pd6 rfl) rfl rfl d0_421 rfl (W := 1) rfl ⟨rfl, rfl, by decide, by decide⟩ fun v10 h10 q10 => ?_
  obtain ⟨rfl, K_10, t_10, k_10, sx_10⟩ := q10
  have O10 := O8.keep K_10 (allS n_a8 all0)
  show Go B n0 _ h10 5 54 424 #[(.val (.int i0)), (.val (.int i1)), (.val (.int i2)), (.val (.int i3)), (.val (.int bb)), (.val (.int op)), (.val (.ref s)), (.val (.ref base)), (.val (.int L)), (.val (.int d)), (.val (.int (3 : Int32))), (.val (.int p)), (.val ev), (.val (.ref a1)), .unset] [(.ref a8)]
  refine iAstore C d0_424 (Ls' := #[(.val (.int i0)), (.val (.int i1)), (.val (.int i2)), (.val (.int i3)), (.val (.int bb)), (.val (.int op)), (.val (.ref s)), (.val (.ref base)), (.val (.int L)), (.val (.int d)), (.val (.int (3 : Int32))), (.val (.int p)), (.val ev), (.val (.ref a1)), (.val (.ref a8))]) rfl rfl ?_
  refine iAload C d0_426 rfl rfl ?_
  refine iCallS C (rmN hw G O10 FV hcap S0 hz0 SI SW sx_10) tw72 tw73 tw9 tw74 ⟨by decide, by decide⟩ (argsL := [(.ref a8)]) (S' := []) (lenOf pd7 rfl) rfl rfl d0_428 rfl (W := 0) rfl ⟨by decide, by decide, rfl, rfl, by decide, by decide⟩ fun v11 h11 q11 => ?_
  obtain ⟨rfl, E11⟩ := q11
  show Go B n0 _ h11 6 56 431 #[(.val (.int i0)), (.val (.int i1)), (.val (.int i2)), (.val (.int i3)), (.val (.int bb)), (.val (.int op)), (.val (.ref s)), (.val (.ref base)), (.val (.int L)), (.val (.int d)), (.val (.int (3 : Int32))), (.val (.int p)), (.val ev), (.val (.ref a1)), (.val (.ref a8))] [(pk ga1 ga3 [ff ss d p 0, ff ss d p 1, ff ss d p 2])]
  rw [hE]
  rcases hev with rfl | ⟨ra, rfl⟩
  · refine iAload C d0_431 rfl rfl ?_
    refine iAcmpF C d0_433 rfl rfl (acE rfl).2 ?_
    refine iIconst C d0_436 (v := (1 : Int32)) (by decide) ?_
    refine iGoto C (t := 441) d0_437 ⟨by decide, by decide⟩ ?_
    refine iRetZ C d0_441 (by simp) ⟨Nat.le_refl _, by decide, by decide⟩ ?_
    exact rfl
  · refine iAload C d0_431 rfl rfl ?_
    refine iAcmpF C d0_433 rfl rfl (acE rfl).2 ?_
    refine iIconst C d0_436 (v := (1 : Int32)) (by decide) ?_
    refine iGoto C (t := 441) d0_437 ⟨by decide, by decide⟩ ?_
    refine iRetZ C d0_441 (by simp) ⟨Nat.le_refl _, by decide, by decide⟩ ?_
    exact rfl
set_option maxRecDepth 65536 in
set_option maxHeartbeats 4000000 in
theorem tl4 {l : Launch} {Z : State} {a0 : Array Value} (hw : ∀ d ∈ tables_1, d.before a0 Z = true) {n0 : Nat} {h0 : Heap} {ga1 ga2 ga3 ga4 ga5 ga6 ga7 : Addr} {gc2 gc5 gc7 : Cell} (G : GG Z ga1 ga2 ga3 ga4 ga5 ga6 ga7 gc2 gc5 gc7) (O : Old Z n0 h0) (FV : FitC Z gc2) (hcap : gc2.slots.size ≤ 2) {z0 : Int32} (S0 : Sta Z Z.heap "java/lang/String" "COMPACT_STRINGS" "Z" (.int z0)) (hz0 : ¬ z0 = 0) (SI : SX Z Z.heap ga4 ga5 gc5.cls SINJ) (SW : SX Z Z.heap ga6 ga7 gc7.cls SWD) {fm : Value} (S1 : Sta Z Z.heap "jdk/internal/util/Preconditions" "SIOOBE_FORMATTER" "Ljava/util/function/BiFunction;" fm) (rf : fm.isRef = true) (hcw : Jvm.Lit.compactW.before a0 Z = true) (hhE : Jvm.Lit.constHeld Z "java/lang/String" 7) {i0 i1 i2 i3 bb op L d p : Int32} {s base t : Addr} {k : ClassId} {ss : List Int32} {ev : Value} (HS : SX Z h0 s t k ss) (hd : ¬ d < 0 ∧ ¬ (255 : Int32) < d) (hev : ev = .null ∨ ∃ a, ev = .ref a) (hE : pk ga1 ga3 [ff ss d p 0, ff ss d p 1, ff ss d p 2, ff ss d p 3] = ev) {B : Bx} (C : Cx B l Z a0 room_1 x code maxLocals ret n0) :
    Go B n0 (fun v _ => v = some (.int 1)) h0 2 44 175 #[(.val (.int i0)), (.val (.int i1)), (.val (.int i2)), (.val (.int i3)), (.val (.int bb)), (.val (.int op)), (.val (.ref s)), (.val (.ref base)), (.val (.int L)), (.val (.int d)), (.val (.int (4 : Int32))), (.val (.int p)), (.val ev), .unset, .unset] [] := by
  have hrf : ev.isRef = true := by rcases hev with rfl | ⟨a, rfl⟩ <;> rfl
  have hnf : ∀ i, nar .char (ff ss d p i) = ff ss d p i := fun i => own_nar (own_ff hd HS.2.2.2.2.2 i)
  refine iIload C d0_175 rfl ?_
  refine iNewP C (aty := .char) tw24 d0_177 (by decide) (cap := 4) (by decide) (by decide) ⟨rfl, rfl, by decide, by decide⟩ fun h1 a1 k1 g1 E1 V1 => ?_
  have n_a1 : n0 ≤ a1 := oFresh O g1
  have O1 := O.ext E1
  have V1 : Arv Z h1 a1 k1 .char (4 : Int32) [(.int 0), (.int 0), (.int 0), (.int 0)] (.int 0) := V1.pad (pad_rep [] (.int 0) 4)
  refine iAstore C d0_179 (Ls' := #[(.val (.int i0)), (.val (.int i1)), (.val (.int i2)), (.val (.int i3)), (.val (.int bb)), (.val (.int op)), (.val (.ref s)), (.val (.ref base)), (.val (.int L)), (.val (.int d)), (.val (.int (4 : Int32))), (.val (.int p)), (.val ev), (.val (.ref a1)), .unset]) rfl rfl ?_
  refine iIload C d0_181 rfl ?_
  refine iIfF C d0_183 (by decide) ?_
  refine iAload C d0_186 rfl rfl ?_
  refine iIconst C d0_188 (v := (0 : Int32)) (by decide) ?_
  refine iAload C d0_189 rfl rfl ?_
  refine iIconst C d0_191 (v := (0 : Int32)) (by decide) ?_
  refine iIload C d0_192 rfl ?_
  refine iIload C d0_194 rfl ?_
  refine iCallS C (rmA hw O1 S0 hz0 S1 rf ⟨(HS.1.ext E1), (HS.2.1.ext E1), (HS.2.2.1.ext E1), (HS.2.2.2.1.ext E1), HS.2.2.2.2.1, HS.2.2.2.2.2⟩ (i := (0 : Int32)) (iN := 0) (p := p) (d := d) rfl (by decide) hd) tw25 tw26 tw27 tw28 ⟨by decide, by decide⟩ (argsL := [(.ref s), (.int (0 : Int32)), (.int p), (.int d)]) (S' := [(.int (0 : Int32)), (.ref a1)]) (lenOf pd5 rfl) rfl rfl d0_196 rfl (W := 2) rfl ⟨by decide, by decide, rfl, rfl, by decide, by decide⟩ fun v2 h2 q2 => ?_
  obtain ⟨rfl, rfl⟩ := q2
  show Go B n0 _ h1 3 48 199 #[(.val (.int i0)), (.val (.int i1)), (.val (.int i2)), (.val (.int i3)), (.val (.int bb)), (.val (.int op)), (.val (.ref s)), (.val (.ref base)), (.val (.int L)), (.val (.int d)), (.val (.int (4 : Int32))), (.val (.int p)), (.val ev), (.val (.ref a1)), .unset] [(.int (ff ss d p 0)), (.int (0 : Int32)), (.ref a1)]
  obtain ⟨c3, A3, q3, z3, y3, H3, G3⟩ := id V1
  refine iCastore C A3 (inb_of z3 ⟨by decide, by decide⟩) n_a1 d0_199 fun h3 W3 => ?_
  have V3 : Arv Z h3 a1 k1 .char (4 : Int32) [(.int (nar .char (ff ss d p 0))), (.int 0), (.int 0), (.int 0)] (.int 0) := Arv.set A3 q3 z3 y3 H3 G3 (fits_nar_char _) W3 0 (by decide) (Nat.le_of_ble_eq_true rfl)
  have O3 := O1.wr W3 n_a1
  refine iIload C d0_200 rfl ?_
  refine iIconst C d0_202 (v := (1 : Int32)) (by decide) ?_
  refine iCmpF C d0_203 (by decide) ?_
  refine iAload C d0_206 rfl rfl ?_
  refine iIconst C d0_208 (v := (1 : Int32)) (by decide) ?_
  refine iAload C d0_209 rfl rfl ?_
  refine iIconst C d0_211 (v := (1 : Int32)) (by decide) ?_
  refine iIload C d0_212 rfl ?_
  refine iIload C d0_214 rfl ?_
  refine iCallS C (rmA hw O3 S0 hz0 S1 rf ⟨((HS.1.ext E1).wr W3), ((HS.2.1.ext E1).other W3 (Or.inl (oNe HS.1.lt (Nat.le_of_eq g1.symm)))), ((HS.2.2.1.ext E1).other W3 (Or.inl (oNe HS.1.lt (Nat.le_of_eq g1.symm)))), ((HS.2.2.2.1.ext E1).other W3 (oNe HS.2.2.2.1.lt (Nat.le_of_eq g1.symm))), HS.2.2.2.2.1, HS.2.2.2.2.2⟩ (i := (1 : Int32)) (iN := 1) (p := p) (d := d) rfl (by decide) hd) tw25 tw26 tw27 tw28 ⟨by decide, by decide⟩ (argsL := [(.ref s), (.int (1 : Int32)), (.int p), (.int d)]) (S' := [(.int (1 : Int32)), (.ref a1)]) (lenOf pd5 rfl) rfl rfl d0_216 rfl (W := 2) rfl ⟨by decide, by decide, rfl, rfl, by decide, by decide⟩ fun v4 h4 q4 => ?_
  obtain ⟨rfl, rfl⟩ := q4
  show Go B n0 _ h3 3 48 219 #[(.val (.int i0)), (.val (.int i1)), (.val (.int i2)), (.val (.int i3)), (.val (.int bb)), (.val (.int op)), (.val (.ref s)), (.val (.ref base)), (.val (.int L)), (.val (.int d)), (.val (.int (4 : Int32))), (.val (.int p)), (.val ev), (.val (.ref a1)), .unset] [(.int (ff ss d p 1)), (.int (1 : Int32)), (.ref a1)]
  obtain ⟨c5, A5, q5, z5, y5, H5, G5⟩ := id V3
  refine iCastore C A5 (inb_of z5 ⟨by decide, by decide⟩) n_a1 d0_219 fun h5 W5 => ?_
  have V5 : Arv Z h5 a1 k1 .char (4 : Int32) [(.int (nar .char (ff ss d p 0))), (.int (nar .char (ff ss d p 1))), (.int 0), (.int 0)] (.int 0) := Arv.set A5 q5 z5 y5 H5 G5 (fits_nar_char _) W5 1 (by decide) (Nat.le_of_ble_eq_true rfl)
  have O5 := O3.wr W5 n_a1
  refine iIload C d0_220 rfl ?_
  refine iIconst C d0_222 (v := (2 : Int32)) (by decide) ?_
  refine iCmpF C d0_223 (by decide) ?_
  refine iAload C d0_226 rfl rfl ?_
  refine iIconst C d0_228 (v := (2 : Int32)) (by decide) ?_
  refine iAload C d0_229 rfl rfl ?_
  refine iIconst C d0_231 (v := (2 : Int32)) (by decide) ?_
  refine iIload C d0_232 rfl ?_
  refine iIload C d0_234 rfl ?_
  refine iCallS C (rmA hw O5 S0 hz0 S1 rf ⟨(((HS.1.ext E1).wr W3).wr W5), (((HS.2.1.ext E1).other W3 (Or.inl (oNe HS.1.lt (Nat.le_of_eq g1.symm)))).other W5 (Or.inl (oNe HS.1.lt (Nat.le_of_eq g1.symm)))), (((HS.2.2.1.ext E1).other W3 (Or.inl (oNe HS.1.lt (Nat.le_of_eq g1.symm)))).other W5 (Or.inl (oNe HS.1.lt (Nat.le_of_eq g1.symm)))), (((HS.2.2.2.1.ext E1).other W3 (oNe HS.2.2.2.1.lt (Nat.le_of_eq g1.symm))).other W5 (oNe HS.2.2.2.1.lt (Nat.le_of_eq g1.symm))), HS.2.2.2.2.1, HS.2.2.2.2.2⟩ (i := (2 : Int32)) (iN := 2) (p := p) (d := d) rfl (by decide) hd) tw25 tw26 tw27 tw28 ⟨by decide, by decide⟩ (argsL := [(.ref s), (.int (2 : Int32)), (.int p), (.int d)]) (S' := [(.int (2 : Int32)), (.ref a1)]) (lenOf pd5 rfl) rfl rfl d0_236 rfl (W := 2) rfl ⟨by decide, by decide, rfl, rfl, by decide, by decide⟩ fun v6 h6 q6 => ?_
  obtain ⟨rfl, rfl⟩ := q6
  show Go B n0 _ h5 3 48 239 #[(.val (.int i0)), (.val (.int i1)), (.val (.int i2)), (.val (.int i3)), (.val (.int bb)), (.val (.int op)), (.val (.ref s)), (.val (.ref base)), (.val (.int L)), (.val (.int d)), (.val (.int (4 : Int32))), (.val (.int p)), (.val ev), (.val (.ref a1)), .unset] [(.int (ff ss d p 2)), (.int (2 : Int32)), (.ref a1)]
  obtain ⟨c7, A7, q7, z7, y7, H7, G7⟩ := id V5
  refine iCastore C A7 (inb_of z7 ⟨by decide, by decide⟩) n_a1 d0_239 fun h7 W7 => ?_
  have V7 : Arv Z h7 a1 k1 .char (4 : Int32) [(.int (nar .char (ff ss d p 0))), (.int (nar .char (ff ss d p 1))), (.int (nar .char (ff ss d p 2))), (.int 0)] (.int 0) := Arv.set A7 q7 z7 y7 H7 G7 (fits_nar_char _) W7 2 (by decide) (Nat.le_of_ble_eq_true rfl)
  have O7 := O5.wr W7 n_a1
  refine iIload C d0_240 rfl ?_
  refine iIconst C d0_242 (v := (3 : Int32)) (by decide) ?_
  refine iCmpF C d0_243 (by decide) ?_
  refine iAload C d0_246 rfl rfl ?_
  refine iIconst C d0_248 (v := (3 : Int32)) (by decide) ?_
  refine iAload C d0_249 rfl rfl ?_
  refine iIconst C d0_251 (v := (3 : Int32)) (by decide) ?_
  refine iIload C d0_252 rfl ?_
  refine iIload C d0_254 rfl ?_
  refine iCallS C (rmA hw O7 S0 hz0 S1 rf ⟨((((HS.1.ext E1).wr W3).wr W5).wr W7), ((((HS.2.1.ext E1).other W3 (Or.inl (oNe HS.1.lt (Nat.le_of_eq g1.symm)))).other W5 (Or.inl (oNe HS.1.lt (Nat.le_of_eq g1.symm)))).other W7 (Or.inl (oNe HS.1.lt (Nat.le_of_eq g1.symm)))), ((((HS.2.2.1.ext E1).other W3 (Or.inl (oNe HS.1.lt (Nat.le_of_eq g1.symm)))).other W5 (Or.inl (oNe HS.1.lt (Nat.le_of_eq g1.symm)))).other W7 (Or.inl (oNe HS.1.lt (Nat.le_of_eq g1.symm)))), ((((HS.2.2.2.1.ext E1).other W3 (oNe HS.2.2.2.1.lt (Nat.le_of_eq g1.symm))).other W5 (oNe HS.2.2.2.1.lt (Nat.le_of_eq g1.symm))).other W7 (oNe HS.2.2.2.1.lt (Nat.le_of_eq g1.symm))), HS.2.2.2.2.1, HS.2.2.2.2.2⟩ (i := (3 : Int32)) (iN := 3) (p := p) (d := d) rfl (by decide) hd) tw25 tw26 tw27 tw28 ⟨by decide, by decide⟩ (argsL := [(.ref s), (.int (3 : Int32)), (.int p), (.int d)]) (S' := [(.int (3 : Int32)), (.ref a1)]) (lenOf pd5 rfl) rfl rfl d0_256 rfl (W := 2) rfl ⟨by decide, by decide, rfl, rfl, by decide, by decide⟩ fun v8 h8 q8 => ?_
  obtain ⟨rfl, rfl⟩ := q8
  show Go B n0 _ h7 3 48 259 #[(.val (.int i0)), (.val (.int i1)), (.val (.int i2)), (.val (.int i3)), (.val (.int bb)), (.val (.int op)), (.val (.ref s)), (.val (.ref base)), (.val (.int L)), (.val (.int d)), (.val (.int (4 : Int32))), (.val (.int p)), (.val ev), (.val (.ref a1)), .unset] [(.int (ff ss d p 3)), (.int (3 : Int32)), (.ref a1)]
  obtain ⟨c9, A9, q9, z9, y9, H9, G9⟩ := id V7
  refine iCastore C A9 (inb_of z9 ⟨by decide, by decide⟩) n_a1 d0_259 fun h9 W9 => ?_
  have V9 : Arv Z h9 a1 k1 .char (4 : Int32) [(.int (nar .char (ff ss d p 0))), (.int (nar .char (ff ss d p 1))), (.int (nar .char (ff ss d p 2))), (.int (nar .char (ff ss d p 3)))] (.int 0) := Arv.set A9 q9 z9 y9 H9 G9 (fits_nar_char _) W9 3 (by decide) (Nat.le_of_ble_eq_true rfl)
  have O9 := O7.wr W9 n_a1
  refine iIload C d0_260 rfl ?_
  refine iIconst C d0_262 (v := (4 : Int32)) (by decide) ?_
  refine iCmpT C (t := 280) d0_263 (by decide) ⟨by decide, by decide⟩ ?_
  refine iIload C d0_280 rfl ?_
  refine iIconst C d0_282 (v := (5 : Int32)) (by decide) ?_
  refine iCmpT C (t := 300) d0_283 (by decide) ⟨by decide, by decide⟩ ?_
  refine iIload C d0_300 rfl ?_
  refine iBipush C d0_302 (v := (6 : Int32)) (by decide) ?_
  refine iCmpT C (t := 323) d0_304 (by decide) ⟨by decide, by decide⟩ ?_
  refine iIload C d0_323 rfl ?_
  refine iBipush C d0_325 (v := (7 : Int32)) (by decide) ?_
  refine iCmpT C (t := 346) d0_327 (by decide) ⟨by decide, by decide⟩ ?_
  refine iIload C d0_346 rfl ?_
  refine iBipush C d0_348 (v := (8 : Int32)) (by decide) ?_
  refine iCmpT C (t := 369) d0_350 (by decide) ⟨by decide, by decide⟩ ?_
  refine iIload C d0_369 rfl ?_
  refine iBipush C d0_371 (v := (9 : Int32)) (by decide) ?_
  refine iCmpT C (t := 392) d0_373 (by decide) ⟨by decide, by decide⟩ ?_
  refine iIload C d0_392 rfl ?_
  refine iBipush C d0_394 (v := (10 : Int32)) (by decide) ?_
  refine iCmpT C (t := 415) d0_396 (by decide) ⟨by decide, by decide⟩ ?_
  refine iNew C tw51 tw2 tw1 d0_415 ⟨rfl, rfl, by decide, by decide⟩ fun h10 a10 g10 E10 A10 D10 => ?_
  have n_a10 : n0 ≤ a10 := oFresh O9 g10
  have O10 := O9.ext E10
  have F10_value : Fld Z h10 a10 "java/lang/String" "value" "[B" .null := D10 (Or.inr (hw _ tw4)) (ty := (.array .byte)) (by decide)
  have F10_coder : Fld Z h10 a10 "java/lang/String" "coder" "B" (.int (0 : Int32)) := D10 (Or.inr (hw _ tw5)) (ty := .byte) (by decide)
  refine iDup C d0_418 rfl ?_
  refine iAload C d0_419 rfl rfl ?_
  have K11 : Arv Z h10 a1 k1 .char (4 : Int32) (List.map Value.int [ff ss d p 0, ff ss d p 1, ff ss d p 2, ff ss d p 3]) (.int 0) := by
    have q := (V9.ext E10)
    simpa only [hnf, List.map] using q
  have P11 : ∀ c ∈ [ff ss d p 0, ff ss d p 1, ff ss d p 2, ff ss d p 3], ¬ c < 0 ∧ ¬ (255 : Int32) < c := by
    intro c hc
    simp only [List.mem_cons, List.not_mem_nil, or_false] at hc
    rcases hc with rfl | rfl | rfl | rfl <;> exact own_ff hd HS.2.2.2.2.2 _
  refine iCallIB C (a := a10) (payStr hw n_a10 O10 A10 F10_value F10_coder K11 (S0.ext O10.2) hz0 (n := 4) rfl rfl (by decide) (by decide) P11 (by decide) (by decide)) rfl tw52 tw53 tw54 ⟨by decide, by decide⟩ (argsL := [(.ref a1)]) (S' := [(.ref a10)]) (lenOf pd6 rfl) rfl rfl d0_421 rfl (W := 1) rfl ⟨rfl, rfl, by decide, by decide⟩ fun v12 h12 q12 => ?_
  obtain ⟨rfl, K_12, t_12, k_12, sx_12⟩ := q12
  have O12 := O10.keep K_12 (allS n_a10 all0)
  show Go B n0 _ h12 5 56 424 #[(.val (.int i0)), (.val (.int i1)), (.val (.int i2)), (.val (.int i3)), (.val (.int bb)), (.val (.int op)), (.val (.ref s)), (.val (.ref base)), (.val (.int L)), (.val (.int d)), (.val (.int (4 : Int32))), (.val (.int p)), (.val ev), (.val (.ref a1)), .unset] [(.ref a10)]
  refine iAstore C d0_424 (Ls' := #[(.val (.int i0)), (.val (.int i1)), (.val (.int i2)), (.val (.int i3)), (.val (.int bb)), (.val (.int op)), (.val (.ref s)), (.val (.ref base)), (.val (.int L)), (.val (.int d)), (.val (.int (4 : Int32))), (.val (.int p)), (.val ev), (.val (.ref a1)), (.val (.ref a10))]) rfl rfl ?_
  refine iAload C d0_426 rfl rfl ?_
  refine iCallS C (rmN hw G O12 FV hcap S0 hz0 SI SW sx_12) tw72 tw73 tw9 tw74 ⟨by decide, by decide⟩ (argsL := [(.ref a10)]) (S' := []) (lenOf pd7 rfl) rfl rfl d0_428 rfl (W := 0) rfl ⟨by decide, by decide, rfl, rfl, by decide, by decide⟩ fun v13 h13 q13 => ?_
  obtain ⟨rfl, E13⟩ := q13
  show Go B n0 _ h13 6 58 431 #[(.val (.int i0)), (.val (.int i1)), (.val (.int i2)), (.val (.int i3)), (.val (.int bb)), (.val (.int op)), (.val (.ref s)), (.val (.ref base)), (.val (.int L)), (.val (.int d)), (.val (.int (4 : Int32))), (.val (.int p)), (.val ev), (.val (.ref a1)), (.val (.ref a10))] [(pk ga1 ga3 [ff ss d p 0, ff ss d p 1, ff ss d p 2, ff ss d p 3])]
  rw [hE]
  rcases hev with rfl | ⟨ra, rfl⟩
  · refine iAload C d0_431 rfl rfl ?_
    refine iAcmpF C d0_433 rfl rfl (acE rfl).2 ?_
    refine iIconst C d0_436 (v := (1 : Int32)) (by decide) ?_
    refine iGoto C (t := 441) d0_437 ⟨by decide, by decide⟩ ?_
    refine iRetZ C d0_441 (by simp) ⟨Nat.le_refl _, by decide, by decide⟩ ?_
    exact rfl
  · refine iAload C d0_431 rfl rfl ?_
    refine iAcmpF C d0_433 rfl rfl (acE rfl).2 ?_
    refine iIconst C d0_436 (v := (1 : Int32)) (by decide) ?_
    refine iGoto C (t := 441) d0_437 ⟨by decide, by decide⟩ ?_
    refine iRetZ C d0_441 (by simp) ⟨Nat.le_refl _, by decide, by decide⟩ ?_
    exact rfl
set_option maxRecDepth 65536 in
set_option maxHeartbeats 4000000 in
theorem tl5 {l : Launch} {Z : State} {a0 : Array Value} (hw : ∀ d ∈ tables_1, d.before a0 Z = true) {n0 : Nat} {h0 : Heap} {ga1 ga2 ga3 ga4 ga5 ga6 ga7 : Addr} {gc2 gc5 gc7 : Cell} (G : GG Z ga1 ga2 ga3 ga4 ga5 ga6 ga7 gc2 gc5 gc7) (O : Old Z n0 h0) (FV : FitC Z gc2) (hcap : gc2.slots.size ≤ 2) {z0 : Int32} (S0 : Sta Z Z.heap "java/lang/String" "COMPACT_STRINGS" "Z" (.int z0)) (hz0 : ¬ z0 = 0) (SI : SX Z Z.heap ga4 ga5 gc5.cls SINJ) (SW : SX Z Z.heap ga6 ga7 gc7.cls SWD) {fm : Value} (S1 : Sta Z Z.heap "jdk/internal/util/Preconditions" "SIOOBE_FORMATTER" "Ljava/util/function/BiFunction;" fm) (rf : fm.isRef = true) (hcw : Jvm.Lit.compactW.before a0 Z = true) (hhE : Jvm.Lit.constHeld Z "java/lang/String" 7) {i0 i1 i2 i3 bb op L d p : Int32} {s base t : Addr} {k : ClassId} {ss : List Int32} {ev : Value} (HS : SX Z h0 s t k ss) (hd : ¬ d < 0 ∧ ¬ (255 : Int32) < d) (hev : ev = .null ∨ ∃ a, ev = .ref a) (hE : pk ga1 ga3 [ff ss d p 0, ff ss d p 1, ff ss d p 2, ff ss d p 3, ff ss d p 4] = ev) {B : Bx} (C : Cx B l Z a0 room_1 x code maxLocals ret n0) :
    Go B n0 (fun v _ => v = some (.int 1)) h0 2 44 175 #[(.val (.int i0)), (.val (.int i1)), (.val (.int i2)), (.val (.int i3)), (.val (.int bb)), (.val (.int op)), (.val (.ref s)), (.val (.ref base)), (.val (.int L)), (.val (.int d)), (.val (.int (5 : Int32))), (.val (.int p)), (.val ev), .unset, .unset] [] := by
  have hrf : ev.isRef = true := by rcases hev with rfl | ⟨a, rfl⟩ <;> rfl
  have hnf : ∀ i, nar .char (ff ss d p i) = ff ss d p i := fun i => own_nar (own_ff hd HS.2.2.2.2.2 i)
  refine iIload C d0_175 rfl ?_
  refine iNewP C (aty := .char) tw24 d0_177 (by decide) (cap := 5) (by decide) (by decide) ⟨rfl, rfl, by decide, by decide⟩ fun h1 a1 k1 g1 E1 V1 => ?_
  have n_a1 : n0 ≤ a1 := oFresh O g1
  have O1 := O.ext E1
  have V1 : Arv Z h1 a1 k1 .char (5 : Int32) [(.int 0), (.int 0), (.int 0), (.int 0), (.int 0)] (.int 0) := V1.pad (pad_rep [] (.int 0) 5)
  refine iAstore C d0_179 (Ls' := #[(.val (.int i0)), (.val (.int i1)), (.val (.int i2)), (.val (.int i3)), (.val (.int bb)), (.val (.int op)), (.val (.ref s)), (.val (.ref base)), (.val (.int L)), (.val (.int d)), (.val (.int (5 : Int32))), (.val (.int p)), (.val ev), (.val (.ref a1)), .unset]) rfl rfl ?_
  refine iIload C d0_181 rfl ?_
  refine iIfF C d0_183 (by decide) ?_
  refine iAload C d0_186 rfl rfl ?_
  refine iIconst C d0_188 (v := (0 : Int32)) (by decide) ?_
  refine iAload C d0_189 rfl rfl ?_
  refine iIconst C d0_191 (v := (0 : Int32)) (by decide) ?_
  refine iIload C d0_192 rfl ?_
  refine iIload C d0_194 rfl ?_
  refine iCallS C (rmA hw O1 S0 hz0 S1 rf ⟨(HS.1.ext E1), (HS.2.1.ext E1), (HS.2.2.1.ext E1), (HS.2.2.2.1.ext E1), HS.2.2.2.2.1, HS.2.2.2.2.2⟩ (i := (0 : Int32)) (iN := 0) (p := p) (d := d) rfl (by decide) hd) tw25 tw26 tw27 tw28 ⟨by decide, by decide⟩ (argsL := [(.ref s), (.int (0 : Int32)), (.int p), (.int d)]) (S' := [(.int (0 : Int32)), (.ref a1)]) (lenOf pd5 rfl) rfl rfl d0_196 rfl (W := 2) rfl ⟨by decide, by decide, rfl, rfl, by decide, by decide⟩ fun v2 h2 q2 => ?_
  obtain ⟨rfl, rfl⟩ := q2
  show Go B n0 _ h1 3 49 199 #[(.val (.int i0)), (.val (.int i1)), (.val (.int i2)), (.val (.int i3)), (.val (.int bb)), (.val (.int op)), (.val (.ref s)), (.val (.ref base)), (.val (.int L)), (.val (.int d)), (.val (.int (5 : Int32))), (.val (.int p)), (.val ev), (.val (.ref a1)), .unset] [(.int (ff ss d p 0)), (.int (0 : Int32)), (.ref a1)]
  obtain ⟨c3, A3, q3, z3, y3, H3, G3⟩ := id V1
  refine iCastore C A3 (inb_of z3 ⟨by decide, by decide⟩) n_a1 d0_199 fun h3 W3 => ?_
  have V3 : Arv Z h3 a1 k1 .char (5 : Int32) [(.int (nar .char (ff ss d p 0))), (.int 0), (.int 0), (.int 0), (.int 0)] (.int 0) := Arv.set A3 q3 z3 y3 H3 G3 (fits_nar_char _) W3 0 (by decide) (Nat.le_of_ble_eq_true rfl)
  have O3 := O1.wr W3 n_a1
  refine iIload C d0_200 rfl ?_
  refine iIconst C d0_202 (v := (1 : Int32)) (by decide) ?_
  refine iCmpF C d0_203 (by decide) ?_
  refine iAload C d0_206 rfl rfl ?_
  refine iIconst C d0_208 (v := (1 : Int32)) (by decide) ?_
  refine iAload C d0_209 rfl rfl ?_
  refine iIconst C d0_211 (v := (1 : Int32)) (by decide) ?_
  refine iIload C d0_212 rfl ?_
  refine iIload C d0_214 rfl ?_
  refine iCallS C (rmA hw O3 S0 hz0 S1 rf ⟨((HS.1.ext E1).wr W3), ((HS.2.1.ext E1).other W3 (Or.inl (oNe HS.1.lt (Nat.le_of_eq g1.symm)))), ((HS.2.2.1.ext E1).other W3 (Or.inl (oNe HS.1.lt (Nat.le_of_eq g1.symm)))), ((HS.2.2.2.1.ext E1).other W3 (oNe HS.2.2.2.1.lt (Nat.le_of_eq g1.symm))), HS.2.2.2.2.1, HS.2.2.2.2.2⟩ (i := (1 : Int32)) (iN := 1) (p := p) (d := d) rfl (by decide) hd) tw25 tw26 tw27 tw28 ⟨by decide, by decide⟩ (argsL := [(.ref s), (.int (1 : Int32)), (.int p), (.int d)]) (S' := [(.int (1 : Int32)), (.ref a1)]) (lenOf pd5 rfl) rfl rfl d0_216 rfl (W := 2) rfl ⟨by decide, by decide, rfl, rfl, by decide, by decide⟩ fun v4 h4 q4 => ?_
  obtain ⟨rfl, rfl⟩ := q4
  show Go B n0 _ h3 3 49 219 #[(.val (.int i0)), (.val (.int i1)), (.val (.int i2)), (.val (.int i3)), (.val (.int bb)), (.val (.int op)), (.val (.ref s)), (.val (.ref base)), (.val (.int L)), (.val (.int d)), (.val (.int (5 : Int32))), (.val (.int p)), (.val ev), (.val (.ref a1)), .unset] [(.int (ff ss d p 1)), (.int (1 : Int32)), (.ref a1)]
  obtain ⟨c5, A5, q5, z5, y5, H5, G5⟩ := id V3
  refine iCastore C A5 (inb_of z5 ⟨by decide, by decide⟩) n_a1 d0_219 fun h5 W5 => ?_
  have V5 : Arv Z h5 a1 k1 .char (5 : Int32) [(.int (nar .char (ff ss d p 0))), (.int (nar .char (ff ss d p 1))), (.int 0), (.int 0), (.int 0)] (.int 0) := Arv.set A5 q5 z5 y5 H5 G5 (fits_nar_char _) W5 1 (by decide) (Nat.le_of_ble_eq_true rfl)
  have O5 := O3.wr W5 n_a1
  refine iIload C d0_220 rfl ?_
  refine iIconst C d0_222 (v := (2 : Int32)) (by decide) ?_
  refine iCmpF C d0_223 (by decide) ?_
  refine iAload C d0_226 rfl rfl ?_
  refine iIconst C d0_228 (v := (2 : Int32)) (by decide) ?_
  refine iAload C d0_229 rfl rfl ?_
  refine iIconst C d0_231 (v := (2 : Int32)) (by decide) ?_
  refine iIload C d0_232 rfl ?_
  refine iIload C d0_234 rfl ?_
  refine iCallS C (rmA hw O5 S0 hz0 S1 rf ⟨(((HS.1.ext E1).wr W3).wr W5), (((HS.2.1.ext E1).other W3 (Or.inl (oNe HS.1.lt (Nat.le_of_eq g1.symm)))).other W5 (Or.inl (oNe HS.1.lt (Nat.le_of_eq g1.symm)))), (((HS.2.2.1.ext E1).other W3 (Or.inl (oNe HS.1.lt (Nat.le_of_eq g1.symm)))).other W5 (Or.inl (oNe HS.1.lt (Nat.le_of_eq g1.symm)))), (((HS.2.2.2.1.ext E1).other W3 (oNe HS.2.2.2.1.lt (Nat.le_of_eq g1.symm))).other W5 (oNe HS.2.2.2.1.lt (Nat.le_of_eq g1.symm))), HS.2.2.2.2.1, HS.2.2.2.2.2⟩ (i := (2 : Int32)) (iN := 2) (p := p) (d := d) rfl (by decide) hd) tw25 tw26 tw27 tw28 ⟨by decide, by decide⟩ (argsL := [(.ref s), (.int (2 : Int32)), (.int p), (.int d)]) (S' := [(.int (2 : Int32)), (.ref a1)]) (lenOf pd5 rfl) rfl rfl d0_236 rfl (W := 2) rfl ⟨by decide, by decide, rfl, rfl, by decide, by decide⟩ fun v6 h6 q6 => ?_
  obtain ⟨rfl, rfl⟩ := q6
  show Go B n0 _ h5 3 49 239 #[(.val (.int i0)), (.val (.int i1)), (.val (.int i2)), (.val (.int i3)), (.val (.int bb)), (.val (.int op)), (.val (.ref s)), (.val (.ref base)), (.val (.int L)), (.val (.int d)), (.val (.int (5 : Int32))), (.val (.int p)), (.val ev), (.val (.ref a1)), .unset] [(.int (ff ss d p 2)), (.int (2 : Int32)), (.ref a1)]
  obtain ⟨c7, A7, q7, z7, y7, H7, G7⟩ := id V5
  refine iCastore C A7 (inb_of z7 ⟨by decide, by decide⟩) n_a1 d0_239 fun h7 W7 => ?_
  have V7 : Arv Z h7 a1 k1 .char (5 : Int32) [(.int (nar .char (ff ss d p 0))), (.int (nar .char (ff ss d p 1))), (.int (nar .char (ff ss d p 2))), (.int 0), (.int 0)] (.int 0) := Arv.set A7 q7 z7 y7 H7 G7 (fits_nar_char _) W7 2 (by decide) (Nat.le_of_ble_eq_true rfl)
  have O7 := O5.wr W7 n_a1
  refine iIload C d0_240 rfl ?_
  refine iIconst C d0_242 (v := (3 : Int32)) (by decide) ?_
  refine iCmpF C d0_243 (by decide) ?_
  refine iAload C d0_246 rfl rfl ?_
  refine iIconst C d0_248 (v := (3 : Int32)) (by decide) ?_
  refine iAload C d0_249 rfl rfl ?_
  refine iIconst C d0_251 (v := (3 : Int32)) (by decide) ?_
  refine iIload C d0_252 rfl ?_
  refine iIload C d0_254 rfl ?_
  refine iCallS C (rmA hw O7 S0 hz0 S1 rf ⟨((((HS.1.ext E1).wr W3).wr W5).wr W7), ((((HS.2.1.ext E1).other W3 (Or.inl (oNe HS.1.lt (Nat.le_of_eq g1.symm)))).other W5 (Or.inl (oNe HS.1.lt (Nat.le_of_eq g1.symm)))).other W7 (Or.inl (oNe HS.1.lt (Nat.le_of_eq g1.symm)))), ((((HS.2.2.1.ext E1).other W3 (Or.inl (oNe HS.1.lt (Nat.le_of_eq g1.symm)))).other W5 (Or.inl (oNe HS.1.lt (Nat.le_of_eq g1.symm)))).other W7 (Or.inl (oNe HS.1.lt (Nat.le_of_eq g1.symm)))), ((((HS.2.2.2.1.ext E1).other W3 (oNe HS.2.2.2.1.lt (Nat.le_of_eq g1.symm))).other W5 (oNe HS.2.2.2.1.lt (Nat.le_of_eq g1.symm))).other W7 (oNe HS.2.2.2.1.lt (Nat.le_of_eq g1.symm))), HS.2.2.2.2.1, HS.2.2.2.2.2⟩ (i := (3 : Int32)) (iN := 3) (p := p) (d := d) rfl (by decide) hd) tw25 tw26 tw27 tw28 ⟨by decide, by decide⟩ (argsL := [(.ref s), (.int (3 : Int32)), (.int p), (.int d)]) (S' := [(.int (3 : Int32)), (.ref a1)]) (lenOf pd5 rfl) rfl rfl d0_256 rfl (W := 2) rfl ⟨by decide, by decide, rfl, rfl, by decide, by decide⟩ fun v8 h8 q8 => ?_
  obtain ⟨rfl, rfl⟩ := q8
  show Go B n0 _ h7 3 49 259 #[(.val (.int i0)), (.val (.int i1)), (.val (.int i2)), (.val (.int i3)), (.val (.int bb)), (.val (.int op)), (.val (.ref s)), (.val (.ref base)), (.val (.int L)), (.val (.int d)), (.val (.int (5 : Int32))), (.val (.int p)), (.val ev), (.val (.ref a1)), .unset] [(.int (ff ss d p 3)), (.int (3 : Int32)), (.ref a1)]
  obtain ⟨c9, A9, q9, z9, y9, H9, G9⟩ := id V7
  refine iCastore C A9 (inb_of z9 ⟨by decide, by decide⟩) n_a1 d0_259 fun h9 W9 => ?_
  have V9 : Arv Z h9 a1 k1 .char (5 : Int32) [(.int (nar .char (ff ss d p 0))), (.int (nar .char (ff ss d p 1))), (.int (nar .char (ff ss d p 2))), (.int (nar .char (ff ss d p 3))), (.int 0)] (.int 0) := Arv.set A9 q9 z9 y9 H9 G9 (fits_nar_char _) W9 3 (by decide) (Nat.le_of_ble_eq_true rfl)
  have O9 := O7.wr W9 n_a1
  refine iIload C d0_260 rfl ?_
  refine iIconst C d0_262 (v := (4 : Int32)) (by decide) ?_
  refine iCmpF C d0_263 (by decide) ?_
  refine iAload C d0_266 rfl rfl ?_
  refine iIconst C d0_268 (v := (4 : Int32)) (by decide) ?_
  refine iAload C d0_269 rfl rfl ?_
  refine iIconst C d0_271 (v := (4 : Int32)) (by decide) ?_
  refine iIload C d0_272 rfl ?_
  refine iIload C d0_274 rfl ?_
  refine iCallS C (rmA hw O9 S0 hz0 S1 rf ⟨(((((HS.1.ext E1).wr W3).wr W5).wr W7).wr W9), (((((HS.2.1.ext E1).other W3 (Or.inl (oNe HS.1.lt (Nat.le_of_eq g1.symm)))).other W5 (Or.inl (oNe HS.1.lt (Nat.le_of_eq g1.symm)))).other W7 (Or.inl (oNe HS.1.lt (Nat.le_of_eq g1.symm)))).other W9 (Or.inl (oNe HS.1.lt (Nat.le_of_eq g1.symm)))), (((((HS.2.2.1.ext E1).other W3 (Or.inl (oNe HS.1.lt (Nat.le_of_eq g1.symm)))).other W5 (Or.inl (oNe HS.1.lt (Nat.le_of_eq g1.symm)))).other W7 (Or.inl (oNe HS.1.lt (Nat.le_of_eq g1.symm)))).other W9 (Or.inl (oNe HS.1.lt (Nat.le_of_eq g1.symm)))), (((((HS.2.2.2.1.ext E1).other W3 (oNe HS.2.2.2.1.lt (Nat.le_of_eq g1.symm))).other W5 (oNe HS.2.2.2.1.lt (Nat.le_of_eq g1.symm))).other W7 (oNe HS.2.2.2.1.lt (Nat.le_of_eq g1.symm))).other W9 (oNe HS.2.2.2.1.lt (Nat.le_of_eq g1.symm))), HS.2.2.2.2.1, HS.2.2.2.2.2⟩ (i := (4 : Int32)) (iN := 4) (p := p) (d := d) rfl (by decide) hd) tw25 tw26 tw27 tw28 ⟨by decide, by decide⟩ (argsL := [(.ref s), (.int (4 : Int32)), (.int p), (.int d)]) (S' := [(.int (4 : Int32)), (.ref a1)]) (lenOf pd5 rfl) rfl rfl d0_276 rfl (W := 2) rfl ⟨by decide, by decide, rfl, rfl, by decide, by decide⟩ fun v10 h10 q10 => ?_
  obtain ⟨rfl, rfl⟩ := q10
  show Go B n0 _ h9 3 49 279 #[(.val (.int i0)), (.val (.int i1)), (.val (.int i2)), (.val (.int i3)), (.val (.int bb)), (.val (.int op)), (.val (.ref s)), (.val (.ref base)), (.val (.int L)), (.val (.int d)), (.val (.int (5 : Int32))), (.val (.int p)), (.val ev), (.val (.ref a1)), .unset] [(.int (ff ss d p 4)), (.int (4 : Int32)), (.ref a1)]
  obtain ⟨c11, A11, q11, z11, y11, H11, G11⟩ := id V9
  refine iCastore C A11 (inb_of z11 ⟨by decide, by decide⟩) n_a1 d0_279 fun h11 W11 => ?_
  have V11 : Arv Z h11 a1 k1 .char (5 : Int32) [(.int (nar .char (ff ss d p 0))), (.int (nar .char (ff ss d p 1))), (.int (nar .char (ff ss d p 2))), (.int (nar .char (ff ss d p 3))), (.int (nar .char (ff ss d p 4)))] (.int 0) := Arv.set A11 q11 z11 y11 H11 G11 (fits_nar_char _) W11 4 (by decide) (Nat.le_of_ble_eq_true rfl)
  have O11 := O9.wr W11 n_a1
  refine iIload C d0_280 rfl ?_
  refine iIconst C d0_282 (v := (5 : Int32)) (by decide) ?_
  refine iCmpT C (t := 300) d0_283 (by decide) ⟨by decide, by decide⟩ ?_
  refine iIload C d0_300 rfl ?_
  refine iBipush C d0_302 (v := (6 : Int32)) (by decide) ?_
  refine iCmpT C (t := 323) d0_304 (by decide) ⟨by decide, by decide⟩ ?_
  refine iIload C d0_323 rfl ?_
  refine iBipush C d0_325 (v := (7 : Int32)) (by decide) ?_
  refine iCmpT C (t := 346) d0_327 (by decide) ⟨by decide, by decide⟩ ?_
  refine iIload C d0_346 rfl ?_
  refine iBipush C d0_348 (v := (8 : Int32)) (by decide) ?_
  refine iCmpT C (t := 369) d0_350 (by decide) ⟨by decide, by decide⟩ ?_
  refine iIload C d0_369 rfl ?_
  refine iBipush C d0_371 (v := (9 : Int32)) (by decide) ?_
  refine iCmpT C (t := 392) d0_373 (by decide) ⟨by decide, by decide⟩ ?_
  refine iIload C d0_392 rfl ?_
  refine iBipush C d0_394 (v := (10 : Int32)) (by decide) ?_
  refine iCmpT C (t := 415) d0_396 (by decide) ⟨by decide, by decide⟩ ?_
  refine iNew C tw51 tw2 tw1 d0_415 ⟨rfl, rfl, by decide, by decide⟩ fun h12 a12 g12 E12 A12 D12 => ?_
  have n_a12 : n0 ≤ a12 := oFresh O11 g12
  have O12 := O11.ext E12
  have F12_value : Fld Z h12 a12 "java/lang/String" "value" "[B" .null := D12 (Or.inr (hw _ tw4)) (ty := (.array .byte)) (by decide)
  have F12_coder : Fld Z h12 a12 "java/lang/String" "coder" "B" (.int (0 : Int32)) := D12 (Or.inr (hw _ tw5)) (ty := .byte) (by decide)
  refine iDup C d0_418 rfl ?_
  refine iAload C d0_419 rfl rfl ?_
  have K13 : Arv Z h12 a1 k1 .char (5 : Int32) (List.map Value.int [ff ss d p 0, ff ss d p 1, ff ss d p 2, ff ss d p 3, ff ss d p 4]) (.int 0) := by
    have q := (V11.ext E12)
    simpa only [hnf, List.map] using q
  have P13 : ∀ c ∈ [ff ss d p 0, ff ss d p 1, ff ss d p 2, ff ss d p 3, ff ss d p 4], ¬ c < 0 ∧ ¬ (255 : Int32) < c := by
    intro c hc
    simp only [List.mem_cons, List.not_mem_nil, or_false] at hc
    rcases hc with rfl | rfl | rfl | rfl | rfl <;> exact own_ff hd HS.2.2.2.2.2 _
  refine iCallIB C (a := a12) (payStr hw n_a12 O12 A12 F12_value F12_coder K13 (S0.ext O12.2) hz0 (n := 5) rfl rfl (by decide) (by decide) P13 (by decide) (by decide)) rfl tw52 tw53 tw54 ⟨by decide, by decide⟩ (argsL := [(.ref a1)]) (S' := [(.ref a12)]) (lenOf pd6 rfl) rfl rfl d0_421 rfl (W := 1) rfl ⟨rfl, rfl, by decide, by decide⟩ fun v14 h14 q14 => ?_
  obtain ⟨rfl, K_14, t_14, k_14, sx_14⟩ := q14
  have O14 := O12.keep K_14 (allS n_a12 all0)
  show Go B n0 _ h14 5 58 424 #[(.val (.int i0)), (.val (.int i1)), (.val (.int i2)), (.val (.int i3)), (.val (.int bb)), (.val (.int op)), (.val (.ref s)), (.val (.ref base)), (.val (.int L)), (.val (.int d)), (.val (.int (5 : Int32))), (.val (.int p)), (.val ev), (.val (.ref a1)), .unset] [(.ref a12)]
  refine iAstore C d0_424 (Ls' := #[(.val (.int i0)), (.val (.int i1)), (.val (.int i2)), (.val (.int i3)), (.val (.int bb)), (.val (.int op)), (.val (.ref s)), (.val (.ref base)), (.val (.int L)), (.val (.int d)), (.val (.int (5 : Int32))), (.val (.int p)), (.val ev), (.val (.ref a1)), (.val (.ref a12))]) rfl rfl ?_
  refine iAload C d0_426 rfl rfl ?_
  refine iCallS C (rmN hw G O14 FV hcap S0 hz0 SI SW sx_14) tw72 tw73 tw9 tw74 ⟨by decide, by decide⟩ (argsL := [(.ref a12)]) (S' := []) (lenOf pd7 rfl) rfl rfl d0_428 rfl (W := 0) rfl ⟨by decide, by decide, rfl, rfl, by decide, by decide⟩ fun v15 h15 q15 => ?_
  obtain ⟨rfl, E15⟩ := q15
  show Go B n0 _ h15 6 60 431 #[(.val (.int i0)), (.val (.int i1)), (.val (.int i2)), (.val (.int i3)), (.val (.int bb)), (.val (.int op)), (.val (.ref s)), (.val (.ref base)), (.val (.int L)), (.val (.int d)), (.val (.int (5 : Int32))), (.val (.int p)), (.val ev), (.val (.ref a1)), (.val (.ref a12))] [(pk ga1 ga3 [ff ss d p 0, ff ss d p 1, ff ss d p 2, ff ss d p 3, ff ss d p 4])]
  rw [hE]
  rcases hev with rfl | ⟨ra, rfl⟩
  · refine iAload C d0_431 rfl rfl ?_
    refine iAcmpF C d0_433 rfl rfl (acE rfl).2 ?_
    refine iIconst C d0_436 (v := (1 : Int32)) (by decide) ?_
    refine iGoto C (t := 441) d0_437 ⟨by decide, by decide⟩ ?_
    refine iRetZ C d0_441 (by simp) ⟨Nat.le_refl _, by decide, by decide⟩ ?_
    exact rfl
  · refine iAload C d0_431 rfl rfl ?_
    refine iAcmpF C d0_433 rfl rfl (acE rfl).2 ?_
    refine iIconst C d0_436 (v := (1 : Int32)) (by decide) ?_
    refine iGoto C (t := 441) d0_437 ⟨by decide, by decide⟩ ?_
    refine iRetZ C d0_441 (by simp) ⟨Nat.le_refl _, by decide, by decide⟩ ?_
    exact rfl
set_option maxRecDepth 65536 in
set_option maxHeartbeats 4000000 in
theorem tl6 {l : Launch} {Z : State} {a0 : Array Value} (hw : ∀ d ∈ tables_1, d.before a0 Z = true) {n0 : Nat} {h0 : Heap} {ga1 ga2 ga3 ga4 ga5 ga6 ga7 : Addr} {gc2 gc5 gc7 : Cell} (G : GG Z ga1 ga2 ga3 ga4 ga5 ga6 ga7 gc2 gc5 gc7) (O : Old Z n0 h0) (FV : FitC Z gc2) (hcap : gc2.slots.size ≤ 2) {z0 : Int32} (S0 : Sta Z Z.heap "java/lang/String" "COMPACT_STRINGS" "Z" (.int z0)) (hz0 : ¬ z0 = 0) (SI : SX Z Z.heap ga4 ga5 gc5.cls SINJ) (SW : SX Z Z.heap ga6 ga7 gc7.cls SWD) {fm : Value} (S1 : Sta Z Z.heap "jdk/internal/util/Preconditions" "SIOOBE_FORMATTER" "Ljava/util/function/BiFunction;" fm) (rf : fm.isRef = true) (hcw : Jvm.Lit.compactW.before a0 Z = true) (hhE : Jvm.Lit.constHeld Z "java/lang/String" 7) {i0 i1 i2 i3 bb op L d p : Int32} {s base t : Addr} {k : ClassId} {ss : List Int32} {ev : Value} (HS : SX Z h0 s t k ss) (hd : ¬ d < 0 ∧ ¬ (255 : Int32) < d) (hev : ev = .null ∨ ∃ a, ev = .ref a) (hE : pk ga1 ga3 [ff ss d p 0, ff ss d p 1, ff ss d p 2, ff ss d p 3, ff ss d p 4, ff ss d p 5] = ev) {B : Bx} (C : Cx B l Z a0 room_1 x code maxLocals ret n0) :
    Go B n0 (fun v _ => v = some (.int 1)) h0 2 44 175 #[(.val (.int i0)), (.val (.int i1)), (.val (.int i2)), (.val (.int i3)), (.val (.int bb)), (.val (.int op)), (.val (.ref s)), (.val (.ref base)), (.val (.int L)), (.val (.int d)), (.val (.int (6 : Int32))), (.val (.int p)), (.val ev), .unset, .unset] [] := by
  have hrf : ev.isRef = true := by rcases hev with rfl | ⟨a, rfl⟩ <;> rfl
  have hnf : ∀ i, nar .char (ff ss d p i) = ff ss d p i := fun i => own_nar (own_ff hd HS.2.2.2.2.2 i)
  refine iIload C d0_175 rfl ?_
  refine iNewP C (aty := .char) tw24 d0_177 (by decide) (cap := 6) (by decide) (by decide) ⟨rfl, rfl, by decide, by decide⟩ fun h1 a1 k1 g1 E1 V1 => ?_
  have n_a1 : n0 ≤ a1 := oFresh O g1
  have O1 := O.ext E1
  have V1 : Arv Z h1 a1 k1 .char (6 : Int32) [(.int 0), (.int 0), (.int 0), (.int 0), (.int 0), (.int 0)] (.int 0) := V1.pad (pad_rep [] (.int 0) 6)
  refine iAstore C d0_179 (Ls' := #[(.val (.int i0)), (.val (.int i1)), (.val (.int i2)), (.val (.int i3)), (.val (.int bb)), (.val (.int op)), (.val (.ref s)), (.val (.ref base)), (.val (.int L)), (.val (.int d)), (.val (.int (6 : Int32))), (.val (.int p)), (.val ev), (.val (.ref a1)), .unset]) rfl rfl ?_
  refine iIload C d0_181 rfl ?_
  refine iIfF C d0_183 (by decide) ?_
  refine iAload C d0_186 rfl rfl ?_
  refine iIconst C d0_188 (v := (0 : Int32)) (by decide) ?_
  refine iAload C d0_189 rfl rfl ?_
  refine iIconst C d0_191 (v := (0 : Int32)) (by decide) ?_
  refine iIload C d0_192 rfl ?_
  refine iIload C d0_194 rfl ?_
  refine iCallS C (rmA hw O1 S0 hz0 S1 rf ⟨(HS.1.ext E1), (HS.2.1.ext E1), (HS.2.2.1.ext E1), (HS.2.2.2.1.ext E1), HS.2.2.2.2.1, HS.2.2.2.2.2⟩ (i := (0 : Int32)) (iN := 0) (p := p) (d := d) rfl (by decide) hd) tw25 tw26 tw27 tw28 ⟨by decide, by decide⟩ (argsL := [(.ref s), (.int (0 : Int32)), (.int p), (.int d)]) (S' := [(.int (0 : Int32)), (.ref a1)]) (lenOf pd5 rfl) rfl rfl d0_196 rfl (W := 2) rfl ⟨by decide, by decide, rfl, rfl, by decide, by decide⟩ fun v2 h2 q2 => ?_
  obtain ⟨rfl, rfl⟩ := q2
  show Go B n0 _ h1 3 50 199 #[(.val (.int i0)), (.val (.int i1)), (.val (.int i2)), (.val (.int i3)), (.val (.int bb)), (.val (.int op)), (.val (.ref s)), (.val (.ref base)), (.val (.int L)), (.val (.int d)), (.val (.int (6 : Int32))), (.val (.int p)), (.val ev), (.val (.ref a1)), .unset] [(.int (ff ss d p 0)), (.int (0 : Int32)), (.ref a1)]
  obtain ⟨c3, A3, q3, z3, y3, H3, G3⟩ := id V1
  refine iCastore C A3 (inb_of z3 ⟨by decide, by decide⟩) n_a1 d0_199 fun h3 W3 => ?_
  have V3 : Arv Z h3 a1 k1 .char (6 : Int32) [(.int (nar .char (ff ss d p 0))), (.int 0), (.int 0), (.int 0), (.int 0), (.int 0)] (.int 0) := Arv.set A3 q3 z3 y3 H3 G3 (fits_nar_char _) W3 0 (by decide) (Nat.le_of_ble_eq_true rfl)
  have O3 := O1.wr W3 n_a1
  refine iIload C d0_200 rfl ?_
  refine iIconst C d0_202 (v := (1 : Int32)) (by decide) ?_
  refine iCmpF C d0_203 (by decide) ?_
  refine iAload C d0_206 rfl rfl ?_
  refine iIconst C d0_208 (v := (1 : Int32)) (by decide) ?_
  refine iAload C d0_209 rfl rfl ?_
  refine iIconst C d0_211 (v := (1 : Int32)) (by decide) ?_
  refine iIload C d0_212 rfl ?_
  refine iIload C d0_214 rfl ?_
  refine iCallS C (rmA hw O3 S0 hz0 S1 rf ⟨((HS.1.ext E1).wr W3), ((HS.2.1.ext E1).other W3 (Or.inl (oNe HS.1.lt (Nat.le_of_eq g1.symm)))), ((HS.2.2.1.ext E1).other W3 (Or.inl (oNe HS.1.lt (Nat.le_of_eq g1.symm)))), ((HS.2.2.2.1.ext E1).other W3 (oNe HS.2.2.2.1.lt (Nat.le_of_eq g1.symm))), HS.2.2.2.2.1, HS.2.2.2.2.2⟩ (i := (1 : Int32)) (iN := 1) (p := p) (d := d) rfl (by decide) hd) tw25 tw26 tw27 tw28 ⟨by decide, by decide⟩ (argsL := [(.ref s), (.int (1 : Int32)), (.int p), (.int d)]) (S' := [(.int (1 : Int32)), (.ref a1)]) (lenOf pd5 rfl) rfl rfl d0_216 rfl (W := 2) rfl ⟨by decide, by decide, rfl, rfl, by decide, by decide⟩ fun v4 h4 q4 => ?_
  obtain ⟨rfl, rfl⟩ := q4
  show Go B n0 _ h3 3 50 219 #[(.val (.int i0)), (.val (.int i1)), (.val (.int i2)), (.val (.int i3)), (.val (.int bb)), (.val (.int op)), (.val (.ref s)), (.val (.ref base)), (.val (.int L)), (.val (.int d)), (.val (.int (6 : Int32))), (.val (.int p)), (.val ev), (.val (.ref a1)), .unset] [(.int (ff ss d p 1)), (.int (1 : Int32)), (.ref a1)]
  obtain ⟨c5, A5, q5, z5, y5, H5, G5⟩ := id V3
  refine iCastore C A5 (inb_of z5 ⟨by decide, by decide⟩) n_a1 d0_219 fun h5 W5 => ?_
  have V5 : Arv Z h5 a1 k1 .char (6 : Int32) [(.int (nar .char (ff ss d p 0))), (.int (nar .char (ff ss d p 1))), (.int 0), (.int 0), (.int 0), (.int 0)] (.int 0) := Arv.set A5 q5 z5 y5 H5 G5 (fits_nar_char _) W5 1 (by decide) (Nat.le_of_ble_eq_true rfl)
  have O5 := O3.wr W5 n_a1
  refine iIload C d0_220 rfl ?_
  refine iIconst C d0_222 (v := (2 : Int32)) (by decide) ?_
  refine iCmpF C d0_223 (by decide) ?_
  refine iAload C d0_226 rfl rfl ?_
  refine iIconst C d0_228 (v := (2 : Int32)) (by decide) ?_
  refine iAload C d0_229 rfl rfl ?_
  refine iIconst C d0_231 (v := (2 : Int32)) (by decide) ?_
  refine iIload C d0_232 rfl ?_
  refine iIload C d0_234 rfl ?_
  refine iCallS C (rmA hw O5 S0 hz0 S1 rf ⟨(((HS.1.ext E1).wr W3).wr W5), (((HS.2.1.ext E1).other W3 (Or.inl (oNe HS.1.lt (Nat.le_of_eq g1.symm)))).other W5 (Or.inl (oNe HS.1.lt (Nat.le_of_eq g1.symm)))), (((HS.2.2.1.ext E1).other W3 (Or.inl (oNe HS.1.lt (Nat.le_of_eq g1.symm)))).other W5 (Or.inl (oNe HS.1.lt (Nat.le_of_eq g1.symm)))), (((HS.2.2.2.1.ext E1).other W3 (oNe HS.2.2.2.1.lt (Nat.le_of_eq g1.symm))).other W5 (oNe HS.2.2.2.1.lt (Nat.le_of_eq g1.symm))), HS.2.2.2.2.1, HS.2.2.2.2.2⟩ (i := (2 : Int32)) (iN := 2) (p := p) (d := d) rfl (by decide) hd) tw25 tw26 tw27 tw28 ⟨by decide, by decide⟩ (argsL := [(.ref s), (.int (2 : Int32)), (.int p), (.int d)]) (S' := [(.int (2 : Int32)), (.ref a1)]) (lenOf pd5 rfl) rfl rfl d0_236 rfl (W := 2) rfl ⟨by decide, by decide, rfl, rfl, by decide, by decide⟩ fun v6 h6 q6 => ?_
  obtain ⟨rfl, rfl⟩ := q6
  show Go B n0 _ h5 3 50 239 #[(.val (.int i0)), (.val (.int i1)), (.val (.int i2)), (.val (.int i3)), (.val (.int bb)), (.val (.int op)), (.val (.ref s)), (.val (.ref base)), (.val (.int L)), (.val (.int d)), (.val (.int (6 : Int32))), (.val (.int p)), (.val ev), (.val (.ref a1)), .unset] [(.int (ff ss d p 2)), (.int (2 : Int32)), (.ref a1)]
  obtain ⟨c7, A7, q7, z7, y7, H7, G7⟩ := id V5
  refine iCastore C A7 (inb_of z7 ⟨by decide, by decide⟩) n_a1 d0_239 fun h7 W7 => ?_
  have V7 : Arv Z h7 a1 k1 .char (6 : Int32) [(.int (nar .char (ff ss d p 0))), (.int (nar .char (ff ss d p 1))), (.int (nar .char (ff ss d p 2))), (.int 0), (.int 0), (.int 0)] (.int 0) := Arv.set A7 q7 z7 y7 H7 G7 (fits_nar_char _) W7 2 (by decide) (Nat.le_of_ble_eq_true rfl)
  have O7 := O5.wr W7 n_a1
  refine iIload C d0_240 rfl ?_
  refine iIconst C d0_242 (v := (3 : Int32)) (by decide) ?_
  refine iCmpF C d0_243 (by decide) ?_
  refine iAload C d0_246 rfl rfl ?_
  refine iIconst C d0_248 (v := (3 : Int32)) (by decide) ?_
  refine iAload C d0_249 rfl rfl ?_
  refine iIconst C d0_251 (v := (3 : Int32)) (by decide) ?_
  refine iIload C d0_252 rfl ?_
  refine iIload C d0_254 rfl ?_
  refine iCallS C (rmA hw O7 S0 hz0 S1 rf ⟨((((HS.1.ext E1).wr W3).wr W5).wr W7), ((((HS.2.1.ext E1).other W3 (Or.inl (oNe HS.1.lt (Nat.le_of_eq g1.symm)))).other W5 (Or.inl (oNe HS.1.lt (Nat.le_of_eq g1.symm)))).other W7 (Or.inl (oNe HS.1.lt (Nat.le_of_eq g1.symm)))), ((((HS.2.2.1.ext E1).other W3 (Or.inl (oNe HS.1.lt (Nat.le_of_eq g1.symm)))).other W5 (Or.inl (oNe HS.1.lt (Nat.le_of_eq g1.symm)))).other W7 (Or.inl (oNe HS.1.lt (Nat.le_of_eq g1.symm)))), ((((HS.2.2.2.1.ext E1).other W3 (oNe HS.2.2.2.1.lt (Nat.le_of_eq g1.symm))).other W5 (oNe HS.2.2.2.1.lt (Nat.le_of_eq g1.symm))).other W7 (oNe HS.2.2.2.1.lt (Nat.le_of_eq g1.symm))), HS.2.2.2.2.1, HS.2.2.2.2.2⟩ (i := (3 : Int32)) (iN := 3) (p := p) (d := d) rfl (by decide) hd) tw25 tw26 tw27 tw28 ⟨by decide, by decide⟩ (argsL := [(.ref s), (.int (3 : Int32)), (.int p), (.int d)]) (S' := [(.int (3 : Int32)), (.ref a1)]) (lenOf pd5 rfl) rfl rfl d0_256 rfl (W := 2) rfl ⟨by decide, by decide, rfl, rfl, by decide, by decide⟩ fun v8 h8 q8 => ?_
  obtain ⟨rfl, rfl⟩ := q8
  show Go B n0 _ h7 3 50 259 #[(.val (.int i0)), (.val (.int i1)), (.val (.int i2)), (.val (.int i3)), (.val (.int bb)), (.val (.int op)), (.val (.ref s)), (.val (.ref base)), (.val (.int L)), (.val (.int d)), (.val (.int (6 : Int32))), (.val (.int p)), (.val ev), (.val (.ref a1)), .unset] [(.int (ff ss d p 3)), (.int (3 : Int32)), (.ref a1)]
  obtain ⟨c9, A9, q9, z9, y9, H9, G9⟩ := id V7
  refine iCastore C A9 (inb_of z9 ⟨by decide, by decide⟩) n_a1 d0_259 fun h9 W9 => ?_
  have V9 : Arv Z h9 a1 k1 .char (6 : Int32) [(.int (nar .char (ff ss d p 0))), (.int (nar .char (ff ss d p 1))), (.int (nar .char (ff ss d p 2))), (.int (nar .char (ff ss d p 3))), (.int 0), (.int 0)] (.int 0) := Arv.set A9 q9 z9 y9 H9 G9 (fits_nar_char _) W9 3 (by decide) (Nat.le_of_ble_eq_true rfl)
  have O9 := O7.wr W9 n_a1
  refine iIload C d0_260 rfl ?_
  refine iIconst C d0_262 (v := (4 : Int32)) (by decide) ?_
  refine iCmpF C d0_263 (by decide) ?_
  refine iAload C d0_266 rfl rfl ?_
  refine iIconst C d0_268 (v := (4 : Int32)) (by decide) ?_
  refine iAload C d0_269 rfl rfl ?_
  refine iIconst C d0_271 (v := (4 : Int32)) (by decide) ?_
  refine iIload C d0_272 rfl ?_
  refine iIload C d0_274 rfl ?_
  refine iCallS C (rmA hw O9 S0 hz0 S1 rf ⟨(((((HS.1.ext E1).wr W3).wr W5).wr W7).wr W9), (((((HS.2.1.ext E1).other W3 (Or.inl (oNe HS.1.lt (Nat.le_of_eq g1.symm)))).other W5 (Or.inl (oNe HS.1.lt (Nat.le_of_eq g1.symm)))).other W7 (Or.inl (oNe HS.1.lt (Nat.le_of_eq g1.symm)))).other W9 (Or.inl (oNe HS.1.lt (Nat.le_of_eq g1.symm)))), (((((HS.2.2.1.ext E1).other W3 (Or.inl (oNe HS.1.lt (Nat.le_of_eq g1.symm)))).other W5 (Or.inl (oNe HS.1.lt (Nat.le_of_eq g1.symm)))).other W7 (Or.inl (oNe HS.1.lt (Nat.le_of_eq g1.symm)))).other W9 (Or.inl (oNe HS.1.lt (Nat.le_of_eq g1.symm)))), (((((HS.2.2.2.1.ext E1).other W3 (oNe HS.2.2.2.1.lt (Nat.le_of_eq g1.symm))).other W5 (oNe HS.2.2.2.1.lt (Nat.le_of_eq g1.symm))).other W7 (oNe HS.2.2.2.1.lt (Nat.le_of_eq g1.symm))).other W9 (oNe HS.2.2.2.1.lt (Nat.le_of_eq g1.symm))), HS.2.2.2.2.1, HS.2.2.2.2.2⟩ (i := (4 : Int32)) (iN := 4) (p := p) (d := d) rfl (by decide) hd) tw25 tw26 tw27 tw28 ⟨by decide, by decide⟩ (argsL := [(.ref s), (.int (4 : Int32)), (.int p), (.int d)]) (S' := [(.int (4 : Int32)), (.ref a1)]) (lenOf pd5 rfl) rfl rfl d0_276 rfl (W := 2) rfl ⟨by decide, by decide, rfl, rfl, by decide, by decide⟩ fun v10 h10 q10 => ?_
  obtain ⟨rfl, rfl⟩ := q10
  show Go B n0 _ h9 3 50 279 #[(.val (.int i0)), (.val (.int i1)), (.val (.int i2)), (.val (.int i3)), (.val (.int bb)), (.val (.int op)), (.val (.ref s)), (.val (.ref base)), (.val (.int L)), (.val (.int d)), (.val (.int (6 : Int32))), (.val (.int p)), (.val ev), (.val (.ref a1)), .unset] [(.int (ff ss d p 4)), (.int (4 : Int32)), (.ref a1)]
  obtain ⟨c11, A11, q11, z11, y11, H11, G11⟩ := id V9
  refine iCastore C A11 (inb_of z11 ⟨by decide, by decide⟩) n_a1 d0_279 fun h11 W11 => ?_
  have V11 : Arv Z h11 a1 k1 .char (6 : Int32) [(.int (nar .char (ff ss d p 0))), (.int (nar .char (ff ss d p 1))), (.int (nar .char (ff ss d p 2))), (.int (nar .char (ff ss d p 3))), (.int (nar .char (ff ss d p 4))), (.int 0)] (.int 0) := Arv.set A11 q11 z11 y11 H11 G11 (fits_nar_char _) W11 4 (by decide) (Nat.le_of_ble_eq_true rfl)
  have O11 := O9.wr W11 n_a1
  refine iIload C d0_280 rfl ?_
  refine iIconst C d0_282 (v := (5 : Int32)) (by decide) ?_
  refine iCmpF C d0_283 (by decide) ?_
  refine iAload C d0_286 rfl rfl ?_
  refine iIconst C d0_288 (v := (5 : Int32)) (by decide) ?_
  refine iAload C d0_289 rfl rfl ?_
  refine iIconst C d0_291 (v := (5 : Int32)) (by decide) ?_
  refine iIload C d0_292 rfl ?_
  refine iIload C d0_294 rfl ?_
  refine iCallS C (rmA hw O11 S0 hz0 S1 rf ⟨((((((HS.1.ext E1).wr W3).wr W5).wr W7).wr W9).wr W11), ((((((HS.2.1.ext E1).other W3 (Or.inl (oNe HS.1.lt (Nat.le_of_eq g1.symm)))).other W5 (Or.inl (oNe HS.1.lt (Nat.le_of_eq g1.symm)))).other W7 (Or.inl (oNe HS.1.lt (Nat.le_of_eq g1.symm)))).other W9 (Or.inl (oNe HS.1.lt (Nat.le_of_eq g1.symm)))).other W11 (Or.inl (oNe HS.1.lt (Nat.le_of_eq g1.symm)))), ((((((HS.2.2.1.ext E1).other W3 (Or.inl (oNe HS.1.lt (Nat.le_of_eq g1.symm)))).other W5 (Or.inl (oNe HS.1.lt (Nat.le_of_eq g1.symm)))).other W7 (Or.inl (oNe HS.1.lt (Nat.le_of_eq g1.symm)))).other W9 (Or.inl (oNe HS.1.lt (Nat.le_of_eq g1.symm)))).other W11 (Or.inl (oNe HS.1.lt (Nat.le_of_eq g1.symm)))), ((((((HS.2.2.2.1.ext E1).other W3 (oNe HS.2.2.2.1.lt (Nat.le_of_eq g1.symm))).other W5 (oNe HS.2.2.2.1.lt (Nat.le_of_eq g1.symm))).other W7 (oNe HS.2.2.2.1.lt (Nat.le_of_eq g1.symm))).other W9 (oNe HS.2.2.2.1.lt (Nat.le_of_eq g1.symm))).other W11 (oNe HS.2.2.2.1.lt (Nat.le_of_eq g1.symm))), HS.2.2.2.2.1, HS.2.2.2.2.2⟩ (i := (5 : Int32)) (iN := 5) (p := p) (d := d) rfl (by decide) hd) tw25 tw26 tw27 tw28 ⟨by decide, by decide⟩ (argsL := [(.ref s), (.int (5 : Int32)), (.int p), (.int d)]) (S' := [(.int (5 : Int32)), (.ref a1)]) (lenOf pd5 rfl) rfl rfl d0_296 rfl (W := 2) rfl ⟨by decide, by decide, rfl, rfl, by decide, by decide⟩ fun v12 h12 q12 => ?_
  obtain ⟨rfl, rfl⟩ := q12
  show Go B n0 _ h11 3 50 299 #[(.val (.int i0)), (.val (.int i1)), (.val (.int i2)), (.val (.int i3)), (.val (.int bb)), (.val (.int op)), (.val (.ref s)), (.val (.ref base)), (.val (.int L)), (.val (.int d)), (.val (.int (6 : Int32))), (.val (.int p)), (.val ev), (.val (.ref a1)), .unset] [(.int (ff ss d p 5)), (.int (5 : Int32)), (.ref a1)]
  obtain ⟨c13, A13, q13, z13, y13, H13, G13⟩ := id V11
  refine iCastore C A13 (inb_of z13 ⟨by decide, by decide⟩) n_a1 d0_299 fun h13 W13 => ?_
  have V13 : Arv Z h13 a1 k1 .char (6 : Int32) [(.int (nar .char (ff ss d p 0))), (.int (nar .char (ff ss d p 1))), (.int (nar .char (ff ss d p 2))), (.int (nar .char (ff ss d p 3))), (.int (nar .char (ff ss d p 4))), (.int (nar .char (ff ss d p 5)))] (.int 0) := Arv.set A13 q13 z13 y13 H13 G13 (fits_nar_char _) W13 5 (by decide) (Nat.le_of_ble_eq_true rfl)
  have O13 := O11.wr W13 n_a1
  refine iIload C d0_300 rfl ?_
  refine iBipush C d0_302 (v := (6 : Int32)) (by decide) ?_
  refine iCmpT C (t := 323) d0_304 (by decide) ⟨by decide, by decide⟩ ?_
  refine iIload C d0_323 rfl ?_
  refine iBipush C d0_325 (v := (7 : Int32)) (by decide) ?_
  refine iCmpT C (t := 346) d0_327 (by decide) ⟨by decide, by decide⟩ ?_
  refine iIload C d0_346 rfl ?_
  refine iBipush C d0_348 (v := (8 : Int32)) (by decide) ?_
  refine iCmpT C (t := 369) d0_350 (by decide) ⟨by decide, by decide⟩ ?_
  refine iIload C d0_369 rfl ?_
  refine iBipush C d0_371 (v := (9 : Int32)) (by decide) ?_
  refine iCmpT C (t := 392) d0_373 (by decide) ⟨by decide, by decide⟩ ?_
  refine iIload C d0_392 rfl ?_
  refine iBipush C d0_394 (v := (10 : Int32)) (by decide) ?_
  refine iCmpT C (t := 415) d0_396 (by decide) ⟨by decide, by decide⟩ ?_
  refine iNew C tw51 tw2 tw1 d0_415 ⟨rfl, rfl, by decide, by decide⟩ fun h14 a14 g14 E14 A14 D14 => ?_
  have n_a14 : n0 ≤ a14 := oFresh O13 g14
  have O14 := O13.ext E14
  have F14_value : Fld Z h14 a14 "java/lang/String" "value" "[B" .null := D14 (Or.inr (hw _ tw4)) (ty := (.array .byte)) (by decide)
  have F14_coder : Fld Z h14 a14 "java/lang/String" "coder" "B" (.int (0 : Int32)) := D14 (Or.inr (hw _ tw5)) (ty := .byte) (by decide)
  refine iDup C d0_418 rfl ?_
  refine iAload C d0_419 rfl rfl ?_
  have K15 : Arv Z h14 a1 k1 .char (6 : Int32) (List.map Value.int [ff ss d p 0, ff ss d p 1, ff ss d p 2, ff ss d p 3, ff ss d p 4, ff ss d p 5]) (.int 0) := by
    have q := (V13.ext E14)
    simpa only [hnf, List.map] using q
  have P15 : ∀ c ∈ [ff ss d p 0, ff ss d p 1, ff ss d p 2, ff ss d p 3, ff ss d p 4, ff ss d p 5], ¬ c < 0 ∧ ¬ (255 : Int32) < c := by
    intro c hc
    simp only [List.mem_cons, List.not_mem_nil, or_false] at hc
    rcases hc with rfl | rfl | rfl | rfl | rfl | rfl <;> exact own_ff hd HS.2.2.2.2.2 _
  refine iCallIB C (a := a14) (payStr hw n_a14 O14 A14 F14_value F14_coder K15 (S0.ext O14.2) hz0 (n := 6) rfl rfl (by decide) (by decide) P15 (by decide) (by decide)) rfl tw52 tw53 tw54 ⟨by decide, by decide⟩ (argsL := [(.ref a1)]) (S' := [(.ref a14)]) (lenOf pd6 rfl) rfl rfl d0_421 rfl (W := 1) rfl ⟨rfl, rfl, by decide, by decide⟩ fun v16 h16 q16 => ?_
  obtain ⟨rfl, K_16, t_16, k_16, sx_16⟩ := q16
  have O16 := O14.keep K_16 (allS n_a14 all0)
  show Go B n0 _ h16 5 60 424 #[(.val (.int i0)), (.val (.int i1)), (.val (.int i2)), (.val (.int i3)), (.val (.int bb)), (.val (.int op)), (.val (.ref s)), (.val (.ref base)), (.val (.int L)), (.val (.int d)), (.val (.int (6 : Int32))), (.val (.int p)), (.val ev), (.val (.ref a1)), .unset] [(.ref a14)]
  refine iAstore C d0_424 (Ls' := #[(.val (.int i0)), (.val (.int i1)), (.val (.int i2)), (.val (.int i3)), (.val (.int bb)), (.val (.int op)), (.val (.ref s)), (.val (.ref base)), (.val (.int L)), (.val (.int d)), (.val (.int (6 : Int32))), (.val (.int p)), (.val ev), (.val (.ref a1)), (.val (.ref a14))]) rfl rfl ?_
  refine iAload C d0_426 rfl rfl ?_
  refine iCallS C (rmN hw G O16 FV hcap S0 hz0 SI SW sx_16) tw72 tw73 tw9 tw74 ⟨by decide, by decide⟩ (argsL := [(.ref a14)]) (S' := []) (lenOf pd7 rfl) rfl rfl d0_428 rfl (W := 0) rfl ⟨by decide, by decide, rfl, rfl, by decide, by decide⟩ fun v17 h17 q17 => ?_
  obtain ⟨rfl, E17⟩ := q17
  show Go B n0 _ h17 6 62 431 #[(.val (.int i0)), (.val (.int i1)), (.val (.int i2)), (.val (.int i3)), (.val (.int bb)), (.val (.int op)), (.val (.ref s)), (.val (.ref base)), (.val (.int L)), (.val (.int d)), (.val (.int (6 : Int32))), (.val (.int p)), (.val ev), (.val (.ref a1)), (.val (.ref a14))] [(pk ga1 ga3 [ff ss d p 0, ff ss d p 1, ff ss d p 2, ff ss d p 3, ff ss d p 4, ff ss d p 5])]
  rw [hE]
  rcases hev with rfl | ⟨ra, rfl⟩
  · refine iAload C d0_431 rfl rfl ?_
    refine iAcmpF C d0_433 rfl rfl (acE rfl).2 ?_
    refine iIconst C d0_436 (v := (1 : Int32)) (by decide) ?_
    refine iGoto C (t := 441) d0_437 ⟨by decide, by decide⟩ ?_
    refine iRetZ C d0_441 (by simp) ⟨Nat.le_refl _, by decide, by decide⟩ ?_
    exact rfl
  · refine iAload C d0_431 rfl rfl ?_
    refine iAcmpF C d0_433 rfl rfl (acE rfl).2 ?_
    refine iIconst C d0_436 (v := (1 : Int32)) (by decide) ?_
    refine iGoto C (t := 441) d0_437 ⟨by decide, by decide⟩ ?_
    refine iRetZ C d0_441 (by simp) ⟨Nat.le_refl _, by decide, by decide⟩ ?_
    exact rfl
set_option maxRecDepth 65536 in
set_option maxHeartbeats 4000000 in
theorem tl7 {l : Launch} {Z : State} {a0 : Array Value} (hw : ∀ d ∈ tables_1, d.before a0 Z = true) {n0 : Nat} {h0 : Heap} {ga1 ga2 ga3 ga4 ga5 ga6 ga7 : Addr} {gc2 gc5 gc7 : Cell} (G : GG Z ga1 ga2 ga3 ga4 ga5 ga6 ga7 gc2 gc5 gc7) (O : Old Z n0 h0) (FV : FitC Z gc2) (hcap : gc2.slots.size ≤ 2) {z0 : Int32} (S0 : Sta Z Z.heap "java/lang/String" "COMPACT_STRINGS" "Z" (.int z0)) (hz0 : ¬ z0 = 0) (SI : SX Z Z.heap ga4 ga5 gc5.cls SINJ) (SW : SX Z Z.heap ga6 ga7 gc7.cls SWD) {fm : Value} (S1 : Sta Z Z.heap "jdk/internal/util/Preconditions" "SIOOBE_FORMATTER" "Ljava/util/function/BiFunction;" fm) (rf : fm.isRef = true) (hcw : Jvm.Lit.compactW.before a0 Z = true) (hhE : Jvm.Lit.constHeld Z "java/lang/String" 7) {i0 i1 i2 i3 bb op L d p : Int32} {s base t : Addr} {k : ClassId} {ss : List Int32} {ev : Value} (HS : SX Z h0 s t k ss) (hd : ¬ d < 0 ∧ ¬ (255 : Int32) < d) (hev : ev = .null ∨ ∃ a, ev = .ref a) (hE : pk ga1 ga3 [ff ss d p 0, ff ss d p 1, ff ss d p 2, ff ss d p 3, ff ss d p 4, ff ss d p 5, ff ss d p 6] = ev) {B : Bx} (C : Cx B l Z a0 room_1 x code maxLocals ret n0) :
    Go B n0 (fun v _ => v = some (.int 1)) h0 2 44 175 #[(.val (.int i0)), (.val (.int i1)), (.val (.int i2)), (.val (.int i3)), (.val (.int bb)), (.val (.int op)), (.val (.ref s)), (.val (.ref base)), (.val (.int L)), (.val (.int d)), (.val (.int (7 : Int32))), (.val (.int p)), (.val ev), .unset, .unset] [] := by
  have hrf : ev.isRef = true := by rcases hev with rfl | ⟨a, rfl⟩ <;> rfl
  have hnf : ∀ i, nar .char (ff ss d p i) = ff ss d p i := fun i => own_nar (own_ff hd HS.2.2.2.2.2 i)
  refine iIload C d0_175 rfl ?_
  refine iNewP C (aty := .char) tw24 d0_177 (by decide) (cap := 7) (by decide) (by decide) ⟨rfl, rfl, by decide, by decide⟩ fun h1 a1 k1 g1 E1 V1 => ?_
  have n_a1 : n0 ≤ a1 := oFresh O g1
  have O1 := O.ext E1
  have V1 : Arv Z h1 a1 k1 .char (7 : Int32) [(.int 0), (.int 0), (.int 0), (.int 0), (.int 0), (.int 0), (.int 0)] (.int 0) := V1.pad (pad_rep [] (.int 0) 7)
  refine iAstore C d0_179 (Ls' := #[(.val (.int i0)), (.val (.int i1)), (.val (.int i2)), (.val (.int i3)), (.val (.int bb)), (.val (.int op)), (.val (.ref s)), (.val (.ref base)), (.val (.int L)), (.val (.int d)), (.val (.int (7 : Int32))), (.val (.int p)), (.val ev), (.val (.ref a1)), .unset]) rfl rfl ?_
  refine iIload C d0_181 rfl ?_
  refine iIfF C d0_183 (by decide) ?_
  refine iAload C d0_186 rfl rfl ?_
  refine iIconst C d0_188 (v := (0 : Int32)) (by decide) ?_
  refine iAload C d0_189 rfl rfl ?_
  refine iIconst C d0_191 (v := (0 : Int32)) (by decide) ?_
  refine iIload C d0_192 rfl ?_
  refine iIload C d0_194 rfl ?_
  refine iCallS C (rmA hw O1 S0 hz0 S1 rf ⟨(HS.1.ext E1), (HS.2.1.ext E1), (HS.2.2.1.ext E1), (HS.2.2.2.1.ext E1), HS.2.2.2.2.1, HS.2.2.2.2.2⟩ (i := (0 : Int32)) (iN := 0) (p := p) (d := d) rfl (by decide) hd) tw25 tw26 tw27 tw28 ⟨by decide, by decide⟩ (argsL := [(.ref s), (.int (0 : Int32)), (.int p), (.int d)]) (S' := [(.int (0 : Int32)), (.ref a1)]) (lenOf pd5 rfl) rfl rfl d0_196 rfl (W := 2) rfl ⟨by decide, by decide, rfl, rfl, by decide, by decide⟩ fun v2 h2 q2 => ?_
  obtain ⟨rfl, rfl⟩ := q2
  show Go B n0 _ h1 3 51 199 #[(.val (.int i0)), (.val (.int i1)), (.val (.int i2)), (.val (.int i3)), (.val (.int bb)), (.val (.int op)), (.val (.ref s)), (.val (.ref base)), (.val (.int L)), (.val (.int d)), (.val (.int (7 : Int32))), (.val (.int p)), (.val ev), (.val (.ref a1)), .unset] [(.int (ff ss d p 0)), (.int (0 : Int32)), (.ref a1)]
  obtain ⟨c3, A3, q3, z3, y3, H3, G3⟩ := id V1
  refine iCastore C A3 (inb_of z3 ⟨by decide, by decide⟩) n_a1 d0_199 fun h3 W3 => ?_
  have V3 : Arv Z h3 a1 k1 .char (7 : Int32) [(.int (nar .char (ff ss d p 0))), (.int 0), (.int 0), (.int 0), (.int 0), (.int 0), (.int 0)] (.int 0) := Arv.set A3 q3 z3 y3 H3 G3 (fits_nar_char _) W3 0 (by decide) (Nat.le_of_ble_eq_true rfl)
  have O3 := O1.wr W3 n_a1
  refine iIload C d0_200 rfl ?_
  refine iIconst C d0_202 (v := (1 : Int32)) (by decide) ?_
  refine iCmpF C d0_203 (by decide) ?_
  refine iAload C d0_206 rfl rfl ?_
  refine iIconst C d0_208 (v := (1 : Int32)) (by decide) ?_
  refine iAload C d0_209 rfl rfl ?_
  refine iIconst C d0_211 (v := (1 : Int32)) (by decide) ?_
  refine iIload C d0_212 rfl ?_
  refine iIload C d0_214 rfl ?_
  refine iCallS C (rmA hw O3 S0 hz0 S1 rf ⟨((HS.1.ext E1).wr W3), ((HS.2.1.ext E1).other W3 (Or.inl (oNe HS.1.lt (Nat.le_of_eq g1.symm)))), ((HS.2.2.1.ext E1).other W3 (Or.inl (oNe HS.1.lt (Nat.le_of_eq g1.symm)))), ((HS.2.2.2.1.ext E1).other W3 (oNe HS.2.2.2.1.lt (Nat.le_of_eq g1.symm))), HS.2.2.2.2.1, HS.2.2.2.2.2⟩ (i := (1 : Int32)) (iN := 1) (p := p) (d := d) rfl (by decide) hd) tw25 tw26 tw27 tw28 ⟨by decide, by decide⟩ (argsL := [(.ref s), (.int (1 : Int32)), (.int p), (.int d)]) (S' := [(.int (1 : Int32)), (.ref a1)]) (lenOf pd5 rfl) rfl rfl d0_216 rfl (W := 2) rfl ⟨by decide, by decide, rfl, rfl, by decide, by decide⟩ fun v4 h4 q4 => ?_
  obtain ⟨rfl, rfl⟩ := q4
  show Go B n0 _ h3 3 51 219 #[(.val (.int i0)), (.val (.int i1)), (.val (.int i2)), (.val (.int i3)), (.val (.int bb)), (.val (.int op)), (.val (.ref s)), (.val (.ref base)), (.val (.int L)), (.val (.int d)), (.val (.int (7 : Int32))), (.val (.int p)), (.val ev), (.val (.ref a1)), .unset] [(.int (ff ss d p 1)), (.int (1 : Int32)), (.ref a1)]
  obtain ⟨c5, A5, q5, z5, y5, H5, G5⟩ := id V3
  refine iCastore C A5 (inb_of z5 ⟨by decide, by decide⟩) n_a1 d0_219 fun h5 W5 => ?_
  have V5 : Arv Z h5 a1 k1 .char (7 : Int32) [(.int (nar .char (ff ss d p 0))), (.int (nar .char (ff ss d p 1))), (.int 0), (.int 0), (.int 0), (.int 0), (.int 0)] (.int 0) := Arv.set A5 q5 z5 y5 H5 G5 (fits_nar_char _) W5 1 (by decide) (Nat.le_of_ble_eq_true rfl)
  have O5 := O3.wr W5 n_a1
  refine iIload C d0_220 rfl ?_
  refine iIconst C d0_222 (v := (2 : Int32)) (by decide) ?_
  refine iCmpF C d0_223 (by decide) ?_
  refine iAload C d0_226 rfl rfl ?_
  refine iIconst C d0_228 (v := (2 : Int32)) (by decide) ?_
  refine iAload C d0_229 rfl rfl ?_
  refine iIconst C d0_231 (v := (2 : Int32)) (by decide) ?_
  refine iIload C d0_232 rfl ?_
  refine iIload C d0_234 rfl ?_
  refine iCallS C (rmA hw O5 S0 hz0 S1 rf ⟨(((HS.1.ext E1).wr W3).wr W5), (((HS.2.1.ext E1).other W3 (Or.inl (oNe HS.1.lt (Nat.le_of_eq g1.symm)))).other W5 (Or.inl (oNe HS.1.lt (Nat.le_of_eq g1.symm)))), (((HS.2.2.1.ext E1).other W3 (Or.inl (oNe HS.1.lt (Nat.le_of_eq g1.symm)))).other W5 (Or.inl (oNe HS.1.lt (Nat.le_of_eq g1.symm)))), (((HS.2.2.2.1.ext E1).other W3 (oNe HS.2.2.2.1.lt (Nat.le_of_eq g1.symm))).other W5 (oNe HS.2.2.2.1.lt (Nat.le_of_eq g1.symm))), HS.2.2.2.2.1, HS.2.2.2.2.2⟩ (i := (2 : Int32)) (iN := 2) (p := p) (d := d) rfl (by decide) hd) tw25 tw26 tw27 tw28 ⟨by decide, by decide⟩ (argsL := [(.ref s), (.int (2 : Int32)), (.int p), (.int d)]) (S' := [(.int (2 : Int32)), (.ref a1)]) (lenOf pd5 rfl) rfl rfl d0_236 rfl (W := 2) rfl ⟨by decide, by decide, rfl, rfl, by decide, by decide⟩ fun v6 h6 q6 => ?_
  obtain ⟨rfl, rfl⟩ := q6
  show Go B n0 _ h5 3 51 239 #[(.val (.int i0)), (.val (.int i1)), (.val (.int i2)), (.val (.int i3)), (.val (.int bb)), (.val (.int op)), (.val (.ref s)), (.val (.ref base)), (.val (.int L)), (.val (.int d)), (.val (.int (7 : Int32))), (.val (.int p)), (.val ev), (.val (.ref a1)), .unset] [(.int (ff ss d p 2)), (.int (2 : Int32)), (.ref a1)]
  obtain ⟨c7, A7, q7, z7, y7, H7, G7⟩ := id V5
  refine iCastore C A7 (inb_of z7 ⟨by decide, by decide⟩) n_a1 d0_239 fun h7 W7 => ?_
  have V7 : Arv Z h7 a1 k1 .char (7 : Int32) [(.int (nar .char (ff ss d p 0))), (.int (nar .char (ff ss d p 1))), (.int (nar .char (ff ss d p 2))), (.int 0), (.int 0), (.int 0), (.int 0)] (.int 0) := Arv.set A7 q7 z7 y7 H7 G7 (fits_nar_char _) W7 2 (by decide) (Nat.le_of_ble_eq_true rfl)
  have O7 := O5.wr W7 n_a1
  refine iIload C d0_240 rfl ?_
  refine iIconst C d0_242 (v := (3 : Int32)) (by decide) ?_
  refine iCmpF C d0_243 (by decide) ?_
  refine iAload C d0_246 rfl rfl ?_
  refine iIconst C d0_248 (v := (3 : Int32)) (by decide) ?_
  refine iAload C d0_249 rfl rfl ?_
  refine iIconst C d0_251 (v := (3 : Int32)) (by decide) ?_
  refine iIload C d0_252 rfl ?_
  refine iIload C d0_254 rfl ?_
  refine iCallS C (rmA hw O7 S0 hz0 S1 rf ⟨((((HS.1.ext E1).wr W3).wr W5).wr W7), ((((HS.2.1.ext E1).other W3 (Or.inl (oNe HS.1.lt (Nat.le_of_eq g1.symm)))).other W5 (Or.inl (oNe HS.1.lt (Nat.le_of_eq g1.symm)))).other W7 (Or.inl (oNe HS.1.lt (Nat.le_of_eq g1.symm)))), ((((HS.2.2.1.ext E1).other W3 (Or.inl (oNe HS.1.lt (Nat.le_of_eq g1.symm)))).other W5 (Or.inl (oNe HS.1.lt (Nat.le_of_eq g1.symm)))).other W7 (Or.inl (oNe HS.1.lt (Nat.le_of_eq g1.symm)))), ((((HS.2.2.2.1.ext E1).other W3 (oNe HS.2.2.2.1.lt (Nat.le_of_eq g1.symm))).other W5 (oNe HS.2.2.2.1.lt (Nat.le_of_eq g1.symm))).other W7 (oNe HS.2.2.2.1.lt (Nat.le_of_eq g1.symm))), HS.2.2.2.2.1, HS.2.2.2.2.2⟩ (i := (3 : Int32)) (iN := 3) (p := p) (d := d) rfl (by decide) hd) tw25 tw26 tw27 tw28 ⟨by decide, by decide⟩ (argsL := [(.ref s), (.int (3 : Int32)), (.int p), (.int d)]) (S' := [(.int (3 : Int32)), (.ref a1)]) (lenOf pd5 rfl) rfl rfl d0_256 rfl (W := 2) rfl ⟨by decide, by decide, rfl, rfl, by decide, by decide⟩ fun v8 h8 q8 => ?_
  obtain ⟨rfl, rfl⟩ := q8
  show Go B n0 _ h7 3 51 259 #[(.val (.int i0)), (.val (.int i1)), (.val (.int i2)), (.val (.int i3)), (.val (.int bb)), (.val (.int op)), (.val (.ref s)), (.val (.ref base)), (.val (.int L)), (.val (.int d)), (.val (.int (7 : Int32))), (.val (.int p)), (.val ev), (.val (.ref a1)), .unset] [(.int (ff ss d p 3)), (.int (3 : Int32)), (.ref a1)]
  obtain ⟨c9, A9, q9, z9, y9, H9, G9⟩ := id V7
  refine iCastore C A9 (inb_of z9 ⟨by decide, by decide⟩) n_a1 d0_259 fun h9 W9 => ?_
  have V9 : Arv Z h9 a1 k1 .char (7 : Int32) [(.int (nar .char (ff ss d p 0))), (.int (nar .char (ff ss d p 1))), (.int (nar .char (ff ss d p 2))), (.int (nar .char (ff ss d p 3))), (.int 0), (.int 0), (.int 0)] (.int 0) := Arv.set A9 q9 z9 y9 H9 G9 (fits_nar_char _) W9 3 (by decide) (Nat.le_of_ble_eq_true rfl)
  have O9 := O7.wr W9 n_a1
  refine iIload C d0_260 rfl ?_
  refine iIconst C d0_262 (v := (4 : Int32)) (by decide) ?_
  refine iCmpF C d0_263 (by decide) ?_
  refine iAload C d0_266 rfl rfl ?_
  refine iIconst C d0_268 (v := (4 : Int32)) (by decide) ?_
  refine iAload C d0_269 rfl rfl ?_
  refine iIconst C d0_271 (v := (4 : Int32)) (by decide) ?_
  refine iIload C d0_272 rfl ?_
  refine iIload C d0_274 rfl ?_
  refine iCallS C (rmA hw O9 S0 hz0 S1 rf ⟨(((((HS.1.ext E1).wr W3).wr W5).wr W7).wr W9), (((((HS.2.1.ext E1).other W3 (Or.inl (oNe HS.1.lt (Nat.le_of_eq g1.symm)))).other W5 (Or.inl (oNe HS.1.lt (Nat.le_of_eq g1.symm)))).other W7 (Or.inl (oNe HS.1.lt (Nat.le_of_eq g1.symm)))).other W9 (Or.inl (oNe HS.1.lt (Nat.le_of_eq g1.symm)))), (((((HS.2.2.1.ext E1).other W3 (Or.inl (oNe HS.1.lt (Nat.le_of_eq g1.symm)))).other W5 (Or.inl (oNe HS.1.lt (Nat.le_of_eq g1.symm)))).other W7 (Or.inl (oNe HS.1.lt (Nat.le_of_eq g1.symm)))).other W9 (Or.inl (oNe HS.1.lt (Nat.le_of_eq g1.symm)))), (((((HS.2.2.2.1.ext E1).other W3 (oNe HS.2.2.2.1.lt (Nat.le_of_eq g1.symm))).other W5 (oNe HS.2.2.2.1.lt (Nat.le_of_eq g1.symm))).other W7 (oNe HS.2.2.2.1.lt (Nat.le_of_eq g1.symm))).other W9 (oNe HS.2.2.2.1.lt (Nat.le_of_eq g1.symm))), HS.2.2.2.2.1, HS.2.2.2.2.2⟩ (i := (4 : Int32)) (iN := 4) (p := p) (d := d) rfl (by decide) hd) tw25 tw26 tw27 tw28 ⟨by decide, by decide⟩ (argsL := [(.ref s), (.int (4 : Int32)), (.int p), (.int d)]) (S' := [(.int (4 : Int32)), (.ref a1)]) (lenOf pd5 rfl) rfl rfl d0_276 rfl (W := 2) rfl ⟨by decide, by decide, rfl, rfl, by decide, by decide⟩ fun v10 h10 q10 => ?_
  obtain ⟨rfl, rfl⟩ := q10
  show Go B n0 _ h9 3 51 279 #[(.val (.int i0)), (.val (.int i1)), (.val (.int i2)), (.val (.int i3)), (.val (.int bb)), (.val (.int op)), (.val (.ref s)), (.val (.ref base)), (.val (.int L)), (.val (.int d)), (.val (.int (7 : Int32))), (.val (.int p)), (.val ev), (.val (.ref a1)), .unset] [(.int (ff ss d p 4)), (.int (4 : Int32)), (.ref a1)]
  obtain ⟨c11, A11, q11, z11, y11, H11, G11⟩ := id V9
  refine iCastore C A11 (inb_of z11 ⟨by decide, by decide⟩) n_a1 d0_279 fun h11 W11 => ?_
  have V11 : Arv Z h11 a1 k1 .char (7 : Int32) [(.int (nar .char (ff ss d p 0))), (.int (nar .char (ff ss d p 1))), (.int (nar .char (ff ss d p 2))), (.int (nar .char (ff ss d p 3))), (.int (nar .char (ff ss d p 4))), (.int 0), (.int 0)] (.int 0) := Arv.set A11 q11 z11 y11 H11 G11 (fits_nar_char _) W11 4 (by decide) (Nat.le_of_ble_eq_true rfl)
  have O11 := O9.wr W11 n_a1
  refine iIload C d0_280 rfl ?_
  refine iIconst C d0_282 (v := (5 : Int32)) (by decide) ?_
  refine iCmpF C d0_283 (by decide) ?_
  refine iAload C d0_286 rfl rfl ?_
  refine iIconst C d0_288 (v := (5 : Int32)) (by decide) ?_
  refine iAload C d0_289 rfl rfl ?_
  refine iIconst C d0_291 (v := (5 : Int32)) (by decide) ?_
  refine iIload C d0_292 rfl ?_
  refine iIload C d0_294 rfl ?_
  refine iCallS C (rmA hw O11 S0 hz0 S1 rf ⟨((((((HS.1.ext E1).wr W3).wr W5).wr W7).wr W9).wr W11), ((((((HS.2.1.ext E1).other W3 (Or.inl (oNe HS.1.lt (Nat.le_of_eq g1.symm)))).other W5 (Or.inl (oNe HS.1.lt (Nat.le_of_eq g1.symm)))).other W7 (Or.inl (oNe HS.1.lt (Nat.le_of_eq g1.symm)))).other W9 (Or.inl (oNe HS.1.lt (Nat.le_of_eq g1.symm)))).other W11 (Or.inl (oNe HS.1.lt (Nat.le_of_eq g1.symm)))), ((((((HS.2.2.1.ext E1).other W3 (Or.inl (oNe HS.1.lt (Nat.le_of_eq g1.symm)))).other W5 (Or.inl (oNe HS.1.lt (Nat.le_of_eq g1.symm)))).other W7 (Or.inl (oNe HS.1.lt (Nat.le_of_eq g1.symm)))).other W9 (Or.inl (oNe HS.1.lt (Nat.le_of_eq g1.symm)))).other W11 (Or.inl (oNe HS.1.lt (Nat.le_of_eq g1.symm)))), ((((((HS.2.2.2.1.ext E1).other W3 (oNe HS.2.2.2.1.lt (Nat.le_of_eq g1.symm))).other W5 (oNe HS.2.2.2.1.lt (Nat.le_of_eq g1.symm))).other W7 (oNe HS.2.2.2.1.lt (Nat.le_of_eq g1.symm))).other W9 (oNe HS.2.2.2.1.lt (Nat.le_of_eq g1.symm))).other W11 (oNe HS.2.2.2.1.lt (Nat.le_of_eq g1.symm))), HS.2.2.2.2.1, HS.2.2.2.2.2⟩ (i := (5 : Int32)) (iN := 5) (p := p) (d := d) rfl (by decide) hd) tw25 tw26 tw27 tw28 ⟨by decide, by decide⟩ (argsL := [(.ref s), (.int (5 : Int32)), (.int p), (.int d)]) (S' := [(.int (5 : Int32)), (.ref a1)]) (lenOf pd5 rfl) rfl rfl d0_296 rfl (W := 2) rfl ⟨by decide, by decide, rfl, rfl, by decide, by decide⟩ fun v12 h12 q12 => ?_
  obtain ⟨rfl, rfl⟩ := q12
  show Go B n0 _ h11 3 51 299 #[(.val (.int i0)), (.val (.int i1)), (.val (.int i2)), (.val (.int i3)), (.val (.int bb)), (.val (.int op)), (.val (.ref s)), (.val (.ref base)), (.val (.int L)), (.val (.int d)), (.val (.int (7 : Int32))), (.val (.int p)), (.val ev), (.val (.ref a1)), .unset] [(.int (ff ss d p 5)), (.int (5 : Int32)), (.ref a1)]
  obtain ⟨c13, A13, q13, z13, y13, H13, G13⟩ := id V11
  refine iCastore C A13 (inb_of z13 ⟨by decide, by decide⟩) n_a1 d0_299 fun h13 W13 => ?_
  have V13 : Arv Z h13 a1 k1 .char (7 : Int32) [(.int (nar .char (ff ss d p 0))), (.int (nar .char (ff ss d p 1))), (.int (nar .char (ff ss d p 2))), (.int (nar .char (ff ss d p 3))), (.int (nar .char (ff ss d p 4))), (.int (nar .char (ff ss d p 5))), (.int 0)] (.int 0) := Arv.set A13 q13 z13 y13 H13 G13 (fits_nar_char _) W13 5 (by decide) (Nat.le_of_ble_eq_true rfl)
  have O13 := O11.wr W13 n_a1
  refine iIload C d0_300 rfl ?_
  refine iBipush C d0_302 (v := (6 : Int32)) (by decide) ?_
  refine iCmpF C d0_304 (by decide) ?_
  refine iAload C d0_307 rfl rfl ?_
  refine iBipush C d0_309 (v := (6 : Int32)) (by decide) ?_
  refine iAload C d0_311 rfl rfl ?_
  refine iBipush C d0_313 (v := (6 : Int32)) (by decide) ?_
  refine iIload C d0_315 rfl ?_
  refine iIload C d0_317 rfl ?_
  refine iCallS C (rmA hw O13 S0 hz0 S1 rf ⟨(((((((HS.1.ext E1).wr W3).wr W5).wr W7).wr W9).wr W11).wr W13), (((((((HS.2.1.ext E1).other W3 (Or.inl (oNe HS.1.lt (Nat.le_of_eq g1.symm)))).other W5 (Or.inl (oNe HS.1.lt (Nat.le_of_eq g1.symm)))).other W7 (Or.inl (oNe HS.1.lt (Nat.le_of_eq g1.symm)))).other W9 (Or.inl (oNe HS.1.lt (Nat.le_of_eq g1.symm)))).other W11 (Or.inl (oNe HS.1.lt (Nat.le_of_eq g1.symm)))).other W13 (Or.inl (oNe HS.1.lt (Nat.le_of_eq g1.symm)))), (((((((HS.2.2.1.ext E1).other W3 (Or.inl (oNe HS.1.lt (Nat.le_of_eq g1.symm)))).other W5 (Or.inl (oNe HS.1.lt (Nat.le_of_eq g1.symm)))).other W7 (Or.inl (oNe HS.1.lt (Nat.le_of_eq g1.symm)))).other W9 (Or.inl (oNe HS.1.lt (Nat.le_of_eq g1.symm)))).other W11 (Or.inl (oNe HS.1.lt (Nat.le_of_eq g1.symm)))).other W13 (Or.inl (oNe HS.1.lt (Nat.le_of_eq g1.symm)))), (((((((HS.2.2.2.1.ext E1).other W3 (oNe HS.2.2.2.1.lt (Nat.le_of_eq g1.symm))).other W5 (oNe HS.2.2.2.1.lt (Nat.le_of_eq g1.symm))).other W7 (oNe HS.2.2.2.1.lt (Nat.le_of_eq g1.symm))).other W9 (oNe HS.2.2.2.1.lt (Nat.le_of_eq g1.symm))).other W11 (oNe HS.2.2.2.1.lt (Nat.le_of_eq g1.symm))).other W13 (oNe HS.2.2.2.1.lt (Nat.le_of_eq g1.symm))), HS.2.2.2.2.1, HS.2.2.2.2.2⟩ (i := (6 : Int32)) (iN := 6) (p := p) (d := d) rfl (by decide) hd) tw25 tw26 tw27 tw28 ⟨by decide, by decide⟩ (argsL := [(.ref s), (.int (6 : Int32)), (.int p), (.int d)]) (S' := [(.int (6 : Int32)), (.ref a1)]) (lenOf pd5 rfl) rfl rfl d0_319 rfl (W := 2) rfl ⟨by decide, by decide, rfl, rfl, by decide, by decide⟩ fun v14 h14 q14 => ?_
  obtain ⟨rfl, rfl⟩ := q14
  show Go B n0 _ h13 3 51 322 #[(.val (.int i0)), (.val (.int i1)), (.val (.int i2)), (.val (.int i3)), (.val (.int bb)), (.val (.int op)), (.val (.ref s)), (.val (.ref base)), (.val (.int L)), (.val (.int d)), (.val (.int (7 : Int32))), (.val (.int p)), (.val ev), (.val (.ref a1)), .unset] [(.int (ff ss d p 6)), (.int (6 : Int32)), (.ref a1)]
  obtain ⟨c15, A15, q15, z15, y15, H15, G15⟩ := id V13
  refine iCastore C A15 (inb_of z15 ⟨by decide, by decide⟩) n_a1 d0_322 fun h15 W15 => ?_
  have V15 : Arv Z h15 a1 k1 .char (7 : Int32) [(.int (nar .char (ff ss d p 0))), (.int (nar .char (ff ss d p 1))), (.int (nar .char (ff ss d p 2))), (.int (nar .char (ff ss d p 3))), (.int (nar .char (ff ss d p 4))), (.int (nar .char (ff ss d p 5))), (.int (nar .char (ff ss d p 6)))] (.int 0) := Arv.set A15 q15 z15 y15 H15 G15 (fits_nar_char _) W15 6 (by decide) (Nat.le_of_ble_eq_true rfl)
  have O15 := O13.wr W15 n_a1
  refine iIload C d0_323 rfl ?_
  refine iBipush C d0_325 (v := (7 : Int32)) (by decide) ?_
  refine iCmpT C (t := 346) d0_327 (by decide) ⟨by decide, by decide⟩ ?_
  refine iIload C d0_346 rfl ?_
  refine iBipush C d0_348 (v := (8 : Int32)) (by decide) ?_
  refine iCmpT C (t := 369) d0_350 (by decide) ⟨by decide, by decide⟩ ?_
  refine iIload C d0_369 rfl ?_
  refine iBipush C d0_371 (v := (9 : Int32)) (by decide) ?_
  refine iCmpT C (t := 392) d0_373 (by decide) ⟨by decide, by decide⟩ ?_
  refine iIload C d0_392 rfl ?_
  refine iBipush C d0_394 (v := (10 : Int32)) (by decide) ?_
  refine iCmpT C (t := 415) d0_396 (by decide) ⟨by decide, by decide⟩ ?_
  refine iNew C tw51 tw2 tw1 d0_415 ⟨rfl, rfl, by decide, by decide⟩ fun h16 a16 g16 E16 A16 D16 => ?_
  have n_a16 : n0 ≤ a16 := oFresh O15 g16
  have O16 := O15.ext E16
  have F16_value : Fld Z h16 a16 "java/lang/String" "value" "[B" .null := D16 (Or.inr (hw _ tw4)) (ty := (.array .byte)) (by decide)
  have F16_coder : Fld Z h16 a16 "java/lang/String" "coder" "B" (.int (0 : Int32)) := D16 (Or.inr (hw _ tw5)) (ty := .byte) (by decide)
  refine iDup C d0_418 rfl ?_
  refine iAload C d0_419 rfl rfl ?_
  have K17 : Arv Z h16 a1 k1 .char (7 : Int32) (List.map Value.int [ff ss d p 0, ff ss d p 1, ff ss d p 2, ff ss d p 3, ff ss d p 4, ff ss d p 5, ff ss d p 6]) (.int 0) := by
    have q := (V15.ext E16)
    simpa only [hnf, List.map] using q
  have P17 : ∀ c ∈ [ff ss d p 0, ff ss d p 1, ff ss d p 2, ff ss d p 3, ff ss d p 4, ff ss d p 5, ff ss d p 6], ¬ c < 0 ∧ ¬ (255 : Int32) < c := by
    intro c hc
    simp only [List.mem_cons, List.not_mem_nil, or_false] at hc
    rcases hc with rfl | rfl | rfl | rfl | rfl | rfl | rfl <;> exact own_ff hd HS.2.2.2.2.2 _
  refine iCallIB C (a := a16) (payStr hw n_a16 O16 A16 F16_value F16_coder K17 (S0.ext O16.2) hz0 (n := 7) rfl rfl (by decide) (by decide) P17 (by decide) (by decide)) rfl tw52 tw53 tw54 ⟨by decide, by decide⟩ (argsL := [(.ref a1)]) (S' := [(.ref a16)]) (lenOf pd6 rfl) rfl rfl d0_421 rfl (W := 1) rfl ⟨rfl, rfl, by decide, by decide⟩ fun v18 h18 q18 => ?_
  obtain ⟨rfl, K_18, t_18, k_18, sx_18⟩ := q18
  have O18 := O16.keep K_18 (allS n_a16 all0)
  show Go B n0 _ h18 5 62 424 #[(.val (.int i0)), (.val (.int i1)), (.val (.int i2)), (.val (.int i3)), (.val (.int bb)), (.val (.int op)), (.val (.ref s)), (.val (.ref base)), (.val (.int L)), (.val (.int d)), (.val (.int (7 : Int32))), (.val (.int p)), (.val ev), (.val (.ref a1)), .unset] [(.ref a16)]
  refine iAstore C d0_424 (Ls' := #[(.val (.int i0)), (.val (.int i1)), (.val (.int i2)), (.val (.int i3)), (.val (.int bb)), (.val (.int op)), (.val (.ref s)), (.val (.ref base)), (.val (.int L)), (.val (.int d)), (.val (.int (7 : Int32))), (.val (.int p)), (.val ev), (.val (.ref a1)), (.val (.ref a16))]) rfl rfl ?_
  refine iAload C d0_426 rfl rfl ?_
  refine iCallS C (rmN hw G O18 FV hcap S0 hz0 SI SW sx_18) tw72 tw73 tw9 tw74 ⟨by decide, by decide⟩ (argsL := [(.ref a16)]) (S' := []) (lenOf pd7 rfl) rfl rfl d0_428 rfl (W := 0) rfl ⟨by decide, by decide, rfl, rfl, by decide, by decide⟩ fun v19 h19 q19 => ?_
  obtain ⟨rfl, E19⟩ := q19
  show Go B n0 _ h19 6 64 431 #[(.val (.int i0)), (.val (.int i1)), (.val (.int i2)), (.val (.int i3)), (.val (.int bb)), (.val (.int op)), (.val (.ref s)), (.val (.ref base)), (.val (.int L)), (.val (.int d)), (.val (.int (7 : Int32))), (.val (.int p)), (.val ev), (.val (.ref a1)), (.val (.ref a16))] [(pk ga1 ga3 [ff ss d p 0, ff ss d p 1, ff ss d p 2, ff ss d p 3, ff ss d p 4, ff ss d p 5, ff ss d p 6])]
  rw [hE]
  rcases hev with rfl | ⟨ra, rfl⟩
  · refine iAload C d0_431 rfl rfl ?_
    refine iAcmpF C d0_433 rfl rfl (acE rfl).2 ?_
    refine iIconst C d0_436 (v := (1 : Int32)) (by decide) ?_
    refine iGoto C (t := 441) d0_437 ⟨by decide, by decide⟩ ?_
    refine iRetZ C d0_441 (by simp) ⟨Nat.le_refl _, by decide, by decide⟩ ?_
    exact rfl
  · refine iAload C d0_431 rfl rfl ?_
    refine iAcmpF C d0_433 rfl rfl (acE rfl).2 ?_
    refine iIconst C d0_436 (v := (1 : Int32)) (by decide) ?_
    refine iGoto C (t := 441) d0_437 ⟨by decide, by decide⟩ ?_
    refine iRetZ C d0_441 (by simp) ⟨Nat.le_refl _, by decide, by decide⟩ ?_
    exact rfl
set_option maxRecDepth 65536 in
set_option maxHeartbeats 4000000 in
theorem tl8 {l : Launch} {Z : State} {a0 : Array Value} (hw : ∀ d ∈ tables_1, d.before a0 Z = true) {n0 : Nat} {h0 : Heap} {ga1 ga2 ga3 ga4 ga5 ga6 ga7 : Addr} {gc2 gc5 gc7 : Cell} (G : GG Z ga1 ga2 ga3 ga4 ga5 ga6 ga7 gc2 gc5 gc7) (O : Old Z n0 h0) (FV : FitC Z gc2) (hcap : gc2.slots.size ≤ 2) {z0 : Int32} (S0 : Sta Z Z.heap "java/lang/String" "COMPACT_STRINGS" "Z" (.int z0)) (hz0 : ¬ z0 = 0) (SI : SX Z Z.heap ga4 ga5 gc5.cls SINJ) (SW : SX Z Z.heap ga6 ga7 gc7.cls SWD) {fm : Value} (S1 : Sta Z Z.heap "jdk/internal/util/Preconditions" "SIOOBE_FORMATTER" "Ljava/util/function/BiFunction;" fm) (rf : fm.isRef = true) (hcw : Jvm.Lit.compactW.before a0 Z = true) (hhE : Jvm.Lit.constHeld Z "java/lang/String" 7) {i0 i1 i2 i3 bb op L d p : Int32} {s base t : Addr} {k : ClassId} {ss : List Int32} {ev : Value} (HS : SX Z h0 s t k ss) (hd : ¬ d < 0 ∧ ¬ (255 : Int32) < d) (hev : ev = .null ∨ ∃ a, ev = .ref a) (hE : pk ga1 ga3 [ff ss d p 0, ff ss d p 1, ff ss d p 2, ff ss d p 3, ff ss d p 4, ff ss d p 5, ff ss d p 6, ff ss d p 7] = ev) {B : Bx} (C : Cx B l Z a0 room_1 x code maxLocals ret n0) :
    Go B n0 (fun v _ => v = some (.int 1)) h0 2 44 175 #[(.val (.int i0)), (.val (.int i1)), (.val (.int i2)), (.val (.int i3)), (.val (.int bb)), (.val (.int op)), (.val (.ref s)), (.val (.ref base)), (.val (.int L)), (.val (.int d)), (.val (.int (8 : Int32))), (.val (.int p)), (.val ev), .unset, .unset] [] := by
  have hrf : ev.isRef = true := by rcases hev with rfl | ⟨a, rfl⟩ <;> rfl
  have hnf : ∀ i, nar .char (ff ss d p i) = ff ss d p i := fun i => own_nar (own_ff hd HS.2.2.2.2.2 i)
  refine iIload C d0_175 rfl ?_
  refine iNewP C (aty := .char) tw24 d0_177 (by decide) (cap := 8) (by decide) (by decide) ⟨rfl, rfl, by decide, by decide⟩ fun h1 a1 k1 g1 E1 V1 => ?_
  have n_a1 : n0 ≤ a1 := oFresh O g1
  have O1 := O.ext E1
  have V1 : Arv Z h1 a1 k1 .char (8 : Int32) [(.int 0), (.int 0), (.int 0), (.int 0), (.int 0), (.int 0), (.int 0), (.int 0)] (.int 0) := V1.pad (pad_rep [] (.int 0) 8)
  refine iAstore C d0_179 (Ls' := #[(.val (.int i0)), (.val (.int i1)), (.val (.int i2)), (.val (.int i3)), (.val (.int bb)), (.val (.int op)), (.val (.ref s)), (.val (.ref base)), (.val (.int L)), (.val (.int d)), (.val (.int (8 : Int32))), (.val (.int p)), (.val ev), (.val (.ref a1)), .unset]) rfl rfl ?_
  refine iIload C d0_181 rfl ?_
  refine iIfF C d0_183 (by decide) ?_
  refine iAload C d0_186 rfl rfl ?_
  refine iIconst C d0_188 (v := (0 : Int32)) (by decide) ?_
  refine iAload C d0_189 rfl rfl ?_
  refine iIconst C d0_191 (v := (0 : Int32)) (by decide) ?_
  refine iIload C d0_192 rfl ?_
  refine iIload C d0_194 rfl ?_
  refine iCallS C (rmA hw O1 S0 hz0 S1 rf ⟨(HS.1.ext E1), (HS.2.1.ext E1), (HS.2.2.1.ext E1), (HS.2.2.2.1.ext E1), HS.2.2.2.2.1, HS.2.2.2.2.2⟩ (i := (0 : Int32)) (iN := 0) (p := p) (d := d) rfl (by decide) hd) tw25 tw26 tw27 tw28 ⟨by decide, by decide⟩ (argsL := [(.ref s), (.int (0 : Int32)), (.int p), (.int d)]) (S' := [(.int (0 : Int32)), (.ref a1)]) (lenOf pd5 rfl) rfl rfl d0_196 rfl (W := 2) rfl ⟨by decide, by decide, rfl, rfl, by decide, by decide⟩ fun v2 h2 q2 => ?_
  obtain ⟨rfl, rfl⟩ := q2
  show Go B n0 _ h1 3 52 199 #[(.val (.int i0)), (.val (.int i1)), (.val (.int i2)), (.val (.int i3)), (.val (.int bb)), (.val (.int op)), (.val (.ref s)), (.val (.ref base)), (.val (.int L)), (.val (.int d)), (.val (.int (8 : Int32))), (.val (.int p)), (.val ev), (.val (.ref a1)), .unset] [(.int (ff ss d p 0)), (.int (0 : Int32)), (.ref a1)]
  obtain ⟨c3, A3, q3, z3, y3, H3, G3⟩ := id V1
  refine iCastore C A3 (inb_of z3 ⟨by decide, by decide⟩) n_a1 d0_199 fun h3 W3 => ?_
  have V3 : Arv Z h3 a1 k1 .char (8 : Int32) [(.int (nar .char (ff ss d p 0))), (.int 0), (.int 0), (.int 0), (.int 0), (.int 0), (.int 0), (.int 0)] (.int 0) := Arv.set A3 q3 z3 y3 H3 G3 (fits_nar_char _) W3 0 (by decide) (Nat.le_of_ble_eq_true rfl)
  have O3 := O1.wr W3 n_a1
  refine iIload C d0_200 rfl ?_
  refine iIconst C d0_202 (v := (1 : Int32)) (by decide) ?_
  refine iCmpF C d0_203 (by decide) ?_
  refine iAload C d0_206 rfl rfl ?_
  refine iIconst C d0_208 (v := (1 : Int32)) (by decide) ?_
  refine iAload C d0_209 rfl rfl ?_
  refine iIconst C d0_211 (v := (1 : Int32)) (by decide) ?_
  refine iIload C d0_212 rfl ?_
  refine iIload C d0_214 rfl ?_
  refine iCallS C (rmA hw O3 S0 hz0 S1 rf ⟨((HS.1.ext E1).wr W3), ((HS.2.1.ext E1).other W3 (Or.inl (oNe HS.1.lt (Nat.le_of_eq g1.symm)))), ((HS.2.2.1.ext E1).other W3 (Or.inl (oNe HS.1.lt (Nat.le_of_eq g1.symm)))), ((HS.2.2.2.1.ext E1).other W3 (oNe HS.2.2.2.1.lt (Nat.le_of_eq g1.symm))), HS.2.2.2.2.1, HS.2.2.2.2.2⟩ (i := (1 : Int32)) (iN := 1) (p := p) (d := d) rfl (by decide) hd) tw25 tw26 tw27 tw28 ⟨by decide, by decide⟩ (argsL := [(.ref s), (.int (1 : Int32)), (.int p), (.int d)]) (S' := [(.int (1 : Int32)), (.ref a1)]) (lenOf pd5 rfl) rfl rfl d0_216 rfl (W := 2) rfl ⟨by decide, by decide, rfl, rfl, by decide, by decide⟩ fun v4 h4 q4 => ?_
  obtain ⟨rfl, rfl⟩ := q4
  show Go B n0 _ h3 3 52 219 #[(.val (.int i0)), (.val (.int i1)), (.val (.int i2)), (.val (.int i3)), (.val (.int bb)), (.val (.int op)), (.val (.ref s)), (.val (.ref base)), (.val (.int L)), (.val (.int d)), (.val (.int (8 : Int32))), (.val (.int p)), (.val ev), (.val (.ref a1)), .unset] [(.int (ff ss d p 1)), (.int (1 : Int32)), (.ref a1)]
  obtain ⟨c5, A5, q5, z5, y5, H5, G5⟩ := id V3
  refine iCastore C A5 (inb_of z5 ⟨by decide, by decide⟩) n_a1 d0_219 fun h5 W5 => ?_
  have V5 : Arv Z h5 a1 k1 .char (8 : Int32) [(.int (nar .char (ff ss d p 0))), (.int (nar .char (ff ss d p 1))), (.int 0), (.int 0), (.int 0), (.int 0), (.int 0), (.int 0)] (.int 0) := Arv.set A5 q5 z5 y5 H5 G5 (fits_nar_char _) W5 1 (by decide) (Nat.le_of_ble_eq_true rfl)
  have O5 := O3.wr W5 n_a1
  refine iIload C d0_220 rfl ?_
  refine iIconst C d0_222 (v := (2 : Int32)) (by decide) ?_
  refine iCmpF C d0_223 (by decide) ?_
  refine iAload C d0_226 rfl rfl ?_
  refine iIconst C d0_228 (v := (2 : Int32)) (by decide) ?_
  refine iAload C d0_229 rfl rfl ?_
  refine iIconst C d0_231 (v := (2 : Int32)) (by decide) ?_
  refine iIload C d0_232 rfl ?_
  refine iIload C d0_234 rfl ?_
  refine iCallS C (rmA hw O5 S0 hz0 S1 rf ⟨(((HS.1.ext E1).wr W3).wr W5), (((HS.2.1.ext E1).other W3 (Or.inl (oNe HS.1.lt (Nat.le_of_eq g1.symm)))).other W5 (Or.inl (oNe HS.1.lt (Nat.le_of_eq g1.symm)))), (((HS.2.2.1.ext E1).other W3 (Or.inl (oNe HS.1.lt (Nat.le_of_eq g1.symm)))).other W5 (Or.inl (oNe HS.1.lt (Nat.le_of_eq g1.symm)))), (((HS.2.2.2.1.ext E1).other W3 (oNe HS.2.2.2.1.lt (Nat.le_of_eq g1.symm))).other W5 (oNe HS.2.2.2.1.lt (Nat.le_of_eq g1.symm))), HS.2.2.2.2.1, HS.2.2.2.2.2⟩ (i := (2 : Int32)) (iN := 2) (p := p) (d := d) rfl (by decide) hd) tw25 tw26 tw27 tw28 ⟨by decide, by decide⟩ (argsL := [(.ref s), (.int (2 : Int32)), (.int p), (.int d)]) (S' := [(.int (2 : Int32)), (.ref a1)]) (lenOf pd5 rfl) rfl rfl d0_236 rfl (W := 2) rfl ⟨by decide, by decide, rfl, rfl, by decide, by decide⟩ fun v6 h6 q6 => ?_
  obtain ⟨rfl, rfl⟩ := q6
  show Go B n0 _ h5 3 52 239 #[(.val (.int i0)), (.val (.int i1)), (.val (.int i2)), (.val (.int i3)), (.val (.int bb)), (.val (.int op)), (.val (.ref s)), (.val (.ref base)), (.val (.int L)), (.val (.int d)), (.val (.int (8 : Int32))), (.val (.int p)), (.val ev), (.val (.ref a1)), .unset] [(.int (ff ss d p 2)), (.int (2 : Int32)), (.ref a1)]
  obtain ⟨c7, A7, q7, z7, y7, H7, G7⟩ := id V5
  refine iCastore C A7 (inb_of z7 ⟨by decide, by decide⟩) n_a1 d0_239 fun h7 W7 => ?_
  have V7 : Arv Z h7 a1 k1 .char (8 : Int32) [(.int (nar .char (ff ss d p 0))), (.int (nar .char (ff ss d p 1))), (.int (nar .char (ff ss d p 2))), (.int 0), (.int 0), (.int 0), (.int 0), (.int 0)] (.int 0) := Arv.set A7 q7 z7 y7 H7 G7 (fits_nar_char _) W7 2 (by decide) (Nat.le_of_ble_eq_true rfl)
  have O7 := O5.wr W7 n_a1
  refine iIload C d0_240 rfl ?_
  refine iIconst C d0_242 (v := (3 : Int32)) (by decide) ?_
  refine iCmpF C d0_243 (by decide) ?_
  refine iAload C d0_246 rfl rfl ?_
  refine iIconst C d0_248 (v := (3 : Int32)) (by decide) ?_
  refine iAload C d0_249 rfl rfl ?_
  refine iIconst C d0_251 (v := (3 : Int32)) (by decide) ?_
  refine iIload C d0_252 rfl ?_
  refine iIload C d0_254 rfl ?_
  refine iCallS C (rmA hw O7 S0 hz0 S1 rf ⟨((((HS.1.ext E1).wr W3).wr W5).wr W7), ((((HS.2.1.ext E1).other W3 (Or.inl (oNe HS.1.lt (Nat.le_of_eq g1.symm)))).other W5 (Or.inl (oNe HS.1.lt (Nat.le_of_eq g1.symm)))).other W7 (Or.inl (oNe HS.1.lt (Nat.le_of_eq g1.symm)))), ((((HS.2.2.1.ext E1).other W3 (Or.inl (oNe HS.1.lt (Nat.le_of_eq g1.symm)))).other W5 (Or.inl (oNe HS.1.lt (Nat.le_of_eq g1.symm)))).other W7 (Or.inl (oNe HS.1.lt (Nat.le_of_eq g1.symm)))), ((((HS.2.2.2.1.ext E1).other W3 (oNe HS.2.2.2.1.lt (Nat.le_of_eq g1.symm))).other W5 (oNe HS.2.2.2.1.lt (Nat.le_of_eq g1.symm))).other W7 (oNe HS.2.2.2.1.lt (Nat.le_of_eq g1.symm))), HS.2.2.2.2.1, HS.2.2.2.2.2⟩ (i := (3 : Int32)) (iN := 3) (p := p) (d := d) rfl (by decide) hd) tw25 tw26 tw27 tw28 ⟨by decide, by decide⟩ (argsL := [(.ref s), (.int (3 : Int32)), (.int p), (.int d)]) (S' := [(.int (3 : Int32)), (.ref a1)]) (lenOf pd5 rfl) rfl rfl d0_256 rfl (W := 2) rfl ⟨by decide, by decide, rfl, rfl, by decide, by decide⟩ fun v8 h8 q8 => ?_
  obtain ⟨rfl, rfl⟩ := q8
  show Go B n0 _ h7 3 52 259 #[(.val (.int i0)), (.val (.int i1)), (.val (.int i2)), (.val (.int i3)), (.val (.int bb)), (.val (.int op)), (.val (.ref s)), (.val (.ref base)), (.val (.int L)), (.val (.int d)), (.val (.int (8 : Int32))), (.val (.int p)), (.val ev), (.val (.ref a1)), .unset] [(.int (ff ss d p 3)), (.int (3 : Int32)), (.ref a1)]
  obtain ⟨c9, A9, q9, z9, y9, H9, G9⟩ := id V7
  refine iCastore C A9 (inb_of z9 ⟨by decide, by decide⟩) n_a1 d0_259 fun h9 W9 => ?_
  have V9 : Arv Z h9 a1 k1 .char (8 : Int32) [(.int (nar .char (ff ss d p 0))), (.int (nar .char (ff ss d p 1))), (.int (nar .char (ff ss d p 2))), (.int (nar .char (ff ss d p 3))), (.int 0), (.int 0), (.int 0), (.int 0)] (.int 0) := Arv.set A9 q9 z9 y9 H9 G9 (fits_nar_char _) W9 3 (by decide) (Nat.le_of_ble_eq_true rfl)
  have O9 := O7.wr W9 n_a1
  refine iIload C d0_260 rfl ?_
  refine iIconst C d0_262 (v := (4 : Int32)) (by decide) ?_
  refine iCmpF C d0_263 (by decide) ?_
  refine iAload C d0_266 rfl rfl ?_
  refine iIconst C d0_268 (v := (4 : Int32)) (by decide) ?_
  refine iAload C d0_269 rfl rfl ?_
  refine iIconst C d0_271 (v := (4 : Int32)) (by decide) ?_
  refine iIload C d0_272 rfl ?_
  refine iIload C d0_274 rfl ?_
  refine iCallS C (rmA hw O9 S0 hz0 S1 rf ⟨(((((HS.1.ext E1).wr W3).wr W5).wr W7).wr W9), (((((HS.2.1.ext E1).other W3 (Or.inl (oNe HS.1.lt (Nat.le_of_eq g1.symm)))).other W5 (Or.inl (oNe HS.1.lt (Nat.le_of_eq g1.symm)))).other W7 (Or.inl (oNe HS.1.lt (Nat.le_of_eq g1.symm)))).other W9 (Or.inl (oNe HS.1.lt (Nat.le_of_eq g1.symm)))), (((((HS.2.2.1.ext E1).other W3 (Or.inl (oNe HS.1.lt (Nat.le_of_eq g1.symm)))).other W5 (Or.inl (oNe HS.1.lt (Nat.le_of_eq g1.symm)))).other W7 (Or.inl (oNe HS.1.lt (Nat.le_of_eq g1.symm)))).other W9 (Or.inl (oNe HS.1.lt (Nat.le_of_eq g1.symm)))), (((((HS.2.2.2.1.ext E1).other W3 (oNe HS.2.2.2.1.lt (Nat.le_of_eq g1.symm))).other W5 (oNe HS.2.2.2.1.lt (Nat.le_of_eq g1.symm))).other W7 (oNe HS.2.2.2.1.lt (Nat.le_of_eq g1.symm))).other W9 (oNe HS.2.2.2.1.lt (Nat.le_of_eq g1.symm))), HS.2.2.2.2.1, HS.2.2.2.2.2⟩ (i := (4 : Int32)) (iN := 4) (p := p) (d := d) rfl (by decide) hd) tw25 tw26 tw27 tw28 ⟨by decide, by decide⟩ (argsL := [(.ref s), (.int (4 : Int32)), (.int p), (.int d)]) (S' := [(.int (4 : Int32)), (.ref a1)]) (lenOf pd5 rfl) rfl rfl d0_276 rfl (W := 2) rfl ⟨by decide, by decide, rfl, rfl, by decide, by decide⟩ fun v10 h10 q10 => ?_
  obtain ⟨rfl, rfl⟩ := q10
  show Go B n0 _ h9 3 52 279 #[(.val (.int i0)), (.val (.int i1)), (.val (.int i2)), (.val (.int i3)), (.val (.int bb)), (.val (.int op)), (.val (.ref s)), (.val (.ref base)), (.val (.int L)), (.val (.int d)), (.val (.int (8 : Int32))), (.val (.int p)), (.val ev), (.val (.ref a1)), .unset] [(.int (ff ss d p 4)), (.int (4 : Int32)), (.ref a1)]
  obtain ⟨c11, A11, q11, z11, y11, H11, G11⟩ := id V9
  refine iCastore C A11 (inb_of z11 ⟨by decide, by decide⟩) n_a1 d0_279 fun h11 W11 => ?_
  have V11 : Arv Z h11 a1 k1 .char (8 : Int32) [(.int (nar .char (ff ss d p 0))), (.int (nar .char (ff ss d p 1))), (.int (nar .char (ff ss d p 2))), (.int (nar .char (ff ss d p 3))), (.int (nar .char (ff ss d p 4))), (.int 0), (.int 0), (.int 0)] (.int 0) := Arv.set A11 q11 z11 y11 H11 G11 (fits_nar_char _) W11 4 (by decide) (Nat.le_of_ble_eq_true rfl)
  have O11 := O9.wr W11 n_a1
  refine iIload C d0_280 rfl ?_
  refine iIconst C d0_282 (v := (5 : Int32)) (by decide) ?_
  refine iCmpF C d0_283 (by decide) ?_
  refine iAload C d0_286 rfl rfl ?_
  refine iIconst C d0_288 (v := (5 : Int32)) (by decide) ?_
  refine iAload C d0_289 rfl rfl ?_
  refine iIconst C d0_291 (v := (5 : Int32)) (by decide) ?_
  refine iIload C d0_292 rfl ?_
  refine iIload C d0_294 rfl ?_
  refine iCallS C (rmA hw O11 S0 hz0 S1 rf ⟨((((((HS.1.ext E1).wr W3).wr W5).wr W7).wr W9).wr W11), ((((((HS.2.1.ext E1).other W3 (Or.inl (oNe HS.1.lt (Nat.le_of_eq g1.symm)))).other W5 (Or.inl (oNe HS.1.lt (Nat.le_of_eq g1.symm)))).other W7 (Or.inl (oNe HS.1.lt (Nat.le_of_eq g1.symm)))).other W9 (Or.inl (oNe HS.1.lt (Nat.le_of_eq g1.symm)))).other W11 (Or.inl (oNe HS.1.lt (Nat.le_of_eq g1.symm)))), ((((((HS.2.2.1.ext E1).other W3 (Or.inl (oNe HS.1.lt (Nat.le_of_eq g1.symm)))).other W5 (Or.inl (oNe HS.1.lt (Nat.le_of_eq g1.symm)))).other W7 (Or.inl (oNe HS.1.lt (Nat.le_of_eq g1.symm)))).other W9 (Or.inl (oNe HS.1.lt (Nat.le_of_eq g1.symm)))).other W11 (Or.inl (oNe HS.1.lt (Nat.le_of_eq g1.symm)))), ((((((HS.2.2.2.1.ext E1).other W3 (oNe HS.2.2.2.1.lt (Nat.le_of_eq g1.symm))).other W5 (oNe HS.2.2.2.1.lt (Nat.le_of_eq g1.symm))).other W7 (oNe HS.2.2.2.1.lt (Nat.le_of_eq g1.symm))).other W9 (oNe HS.2.2.2.1.lt (Nat.le_of_eq g1.symm))).other W11 (oNe HS.2.2.2.1.lt (Nat.le_of_eq g1.symm))), HS.2.2.2.2.1, HS.2.2.2.2.2⟩ (i := (5 : Int32)) (iN := 5) (p := p) (d := d) rfl (by decide) hd) tw25 tw26 tw27 tw28 ⟨by decide, by decide⟩ (argsL := [(.ref s), (.int (5 : Int32)), (.int p), (.int d)]) (S' := [(.int (5 : Int32)), (.ref a1)]) (lenOf pd5 rfl) rfl rfl d0_296 rfl (W := 2) rfl ⟨by decide, by decide, rfl, rfl, by decide, by decide⟩ fun v12 h12 q12 => ?_
  obtain ⟨rfl, rfl⟩ := q12
  show Go B n0 _ h11 3 52 299 #[(.val (.int i0)), (.val (.int i1)), (.val (.int i2)), (.val (.int i3)), (.val (.int bb)), (.val (.int op)), (.val (.ref s)), (.val (.ref base)), (.val (.int L)), (.val (.int d)), (.val (.int (8 : Int32))), (.val (.int p)), (.val ev), (.val (.ref a1)), .unset] [(.int (ff ss d p 5)), (.int (5 : Int32)), (.ref a1)]
  obtain ⟨c13, A13, q13, z13, y13, H13, G13⟩ := id V11
  refine iCastore C A13 (inb_of z13 ⟨by decide, by decide⟩) n_a1 d0_299 fun h13 W13 => ?_
  have V13 : Arv Z h13 a1 k1 .char (8 : Int32) [(.int (nar .char (ff ss d p 0))), (.int (nar .char (ff ss d p 1))), (.int (nar .char (ff ss d p 2))), (.int (nar .char (ff ss d p 3))), (.int (nar .char (ff ss d p 4))), (.int (nar .char (ff ss d p 5))), (.int 0), (.int 0)] (.int 0) := Arv.set A13 q13 z13 y13 H13 G13 (fits_nar_char _) W13 5 (by decide) (Nat.le_of_ble_eq_true rfl)
  have O13 := O11.wr W13 n_a1
  refine iIload C d0_300 rfl ?_
  refine iBipush C d0_302 (v := (6 : Int32)) (by decide) ?_
  refine iCmpF C d0_304 (by decide) ?_
  refine iAload C d0_307 rfl rfl ?_
  refine iBipush C d0_309 (v := (6 : Int32)) (by decide) ?_
  refine iAload C d0_311 rfl rfl ?_
  refine iBipush C d0_313 (v := (6 : Int32)) (by decide) ?_
  refine iIload C d0_315 rfl ?_
  refine iIload C d0_317 rfl ?_
  refine iCallS C (rmA hw O13 S0 hz0 S1 rf ⟨(((((((HS.1.ext E1).wr W3).wr W5).wr W7).wr W9).wr W11).wr W13), (((((((HS.2.1.ext E1).other W3 (Or.inl (oNe HS.1.lt (Nat.le_of_eq g1.symm)))).other W5 (Or.inl (oNe HS.1.lt (Nat.le_of_eq g1.symm)))).other W7 (Or.inl (oNe HS.1.lt (Nat.le_of_eq g1.symm)))).other W9 (Or.inl (oNe HS.1.lt (Nat.le_of_eq g1.symm)))).other W11 (Or.inl (oNe HS.1.lt (Nat.le_of_eq g1.symm)))).other W13 (Or.inl (oNe HS.1.lt (Nat.le_of_eq g1.symm)))), (((((((HS.2.2.1.ext E1).other W3 (Or.inl (oNe HS.1.lt (Nat.le_of_eq g1.symm)))).other W5 (Or.inl (oNe HS.1.lt (Nat.le_of_eq g1.symm)))).other W7 (Or.inl (oNe HS.1.lt (Nat.le_of_eq g1.symm)))).other W9 (Or.inl (oNe HS.1.lt (Nat.le_of_eq g1.symm)))).other W11 (Or.inl (oNe HS.1.lt (Nat.le_of_eq g1.symm)))).other W13 (Or.inl (oNe HS.1.lt (Nat.le_of_eq g1.symm)))), (((((((HS.2.2.2.1.ext E1).other W3 (oNe HS.2.2.2.1.lt (Nat.le_of_eq g1.symm))).other W5 (oNe HS.2.2.2.1.lt (Nat.le_of_eq g1.symm))).other W7 (oNe HS.2.2.2.1.lt (Nat.le_of_eq g1.symm))).other W9 (oNe HS.2.2.2.1.lt (Nat.le_of_eq g1.symm))).other W11 (oNe HS.2.2.2.1.lt (Nat.le_of_eq g1.symm))).other W13 (oNe HS.2.2.2.1.lt (Nat.le_of_eq g1.symm))), HS.2.2.2.2.1, HS.2.2.2.2.2⟩ (i := (6 : Int32)) (iN := 6) (p := p) (d := d) rfl (by decide) hd) tw25 tw26 tw27 tw28 ⟨by decide, by decide⟩ (argsL := [(.ref s), (.int (6 : Int32)), (.int p), (.int d)]) (S' := [(.int (6 : Int32)), (.ref a1)]) (lenOf pd5 rfl) rfl rfl d0_319 rfl (W := 2) rfl ⟨by decide, by decide, rfl, rfl, by decide, by decide⟩ fun v14 h14 q14 => ?_
  obtain ⟨rfl, rfl⟩ := q14
  show Go B n0 _ h13 3 52 322 #[(.val (.int i0)), (.val (.int i1)), (.val (.int i2)), (.val (.int i3)), (.val (.int bb)), (.val (.int op)), (.val (.ref s)), (.val (.ref base)), (.val (.int L)), (.val (.int d)), (.val (.int (8 : Int32))), (.val (.int p)), (.val ev), (.val (.ref a1)), .unset] [(.int (ff ss d p 6)), (.int (6 : Int32)), (.ref a1)]
  obtain ⟨c15, A15, q15, z15, y15, H15, G15⟩ := id V13
  refine iCastore C A15 (inb_of z15 ⟨by decide, by decide⟩) n_a1 d0_322 fun h15 W15 => ?_
  have V15 : Arv Z h15 a1 k1 .char (8 : Int32) [(.int (nar .char (ff ss d p 0))), (.int (nar .char (ff ss d p 1))), (.int (nar .char (ff ss d p 2))), (.int (nar .char (ff ss d p 3))), (.int (nar .char (ff ss d p 4))), (.int (nar .char (ff ss d p 5))), (.int (nar .char (ff ss d p 6))), (.int 0)] (.int 0) := Arv.set A15 q15 z15 y15 H15 G15 (fits_nar_char _) W15 6 (by decide) (Nat.le_of_ble_eq_true rfl)
  have O15 := O13.wr W15 n_a1
  refine iIload C d0_323 rfl ?_
  refine iBipush C d0_325 (v := (7 : Int32)) (by decide) ?_
  refine iCmpF C d0_327 (by decide) ?_
  refine iAload C d0_330 rfl rfl ?_
  refine iBipush C d0_332 (v := (7 : Int32)) (by decide) ?_
  refine iAload C d0_334 rfl rfl ?_
  refine iBipush C d0_336 (v := (7 : Int32)) (by decide) ?_
  refine iIload C d0_338 rfl ?_
  refine iIload C d0_340 rfl ?_
  refine iCallS C (rmA hw O15 S0 hz0 S1 rf ⟨((((((((HS.1.ext E1).wr W3).wr W5).wr W7).wr W9).wr W11).wr W13).wr W15), ((((((((HS.2.1.ext E1).other W3 (Or.inl (oNe HS.1.lt (Nat.le_of_eq g1.symm)))).other W5 (Or.inl (oNe HS.1.lt (Nat.le_of_eq g1.symm)))).other W7 (Or.inl (oNe HS.1.lt (Nat.le_of_eq g1.symm)))).other W9 (Or.inl (oNe HS.1.lt (Nat.le_of_eq g1.symm)))).other W11 (Or.inl (oNe HS.1.lt (Nat.le_of_eq g1.symm)))).other W13 (Or.inl (oNe HS.1.lt (Nat.le_of_eq g1.symm)))).other W15 (Or.inl (oNe HS.1.lt (Nat.le_of_eq g1.symm)))), ((((((((HS.2.2.1.ext E1).other W3 (Or.inl (oNe HS.1.lt (Nat.le_of_eq g1.symm)))).other W5 (Or.inl (oNe HS.1.lt (Nat.le_of_eq g1.symm)))).other W7 (Or.inl (oNe HS.1.lt (Nat.le_of_eq g1.symm)))).other W9 (Or.inl (oNe HS.1.lt (Nat.le_of_eq g1.symm)))).other W11 (Or.inl (oNe HS.1.lt (Nat.le_of_eq g1.symm)))).other W13 (Or.inl (oNe HS.1.lt (Nat.le_of_eq g1.symm)))).other W15 (Or.inl (oNe HS.1.lt (Nat.le_of_eq g1.symm)))), ((((((((HS.2.2.2.1.ext E1).other W3 (oNe HS.2.2.2.1.lt (Nat.le_of_eq g1.symm))).other W5 (oNe HS.2.2.2.1.lt (Nat.le_of_eq g1.symm))).other W7 (oNe HS.2.2.2.1.lt (Nat.le_of_eq g1.symm))).other W9 (oNe HS.2.2.2.1.lt (Nat.le_of_eq g1.symm))).other W11 (oNe HS.2.2.2.1.lt (Nat.le_of_eq g1.symm))).other W13 (oNe HS.2.2.2.1.lt (Nat.le_of_eq g1.symm))).other W15 (oNe HS.2.2.2.1.lt (Nat.le_of_eq g1.symm))), HS.2.2.2.2.1, HS.2.2.2.2.2⟩ (i := (7 : Int32)) (iN := 7) (p := p) (d := d) rfl (by decide) hd) tw25 tw26 tw27 tw28 ⟨by decide, by decide⟩ (argsL := [(.ref s), (.int (7 : Int32)), (.int p), (.int d)]) (S' := [(.int (7 : Int32)), (.ref a1)]) (lenOf pd5 rfl) rfl rfl d0_342 rfl (W := 2) rfl ⟨by decide, by decide, rfl, rfl, by decide, by decide⟩ fun v16 h16 q16 => ?_
  obtain ⟨rfl, rfl⟩ := q16
  show Go B n0 _ h15 3 52 345 #[(.val (.int i0)), (.val (.int i1)), (.val (.int i2)), (.val (.int i3)), (.val (.int bb)), (.val (.int op)), (.val (.ref s)), (.val (.ref base)), (.val (.int L)), (.val (.int d)), (.val (.int (8 : Int32))), (.val (.int p)), (.val ev), (.val (.ref a1)), .unset] [(.int (ff ss d p 7)), (.int (7 : Int32)), (.ref a1)]
  obtain ⟨c17, A17, q17, z17, y17, H17, G17⟩ := id V15
  refine iCastore C A17 (inb_of z17 ⟨by decide, by decide⟩) n_a1 d0_345 fun h17 W17 => ?_
  have V17 : Arv Z h17 a1 k1 .char (8 : Int32) [(.int (nar .char (ff ss d p 0))), (.int (nar .char (ff ss d p 1))), (.int (nar .char (ff ss d p 2))), (.int (nar .char (ff ss d p 3))), (.int (nar .char (ff ss d p 4))), (.int (nar .char (ff ss d p 5))), (.int (nar .char (ff ss d p 6))), (.int (nar .char (ff ss d p 7)))] (.int 0) := Arv.set A17 q17 z17 y17 H17 G17 (fits_nar_char _) W17 7 (by decide) (Nat.le_of_ble_eq_true rfl)
  have O17 := O15.wr W17 n_a1
  refine iIload C d0_346 rfl ?_
  refine iBipush C d0_348 (v := (8 : Int32)) (by decide) ?_
  refine iCmpT C (t := 369) d0_350 (by decide) ⟨by decide, by decide⟩ ?_
  refine iIload C d0_369 rfl ?_
  refine iBipush C d0_371 (v := (9 : Int32)) (by decide) ?_
  refine iCmpT C (t := 392) d0_373 (by decide) ⟨by decide, by decide⟩ ?_
  refine iIload C d0_392 rfl ?_
  refine iBipush C d0_394 (v := (10 : Int32)) (by decide) ?_
  refine iCmpT C (t := 415) d0_396 (by decide) ⟨by decide, by decide⟩ ?_
  refine iNew C tw51 tw2 tw1 d0_415 ⟨rfl, rfl, by decide, by decide⟩ fun h18 a18 g18 E18 A18 D18 => ?_
  have n_a18 : n0 ≤ a18 := oFresh O17 g18
  have O18 := O17.ext E18
  have F18_value : Fld Z h18 a18 "java/lang/String" "value" "[B" .null := D18 (Or.inr (hw _ tw4)) (ty := (.array .byte)) (by decide)
  have F18_coder : Fld Z h18 a18 "java/lang/String" "coder" "B" (.int (0 : Int32)) := D18 (Or.inr (hw _ tw5)) (ty := .byte) (by decide)
  refine iDup C d0_418 rfl ?_
  refine iAload C d0_419 rfl rfl ?_
  have K19 : Arv Z h18 a1 k1 .char (8 : Int32) (List.map Value.int [ff ss d p 0, ff ss d p 1, ff ss d p 2, ff ss d p 3, ff ss d p 4, ff ss d p 5, ff ss d p 6, ff ss d p 7]) (.int 0) := by
    have q := (V17.ext E18)
    simpa only [hnf, List.map] using q
  have P19 : ∀ c ∈ [ff ss d p 0, ff ss d p 1, ff ss d p 2, ff ss d p 3, ff ss d p 4, ff ss d p 5, ff ss d p 6, ff ss d p 7], ¬ c < 0 ∧ ¬ (255 : Int32) < c := by
    intro c hc
    simp only [List.mem_cons, List.not_mem_nil, or_false] at hc
    rcases hc with rfl | rfl | rfl | rfl | rfl | rfl | rfl | rfl <;> exact own_ff hd HS.2.2.2.2.2 _
  refine iCallIB C (a := a18) (payStr hw n_a18 O18 A18 F18_value F18_coder K19 (S0.ext O18.2) hz0 (n := 8) rfl rfl (by decide) (by decide) P19 (by decide) (by decide)) rfl tw52 tw53 tw54 ⟨by decide, by decide⟩ (argsL := [(.ref a1)]) (S' := [(.ref a18)]) (lenOf pd6 rfl) rfl rfl d0_421 rfl (W := 1) rfl ⟨rfl, rfl, by decide, by decide⟩ fun v20 h20 q20 => ?_
  obtain ⟨rfl, K_20, t_20, k_20, sx_20⟩ := q20
  have O20 := O18.keep K_20 (allS n_a18 all0)
  show Go B n0 _ h20 5 64 424 #[(.val (.int i0)), (.val (.int i1)), (.val (.int i2)), (.val (.int i3)), (.val (.int bb)), (.val (.int op)), (.val (.ref s)), (.val (.ref base)), (.val (.int L)), (.val (.int d)), (.val (.int (8 : Int32))), (.val (.int p)), (.val ev), (.val (.ref a1)), .unset] [(.ref a18)]
  refine iAstore C d0_424 (Ls' := #[(.val (.int i0)), (.val (.int i1)), (.val (.int i2)), (.val (.int i3)), (.val (.int bb)), (.val (.int op)), (.val (.ref s)), (.val (.ref base)), (.val (.int L)), (.val (.int d)), (.val (.int (8 : Int32))), (.val (.int p)), (.val ev), (.val (.ref a1)), (.val (.ref a18))]) rfl rfl ?_
  refine iAload C d0_426 rfl rfl ?_
  refine iCallS C (rmN hw G O20 FV hcap S0 hz0 SI SW sx_20) tw72 tw73 tw9 tw74 ⟨by decide, by decide⟩ (argsL := [(.ref a18)]) (S' := []) (lenOf pd7 rfl) rfl rfl d0_428 rfl (W := 0) rfl ⟨by decide, by decide, rfl, rfl, by decide, by decide⟩ fun v21 h21 q21 => ?_
  obtain ⟨rfl, E21⟩ := q21
  show Go B n0 _ h21 6 66 431 #[(.val (.int i0)), (.val (.int i1)), (.val (.int i2)), (.val (.int i3)), (.val (.int bb)), (.val (.int op)), (.val (.ref s)), (.val (.ref base)), (.val (.int L)), (.val (.int d)), (.val (.int (8 : Int32))), (.val (.int p)), (.val ev), (.val (.ref a1)), (.val (.ref a18))] [(pk ga1 ga3 [ff ss d p 0, ff ss d p 1, ff ss d p 2, ff ss d p 3, ff ss d p 4, ff ss d p 5, ff ss d p 6, ff ss d p 7])]
  rw [hE]
  rcases hev with rfl | ⟨ra, rfl⟩
  · refine iAload C d0_431 rfl rfl ?_
    refine iAcmpF C d0_433 rfl rfl (acE rfl).2 ?_
    refine iIconst C d0_436 (v := (1 : Int32)) (by decide) ?_
    refine iGoto C (t := 441) d0_437 ⟨by decide, by decide⟩ ?_
    refine iRetZ C d0_441 (by simp) ⟨Nat.le_refl _, by decide, by decide⟩ ?_
    exact rfl
  · refine iAload C d0_431 rfl rfl ?_
    refine iAcmpF C d0_433 rfl rfl (acE rfl).2 ?_
    refine iIconst C d0_436 (v := (1 : Int32)) (by decide) ?_
    refine iGoto C (t := 441) d0_437 ⟨by decide, by decide⟩ ?_
    refine iRetZ C d0_441 (by simp) ⟨Nat.le_refl _, by decide, by decide⟩ ?_
    exact rfl
set_option maxRecDepth 65536 in
set_option maxHeartbeats 4000000 in
theorem tl9 {l : Launch} {Z : State} {a0 : Array Value} (hw : ∀ d ∈ tables_1, d.before a0 Z = true) {n0 : Nat} {h0 : Heap} {ga1 ga2 ga3 ga4 ga5 ga6 ga7 : Addr} {gc2 gc5 gc7 : Cell} (G : GG Z ga1 ga2 ga3 ga4 ga5 ga6 ga7 gc2 gc5 gc7) (O : Old Z n0 h0) (FV : FitC Z gc2) (hcap : gc2.slots.size ≤ 2) {z0 : Int32} (S0 : Sta Z Z.heap "java/lang/String" "COMPACT_STRINGS" "Z" (.int z0)) (hz0 : ¬ z0 = 0) (SI : SX Z Z.heap ga4 ga5 gc5.cls SINJ) (SW : SX Z Z.heap ga6 ga7 gc7.cls SWD) {fm : Value} (S1 : Sta Z Z.heap "jdk/internal/util/Preconditions" "SIOOBE_FORMATTER" "Ljava/util/function/BiFunction;" fm) (rf : fm.isRef = true) (hcw : Jvm.Lit.compactW.before a0 Z = true) (hhE : Jvm.Lit.constHeld Z "java/lang/String" 7) {i0 i1 i2 i3 bb op L d p : Int32} {s base t : Addr} {k : ClassId} {ss : List Int32} {ev : Value} (HS : SX Z h0 s t k ss) (hd : ¬ d < 0 ∧ ¬ (255 : Int32) < d) (hev : ev = .null ∨ ∃ a, ev = .ref a) (hE : pk ga1 ga3 [ff ss d p 0, ff ss d p 1, ff ss d p 2, ff ss d p 3, ff ss d p 4, ff ss d p 5, ff ss d p 6, ff ss d p 7, ff ss d p 8] = ev) {B : Bx} (C : Cx B l Z a0 room_1 x code maxLocals ret n0) :
    Go B n0 (fun v _ => v = some (.int 1)) h0 2 44 175 #[(.val (.int i0)), (.val (.int i1)), (.val (.int i2)), (.val (.int i3)), (.val (.int bb)), (.val (.int op)), (.val (.ref s)), (.val (.ref base)), (.val (.int L)), (.val (.int d)), (.val (.int (9 : Int32))), (.val (.int p)), (.val ev), .unset, .unset] [] := by
  have hrf : ev.isRef = true := by rcases hev with rfl | ⟨a, rfl⟩ <;> rfl
  have hnf : ∀ i, nar .char (ff ss d p i) = ff ss d p i := fun i => own_nar (own_ff hd HS.2.2.2.2.2 i)
  refine iIload C d0_175 rfl ?_
  refine iNewP C (aty := .char) tw24 d0_177 (by decide) (cap := 9) (by decide) (by decide) ⟨rfl, rfl, by decide, by decide⟩ fun h1 a1 k1 g1 E1 V1 => ?_
  have n_a1 : n0 ≤ a1 := oFresh O g1
  have O1 := O.ext E1
  have V1 : Arv Z h1 a1 k1 .char (9 : Int32) [(.int 0), (.int 0), (.int 0), (.int 0), (.int 0), (.int 0), (.int 0), (.int 0), (.int 0)] (.int 0) := V1.pad (pad_rep [] (.int 0) 9)
  refine iAstore C d0_179 (Ls' := #[(.val (.int i0)), (.val (.int i1)), (.val (.int i2)), (.val (.int i3)), (.val (.int bb)), (.val (.int op)), (.val (.ref s)), (.val (.ref base)), (.val (.int L)), (.val (.int d)), (.val (.int (9 : Int32))), (.val (.int p)), (.val ev), (.val (.ref a1)), .unset]) rfl rfl ?_
  refine iIload C d0_181 rfl ?_
  refine iIfF C d0_183 (by decide) ?_
  refine iAload C d0_186 rfl rfl ?_
  refine iIconst C d0_188 (v := (0 : Int32)) (by decide) ?_
  refine iAload C d0_189 rfl rfl ?_
  refine iIconst C d0_191 (v := (0 : Int32)) (by decide) ?_
  refine iIload C d0_192 rfl ?_
  refine iIload C d0_194 rfl ?_
  refine iCallS C (rmA hw O1 S0 hz0 S1 rf ⟨(HS.1.ext E1), (HS.2.1.ext E1), (HS.2.2.1.ext E1), (HS.2.2.2.1.ext E1), HS.2.2.2.2.1, HS.2.2.2.2.2⟩ (i := (0 : Int32)) (iN := 0) (p := p) (d := d) rfl (by decide) hd) tw25 tw26 tw27 tw28 ⟨by decide, by decide⟩ (argsL := [(.ref s), (.int (0 : Int32)), (.int p), (.int d)]) (S' := [(.int (0 : Int32)), (.ref a1)]) (lenOf pd5 rfl) rfl rfl d0_196 rfl (W := 2) rfl ⟨by decide, by decide, rfl, rfl, by decide, by decide⟩ fun v2 h2 q2 => ?_
  obtain ⟨rfl, rfl⟩ := q2
  show Go B n0 _ h1 3 53 199 #[(.val (.int i0)), (.val (.int i1)), (.val (.int i2)), (.val (.int i3)), (.val (.int bb)), (.val (.int op)), (.val (.ref s)), (.val (.ref base)), (.val (.int L)), (.val (.int d)), (.val (.int (9 : Int32))), (.val (.int p)), (.val ev), (.val (.ref a1)), .unset] [(.int (ff ss d p 0)), (.int (0 : Int32)), (.ref a1)]
  obtain ⟨c3, A3, q3, z3, y3, H3, G3⟩ := id V1
  refine iCastore C A3 (inb_of z3 ⟨by decide, by decide⟩) n_a1 d0_199 fun h3 W3 => ?_
  have V3 : Arv Z h3 a1 k1 .char (9 : Int32) [(.int (nar .char (ff ss d p 0))), (.int 0), (.int 0), (.int 0), (.int 0), (.int 0), (.int 0), (.int 0), (.int 0)] (.int 0) := Arv.set A3 q3 z3 y3 H3 G3 (fits_nar_char _) W3 0 (by decide) (Nat.le_of_ble_eq_true rfl)
  have O3 := O1.wr W3 n_a1
  refine iIload C d0_200 rfl ?_
  refine iIconst C d0_202 (v := (1 : Int32)) (by decide) ?_
  refine iCmpF C d0_203 (by decide) ?_
  refine iAload C d0_206 rfl rfl ?_
  refine iIconst C d0_208 (v := (1 : Int32)) (by decide) ?_
  refine iAload C d0_209 rfl rfl ?_
  refine iIconst C d0_211 (v := (1 : Int32)) (by decide) ?_
  refine iIload C d0_212 rfl ?_
  refine iIload C d0_214 rfl ?_
  refine iCallS C (rmA hw O3 S0 hz0 S1 rf ⟨((HS.1.ext E1).wr W3), ((HS.2.1.ext E1).other W3 (Or.inl (oNe HS.1.lt (Nat.le_of_eq g1.symm)))), ((HS.2.2.1.ext E1).other W3 (Or.inl (oNe HS.1.lt (Nat.le_of_eq g1.symm)))), ((HS.2.2.2.1.ext E1).other W3 (oNe HS.2.2.2.1.lt (Nat.le_of_eq g1.symm))), HS.2.2.2.2.1, HS.2.2.2.2.2⟩ (i := (1 : Int32)) (iN := 1) (p := p) (d := d) rfl (by decide) hd) tw25 tw26 tw27 tw28 ⟨by decide, by decide⟩ (argsL := [(.ref s), (.int (1 : Int32)), (.int p), (.int d)]) (S' := [(.int (1 : Int32)), (.ref a1)]) (lenOf pd5 rfl) rfl rfl d0_216 rfl (W := 2) rfl ⟨by decide, by decide, rfl, rfl, by decide, by decide⟩ fun v4 h4 q4 => ?_
  obtain ⟨rfl, rfl⟩ := q4
  show Go B n0 _ h3 3 53 219 #[(.val (.int i0)), (.val (.int i1)), (.val (.int i2)), (.val (.int i3)), (.val (.int bb)), (.val (.int op)), (.val (.ref s)), (.val (.ref base)), (.val (.int L)), (.val (.int d)), (.val (.int (9 : Int32))), (.val (.int p)), (.val ev), (.val (.ref a1)), .unset] [(.int (ff ss d p 1)), (.int (1 : Int32)), (.ref a1)]
  obtain ⟨c5, A5, q5, z5, y5, H5, G5⟩ := id V3
  refine iCastore C A5 (inb_of z5 ⟨by decide, by decide⟩) n_a1 d0_219 fun h5 W5 => ?_
  have V5 : Arv Z h5 a1 k1 .char (9 : Int32) [(.int (nar .char (ff ss d p 0))), (.int (nar .char (ff ss d p 1))), (.int 0), (.int 0), (.int 0), (.int 0), (.int 0), (.int 0), (.int 0)] (.int 0) := Arv.set A5 q5 z5 y5 H5 G5 (fits_nar_char _) W5 1 (by decide) (Nat.le_of_ble_eq_true rfl)
  have O5 := O3.wr W5 n_a1
  refine iIload C d0_220 rfl ?_
  refine iIconst C d0_222 (v := (2 : Int32)) (by decide) ?_
  refine iCmpF C d0_223 (by decide) ?_
  refine iAload C d0_226 rfl rfl ?_
  refine iIconst C d0_228 (v := (2 : Int32)) (by decide) ?_
  refine iAload C d0_229 rfl rfl ?_
  refine iIconst C d0_231 (v := (2 : Int32)) (by decide) ?_
  refine iIload C d0_232 rfl ?_
  refine iIload C d0_234 rfl ?_
  refine iCallS C (rmA hw O5 S0 hz0 S1 rf ⟨(((HS.1.ext E1).wr W3).wr W5), (((HS.2.1.ext E1).other W3 (Or.inl (oNe HS.1.lt (Nat.le_of_eq g1.symm)))).other W5 (Or.inl (oNe HS.1.lt (Nat.le_of_eq g1.symm)))), (((HS.2.2.1.ext E1).other W3 (Or.inl (oNe HS.1.lt (Nat.le_of_eq g1.symm)))).other W5 (Or.inl (oNe HS.1.lt (Nat.le_of_eq g1.symm)))), (((HS.2.2.2.1.ext E1).other W3 (oNe HS.2.2.2.1.lt (Nat.le_of_eq g1.symm))).other W5 (oNe HS.2.2.2.1.lt (Nat.le_of_eq g1.symm))), HS.2.2.2.2.1, HS.2.2.2.2.2⟩ (i := (2 : Int32)) (iN := 2) (p := p) (d := d) rfl (by decide) hd) tw25 tw26 tw27 tw28 ⟨by decide, by decide⟩ (argsL := [(.ref s), (.int (2 : Int32)), (.int p), (.int d)]) (S' := [(.int (2 : Int32)), (.ref a1)]) (lenOf pd5 rfl) rfl rfl d0_236 rfl (W := 2) rfl ⟨by decide, by decide, rfl, rfl, by decide, by decide⟩ fun v6 h6 q6 => ?_
  obtain ⟨rfl, rfl⟩ := q6
  show Go B n0 _ h5 3 53 239 #[(.val (.int i0)), (.val (.int i1)), (.val (.int i2)), (.val (.int i3)), (.val (.int bb)), (.val (.int op)), (.val (.ref s)), (.val (.ref base)), (.val (.int L)), (.val (.int d)), (.val (.int (9 : Int32))), (.val (.int p)), (.val ev), (.val (.ref a1)), .unset] [(.int (ff ss d p 2)), (.int (2 : Int32)), (.ref a1)]
  obtain ⟨c7, A7, q7, z7, y7, H7, G7⟩ := id V5
  refine iCastore C A7 (inb_of z7 ⟨by decide, by decide⟩) n_a1 d0_239 fun h7 W7 => ?_
  have V7 : Arv Z h7 a1 k1 .char (9 : Int32) [(.int (nar .char (ff ss d p 0))), (.int (nar .char (ff ss d p 1))), (.int (nar .char (ff ss d p 2))), (.int 0), (.int 0), (.int 0), (.int 0), (.int 0), (.int 0)] (.int 0) := Arv.set A7 q7 z7 y7 H7 G7 (fits_nar_char _) W7 2 (by decide) (Nat.le_of_ble_eq_true rfl)
  have O7 := O5.wr W7 n_a1
  refine iIload C d0_240 rfl ?_
  refine iIconst C d0_242 (v := (3 : Int32)) (by decide) ?_
  refine iCmpF C d0_243 (by decide) ?_
  refine iAload C d0_246 rfl rfl ?_
  refine iIconst C d0_248 (v := (3 : Int32)) (by decide) ?_
  refine iAload C d0_249 rfl rfl ?_
  refine iIconst C d0_251 (v := (3 : Int32)) (by decide) ?_
  refine iIload C d0_252 rfl ?_
  refine iIload C d0_254 rfl ?_
  refine iCallS C (rmA hw O7 S0 hz0 S1 rf ⟨((((HS.1.ext E1).wr W3).wr W5).wr W7), ((((HS.2.1.ext E1).other W3 (Or.inl (oNe HS.1.lt (Nat.le_of_eq g1.symm)))).other W5 (Or.inl (oNe HS.1.lt (Nat.le_of_eq g1.symm)))).other W7 (Or.inl (oNe HS.1.lt (Nat.le_of_eq g1.symm)))), ((((HS.2.2.1.ext E1).other W3 (Or.inl (oNe HS.1.lt (Nat.le_of_eq g1.symm)))).other W5 (Or.inl (oNe HS.1.lt (Nat.le_of_eq g1.symm)))).other W7 (Or.inl (oNe HS.1.lt (Nat.le_of_eq g1.symm)))), ((((HS.2.2.2.1.ext E1).other W3 (oNe HS.2.2.2.1.lt (Nat.le_of_eq g1.symm))).other W5 (oNe HS.2.2.2.1.lt (Nat.le_of_eq g1.symm))).other W7 (oNe HS.2.2.2.1.lt (Nat.le_of_eq g1.symm))), HS.2.2.2.2.1, HS.2.2.2.2.2⟩ (i := (3 : Int32)) (iN := 3) (p := p) (d := d) rfl (by decide) hd) tw25 tw26 tw27 tw28 ⟨by decide, by decide⟩ (argsL := [(.ref s), (.int (3 : Int32)), (.int p), (.int d)]) (S' := [(.int (3 : Int32)), (.ref a1)]) (lenOf pd5 rfl) rfl rfl d0_256 rfl (W := 2) rfl ⟨by decide, by decide, rfl, rfl, by decide, by decide⟩ fun v8 h8 q8 => ?_
  obtain ⟨rfl, rfl⟩ := q8
  show Go B n0 _ h7 3 53 259 #[(.val (.int i0)), (.val (.int i1)), (.val (.int i2)), (.val (.int i3)), (.val (.int bb)), (.val (.int op)), (.val (.ref s)), (.val (.ref base)), (.val (.int L)), (.val (.int d)), (.val (.int (9 : Int32))), (.val (.int p)), (.val ev), (.val (.ref a1)), .unset] [(.int (ff ss d p 3)), (.int (3 : Int32)), (.ref a1)]
  obtain ⟨c9, A9, q9, z9, y9, H9, G9⟩ := id V7
  refine iCastore C A9 (inb_of z9 ⟨by decide, by decide⟩) n_a1 d0_259 fun h9 W9 => ?_
  have V9 : Arv Z h9 a1 k1 .char (9 : Int32) [(.int (nar .char (ff ss d p 0))), (.int (nar .char (ff ss d p 1))), (.int (nar .char (ff ss d p 2))), (.int (nar .char (ff ss d p 3))), (.int 0), (.int 0), (.int 0), (.int 0), (.int 0)] (.int 0) := Arv.set A9 q9 z9 y9 H9 G9 (fits_nar_char _) W9 3 (by decide) (Nat.le_of_ble_eq_true rfl)
  have O9 := O7.wr W9 n_a1
  refine iIload C d0_260 rfl ?_
  refine iIconst C d0_262 (v := (4 : Int32)) (by decide) ?_
  refine iCmpF C d0_263 (by decide) ?_
  refine iAload C d0_266 rfl rfl ?_
  refine iIconst C d0_268 (v := (4 : Int32)) (by decide) ?_
  refine iAload C d0_269 rfl rfl ?_
  refine iIconst C d0_271 (v := (4 : Int32)) (by decide) ?_
  refine iIload C d0_272 rfl ?_
  refine iIload C d0_274 rfl ?_
  refine iCallS C (rmA hw O9 S0 hz0 S1 rf ⟨(((((HS.1.ext E1).wr W3).wr W5).wr W7).wr W9), (((((HS.2.1.ext E1).other W3 (Or.inl (oNe HS.1.lt (Nat.le_of_eq g1.symm)))).other W5 (Or.inl (oNe HS.1.lt (Nat.le_of_eq g1.symm)))).other W7 (Or.inl (oNe HS.1.lt (Nat.le_of_eq g1.symm)))).other W9 (Or.inl (oNe HS.1.lt (Nat.le_of_eq g1.symm)))), (((((HS.2.2.1.ext E1).other W3 (Or.inl (oNe HS.1.lt (Nat.le_of_eq g1.symm)))).other W5 (Or.inl (oNe HS.1.lt (Nat.le_of_eq g1.symm)))).other W7 (Or.inl (oNe HS.1.lt (Nat.le_of_eq g1.symm)))).other W9 (Or.inl (oNe HS.1.lt (Nat.le_of_eq g1.symm)))), (((((HS.2.2.2.1.ext E1).other W3 (oNe HS.2.2.2.1.lt (Nat.le_of_eq g1.symm))).other W5 (oNe HS.2.2.2.1.lt (Nat.le_of_eq g1.symm))).other W7 (oNe HS.2.2.2.1.lt (Nat.le_of_eq g1.symm))).other W9 (oNe HS.2.2.2.1.lt (Nat.le_of_eq g1.symm))), HS.2.2.2.2.1, HS.2.2.2.2.2⟩ (i := (4 : Int32)) (iN := 4) (p := p) (d := d) rfl (by decide) hd) tw25 tw26 tw27 tw28 ⟨by decide, by decide⟩ (argsL := [(.ref s), (.int (4 : Int32)), (.int p), (.int d)]) (S' := [(.int (4 : Int32)), (.ref a1)]) (lenOf pd5 rfl) rfl rfl d0_276 rfl (W := 2) rfl ⟨by decide, by decide, rfl, rfl, by decide, by decide⟩ fun v10 h10 q10 => ?_
  obtain ⟨rfl, rfl⟩ := q10
  show Go B n0 _ h9 3 53 279 #[(.val (.int i0)), (.val (.int i1)), (.val (.int i2)), (.val (.int i3)), (.val (.int bb)), (.val (.int op)), (.val (.ref s)), (.val (.ref base)), (.val (.int L)), (.val (.int d)), (.val (.int (9 : Int32))), (.val (.int p)), (.val ev), (.val (.ref a1)), .unset] [(.int (ff ss d p 4)), (.int (4 : Int32)), (.ref a1)]
  obtain ⟨c11, A11, q11, z11, y11, H11, G11⟩ := id V9
  refine iCastore C A11 (inb_of z11 ⟨by decide, by decide⟩) n_a1 d0_279 fun h11 W11 => ?_
  have V11 : Arv Z h11 a1 k1 .char (9 : Int32) [(.int (nar .char (ff ss d p 0))), (.int (nar .char (ff ss d p 1))), (.int (nar .char (ff ss d p 2))), (.int (nar .char (ff ss d p 3))), (.int (nar .char (ff ss d p 4))), (.int 0), (.int 0), (.int 0), (.int 0)] (.int 0) := Arv.set A11 q11 z11 y11 H11 G11 (fits_nar_char _) W11 4 (by decide) (Nat.le_of_ble_eq_true rfl)
  have O11 := O9.wr W11 n_a1
  refine iIload C d0_280 rfl ?_
  refine iIconst C d0_282 (v := (5 : Int32)) (by decide) ?_
  refine iCmpF C d0_283 (by decide) ?_
  refine iAload C d0_286 rfl rfl ?_
  refine iIconst C d0_288 (v := (5 : Int32)) (by decide) ?_
  refine iAload C d0_289 rfl rfl ?_
  refine iIconst C d0_291 (v := (5 : Int32)) (by decide) ?_
  refine iIload C d0_292 rfl ?_
  refine iIload C d0_294 rfl ?_
  refine iCallS C (rmA hw O11 S0 hz0 S1 rf ⟨((((((HS.1.ext E1).wr W3).wr W5).wr W7).wr W9).wr W11), ((((((HS.2.1.ext E1).other W3 (Or.inl (oNe HS.1.lt (Nat.le_of_eq g1.symm)))).other W5 (Or.inl (oNe HS.1.lt (Nat.le_of_eq g1.symm)))).other W7 (Or.inl (oNe HS.1.lt (Nat.le_of_eq g1.symm)))).other W9 (Or.inl (oNe HS.1.lt (Nat.le_of_eq g1.symm)))).other W11 (Or.inl (oNe HS.1.lt (Nat.le_of_eq g1.symm)))), ((((((HS.2.2.1.ext E1).other W3 (Or.inl (oNe HS.1.lt (Nat.le_of_eq g1.symm)))).other W5 (Or.inl (oNe HS.1.lt (Nat.le_of_eq g1.symm)))).other W7 (Or.inl (oNe HS.1.lt (Nat.le_of_eq g1.symm)))).other W9 (Or.inl (oNe HS.1.lt (Nat.le_of_eq g1.symm)))).other W11 (Or.inl (oNe HS.1.lt (Nat.le_of_eq g1.symm)))), ((((((HS.2.2.2.1.ext E1).other W3 (oNe HS.2.2.2.1.lt (Nat.le_of_eq g1.symm))).other W5 (oNe HS.2.2.2.1.lt (Nat.le_of_eq g1.symm))).other W7 (oNe HS.2.2.2.1.lt (Nat.le_of_eq g1.symm))).other W9 (oNe HS.2.2.2.1.lt (Nat.le_of_eq g1.symm))).other W11 (oNe HS.2.2.2.1.lt (Nat.le_of_eq g1.symm))), HS.2.2.2.2.1, HS.2.2.2.2.2⟩ (i := (5 : Int32)) (iN := 5) (p := p) (d := d) rfl (by decide) hd) tw25 tw26 tw27 tw28 ⟨by decide, by decide⟩ (argsL := [(.ref s), (.int (5 : Int32)), (.int p), (.int d)]) (S' := [(.int (5 : Int32)), (.ref a1)]) (lenOf pd5 rfl) rfl rfl d0_296 rfl (W := 2) rfl ⟨by decide, by decide, rfl, rfl, by decide, by decide⟩ fun v12 h12 q12 => ?_
  obtain ⟨rfl, rfl⟩ := q12
  show Go B n0 _ h11 3 53 299 #[(.val (.int i0)), (.val (.int i1)), (.val (.int i2)), (.val (.int i3)), (.val (.int bb)), (.val (.int op)), (.val (.ref s)), (.val (.ref base)), (.val (.int L)), (.val (.int d)), (.val (.int (9 : Int32))), (.val (.int p)), (.val ev), (.val (.ref a1)), .unset] [(.int (ff ss d p 5)), (.int (5 : Int32)), (.ref a1)]
  obtain ⟨c13, A13, q13, z13, y13, H13, G13⟩ := id V11
  refine iCastore C A13 (inb_of z13 ⟨by decide, by decide⟩) n_a1 d0_299 fun h13 W13 => ?_
  have V13 : Arv Z h13 a1 k1 .char (9 : Int32) [(.int (nar .char (ff ss d p 0))), (.int (nar .char (ff ss d p 1))), (.int (nar .char (ff ss d p 2))), (.int (nar .char (ff ss d p 3))), (.int (nar .char (ff ss d p 4))), (.int (nar .char (ff ss d p 5))), (.int 0), (.int 0), (.int 0)] (.int 0) := Arv.set A13 q13 z13 y13 H13 G13 (fits_nar_char _) W13 5 (by decide) (Nat.le_of_ble_eq_true rfl)
  have O13 := O11.wr W13 n_a1
  refine iIload C d0_300 rfl ?_
  refine iBipush C d0_302 (v := (6 : Int32)) (by decide) ?_
  refine iCmpF C d0_304 (by decide) ?_
  refine iAload C d0_307 rfl rfl ?_
  refine iBipush C d0_309 (v := (6 : Int32)) (by decide) ?_
  refine iAload C d0_311 rfl rfl ?_
  refine iBipush C d0_313 (v := (6 : Int32)) (by decide) ?_
  refine iIload C d0_315 rfl ?_
  refine iIload C d0_317 rfl ?_
  refine iCallS C (rmA hw O13 S0 hz0 S1 rf ⟨(((((((HS.1.ext E1).wr W3).wr W5).wr W7).wr W9).wr W11).wr W13), (((((((HS.2.1.ext E1).other W3 (Or.inl (oNe HS.1.lt (Nat.le_of_eq g1.symm)))).other W5 (Or.inl (oNe HS.1.lt (Nat.le_of_eq g1.symm)))).other W7 (Or.inl (oNe HS.1.lt (Nat.le_of_eq g1.symm)))).other W9 (Or.inl (oNe HS.1.lt (Nat.le_of_eq g1.symm)))).other W11 (Or.inl (oNe HS.1.lt (Nat.le_of_eq g1.symm)))).other W13 (Or.inl (oNe HS.1.lt (Nat.le_of_eq g1.symm)))), (((((((HS.2.2.1.ext E1).other W3 (Or.inl (oNe HS.1.lt (Nat.le_of_eq g1.symm)))).other W5 (Or.inl (oNe HS.1.lt (Nat.le_of_eq g1.symm)))).other W7 (Or.inl (oNe HS.1.lt (Nat.le_of_eq g1.symm)))).other W9 (Or.inl (oNe HS.1.lt (Nat.le_of_eq g1.symm)))).other W11 (Or.inl (oNe HS.1.lt (Nat.le_of_eq g1.symm)))).other W13 (Or.inl (oNe HS.1.lt (Nat.le_of_eq g1.symm)))), (((((((HS.2.2.2.1.ext E1).other W3 (oNe HS.2.2.2.1.lt (Nat.le_of_eq g1.symm))).other W5 (oNe HS.2.2.2.1.lt (Nat.le_of_eq g1.symm))).other W7 (oNe HS.2.2.2.1.lt (Nat.le_of_eq g1.symm))).other W9 (oNe HS.2.2.2.1.lt (Nat.le_of_eq g1.symm))).other W11 (oNe HS.2.2.2.1.lt (Nat.le_of_eq g1.symm))).other W13 (oNe HS.2.2.2.1.lt (Nat.le_of_eq g1.symm))), HS.2.2.2.2.1, HS.2.2.2.2.2⟩ (i := (6 : Int32)) (iN := 6) (p := p) (d := d) rfl (by decide) hd) tw25 tw26 tw27 tw28 ⟨by decide, by decide⟩ (argsL := [(.ref s), (.int (6 : Int32)), (.int p), (.int d)]) (S' := [(.int (6 : Int32)), (.ref a1)]) (lenOf pd5 rfl) rfl rfl d0_319 rfl (W := 2) rfl ⟨by decide, by decide, rfl, rfl, by decide, by decide⟩ fun v14 h14 q14 => ?_
  obtain ⟨rfl, rfl⟩ := q14
  show Go B n0 _ h13 3 53 322 #[(.val (.int i0)), (.val (.int i1)), (.val (.int i2)), (.val (.int i3)), (.val (.int bb)), (.val (.int op)), (.val (.ref s)), (.val (.ref base)), (.val (.int L)), (.val (.int d)), (.val (.int (9 : Int32))), (.val (.int p)), (.val ev), (.val (.ref a1)), .unset] [(.int (ff ss d p 6)), (.int (6 : Int32)), (.ref a1)]
  obtain ⟨c15, A15, q15, z15, y15, H15, G15⟩ := id V13
  refine iCastore C A15 (inb_of z15 ⟨by decide, by decide⟩) n_a1 d0_322 fun h15 W15 => ?_
  have V15 : Arv Z h15 a1 k1 .char (9 : Int32) [(.int (nar .char (ff ss d p 0))), (.int (nar .char (ff ss d p 1))), (.int (nar .char (ff ss d p 2))), (.int (nar .char (ff ss d p 3))), (.int (nar .char (ff ss d p 4))), (.int (nar .char (ff ss d p 5))), (.int (nar .char (ff ss d p 6))), (.int 0), (.int 0)] (.int 0) := Arv.set A15 q15 z15 y15 H15 G15 (fits_nar_char _) W15 6 (by decide) (Nat.le_of_ble_eq_true rfl)
  have O15 := O13.wr W15 n_a1
  refine iIload C d0_323 rfl ?_
  refine iBipush C d0_325 (v := (7 : Int32)) (by decide) ?_
  refine iCmpF C d0_327 (by decide) ?_
  refine iAload C d0_330 rfl rfl ?_
  refine iBipush C d0_332 (v := (7 : Int32)) (by decide) ?_
  refine iAload C d0_334 rfl rfl ?_
  refine iBipush C d0_336 (v := (7 : Int32)) (by decide) ?_
  refine iIload C d0_338 rfl ?_
  refine iIload C d0_340 rfl ?_
  refine iCallS C (rmA hw O15 S0 hz0 S1 rf ⟨((((((((HS.1.ext E1).wr W3).wr W5).wr W7).wr W9).wr W11).wr W13).wr W15), ((((((((HS.2.1.ext E1).other W3 (Or.inl (oNe HS.1.lt (Nat.le_of_eq g1.symm)))).other W5 (Or.inl (oNe HS.1.lt (Nat.le_of_eq g1.symm)))).other W7 (Or.inl (oNe HS.1.lt (Nat.le_of_eq g1.symm)))).other W9 (Or.inl (oNe HS.1.lt (Nat.le_of_eq g1.symm)))).other W11 (Or.inl (oNe HS.1.lt (Nat.le_of_eq g1.symm)))).other W13 (Or.inl (oNe HS.1.lt (Nat.le_of_eq g1.symm)))).other W15 (Or.inl (oNe HS.1.lt (Nat.le_of_eq g1.symm)))), ((((((((HS.2.2.1.ext E1).other W3 (Or.inl (oNe HS.1.lt (Nat.le_of_eq g1.symm)))).other W5 (Or.inl (oNe HS.1.lt (Nat.le_of_eq g1.symm)))).other W7 (Or.inl (oNe HS.1.lt (Nat.le_of_eq g1.symm)))).other W9 (Or.inl (oNe HS.1.lt (Nat.le_of_eq g1.symm)))).other W11 (Or.inl (oNe HS.1.lt (Nat.le_of_eq g1.symm)))).other W13 (Or.inl (oNe HS.1.lt (Nat.le_of_eq g1.symm)))).other W15 (Or.inl (oNe HS.1.lt (Nat.le_of_eq g1.symm)))), ((((((((HS.2.2.2.1.ext E1).other W3 (oNe HS.2.2.2.1.lt (Nat.le_of_eq g1.symm))).other W5 (oNe HS.2.2.2.1.lt (Nat.le_of_eq g1.symm))).other W7 (oNe HS.2.2.2.1.lt (Nat.le_of_eq g1.symm))).other W9 (oNe HS.2.2.2.1.lt (Nat.le_of_eq g1.symm))).other W11 (oNe HS.2.2.2.1.lt (Nat.le_of_eq g1.symm))).other W13 (oNe HS.2.2.2.1.lt (Nat.le_of_eq g1.symm))).other W15 (oNe HS.2.2.2.1.lt (Nat.le_of_eq g1.symm))), HS.2.2.2.2.1, HS.2.2.2.2.2⟩ (i := (7 : Int32)) (iN := 7) (p := p) (d := d) rfl (by decide) hd) tw25 tw26 tw27 tw28 ⟨by decide, by decide⟩ (argsL := [(.ref s), (.int (7 : Int32)), (.int p), (.int d)]) (S' := [(.int (7 : Int32)), (.ref a1)]) (lenOf pd5 rfl) rfl rfl d0_342 rfl (W := 2) rfl ⟨by decide, by decide, rfl, rfl, by decide, by decide⟩ fun v16 h16 q16 => ?_
  obtain ⟨rfl, rfl⟩ := q16
  show Go B n0 _ h15 3 53 345 #[(.val (.int i0)), (.val (.int i1)), (.val (.int i2)), (.val (.int i3)), (.val (.int bb)), (.val (.int op)), (.val (.ref s)), (.val (.ref base)), (.val (.int L)), (.val (.int d)), (.val (.int (9 : Int32))), (.val (.int p)), (.val ev), (.val (.ref a1)), .unset] [(.int (ff ss d p 7)), (.int (7 : Int32)), (.ref a1)]
  obtain ⟨c17, A17, q17, z17, y17, H17, G17⟩ := id V15
  refine iCastore C A17 (inb_of z17 ⟨by decide, by decide⟩) n_a1 d0_345 fun h17 W17 => ?_
  have V17 : Arv Z h17 a1 k1 .char (9 : Int32) [(.int (nar .char (ff ss d p 0))), (.int (nar .char (ff ss d p 1))), (.int (nar .char (ff ss d p 2))), (.int (nar .char (ff ss d p 3))), (.int (nar .char (ff ss d p 4))), (.int (nar .char (ff ss d p 5))), (.int (nar .char (ff ss d p 6))), (.int (nar .char (ff ss d p 7))), (.int 0)] (.int 0) := Arv.set A17 q17 z17 y17 H17 G17 (fits_nar_char _) W17 7 (by decide) (Nat.le_of_ble_eq_true rfl)
  have O17 := O15.wr W17 n_a1
  refine iIload C d0_346 rfl ?_
  refine iBipush C d0_348 (v := (8 : Int32)) (by decide) ?_
  refine iCmpF C d0_350 (by decide) ?_
  refine iAload C d0_353 rfl rfl ?_
  refine iBipush C d0_355 (v := (8 : Int32)) (by decide) ?_
  refine iAload C d0_357 rfl rfl ?_
  refine iBipush C d0_359 (v := (8 : Int32)) (by decide) ?_
  refine iIload C d0_361 rfl ?_
  refine iIload C d0_363 rfl ?_
  refine iCallS C (rmA hw O17 S0 hz0 S1 rf ⟨(((((((((HS.1.ext E1).wr W3).wr W5).wr W7).wr W9).wr W11).wr W13).wr W15).wr W17), (((((((((HS.2.1.ext E1).other W3 (Or.inl (oNe HS.1.lt (Nat.le_of_eq g1.symm)))).other W5 (Or.inl (oNe HS.1.lt (Nat.le_of_eq g1.symm)))).other W7 (Or.inl (oNe HS.1.lt (Nat.le_of_eq g1.symm)))).other W9 (Or.inl (oNe HS.1.lt (Nat.le_of_eq g1.symm)))).other W11 (Or.inl (oNe HS.1.lt (Nat.le_of_eq g1.symm)))).other W13 (Or.inl (oNe HS.1.lt (Nat.le_of_eq g1.symm)))).other W15 (Or.inl (oNe HS.1.lt (Nat.le_of_eq g1.symm)))).other W17 (Or.inl (oNe HS.1.lt (Nat.le_of_eq g1.symm)))), (((((((((HS.2.2.1.ext E1).other W3 (Or.inl (oNe HS.1.lt (Nat.le_of_eq g1.symm)))).other W5 (Or.inl (oNe HS.1.lt (Nat.le_of_eq g1.symm)))).other W7 (Or.inl (oNe HS.1.lt (Nat.le_of_eq g1.symm)))).other W9 (Or.inl (oNe HS.1.lt (Nat.le_of_eq g1.symm)))).other W11 (Or.inl (oNe HS.1.lt (Nat.le_of_eq g1.symm)))).other W13 (Or.inl (oNe HS.1.lt (Nat.le_of_eq g1.symm)))).other W15 (Or.inl (oNe HS.1.lt (Nat.le_of_eq g1.symm)))).other W17 (Or.inl (oNe HS.1.lt (Nat.le_of_eq g1.symm)))), (((((((((HS.2.2.2.1.ext E1).other W3 (oNe HS.2.2.2.1.lt (Nat.le_of_eq g1.symm))).other W5 (oNe HS.2.2.2.1.lt (Nat.le_of_eq g1.symm))).other W7 (oNe HS.2.2.2.1.lt (Nat.le_of_eq g1.symm))).other W9 (oNe HS.2.2.2.1.lt (Nat.le_of_eq g1.symm))).other W11 (oNe HS.2.2.2.1.lt (Nat.le_of_eq g1.symm))).other W13 (oNe HS.2.2.2.1.lt (Nat.le_of_eq g1.symm))).other W15 (oNe HS.2.2.2.1.lt (Nat.le_of_eq g1.symm))).other W17 (oNe HS.2.2.2.1.lt (Nat.le_of_eq g1.symm))), HS.2.2.2.2.1, HS.2.2.2.2.2⟩ (i := (8 : Int32)) (iN := 8) (p := p) (d := d) rfl (by decide) hd) tw25 tw26 tw27 tw28 ⟨by decide, by decide⟩ (argsL := [(.ref s), (.int (8 : Int32)), (.int p), (.int d)]) (S' := [(.int (8 : Int32)), (.ref a1)]) (lenOf pd5 rfl) rfl rfl d0_365 rfl (W := 2) rfl ⟨by decide, by decide, rfl, rfl, by decide, by decide⟩ fun v18 h18 q18 => ?_
  obtain ⟨rfl, rfl⟩ := q18
  show Go B n0 _ h17 3 53 368 #[(.val (.int i0)), (.val (.int i1)), (.val (.int i2)), (.val (.int i3)), (.val (.int bb)), (.val (.int op)), (.val (.ref s)), (.val (.ref base)), (.val (.int L)), (.val (.int d)), (.val (.int (9 : Int32))), (.val (.int p)), (.val ev), (.val (.ref a1)), .unset] [(.int (ff ss d p 8)), (.int (8 : Int32)), (.ref a1)]
  obtain ⟨c19, A19, q19, z19, y19, H19, G19⟩ := id V17
  refine iCastore C A19 (inb_of z19 ⟨by decide, by decide⟩) n_a1 d0_368 fun h19 W19 => ?_
  have V19 : Arv Z h19 a1 k1 .char (9 : Int32) [(.int (nar .char (ff ss d p 0))), (.int (nar .char (ff ss d p 1))), (.int (nar .char (ff ss d p 2))), (.int (nar .char (ff ss d p 3))), (.int (nar .char (ff ss d p 4))), (.int (nar .char (ff ss d p 5))), (.int (nar .char (ff ss d p 6))), (.int (nar .char (ff ss d p 7))), (.int (nar .char (ff ss d p 8)))] (.int 0) := Arv.set A19 q19 z19 y19 H19 G19 (fits_nar_char _) W19 8 (by decide) (Nat.le_of_ble_eq_true rfl)
  have O19 := O17.wr W19 n_a1
  refine iIload C d0_369 rfl ?_
  refine iBipush C d0_371 (v := (9 : Int32)) (by decide) ?_
  refine iCmpT C (t := 392) d0_373 (by decide) ⟨by decide, by decide⟩ ?_
  refine iIload C d0_392 rfl ?_
  refine iBipush C d0_394 (v := (10 : Int32)) (by decide) ?_
  refine iCmpT C (t := 415) d0_396 (by decide) ⟨by decide, by decide⟩ ?_
  refine iNew C tw51 tw2 tw1 d0_415 ⟨rfl, rfl, by decide, by decide⟩ fun h20 a20 g20 E20 A20 D20 => ?_
  have n_a20 : n0 ≤ a20 := oFresh O19 g20
  have O20 := O19.ext E20
  have F20_value : Fld Z h20 a20 "java/lang/String" "value" "[B" .null := D20 (Or.inr (hw _ tw4)) (ty := (.array .byte)) (by decide)
  have F20_coder : Fld Z h20 a20 "java/lang/String" "coder" "B" (.int (0 : Int32)) := D20 (Or.inr (hw _ tw5)) (ty := .byte) (by decide)
  refine iDup C d0_418 rfl ?_
  refine iAload C d0_419 rfl rfl ?_
  have K21 : Arv Z h20 a1 k1 .char (9 : Int32) (List.map Value.int [ff ss d p 0, ff ss d p 1, ff ss d p 2, ff ss d p 3, ff ss d p 4, ff ss d p 5, ff ss d p 6, ff ss d p 7, ff ss d p 8]) (.int 0) := by
    have q := (V19.ext E20)
    simpa only [hnf, List.map] using q
  have P21 : ∀ c ∈ [ff ss d p 0, ff ss d p 1, ff ss d p 2, ff ss d p 3, ff ss d p 4, ff ss d p 5, ff ss d p 6, ff ss d p 7, ff ss d p 8], ¬ c < 0 ∧ ¬ (255 : Int32) < c := by
    intro c hc
    simp only [List.mem_cons, List.not_mem_nil, or_false] at hc
    rcases hc with rfl | rfl | rfl | rfl | rfl | rfl | rfl | rfl | rfl <;> exact own_ff hd HS.2.2.2.2.2 _
  refine iCallIB C (a := a20) (payStr hw n_a20 O20 A20 F20_value F20_coder K21 (S0.ext O20.2) hz0 (n := 9) rfl rfl (by decide) (by decide) P21 (by decide) (by decide)) rfl tw52 tw53 tw54 ⟨by decide, by decide⟩ (argsL := [(.ref a1)]) (S' := [(.ref a20)]) (lenOf pd6 rfl) rfl rfl d0_421 rfl (W := 1) rfl ⟨rfl, rfl, by decide, by decide⟩ fun v22 h22 q22 => ?_
  obtain ⟨rfl, K_22, t_22, k_22, sx_22⟩ := q22
  have O22 := O20.keep K_22 (allS n_a20 all0)
  show Go B n0 _ h22 5 66 424 #[(.val (.int i0)), (.val (.int i1)), (.val (.int i2)), (.val (.int i3)), (.val (.int bb)), (.val (.int op)), (.val (.ref s)), (.val (.ref base)), (.val (.int L)), (.val (.int d)), (.val (.int (9 : Int32))), (.val (.int p)), (.val ev), (.val (.ref a1)), .unset] [(.ref a20)]
  refine iAstore C d0_424 (Ls' := #[(.val (.int i0)), (.val (.int i1)), (.val (.int i2)), (.val (.int i3)), (.val (.int bb)), (.val (.int op)), (.val (.ref s)), (.val (.ref base)), (.val (.int L)), (.val (.int d)), (.val (.int (9 : Int32))), (.val (.int p)), (.val ev), (.val (.ref a1)), (.val (.ref a20))]) rfl rfl ?_
  refine iAload C d0_426 rfl rfl ?_
  refine iCallS C (rmN hw G O22 FV hcap S0 hz0 SI SW sx_22) tw72 tw73 tw9 tw74 ⟨by decide, by decide⟩ (argsL := [(.ref a20)]) (S' := []) (lenOf pd7 rfl) rfl rfl d0_428 rfl (W := 0) rfl ⟨by decide, by decide, rfl, rfl, by decide, by decide⟩ fun v23 h23 q23 => ?_
  obtain ⟨rfl, E23⟩ := q23
  show Go B n0 _ h23 6 68 431 #[(.val (.int i0)), (.val (.int i1)), (.val (.int i2)), (.val (.int i3)), (.val (.int bb)), (.val (.int op)), (.val (.ref s)), (.val (.ref base)), (.val (.int L)), (.val (.int d)), (.val (.int (9 : Int32))), (.val (.int p)), (.val ev), (.val (.ref a1)), (.val (.ref a20))] [(pk ga1 ga3 [ff ss d p 0, ff ss d p 1, ff ss d p 2, ff ss d p 3, ff ss d p 4, ff ss d p 5, ff ss d p 6, ff ss d p 7, ff ss d p 8])]
  rw [hE]
  rcases hev with rfl | ⟨ra, rfl⟩
  · refine iAload C d0_431 rfl rfl ?_
    refine iAcmpF C d0_433 rfl rfl (acE rfl).2 ?_
    refine iIconst C d0_436 (v := (1 : Int32)) (by decide) ?_
    refine iGoto C (t := 441) d0_437 ⟨by decide, by decide⟩ ?_
    refine iRetZ C d0_441 (by simp) ⟨Nat.le_refl _, by decide, by decide⟩ ?_
    exact rfl
  · refine iAload C d0_431 rfl rfl ?_
    refine iAcmpF C d0_433 rfl rfl (acE rfl).2 ?_
    refine iIconst C d0_436 (v := (1 : Int32)) (by decide) ?_
    refine iGoto C (t := 441) d0_437 ⟨by decide, by decide⟩ ?_
    refine iRetZ C d0_441 (by simp) ⟨Nat.le_refl _, by decide, by decide⟩ ?_
    exact rfl
set_option maxRecDepth 65536 in
set_option maxHeartbeats 4000000 in
theorem tl10 {l : Launch} {Z : State} {a0 : Array Value} (hw : ∀ d ∈ tables_1, d.before a0 Z = true) {n0 : Nat} {h0 : Heap} {ga1 ga2 ga3 ga4 ga5 ga6 ga7 : Addr} {gc2 gc5 gc7 : Cell} (G : GG Z ga1 ga2 ga3 ga4 ga5 ga6 ga7 gc2 gc5 gc7) (O : Old Z n0 h0) (FV : FitC Z gc2) (hcap : gc2.slots.size ≤ 2) {z0 : Int32} (S0 : Sta Z Z.heap "java/lang/String" "COMPACT_STRINGS" "Z" (.int z0)) (hz0 : ¬ z0 = 0) (SI : SX Z Z.heap ga4 ga5 gc5.cls SINJ) (SW : SX Z Z.heap ga6 ga7 gc7.cls SWD) {fm : Value} (S1 : Sta Z Z.heap "jdk/internal/util/Preconditions" "SIOOBE_FORMATTER" "Ljava/util/function/BiFunction;" fm) (rf : fm.isRef = true) (hcw : Jvm.Lit.compactW.before a0 Z = true) (hhE : Jvm.Lit.constHeld Z "java/lang/String" 7) {i0 i1 i2 i3 bb op L d p : Int32} {s base t : Addr} {k : ClassId} {ss : List Int32} {ev : Value} (HS : SX Z h0 s t k ss) (hd : ¬ d < 0 ∧ ¬ (255 : Int32) < d) (hev : ev = .null ∨ ∃ a, ev = .ref a) (hE : pk ga1 ga3 [ff ss d p 0, ff ss d p 1, ff ss d p 2, ff ss d p 3, ff ss d p 4, ff ss d p 5, ff ss d p 6, ff ss d p 7, ff ss d p 8, ff ss d p 9] = ev) {B : Bx} (C : Cx B l Z a0 room_1 x code maxLocals ret n0) :
    Go B n0 (fun v _ => v = some (.int 1)) h0 2 44 175 #[(.val (.int i0)), (.val (.int i1)), (.val (.int i2)), (.val (.int i3)), (.val (.int bb)), (.val (.int op)), (.val (.ref s)), (.val (.ref base)), (.val (.int L)), (.val (.int d)), (.val (.int (10 : Int32))), (.val (.int p)), (.val ev), .unset, .unset] [] := by
  have hrf : ev.isRef = true := by rcases hev with rfl | ⟨a, rfl⟩ <;> rfl
  have hnf : ∀ i, nar .char (ff ss d p i) = ff ss d p i := fun i => own_nar (own_ff hd HS.2.2.2.2.2 i)
  refine iIload C d0_175 rfl ?_
  refine iNewP C (aty := .char) tw24 d0_177 (by decide) (cap := 10) (by decide) (by decide) ⟨rfl, rfl, by decide, by decide⟩ fun h1 a1 k1 g1 E1 V1 => ?_
  have n_a1 : n0 ≤ a1 := oFresh O g1
  have O1 := O.ext E1
  have V1 : Arv Z h1 a1 k1 .char (10 : Int32) [(.int 0), (.int 0), (.int 0), (.int 0), (.int 0), (.int 0), (.int 0), (.int 0), (.int 0), (.int 0)] (.int 0) := V1.pad (pad_rep [] (.int 0) 10)
  refine iAstore C d0_179 (Ls' := #[(.val (.int i0)), (.val (.int i1)), (.val (.int i2)), (.val (.int i3)), (.val (.int bb)), (.val (.int op)), (.val (.ref s)), (.val (.ref base)), (.val (.int L)), (.val (.int d)), (.val (.int (10 : Int32))), (.val (.int p)), (.val ev), (.val (.ref a1)), .unset]) rfl rfl ?_
  refine iIload C d0_181 rfl ?_
  refine iIfF C d0_183 (by decide) ?_
  refine iAload C d0_186 rfl rfl ?_
  refine iIconst C d0_188 (v := (0 : Int32)) (by decide) ?_
  refine iAload C d0_189 rfl rfl ?_
  refine iIconst C d0_191 (v := (0 : Int32)) (by decide) ?_
  refine iIload C d0_192 rfl ?_
  refine iIload C d0_194 rfl ?_
  refine iCallS C (rmA hw O1 S0 hz0 S1 rf ⟨(HS.1.ext E1), (HS.2.1.ext E1), (HS.2.2.1.ext E1), (HS.2.2.2.1.ext E1), HS.2.2.2.2.1, HS.2.2.2.2.2⟩ (i := (0 : Int32)) (iN := 0) (p := p) (d := d) rfl (by decide) hd) tw25 tw26 tw27 tw28 ⟨by decide, by decide⟩ (argsL := [(.ref s), (.int (0 : Int32)), (.int p), (.int d)]) (S' := [(.int (0 : Int32)), (.ref a1)]) (lenOf pd5 rfl) rfl rfl d0_196 rfl (W := 2) rfl ⟨by decide, by decide, rfl, rfl, by decide, by decide⟩ fun v2 h2 q2 => ?_
  obtain ⟨rfl, rfl⟩ := q2
  show Go B n0 _ h1 3 54 199 #[(.val (.int i0)), (.val (.int i1)), (.val (.int i2)), (.val (.int i3)), (.val (.int bb)), (.val (.int op)), (.val (.ref s)), (.val (.ref base)), (.val (.int L)), (.val (.int d)), (.val (.int (10 : Int32))), (.val (.int p)), (.val ev), (.val (.ref a1)), .unset] [(.int (ff ss d p 0)), (.int (0 : Int32)), (.ref a1)]
  obtain ⟨c3, A3, q3, z3, y3, H3, G3⟩ := id V1
  refine iCastore C A3 (inb_of z3 ⟨by decide, by decide⟩) n_a1 d0_199 fun h3 W3 => ?_
  have V3 : Arv Z h3 a1 k1 .char (10 : Int32) [(.int (nar .char (ff ss d p 0))), (.int 0), (.int 0), (.int 0), (.int 0), (.int 0), (.int 0), (.int 0), (.int 0), (.int 0)] (.int 0) := Arv.set A3 q3 z3 y3 H3 G3 (fits_nar_char _) W3 0 (by decide) (Nat.le_of_ble_eq_true rfl)
  have O3 := O1.wr W3 n_a1
  refine iIload C d0_200 rfl ?_
  refine iIconst C d0_202 (v := (1 : Int32)) (by decide) ?_
  refine iCmpF C d0_203 (by decide) ?_
  refine iAload C d0_206 rfl rfl ?_
  refine iIconst C d0_208 (v := (1 : Int32)) (by decide) ?_
  refine iAload C d0_209 rfl rfl ?_
  refine iIconst C d0_211 (v := (1 : Int32)) (by decide) ?_
  refine iIload C d0_212 rfl ?_
  refine iIload C d0_214 rfl ?_
  refine iCallS C (rmA hw O3 S0 hz0 S1 rf ⟨((HS.1.ext E1).wr W3), ((HS.2.1.ext E1).other W3 (Or.inl (oNe HS.1.lt (Nat.le_of_eq g1.symm)))), ((HS.2.2.1.ext E1).other W3 (Or.inl (oNe HS.1.lt (Nat.le_of_eq g1.symm)))), ((HS.2.2.2.1.ext E1).other W3 (oNe HS.2.2.2.1.lt (Nat.le_of_eq g1.symm))), HS.2.2.2.2.1, HS.2.2.2.2.2⟩ (i := (1 : Int32)) (iN := 1) (p := p) (d := d) rfl (by decide) hd) tw25 tw26 tw27 tw28 ⟨by decide, by decide⟩ (argsL := [(.ref s), (.int (1 : Int32)), (.int p), (.int d)]) (S' := [(.int (1 : Int32)), (.ref a1)]) (lenOf pd5 rfl) rfl rfl d0_216 rfl (W := 2) rfl ⟨by decide, by decide, rfl, rfl, by decide, by decide⟩ fun v4 h4 q4 => ?_
  obtain ⟨rfl, rfl⟩ := q4
  show Go B n0 _ h3 3 54 219 #[(.val (.int i0)), (.val (.int i1)), (.val (.int i2)), (.val (.int i3)), (.val (.int bb)), (.val (.int op)), (.val (.ref s)), (.val (.ref base)), (.val (.int L)), (.val (.int d)), (.val (.int (10 : Int32))), (.val (.int p)), (.val ev), (.val (.ref a1)), .unset] [(.int (ff ss d p 1)), (.int (1 : Int32)), (.ref a1)]
  obtain ⟨c5, A5, q5, z5, y5, H5, G5⟩ := id V3
  refine iCastore C A5 (inb_of z5 ⟨by decide, by decide⟩) n_a1 d0_219 fun h5 W5 => ?_
  have V5 : Arv Z h5 a1 k1 .char (10 : Int32) [(.int (nar .char (ff ss d p 0))), (.int (nar .char (ff ss d p 1))), (.int 0), (.int 0), (.int 0), (.int 0), (.int 0), (.int 0), (.int 0), (.int 0)] (.int 0) := Arv.set A5 q5 z5 y5 H5 G5 (fits_nar_char _) W5 1 (by decide) (Nat.le_of_ble_eq_true rfl)
  have O5 := O3.wr W5 n_a1
  refine iIload C d0_220 rfl ?_
  refine iIconst C d0_222 (v := (2 : Int32)) (by decide) ?_
  refine iCmpF C d0_223 (by decide) ?_
  refine iAload C d0_226 rfl rfl ?_
  refine iIconst C d0_228 (v := (2 : Int32)) (by decide) ?_
  refine iAload C d0_229 rfl rfl ?_
  refine iIconst C d0_231 (v := (2 : Int32)) (by decide) ?_
  refine iIload C d0_232 rfl ?_
  refine iIload C d0_234 rfl ?_
  refine iCallS C (rmA hw O5 S0 hz0 S1 rf ⟨(((HS.1.ext E1).wr W3).wr W5), (((HS.2.1.ext E1).other W3 (Or.inl (oNe HS.1.lt (Nat.le_of_eq g1.symm)))).other W5 (Or.inl (oNe HS.1.lt (Nat.le_of_eq g1.symm)))), (((HS.2.2.1.ext E1).other W3 (Or.inl (oNe HS.1.lt (Nat.le_of_eq g1.symm)))).other W5 (Or.inl (oNe HS.1.lt (Nat.le_of_eq g1.symm)))), (((HS.2.2.2.1.ext E1).other W3 (oNe HS.2.2.2.1.lt (Nat.le_of_eq g1.symm))).other W5 (oNe HS.2.2.2.1.lt (Nat.le_of_eq g1.symm))), HS.2.2.2.2.1, HS.2.2.2.2.2⟩ (i := (2 : Int32)) (iN := 2) (p := p) (d := d) rfl (by decide) hd) tw25 tw26 tw27 tw28 ⟨by decide, by decide⟩ (argsL := [(.ref s), (.int (2 : Int32)), (.int p), (.int d)]) (S' := [(.int (2 : Int32)), (.ref a1)]) (lenOf pd5 rfl) rfl rfl d0_236 rfl (W := 2) rfl ⟨by decide, by decide, rfl, rfl, by decide, by decide⟩ fun v6 h6 q6 => ?_
  obtain ⟨rfl, rfl⟩ := q6
  show Go B n0 _ h5 3 54 239 #[(.val (.int i0)), (.val (.int i1)), (.val (.int i2)), (.val (.int i3)), (.val (.int bb)), (.val (.int op)), (.val (.ref s)), (.val (.ref base)), (.val (.int L)), (.val (.int d)), (.val (.int (10 : Int32))), (.val (.int p)), (.val ev), (.val (.ref a1)), .unset] [(.int (ff ss d p 2)), (.int (2 : Int32)), (.ref a1)]
  obtain ⟨c7, A7, q7, z7, y7, H7, G7⟩ := id V5
  refine iCastore C A7 (inb_of z7 ⟨by decide, by decide⟩) n_a1 d0_239 fun h7 W7 => ?_
  have V7 : Arv Z h7 a1 k1 .char (10 : Int32) [(.int (nar .char (ff ss d p 0))), (.int (nar .char (ff ss d p 1))), (.int (nar .char (ff ss d p 2))), (.int 0), (.int 0), (.int 0), (.int 0), (.int 0), (.int 0), (.int 0)] (.int 0) := Arv.set A7 q7 z7 y7 H7 G7 (fits_nar_char _) W7 2 (by decide) (Nat.le_of_ble_eq_true rfl)
  have O7 := O5.wr W7 n_a1
  refine iIload C d0_240 rfl ?_
  refine iIconst C d0_242 (v := (3 : Int32)) (by decide) ?_
  refine iCmpF C d0_243 (by decide) ?_
  refine iAload C d0_246 rfl rfl ?_
  refine iIconst C d0_248 (v := (3 : Int32)) (by decide) ?_
  refine iAload C d0_249 rfl rfl ?_
  refine iIconst C d0_251 (v := (3 : Int32)) (by decide) ?_
  refine iIload C d0_252 rfl ?_
  refine iIload C d0_254 rfl ?_
  refine iCallS C (rmA hw O7 S0 hz0 S1 rf ⟨((((HS.1.ext E1).wr W3).wr W5).wr W7), ((((HS.2.1.ext E1).other W3 (Or.inl (oNe HS.1.lt (Nat.le_of_eq g1.symm)))).other W5 (Or.inl (oNe HS.1.lt (Nat.le_of_eq g1.symm)))).other W7 (Or.inl (oNe HS.1.lt (Nat.le_of_eq g1.symm)))), ((((HS.2.2.1.ext E1).other W3 (Or.inl (oNe HS.1.lt (Nat.le_of_eq g1.symm)))).other W5 (Or.inl (oNe HS.1.lt (Nat.le_of_eq g1.symm)))).other W7 (Or.inl (oNe HS.1.lt (Nat.le_of_eq g1.symm)))), ((((HS.2.2.2.1.ext E1).other W3 (oNe HS.2.2.2.1.lt (Nat.le_of_eq g1.symm))).other W5 (oNe HS.2.2.2.1.lt (Nat.le_of_eq g1.symm))).other W7 (oNe HS.2.2.2.1.lt (Nat.le_of_eq g1.symm))), HS.2.2.2.2.1, HS.2.2.2.2.2⟩ (i := (3 : Int32)) (iN := 3) (p := p) (d := d) rfl (by decide) hd) tw25 tw26 tw27 tw28 ⟨by decide, by decide⟩ (argsL := [(.ref s), (.int (3 : Int32)), (.int p), (.int d)]) (S' := [(.int (3 : Int32)), (.ref a1)]) (lenOf pd5 rfl) rfl rfl d0_256 rfl (W := 2) rfl ⟨by decide, by decide, rfl, rfl, by decide, by decide⟩ fun v8 h8 q8 => ?_
  obtain ⟨rfl, rfl⟩ := q8
  show Go B n0 _ h7 3 54 259 #[(.val (.int i0)), (.val (.int i1)), (.val (.int i2)), (.val (.int i3)), (.val (.int bb)), (.val (.int op)), (.val (.ref s)), (.val (.ref base)), (.val (.int L)), (.val (.int d)), (.val (.int (10 : Int32))), (.val (.int p)), (.val ev), (.val (.ref a1)), .unset] [(.int (ff ss d p 3)), (.int (3 : Int32)), (.ref a1)]
  obtain ⟨c9, A9, q9, z9, y9, H9, G9⟩ := id V7
  refine iCastore C A9 (inb_of z9 ⟨by decide, by decide⟩) n_a1 d0_259 fun h9 W9 => ?_
  have V9 : Arv Z h9 a1 k1 .char (10 : Int32) [(.int (nar .char (ff ss d p 0))), (.int (nar .char (ff ss d p 1))), (.int (nar .char (ff ss d p 2))), (.int (nar .char (ff ss d p 3))), (.int 0), (.int 0), (.int 0), (.int 0), (.int 0), (.int 0)] (.int 0) := Arv.set A9 q9 z9 y9 H9 G9 (fits_nar_char _) W9 3 (by decide) (Nat.le_of_ble_eq_true rfl)
  have O9 := O7.wr W9 n_a1
  refine iIload C d0_260 rfl ?_
  refine iIconst C d0_262 (v := (4 : Int32)) (by decide) ?_
  refine iCmpF C d0_263 (by decide) ?_
  refine iAload C d0_266 rfl rfl ?_
  refine iIconst C d0_268 (v := (4 : Int32)) (by decide) ?_
  refine iAload C d0_269 rfl rfl ?_
  refine iIconst C d0_271 (v := (4 : Int32)) (by decide) ?_
  refine iIload C d0_272 rfl ?_
  refine iIload C d0_274 rfl ?_
  refine iCallS C (rmA hw O9 S0 hz0 S1 rf ⟨(((((HS.1.ext E1).wr W3).wr W5).wr W7).wr W9), (((((HS.2.1.ext E1).other W3 (Or.inl (oNe HS.1.lt (Nat.le_of_eq g1.symm)))).other W5 (Or.inl (oNe HS.1.lt (Nat.le_of_eq g1.symm)))).other W7 (Or.inl (oNe HS.1.lt (Nat.le_of_eq g1.symm)))).other W9 (Or.inl (oNe HS.1.lt (Nat.le_of_eq g1.symm)))), (((((HS.2.2.1.ext E1).other W3 (Or.inl (oNe HS.1.lt (Nat.le_of_eq g1.symm)))).other W5 (Or.inl (oNe HS.1.lt (Nat.le_of_eq g1.symm)))).other W7 (Or.inl (oNe HS.1.lt (Nat.le_of_eq g1.symm)))).other W9 (Or.inl (oNe HS.1.lt (Nat.le_of_eq g1.symm)))), (((((HS.2.2.2.1.ext E1).other W3 (oNe HS.2.2.2.1.lt (Nat.le_of_eq g1.symm))).other W5 (oNe HS.2.2.2.1.lt (Nat.le_of_eq g1.symm))).other W7 (oNe HS.2.2.2.1.lt (Nat.le_of_eq g1.symm))).other W9 (oNe HS.2.2.2.1.lt (Nat.le_of_eq g1.symm))), HS.2.2.2.2.1, HS.2.2.2.2.2⟩ (i := (4 : Int32)) (iN := 4) (p := p) (d := d) rfl (by decide) hd) tw25 tw26 tw27 tw28 ⟨by decide, by decide⟩ (argsL := [(.ref s), (.int (4 : Int32)), (.int p), (.int d)]) (S' := [(.int (4 : Int32)), (.ref a1)]) (lenOf pd5 rfl) rfl rfl d0_276 rfl (W := 2) rfl ⟨by decide, by decide, rfl, rfl, by decide, by decide⟩ fun v10 h10 q10 => ?_
  obtain ⟨rfl, rfl⟩ := q10
  show Go B n0 _ h9 3 54 279 #[(.val (.int i0)), (.val (.int i1)), (.val (.int i2)), (.val (.int i3)), (.val (.int bb)), (.val (.int op)), (.val (.ref s)), (.val (.ref base)), (.val (.int L)), (.val (.int d)), (.val (.int (10 : Int32))), (.val (.int p)), (.val ev), (.val (.ref a1)), .unset] [(.int (ff ss d p 4)), (.int (4 : Int32)), (.ref a1)]
  obtain ⟨c11, A11, q11, z11, y11, H11, G11⟩ := id V9
  refine iCastore C A11 (inb_of z11 ⟨by decide, by decide⟩) n_a1 d0_279 fun h11 W11 => ?_
  have V11 : Arv Z h11 a1 k1 .char (10 : Int32) [(.int (nar .char (ff ss d p 0))), (.int (nar .char (ff ss d p 1))), (.int (nar .char (ff ss d p 2))), (.int (nar .char (ff ss d p 3))), (.int (nar .char (ff ss d p 4))), (.int 0), (.int 0), (.int 0), (.int 0), (.int 0)] (.int 0) := Arv.set A11 q11 z11 y11 H11 G11 (fits_nar_char _) W11 4 (by decide) (Nat.le_of_ble_eq_true rfl)
  have O11 := O9.wr W11 n_a1
  refine iIload C d0_280 rfl ?_
  refine iIconst C d0_282 (v := (5 : Int32)) (by decide) ?_
  refine iCmpF C d0_283 (by decide) ?_
  refine iAload C d0_286 rfl rfl ?_
  refine iIconst C d0_288 (v := (5 : Int32)) (by decide) ?_
  refine iAload C d0_289 rfl rfl ?_
  refine iIconst C d0_291 (v := (5 : Int32)) (by decide) ?_
  refine iIload C d0_292 rfl ?_
  refine iIload C d0_294 rfl ?_
  refine iCallS C (rmA hw O11 S0 hz0 S1 rf ⟨((((((HS.1.ext E1).wr W3).wr W5).wr W7).wr W9).wr W11), ((((((HS.2.1.ext E1).other W3 (Or.inl (oNe HS.1.lt (Nat.le_of_eq g1.symm)))).other W5 (Or.inl (oNe HS.1.lt (Nat.le_of_eq g1.symm)))).other W7 (Or.inl (oNe HS.1.lt (Nat.le_of_eq g1.symm)))).other W9 (Or.inl (oNe HS.1.lt (Nat.le_of_eq g1.symm)))).other W11 (Or.inl (oNe HS.1.lt (Nat.le_of_eq g1.symm)))), ((((((HS.2.2.1.ext E1).other W3 (Or.inl (oNe HS.1.lt (Nat.le_of_eq g1.symm)))).other W5 (Or.inl (oNe HS.1.lt (Nat.le_of_eq g1.symm)))).other W7 (Or.inl (oNe HS.1.lt (Nat.le_of_eq g1.symm)))).other W9 (Or.inl (oNe HS.1.lt (Nat.le_of_eq g1.symm)))).other W11 (Or.inl (oNe HS.1.lt (Nat.le_of_eq g1.symm)))), ((((((HS.2.2.2.1.ext E1).other W3 (oNe HS.2.2.2.1.lt (Nat.le_of_eq g1.symm))).other W5 (oNe HS.2.2.2.1.lt (Nat.le_of_eq g1.symm))).other W7 (oNe HS.2.2.2.1.lt (Nat.le_of_eq g1.symm))).other W9 (oNe HS.2.2.2.1.lt (Nat.le_of_eq g1.symm))).other W11 (oNe HS.2.2.2.1.lt (Nat.le_of_eq g1.symm))), HS.2.2.2.2.1, HS.2.2.2.2.2⟩ (i := (5 : Int32)) (iN := 5) (p := p) (d := d) rfl (by decide) hd) tw25 tw26 tw27 tw28 ⟨by decide, by decide⟩ (argsL := [(.ref s), (.int (5 : Int32)), (.int p), (.int d)]) (S' := [(.int (5 : Int32)), (.ref a1)]) (lenOf pd5 rfl) rfl rfl d0_296 rfl (W := 2) rfl ⟨by decide, by decide, rfl, rfl, by decide, by decide⟩ fun v12 h12 q12 => ?_
  obtain ⟨rfl, rfl⟩ := q12
  show Go B n0 _ h11 3 54 299 #[(.val (.int i0)), (.val (.int i1)), (.val (.int i2)), (.val (.int i3)), (.val (.int bb)), (.val (.int op)), (.val (.ref s)), (.val (.ref base)), (.val (.int L)), (.val (.int d)), (.val (.int (10 : Int32))), (.val (.int p)), (.val ev), (.val (.ref a1)), .unset] [(.int (ff ss d p 5)), (.int (5 : Int32)), (.ref a1)]
  obtain ⟨c13, A13, q13, z13, y13, H13, G13⟩ := id V11
  refine iCastore C A13 (inb_of z13 ⟨by decide, by decide⟩) n_a1 d0_299 fun h13 W13 => ?_
  have V13 : Arv Z h13 a1 k1 .char (10 : Int32) [(.int (nar .char (ff ss d p 0))), (.int (nar .char (ff ss d p 1))), (.int (nar .char (ff ss d p 2))), (.int (nar .char (ff ss d p 3))), (.int (nar .char (ff ss d p 4))), (.int (nar .char (ff ss d p 5))), (.int 0), (.int 0), (.int 0), (.int 0)] (.int 0) := Arv.set A13 q13 z13 y13 H13 G13 (fits_nar_char _) W13 5 (by decide) (Nat.le_of_ble_eq_true rfl)
  have O13 := O11.wr W13 n_a1
  refine iIload C d0_300 rfl ?_
  refine iBipush C d0_302 (v := (6 : Int32)) (by decide) ?_
  refine iCmpF C d0_304 (by decide) ?_
  refine iAload C d0_307 rfl rfl ?_
  refine iBipush C d0_309 (v := (6 : Int32)) (by decide) ?_
  refine iAload C d0_311 rfl rfl ?_
  refine iBipush C d0_313 (v := (6 : Int32)) (by decide) ?_
  refine iIload C d0_315 rfl ?_
  refine iIload C d0_317 rfl ?_
  refine iCallS C (rmA hw O13 S0 hz0 S1 rf ⟨(((((((HS.1.ext E1).wr W3).wr W5).wr W7).wr W9).wr W11).wr W13), (((((((HS.2.1.ext E1).other W3 (Or.inl (oNe HS.1.lt (Nat.le_of_eq g1.symm)))).other W5 (Or.inl (oNe HS.1.lt (Nat.le_of_eq g1.symm)))).other W7 (Or.inl (oNe HS.1.lt (Nat.le_of_eq g1.symm)))).other W9 (Or.inl (oNe HS.1.lt (Nat.le_of_eq g1.symm)))).other W11 (Or.inl (oNe HS.1.lt (Nat.le_of_eq g1.symm)))).other W13 (Or.inl (oNe HS.1.lt (Nat.le_of_eq g1.symm)))), (((((((HS.2.2.1.ext E1).other W3 (Or.inl (oNe HS.1.lt (Nat.le_of_eq g1.symm)))).other W5 (Or.inl (oNe HS.1.lt (Nat.le_of_eq g1.symm)))).other W7 (Or.inl (oNe HS.1.lt (Nat.le_of_eq g1.symm)))).other W9 (Or.inl (oNe HS.1.lt (Nat.le_of_eq g1.symm)))).other W11 (Or.inl (oNe HS.1.lt (Nat.le_of_eq g1.symm)))).other W13 (Or.inl (oNe HS.1.lt (Nat.le_of_eq g1.symm)))), (((((((HS.2.2.2.1.ext E1).other W3 (oNe HS.2.2.2.1.lt (Nat.le_of_eq g1.symm))).other W5 (oNe HS.2.2.2.1.lt (Nat.le_of_eq g1.symm))).other W7 (oNe HS.2.2.2.1.lt (Nat.le_of_eq g1.symm))).other W9 (oNe HS.2.2.2.1.lt (Nat.le_of_eq g1.symm))).other W11 (oNe HS.2.2.2.1.lt (Nat.le_of_eq g1.symm))).other W13 (oNe HS.2.2.2.1.lt (Nat.le_of_eq g1.symm))), HS.2.2.2.2.1, HS.2.2.2.2.2⟩ (i := (6 : Int32)) (iN := 6) (p := p) (d := d) rfl (by decide) hd) tw25 tw26 tw27 tw28 ⟨by decide, by decide⟩ (argsL := [(.ref s), (.int (6 : Int32)), (.int p), (.int d)]) (S' := [(.int (6 : Int32)), (.ref a1)]) (lenOf pd5 rfl) rfl rfl d0_319 rfl (W := 2) rfl ⟨by decide, by decide, rfl, rfl, by decide, by decide⟩ fun v14 h14 q14 => ?_
  obtain ⟨rfl, rfl⟩ := q14
  show Go B n0 _ h13 3 54 322 #[(.val (.int i0)), (.val (.int i1)), (.val (.int i2)), (.val (.int i3)), (.val (.int bb)), (.val (.int op)), (.val (.ref s)), (.val (.ref base)), (.val (.int L)), (.val (.int d)), (.val (.int (10 : Int32))), (.val (.int p)), (.val ev), (.val (.ref a1)), .unset] [(.int (ff ss d p 6)), (.int (6 : Int32)), (.ref a1)]
  obtain ⟨c15, A15, q15, z15, y15, H15, G15⟩ := id V13
  refine iCastore C A15 (inb_of z15 ⟨by decide, by decide⟩) n_a1 d0_322 fun h15 W15 => ?_
  have V15 : Arv Z h15 a1 k1 .char (10 : Int32) [(.int (nar .char (ff ss d p 0))), (.int (nar .char (ff ss d p 1))), (.int (nar .char (ff ss d p 2))), (.int (nar .char (ff ss d p 3))), (.int (nar .char (ff ss d p 4))), (.int (nar .char (ff ss d p 5))), (.int (nar .char (ff ss d p 6))), (.int 0), (.int 0), (.int 0)] (.int 0) := Arv.set A15 q15 z15 y15 H15 G15 (fits_nar_char _) W15 6 (by decide) (Nat.le_of_ble_eq_true rfl)
  have O15 := O13.wr W15 n_a1
  refine iIload C d0_323 rfl ?_
  refine iBipush C d0_325 (v := (7 : Int32)) (by decide) ?_
  refine iCmpF C d0_327 (by decide) ?_
  refine iAload C d0_330 rfl rfl ?_
  refine iBipush C d0_332 (v := (7 : Int32)) (by decide) ?_
  refine iAload C d0_334 rfl rfl ?_
  refine iBipush C d0_336 (v := (7 : Int32)) (by decide) ?_
  refine iIload C d0_338 rfl ?_
  refine iIload C d0_340 rfl ?_
  refine iCallS C (rmA hw O15 S0 hz0 S1 rf ⟨((((((((HS.1.ext E1).wr W3).wr W5).wr W7).wr W9).wr W11).wr W13).wr W15), ((((((((HS.2.1.ext E1).other W3 (Or.inl (oNe HS.1.lt (Nat.le_of_eq g1.symm)))).other W5 (Or.inl (oNe HS.1.lt (Nat.le_of_eq g1.symm)))).other W7 (Or.inl (oNe HS.1.lt (Nat.le_of_eq g1.symm)))).other W9 (Or.inl (oNe HS.1.lt (Nat.le_of_eq g1.symm)))).other W11 (Or.inl (oNe HS.1.lt (Nat.le_of_eq g1.symm)))).other W13 (Or.inl (oNe HS.1.lt (Nat.le_of_eq g1.symm)))).other W15 (Or.inl (oNe HS.1.lt (Nat.le_of_eq g1.symm)))), ((((((((HS.2.2.1.ext E1).other W3 (Or.inl (oNe HS.1.lt (Nat.le_of_eq g1.symm)))).other W5 (Or.inl (oNe HS.1.lt (Nat.le_of_eq g1.symm)))).other W7 (Or.inl (oNe HS.1.lt (Nat.le_of_eq g1.symm)))).other W9 (Or.inl (oNe HS.1.lt (Nat.le_of_eq g1.symm)))).other W11 (Or.inl (oNe HS.1.lt (Nat.le_of_eq g1.symm)))).other W13 (Or.inl (oNe HS.1.lt (Nat.le_of_eq g1.symm)))).other W15 (Or.inl (oNe HS.1.lt (Nat.le_of_eq g1.symm)))), ((((((((HS.2.2.2.1.ext E1).other W3 (oNe HS.2.2.2.1.lt (Nat.le_of_eq g1.symm))).other W5 (oNe HS.2.2.2.1.lt (Nat.le_of_eq g1.symm))).other W7 (oNe HS.2.2.2.1.lt (Nat.le_of_eq g1.symm))).other W9 (oNe HS.2.2.2.1.lt (Nat.le_of_eq g1.symm))).other W11 (oNe HS.2.2.2.1.lt (Nat.le_of_eq g1.symm))).other W13 (oNe HS.2.2.2.1.lt (Nat.le_of_eq g1.symm))).other W15 (oNe HS.2.2.2.1.lt (Nat.le_of_eq g1.symm))), HS.2.2.2.2.1, HS.2.2.2.2.2⟩ (i := (7 : Int32)) (iN := 7) (p := p) (d := d) rfl (by decide) hd) tw25 tw26 tw27 tw28 ⟨by decide, by decide⟩ (argsL := [(.ref s), (.int (7 : Int32)), (.int p), (.int d)]) (S' := [(.int (7 : Int32)), (.ref a1)]) (lenOf pd5 rfl) rfl rfl d0_342 rfl (W := 2) rfl ⟨by decide, by decide, rfl, rfl, by decide, by decide⟩ fun v16 h16 q16 => ?_
  obtain ⟨rfl, rfl⟩ := q16
  show Go B n0 _ h15 3 54 345 #[(.val (.int i0)), (.val (.int i1)), (.val (.int i2)), (.val (.int i3)), (.val (.int bb)), (.val (.int op)), (.val (.ref s)), (.val (.ref base)), (.val (.int L)), (.val (.int d)), (.val (.int (10 : Int32))), (.val (.int p)), (.val ev), (.val (.ref a1)), .unset] [(.int (ff ss d p 7)), (.int (7 : Int32)), (.ref a1)]
  obtain ⟨c17, A17, q17, z17, y17, H17, G17⟩ := id V15
  refine iCastore C A17 (inb_of z17 ⟨by decide, by decide⟩) n_a1 d0_345 fun h17 W17 => ?_
  have V17 : Arv Z h17 a1 k1 .char (10 : Int32) [(.int (nar .char (ff ss d p 0))), (.int (nar .char (ff ss d p 1))), (.int (nar .char (ff ss d p 2))), (.int (nar .char (ff ss d p 3))), (.int (nar .char (ff ss d p 4))), (.int (nar .char (ff ss d p 5))), (.int (nar .char (ff ss d p 6))), (.int (nar .char (ff ss d p 7))), (.int 0), (.int 0)] (.int 0) := Arv.set A17 q17 z17 y17 H17 G17 (fits_nar_char _) W17 7 (by decide) (Nat.le_of_ble_eq_true rfl)
  have O17 := O15.wr W17 n_a1
  refine iIload C d0_346 rfl ?_
  refine iBipush C d0_348 (v := (8 : Int32)) (by decide) ?_
  refine iCmpF C d0_350 (by decide) ?_
  refine iAload C d0_353 rfl rfl ?_
  refine iBipush C d0_355 (v := (8 : Int32)) (by decide) ?_
  refine iAload C d0_357 rfl rfl ?_
  refine iBipush C d0_359 (v := (8 : Int32)) (by decide) ?_
  refine iIload C d0_361 rfl ?_
  refine iIload C d0_363 rfl ?_
  refine iCallS C (rmA hw O17 S0 hz0 S1 rf ⟨(((((((((HS.1.ext E1).wr W3).wr W5).wr W7).wr W9).wr W11).wr W13).wr W15).wr W17), (((((((((HS.2.1.ext E1).other W3 (Or.inl (oNe HS.1.lt (Nat.le_of_eq g1.symm)))).other W5 (Or.inl (oNe HS.1.lt (Nat.le_of_eq g1.symm)))).other W7 (Or.inl (oNe HS.1.lt (Nat.le_of_eq g1.symm)))).other W9 (Or.inl (oNe HS.1.lt (Nat.le_of_eq g1.symm)))).other W11 (Or.inl (oNe HS.1.lt (Nat.le_of_eq g1.symm)))).other W13 (Or.inl (oNe HS.1.lt (Nat.le_of_eq g1.symm)))).other W15 (Or.inl (oNe HS.1.lt (Nat.le_of_eq g1.symm)))).other W17 (Or.inl (oNe HS.1.lt (Nat.le_of_eq g1.symm)))), (((((((((HS.2.2.1.ext E1).other W3 (Or.inl (oNe HS.1.lt (Nat.le_of_eq g1.symm)))).other W5 (Or.inl (oNe HS.1.lt (Nat.le_of_eq g1.symm)))).other W7 (Or.inl (oNe HS.1.lt (Nat.le_of_eq g1.symm)))).other W9 (Or.inl (oNe HS.1.lt (Nat.le_of_eq g1.symm)))).other W11 (Or.inl (oNe HS.1.lt (Nat.le_of_eq g1.symm)))).other W13 (Or.inl (oNe HS.1.lt (Nat.le_of_eq g1.symm)))).other W15 (Or.inl (oNe HS.1.lt (Nat.le_of_eq g1.symm)))).other W17 (Or.inl (oNe HS.1.lt (Nat.le_of_eq g1.symm)))), (((((((((HS.2.2.2.1.ext E1).other W3 (oNe HS.2.2.2.1.lt (Nat.le_of_eq g1.symm))).other W5 (oNe HS.2.2.2.1.lt (Nat.le_of_eq g1.symm))).other W7 (oNe HS.2.2.2.1.lt (Nat.le_of_eq g1.symm))).other W9 (oNe HS.2.2.2.1.lt (Nat.le_of_eq g1.symm))).other W11 (oNe HS.2.2.2.1.lt (Nat.le_of_eq g1.symm))).other W13 (oNe HS.2.2.2.1.lt (Nat.le_of_eq g1.symm))).other W15 (oNe HS.2.2.2.1.lt (Nat.le_of_eq g1.symm))).other W17 (oNe HS.2.2.2.1.lt (Nat.le_of_eq g1.symm))), HS.2.2.2.2.1, HS.2.2.2.2.2⟩ (i := (8 : Int32)) (iN := 8) (p := p) (d := d) rfl (by decide) hd) tw25 tw26 tw27 tw28 ⟨by decide, by decide⟩ (argsL := [(.ref s), (.int (8 : Int32)), (.int p), (.int d)]) (S' := [(.int (8 : Int32)), (.ref a1)]) (lenOf pd5 rfl) rfl rfl d0_365 rfl (W := 2) rfl ⟨by decide, by decide, rfl, rfl, by decide, by decide⟩ fun v18 h18 q18 => ?_
  obtain ⟨rfl, rfl⟩ := q18
  show Go B n0 _ h17 3 54 368 #[(.val (.int i0)), (.val (.int i1)), (.val (.int i2)), (.val (.int i3)), (.val (.int bb)), (.val (.int op)), (.val (.ref s)), (.val (.ref base)), (.val (.int L)), (.val (.int d)), (.val (.int (10 : Int32))), (.val (.int p)), (.val ev), (.val (.ref a1)), .unset] [(.int (ff ss d p 8)), (.int (8 : Int32)), (.ref a1)]
  obtain ⟨c19, A19, q19, z19, y19, H19, G19⟩ := id V17
  refine iCastore C A19 (inb_of z19 ⟨by decide, by decide⟩) n_a1 d0_368 fun h19 W19 => ?_
  have V19 : Arv Z h19 a1 k1 .char (10 : Int32) [(.int (nar .char (ff ss d p 0))), (.int (nar .char (ff ss d p 1))), (.int (nar .char (ff ss d p 2))), (.int (nar .char (ff ss d p 3))), (.int (nar .char (ff ss d p 4))), (.int (nar .char (ff ss d p 5))), (.int (nar .char (ff ss d p 6))), (.int (nar .char (ff ss d p 7))), (.int (nar .char (ff ss d p 8))), (.int 0)] (.int 0) := Arv.set A19 q19 z19 y19 H19 G19 (fits_nar_char _) W19 8 (by decide) (Nat.le_of_ble_eq_true rfl)
  have O19 := O17.wr W19 n_a1
  refine iIload C d0_369 rfl ?_
  refine iBipush C d0_371 (v := (9 : Int32)) (by decide) ?_
  refine iCmpF C d0_373 (by decide) ?_
  refine iAload C d0_376 rfl rfl ?_
  refine iBipush C d0_378 (v := (9 : Int32)) (by decide) ?_
  refine iAload C d0_380 rfl rfl ?_
  refine iBipush C d0_382 (v := (9 : Int32)) (by decide) ?_
  refine iIload C d0_384 rfl ?_
  refine iIload C d0_386 rfl ?_
  refine iCallS C (rmA hw O19 S0 hz0 S1 rf ⟨((((((((((HS.1.ext E1).wr W3).wr W5).wr W7).wr W9).wr W11).wr W13).wr W15).wr W17).wr W19), ((((((((((HS.2.1.ext E1).other W3 (Or.inl (oNe HS.1.lt (Nat.le_of_eq g1.symm)))).other W5 (Or.inl (oNe HS.1.lt (Nat.le_of_eq g1.symm)))).other W7 (Or.inl (oNe HS.1.lt (Nat.le_of_eq g1.symm)))).other W9 (Or.inl (oNe HS.1.lt (Nat.le_of_eq g1.symm)))).other W11 (Or.inl (oNe HS.1.lt (Nat.le_of_eq g1.symm)))).other W13 (Or.inl (oNe HS.1.lt (Nat.le_of_eq g1.symm)))).other W15 (Or.inl (oNe HS.1.lt (Nat.le_of_eq g1.symm)))).other W17 (Or.inl (oNe HS.1.lt (Nat.le_of_eq g1.symm)))).other W19 (Or.inl (oNe HS.1.lt (Nat.le_of_eq g1.symm)))), ((((((((((HS.2.2.1.ext E1).other W3 (Or.inl (oNe HS.1.lt (Nat.le_of_eq g1.symm)))).other W5 (Or.inl (oNe HS.1.lt (Nat.le_of_eq g1.symm)))).other W7 (Or.inl (oNe HS.1.lt (Nat.le_of_eq g1.symm)))).other W9 (Or.inl (oNe HS.1.lt (Nat.le_of_eq g1.symm)))).other W11 (Or.inl (oNe HS.1.lt (Nat.le_of_eq g1.symm)))).other W13 (Or.inl (oNe HS.1.lt (Nat.le_of_eq g1.symm)))).other W15 (Or.inl (oNe HS.1.lt (Nat.le_of_eq g1.symm)))).other W17 (Or.inl (oNe HS.1.lt (Nat.le_of_eq g1.symm)))).other W19 (Or.inl (oNe HS.1.lt (Nat.le_of_eq g1.symm)))), ((((((((((HS.2.2.2.1.ext E1).other W3 (oNe HS.2.2.2.1.lt (Nat.le_of_eq g1.symm))).other W5 (oNe HS.2.2.2.1.lt (Nat.le_of_eq g1.symm))).other W7 (oNe HS.2.2.2.1.lt (Nat.le_of_eq g1.symm))).other W9 (oNe HS.2.2.2.1.lt (Nat.le_of_eq g1.symm))).other W11 (oNe HS.2.2.2.1.lt (Nat.le_of_eq g1.symm))).other W13 (oNe HS.2.2.2.1.lt (Nat.le_of_eq g1.symm))).other W15 (oNe HS.2.2.2.1.lt (Nat.le_of_eq g1.symm))).other W17 (oNe HS.2.2.2.1.lt (Nat.le_of_eq g1.symm))).other W19 (oNe HS.2.2.2.1.lt (Nat.le_of_eq g1.symm))), HS.2.2.2.2.1, HS.2.2.2.2.2⟩ (i := (9 : Int32)) (iN := 9) (p := p) (d := d) rfl (by decide) hd) tw25 tw26 tw27 tw28 ⟨by decide, by decide⟩ (argsL := [(.ref s), (.int (9 : Int32)), (.int p), (.int d)]) (S' := [(.int (9 : Int32)), (.ref a1)]) (lenOf pd5 rfl) rfl rfl d0_388 rfl (W := 2) rfl ⟨by decide, by decide, rfl, rfl, by decide, by decide⟩ fun v20 h20 q20 => ?_
  obtain ⟨rfl, rfl⟩ := q20
  show Go B n0 _ h19 3 54 391 #[(.val (.int i0)), (.val (.int i1)), (.val (.int i2)), (.val (.int i3)), (.val (.int bb)), (.val (.int op)), (.val (.ref s)), (.val (.ref base)), (.val (.int L)), (.val (.int d)), (.val (.int (10 : Int32))), (.val (.int p)), (.val ev), (.val (.ref a1)), .unset] [(.int (ff ss d p 9)), (.int (9 : Int32)), (.ref a1)]
  obtain ⟨c21, A21, q21, z21, y21, H21, G21⟩ := id V19
  refine iCastore C A21 (inb_of z21 ⟨by decide, by decide⟩) n_a1 d0_391 fun h21 W21 => ?_
  have V21 : Arv Z h21 a1 k1 .char (10 : Int32) [(.int (nar .char (ff ss d p 0))), (.int (nar .char (ff ss d p 1))), (.int (nar .char (ff ss d p 2))), (.int (nar .char (ff ss d p 3))), (.int (nar .char (ff ss d p 4))), (.int (nar .char (ff ss d p 5))), (.int (nar .char (ff ss d p 6))), (.int (nar .char (ff ss d p 7))), (.int (nar .char (ff ss d p 8))), (.int (nar .char (ff ss d p 9)))] (.int 0) := Arv.set A21 q21 z21 y21 H21 G21 (fits_nar_char _) W21 9 (by decide) (Nat.le_of_ble_eq_true rfl)
  have O21 := O19.wr W21 n_a1
  refine iIload C d0_392 rfl ?_
  refine iBipush C d0_394 (v := (10 : Int32)) (by decide) ?_
  refine iCmpT C (t := 415) d0_396 (by decide) ⟨by decide, by decide⟩ ?_
  refine iNew C tw51 tw2 tw1 d0_415 ⟨rfl, rfl, by decide, by decide⟩ fun h22 a22 g22 E22 A22 D22 => ?_
  have n_a22 : n0 ≤ a22 := oFresh O21 g22
  have O22 := O21.ext E22
  have F22_value : Fld Z h22 a22 "java/lang/String" "value" "[B" .null := D22 (Or.inr (hw _ tw4)) (ty := (.array .byte)) (by decide)
  have F22_coder : Fld Z h22 a22 "java/lang/String" "coder" "B" (.int (0 : Int32)) := D22 (Or.inr (hw _ tw5)) (ty := .byte) (by decide)
  refine iDup C d0_418 rfl ?_
  refine iAload C d0_419 rfl rfl ?_
  have K23 : Arv Z h22 a1 k1 .char (10 : Int32) (List.map Value.int [ff ss d p 0, ff ss d p 1, ff ss d p 2, ff ss d p 3, ff ss d p 4, ff ss d p 5, ff ss d p 6, ff ss d p 7, ff ss d p 8, ff ss d p 9]) (.int 0) := by
    have q := (V21.ext E22)
    simpa only [hnf, List.map] using q
  have P23 : ∀ c ∈ [ff ss d p 0, ff ss d p 1, ff ss d p 2, ff ss d p 3, ff ss d p 4, ff ss d p 5, ff ss d p 6, ff ss d p 7, ff ss d p 8, ff ss d p 9], ¬ c < 0 ∧ ¬ (255 : Int32) < c := by
    intro c hc
    simp only [List.mem_cons, List.not_mem_nil, or_false] at hc
    rcases hc with rfl | rfl | rfl | rfl | rfl | rfl | rfl | rfl | rfl | rfl <;> exact own_ff hd HS.2.2.2.2.2 _
  refine iCallIB C (a := a22) (payStr hw n_a22 O22 A22 F22_value F22_coder K23 (S0.ext O22.2) hz0 (n := 10) rfl rfl (by decide) (by decide) P23 (by decide) (by decide)) rfl tw52 tw53 tw54 ⟨by decide, by decide⟩ (argsL := [(.ref a1)]) (S' := [(.ref a22)]) (lenOf pd6 rfl) rfl rfl d0_421 rfl (W := 1) rfl ⟨rfl, rfl, by decide, by decide⟩ fun v24 h24 q24 => ?_
  obtain ⟨rfl, K_24, t_24, k_24, sx_24⟩ := q24
  have O24 := O22.keep K_24 (allS n_a22 all0)
  show Go B n0 _ h24 5 68 424 #[(.val (.int i0)), (.val (.int i1)), (.val (.int i2)), (.val (.int i3)), (.val (.int bb)), (.val (.int op)), (.val (.ref s)), (.val (.ref base)), (.val (.int L)), (.val (.int d)), (.val (.int (10 : Int32))), (.val (.int p)), (.val ev), (.val (.ref a1)), .unset] [(.ref a22)]
  refine iAstore C d0_424 (Ls' := #[(.val (.int i0)), (.val (.int i1)), (.val (.int i2)), (.val (.int i3)), (.val (.int bb)), (.val (.int op)), (.val (.ref s)), (.val (.ref base)), (.val (.int L)), (.val (.int d)), (.val (.int (10 : Int32))), (.val (.int p)), (.val ev), (.val (.ref a1)), (.val (.ref a22))]) rfl rfl ?_
  refine iAload C d0_426 rfl rfl ?_
  refine iCallS C (rmN hw G O24 FV hcap S0 hz0 SI SW sx_24) tw72 tw73 tw9 tw74 ⟨by decide, by decide⟩ (argsL := [(.ref a22)]) (S' := []) (lenOf pd7 rfl) rfl rfl d0_428 rfl (W := 0) rfl ⟨by decide, by decide, rfl, rfl, by decide, by decide⟩ fun v25 h25 q25 => ?_
  obtain ⟨rfl, E25⟩ := q25
  show Go B n0 _ h25 6 70 431 #[(.val (.int i0)), (.val (.int i1)), (.val (.int i2)), (.val (.int i3)), (.val (.int bb)), (.val (.int op)), (.val (.ref s)), (.val (.ref base)), (.val (.int L)), (.val (.int d)), (.val (.int (10 : Int32))), (.val (.int p)), (.val ev), (.val (.ref a1)), (.val (.ref a22))] [(pk ga1 ga3 [ff ss d p 0, ff ss d p 1, ff ss d p 2, ff ss d p 3, ff ss d p 4, ff ss d p 5, ff ss d p 6, ff ss d p 7, ff ss d p 8, ff ss d p 9])]
  rw [hE]
  rcases hev with rfl | ⟨ra, rfl⟩
  · refine iAload C d0_431 rfl rfl ?_
    refine iAcmpF C d0_433 rfl rfl (acE rfl).2 ?_
    refine iIconst C d0_436 (v := (1 : Int32)) (by decide) ?_
    refine iGoto C (t := 441) d0_437 ⟨by decide, by decide⟩ ?_
    refine iRetZ C d0_441 (by simp) ⟨Nat.le_refl _, by decide, by decide⟩ ?_
    exact rfl
  · refine iAload C d0_431 rfl rfl ?_
    refine iAcmpF C d0_433 rfl rfl (acE rfl).2 ?_
    refine iIconst C d0_436 (v := (1 : Int32)) (by decide) ?_
    refine iGoto C (t := 441) d0_437 ⟨by decide, by decide⟩ ?_
    refine iRetZ C d0_441 (by simp) ⟨Nat.le_refl _, by decide, by decide⟩ ?_
    exact rfl
set_option maxRecDepth 65536 in
set_option maxHeartbeats 4000000 in
theorem tl11 {l : Launch} {Z : State} {a0 : Array Value} (hw : ∀ d ∈ tables_1, d.before a0 Z = true) {n0 : Nat} {h0 : Heap} {ga1 ga2 ga3 ga4 ga5 ga6 ga7 : Addr} {gc2 gc5 gc7 : Cell} (G : GG Z ga1 ga2 ga3 ga4 ga5 ga6 ga7 gc2 gc5 gc7) (O : Old Z n0 h0) (FV : FitC Z gc2) (hcap : gc2.slots.size ≤ 2) {z0 : Int32} (S0 : Sta Z Z.heap "java/lang/String" "COMPACT_STRINGS" "Z" (.int z0)) (hz0 : ¬ z0 = 0) (SI : SX Z Z.heap ga4 ga5 gc5.cls SINJ) (SW : SX Z Z.heap ga6 ga7 gc7.cls SWD) {fm : Value} (S1 : Sta Z Z.heap "jdk/internal/util/Preconditions" "SIOOBE_FORMATTER" "Ljava/util/function/BiFunction;" fm) (rf : fm.isRef = true) (hcw : Jvm.Lit.compactW.before a0 Z = true) (hhE : Jvm.Lit.constHeld Z "java/lang/String" 7) {i0 i1 i2 i3 bb op L d p : Int32} {s base t : Addr} {k : ClassId} {ss : List Int32} {ev : Value} (HS : SX Z h0 s t k ss) (hd : ¬ d < 0 ∧ ¬ (255 : Int32) < d) (hev : ev = .null ∨ ∃ a, ev = .ref a) (hE : pk ga1 ga3 [ff ss d p 0, ff ss d p 1, ff ss d p 2, ff ss d p 3, ff ss d p 4, ff ss d p 5, ff ss d p 6, ff ss d p 7, ff ss d p 8, ff ss d p 9, ff ss d p 10] = ev) {B : Bx} (C : Cx B l Z a0 room_1 x code maxLocals ret n0) :
    Go B n0 (fun v _ => v = some (.int 1)) h0 2 44 175 #[(.val (.int i0)), (.val (.int i1)), (.val (.int i2)), (.val (.int i3)), (.val (.int bb)), (.val (.int op)), (.val (.ref s)), (.val (.ref base)), (.val (.int L)), (.val (.int d)), (.val (.int (11 : Int32))), (.val (.int p)), (.val ev), .unset, .unset] [] := by
  have hrf : ev.isRef = true := by rcases hev with rfl | ⟨a, rfl⟩ <;> rfl
  have hnf : ∀ i, nar .char (ff ss d p i) = ff ss d p i := fun i => own_nar (own_ff hd HS.2.2.2.2.2 i)
  refine iIload C d0_175 rfl ?_
  refine iNewP C (aty := .char) tw24 d0_177 (by decide) (cap := 11) (by decide) (by decide) ⟨rfl, rfl, by decide, by decide⟩ fun h1 a1 k1 g1 E1 V1 => ?_
  have n_a1 : n0 ≤ a1 := oFresh O g1
  have O1 := O.ext E1
  have V1 : Arv Z h1 a1 k1 .char (11 : Int32) [(.int 0), (.int 0), (.int 0), (.int 0), (.int 0), (.int 0), (.int 0), (.int 0), (.int 0), (.int 0), (.int 0)] (.int 0) := V1.pad (pad_rep [] (.int 0) 11)
  refine iAstore C d0_179 (Ls' := #[(.val (.int i0)), (.val (.int i1)), (.val (.int i2)), (.val (.int i3)), (.val (.int bb)), (.val (.int op)), (.val (.ref s)), (.val (.ref base)), (.val (.int L)), (.val (.int d)), (.val (.int (11 : Int32))), (.val (.int p)), (.val ev), (.val (.ref a1)), .unset]) rfl rfl ?_
  refine iIload C d0_181 rfl ?_
  refine iIfF C d0_183 (by decide) ?_
  refine iAload C d0_186 rfl rfl ?_
  refine iIconst C d0_188 (v := (0 : Int32)) (by decide) ?_
  refine iAload C d0_189 rfl rfl ?_
  refine iIconst C d0_191 (v := (0 : Int32)) (by decide) ?_
  refine iIload C d0_192 rfl ?_
  refine iIload C d0_194 rfl ?_
  refine iCallS C (rmA hw O1 S0 hz0 S1 rf ⟨(HS.1.ext E1), (HS.2.1.ext E1), (HS.2.2.1.ext E1), (HS.2.2.2.1.ext E1), HS.2.2.2.2.1, HS.2.2.2.2.2⟩ (i := (0 : Int32)) (iN := 0) (p := p) (d := d) rfl (by decide) hd) tw25 tw26 tw27 tw28 ⟨by decide, by decide⟩ (argsL := [(.ref s), (.int (0 : Int32)), (.int p), (.int d)]) (S' := [(.int (0 : Int32)), (.ref a1)]) (lenOf pd5 rfl) rfl rfl d0_196 rfl (W := 2) rfl ⟨by decide, by decide, rfl, rfl, by decide, by decide⟩ fun v2 h2 q2 => ?_
  obtain ⟨rfl, rfl⟩ := q2
  show Go B n0 _ h1 3 55 199 #[(.val (.int i0)), (.val (.int i1)), (.val (.int i2)), (.val (.int i3)), (.val (.int bb)), (.val (.int op)), (.val (.ref s)), (.val (.ref base)), (.val (.int L)), (.val (.int d)), (.val (.int (11 : Int32))), (.val (.int p)), (.val ev), (.val (.ref a1)), .unset] [(.int (ff ss d p 0)), (.int (0 : Int32)), (.ref a1)]
  obtain ⟨c3, A3, q3, z3, y3, H3, G3⟩ := id V1
  refine iCastore C A3 (inb_of z3 ⟨by decide, by decide⟩) n_a1 d0_199 fun h3 W3 => ?_
  have V3 : Arv Z h3 a1 k1 .char (11 : Int32) [(.int (nar .char (ff ss d p 0))), (.int 0), (.int 0), (.int 0), (.int 0), (.int 0), (.int 0), (.int 0), (.int 0), (.int 0), (.int 0)] (.int 0) := Arv.set A3 q3 z3 y3 H3 G3 (fits_nar_char _) W3 0 (by decide) (Nat.le_of_ble_eq_true rfl)
  have O3 := O1.wr W3 n_a1
  refine iIload C d0_200 rfl ?_
  refine iIconst C d0_202 (v := (1 : Int32)) (by decide) ?_
  refine iCmpF C d0_203 (by decide) ?_
  refine iAload C d0_206 rfl rfl ?_
  refine iIconst C d0_208 (v := (1 : Int32)) (by decide) ?_
  refine iAload C d0_209 rfl rfl ?_
  refine iIconst C d0_211 (v := (1 : Int32)) (by decide) ?_
  refine iIload C d0_212 rfl ?_
  refine iIload C d0_214 rfl ?_
  refine iCallS C (rmA hw O3 S0 hz0 S1 rf ⟨((HS.1.ext E1).wr W3), ((HS.2.1.ext E1).other W3 (Or.inl (oNe HS.1.lt (Nat.le_of_eq g1.symm)))), ((HS.2.2.1.ext E1).other W3 (Or.inl (oNe HS.1.lt (Nat.le_of_eq g1.symm)))), ((HS.2.2.2.1.ext E1).other W3 (oNe HS.2.2.2.1.lt (Nat.le_of_eq g1.symm))), HS.2.2.2.2.1, HS.2.2.2.2.2⟩ (i := (1 : Int32)) (iN := 1) (p := p) (d := d) rfl (by decide) hd) tw25 tw26 tw27 tw28 ⟨by decide, by decide⟩ (argsL := [(.ref s), (.int (1 : Int32)), (.int p), (.int d)]) (S' := [(.int (1 : Int32)), (.ref a1)]) (lenOf pd5 rfl) rfl rfl d0_216 rfl (W := 2) rfl ⟨by decide, by decide, rfl, rfl, by decide, by decide⟩ fun v4 h4 q4 => ?_
  obtain ⟨rfl, rfl⟩ := q4
  show Go B n0 _ h3 3 55 219 #[(.val (.int i0)), (.val (.int i1)), (.val (.int i2)), (.val (.int i3)), (.val (.int bb)), (.val (.int op)), (.val (.ref s)), (.val (.ref base)), (.val (.int L)), (.val (.int d)), (.val (.int (11 : Int32))), (.val (.int p)), (.val ev), (.val (.ref a1)), .unset] [(.int (ff ss d p 1)), (.int (1 : Int32)), (.ref a1)]
  obtain ⟨c5, A5, q5, z5, y5, H5, G5⟩ := id V3
  refine iCastore C A5 (inb_of z5 ⟨by decide, by decide⟩) n_a1 d0_219 fun h5 W5 => ?_
  have V5 : Arv Z h5 a1 k1 .char (11 : Int32) [(.int (nar .char (ff ss d p 0))), (.int (nar .char (ff ss d p 1))), (.int 0), (.int 0), (.int 0), (.int 0), (.int 0), (.int 0), (.int 0), (.int 0), (.int 0)] (.int 0) := Arv.set A5 q5 z5 y5 H5 G5 (fits_nar_char _) W5 1 (by decide) (Nat.le_of_ble_eq_true rfl)
  have O5 := O3.wr W5 n_a1
  refine iIload C d0_220 rfl ?_
  refine iIconst C d0_222 (v := (2 : Int32)) (by decide) ?_
  refine iCmpF C d0_223 (by decide) ?_
  refine iAload C d0_226 rfl rfl ?_
  refine iIconst C d0_228 (v := (2 : Int32)) (by decide) ?_
  refine iAload C d0_229 rfl rfl ?_
  refine iIconst C d0_231 (v := (2 : Int32)) (by decide) ?_
  refine iIload C d0_232 rfl ?_
  refine iIload C d0_234 rfl ?_
  refine iCallS C (rmA hw O5 S0 hz0 S1 rf ⟨(((HS.1.ext E1).wr W3).wr W5), (((HS.2.1.ext E1).other W3 (Or.inl (oNe HS.1.lt (Nat.le_of_eq g1.symm)))).other W5 (Or.inl (oNe HS.1.lt (Nat.le_of_eq g1.symm)))), (((HS.2.2.1.ext E1).other W3 (Or.inl (oNe HS.1.lt (Nat.le_of_eq g1.symm)))).other W5 (Or.inl (oNe HS.1.lt (Nat.le_of_eq g1.symm)))), (((HS.2.2.2.1.ext E1).other W3 (oNe HS.2.2.2.1.lt (Nat.le_of_eq g1.symm))).other W5 (oNe HS.2.2.2.1.lt (Nat.le_of_eq g1.symm))), HS.2.2.2.2.1, HS.2.2.2.2.2⟩ (i := (2 : Int32)) (iN := 2) (p := p) (d := d) rfl (by decide) hd) tw25 tw26 tw27 tw28 ⟨by decide, by decide⟩ (argsL := [(.ref s), (.int (2 : Int32)), (.int p), (.int d)]) (S' := [(.int (2 : Int32)), (.ref a1)]) (lenOf pd5 rfl) rfl rfl d0_236 rfl (W := 2) rfl ⟨by decide, by decide, rfl, rfl, by decide, by decide⟩ fun v6 h6 q6 => ?_
  obtain ⟨rfl, rfl⟩ := q6
  show Go B n0 _ h5 3 55 239 #[(.val (.int i0)), (.val (.int i1)), (.val (.int i2)), (.val (.int i3)), (.val (.int bb)), (.val (.int op)), (.val (.ref s)), (.val (.ref base)), (.val (.int L)), (.val (.int d)), (.val (.int (11 : Int32))), (.val (.int p)), (.val ev), (.val (.ref a1)), .unset] [(.int (ff ss d p 2)), (.int (2 : Int32)), (.ref a1)]
  obtain ⟨c7, A7, q7, z7, y7, H7, G7⟩ := id V5
  refine iCastore C A7 (inb_of z7 ⟨by decide, by decide⟩) n_a1 d0_239 fun h7 W7 => ?_
  have V7 : Arv Z h7 a1 k1 .char (11 : Int32) [(.int (nar .char (ff ss d p 0))), (.int (nar .char (ff ss d p 1))), (.int (nar .char (ff ss d p 2))), (.int 0), (.int 0), (.int 0), (.int 0), (.int 0), (.int 0), (.int 0), (.int 0)] (.int 0) := Arv.set A7 q7 z7 y7 H7 G7 (fits_nar_char _) W7 2 (by decide) (Nat.le_of_ble_eq_true rfl)
  have O7 := O5.wr W7 n_a1
  refine iIload C d0_240 rfl ?_
  refine iIconst C d0_242 (v := (3 : Int32)) (by decide) ?_
  refine iCmpF C d0_243 (by decide) ?_
  refine iAload C d0_246 rfl rfl ?_
  refine iIconst C d0_248 (v := (3 : Int32)) (by decide) ?_
  refine iAload C d0_249 rfl rfl ?_
  refine iIconst C d0_251 (v := (3 : Int32)) (by decide) ?_
  refine iIload C d0_252 rfl ?_
  refine iIload C d0_254 rfl ?_
  refine iCallS C (rmA hw O7 S0 hz0 S1 rf ⟨((((HS.1.ext E1).wr W3).wr W5).wr W7), ((((HS.2.1.ext E1).other W3 (Or.inl (oNe HS.1.lt (Nat.le_of_eq g1.symm)))).other W5 (Or.inl (oNe HS.1.lt (Nat.le_of_eq g1.symm)))).other W7 (Or.inl (oNe HS.1.lt (Nat.le_of_eq g1.symm)))), ((((HS.2.2.1.ext E1).other W3 (Or.inl (oNe HS.1.lt (Nat.le_of_eq g1.symm)))).other W5 (Or.inl (oNe HS.1.lt (Nat.le_of_eq g1.symm)))).other W7 (Or.inl (oNe HS.1.lt (Nat.le_of_eq g1.symm)))), ((((HS.2.2.2.1.ext E1).other W3 (oNe HS.2.2.2.1.lt (Nat.le_of_eq g1.symm))).other W5 (oNe HS.2.2.2.1.lt (Nat.le_of_eq g1.symm))).other W7 (oNe HS.2.2.2.1.lt (Nat.le_of_eq g1.symm))), HS.2.2.2.2.1, HS.2.2.2.2.2⟩ (i := (3 : Int32)) (iN := 3) (p := p) (d := d) rfl (by decide) hd) tw25 tw26 tw27 tw28 ⟨by decide, by decide⟩ (argsL := [(.ref s), (.int (3 : Int32)), (.int p), (.int d)]) (S' := [(.int (3 : Int32)), (.ref a1)]) (lenOf pd5 rfl) rfl rfl d0_256 rfl (W := 2) rfl ⟨by decide, by decide, rfl, rfl, by decide, by decide⟩ fun v8 h8 q8 => ?_
  obtain ⟨rfl, rfl⟩ := q8
  show Go B n0 _ h7 3 55 259 #[(.val (.int i0)), (.val (.int i1)), (.val (.int i2)), (.val (.int i3)), (.val (.int bb)), (.val (.int op)), (.val (.ref s)), (.val (.ref base)), (.val (.int L)), (.val (.int d)), (.val (.int (11 : Int32))), (.val (.int p)), (.val ev), (.val (.ref a1)), .unset] [(.int (ff ss d p 3)), (.int (3 : Int32)), (.ref a1)]
  obtain ⟨c9, A9, q9, z9, y9, H9, G9⟩ := id V7
  refine iCastore C A9 (inb_of z9 ⟨by decide, by decide⟩) n_a1 d0_259 fun h9 W9 => ?_
  have V9 : Arv Z h9 a1 k1 .char (11 : Int32) [(.int (nar .char (ff ss d p 0))), (.int (nar .char (ff ss d p 1))), (.int (nar .char (ff ss d p 2))), (.int (nar .char (ff ss d p 3))), (.int 0), (.int 0), (.int 0), (.int 0), (.int 0), (.int 0), (.int 0)] (.int 0) := Arv.set A9 q9 z9 y9 H9 G9 (fits_nar_char _) W9 3 (by decide) (Nat.le_of_ble_eq_true rfl)
  have O9 := O7.wr W9 n_a1
  refine iIload C d0_260 rfl ?_
  refine iIconst C d0_262 (v := (4 : Int32)) (by decide) ?_
  refine iCmpF C d0_263 (by decide) ?_
  refine iAload C d0_266 rfl rfl ?_
  refine iIconst C d0_268 (v := (4 : Int32)) (by decide) ?_
  refine iAload C d0_269 rfl rfl ?_
  refine iIconst C d0_271 (v := (4 : Int32)) (by decide) ?_
  refine iIload C d0_272 rfl ?_
  refine iIload C d0_274 rfl ?_
  refine iCallS C (rmA hw O9 S0 hz0 S1 rf ⟨(((((HS.1.ext E1).wr W3).wr W5).wr W7).wr W9), (((((HS.2.1.ext E1).other W3 (Or.inl (oNe HS.1.lt (Nat.le_of_eq g1.symm)))).other W5 (Or.inl (oNe HS.1.lt (Nat.le_of_eq g1.symm)))).other W7 (Or.inl (oNe HS.1.lt (Nat.le_of_eq g1.symm)))).other W9 (Or.inl (oNe HS.1.lt (Nat.le_of_eq g1.symm)))), (((((HS.2.2.1.ext E1).other W3 (Or.inl (oNe HS.1.lt (Nat.le_of_eq g1.symm)))).other W5 (Or.inl (oNe HS.1.lt (Nat.le_of_eq g1.symm)))).other W7 (Or.inl (oNe HS.1.lt (Nat.le_of_eq g1.symm)))).other W9 (Or.inl (oNe HS.1.lt (Nat.le_of_eq g1.symm)))), (((((HS.2.2.2.1.ext E1).other W3 (oNe HS.2.2.2.1.lt (Nat.le_of_eq g1.symm))).other W5 (oNe HS.2.2.2.1.lt (Nat.le_of_eq g1.symm))).other W7 (oNe HS.2.2.2.1.lt (Nat.le_of_eq g1.symm))).other W9 (oNe HS.2.2.2.1.lt (Nat.le_of_eq g1.symm))), HS.2.2.2.2.1, HS.2.2.2.2.2⟩ (i := (4 : Int32)) (iN := 4) (p := p) (d := d) rfl (by decide) hd) tw25 tw26 tw27 tw28 ⟨by decide, by decide⟩ (argsL := [(.ref s), (.int (4 : Int32)), (.int p), (.int d)]) (S' := [(.int (4 : Int32)), (.ref a1)]) (lenOf pd5 rfl) rfl rfl d0_276 rfl (W := 2) rfl ⟨by decide, by decide, rfl, rfl, by decide, by decide⟩ fun v10 h10 q10 => ?_
  obtain ⟨rfl, rfl⟩ := q10
  show Go B n0 _ h9 3 55 279 #[(.val (.int i0)), (.val (.int i1)), (.val (.int i2)), (.val (.int i3)), (.val (.int bb)), (.val (.int op)), (.val (.ref s)), (.val (.ref base)), (.val (.int L)), (.val (.int d)), (.val (.int (11 : Int32))), (.val (.int p)), (.val ev), (.val (.ref a1)), .unset] [(.int (ff ss d p 4)), (.int (4 : Int32)), (.ref a1)]
  obtain ⟨c11, A11, q11, z11, y11, H11, G11⟩ := id V9
  refine iCastore C A11 (inb_of z11 ⟨by decide, by decide⟩) n_a1 d0_279 fun h11 W11 => ?_
  have V11 : Arv Z h11 a1 k1 .char (11 : Int32) [(.int (nar .char (ff ss d p 0))), (.int (nar .char (ff ss d p 1))), (.int (nar .char (ff ss d p 2))), (.int (nar .char (ff ss d p 3))), (.int (nar .char (ff ss d p 4))), (.int 0), (.int 0), (.int 0), (.int 0), (.int 0), (.int 0)] (.int 0) := Arv.set A11 q11 z11 y11 H11 G11 (fits_nar_char _) W11 4 (by decide) (Nat.le_of_ble_eq_true rfl)
  have O11 := O9.wr W11 n_a1
  refine iIload C d0_280 rfl ?_
  refine iIconst C d0_282 (v := (5 : Int32)) (by decide) ?_
  refine iCmpF C d0_283 (by decide) ?_
  refine iAload C d0_286 rfl rfl ?_
  refine iIconst C d0_288 (v := (5 : Int32)) (by decide) ?_
  refine iAload C d0_289 rfl rfl ?_
  refine iIconst C d0_291 (v := (5 : Int32)) (by decide) ?_
  refine iIload C d0_292 rfl ?_
  refine iIload C d0_294 rfl ?_
  refine iCallS C (rmA hw O11 S0 hz0 S1 rf ⟨((((((HS.1.ext E1).wr W3).wr W5).wr W7).wr W9).wr W11), ((((((HS.2.1.ext E1).other W3 (Or.inl (oNe HS.1.lt (Nat.le_of_eq g1.symm)))).other W5 (Or.inl (oNe HS.1.lt (Nat.le_of_eq g1.symm)))).other W7 (Or.inl (oNe HS.1.lt (Nat.le_of_eq g1.symm)))).other W9 (Or.inl (oNe HS.1.lt (Nat.le_of_eq g1.symm)))).other W11 (Or.inl (oNe HS.1.lt (Nat.le_of_eq g1.symm)))), ((((((HS.2.2.1.ext E1).other W3 (Or.inl (oNe HS.1.lt (Nat.le_of_eq g1.symm)))).other W5 (Or.inl (oNe HS.1.lt (Nat.le_of_eq g1.symm)))).other W7 (Or.inl (oNe HS.1.lt (Nat.le_of_eq g1.symm)))).other W9 (Or.inl (oNe HS.1.lt (Nat.le_of_eq g1.symm)))).other W11 (Or.inl (oNe HS.1.lt (Nat.le_of_eq g1.symm)))), ((((((HS.2.2.2.1.ext E1).other W3 (oNe HS.2.2.2.1.lt (Nat.le_of_eq g1.symm))).other W5 (oNe HS.2.2.2.1.lt (Nat.le_of_eq g1.symm))).other W7 (oNe HS.2.2.2.1.lt (Nat.le_of_eq g1.symm))).other W9 (oNe HS.2.2.2.1.lt (Nat.le_of_eq g1.symm))).other W11 (oNe HS.2.2.2.1.lt (Nat.le_of_eq g1.symm))), HS.2.2.2.2.1, HS.2.2.2.2.2⟩ (i := (5 : Int32)) (iN := 5) (p := p) (d := d) rfl (by decide) hd) tw25 tw26 tw27 tw28 ⟨by decide, by decide⟩ (argsL := [(.ref s), (.int (5 : Int32)), (.int p), (.int d)]) (S' := [(.int (5 : Int32)), (.ref a1)]) (lenOf pd5 rfl) rfl rfl d0_296 rfl (W := 2) rfl ⟨by decide, by decide, rfl, rfl, by decide, by decide⟩ fun v12 h12 q12 => ?_
  obtain ⟨rfl, rfl⟩ := q12
  show Go B n0 _ h11 3 55 299 #[(.val (.int i0)), (.val (.int i1)), (.val (.int i2)), (.val (.int i3)), (.val (.int bb)), (.val (.int op)), (.val (.ref s)), (.val (.ref base)), (.val (.int L)), (.val (.int d)), (.val (.int (11 : Int32))), (.val (.int p)), (.val ev), (.val (.ref a1)), .unset] [(.int (ff ss d p 5)), (.int (5 : Int32)), (.ref a1)]
  obtain ⟨c13, A13, q13, z13, y13, H13, G13⟩ := id V11
  refine iCastore C A13 (inb_of z13 ⟨by decide, by decide⟩) n_a1 d0_299 fun h13 W13 => ?_
  have V13 : Arv Z h13 a1 k1 .char (11 : Int32) [(.int (nar .char (ff ss d p 0))), (.int (nar .char (ff ss d p 1))), (.int (nar .char (ff ss d p 2))), (.int (nar .char (ff ss d p 3))), (.int (nar .char (ff ss d p 4))), (.int (nar .char (ff ss d p 5))), (.int 0), (.int 0), (.int 0), (.int 0), (.int 0)] (.int 0) := Arv.set A13 q13 z13 y13 H13 G13 (fits_nar_char _) W13 5 (by decide) (Nat.le_of_ble_eq_true rfl)
  have O13 := O11.wr W13 n_a1
  refine iIload C d0_300 rfl ?_
  refine iBipush C d0_302 (v := (6 : Int32)) (by decide) ?_
  refine iCmpF C d0_304 (by decide) ?_
  refine iAload C d0_307 rfl rfl ?_
  refine iBipush C d0_309 (v := (6 : Int32)) (by decide) ?_
  refine iAload C d0_311 rfl rfl ?_
  refine iBipush C d0_313 (v := (6 : Int32)) (by decide) ?_
  refine iIload C d0_315 rfl ?_
  refine iIload C d0_317 rfl ?_
  refine iCallS C (rmA hw O13 S0 hz0 S1 rf ⟨(((((((HS.1.ext E1).wr W3).wr W5).wr W7).wr W9).wr W11).wr W13), (((((((HS.2.1.ext E1).other W3 (Or.inl (oNe HS.1.lt (Nat.le_of_eq g1.symm)))).other W5 (Or.inl (oNe HS.1.lt (Nat.le_of_eq g1.symm)))).other W7 (Or.inl (oNe HS.1.lt (Nat.le_of_eq g1.symm)))).other W9 (Or.inl (oNe HS.1.lt (Nat.le_of_eq g1.symm)))).other W11 (Or.inl (oNe HS.1.lt (Nat.le_of_eq g1.symm)))).other W13 (Or.inl (oNe HS.1.lt (Nat.le_of_eq g1.symm)))), (((((((HS.2.2.1.ext E1).other W3 (Or.inl (oNe HS.1.lt (Nat.le_of_eq g1.symm)))).other W5 (Or.inl (oNe HS.1.lt (Nat.le_of_eq g1.symm)))).other W7 (Or.inl (oNe HS.1.lt (Nat.le_of_eq g1.symm)))).other W9 (Or.inl (oNe HS.1.lt (Nat.le_of_eq g1.symm)))).other W11 (Or.inl (oNe HS.1.lt (Nat.le_of_eq g1.symm)))).other W13 (Or.inl (oNe HS.1.lt (Nat.le_of_eq g1.symm)))), (((((((HS.2.2.2.1.ext E1).other W3 (oNe HS.2.2.2.1.lt (Nat.le_of_eq g1.symm))).other W5 (oNe HS.2.2.2.1.lt (Nat.le_of_eq g1.symm))).other W7 (oNe HS.2.2.2.1.lt (Nat.le_of_eq g1.symm))).other W9 (oNe HS.2.2.2.1.lt (Nat.le_of_eq g1.symm))).other W11 (oNe HS.2.2.2.1.lt (Nat.le_of_eq g1.symm))).other W13 (oNe HS.2.2.2.1.lt (Nat.le_of_eq g1.symm))), HS.2.2.2.2.1, HS.2.2.2.2.2⟩ (i := (6 : Int32)) (iN := 6) (p := p) (d := d) rfl (by decide) hd) tw25 tw26 tw27 tw28 ⟨by decide, by decide⟩ (argsL := [(.ref s), (.int (6 : Int32)), (.int p), (.int d)]) (S' := [(.int (6 : Int32)), (.ref a1)]) (lenOf pd5 rfl) rfl rfl d0_319 rfl (W := 2) rfl ⟨by decide, by decide, rfl, rfl, by decide, by decide⟩ fun v14 h14 q14 => ?_
  obtain ⟨rfl, rfl⟩ := q14
  show Go B n0 _ h13 3 55 322 #[(.val (.int i0)), (.val (.int i1)), (.val (.int i2)), (.val (.int i3)), (.val (.int bb)), (.val (.int op)), (.val (.ref s)), (.val (.ref base)), (.val (.int L)), (.val (.int d)), (.val (.int (11 : Int32))), (.val (.int p)), (.val ev), (.val (.ref a1)), .unset] [(.int (ff ss d p 6)), (.int (6 : Int32)), (.ref a1)]
  obtain ⟨c15, A15, q15, z15, y15, H15, G15⟩ := id V13
  refine iCastore C A15 (inb_of z15 ⟨by decide, by decide⟩) n_a1 d0_322 fun h15 W15 => ?_
  have V15 : Arv Z h15 a1 k1 .char (11 : Int32) [(.int (nar .char (ff ss d p 0))), (.int (nar .char (ff ss d p 1))), (.int (nar .char (ff ss d p 2))), (.int (nar .char (ff ss d p 3))), (.int (nar .char (ff ss d p 4))), (.int (nar .char (ff ss d p 5))), (.int (nar .char (ff ss d p 6))), (.int 0), (.int 0), (.int 0), (.int 0)] (.int 0) := Arv.set A15 q15 z15 y15 H15 G15 (fits_nar_char _) W15 6 (by decide) (Nat.le_of_ble_eq_true rfl)
  have O15 := O13.wr W15 n_a1
  refine iIload C d0_323 rfl ?_
  refine iBipush C d0_325 (v := (7 : Int32)) (by decide) ?_
  refine iCmpF C d0_327 (by decide) ?_
  refine iAload C d0_330 rfl rfl ?_
  refine iBipush C d0_332 (v := (7 : Int32)) (by decide) ?_
  refine iAload C d0_334 rfl rfl ?_
  refine iBipush C d0_336 (v := (7 : Int32)) (by decide) ?_
  refine iIload C d0_338 rfl ?_
  refine iIload C d0_340 rfl ?_
  refine iCallS C (rmA hw O15 S0 hz0 S1 rf ⟨((((((((HS.1.ext E1).wr W3).wr W5).wr W7).wr W9).wr W11).wr W13).wr W15), ((((((((HS.2.1.ext E1).other W3 (Or.inl (oNe HS.1.lt (Nat.le_of_eq g1.symm)))).other W5 (Or.inl (oNe HS.1.lt (Nat.le_of_eq g1.symm)))).other W7 (Or.inl (oNe HS.1.lt (Nat.le_of_eq g1.symm)))).other W9 (Or.inl (oNe HS.1.lt (Nat.le_of_eq g1.symm)))).other W11 (Or.inl (oNe HS.1.lt (Nat.le_of_eq g1.symm)))).other W13 (Or.inl (oNe HS.1.lt (Nat.le_of_eq g1.symm)))).other W15 (Or.inl (oNe HS.1.lt (Nat.le_of_eq g1.symm)))), ((((((((HS.2.2.1.ext E1).other W3 (Or.inl (oNe HS.1.lt (Nat.le_of_eq g1.symm)))).other W5 (Or.inl (oNe HS.1.lt (Nat.le_of_eq g1.symm)))).other W7 (Or.inl (oNe HS.1.lt (Nat.le_of_eq g1.symm)))).other W9 (Or.inl (oNe HS.1.lt (Nat.le_of_eq g1.symm)))).other W11 (Or.inl (oNe HS.1.lt (Nat.le_of_eq g1.symm)))).other W13 (Or.inl (oNe HS.1.lt (Nat.le_of_eq g1.symm)))).other W15 (Or.inl (oNe HS.1.lt (Nat.le_of_eq g1.symm)))), ((((((((HS.2.2.2.1.ext E1).other W3 (oNe HS.2.2.2.1.lt (Nat.le_of_eq g1.symm))).other W5 (oNe HS.2.2.2.1.lt (Nat.le_of_eq g1.symm))).other W7 (oNe HS.2.2.2.1.lt (Nat.le_of_eq g1.symm))).other W9 (oNe HS.2.2.2.1.lt (Nat.le_of_eq g1.symm))).other W11 (oNe HS.2.2.2.1.lt (Nat.le_of_eq g1.symm))).other W13 (oNe HS.2.2.2.1.lt (Nat.le_of_eq g1.symm))).other W15 (oNe HS.2.2.2.1.lt (Nat.le_of_eq g1.symm))), HS.2.2.2.2.1, HS.2.2.2.2.2⟩ (i := (7 : Int32)) (iN := 7) (p := p) (d := d) rfl (by decide) hd) tw25 tw26 tw27 tw28 ⟨by decide, by decide⟩ (argsL := [(.ref s), (.int (7 : Int32)), (.int p), (.int d)]) (S' := [(.int (7 : Int32)), (.ref a1)]) (lenOf pd5 rfl) rfl rfl d0_342 rfl (W := 2) rfl ⟨by decide, by decide, rfl, rfl, by decide, by decide⟩ fun v16 h16 q16 => ?_
  obtain ⟨rfl, rfl⟩ := q16
  show Go B n0 _ h15 3 55 345 #[(.val (.int i0)), (.val (.int i1)), (.val (.int i2)), (.val (.int i3)), (.val (.int bb)), (.val (.int op)), (.val (.ref s)), (.val (.ref base)), (.val (.int L)), (.val (.int d)), (.val (.int (11 : Int32))), (.val (.int p)), (.val ev), (.val (.ref a1)), .unset] [(.int (ff ss d p 7)), (.int (7 : Int32)), (.ref a1)]
  obtain ⟨c17, A17, q17, z17, y17, H17, G17⟩ := id V15
  refine iCastore C A17 (inb_of z17 ⟨by decide, by decide⟩) n_a1 d0_345 fun h17 W17 => ?_
  have V17 : Arv Z h17 a1 k1 .char (11 : Int32) [(.int (nar .char (ff ss d p 0))), (.int (nar .char (ff ss d p 1))), (.int (nar .char (ff ss d p 2))), (.int (nar .char (ff ss d p 3))), (.int (nar .char (ff ss d p 4))), (.int (nar .char (ff ss d p 5))), (.int (nar .char (ff ss d p 6))), (.int (nar .char (ff ss d p 7))), (.int 0), (.int 0), (.int 0)] (.int 0) := Arv.set A17 q17 z17 y17 H17 G17 (fits_nar_char _) W17 7 (by decide) (Nat.le_of_ble_eq_true rfl)
  have O17 := O15.wr W17 n_a1
  refine iIload C d0_346 rfl ?_
  refine iBipush C d0_348 (v := (8 : Int32)) (by decide) ?_
  refine iCmpF C d0_350 (by decide) ?_
  refine iAload C d0_353 rfl rfl ?_
  refine iBipush C d0_355 (v := (8 : Int32)) (by decide) ?_
  refine iAload C d0_357 rfl rfl ?_
  refine iBipush C d0_359 (v := (8 : Int32)) (by decide) ?_
  refine iIload C d0_361 rfl ?_
  refine iIload C d0_363 rfl ?_
  refine iCallS C (rmA hw O17 S0 hz0 S1 rf ⟨(((((((((HS.1.ext E1).wr W3).wr W5).wr W7).wr W9).wr W11).wr W13).wr W15).wr W17), (((((((((HS.2.1.ext E1).other W3 (Or.inl (oNe HS.1.lt (Nat.le_of_eq g1.symm)))).other W5 (Or.inl (oNe HS.1.lt (Nat.le_of_eq g1.symm)))).other W7 (Or.inl (oNe HS.1.lt (Nat.le_of_eq g1.symm)))).other W9 (Or.inl (oNe HS.1.lt (Nat.le_of_eq g1.symm)))).other W11 (Or.inl (oNe HS.1.lt (Nat.le_of_eq g1.symm)))).other W13 (Or.inl (oNe HS.1.lt (Nat.le_of_eq g1.symm)))).other W15 (Or.inl (oNe HS.1.lt (Nat.le_of_eq g1.symm)))).other W17 (Or.inl (oNe HS.1.lt (Nat.le_of_eq g1.symm)))), (((((((((HS.2.2.1.ext E1).other W3 (Or.inl (oNe HS.1.lt (Nat.le_of_eq g1.symm)))).other W5 (Or.inl (oNe HS.1.lt (Nat.le_of_eq g1.symm)))).other W7 (Or.inl (oNe HS.1.lt (Nat.le_of_eq g1.symm)))).other W9 (Or.inl (oNe HS.1.lt (Nat.le_of_eq g1.symm)))).other W11 (Or.inl (oNe HS.1.lt (Nat.le_of_eq g1.symm)))).other W13 (Or.inl (oNe HS.1.lt (Nat.le_of_eq g1.symm)))).other W15 (Or.inl (oNe HS.1.lt (Nat.le_of_eq g1.symm)))).other W17 (Or.inl (oNe HS.1.lt (Nat.le_of_eq g1.symm)))), (((((((((HS.2.2.2.1.ext E1).other W3 (oNe HS.2.2.2.1.lt (Nat.le_of_eq g1.symm))).other W5 (oNe HS.2.2.2.1.lt (Nat.le_of_eq g1.symm))).other W7 (oNe HS.2.2.2.1.lt (Nat.le_of_eq g1.symm))).other W9 (oNe HS.2.2.2.1.lt (Nat.le_of_eq g1.symm))).other W11 (oNe HS.2.2.2.1.lt (Nat.le_of_eq g1.symm))).other W13 (oNe HS.2.2.2.1.lt (Nat.le_of_eq g1.symm))).other W15 (oNe HS.2.2.2.1.lt (Nat.le_of_eq g1.symm))).other W17 (oNe HS.2.2.2.1.lt (Nat.le_of_eq g1.symm))), HS.2.2.2.2.1, HS.2.2.2.2.2⟩ (i := (8 : Int32)) (iN := 8) (p := p) (d := d) rfl (by decide) hd) tw25 tw26 tw27 tw28 ⟨by decide, by decide⟩ (argsL := [(.ref s), (.int (8 : Int32)), (.int p), (.int d)]) (S' := [(.int (8 : Int32)), (.ref a1)]) (lenOf pd5 rfl) rfl rfl d0_365 rfl (W := 2) rfl ⟨by decide, by decide, rfl, rfl, by decide, by decide⟩ fun v18 h18 q18 => ?_
  obtain ⟨rfl, rfl⟩ := q18
  show Go B n0 _ h17 3 55 368 #[(.val (.int i0)), (.val (.int i1)), (.val (.int i2)), (.val (.int i3)), (.val (.int bb)), (.val (.int op)), (.val (.ref s)), (.val (.ref base)), (.val (.int L)), (.val (.int d)), (.val (.int (11 : Int32))), (.val (.int p)), (.val ev), (.val (.ref a1)), .unset] [(.int (ff ss d p 8)), (.int (8 : Int32)), (.ref a1)]
  obtain ⟨c19, A19, q19, z19, y19, H19, G19⟩ := id V17
  refine iCastore C A19 (inb_of z19 ⟨by decide, by decide⟩) n_a1 d0_368 fun h19 W19 => ?_
  have V19 : Arv Z h19 a1 k1 .char (11 : Int32) [(.int (nar .char (ff ss d p 0))), (.int (nar .char (ff ss d p 1))), (.int (nar .char (ff ss d p 2))), (.int (nar .char (ff ss d p 3))), (.int (nar .char (ff ss d p 4))), (.int (nar .char (ff ss d p 5))), (.int (nar .char (ff ss d p 6))), (.int (nar .char (ff ss d p 7))), (.int (nar .char (ff ss d p 8))), (.int 0), (.int 0)] (.int 0) := Arv.set A19 q19 z19 y19 H19 G19 (fits_nar_char _) W19 8 (by decide) (Nat.le_of_ble_eq_true rfl)
  have O19 := O17.wr W19 n_a1
  refine iIload C d0_369 rfl ?_
  refine iBipush C d0_371 (v := (9 : Int32)) (by decide) ?_
  refine iCmpF C d0_373 (by decide) ?_
  refine iAload C d0_376 rfl rfl ?_
  refine iBipush C d0_378 (v := (9 : Int32)) (by decide) ?_
  refine iAload C d0_380 rfl rfl ?_
  refine iBipush C d0_382 (v := (9 : Int32)) (by decide) ?_
  refine iIload C d0_384 rfl ?_
  refine iIload C d0_386 rfl ?_
  refine iCallS C (rmA hw O19 S0 hz0 S1 rf ⟨((((((((((HS.1.ext E1).wr W3).wr W5).wr W7).wr W9).wr W11).wr W13).wr W15).wr W17).wr W19), ((((((((((HS.2.1.ext E1).other W3 (Or.inl (oNe HS.1.lt (Nat.le_of_eq g1.symm)))).other W5 (Or.inl (oNe HS.1.lt (Nat.le_of_eq g1.symm)))).other W7 (Or.inl (oNe HS.1.lt (Nat.le_of_eq g1.symm)))).other W9 (Or.inl (oNe HS.1.lt (Nat.le_of_eq g1.symm)))).other W11 (Or.inl (oNe HS.1.lt (Nat.le_of_eq g1.symm)))).other W13 (Or.inl (oNe HS.1.lt (Nat.le_of_eq g1.symm)))).other W15 (Or.inl (oNe HS.1.lt (Nat.le_of_eq g1.symm)))).other W17 (Or.inl (oNe HS.1.lt (Nat.le_of_eq g1.symm)))).other W19 (Or.inl (oNe HS.1.lt (Nat.le_of_eq g1.symm)))), ((((((((((HS.2.2.1.ext E1).other W3 (Or.inl (oNe HS.1.lt (Nat.le_of_eq g1.symm)))).other W5 (Or.inl (oNe HS.1.lt (Nat.le_of_eq g1.symm)))).other W7 (Or.inl (oNe HS.1.lt (Nat.le_of_eq g1.symm)))).other W9 (Or.inl (oNe HS.1.lt (Nat.le_of_eq g1.symm)))).other W11 (Or.inl (oNe HS.1.lt (Nat.le_of_eq g1.symm)))).other W13 (Or.inl (oNe HS.1.lt (Nat.le_of_eq g1.symm)))).other W15 (Or.inl (oNe HS.1.lt (Nat.le_of_eq g1.symm)))).other W17 (Or.inl (oNe HS.1.lt (Nat.le_of_eq g1.symm)))).other W19 (Or.inl (oNe HS.1.lt (Nat.le_of_eq g1.symm)))), ((((((((((HS.2.2.2.1.ext E1).other W3 (oNe HS.2.2.2.1.lt (Nat.le_of_eq g1.symm))).other W5 (oNe HS.2.2.2.1.lt (Nat.le_of_eq g1.symm))).other W7 (oNe HS.2.2.2.1.lt (Nat.le_of_eq g1.symm))).other W9 (oNe HS.2.2.2.1.lt (Nat.le_of_eq g1.symm))).other W11 (oNe HS.2.2.2.1.lt (Nat.le_of_eq g1.symm))).other W13 (oNe HS.2.2.2.1.lt (Nat.le_of_eq g1.symm))).other W15 (oNe HS.2.2.2.1.lt (Nat.le_of_eq g1.symm))).other W17 (oNe HS.2.2.2.1.lt (Nat.le_of_eq g1.symm))).other W19 (oNe HS.2.2.2.1.lt (Nat.le_of_eq g1.symm))), HS.2.2.2.2.1, HS.2.2.2.2.2⟩ (i := (9 : Int32)) (iN := 9) (p := p) (d := d) rfl (by decide) hd) tw25 tw26 tw27 tw28 ⟨by decide, by decide⟩ (argsL := [(.ref s), (.int (9 : Int32)), (.int p), (.int d)]) (S' := [(.int (9 : Int32)), (.ref a1)]) (lenOf pd5 rfl) rfl rfl d0_388 rfl (W := 2) rfl ⟨by decide, by decide, rfl, rfl, by decide, by decide⟩ fun v20 h20 q20 => ?_
  obtain ⟨rfl, rfl⟩ := q20
  show Go B n0 _ h19 3 55 391 #[(.val (.int i0)), (.val (.int i1)), (.val (.int i2)), (.val (.int i3)), (.val (.int bb)), (.val (.int op)), (.val (.ref s)), (.val (.ref base)), (.val (.int L)), (.val (.int d)), (.val (.int (11 : Int32))), (.val (.int p)), (.val ev), (.val (.ref a1)), .unset] [(.int (ff ss d p 9)), (.int (9 : Int32)), (.ref a1)]
  obtain ⟨c21, A21, q21, z21, y21, H21, G21⟩ := id V19
  refine iCastore C A21 (inb_of z21 ⟨by decide, by decide⟩) n_a1 d0_391 fun h21 W21 => ?_
  have V21 : Arv Z h21 a1 k1 .char (11 : Int32) [(.int (nar .char (ff ss d p 0))), (.int (nar .char (ff ss d p 1))), (.int (nar .char (ff ss d p 2))), (.int (nar .char (ff ss d p 3))), (.int (nar .char (ff ss d p 4))), (.int (nar .char (ff ss d p 5))), (.int (nar .char (ff ss d p 6))), (.int (nar .char (ff ss d p 7))), (.int (nar .char (ff ss d p 8))), (.int (nar .char (ff ss d p 9))), (.int 0)] (.int 0) := Arv.set A21 q21 z21 y21 H21 G21 (fits_nar_char _) W21 9 (by decide) (Nat.le_of_ble_eq_true rfl)
  have O21 := O19.wr W21 n_a1
  refine iIload C d0_392 rfl ?_
  refine iBipush C d0_394 (v := (10 : Int32)) (by decide) ?_
  refine iCmpF C d0_396 (by decide) ?_
  refine iAload C d0_399 rfl rfl ?_
  refine iBipush C d0_401 (v := (10 : Int32)) (by decide) ?_
  refine iAload C d0_403 rfl rfl ?_
  refine iBipush C d0_405 (v := (10 : Int32)) (by decide) ?_
  refine iIload C d0_407 rfl ?_
  refine iIload C d0_409 rfl ?_
  refine iCallS C (rmA hw O21 S0 hz0 S1 rf ⟨(((((((((((HS.1.ext E1).wr W3).wr W5).wr W7).wr W9).wr W11).wr W13).wr W15).wr W17).wr W19).wr W21), (((((((((((HS.2.1.ext E1).other W3 (Or.inl (oNe HS.1.lt (Nat.le_of_eq g1.symm)))).other W5 (Or.inl (oNe HS.1.lt (Nat.le_of_eq g1.symm)))).other W7 (Or.inl (oNe HS.1.lt (Nat.le_of_eq g1.symm)))).other W9 (Or.inl (oNe HS.1.lt (Nat.le_of_eq g1.symm)))).other W11 (Or.inl (oNe HS.1.lt (Nat.le_of_eq g1.symm)))).other W13 (Or.inl (oNe HS.1.lt (Nat.le_of_eq g1.symm)))).other W15 (Or.inl (oNe HS.1.lt (Nat.le_of_eq g1.symm)))).other W17 (Or.inl (oNe HS.1.lt (Nat.le_of_eq g1.symm)))).other W19 (Or.inl (oNe HS.1.lt (Nat.le_of_eq g1.symm)))).other W21 (Or.inl (oNe HS.1.lt (Nat.le_of_eq g1.symm)))), (((((((((((HS.2.2.1.ext E1).other W3 (Or.inl (oNe HS.1.lt (Nat.le_of_eq g1.symm)))).other W5 (Or.inl (oNe HS.1.lt (Nat.le_of_eq g1.symm)))).other W7 (Or.inl (oNe HS.1.lt (Nat.le_of_eq g1.symm)))).other W9 (Or.inl (oNe HS.1.lt (Nat.le_of_eq g1.symm)))).other W11 (Or.inl (oNe HS.1.lt (Nat.le_of_eq g1.symm)))).other W13 (Or.inl (oNe HS.1.lt (Nat.le_of_eq g1.symm)))).other W15 (Or.inl (oNe HS.1.lt (Nat.le_of_eq g1.symm)))).other W17 (Or.inl (oNe HS.1.lt (Nat.le_of_eq g1.symm)))).other W19 (Or.inl (oNe HS.1.lt (Nat.le_of_eq g1.symm)))).other W21 (Or.inl (oNe HS.1.lt (Nat.le_of_eq g1.symm)))), (((((((((((HS.2.2.2.1.ext E1).other W3 (oNe HS.2.2.2.1.lt (Nat.le_of_eq g1.symm))).other W5 (oNe HS.2.2.2.1.lt (Nat.le_of_eq g1.symm))).other W7 (oNe HS.2.2.2.1.lt (Nat.le_of_eq g1.symm))).other W9 (oNe HS.2.2.2.1.lt (Nat.le_of_eq g1.symm))).other W11 (oNe HS.2.2.2.1.lt (Nat.le_of_eq g1.symm))).other W13 (oNe HS.2.2.2.1.lt (Nat.le_of_eq g1.symm))).other W15 (oNe HS.2.2.2.1.lt (Nat.le_of_eq g1.symm))).other W17 (oNe HS.2.2.2.1.lt (Nat.le_of_eq g1.symm))).other W19 (oNe HS.2.2.2.1.lt (Nat.le_of_eq g1.symm))).other W21 (oNe HS.2.2.2.1.lt (Nat.le_of_eq g1.symm))), HS.2.2.2.2.1, HS.2.2.2.2.2⟩ (i := (10 : Int32)) (iN := 10) (p := p) (d := d) rfl (by decide) hd) tw25 tw26 tw27 tw28 ⟨by decide, by decide⟩ (argsL := [(.ref s), (.int (10 : Int32)), (.int p), (.int d)]) (S' := [(.int (10 : Int32)), (.ref a1)]) (lenOf pd5 rfl) rfl rfl d0_411 rfl (W := 2) rfl ⟨by decide, by decide, rfl, rfl, by decide, by decide⟩ fun v22 h22 q22 => ?_
  obtain ⟨rfl, rfl⟩ := q22
  show Go B n0 _ h21 3 55 414 #[(.val (.int i0)), (.val (.int i1)), (.val (.int i2)), (.val (.int i3)), (.val (.int bb)), (.val (.int op)), (.val (.ref s)), (.val (.ref base)), (.val (.int L)), (.val (.int d)), (.val (.int (11 : Int32))), (.val (.int p)), (.val ev), (.val (.ref a1)), .unset] [(.int (ff ss d p 10)), (.int (10 : Int32)), (.ref a1)]
  obtain ⟨c23, A23, q23, z23, y23, H23, G23⟩ := id V21
  refine iCastore C A23 (inb_of z23 ⟨by decide, by decide⟩) n_a1 d0_414 fun h23 W23 => ?_
  have V23 : Arv Z h23 a1 k1 .char (11 : Int32) [(.int (nar .char (ff ss d p 0))), (.int (nar .char (ff ss d p 1))), (.int (nar .char (ff ss d p 2))), (.int (nar .char (ff ss d p 3))), (.int (nar .char (ff ss d p 4))), (.int (nar .char (ff ss d p 5))), (.int (nar .char (ff ss d p 6))), (.int (nar .char (ff ss d p 7))), (.int (nar .char (ff ss d p 8))), (.int (nar .char (ff ss d p 9))), (.int (nar .char (ff ss d p 10)))] (.int 0) := Arv.set A23 q23 z23 y23 H23 G23 (fits_nar_char _) W23 10 (by decide) (Nat.le_of_ble_eq_true rfl)
  have O23 := O21.wr W23 n_a1
  refine iNew C tw51 tw2 tw1 d0_415 ⟨rfl, rfl, by decide, by decide⟩ fun h24 a24 g24 E24 A24 D24 => ?_
  have n_a24 : n0 ≤ a24 := oFresh O23 g24
  have O24 := O23.ext E24
  have F24_value : Fld Z h24 a24 "java/lang/String" "value" "[B" .null := D24 (Or.inr (hw _ tw4)) (ty := (.array .byte)) (by decide)
  have F24_coder : Fld Z h24 a24 "java/lang/String" "coder" "B" (.int (0 : Int32)) := D24 (Or.inr (hw _ tw5)) (ty := .byte) (by decide)
  refine iDup C d0_418 rfl ?_
  refine iAload C d0_419 rfl rfl ?_
  have K25 : Arv Z h24 a1 k1 .char (11 : Int32) (List.map Value.int [ff ss d p 0, ff ss d p 1, ff ss d p 2, ff ss d p 3, ff ss d p 4, ff ss d p 5, ff ss d p 6, ff ss d p 7, ff ss d p 8, ff ss d p 9, ff ss d p 10]) (.int 0) := by
    have q := (V23.ext E24)
    simpa only [hnf, List.map] using q
  have P25 : ∀ c ∈ [ff ss d p 0, ff ss d p 1, ff ss d p 2, ff ss d p 3, ff ss d p 4, ff ss d p 5, ff ss d p 6, ff ss d p 7, ff ss d p 8, ff ss d p 9, ff ss d p 10], ¬ c < 0 ∧ ¬ (255 : Int32) < c := by
    intro c hc
    simp only [List.mem_cons, List.not_mem_nil, or_false] at hc
    rcases hc with rfl | rfl | rfl | rfl | rfl | rfl | rfl | rfl | rfl | rfl | rfl <;> exact own_ff hd HS.2.2.2.2.2 _
  refine iCallIB C (a := a24) (payStr hw n_a24 O24 A24 F24_value F24_coder K25 (S0.ext O24.2) hz0 (n := 11) rfl rfl (by decide) (by decide) P25 (by decide) (by decide)) rfl tw52 tw53 tw54 ⟨by decide, by decide⟩ (argsL := [(.ref a1)]) (S' := [(.ref a24)]) (lenOf pd6 rfl) rfl rfl d0_421 rfl (W := 1) rfl ⟨rfl, rfl, by decide, by decide⟩ fun v26 h26 q26 => ?_
  obtain ⟨rfl, K_26, t_26, k_26, sx_26⟩ := q26
  have O26 := O24.keep K_26 (allS n_a24 all0)
  show Go B n0 _ h26 5 70 424 #[(.val (.int i0)), (.val (.int i1)), (.val (.int i2)), (.val (.int i3)), (.val (.int bb)), (.val (.int op)), (.val (.ref s)), (.val (.ref base)), (.val (.int L)), (.val (.int d)), (.val (.int (11 : Int32))), (.val (.int p)), (.val ev), (.val (.ref a1)), .unset] [(.ref a24)]
  refine iAstore C d0_424 (Ls' := #[(.val (.int i0)), (.val (.int i1)), (.val (.int i2)), (.val (.int i3)), (.val (.int bb)), (.val (.int op)), (.val (.ref s)), (.val (.ref base)), (.val (.int L)), (.val (.int d)), (.val (.int (11 : Int32))), (.val (.int p)), (.val ev), (.val (.ref a1)), (.val (.ref a24))]) rfl rfl ?_
  refine iAload C d0_426 rfl rfl ?_
  refine iCallS C (rmN hw G O26 FV hcap S0 hz0 SI SW sx_26) tw72 tw73 tw9 tw74 ⟨by decide, by decide⟩ (argsL := [(.ref a24)]) (S' := []) (lenOf pd7 rfl) rfl rfl d0_428 rfl (W := 0) rfl ⟨by decide, by decide, rfl, rfl, by decide, by decide⟩ fun v27 h27 q27 => ?_
  obtain ⟨rfl, E27⟩ := q27
  show Go B n0 _ h27 6 72 431 #[(.val (.int i0)), (.val (.int i1)), (.val (.int i2)), (.val (.int i3)), (.val (.int bb)), (.val (.int op)), (.val (.ref s)), (.val (.ref base)), (.val (.int L)), (.val (.int d)), (.val (.int (11 : Int32))), (.val (.int p)), (.val ev), (.val (.ref a1)), (.val (.ref a24))] [(pk ga1 ga3 [ff ss d p 0, ff ss d p 1, ff ss d p 2, ff ss d p 3, ff ss d p 4, ff ss d p 5, ff ss d p 6, ff ss d p 7, ff ss d p 8, ff ss d p 9, ff ss d p 10])]
  rw [hE]
  rcases hev with rfl | ⟨ra, rfl⟩
  · refine iAload C d0_431 rfl rfl ?_
    refine iAcmpF C d0_433 rfl rfl (acE rfl).2 ?_
    refine iIconst C d0_436 (v := (1 : Int32)) (by decide) ?_
    refine iGoto C (t := 441) d0_437 ⟨by decide, by decide⟩ ?_
    refine iRetZ C d0_441 (by simp) ⟨Nat.le_refl _, by decide, by decide⟩ ?_
    exact rfl
  · refine iAload C d0_431 rfl rfl ?_
    refine iAcmpF C d0_433 rfl rfl (acE rfl).2 ?_
    refine iIconst C d0_436 (v := (1 : Int32)) (by decide) ?_
    refine iGoto C (t := 441) d0_437 ⟨by decide, by decide⟩ ?_
    refine iRetZ C d0_441 (by simp) ⟨Nat.le_refl _, by decide, by decide⟩ ?_
    exact rfl
set_option maxRecDepth 65536 in
set_option maxHeartbeats 4000000 in
theorem tl0i {l : Launch} {Z : State} {a0 : Array Value} (hw : ∀ d ∈ tables_1, d.before a0 Z = true) {n0 : Nat} {h0 : Heap} {ga1 ga2 ga3 ga4 ga5 ga6 ga7 : Addr} {gc2 gc5 gc7 : Cell} (G : GG Z ga1 ga2 ga3 ga4 ga5 ga6 ga7 gc2 gc5 gc7) (O : Old Z n0 h0) (FV : FitC Z gc2) (hcap : gc2.slots.size ≤ 2) {z0 : Int32} (S0 : Sta Z Z.heap "java/lang/String" "COMPACT_STRINGS" "Z" (.int z0)) (hz0 : ¬ z0 = 0) (SI : SX Z Z.heap ga4 ga5 gc5.cls SINJ) (SW : SX Z Z.heap ga6 ga7 gc7.cls SWD) {fm : Value} (S1 : Sta Z Z.heap "jdk/internal/util/Preconditions" "SIOOBE_FORMATTER" "Ljava/util/function/BiFunction;" fm) (rf : fm.isRef = true) (hcw : Jvm.Lit.compactW.before a0 Z = true) (hhE : Jvm.Lit.constHeld Z "java/lang/String" 7) {i0 i1 i2 i3 bb op L d p : Int32} {s base t : Addr} {k : ClassId} {ss : List Int32} {ev : Value} (HS : SX Z h0 s t k ss) (hd : ¬ d < 0 ∧ ¬ (255 : Int32) < d) (hev : ev = .null ∨ ∃ a, ev = .ref a) (hE : pk ga1 ga3 SEMP = ev) {B : Bx} (C : Cx B l Z a0 room_1 x code maxLocals ret n0) (D : Wx B Z n0 ["injection"] ["injection", "withdrawal", ""]) :
    Go B n0 (fun v _ => v = some (.int 1)) h0 2 44 175 #[(.val (.int i0)), (.val (.int i1)), (.val (.int i2)), (.val (.int i3)), (.val (.int bb)), (.val (.int op)), (.val (.ref s)), (.val (.ref base)), (.val (.int L)), (.val (.int d)), (.val (.int (0 : Int32))), (.val (.int p)), (.val ev), .unset, .unset] [] := by
  have hrf : ev.isRef = true := by rcases hev with rfl | ⟨a, rfl⟩ <;> rfl
  have hnf : ∀ i, nar .char (ff ss d p i) = ff ss d p i := fun i => own_nar (own_ff hd HS.2.2.2.2.2 i)
  refine iIload C d0_175 rfl ?_
  refine iNewP C (aty := .char) tw24 d0_177 (by decide) (cap := 0) (by decide) (by decide) ⟨rfl, rfl, by decide, by decide⟩ fun h1 a1 k1 g1 E1 V1 => ?_
  have n_a1 : n0 ≤ a1 := oFresh O g1
  have O1 := O.ext E1
  have V1 : Arv Z h1 a1 k1 .char (0 : Int32) [] (.int 0) := V1.pad (pad_rep [] (.int 0) 0)
  refine iAstore C d0_179 (Ls' := #[(.val (.int i0)), (.val (.int i1)), (.val (.int i2)), (.val (.int i3)), (.val (.int bb)), (.val (.int op)), (.val (.ref s)), (.val (.ref base)), (.val (.int L)), (.val (.int d)), (.val (.int (0 : Int32))), (.val (.int p)), (.val ev), (.val (.ref a1)), .unset]) rfl rfl ?_
  refine iIload C d0_181 rfl ?_
  refine iIfT C (t := 200) d0_183 (by decide) ⟨by decide, by decide⟩ ?_
  refine iIload C d0_200 rfl ?_
  refine iIconst C d0_202 (v := (1 : Int32)) (by decide) ?_
  refine iCmpT C (t := 220) d0_203 (by decide) ⟨by decide, by decide⟩ ?_
  refine iIload C d0_220 rfl ?_
  refine iIconst C d0_222 (v := (2 : Int32)) (by decide) ?_
  refine iCmpT C (t := 240) d0_223 (by decide) ⟨by decide, by decide⟩ ?_
  refine iIload C d0_240 rfl ?_
  refine iIconst C d0_242 (v := (3 : Int32)) (by decide) ?_
  refine iCmpT C (t := 260) d0_243 (by decide) ⟨by decide, by decide⟩ ?_
  refine iIload C d0_260 rfl ?_
  refine iIconst C d0_262 (v := (4 : Int32)) (by decide) ?_
  refine iCmpT C (t := 280) d0_263 (by decide) ⟨by decide, by decide⟩ ?_
  refine iIload C d0_280 rfl ?_
  refine iIconst C d0_282 (v := (5 : Int32)) (by decide) ?_
  refine iCmpT C (t := 300) d0_283 (by decide) ⟨by decide, by decide⟩ ?_
  refine iIload C d0_300 rfl ?_
  refine iBipush C d0_302 (v := (6 : Int32)) (by decide) ?_
  refine iCmpT C (t := 323) d0_304 (by decide) ⟨by decide, by decide⟩ ?_
  refine iIload C d0_323 rfl ?_
  refine iBipush C d0_325 (v := (7 : Int32)) (by decide) ?_
  refine iCmpT C (t := 346) d0_327 (by decide) ⟨by decide, by decide⟩ ?_
  refine iIload C d0_346 rfl ?_
  refine iBipush C d0_348 (v := (8 : Int32)) (by decide) ?_
  refine iCmpT C (t := 369) d0_350 (by decide) ⟨by decide, by decide⟩ ?_
  refine iIload C d0_369 rfl ?_
  refine iBipush C d0_371 (v := (9 : Int32)) (by decide) ?_
  refine iCmpT C (t := 392) d0_373 (by decide) ⟨by decide, by decide⟩ ?_
  refine iIload C d0_392 rfl ?_
  refine iBipush C d0_394 (v := (10 : Int32)) (by decide) ?_
  refine iCmpT C (t := 415) d0_396 (by decide) ⟨by decide, by decide⟩ ?_
  refine iNew C tw51 tw2 tw1 d0_415 ⟨rfl, rfl, by decide, by decide⟩ fun h2 a2 g2 E2 A2 D2 => ?_
  have n_a2 : n0 ≤ a2 := oFresh O1 g2
  have O2 := O1.ext E2
  have F2_value : Fld Z h2 a2 "java/lang/String" "value" "[B" .null := D2 (Or.inr (hw _ tw4)) (ty := (.array .byte)) (by decide)
  have F2_coder : Fld Z h2 a2 "java/lang/String" "coder" "B" (.int (0 : Int32)) := D2 (Or.inr (hw _ tw5)) (ty := .byte) (by decide)
  refine iDup C d0_418 rfl ?_
  refine iAload C d0_419 rfl rfl ?_
  refine iCallIW (cr := none) C D (rmE1i hw a2 a1 O2 n_a2 A2 F2_value F2_coder hcw hhE (V1.ext E2)) (by simp) rfl tw52 tw53 tw1 tw54 ⟨by decide, by decide⟩ (a := a2) (argsL := [(.ref a1)]) (S' := [(.ref a2)]) (lenOf pd6 rfl) rfl rfl d0_421 rfl (W := 1) rfl ⟨by decide, by decide, rfl, rfl, by decide, by decide⟩ fun B v3 h3 C D Hf q3 => ?_
  obtain ⟨rfl, K_3, t_3, k_3, sx_3⟩ := q3
  have O3 := O2.keep K_3 (allS n_a2 all0)
  show Go B n0 _ h3 6 52 424 #[(.val (.int i0)), (.val (.int i1)), (.val (.int i2)), (.val (.int i3)), (.val (.int bb)), (.val (.int op)), (.val (.ref s)), (.val (.ref base)), (.val (.int L)), (.val (.int d)), (.val (.int (0 : Int32))), (.val (.int p)), (.val ev), (.val (.ref a1)), .unset] [(.ref a2)]
  refine iAstore C d0_424 (Ls' := #[(.val (.int i0)), (.val (.int i1)), (.val (.int i2)), (.val (.int i3)), (.val (.int bb)), (.val (.int op)), (.val (.ref s)), (.val (.ref base)), (.val (.int L)), (.val (.int d)), (.val (.int (0 : Int32))), (.val (.int p)), (.val ev), (.val (.ref a1)), (.val (.ref a2))]) rfl rfl ?_
  refine iAload C d0_426 rfl rfl ?_
  refine iCallS C (rmN hw G O3 FV hcap S0 hz0 SI SW sx_3) tw72 tw73 tw9 tw74 ⟨by decide, by decide⟩ (argsL := [(.ref a2)]) (S' := []) (lenOf pd7 rfl) rfl rfl d0_428 rfl (W := 0) rfl ⟨by decide, by decide, rfl, rfl, by decide, by decide⟩ fun v4 h4 q4 => ?_
  obtain ⟨rfl, E4⟩ := q4
  show Go B n0 _ h4 7 54 431 #[(.val (.int i0)), (.val (.int i1)), (.val (.int i2)), (.val (.int i3)), (.val (.int bb)), (.val (.int op)), (.val (.ref s)), (.val (.ref base)), (.val (.int L)), (.val (.int d)), (.val (.int (0 : Int32))), (.val (.int p)), (.val ev), (.val (.ref a1)), (.val (.ref a2))] [(pk ga1 ga3 SEMP)]
  rw [hE]
  rcases hev with rfl | ⟨ra, rfl⟩
  · refine iAload C d0_431 rfl rfl ?_
    refine iAcmpF C d0_433 rfl rfl (acE rfl).2 ?_
    refine iIconst C d0_436 (v := (1 : Int32)) (by decide) ?_
    refine iGoto C (t := 441) d0_437 ⟨by decide, by decide⟩ ?_
    refine iRetZ C d0_441 (by simp) ⟨Nat.le_refl _, by decide, by decide⟩ ?_
    exact rfl
  · refine iAload C d0_431 rfl rfl ?_
    refine iAcmpF C d0_433 rfl rfl (acE rfl).2 ?_
    refine iIconst C d0_436 (v := (1 : Int32)) (by decide) ?_
    refine iGoto C (t := 441) d0_437 ⟨by decide, by decide⟩ ?_
    refine iRetZ C d0_441 (by simp) ⟨Nat.le_refl _, by decide, by decide⟩ ?_
    exact rfl
set_option maxRecDepth 65536 in
set_option maxHeartbeats 4000000 in
theorem tl0w {l : Launch} {Z : State} {a0 : Array Value} (hw : ∀ d ∈ tables_1, d.before a0 Z = true) {n0 : Nat} {h0 : Heap} {ga1 ga2 ga3 ga4 ga5 ga6 ga7 : Addr} {gc2 gc5 gc7 : Cell} (G : GG Z ga1 ga2 ga3 ga4 ga5 ga6 ga7 gc2 gc5 gc7) (O : Old Z n0 h0) (FV : FitC Z gc2) (hcap : gc2.slots.size ≤ 2) {z0 : Int32} (S0 : Sta Z Z.heap "java/lang/String" "COMPACT_STRINGS" "Z" (.int z0)) (hz0 : ¬ z0 = 0) (SI : SX Z Z.heap ga4 ga5 gc5.cls SINJ) (SW : SX Z Z.heap ga6 ga7 gc7.cls SWD) {fm : Value} (S1 : Sta Z Z.heap "jdk/internal/util/Preconditions" "SIOOBE_FORMATTER" "Ljava/util/function/BiFunction;" fm) (rf : fm.isRef = true) (hcw : Jvm.Lit.compactW.before a0 Z = true) (hhE : Jvm.Lit.constHeld Z "java/lang/String" 7) {i0 i1 i2 i3 bb op L d p : Int32} {s base t : Addr} {k : ClassId} {ss : List Int32} {ev : Value} (HS : SX Z h0 s t k ss) (hd : ¬ d < 0 ∧ ¬ (255 : Int32) < d) (hev : ev = .null ∨ ∃ a, ev = .ref a) (hE : pk ga1 ga3 SEMP = ev) {B : Bx} (C : Cx B l Z a0 room_1 x code maxLocals ret n0) (D : Wx B Z n0 ["withdrawal"] ["injection", "withdrawal", ""]) :
    Go B n0 (fun v _ => v = some (.int 1)) h0 2 44 175 #[(.val (.int i0)), (.val (.int i1)), (.val (.int i2)), (.val (.int i3)), (.val (.int bb)), (.val (.int op)), (.val (.ref s)), (.val (.ref base)), (.val (.int L)), (.val (.int d)), (.val (.int (0 : Int32))), (.val (.int p)), (.val ev), .unset, .unset] [] := by
  have hrf : ev.isRef = true := by rcases hev with rfl | ⟨a, rfl⟩ <;> rfl
  have hnf : ∀ i, nar .char (ff ss d p i) = ff ss d p i := fun i => own_nar (own_ff hd HS.2.2.2.2.2 i)
  refine iIload C d0_175 rfl ?_
  refine iNewP C (aty := .char) tw24 d0_177 (by decide) (cap := 0) (by decide) (by decide) ⟨rfl, rfl, by decide, by decide⟩ fun h1 a1 k1 g1 E1 V1 => ?_
  have n_a1 : n0 ≤ a1 := oFresh O g1
  have O1 := O.ext E1
  have V1 : Arv Z h1 a1 k1 .char (0 : Int32) [] (.int 0) := V1.pad (pad_rep [] (.int 0) 0)
  refine iAstore C d0_179 (Ls' := #[(.val (.int i0)), (.val (.int i1)), (.val (.int i2)), (.val (.int i3)), (.val (.int bb)), (.val (.int op)), (.val (.ref s)), (.val (.ref base)), (.val (.int L)), (.val (.int d)), (.val (.int (0 : Int32))), (.val (.int p)), (.val ev), (.val (.ref a1)), .unset]) rfl rfl ?_
  refine iIload C d0_181 rfl ?_
  refine iIfT C (t := 200) d0_183 (by decide) ⟨by decide, by decide⟩ ?_
  refine iIload C d0_200 rfl ?_
  refine iIconst C d0_202 (v := (1 : Int32)) (by decide) ?_
  refine iCmpT C (t := 220) d0_203 (by decide) ⟨by decide, by decide⟩ ?_
  refine iIload C d0_220 rfl ?_
  refine iIconst C d0_222 (v := (2 : Int32)) (by decide) ?_
  refine iCmpT C (t := 240) d0_223 (by decide) ⟨by decide, by decide⟩ ?_
  refine iIload C d0_240 rfl ?_
  refine iIconst C d0_242 (v := (3 : Int32)) (by decide) ?_
  refine iCmpT C (t := 260) d0_243 (by decide) ⟨by decide, by decide⟩ ?_
  refine iIload C d0_260 rfl ?_
  refine iIconst C d0_262 (v := (4 : Int32)) (by decide) ?_
  refine iCmpT C (t := 280) d0_263 (by decide) ⟨by decide, by decide⟩ ?_
  refine iIload C d0_280 rfl ?_
  refine iIconst C d0_282 (v := (5 : Int32)) (by decide) ?_
  refine iCmpT C (t := 300) d0_283 (by decide) ⟨by decide, by decide⟩ ?_
  refine iIload C d0_300 rfl ?_
  refine iBipush C d0_302 (v := (6 : Int32)) (by decide) ?_
  refine iCmpT C (t := 323) d0_304 (by decide) ⟨by decide, by decide⟩ ?_
  refine iIload C d0_323 rfl ?_
  refine iBipush C d0_325 (v := (7 : Int32)) (by decide) ?_
  refine iCmpT C (t := 346) d0_327 (by decide) ⟨by decide, by decide⟩ ?_
  refine iIload C d0_346 rfl ?_
  refine iBipush C d0_348 (v := (8 : Int32)) (by decide) ?_
  refine iCmpT C (t := 369) d0_350 (by decide) ⟨by decide, by decide⟩ ?_
  refine iIload C d0_369 rfl ?_
  refine iBipush C d0_371 (v := (9 : Int32)) (by decide) ?_
  refine iCmpT C (t := 392) d0_373 (by decide) ⟨by decide, by decide⟩ ?_
  refine iIload C d0_392 rfl ?_
  refine iBipush C d0_394 (v := (10 : Int32)) (by decide) ?_
  refine iCmpT C (t := 415) d0_396 (by decide) ⟨by decide, by decide⟩ ?_
  refine iNew C tw51 tw2 tw1 d0_415 ⟨rfl, rfl, by decide, by decide⟩ fun h2 a2 g2 E2 A2 D2 => ?_
  have n_a2 : n0 ≤ a2 := oFresh O1 g2
  have O2 := O1.ext E2
  have F2_value : Fld Z h2 a2 "java/lang/String" "value" "[B" .null := D2 (Or.inr (hw _ tw4)) (ty := (.array .byte)) (by decide)
  have F2_coder : Fld Z h2 a2 "java/lang/String" "coder" "B" (.int (0 : Int32)) := D2 (Or.inr (hw _ tw5)) (ty := .byte) (by decide)
  refine iDup C d0_418 rfl ?_
  refine iAload C d0_419 rfl rfl ?_
  refine iCallIW (cr := none) C D (rmE1w hw a2 a1 O2 n_a2 A2 F2_value F2_coder hcw hhE (V1.ext E2)) (by simp) rfl tw52 tw53 tw1 tw54 ⟨by decide, by decide⟩ (a := a2) (argsL := [(.ref a1)]) (S' := [(.ref a2)]) (lenOf pd6 rfl) rfl rfl d0_421 rfl (W := 1) rfl ⟨by decide, by decide, rfl, rfl, by decide, by decide⟩ fun B v3 h3 C D Hf q3 => ?_
  obtain ⟨rfl, K_3, t_3, k_3, sx_3⟩ := q3
  have O3 := O2.keep K_3 (allS n_a2 all0)
  show Go B n0 _ h3 6 52 424 #[(.val (.int i0)), (.val (.int i1)), (.val (.int i2)), (.val (.int i3)), (.val (.int bb)), (.val (.int op)), (.val (.ref s)), (.val (.ref base)), (.val (.int L)), (.val (.int d)), (.val (.int (0 : Int32))), (.val (.int p)), (.val ev), (.val (.ref a1)), .unset] [(.ref a2)]
  refine iAstore C d0_424 (Ls' := #[(.val (.int i0)), (.val (.int i1)), (.val (.int i2)), (.val (.int i3)), (.val (.int bb)), (.val (.int op)), (.val (.ref s)), (.val (.ref base)), (.val (.int L)), (.val (.int d)), (.val (.int (0 : Int32))), (.val (.int p)), (.val ev), (.val (.ref a1)), (.val (.ref a2))]) rfl rfl ?_
  refine iAload C d0_426 rfl rfl ?_
  refine iCallS C (rmN hw G O3 FV hcap S0 hz0 SI SW sx_3) tw72 tw73 tw9 tw74 ⟨by decide, by decide⟩ (argsL := [(.ref a2)]) (S' := []) (lenOf pd7 rfl) rfl rfl d0_428 rfl (W := 0) rfl ⟨by decide, by decide, rfl, rfl, by decide, by decide⟩ fun v4 h4 q4 => ?_
  obtain ⟨rfl, E4⟩ := q4
  show Go B n0 _ h4 7 54 431 #[(.val (.int i0)), (.val (.int i1)), (.val (.int i2)), (.val (.int i3)), (.val (.int bb)), (.val (.int op)), (.val (.ref s)), (.val (.ref base)), (.val (.int L)), (.val (.int d)), (.val (.int (0 : Int32))), (.val (.int p)), (.val ev), (.val (.ref a1)), (.val (.ref a2))] [(pk ga1 ga3 SEMP)]
  rw [hE]
  rcases hev with rfl | ⟨ra, rfl⟩
  · refine iAload C d0_431 rfl rfl ?_
    refine iAcmpF C d0_433 rfl rfl (acE rfl).2 ?_
    refine iIconst C d0_436 (v := (1 : Int32)) (by decide) ?_
    refine iGoto C (t := 441) d0_437 ⟨by decide, by decide⟩ ?_
    refine iRetZ C d0_441 (by simp) ⟨Nat.le_refl _, by decide, by decide⟩ ?_
    exact rfl
  · refine iAload C d0_431 rfl rfl ?_
    refine iAcmpF C d0_433 rfl rfl (acE rfl).2 ?_
    refine iIconst C d0_436 (v := (1 : Int32)) (by decide) ?_
    refine iGoto C (t := 441) d0_437 ⟨by decide, by decide⟩ ?_
    refine iRetZ C d0_441 (by simp) ⟨Nat.le_refl _, by decide, by decide⟩ ?_
    exact rfl
theorem own_mod9 (p : Int32) : ((p &&& 2147483647) % 9) = 0 ∨ ((p &&& 2147483647) % 9) = 1 ∨ ((p &&& 2147483647) % 9) = 2 ∨ ((p &&& 2147483647) % 9) = 3 ∨ ((p &&& 2147483647) % 9) = 4 ∨ ((p &&& 2147483647) % 9) = 5 ∨ ((p &&& 2147483647) % 9) = 6 ∨ ((p &&& 2147483647) % 9) = 7 ∨ ((p &&& 2147483647) % 9) = 8 := by
  have e1 := c_mask p 2147483647 31 (by decide) (by decide)
  have e2 := (c_irem (p &&& 2147483647) 9 9 (by decide)).1 (by omega)
  simp only [← Int32.toInt_inj]
  have q0 : (0 : Int32).toInt = 0 := by decide
  have q1 : (1 : Int32).toInt = 1 := by decide
  have q2 : (2 : Int32).toInt = 2 := by decide
  have q3 : (3 : Int32).toInt = 3 := by decide
  have q4 : (4 : Int32).toInt = 4 := by decide
  have q5 : (5 : Int32).toInt = 5 := by decide
  have q6 : (6 : Int32).toInt = 6 := by decide
  have q7 : (7 : Int32).toInt = 7 := by decide
  have q8 : (8 : Int32).toInt = 8 := by decide
  omega
theorem own_mod10 (p : Int32) : ((p &&& 2147483647) % 10) = 0 ∨ ((p &&& 2147483647) % 10) = 1 ∨ ((p &&& 2147483647) % 10) = 2 ∨ ((p &&& 2147483647) % 10) = 3 ∨ ((p &&& 2147483647) % 10) = 4 ∨ ((p &&& 2147483647) % 10) = 5 ∨ ((p &&& 2147483647) % 10) = 6 ∨ ((p &&& 2147483647) % 10) = 7 ∨ ((p &&& 2147483647) % 10) = 8 ∨ ((p &&& 2147483647) % 10) = 9 := by
  have e1 := c_mask p 2147483647 31 (by decide) (by decide)
  have e2 := (c_irem (p &&& 2147483647) 10 10 (by decide)).1 (by omega)
  simp only [← Int32.toInt_inj]
  have q0 : (0 : Int32).toInt = 0 := by decide
  have q1 : (1 : Int32).toInt = 1 := by decide
  have q2 : (2 : Int32).toInt = 2 := by decide
  have q3 : (3 : Int32).toInt = 3 := by decide
  have q4 : (4 : Int32).toInt = 4 := by decide
  have q5 : (5 : Int32).toInt = 5 := by decide
  have q6 : (6 : Int32).toInt = 6 := by decide
  have q7 : (7 : Int32).toInt = 7 := by decide
  have q8 : (8 : Int32).toInt = 8 := by decide
  have q9 : (9 : Int32).toInt = 9 := by decide
  omega
theorem own_feq {ss : List Int32} {d p : Int32} {i : Nat} (q : Int32.ofNat i = p) : ff ss d p i = d := if_pos q
theorem own_fne {ss : List Int32} {d p : Int32} {i : Nat} (q : ¬ Int32.ofNat i = p) : ff ss d p i = ss.getD i 120 := if_neg q
theorem pk_no {gi gw : Addr} {ds : List Int32} (q1 : ¬ SINJ = ds) (q2 : ¬ SWD = ds) : pk gi gw ds = .null := by rw [pk, if_neg q1, if_neg q2]
theorem own_d (u : Int32) : ¬ ((u &&& (255 : Int32))).toUInt32.toUInt16.toUInt32.toInt32 < 0 ∧ ¬ (255 : Int32) < ((u &&& (255 : Int32))).toUInt32.toUInt16.toUInt32.toInt32 := by
  rw [i2c_mask]
  exact own_lat u
theorem ef_rm0 (m : MethodId) (x0 : Int32) (x1 : Int32) (x2 : Int32) (x3 : Int32) : entryFrame m #[(.int x0), (.int x1), (.int x2), (.int x3)] maxLocals = mkF m 0 #[(.val (.int x0)), (.val (.int x1)), (.val (.int x2)), (.val (.int x3)), .unset, .unset, .unset, .unset, .unset, .unset, .unset, .unset, .unset, .unset, .unset] [] := by first | (simp [entryFrame, mkF, argsToLocals, Value.category, maxLocals]; done) | rfl
set_option maxRecDepth 65536 in
set_option maxHeartbeats 4000000 in
theorem rm0 {l : Launch} {Z : State} {a0 : Array Value} (hw : ∀ d ∈ tables_1, d.before a0 Z = true) {n0 : Nat} {h0 : Heap} (i0 i1 i2 i3 : Int32) {ga1 ga2 ga3 ga4 ga5 ga6 ga7 : Addr} {gc2 gc5 gc7 : Cell} (G : GG Z ga1 ga2 ga3 ga4 ga5 ga6 ga7 gc2 gc5 gc7) (O : Old Z n0 h0) (FV : FitC Z gc2) (hcap : gc2.slots.size ≤ 2) {z0 : Int32} (S0 : Sta Z Z.heap "java/lang/String" "COMPACT_STRINGS" "Z" (.int z0)) (hz0 : ¬ z0 = 0) (SI : SX Z Z.heap ga4 ga5 gc5.cls SINJ) (SW : SX Z Z.heap ga6 ga7 gc7.cls SWD) {fm : Value} (S1 : Sta Z Z.heap "jdk/internal/util/Preconditions" "SIOOBE_FORMATTER" "Ljava/util/function/BiFunction;" fm) (rf : fm.isRef = true) (hcw : Jvm.Lit.compactW.before a0 Z = true) (hhE : Jvm.Lit.constHeld Z "java/lang/String" 7) (hhI : Jvm.Lit.constHeld Z "com/example/hedgeline/hedgeline/FlowNamedPinLaw" 17) (hhW : Jvm.Lit.constHeld Z "com/example/hedgeline/hedgeline/FlowNamedPinLaw" 19) (hkeep : ∀ (b : Addr) (cl : Cell), Z.heap[b]? = some cl → h0[b]? = some cl) (hn0 : n0 = h0.size) :
    PaysW l Z [] ["injection", "withdrawal", ""] x code maxLocals ret room_1 #[(.int i0), (.int i1), (.int i2), (.int i3)] n0 h0 (fun v _ => v = some (.int 1)) := by
  refine PaysW.at hw (plainFor_of_name pn0) (by simp) hkeep hn0 (fun m => ef_rm0 m i0 i1 i2 i3) fun B C D H => ?_
  refine iIloadN C d0_0 rfl ?_
  refine iIconst C d0_1 (v := (1 : Int32)) (by decide) ?_
  refine iIand C d0_2 rfl ?_
  refine iIstore C d0_3 (Ls' := #[(.val (.int i0)), (.val (.int i1)), (.val (.int i2)), (.val (.int i3)), (.val (.int (i0 &&& (1 : Int32)))), .unset, .unset, .unset, .unset, .unset, .unset, .unset, .unset, .unset, .unset]) rfl ?_
  refine iIloadN C d0_5 rfl ?_
  refine iIconst C d0_6 (v := (1 : Int32)) (by decide) ?_
  refine iIushr C d0_7 rfl ?_
  refine iBipush C d0_8 (v := (7 : Int32)) (by decide) ?_
  refine iIand C d0_10 rfl ?_
  refine iIstore C d0_11 (Ls' := #[(.val (.int i0)), (.val (.int i1)), (.val (.int i2)), (.val (.int i3)), (.val (.int (i0 &&& (1 : Int32)))), (.val (.int (((i0).toUInt32 >>> ((1 : Int32) &&& 31).toUInt32).toInt32 &&& (7 : Int32)))), .unset, .unset, .unset, .unset, .unset, .unset, .unset, .unset, .unset]) rfl ?_
  generalize (i0 &&& (1 : Int32)) = bb
  generalize (((i0).toUInt32 >>> ((1 : Int32) &&& 31).toUInt32).toInt32 &&& (7 : Int32)) = op
  refine iIload C d0_13 rfl ?_
  by_cases hc1 : bb = (0 : Int32)
  · refine iIfF C d0_15 ((if0 _ _).trans (teq hc1).2) ?_
    refine iLdcS C D H (z := Int32.ofNat SINJ.length) (vs := (SINJ.map lo8).map Value.int) (nn := 40) tw0 own_wS hhI hcw (by simp) (by simp) ⟨by decide, by decide⟩ (by decide) (by decide) d0_18 (by decide) (by decide) ⟨rfl, rfl, by decide, by decide⟩ fun B h2 a2 t2 k2 C D H Bk2 E2 A2 Fc2 Fv2 V2 => ?_
    have O2 := O.ext E2
    refine iGoto C (t := 25) d0_20 ⟨by decide, by decide⟩ ?_
    refine iAstore C d0_25 (Ls' := #[(.val (.int i0)), (.val (.int i1)), (.val (.int i2)), (.val (.int i3)), (.val (.int bb)), (.val (.int op)), (.val (.ref a2)), .unset, .unset, .unset, .unset, .unset, .unset, .unset, .unset]) rfl rfl ?_
    refine iIload C d0_27 rfl ?_
    refine iIfF C d0_29 ((if0 _ _).trans (teq hc1).2) ?_
    refine iGetS C tw8 (G.1.ext O2.2) d0_32 ?_
    refine iGoto C (t := 41) d0_35 ⟨by decide, by decide⟩ ?_
    refine iAstore C d0_41 (Ls' := #[(.val (.int i0)), (.val (.int i1)), (.val (.int i2)), (.val (.int i3)), (.val (.int bb)), (.val (.int op)), (.val (.ref a2)), (.val (.ref ga1)), .unset, .unset, .unset, .unset, .unset, .unset, .unset]) rfl rfl ?_
    refine iAload C d0_43 rfl rfl ?_
    refine iCallVB C (payLen hw ⟨A2, Fc2, Fv2, V2, (by decide), (by decide)⟩ (S0.ext O2.2) hz0 (by decide) (by decide)) A2 tw11 tw12 (Or.inl rfl) tw14 tw13 ⟨by decide, by decide⟩ (argsL := []) (S' := []) (lenOf pd0 rfl) rfl rfl d0_45 rfl (W := 0) rfl ⟨rfl, rfl, by decide, by decide⟩ fun v3 h3 q3 => ?_
    obtain ⟨rfl, rfl⟩ := q3
    show Go B n0 _ h2 2 44 48 #[(.val (.int i0)), (.val (.int i1)), (.val (.int i2)), (.val (.int i3)), (.val (.int bb)), (.val (.int op)), (.val (.ref a2)), (.val (.ref ga1)), .unset, .unset, .unset, .unset, .unset, .unset, .unset] [(.int (9 : Int32))]
    refine iIstore C d0_48 (Ls' := #[(.val (.int i0)), (.val (.int i1)), (.val (.int i2)), (.val (.int i3)), (.val (.int bb)), (.val (.int op)), (.val (.ref a2)), (.val (.ref ga1)), (.val (.int (9 : Int32))), .unset, .unset, .unset, .unset, .unset, .unset]) rfl ?_
    refine iIloadN C d0_50 rfl ?_
    refine iSipush C d0_51 (v := (255 : Int32)) (by decide) ?_
    refine iIand C d0_54 rfl ?_
    refine iI2c C d0_55 rfl ?_
    refine iIstore C d0_56 (Ls' := #[(.val (.int i0)), (.val (.int i1)), (.val (.int i2)), (.val (.int i3)), (.val (.int bb)), (.val (.int op)), (.val (.ref a2)), (.val (.ref ga1)), (.val (.int (9 : Int32))), (.val (.int ((i2 &&& (255 : Int32))).toUInt32.toUInt16.toUInt32.toInt32)), .unset, .unset, .unset, .unset, .unset]) rfl ?_
    have hd := own_d i2
    generalize ((i2 &&& (255 : Int32))).toUInt32.toUInt16.toUInt32.toInt32 = d at hd ⊢
    refine iIload C d0_58 rfl ?_
    by_cases hc4 : op = (0 : Int32)
    · refine iIfF C d0_60 ((if0 _ _).trans (teq hc4).2) ?_
      refine iIload C d0_63 rfl ?_
      refine iIstore C d0_65 (Ls' := #[(.val (.int i0)), (.val (.int i1)), (.val (.int i2)), (.val (.int i3)), (.val (.int bb)), (.val (.int op)), (.val (.ref a2)), (.val (.ref ga1)), (.val (.int (9 : Int32))), (.val (.int d)), (.val (.int (9 : Int32))), .unset, .unset, .unset, .unset]) rfl ?_
      refine iIconst C d0_67 (v := (-1 : Int32)) (by decide) ?_
      refine iIstore C d0_68 (Ls' := #[(.val (.int i0)), (.val (.int i1)), (.val (.int i2)), (.val (.int i3)), (.val (.int bb)), (.val (.int op)), (.val (.ref a2)), (.val (.ref ga1)), (.val (.int (9 : Int32))), (.val (.int d)), (.val (.int (9 : Int32))), (.val (.int (-1 : Int32))), .unset, .unset, .unset]) rfl ?_
      refine iAload C d0_70 rfl rfl ?_
      refine iAstore C d0_72 (Ls' := #[(.val (.int i0)), (.val (.int i1)), (.val (.int i2)), (.val (.int i3)), (.val (.int bb)), (.val (.int op)), (.val (.ref a2)), (.val (.ref ga1)), (.val (.int (9 : Int32))), (.val (.int d)), (.val (.int (9 : Int32))), (.val (.int (-1 : Int32))), (.val (.ref ga1)), .unset, .unset]) rfl rfl ?_
      refine iGoto C (t := 175) d0_74 ⟨by decide, by decide⟩ ?_
      have hE : pk ga1 ga3 [ff SINJ d (-1 : Int32) 0, ff SINJ d (-1 : Int32) 1, ff SINJ d (-1 : Int32) 2, ff SINJ d (-1 : Int32) 3, ff SINJ d (-1 : Int32) 4, ff SINJ d (-1 : Int32) 5, ff SINJ d (-1 : Int32) 6, ff SINJ d (-1 : Int32) 7, ff SINJ d (-1 : Int32) 8] = (.ref ga1) := by
        have eL : [ff SINJ d (-1 : Int32) 0, ff SINJ d (-1 : Int32) 1, ff SINJ d (-1 : Int32) 2, ff SINJ d (-1 : Int32) 3, ff SINJ d (-1 : Int32) 4, ff SINJ d (-1 : Int32) 5, ff SINJ d (-1 : Int32) 6, ff SINJ d (-1 : Int32) 7, ff SINJ d (-1 : Int32) 8] = ([(105 : Int32), (110 : Int32), (106 : Int32), (101 : Int32), (99 : Int32), (116 : Int32), (105 : Int32), (111 : Int32), (110 : Int32)] : List Int32) := by
          rw [own_fne (i := 0) (by decide), own_fne (i := 1) (by decide), own_fne (i := 2) (by decide), own_fne (i := 3) (by decide), own_fne (i := 4) (by decide), own_fne (i := 5) (by decide), own_fne (i := 6) (by decide), own_fne (i := 7) (by decide), own_fne (i := 8) (by decide)]
          try rfl
        rw [eL]
        rfl
      exact tl9 hw G O2 FV hcap S0 hz0 SI SW S1 rf hcw hhE ⟨A2, Fc2, Fv2, V2, (by decide), (by decide)⟩ hd (Or.inr ⟨_, rfl⟩) hE C
    · refine iIfT C (t := 77) d0_60 ((if0 _ _).trans (feq hc4).2) ⟨by decide, by decide⟩ ?_
      refine iIload C d0_77 rfl ?_
      refine iIconst C d0_79 (v := (2 : Int32)) (by decide) ?_
      by_cases hc5 : op = (2 : Int32)
      · refine iCmpF C d0_80 (teq hc5).2 ?_
        refine iIloadN C d0_83 rfl ?_
        refine iLdcI C tw102 d0_84 ?_
        refine iIand C d0_86 rfl ?_
        refine iIload C d0_87 rfl ?_
        refine iIrem C d0_89 (by decide) rfl ?_
        rcases own_mod9 i3 with q | q | q | q | q | q | q | q | q
        · rw [q]
          refine iIstore C d0_90 (Ls' := #[(.val (.int i0)), (.val (.int i1)), (.val (.int i2)), (.val (.int i3)), (.val (.int bb)), (.val (.int op)), (.val (.ref a2)), (.val (.ref ga1)), (.val (.int (9 : Int32))), (.val (.int d)), (.val (.int (0 : Int32))), .unset, .unset, .unset, .unset]) rfl ?_
          refine iIconst C d0_92 (v := (-1 : Int32)) (by decide) ?_
          refine iIstore C d0_93 (Ls' := #[(.val (.int i0)), (.val (.int i1)), (.val (.int i2)), (.val (.int i3)), (.val (.int bb)), (.val (.int op)), (.val (.ref a2)), (.val (.ref ga1)), (.val (.int (9 : Int32))), (.val (.int d)), (.val (.int (0 : Int32))), (.val (.int (-1 : Int32))), .unset, .unset, .unset]) rfl ?_
          refine iNull C d0_95 ?_
          refine iAstore C d0_96 (Ls' := #[(.val (.int i0)), (.val (.int i1)), (.val (.int i2)), (.val (.int i3)), (.val (.int bb)), (.val (.int op)), (.val (.ref a2)), (.val (.ref ga1)), (.val (.int (9 : Int32))), (.val (.int d)), (.val (.int (0 : Int32))), (.val (.int (-1 : Int32))), (.val .null), .unset, .unset]) rfl rfl ?_
          refine iGoto C (t := 175) d0_98 ⟨by decide, by decide⟩ ?_
          have hE : pk ga1 ga3 SEMP = .null := by
            rfl
          exact tl0i hw G O2 FV hcap S0 hz0 SI SW S1 rf hcw hhE ⟨A2, Fc2, Fv2, V2, (by decide), (by decide)⟩ hd (Or.inl rfl) hE C D
        · rw [q]
          refine iIstore C d0_90 (Ls' := #[(.val (.int i0)), (.val (.int i1)), (.val (.int i2)), (.val (.int i3)), (.val (.int bb)), (.val (.int op)), (.val (.ref a2)), (.val (.ref ga1)), (.val (.int (9 : Int32))), (.val (.int d)), (.val (.int (1 : Int32))), .unset, .unset, .unset, .unset]) rfl ?_
          refine iIconst C d0_92 (v := (-1 : Int32)) (by decide) ?_
          refine iIstore C d0_93 (Ls' := #[(.val (.int i0)), (.val (.int i1)), (.val (.int i2)), (.val (.int i3)), (.val (.int bb)), (.val (.int op)), (.val (.ref a2)), (.val (.ref ga1)), (.val (.int (9 : Int32))), (.val (.int d)), (.val (.int (1 : Int32))), (.val (.int (-1 : Int32))), .unset, .unset, .unset]) rfl ?_
          refine iNull C d0_95 ?_
          refine iAstore C d0_96 (Ls' := #[(.val (.int i0)), (.val (.int i1)), (.val (.int i2)), (.val (.int i3)), (.val (.int bb)), (.val (.int op)), (.val (.ref a2)), (.val (.ref ga1)), (.val (.int (9 : Int32))), (.val (.int d)), (.val (.int (1 : Int32))), (.val (.int (-1 : Int32))), (.val .null), .unset, .unset]) rfl rfl ?_
          refine iGoto C (t := 175) d0_98 ⟨by decide, by decide⟩ ?_
          have hE : pk ga1 ga3 [ff SINJ d (-1 : Int32) 0] = .null := by
            have eL : [ff SINJ d (-1 : Int32) 0] = ([(105 : Int32)] : List Int32) := by
              rw [own_fne (i := 0) (by decide)]
              try rfl
            rw [eL]
            rfl
          exact tl1 hw G O2 FV hcap S0 hz0 SI SW S1 rf hcw hhE ⟨A2, Fc2, Fv2, V2, (by decide), (by decide)⟩ hd (Or.inl rfl) hE C
        · rw [q]
          refine iIstore C d0_90 (Ls' := #[(.val (.int i0)), (.val (.int i1)), (.val (.int i2)), (.val (.int i3)), (.val (.int bb)), (.val (.int op)), (.val (.ref a2)), (.val (.ref ga1)), (.val (.int (9 : Int32))), (.val (.int d)), (.val (.int (2 : Int32))), .unset, .unset, .unset, .unset]) rfl ?_
          refine iIconst C d0_92 (v := (-1 : Int32)) (by decide) ?_
          refine iIstore C d0_93 (Ls' := #[(.val (.int i0)), (.val (.int i1)), (.val (.int i2)), (.val (.int i3)), (.val (.int bb)), (.val (.int op)), (.val (.ref a2)), (.val (.ref ga1)), (.val (.int (9 : Int32))), (.val (.int d)), (.val (.int (2 : Int32))), (.val (.int (-1 : Int32))), .unset, .unset, .unset]) rfl ?_
          refine iNull C d0_95 ?_
          refine iAstore C d0_96 (Ls' := #[(.val (.int i0)), (.val (.int i1)), (.val (.int i2)), (.val (.int i3)), (.val (.int bb)), (.val (.int op)), (.val (.ref a2)), (.val (.ref ga1)), (.val (.int (9 : Int32))), (.val (.int d)), (.val (.int (2 : Int32))), (.val (.int (-1 : Int32))), (.val .null), .unset, .unset]) rfl rfl ?_
          refine iGoto C (t := 175) d0_98 ⟨by decide, by decide⟩ ?_
          have hE : pk ga1 ga3 [ff SINJ d (-1 : Int32) 0, ff SINJ d (-1 : Int32) 1] = .null := by
            have eL : [ff SINJ d (-1 : Int32) 0, ff SINJ d (-1 : Int32) 1] = ([(105 : Int32), (110 : Int32)] : List Int32) := by
              rw [own_fne (i := 0) (by decide), own_fne (i := 1) (by decide)]
              try rfl
            rw [eL]
            rfl
          exact tl2 hw G O2 FV hcap S0 hz0 SI SW S1 rf hcw hhE ⟨A2, Fc2, Fv2, V2, (by decide), (by decide)⟩ hd (Or.inl rfl) hE C
        · rw [q]
          refine iIstore C d0_90 (Ls' := #[(.val (.int i0)), (.val (.int i1)), (.val (.int i2)), (.val (.int i3)), (.val (.int bb)), (.val (.int op)), (.val (.ref a2)), (.val (.ref ga1)), (.val (.int (9 : Int32))), (.val (.int d)), (.val (.int (3 : Int32))), .unset, .unset, .unset, .unset]) rfl ?_
          refine iIconst C d0_92 (v := (-1 : Int32)) (by decide) ?_
          refine iIstore C d0_93 (Ls' := #[(.val (.int i0)), (.val (.int i1)), (.val (.int i2)), (.val (.int i3)), (.val (.int bb)), (.val (.int op)), (.val (.ref a2)), (.val (.ref ga1)), (.val (.int (9 : Int32))), (.val (.int d)), (.val (.int (3 : Int32))), (.val (.int (-1 : Int32))), .unset, .unset, .unset]) rfl ?_
          refine iNull C d0_95 ?_
          refine iAstore C d0_96 (Ls' := #[(.val (.int i0)), (.val (.int i1)), (.val (.int i2)), (.val (.int i3)), (.val (.int bb)), (.val (.int op)), (.val (.ref a2)), (.val (.ref ga1)), (.val (.int (9 : Int32))), (.val (.int d)), (.val (.int (3 : Int32))), (.val (.int (-1 : Int32))), (.val .null), .unset, .unset]) rfl rfl ?_
          refine iGoto C (t := 175) d0_98 ⟨by decide, by decide⟩ ?_
          have hE : pk ga1 ga3 [ff SINJ d (-1 : Int32) 0, ff SINJ d (-1 : Int32) 1, ff SINJ d (-1 : Int32) 2] = .null := by
            have eL : [ff SINJ d (-1 : Int32) 0, ff SINJ d (-1 : Int32) 1, ff SINJ d (-1 : Int32) 2] = ([(105 : Int32), (110 : Int32), (106 : Int32)] : List Int32) := by
              rw [own_fne (i := 0) (by decide), own_fne (i := 1) (by decide), own_fne (i := 2) (by decide)]
              try rfl
            rw [eL]
            rfl
          exact tl3 hw G O2 FV hcap S0 hz0 SI SW S1 rf hcw hhE ⟨A2, Fc2, Fv2, V2, (by decide), (by decide)⟩ hd (Or.inl rfl) hE C
        · rw [q]
          refine iIstore C d0_90 (Ls' := #[(.val (.int i0)), (.val (.int i1)), (.val (.int i2)), (.val (.int i3)), (.val (.int bb)), (.val (.int op)), (.val (.ref a2)), (.val (.ref ga1)), (.val (.int (9 : Int32))), (.val (.int d)), (.val (.int (4 : Int32))), .unset, .unset, .unset, .unset]) rfl ?_
          refine iIconst C d0_92 (v := (-1 : Int32)) (by decide) ?_
          refine iIstore C d0_93 (Ls' := #[(.val (.int i0)), (.val (.int i1)), (.val (.int i2)), (.val (.int i3)), (.val (.int bb)), (.val (.int op)), (.val (.ref a2)), (.val (.ref ga1)), (.val (.int (9 : Int32))), (.val (.int d)), (.val (.int (4 : Int32))), (.val (.int (-1 : Int32))), .unset, .unset, .unset]) rfl ?_
          refine iNull C d0_95 ?_
          refine iAstore C d0_96 (Ls' := #[(.val (.int i0)), (.val (.int i1)), (.val (.int i2)), (.val (.int i3)), (.val (.int bb)), (.val (.int op)), (.val (.ref a2)), (.val (.ref ga1)), (.val (.int (9 : Int32))), (.val (.int d)), (.val (.int (4 : Int32))), (.val (.int (-1 : Int32))), (.val .null), .unset, .unset]) rfl rfl ?_
          refine iGoto C (t := 175) d0_98 ⟨by decide, by decide⟩ ?_
          have hE : pk ga1 ga3 [ff SINJ d (-1 : Int32) 0, ff SINJ d (-1 : Int32) 1, ff SINJ d (-1 : Int32) 2, ff SINJ d (-1 : Int32) 3] = .null := by
            have eL : [ff SINJ d (-1 : Int32) 0, ff SINJ d (-1 : Int32) 1, ff SINJ d (-1 : Int32) 2, ff SINJ d (-1 : Int32) 3] = ([(105 : Int32), (110 : Int32), (106 : Int32), (101 : Int32)] : List Int32) := by
              rw [own_fne (i := 0) (by decide), own_fne (i := 1) (by decide), own_fne (i := 2) (by decide), own_fne (i := 3) (by decide)]
              try rfl
            rw [eL]
            rfl
          exact tl4 hw G O2 FV hcap S0 hz0 SI SW S1 rf hcw hhE ⟨A2, Fc2, Fv2, V2, (by decide), (by decide)⟩ hd (Or.inl rfl) hE C
        · rw [q]
          refine iIstore C d0_90 (Ls' := #[(.val (.int i0)), (.val (.int i1)), (.val (.int i2)), (.val (.int i3)), (.val (.int bb)), (.val (.int op)), (.val (.ref a2)), (.val (.ref ga1)), (.val (.int (9 : Int32))), (.val (.int d)), (.val (.int (5 : Int32))), .unset, .unset, .unset, .unset]) rfl ?_
          refine iIconst C d0_92 (v := (-1 : Int32)) (by decide) ?_
          refine iIstore C d0_93 (Ls' := #[(.val (.int i0)), (.val (.int i1)), (.val (.int i2)), (.val (.int i3)), (.val (.int bb)), (.val (.int op)), (.val (.ref a2)), (.val (.ref ga1)), (.val (.int (9 : Int32))), (.val (.int d)), (.val (.int (5 : Int32))), (.val (.int (-1 : Int32))), .unset, .unset, .unset]) rfl ?_
          refine iNull C d0_95 ?_
          refine iAstore C d0_96 (Ls' := #[(.val (.int i0)), (.val (.int i1)), (.val (.int i2)), (.val (.int i3)), (.val (.int bb)), (.val (.int op)), (.val (.ref a2)), (.val (.ref ga1)), (.val (.int (9 : Int32))), (.val (.int d)), (.val (.int (5 : Int32))), (.val (.int (-1 : Int32))), (.val .null), .unset, .unset]) rfl rfl ?_
          refine iGoto C (t := 175) d0_98 ⟨by decide, by decide⟩ ?_
          have hE : pk ga1 ga3 [ff SINJ d (-1 : Int32) 0, ff SINJ d (-1 : Int32) 1, ff SINJ d (-1 : Int32) 2, ff SINJ d (-1 : Int32) 3, ff SINJ d (-1 : Int32) 4] = .null := by
            have eL : [ff SINJ d (-1 : Int32) 0, ff SINJ d (-1 : Int32) 1, ff SINJ d (-1 : Int32) 2, ff SINJ d (-1 : Int32) 3, ff SINJ d (-1 : Int32) 4] = ([(105 : Int32), (110 : Int32), (106 : Int32), (101 : Int32), (99 : Int32)] : List Int32) := by
              rw [own_fne (i := 0) (by decide), own_fne (i := 1) (by decide), own_fne (i := 2) (by decide), own_fne (i := 3) (by decide), own_fne (i := 4) (by decide)]
              try rfl
            rw [eL]
            rfl
          exact tl5 hw G O2 FV hcap S0 hz0 SI SW S1 rf hcw hhE ⟨A2, Fc2, Fv2, V2, (by decide), (by decide)⟩ hd (Or.inl rfl) hE C
        · rw [q]
          refine iIstore C d0_90 (Ls' := #[(.val (.int i0)), (.val (.int i1)), (.val (.int i2)), (.val (.int i3)), (.val (.int bb)), (.val (.int op)), (.val (.ref a2)), (.val (.ref ga1)), (.val (.int (9 : Int32))), (.val (.int d)), (.val (.int (6 : Int32))), .unset, .unset, .unset, .unset]) rfl ?_
          refine iIconst C d0_92 (v := (-1 : Int32)) (by decide) ?_
          refine iIstore C d0_93 (Ls' := #[(.val (.int i0)), (.val (.int i1)), (.val (.int i2)), (.val (.int i3)), (.val (.int bb)), (.val (.int op)), (.val (.ref a2)), (.val (.ref ga1)), (.val (.int (9 : Int32))), (.val (.int d)), (.val (.int (6 : Int32))), (.val (.int (-1 : Int32))), .unset, .unset, .unset]) rfl ?_
          refine iNull C d0_95 ?_
          refine iAstore C d0_96 (Ls' := #[(.val (.int i0)), (.val (.int i1)), (.val (.int i2)), (.val (.int i3)), (.val (.int bb)), (.val (.int op)), (.val (.ref a2)), (.val (.ref ga1)), (.val (.int (9 : Int32))), (.val (.int d)), (.val (.int (6 : Int32))), (.val (.int (-1 : Int32))), (.val .null), .unset, .unset]) rfl rfl ?_
          refine iGoto C (t := 175) d0_98 ⟨by decide, by decide⟩ ?_
          have hE : pk ga1 ga3 [ff SINJ d (-1 : Int32) 0, ff SINJ d (-1 : Int32) 1, ff SINJ d (-1 : Int32) 2, ff SINJ d (-1 : Int32) 3, ff SINJ d (-1 : Int32) 4, ff SINJ d (-1 : Int32) 5] = .null := by
            have eL : [ff SINJ d (-1 : Int32) 0, ff SINJ d (-1 : Int32) 1, ff SINJ d (-1 : Int32) 2, ff SINJ d (-1 : Int32) 3, ff SINJ d (-1 : Int32) 4, ff SINJ d (-1 : Int32) 5] = ([(105 : Int32), (110 : Int32), (106 : Int32), (101 : Int32), (99 : Int32), (116 : Int32)] : List Int32) := by
              rw [own_fne (i := 0) (by decide), own_fne (i := 1) (by decide), own_fne (i := 2) (by decide), own_fne (i := 3) (by decide), own_fne (i := 4) (by decide), own_fne (i := 5) (by decide)]
              try rfl
            rw [eL]
            rfl
          exact tl6 hw G O2 FV hcap S0 hz0 SI SW S1 rf hcw hhE ⟨A2, Fc2, Fv2, V2, (by decide), (by decide)⟩ hd (Or.inl rfl) hE C
        · rw [q]
          refine iIstore C d0_90 (Ls' := #[(.val (.int i0)), (.val (.int i1)), (.val (.int i2)), (.val (.int i3)), (.val (.int bb)), (.val (.int op)), (.val (.ref a2)), (.val (.ref ga1)), (.val (.int (9 : Int32))), (.val (.int d)), (.val (.int (7 : Int32))), .unset, .unset, .unset, .unset]) rfl ?_
          refine iIconst C d0_92 (v := (-1 : Int32)) (by decide) ?_
          refine iIstore C d0_93 (Ls' := #[(.val (.int i0)), (.val (.int i1)), (.val (.int i2)), (.val (.int i3)), (.val (.int bb)), (.val (.int op)), (.val (.ref a2)), (.val (.ref ga1)), (.val (.int (9 : Int32))), (.val (.int d)), (.val (.int (7 : Int32))), (.val (.int (-1 : Int32))), .unset, .unset, .unset]) rfl ?_
          refine iNull C d0_95 ?_
          refine iAstore C d0_96 (Ls' := #[(.val (.int i0)), (.val (.int i1)), (.val (.int i2)), (.val (.int i3)), (.val (.int bb)), (.val (.int op)), (.val (.ref a2)), (.val (.ref ga1)), (.val (.int (9 : Int32))), (.val (.int d)), (.val (.int (7 : Int32))), (.val (.int (-1 : Int32))), (.val .null), .unset, .unset]) rfl rfl ?_
          refine iGoto C (t := 175) d0_98 ⟨by decide, by decide⟩ ?_
          have hE : pk ga1 ga3 [ff SINJ d (-1 : Int32) 0, ff SINJ d (-1 : Int32) 1, ff SINJ d (-1 : Int32) 2, ff SINJ d (-1 : Int32) 3, ff SINJ d (-1 : Int32) 4, ff SINJ d (-1 : Int32) 5, ff SINJ d (-1 : Int32) 6] = .null := by
            have eL : [ff SINJ d (-1 : Int32) 0, ff SINJ d (-1 : Int32) 1, ff SINJ d (-1 : Int32) 2, ff SINJ d (-1 : Int32) 3, ff SINJ d (-1 : Int32) 4, ff SINJ d (-1 : Int32) 5, ff SINJ d (-1 : Int32) 6] = ([(105 : Int32), (110 : Int32), (106 : Int32), (101 : Int32), (99 : Int32), (116 : Int32), (105 : Int32)] : List Int32) := by
              rw [own_fne (i := 0) (by decide), own_fne (i := 1) (by decide), own_fne (i := 2) (by decide), own_fne (i := 3) (by decide), own_fne (i := 4) (by decide), own_fne (i := 5) (by decide), own_fne (i := 6) (by decide)]
              try rfl
            rw [eL]
            rfl
          exact tl7 hw G O2 FV hcap S0 hz0 SI SW S1 rf hcw hhE ⟨A2, Fc2, Fv2, V2, (by decide), (by decide)⟩ hd (Or.inl rfl) hE C
        · rw [q]
          refine iIstore C d0_90 (Ls' := #[(.val (.int i0)), (.val (.int i1)), (.val (.int i2)), (.val (.int i3)), (.val (.int bb)), (.val (.int op)), (.val (.ref a2)), (.val (.ref ga1)), (.val (.int (9 : Int32))), (.val (.int d)), (.val (.int (8 : Int32))), .unset, .unset, .unset, .unset]) rfl ?_
          refine iIconst C d0_92 (v := (-1 : Int32)) (by decide) ?_
          refine iIstore C d0_93 (Ls' := #[(.val (.int i0)), (.val (.int i1)), (.val (.int i2)), (.val (.int i3)), (.val (.int bb)), (.val (.int op)), (.val (.ref a2)), (.val (.ref ga1)), (.val (.int (9 : Int32))), (.val (.int d)), (.val (.int (8 : Int32))), (.val (.int (-1 : Int32))), .unset, .unset, .unset]) rfl ?_
          refine iNull C d0_95 ?_
          refine iAstore C d0_96 (Ls' := #[(.val (.int i0)), (.val (.int i1)), (.val (.int i2)), (.val (.int i3)), (.val (.int bb)), (.val (.int op)), (.val (.ref a2)), (.val (.ref ga1)), (.val (.int (9 : Int32))), (.val (.int d)), (.val (.int (8 : Int32))), (.val (.int (-1 : Int32))), (.val .null), .unset, .unset]) rfl rfl ?_
          refine iGoto C (t := 175) d0_98 ⟨by decide, by decide⟩ ?_
          have hE : pk ga1 ga3 [ff SINJ d (-1 : Int32) 0, ff SINJ d (-1 : Int32) 1, ff SINJ d (-1 : Int32) 2, ff SINJ d (-1 : Int32) 3, ff SINJ d (-1 : Int32) 4, ff SINJ d (-1 : Int32) 5, ff SINJ d (-1 : Int32) 6, ff SINJ d (-1 : Int32) 7] = .null := by
            have eL : [ff SINJ d (-1 : Int32) 0, ff SINJ d (-1 : Int32) 1, ff SINJ d (-1 : Int32) 2, ff SINJ d (-1 : Int32) 3, ff SINJ d (-1 : Int32) 4, ff SINJ d (-1 : Int32) 5, ff SINJ d (-1 : Int32) 6, ff SINJ d (-1 : Int32) 7] = ([(105 : Int32), (110 : Int32), (106 : Int32), (101 : Int32), (99 : Int32), (116 : Int32), (105 : Int32), (111 : Int32)] : List Int32) := by
              rw [own_fne (i := 0) (by decide), own_fne (i := 1) (by decide), own_fne (i := 2) (by decide), own_fne (i := 3) (by decide), own_fne (i := 4) (by decide), own_fne (i := 5) (by decide), own_fne (i := 6) (by decide), own_fne (i := 7) (by decide)]
              try rfl
            rw [eL]
            rfl
          exact tl8 hw G O2 FV hcap S0 hz0 SI SW S1 rf hcw hhE ⟨A2, Fc2, Fv2, V2, (by decide), (by decide)⟩ hd (Or.inl rfl) hE C
      · refine iCmpT C (t := 101) d0_80 (feq hc5).2 ⟨by decide, by decide⟩ ?_
        refine iIload C d0_101 rfl ?_
        refine iIconst C d0_103 (v := (3 : Int32)) (by decide) ?_
        by_cases hc6 : op = (3 : Int32)
        · refine iCmpF C d0_104 (teq hc6).2 ?_
          refine iIload C d0_107 rfl ?_
          refine iIconst C d0_109 (v := (1 : Int32)) (by decide) ?_
          refine iIadd C d0_110 (v := (10 : Int32)) (by decide) ?_
          refine iIstore C d0_111 (Ls' := #[(.val (.int i0)), (.val (.int i1)), (.val (.int i2)), (.val (.int i3)), (.val (.int bb)), (.val (.int op)), (.val (.ref a2)), (.val (.ref ga1)), (.val (.int (9 : Int32))), (.val (.int d)), (.val (.int (10 : Int32))), .unset, .unset, .unset, .unset]) rfl ?_
          refine iIload C d0_113 rfl ?_
          refine iIstore C d0_115 (Ls' := #[(.val (.int i0)), (.val (.int i1)), (.val (.int i2)), (.val (.int i3)), (.val (.int bb)), (.val (.int op)), (.val (.ref a2)), (.val (.ref ga1)), (.val (.int (9 : Int32))), (.val (.int d)), (.val (.int (10 : Int32))), (.val (.int (9 : Int32))), .unset, .unset, .unset]) rfl ?_
          refine iNull C d0_117 ?_
          refine iAstore C d0_118 (Ls' := #[(.val (.int i0)), (.val (.int i1)), (.val (.int i2)), (.val (.int i3)), (.val (.int bb)), (.val (.int op)), (.val (.ref a2)), (.val (.ref ga1)), (.val (.int (9 : Int32))), (.val (.int d)), (.val (.int (10 : Int32))), (.val (.int (9 : Int32))), (.val .null), .unset, .unset]) rfl rfl ?_
          refine iGoto C (t := 175) d0_120 ⟨by decide, by decide⟩ ?_
          have hE : pk ga1 ga3 [ff SINJ d (9 : Int32) 0, ff SINJ d (9 : Int32) 1, ff SINJ d (9 : Int32) 2, ff SINJ d (9 : Int32) 3, ff SINJ d (9 : Int32) 4, ff SINJ d (9 : Int32) 5, ff SINJ d (9 : Int32) 6, ff SINJ d (9 : Int32) 7, ff SINJ d (9 : Int32) 8, ff SINJ d (9 : Int32) 9] = .null := by
            have eL : [ff SINJ d (9 : Int32) 0, ff SINJ d (9 : Int32) 1, ff SINJ d (9 : Int32) 2, ff SINJ d (9 : Int32) 3, ff SINJ d (9 : Int32) 4, ff SINJ d (9 : Int32) 5, ff SINJ d (9 : Int32) 6, ff SINJ d (9 : Int32) 7, ff SINJ d (9 : Int32) 8, ff SINJ d (9 : Int32) 9] = ([(105 : Int32), (110 : Int32), (106 : Int32), (101 : Int32), (99 : Int32), (116 : Int32), (105 : Int32), (111 : Int32), (110 : Int32), d] : List Int32) := by
              rw [own_fne (i := 0) (by decide), own_fne (i := 1) (by decide), own_fne (i := 2) (by decide), own_fne (i := 3) (by decide), own_fne (i := 4) (by decide), own_fne (i := 5) (by decide), own_fne (i := 6) (by decide), own_fne (i := 7) (by decide), own_fne (i := 8) (by decide), own_feq (i := 9) (by decide)]
              try rfl
            rw [eL]
            exact pk_no (fun q => (by decide : ¬ (9 : Nat) = 10) (congrArg List.length q)) (fun q => (by decide : ¬ (119 : Int32) = 105) (congrArg (fun z => z.getD 0 0) q))
          exact tl10 hw G O2 FV hcap S0 hz0 SI SW S1 rf hcw hhE ⟨A2, Fc2, Fv2, V2, (by decide), (by decide)⟩ hd (Or.inl rfl) hE C
        · refine iCmpT C (t := 123) d0_104 (feq hc6).2 ⟨by decide, by decide⟩ ?_
          refine iIload C d0_123 rfl ?_
          refine iIconst C d0_125 (v := (4 : Int32)) (by decide) ?_
          by_cases hc7 : op = (4 : Int32)
          · refine iCmpF C d0_126 (teq hc7).2 ?_
            refine iNull C d0_129 ?_
            refine iCallS C (rmNN hw G O2 FV hcap) tw72 tw73 tw9 tw74 ⟨by decide, by decide⟩ (argsL := [.null]) (S' := []) (lenOf pd7 rfl) rfl rfl d0_130 rfl (W := 0) rfl ⟨by decide, by decide, rfl, rfl, by decide, by decide⟩ fun v8 h8 q8 => ?_
            obtain ⟨rfl, E8⟩ := q8
            show Go B n0 _ h8 3 46 133 #[(.val (.int i0)), (.val (.int i1)), (.val (.int i2)), (.val (.int i3)), (.val (.int bb)), (.val (.int op)), (.val (.ref a2)), (.val (.ref ga1)), (.val (.int (9 : Int32))), (.val (.int d)), .unset, .unset, .unset, .unset, .unset] [.null]
            refine iNonnullF C d0_133 ?_
            refine iIconst C d0_136 (v := (1 : Int32)) (by decide) ?_
            refine iGoto C (t := 141) d0_137 ⟨by decide, by decide⟩ ?_
            refine iRetZ C d0_141 (by simp) ⟨Nat.le_refl _, by decide, by decide⟩ ?_
            exact rfl
          · refine iCmpT C (t := 142) d0_126 (feq hc7).2 ⟨by decide, by decide⟩ ?_
            refine iIload C d0_142 rfl ?_
            refine iIstore C d0_144 (Ls' := #[(.val (.int i0)), (.val (.int i1)), (.val (.int i2)), (.val (.int i3)), (.val (.int bb)), (.val (.int op)), (.val (.ref a2)), (.val (.ref ga1)), (.val (.int (9 : Int32))), (.val (.int d)), (.val (.int (9 : Int32))), .unset, .unset, .unset, .unset]) rfl ?_
            refine iIloadN C d0_146 rfl ?_
            refine iLdcI C tw102 d0_147 ?_
            refine iIand C d0_149 rfl ?_
            refine iIload C d0_150 rfl ?_
            refine iIrem C d0_152 (by decide) rfl ?_
            rcases own_mod9 i1 with q | q | q | q | q | q | q | q | q
            · rw [q]
              refine iIstore C d0_153 (Ls' := #[(.val (.int i0)), (.val (.int i1)), (.val (.int i2)), (.val (.int i3)), (.val (.int bb)), (.val (.int op)), (.val (.ref a2)), (.val (.ref ga1)), (.val (.int (9 : Int32))), (.val (.int d)), (.val (.int (9 : Int32))), (.val (.int (0 : Int32))), .unset, .unset, .unset]) rfl ?_
              refine iIload C d0_155 rfl ?_
              refine iAload C d0_157 rfl rfl ?_
              refine iIload C d0_159 rfl ?_
              refine iCallVB C (payCh hw ⟨A2, Fc2, Fv2, V2, (by decide), (by decide)⟩ (S0.ext O2.2) hz0 (S1.ext O2.2) rf (i := 0) (by decide) rfl (by decide) (by decide)) A2 tw29 tw30 (Or.inl rfl) tw32 tw31 ⟨by decide, by decide⟩ (argsL := [(.int (0 : Int32))]) (S' := [(.int d)]) (lenOf pd1 rfl) rfl rfl d0_161 rfl (W := 1) rfl ⟨rfl, rfl, by decide, by decide⟩ fun v9 h9 q9 => ?_
              obtain ⟨rfl, rfl⟩ := q9
              show Go B n0 _ h2 2 44 164 #[(.val (.int i0)), (.val (.int i1)), (.val (.int i2)), (.val (.int i3)), (.val (.int bb)), (.val (.int op)), (.val (.ref a2)), (.val (.ref ga1)), (.val (.int (9 : Int32))), (.val (.int d)), (.val (.int (9 : Int32))), (.val (.int (0 : Int32))), .unset, .unset, .unset] [(.int (105 : Int32)), (.int d)]
              by_cases hc10 : d = (105 : Int32)
              · refine iCmpF C d0_164 (teq hc10).2 ?_
                refine iAload C d0_167 rfl rfl ?_
                refine iGoto C (t := 173) d0_169 ⟨by decide, by decide⟩ ?_
                refine iAstore C d0_173 (Ls' := #[(.val (.int i0)), (.val (.int i1)), (.val (.int i2)), (.val (.int i3)), (.val (.int bb)), (.val (.int op)), (.val (.ref a2)), (.val (.ref ga1)), (.val (.int (9 : Int32))), (.val (.int d)), (.val (.int (9 : Int32))), (.val (.int (0 : Int32))), (.val (.ref ga1)), .unset, .unset]) rfl rfl ?_
                have hE : pk ga1 ga3 [ff SINJ d (0 : Int32) 0, ff SINJ d (0 : Int32) 1, ff SINJ d (0 : Int32) 2, ff SINJ d (0 : Int32) 3, ff SINJ d (0 : Int32) 4, ff SINJ d (0 : Int32) 5, ff SINJ d (0 : Int32) 6, ff SINJ d (0 : Int32) 7, ff SINJ d (0 : Int32) 8] = (.ref ga1) := by
                  have eL : [ff SINJ d (0 : Int32) 0, ff SINJ d (0 : Int32) 1, ff SINJ d (0 : Int32) 2, ff SINJ d (0 : Int32) 3, ff SINJ d (0 : Int32) 4, ff SINJ d (0 : Int32) 5, ff SINJ d (0 : Int32) 6, ff SINJ d (0 : Int32) 7, ff SINJ d (0 : Int32) 8] = ([d, (110 : Int32), (106 : Int32), (101 : Int32), (99 : Int32), (116 : Int32), (105 : Int32), (111 : Int32), (110 : Int32)] : List Int32) := by
                    rw [own_feq (i := 0) (by decide), own_fne (i := 1) (by decide), own_fne (i := 2) (by decide), own_fne (i := 3) (by decide), own_fne (i := 4) (by decide), own_fne (i := 5) (by decide), own_fne (i := 6) (by decide), own_fne (i := 7) (by decide), own_fne (i := 8) (by decide)]
                    try rfl
                  rw [eL]
                  rw [hc10]
                  rfl
                exact tl9 hw G O2 FV hcap S0 hz0 SI SW S1 rf hcw hhE ⟨A2, Fc2, Fv2, V2, (by decide), (by decide)⟩ hd (Or.inr ⟨_, rfl⟩) hE C
              · refine iCmpT C (t := 172) d0_164 (feq hc10).2 ⟨by decide, by decide⟩ ?_
                refine iNull C d0_172 ?_
                refine iAstore C d0_173 (Ls' := #[(.val (.int i0)), (.val (.int i1)), (.val (.int i2)), (.val (.int i3)), (.val (.int bb)), (.val (.int op)), (.val (.ref a2)), (.val (.ref ga1)), (.val (.int (9 : Int32))), (.val (.int d)), (.val (.int (9 : Int32))), (.val (.int (0 : Int32))), (.val .null), .unset, .unset]) rfl rfl ?_
                have hE : pk ga1 ga3 [ff SINJ d (0 : Int32) 0, ff SINJ d (0 : Int32) 1, ff SINJ d (0 : Int32) 2, ff SINJ d (0 : Int32) 3, ff SINJ d (0 : Int32) 4, ff SINJ d (0 : Int32) 5, ff SINJ d (0 : Int32) 6, ff SINJ d (0 : Int32) 7, ff SINJ d (0 : Int32) 8] = .null := by
                  have eL : [ff SINJ d (0 : Int32) 0, ff SINJ d (0 : Int32) 1, ff SINJ d (0 : Int32) 2, ff SINJ d (0 : Int32) 3, ff SINJ d (0 : Int32) 4, ff SINJ d (0 : Int32) 5, ff SINJ d (0 : Int32) 6, ff SINJ d (0 : Int32) 7, ff SINJ d (0 : Int32) 8] = ([d, (110 : Int32), (106 : Int32), (101 : Int32), (99 : Int32), (116 : Int32), (105 : Int32), (111 : Int32), (110 : Int32)] : List Int32) := by
                    rw [own_feq (i := 0) (by decide), own_fne (i := 1) (by decide), own_fne (i := 2) (by decide), own_fne (i := 3) (by decide), own_fne (i := 4) (by decide), own_fne (i := 5) (by decide), own_fne (i := 6) (by decide), own_fne (i := 7) (by decide), own_fne (i := 8) (by decide)]
                    try rfl
                  rw [eL]
                  exact pk_no (fun q => hc10 (congrArg (fun z => z.getD 0 0) q : (105 : Int32) = d).symm) (fun q => (by decide : ¬ (10 : Nat) = 9) (congrArg List.length q))
                exact tl9 hw G O2 FV hcap S0 hz0 SI SW S1 rf hcw hhE ⟨A2, Fc2, Fv2, V2, (by decide), (by decide)⟩ hd (Or.inl rfl) hE C
            · rw [q]
              refine iIstore C d0_153 (Ls' := #[(.val (.int i0)), (.val (.int i1)), (.val (.int i2)), (.val (.int i3)), (.val (.int bb)), (.val (.int op)), (.val (.ref a2)), (.val (.ref ga1)), (.val (.int (9 : Int32))), (.val (.int d)), (.val (.int (9 : Int32))), (.val (.int (1 : Int32))), .unset, .unset, .unset]) rfl ?_
              refine iIload C d0_155 rfl ?_
              refine iAload C d0_157 rfl rfl ?_
              refine iIload C d0_159 rfl ?_
              refine iCallVB C (payCh hw ⟨A2, Fc2, Fv2, V2, (by decide), (by decide)⟩ (S0.ext O2.2) hz0 (S1.ext O2.2) rf (i := 1) (by decide) rfl (by decide) (by decide)) A2 tw29 tw30 (Or.inl rfl) tw32 tw31 ⟨by decide, by decide⟩ (argsL := [(.int (1 : Int32))]) (S' := [(.int d)]) (lenOf pd1 rfl) rfl rfl d0_161 rfl (W := 1) rfl ⟨rfl, rfl, by decide, by decide⟩ fun v11 h11 q11 => ?_
              obtain ⟨rfl, rfl⟩ := q11
              show Go B n0 _ h2 2 44 164 #[(.val (.int i0)), (.val (.int i1)), (.val (.int i2)), (.val (.int i3)), (.val (.int bb)), (.val (.int op)), (.val (.ref a2)), (.val (.ref ga1)), (.val (.int (9 : Int32))), (.val (.int d)), (.val (.int (9 : Int32))), (.val (.int (1 : Int32))), .unset, .unset, .unset] [(.int (110 : Int32)), (.int d)]
              by_cases hc12 : d = (110 : Int32)
              · refine iCmpF C d0_164 (teq hc12).2 ?_
                refine iAload C d0_167 rfl rfl ?_
                refine iGoto C (t := 173) d0_169 ⟨by decide, by decide⟩ ?_
                refine iAstore C d0_173 (Ls' := #[(.val (.int i0)), (.val (.int i1)), (.val (.int i2)), (.val (.int i3)), (.val (.int bb)), (.val (.int op)), (.val (.ref a2)), (.val (.ref ga1)), (.val (.int (9 : Int32))), (.val (.int d)), (.val (.int (9 : Int32))), (.val (.int (1 : Int32))), (.val (.ref ga1)), .unset, .unset]) rfl rfl ?_
                have hE : pk ga1 ga3 [ff SINJ d (1 : Int32) 0, ff SINJ d (1 : Int32) 1, ff SINJ d (1 : Int32) 2, ff SINJ d (1 : Int32) 3, ff SINJ d (1 : Int32) 4, ff SINJ d (1 : Int32) 5, ff SINJ d (1 : Int32) 6, ff SINJ d (1 : Int32) 7, ff SINJ d (1 : Int32) 8] = (.ref ga1) := by
                  have eL : [ff SINJ d (1 : Int32) 0, ff SINJ d (1 : Int32) 1, ff SINJ d (1 : Int32) 2, ff SINJ d (1 : Int32) 3, ff SINJ d (1 : Int32) 4, ff SINJ d (1 : Int32) 5, ff SINJ d (1 : Int32) 6, ff SINJ d (1 : Int32) 7, ff SINJ d (1 : Int32) 8] = ([(105 : Int32), d, (106 : Int32), (101 : Int32), (99 : Int32), (116 : Int32), (105 : Int32), (111 : Int32), (110 : Int32)] : List Int32) := by
                    rw [own_fne (i := 0) (by decide), own_feq (i := 1) (by decide), own_fne (i := 2) (by decide), own_fne (i := 3) (by decide), own_fne (i := 4) (by decide), own_fne (i := 5) (by decide), own_fne (i := 6) (by decide), own_fne (i := 7) (by decide), own_fne (i := 8) (by decide)]
                    try rfl
                  rw [eL]
                  rw [hc12]
                  rfl
                exact tl9 hw G O2 FV hcap S0 hz0 SI SW S1 rf hcw hhE ⟨A2, Fc2, Fv2, V2, (by decide), (by decide)⟩ hd (Or.inr ⟨_, rfl⟩) hE C
              · refine iCmpT C (t := 172) d0_164 (feq hc12).2 ⟨by decide, by decide⟩ ?_
                refine iNull C d0_172 ?_
                refine iAstore C d0_173 (Ls' := #[(.val (.int i0)), (.val (.int i1)), (.val (.int i2)), (.val (.int i3)), (.val (.int bb)), (.val (.int op)), (.val (.ref a2)), (.val (.ref ga1)), (.val (.int (9 : Int32))), (.val (.int d)), (.val (.int (9 : Int32))), (.val (.int (1 : Int32))), (.val .null), .unset, .unset]) rfl rfl ?_
                have hE : pk ga1 ga3 [ff SINJ d (1 : Int32) 0, ff SINJ d (1 : Int32) 1, ff SINJ d (1 : Int32) 2, ff SINJ d (1 : Int32) 3, ff SINJ d (1 : Int32) 4, ff SINJ d (1 : Int32) 5, ff SINJ d (1 : Int32) 6, ff SINJ d (1 : Int32) 7, ff SINJ d (1 : Int32) 8] = .null := by
                  have eL : [ff SINJ d (1 : Int32) 0, ff SINJ d (1 : Int32) 1, ff SINJ d (1 : Int32) 2, ff SINJ d (1 : Int32) 3, ff SINJ d (1 : Int32) 4, ff SINJ d (1 : Int32) 5, ff SINJ d (1 : Int32) 6, ff SINJ d (1 : Int32) 7, ff SINJ d (1 : Int32) 8] = ([(105 : Int32), d, (106 : Int32), (101 : Int32), (99 : Int32), (116 : Int32), (105 : Int32), (111 : Int32), (110 : Int32)] : List Int32) := by
                    rw [own_fne (i := 0) (by decide), own_feq (i := 1) (by decide), own_fne (i := 2) (by decide), own_fne (i := 3) (by decide), own_fne (i := 4) (by decide), own_fne (i := 5) (by decide), own_fne (i := 6) (by decide), own_fne (i := 7) (by decide), own_fne (i := 8) (by decide)]
                    try rfl
                  rw [eL]
                  exact pk_no (fun q => hc12 (congrArg (fun z => z.getD 1 0) q : (110 : Int32) = d).symm) (fun q => (by decide : ¬ (10 : Nat) = 9) (congrArg List.length q))
                exact tl9 hw G O2 FV hcap S0 hz0 SI SW S1 rf hcw hhE ⟨A2, Fc2, Fv2, V2, (by decide), (by decide)⟩ hd (Or.inl rfl) hE C
            · rw [q]
              refine iIstore C d0_153 (Ls' := #[(.val (.int i0)), (.val (.int i1)), (.val (.int i2)), (.val (.int i3)), (.val (.int bb)), (.val (.int op)), (.val (.ref a2)), (.val (.ref ga1)), (.val (.int (9 : Int32))), (.val (.int d)), (.val (.int (9 : Int32))), (.val (.int (2 : Int32))), .unset, .unset, .unset]) rfl ?_
              refine iIload C d0_155 rfl ?_
              refine iAload C d0_157 rfl rfl ?_
              refine iIload C d0_159 rfl ?_
              refine iCallVB C (payCh hw ⟨A2, Fc2, Fv2, V2, (by decide), (by decide)⟩ (S0.ext O2.2) hz0 (S1.ext O2.2) rf (i := 2) (by decide) rfl (by decide) (by decide)) A2 tw29 tw30 (Or.inl rfl) tw32 tw31 ⟨by decide, by decide⟩ (argsL := [(.int (2 : Int32))]) (S' := [(.int d)]) (lenOf pd1 rfl) rfl rfl d0_161 rfl (W := 1) rfl ⟨rfl, rfl, by decide, by decide⟩ fun v13 h13 q13 => ?_
              obtain ⟨rfl, rfl⟩ := q13
              show Go B n0 _ h2 2 44 164 #[(.val (.int i0)), (.val (.int i1)), (.val (.int i2)), (.val (.int i3)), (.val (.int bb)), (.val (.int op)), (.val (.ref a2)), (.val (.ref ga1)), (.val (.int (9 : Int32))), (.val (.int d)), (.val (.int (9 : Int32))), (.val (.int (2 : Int32))), .unset, .unset, .unset] [(.int (106 : Int32)), (.int d)]
              by_cases hc14 : d = (106 : Int32)
              · refine iCmpF C d0_164 (teq hc14).2 ?_
                refine iAload C d0_167 rfl rfl ?_
                refine iGoto C (t := 173) d0_169 ⟨by decide, by decide⟩ ?_
                refine iAstore C d0_173 (Ls' := #[(.val (.int i0)), (.val (.int i1)), (.val (.int i2)), (.val (.int i3)), (.val (.int bb)), (.val (.int op)), (.val (.ref a2)), (.val (.ref ga1)), (.val (.int (9 : Int32))), (.val (.int d)), (.val (.int (9 : Int32))), (.val (.int (2 : Int32))), (.val (.ref ga1)), .unset, .unset]) rfl rfl ?_
                have hE : pk ga1 ga3 [ff SINJ d (2 : Int32) 0, ff SINJ d (2 : Int32) 1, ff SINJ d (2 : Int32) 2, ff SINJ d (2 : Int32) 3, ff SINJ d (2 : Int32) 4, ff SINJ d (2 : Int32) 5, ff SINJ d (2 : Int32) 6, ff SINJ d (2 : Int32) 7, ff SINJ d (2 : Int32) 8] = (.ref ga1) := by
                  have eL : [ff SINJ d (2 : Int32) 0, ff SINJ d (2 : Int32) 1, ff SINJ d (2 : Int32) 2, ff SINJ d (2 : Int32) 3, ff SINJ d (2 : Int32) 4, ff SINJ d (2 : Int32) 5, ff SINJ d (2 : Int32) 6, ff SINJ d (2 : Int32) 7, ff SINJ d (2 : Int32) 8] = ([(105 : Int32), (110 : Int32), d, (101 : Int32), (99 : Int32), (116 : Int32), (105 : Int32), (111 : Int32), (110 : Int32)] : List Int32) := by
                    rw [own_fne (i := 0) (by decide), own_fne (i := 1) (by decide), own_feq (i := 2) (by decide), own_fne (i := 3) (by decide), own_fne (i := 4) (by decide), own_fne (i := 5) (by decide), own_fne (i := 6) (by decide), own_fne (i := 7) (by decide), own_fne (i := 8) (by decide)]
                    try rfl
                  rw [eL]
                  rw [hc14]
                  rfl
                exact tl9 hw G O2 FV hcap S0 hz0 SI SW S1 rf hcw hhE ⟨A2, Fc2, Fv2, V2, (by decide), (by decide)⟩ hd (Or.inr ⟨_, rfl⟩) hE C
              · refine iCmpT C (t := 172) d0_164 (feq hc14).2 ⟨by decide, by decide⟩ ?_
                refine iNull C d0_172 ?_
                refine iAstore C d0_173 (Ls' := #[(.val (.int i0)), (.val (.int i1)), (.val (.int i2)), (.val (.int i3)), (.val (.int bb)), (.val (.int op)), (.val (.ref a2)), (.val (.ref ga1)), (.val (.int (9 : Int32))), (.val (.int d)), (.val (.int (9 : Int32))), (.val (.int (2 : Int32))), (.val .null), .unset, .unset]) rfl rfl ?_
                have hE : pk ga1 ga3 [ff SINJ d (2 : Int32) 0, ff SINJ d (2 : Int32) 1, ff SINJ d (2 : Int32) 2, ff SINJ d (2 : Int32) 3, ff SINJ d (2 : Int32) 4, ff SINJ d (2 : Int32) 5, ff SINJ d (2 : Int32) 6, ff SINJ d (2 : Int32) 7, ff SINJ d (2 : Int32) 8] = .null := by
                  have eL : [ff SINJ d (2 : Int32) 0, ff SINJ d (2 : Int32) 1, ff SINJ d (2 : Int32) 2, ff SINJ d (2 : Int32) 3, ff SINJ d (2 : Int32) 4, ff SINJ d (2 : Int32) 5, ff SINJ d (2 : Int32) 6, ff SINJ d (2 : Int32) 7, ff SINJ d (2 : Int32) 8] = ([(105 : Int32), (110 : Int32), d, (101 : Int32), (99 : Int32), (116 : Int32), (105 : Int32), (111 : Int32), (110 : Int32)] : List Int32) := by
                    rw [own_fne (i := 0) (by decide), own_fne (i := 1) (by decide), own_feq (i := 2) (by decide), own_fne (i := 3) (by decide), own_fne (i := 4) (by decide), own_fne (i := 5) (by decide), own_fne (i := 6) (by decide), own_fne (i := 7) (by decide), own_fne (i := 8) (by decide)]
                    try rfl
                  rw [eL]
                  exact pk_no (fun q => hc14 (congrArg (fun z => z.getD 2 0) q : (106 : Int32) = d).symm) (fun q => (by decide : ¬ (10 : Nat) = 9) (congrArg List.length q))
                exact tl9 hw G O2 FV hcap S0 hz0 SI SW S1 rf hcw hhE ⟨A2, Fc2, Fv2, V2, (by decide), (by decide)⟩ hd (Or.inl rfl) hE C
            · rw [q]
              refine iIstore C d0_153 (Ls' := #[(.val (.int i0)), (.val (.int i1)), (.val (.int i2)), (.val (.int i3)), (.val (.int bb)), (.val (.int op)), (.val (.ref a2)), (.val (.ref ga1)), (.val (.int (9 : Int32))), (.val (.int d)), (.val (.int (9 : Int32))), (.val (.int (3 : Int32))), .unset, .unset, .unset]) rfl ?_
              refine iIload C d0_155 rfl ?_
              refine iAload C d0_157 rfl rfl ?_
              refine iIload C d0_159 rfl ?_
              refine iCallVB C (payCh hw ⟨A2, Fc2, Fv2, V2, (by decide), (by decide)⟩ (S0.ext O2.2) hz0 (S1.ext O2.2) rf (i := 3) (by decide) rfl (by decide) (by decide)) A2 tw29 tw30 (Or.inl rfl) tw32 tw31 ⟨by decide, by decide⟩ (argsL := [(.int (3 : Int32))]) (S' := [(.int d)]) (lenOf pd1 rfl) rfl rfl d0_161 rfl (W := 1) rfl ⟨rfl, rfl, by decide, by decide⟩ fun v15 h15 q15 => ?_
              obtain ⟨rfl, rfl⟩ := q15
              show Go B n0 _ h2 2 44 164 #[(.val (.int i0)), (.val (.int i1)), (.val (.int i2)), (.val (.int i3)), (.val (.int bb)), (.val (.int op)), (.val (.ref a2)), (.val (.ref ga1)), (.val (.int (9 : Int32))), (.val (.int d)), (.val (.int (9 : Int32))), (.val (.int (3 : Int32))), .unset, .unset, .unset] [(.int (101 : Int32)), (.int d)]
              by_cases hc16 : d = (101 : Int32)
              · refine iCmpF C d0_164 (teq hc16).2 ?_
                refine iAload C d0_167 rfl rfl ?_
                refine iGoto C (t := 173) d0_169 ⟨by decide, by decide⟩ ?_
                refine iAstore C d0_173 (Ls' := #[(.val (.int i0)), (.val (.int i1)), (.val (.int i2)), (.val (.int i3)), (.val (.int bb)), (.val (.int op)), (.val (.ref a2)), (.val (.ref ga1)), (.val (.int (9 : Int32))), (.val (.int d)), (.val (.int (9 : Int32))), (.val (.int (3 : Int32))), (.val (.ref ga1)), .unset, .unset]) rfl rfl ?_
                have hE : pk ga1 ga3 [ff SINJ d (3 : Int32) 0, ff SINJ d (3 : Int32) 1, ff SINJ d (3 : Int32) 2, ff SINJ d (3 : Int32) 3, ff SINJ d (3 : Int32) 4, ff SINJ d (3 : Int32) 5, ff SINJ d (3 : Int32) 6, ff SINJ d (3 : Int32) 7, ff SINJ d (3 : Int32) 8] = (.ref ga1) := by
                  have eL : [ff SINJ d (3 : Int32) 0, ff SINJ d (3 : Int32) 1, ff SINJ d (3 : Int32) 2, ff SINJ d (3 : Int32) 3, ff SINJ d (3 : Int32) 4, ff SINJ d (3 : Int32) 5, ff SINJ d (3 : Int32) 6, ff SINJ d (3 : Int32) 7, ff SINJ d (3 : Int32) 8] = ([(105 : Int32), (110 : Int32), (106 : Int32), d, (99 : Int32), (116 : Int32), (105 : Int32), (111 : Int32), (110 : Int32)] : List Int32) := by
                    rw [own_fne (i := 0) (by decide), own_fne (i := 1) (by decide), own_fne (i := 2) (by decide), own_feq (i := 3) (by decide), own_fne (i := 4) (by decide), own_fne (i := 5) (by decide), own_fne (i := 6) (by decide), own_fne (i := 7) (by decide), own_fne (i := 8) (by decide)]
                    try rfl
                  rw [eL]
                  rw [hc16]
                  rfl
                exact tl9 hw G O2 FV hcap S0 hz0 SI SW S1 rf hcw hhE ⟨A2, Fc2, Fv2, V2, (by decide), (by decide)⟩ hd (Or.inr ⟨_, rfl⟩) hE C
              · refine iCmpT C (t := 172) d0_164 (feq hc16).2 ⟨by decide, by decide⟩ ?_
                refine iNull C d0_172 ?_
                refine iAstore C d0_173 (Ls' := #[(.val (.int i0)), (.val (.int i1)), (.val (.int i2)), (.val (.int i3)), (.val (.int bb)), (.val (.int op)), (.val (.ref a2)), (.val (.ref ga1)), (.val (.int (9 : Int32))), (.val (.int d)), (.val (.int (9 : Int32))), (.val (.int (3 : Int32))), (.val .null), .unset, .unset]) rfl rfl ?_
                have hE : pk ga1 ga3 [ff SINJ d (3 : Int32) 0, ff SINJ d (3 : Int32) 1, ff SINJ d (3 : Int32) 2, ff SINJ d (3 : Int32) 3, ff SINJ d (3 : Int32) 4, ff SINJ d (3 : Int32) 5, ff SINJ d (3 : Int32) 6, ff SINJ d (3 : Int32) 7, ff SINJ d (3 : Int32) 8] = .null := by
                  have eL : [ff SINJ d (3 : Int32) 0, ff SINJ d (3 : Int32) 1, ff SINJ d (3 : Int32) 2, ff SINJ d (3 : Int32) 3, ff SINJ d (3 : Int32) 4, ff SINJ d (3 : Int32) 5, ff SINJ d (3 : Int32) 6, ff SINJ d (3 : Int32) 7, ff SINJ d (3 : Int32) 8] = ([(105 : Int32), (110 : Int32), (106 : Int32), d, (99 : Int32), (116 : Int32), (105 : Int32), (111 : Int32), (110 : Int32)] : List Int32) := by
                    rw [own_fne (i := 0) (by decide), own_fne (i := 1) (by decide), own_fne (i := 2) (by decide), own_feq (i := 3) (by decide), own_fne (i := 4) (by decide), own_fne (i := 5) (by decide), own_fne (i := 6) (by decide), own_fne (i := 7) (by decide), own_fne (i := 8) (by decide)]
                    try rfl
                  rw [eL]
                  exact pk_no (fun q => hc16 (congrArg (fun z => z.getD 3 0) q : (101 : Int32) = d).symm) (fun q => (by decide : ¬ (10 : Nat) = 9) (congrArg List.length q))
                exact tl9 hw G O2 FV hcap S0 hz0 SI SW S1 rf hcw hhE ⟨A2, Fc2, Fv2, V2, (by decide), (by decide)⟩ hd (Or.inl rfl) hE C
            · rw [q]
              refine iIstore C d0_153 (Ls' := #[(.val (.int i0)), (.val (.int i1)), (.val (.int i2)), (.val (.int i3)), (.val (.int bb)), (.val (.int op)), (.val (.ref a2)), (.val (.ref ga1)), (.val (.int (9 : Int32))), (.val (.int d)), (.val (.int (9 : Int32))), (.val (.int (4 : Int32))), .unset, .unset, .unset]) rfl ?_
              refine iIload C d0_155 rfl ?_
              refine iAload C d0_157 rfl rfl ?_
              refine iIload C d0_159 rfl ?_
              refine iCallVB C (payCh hw ⟨A2, Fc2, Fv2, V2, (by decide), (by decide)⟩ (S0.ext O2.2) hz0 (S1.ext O2.2) rf (i := 4) (by decide) rfl (by decide) (by decide)) A2 tw29 tw30 (Or.inl rfl) tw32 tw31 ⟨by decide, by decide⟩ (argsL := [(.int (4 : Int32))]) (S' := [(.int d)]) (lenOf pd1 rfl) rfl rfl d0_161 rfl (W := 1) rfl ⟨rfl, rfl, by decide, by decide⟩ fun v17 h17 q17 => ?_
              obtain ⟨rfl, rfl⟩ := q17
              show Go B n0 _ h2 2 44 164 #[(.val (.int i0)), (.val (.int i1)), (.val (.int i2)), (.val (.int i3)), (.val (.int bb)), (.val (.int op)), (.val (.ref a2)), (.val (.ref ga1)), (.val (.int (9 : Int32))), (.val (.int d)), (.val (.int (9 : Int32))), (.val (.int (4 : Int32))), .unset, .unset, .unset] [(.int (99 : Int32)), (.int d)]
              by_cases hc18 : d = (99 : Int32)
              · refine iCmpF C d0_164 (teq hc18).2 ?_
                refine iAload C d0_167 rfl rfl ?_
                refine iGoto C (t := 173) d0_169 ⟨by decide, by decide⟩ ?_
                refine iAstore C d0_173 (Ls' := #[(.val (.int i0)), (.val (.int i1)), (.val (.int i2)), (.val (.int i3)), (.val (.int bb)), (.val (.int op)), (.val (.ref a2)), (.val (.ref ga1)), (.val (.int (9 : Int32))), (.val (.int d)), (.val (.int (9 : Int32))), (.val (.int (4 : Int32))), (.val (.ref ga1)), .unset, .unset]) rfl rfl ?_
                have hE : pk ga1 ga3 [ff SINJ d (4 : Int32) 0, ff SINJ d (4 : Int32) 1, ff SINJ d (4 : Int32) 2, ff SINJ d (4 : Int32) 3, ff SINJ d (4 : Int32) 4, ff SINJ d (4 : Int32) 5, ff SINJ d (4 : Int32) 6, ff SINJ d (4 : Int32) 7, ff SINJ d (4 : Int32) 8] = (.ref ga1) := by
                  have eL : [ff SINJ d (4 : Int32) 0, ff SINJ d (4 : Int32) 1, ff SINJ d (4 : Int32) 2, ff SINJ d (4 : Int32) 3, ff SINJ d (4 : Int32) 4, ff SINJ d (4 : Int32) 5, ff SINJ d (4 : Int32) 6, ff SINJ d (4 : Int32) 7, ff SINJ d (4 : Int32) 8] = ([(105 : Int32), (110 : Int32), (106 : Int32), (101 : Int32), d, (116 : Int32), (105 : Int32), (111 : Int32), (110 : Int32)] : List Int32) := by
                    rw [own_fne (i := 0) (by decide), own_fne (i := 1) (by decide), own_fne (i := 2) (by decide), own_fne (i := 3) (by decide), own_feq (i := 4) (by decide), own_fne (i := 5) (by decide), own_fne (i := 6) (by decide), own_fne (i := 7) (by decide), own_fne (i := 8) (by decide)]
                    try rfl
                  rw [eL]
                  rw [hc18]
                  rfl
                exact tl9 hw G O2 FV hcap S0 hz0 SI SW S1 rf hcw hhE ⟨A2, Fc2, Fv2, V2, (by decide), (by decide)⟩ hd (Or.inr ⟨_, rfl⟩) hE C
              · refine iCmpT C (t := 172) d0_164 (feq hc18).2 ⟨by decide, by decide⟩ ?_
                refine iNull C d0_172 ?_
                refine iAstore C d0_173 (Ls' := #[(.val (.int i0)), (.val (.int i1)), (.val (.int i2)), (.val (.int i3)), (.val (.int bb)), (.val (.int op)), (.val (.ref a2)), (.val (.ref ga1)), (.val (.int (9 : Int32))), (.val (.int d)), (.val (.int (9 : Int32))), (.val (.int (4 : Int32))), (.val .null), .unset, .unset]) rfl rfl ?_
                have hE : pk ga1 ga3 [ff SINJ d (4 : Int32) 0, ff SINJ d (4 : Int32) 1, ff SINJ d (4 : Int32) 2, ff SINJ d (4 : Int32) 3, ff SINJ d (4 : Int32) 4, ff SINJ d (4 : Int32) 5, ff SINJ d (4 : Int32) 6, ff SINJ d (4 : Int32) 7, ff SINJ d (4 : Int32) 8] = .null := by
                  have eL : [ff SINJ d (4 : Int32) 0, ff SINJ d (4 : Int32) 1, ff SINJ d (4 : Int32) 2, ff SINJ d (4 : Int32) 3, ff SINJ d (4 : Int32) 4, ff SINJ d (4 : Int32) 5, ff SINJ d (4 : Int32) 6, ff SINJ d (4 : Int32) 7, ff SINJ d (4 : Int32) 8] = ([(105 : Int32), (110 : Int32), (106 : Int32), (101 : Int32), d, (116 : Int32), (105 : Int32), (111 : Int32), (110 : Int32)] : List Int32) := by
                    rw [own_fne (i := 0) (by decide), own_fne (i := 1) (by decide), own_fne (i := 2) (by decide), own_fne (i := 3) (by decide), own_feq (i := 4) (by decide), own_fne (i := 5) (by decide), own_fne (i := 6) (by decide), own_fne (i := 7) (by decide), own_fne (i := 8) (by decide)]
                    try rfl
                  rw [eL]
                  exact pk_no (fun q => hc18 (congrArg (fun z => z.getD 4 0) q : (99 : Int32) = d).symm) (fun q => (by decide : ¬ (10 : Nat) = 9) (congrArg List.length q))
                exact tl9 hw G O2 FV hcap S0 hz0 SI SW S1 rf hcw hhE ⟨A2, Fc2, Fv2, V2, (by decide), (by decide)⟩ hd (Or.inl rfl) hE C
            · rw [q]
              refine iIstore C d0_153 (Ls' := #[(.val (.int i0)), (.val (.int i1)), (.val (.int i2)), (.val (.int i3)), (.val (.int bb)), (.val (.int op)), (.val (.ref a2)), (.val (.ref ga1)), (.val (.int (9 : Int32))), (.val (.int d)), (.val (.int (9 : Int32))), (.val (.int (5 : Int32))), .unset, .unset, .unset]) rfl ?_
              refine iIload C d0_155 rfl ?_
              refine iAload C d0_157 rfl rfl ?_
              refine iIload C d0_159 rfl ?_
              refine iCallVB C (payCh hw ⟨A2, Fc2, Fv2, V2, (by decide), (by decide)⟩ (S0.ext O2.2) hz0 (S1.ext O2.2) rf (i := 5) (by decide) rfl (by decide) (by decide)) A2 tw29 tw30 (Or.inl rfl) tw32 tw31 ⟨by decide, by decide⟩ (argsL := [(.int (5 : Int32))]) (S' := [(.int d)]) (lenOf pd1 rfl) rfl rfl d0_161 rfl (W := 1) rfl ⟨rfl, rfl, by decide, by decide⟩ fun v19 h19 q19 => ?_
              obtain ⟨rfl, rfl⟩ := q19
              show Go B n0 _ h2 2 44 164 #[(.val (.int i0)), (.val (.int i1)), (.val (.int i2)), (.val (.int i3)), (.val (.int bb)), (.val (.int op)), (.val (.ref a2)), (.val (.ref ga1)), (.val (.int (9 : Int32))), (.val (.int d)), (.val (.int (9 : Int32))), (.val (.int (5 : Int32))), .unset, .unset, .unset] [(.int (116 : Int32)), (.int d)]
              by_cases hc20 : d = (116 : Int32)
              · refine iCmpF C d0_164 (teq hc20).2 ?_
                refine iAload C d0_167 rfl rfl ?_
                refine iGoto C (t := 173) d0_169 ⟨by decide, by decide⟩ ?_
                refine iAstore C d0_173 (Ls' := #[(.val (.int i0)), (.val (.int i1)), (.val (.int i2)), (.val (.int i3)), (.val (.int bb)), (.val (.int op)), (.val (.ref a2)), (.val (.ref ga1)), (.val (.int (9 : Int32))), (.val (.int d)), (.val (.int (9 : Int32))), (.val (.int (5 : Int32))), (.val (.ref ga1)), .unset, .unset]) rfl rfl ?_
                have hE : pk ga1 ga3 [ff SINJ d (5 : Int32) 0, ff SINJ d (5 : Int32) 1, ff SINJ d (5 : Int32) 2, ff SINJ d (5 : Int32) 3, ff SINJ d (5 : Int32) 4, ff SINJ d (5 : Int32) 5, ff SINJ d (5 : Int32) 6, ff SINJ d (5 : Int32) 7, ff SINJ d (5 : Int32) 8] = (.ref ga1) := by
                  have eL : [ff SINJ d (5 : Int32) 0, ff SINJ d (5 : Int32) 1, ff SINJ d (5 : Int32) 2, ff SINJ d (5 : Int32) 3, ff SINJ d (5 : Int32) 4, ff SINJ d (5 : Int32) 5, ff SINJ d (5 : Int32) 6, ff SINJ d (5 : Int32) 7, ff SINJ d (5 : Int32) 8] = ([(105 : Int32), (110 : Int32), (106 : Int32), (101 : Int32), (99 : Int32), d, (105 : Int32), (111 : Int32), (110 : Int32)] : List Int32) := by
                    rw [own_fne (i := 0) (by decide), own_fne (i := 1) (by decide), own_fne (i := 2) (by decide), own_fne (i := 3) (by decide), own_fne (i := 4) (by decide), own_feq (i := 5) (by decide), own_fne (i := 6) (by decide), own_fne (i := 7) (by decide), own_fne (i := 8) (by decide)]
                    try rfl
                  rw [eL]
                  rw [hc20]
                  rfl
                exact tl9 hw G O2 FV hcap S0 hz0 SI SW S1 rf hcw hhE ⟨A2, Fc2, Fv2, V2, (by decide), (by decide)⟩ hd (Or.inr ⟨_, rfl⟩) hE C
              · refine iCmpT C (t := 172) d0_164 (feq hc20).2 ⟨by decide, by decide⟩ ?_
                refine iNull C d0_172 ?_
                refine iAstore C d0_173 (Ls' := #[(.val (.int i0)), (.val (.int i1)), (.val (.int i2)), (.val (.int i3)), (.val (.int bb)), (.val (.int op)), (.val (.ref a2)), (.val (.ref ga1)), (.val (.int (9 : Int32))), (.val (.int d)), (.val (.int (9 : Int32))), (.val (.int (5 : Int32))), (.val .null), .unset, .unset]) rfl rfl ?_
                have hE : pk ga1 ga3 [ff SINJ d (5 : Int32) 0, ff SINJ d (5 : Int32) 1, ff SINJ d (5 : Int32) 2, ff SINJ d (5 : Int32) 3, ff SINJ d (5 : Int32) 4, ff SINJ d (5 : Int32) 5, ff SINJ d (5 : Int32) 6, ff SINJ d (5 : Int32) 7, ff SINJ d (5 : Int32) 8] = .null := by
                  have eL : [ff SINJ d (5 : Int32) 0, ff SINJ d (5 : Int32) 1, ff SINJ d (5 : Int32) 2, ff SINJ d (5 : Int32) 3, ff SINJ d (5 : Int32) 4, ff SINJ d (5 : Int32) 5, ff SINJ d (5 : Int32) 6, ff SINJ d (5 : Int32) 7, ff SINJ d (5 : Int32) 8] = ([(105 : Int32), (110 : Int32), (106 : Int32), (101 : Int32), (99 : Int32), d, (105 : Int32), (111 : Int32), (110 : Int32)] : List Int32) := by
                    rw [own_fne (i := 0) (by decide), own_fne (i := 1) (by decide), own_fne (i := 2) (by decide), own_fne (i := 3) (by decide), own_fne (i := 4) (by decide), own_feq (i := 5) (by decide), own_fne (i := 6) (by decide), own_fne (i := 7) (by decide), own_fne (i := 8) (by decide)]
                    try rfl
                  rw [eL]
                  exact pk_no (fun q => hc20 (congrArg (fun z => z.getD 5 0) q : (116 : Int32) = d).symm) (fun q => (by decide : ¬ (10 : Nat) = 9) (congrArg List.length q))
                exact tl9 hw G O2 FV hcap S0 hz0 SI SW S1 rf hcw hhE ⟨A2, Fc2, Fv2, V2, (by decide), (by decide)⟩ hd (Or.inl rfl) hE C
            · rw [q]
              refine iIstore C d0_153 (Ls' := #[(.val (.int i0)), (.val (.int i1)), (.val (.int i2)), (.val (.int i3)), (.val (.int bb)), (.val (.int op)), (.val (.ref a2)), (.val (.ref ga1)), (.val (.int (9 : Int32))), (.val (.int d)), (.val (.int (9 : Int32))), (.val (.int (6 : Int32))), .unset, .unset, .unset]) rfl ?_
              refine iIload C d0_155 rfl ?_
              refine iAload C d0_157 rfl rfl ?_
              refine iIload C d0_159 rfl ?_
              refine iCallVB C (payCh hw ⟨A2, Fc2, Fv2, V2, (by decide), (by decide)⟩ (S0.ext O2.2) hz0 (S1.ext O2.2) rf (i := 6) (by decide) rfl (by decide) (by decide)) A2 tw29 tw30 (Or.inl rfl) tw32 tw31 ⟨by decide, by decide⟩ (argsL := [(.int (6 : Int32))]) (S' := [(.int d)]) (lenOf pd1 rfl) rfl rfl d0_161 rfl (W := 1) rfl ⟨rfl, rfl, by decide, by decide⟩ fun v21 h21 q21 => ?_
              obtain ⟨rfl, rfl⟩ := q21
              show Go B n0 _ h2 2 44 164 #[(.val (.int i0)), (.val (.int i1)), (.val (.int i2)), (.val (.int i3)), (.val (.int bb)), (.val (.int op)), (.val (.ref a2)), (.val (.ref ga1)), (.val (.int (9 : Int32))), (.val (.int d)), (.val (.int (9 : Int32))), (.val (.int (6 : Int32))), .unset, .unset, .unset] [(.int (105 : Int32)), (.int d)]
              by_cases hc22 : d = (105 : Int32)
              · refine iCmpF C d0_164 (teq hc22).2 ?_
                refine iAload C d0_167 rfl rfl ?_
                refine iGoto C (t := 173) d0_169 ⟨by decide, by decide⟩ ?_
                refine iAstore C d0_173 (Ls' := #[(.val (.int i0)), (.val (.int i1)), (.val (.int i2)), (.val (.int i3)), (.val (.int bb)), (.val (.int op)), (.val (.ref a2)), (.val (.ref ga1)), (.val (.int (9 : Int32))), (.val (.int d)), (.val (.int (9 : Int32))), (.val (.int (6 : Int32))), (.val (.ref ga1)), .unset, .unset]) rfl rfl ?_
                have hE : pk ga1 ga3 [ff SINJ d (6 : Int32) 0, ff SINJ d (6 : Int32) 1, ff SINJ d (6 : Int32) 2, ff SINJ d (6 : Int32) 3, ff SINJ d (6 : Int32) 4, ff SINJ d (6 : Int32) 5, ff SINJ d (6 : Int32) 6, ff SINJ d (6 : Int32) 7, ff SINJ d (6 : Int32) 8] = (.ref ga1) := by
                  have eL : [ff SINJ d (6 : Int32) 0, ff SINJ d (6 : Int32) 1, ff SINJ d (6 : Int32) 2, ff SINJ d (6 : Int32) 3, ff SINJ d (6 : Int32) 4, ff SINJ d (6 : Int32) 5, ff SINJ d (6 : Int32) 6, ff SINJ d (6 : Int32) 7, ff SINJ d (6 : Int32) 8] = ([(105 : Int32), (110 : Int32), (106 : Int32), (101 : Int32), (99 : Int32), (116 : Int32), d, (111 : Int32), (110 : Int32)] : List Int32) := by
                    rw [own_fne (i := 0) (by decide), own_fne (i := 1) (by decide), own_fne (i := 2) (by decide), own_fne (i := 3) (by decide), own_fne (i := 4) (by decide), own_fne (i := 5) (by decide), own_feq (i := 6) (by decide), own_fne (i := 7) (by decide), own_fne (i := 8) (by decide)]
                    try rfl
                  rw [eL]
                  rw [hc22]
                  rfl
                exact tl9 hw G O2 FV hcap S0 hz0 SI SW S1 rf hcw hhE ⟨A2, Fc2, Fv2, V2, (by decide), (by decide)⟩ hd (Or.inr ⟨_, rfl⟩) hE C
              · refine iCmpT C (t := 172) d0_164 (feq hc22).2 ⟨by decide, by decide⟩ ?_
                refine iNull C d0_172 ?_
                refine iAstore C d0_173 (Ls' := #[(.val (.int i0)), (.val (.int i1)), (.val (.int i2)), (.val (.int i3)), (.val (.int bb)), (.val (.int op)), (.val (.ref a2)), (.val (.ref ga1)), (.val (.int (9 : Int32))), (.val (.int d)), (.val (.int (9 : Int32))), (.val (.int (6 : Int32))), (.val .null), .unset, .unset]) rfl rfl ?_
                have hE : pk ga1 ga3 [ff SINJ d (6 : Int32) 0, ff SINJ d (6 : Int32) 1, ff SINJ d (6 : Int32) 2, ff SINJ d (6 : Int32) 3, ff SINJ d (6 : Int32) 4, ff SINJ d (6 : Int32) 5, ff SINJ d (6 : Int32) 6, ff SINJ d (6 : Int32) 7, ff SINJ d (6 : Int32) 8] = .null := by
                  have eL : [ff SINJ d (6 : Int32) 0, ff SINJ d (6 : Int32) 1, ff SINJ d (6 : Int32) 2, ff SINJ d (6 : Int32) 3, ff SINJ d (6 : Int32) 4, ff SINJ d (6 : Int32) 5, ff SINJ d (6 : Int32) 6, ff SINJ d (6 : Int32) 7, ff SINJ d (6 : Int32) 8] = ([(105 : Int32), (110 : Int32), (106 : Int32), (101 : Int32), (99 : Int32), (116 : Int32), d, (111 : Int32), (110 : Int32)] : List Int32) := by
                    rw [own_fne (i := 0) (by decide), own_fne (i := 1) (by decide), own_fne (i := 2) (by decide), own_fne (i := 3) (by decide), own_fne (i := 4) (by decide), own_fne (i := 5) (by decide), own_feq (i := 6) (by decide), own_fne (i := 7) (by decide), own_fne (i := 8) (by decide)]
                    try rfl
                  rw [eL]
                  exact pk_no (fun q => hc22 (congrArg (fun z => z.getD 6 0) q : (105 : Int32) = d).symm) (fun q => (by decide : ¬ (10 : Nat) = 9) (congrArg List.length q))
                exact tl9 hw G O2 FV hcap S0 hz0 SI SW S1 rf hcw hhE ⟨A2, Fc2, Fv2, V2, (by decide), (by decide)⟩ hd (Or.inl rfl) hE C
            · rw [q]
              refine iIstore C d0_153 (Ls' := #[(.val (.int i0)), (.val (.int i1)), (.val (.int i2)), (.val (.int i3)), (.val (.int bb)), (.val (.int op)), (.val (.ref a2)), (.val (.ref ga1)), (.val (.int (9 : Int32))), (.val (.int d)), (.val (.int (9 : Int32))), (.val (.int (7 : Int32))), .unset, .unset, .unset]) rfl ?_
              refine iIload C d0_155 rfl ?_
              refine iAload C d0_157 rfl rfl ?_
              refine iIload C d0_159 rfl ?_
              refine iCallVB C (payCh hw ⟨A2, Fc2, Fv2, V2, (by decide), (by decide)⟩ (S0.ext O2.2) hz0 (S1.ext O2.2) rf (i := 7) (by decide) rfl (by decide) (by decide)) A2 tw29 tw30 (Or.inl rfl) tw32 tw31 ⟨by decide, by decide⟩ (argsL := [(.int (7 : Int32))]) (S' := [(.int d)]) (lenOf pd1 rfl) rfl rfl d0_161 rfl (W := 1) rfl ⟨rfl, rfl, by decide, by decide⟩ fun v23 h23 q23 => ?_
              obtain ⟨rfl, rfl⟩ := q23
              show Go B n0 _ h2 2 44 164 #[(.val (.int i0)), (.val (.int i1)), (.val (.int i2)), (.val (.int i3)), (.val (.int bb)), (.val (.int op)), (.val (.ref a2)), (.val (.ref ga1)), (.val (.int (9 : Int32))), (.val (.int d)), (.val (.int (9 : Int32))), (.val (.int (7 : Int32))), .unset, .unset, .unset] [(.int (111 : Int32)), (.int d)]
              by_cases hc24 : d = (111 : Int32)
              · refine iCmpF C d0_164 (teq hc24).2 ?_
                refine iAload C d0_167 rfl rfl ?_
                refine iGoto C (t := 173) d0_169 ⟨by decide, by decide⟩ ?_
                refine iAstore C d0_173 (Ls' := #[(.val (.int i0)), (.val (.int i1)), (.val (.int i2)), (.val (.int i3)), (.val (.int bb)), (.val (.int op)), (.val (.ref a2)), (.val (.ref ga1)), (.val (.int (9 : Int32))), (.val (.int d)), (.val (.int (9 : Int32))), (.val (.int (7 : Int32))), (.val (.ref ga1)), .unset, .unset]) rfl rfl ?_
                have hE : pk ga1 ga3 [ff SINJ d (7 : Int32) 0, ff SINJ d (7 : Int32) 1, ff SINJ d (7 : Int32) 2, ff SINJ d (7 : Int32) 3, ff SINJ d (7 : Int32) 4, ff SINJ d (7 : Int32) 5, ff SINJ d (7 : Int32) 6, ff SINJ d (7 : Int32) 7, ff SINJ d (7 : Int32) 8] = (.ref ga1) := by
                  have eL : [ff SINJ d (7 : Int32) 0, ff SINJ d (7 : Int32) 1, ff SINJ d (7 : Int32) 2, ff SINJ d (7 : Int32) 3, ff SINJ d (7 : Int32) 4, ff SINJ d (7 : Int32) 5, ff SINJ d (7 : Int32) 6, ff SINJ d (7 : Int32) 7, ff SINJ d (7 : Int32) 8] = ([(105 : Int32), (110 : Int32), (106 : Int32), (101 : Int32), (99 : Int32), (116 : Int32), (105 : Int32), d, (110 : Int32)] : List Int32) := by
                    rw [own_fne (i := 0) (by decide), own_fne (i := 1) (by decide), own_fne (i := 2) (by decide), own_fne (i := 3) (by decide), own_fne (i := 4) (by decide), own_fne (i := 5) (by decide), own_fne (i := 6) (by decide), own_feq (i := 7) (by decide), own_fne (i := 8) (by decide)]
                    try rfl
                  rw [eL]
                  rw [hc24]
                  rfl
                exact tl9 hw G O2 FV hcap S0 hz0 SI SW S1 rf hcw hhE ⟨A2, Fc2, Fv2, V2, (by decide), (by decide)⟩ hd (Or.inr ⟨_, rfl⟩) hE C
              · refine iCmpT C (t := 172) d0_164 (feq hc24).2 ⟨by decide, by decide⟩ ?_
                refine iNull C d0_172 ?_
                refine iAstore C d0_173 (Ls' := #[(.val (.int i0)), (.val (.int i1)), (.val (.int i2)), (.val (.int i3)), (.val (.int bb)), (.val (.int op)), (.val (.ref a2)), (.val (.ref ga1)), (.val (.int (9 : Int32))), (.val (.int d)), (.val (.int (9 : Int32))), (.val (.int (7 : Int32))), (.val .null), .unset, .unset]) rfl rfl ?_
                have hE : pk ga1 ga3 [ff SINJ d (7 : Int32) 0, ff SINJ d (7 : Int32) 1, ff SINJ d (7 : Int32) 2, ff SINJ d (7 : Int32) 3, ff SINJ d (7 : Int32) 4, ff SINJ d (7 : Int32) 5, ff SINJ d (7 : Int32) 6, ff SINJ d (7 : Int32) 7, ff SINJ d (7 : Int32) 8] = .null := by
                  have eL : [ff SINJ d (7 : Int32) 0, ff SINJ d (7 : Int32) 1, ff SINJ d (7 : Int32) 2, ff SINJ d (7 : Int32) 3, ff SINJ d (7 : Int32) 4, ff SINJ d (7 : Int32) 5, ff SINJ d (7 : Int32) 6, ff SINJ d (7 : Int32) 7, ff SINJ d (7 : Int32) 8] = ([(105 : Int32), (110 : Int32), (106 : Int32), (101 : Int32), (99 : Int32), (116 : Int32), (105 : Int32), d, (110 : Int32)] : List Int32) := by
                    rw [own_fne (i := 0) (by decide), own_fne (i := 1) (by decide), own_fne (i := 2) (by decide), own_fne (i := 3) (by decide), own_fne (i := 4) (by decide), own_fne (i := 5) (by decide), own_fne (i := 6) (by decide), own_feq (i := 7) (by decide), own_fne (i := 8) (by decide)]
                    try rfl
                  rw [eL]
                  exact pk_no (fun q => hc24 (congrArg (fun z => z.getD 7 0) q : (111 : Int32) = d).symm) (fun q => (by decide : ¬ (10 : Nat) = 9) (congrArg List.length q))
                exact tl9 hw G O2 FV hcap S0 hz0 SI SW S1 rf hcw hhE ⟨A2, Fc2, Fv2, V2, (by decide), (by decide)⟩ hd (Or.inl rfl) hE C
            · rw [q]
              refine iIstore C d0_153 (Ls' := #[(.val (.int i0)), (.val (.int i1)), (.val (.int i2)), (.val (.int i3)), (.val (.int bb)), (.val (.int op)), (.val (.ref a2)), (.val (.ref ga1)), (.val (.int (9 : Int32))), (.val (.int d)), (.val (.int (9 : Int32))), (.val (.int (8 : Int32))), .unset, .unset, .unset]) rfl ?_
              refine iIload C d0_155 rfl ?_
              refine iAload C d0_157 rfl rfl ?_
              refine iIload C d0_159 rfl ?_
              refine iCallVB C (payCh hw ⟨A2, Fc2, Fv2, V2, (by decide), (by decide)⟩ (S0.ext O2.2) hz0 (S1.ext O2.2) rf (i := 8) (by decide) rfl (by decide) (by decide)) A2 tw29 tw30 (Or.inl rfl) tw32 tw31 ⟨by decide, by decide⟩ (argsL := [(.int (8 : Int32))]) (S' := [(.int d)]) (lenOf pd1 rfl) rfl rfl d0_161 rfl (W := 1) rfl ⟨rfl, rfl, by decide, by decide⟩ fun v25 h25 q25 => ?_
              obtain ⟨rfl, rfl⟩ := q25
              show Go B n0 _ h2 2 44 164 #[(.val (.int i0)), (.val (.int i1)), (.val (.int i2)), (.val (.int i3)), (.val (.int bb)), (.val (.int op)), (.val (.ref a2)), (.val (.ref ga1)), (.val (.int (9 : Int32))), (.val (.int d)), (.val (.int (9 : Int32))), (.val (.int (8 : Int32))), .unset, .unset, .unset] [(.int (110 : Int32)), (.int d)]
              by_cases hc26 : d = (110 : Int32)
              · refine iCmpF C d0_164 (teq hc26).2 ?_
                refine iAload C d0_167 rfl rfl ?_
                refine iGoto C (t := 173) d0_169 ⟨by decide, by decide⟩ ?_
                refine iAstore C d0_173 (Ls' := #[(.val (.int i0)), (.val (.int i1)), (.val (.int i2)), (.val (.int i3)), (.val (.int bb)), (.val (.int op)), (.val (.ref a2)), (.val (.ref ga1)), (.val (.int (9 : Int32))), (.val (.int d)), (.val (.int (9 : Int32))), (.val (.int (8 : Int32))), (.val (.ref ga1)), .unset, .unset]) rfl rfl ?_
                have hE : pk ga1 ga3 [ff SINJ d (8 : Int32) 0, ff SINJ d (8 : Int32) 1, ff SINJ d (8 : Int32) 2, ff SINJ d (8 : Int32) 3, ff SINJ d (8 : Int32) 4, ff SINJ d (8 : Int32) 5, ff SINJ d (8 : Int32) 6, ff SINJ d (8 : Int32) 7, ff SINJ d (8 : Int32) 8] = (.ref ga1) := by
                  have eL : [ff SINJ d (8 : Int32) 0, ff SINJ d (8 : Int32) 1, ff SINJ d (8 : Int32) 2, ff SINJ d (8 : Int32) 3, ff SINJ d (8 : Int32) 4, ff SINJ d (8 : Int32) 5, ff SINJ d (8 : Int32) 6, ff SINJ d (8 : Int32) 7, ff SINJ d (8 : Int32) 8] = ([(105 : Int32), (110 : Int32), (106 : Int32), (101 : Int32), (99 : Int32), (116 : Int32), (105 : Int32), (111 : Int32), d] : List Int32) := by
                    rw [own_fne (i := 0) (by decide), own_fne (i := 1) (by decide), own_fne (i := 2) (by decide), own_fne (i := 3) (by decide), own_fne (i := 4) (by decide), own_fne (i := 5) (by decide), own_fne (i := 6) (by decide), own_fne (i := 7) (by decide), own_feq (i := 8) (by decide)]
                    try rfl
                  rw [eL]
                  rw [hc26]
                  rfl
                exact tl9 hw G O2 FV hcap S0 hz0 SI SW S1 rf hcw hhE ⟨A2, Fc2, Fv2, V2, (by decide), (by decide)⟩ hd (Or.inr ⟨_, rfl⟩) hE C
              · refine iCmpT C (t := 172) d0_164 (feq hc26).2 ⟨by decide, by decide⟩ ?_
                refine iNull C d0_172 ?_
                refine iAstore C d0_173 (Ls' := #[(.val (.int i0)), (.val (.int i1)), (.val (.int i2)), (.val (.int i3)), (.val (.int bb)), (.val (.int op)), (.val (.ref a2)), (.val (.ref ga1)), (.val (.int (9 : Int32))), (.val (.int d)), (.val (.int (9 : Int32))), (.val (.int (8 : Int32))), (.val .null), .unset, .unset]) rfl rfl ?_
                have hE : pk ga1 ga3 [ff SINJ d (8 : Int32) 0, ff SINJ d (8 : Int32) 1, ff SINJ d (8 : Int32) 2, ff SINJ d (8 : Int32) 3, ff SINJ d (8 : Int32) 4, ff SINJ d (8 : Int32) 5, ff SINJ d (8 : Int32) 6, ff SINJ d (8 : Int32) 7, ff SINJ d (8 : Int32) 8] = .null := by
                  have eL : [ff SINJ d (8 : Int32) 0, ff SINJ d (8 : Int32) 1, ff SINJ d (8 : Int32) 2, ff SINJ d (8 : Int32) 3, ff SINJ d (8 : Int32) 4, ff SINJ d (8 : Int32) 5, ff SINJ d (8 : Int32) 6, ff SINJ d (8 : Int32) 7, ff SINJ d (8 : Int32) 8] = ([(105 : Int32), (110 : Int32), (106 : Int32), (101 : Int32), (99 : Int32), (116 : Int32), (105 : Int32), (111 : Int32), d] : List Int32) := by
                    rw [own_fne (i := 0) (by decide), own_fne (i := 1) (by decide), own_fne (i := 2) (by decide), own_fne (i := 3) (by decide), own_fne (i := 4) (by decide), own_fne (i := 5) (by decide), own_fne (i := 6) (by decide), own_fne (i := 7) (by decide), own_feq (i := 8) (by decide)]
                    try rfl
                  rw [eL]
                  exact pk_no (fun q => hc26 (congrArg (fun z => z.getD 8 0) q : (110 : Int32) = d).symm) (fun q => (by decide : ¬ (10 : Nat) = 9) (congrArg List.length q))
                exact tl9 hw G O2 FV hcap S0 hz0 SI SW S1 rf hcw hhE ⟨A2, Fc2, Fv2, V2, (by decide), (by decide)⟩ hd (Or.inl rfl) hE C
  · refine iIfT C (t := 23) d0_15 ((if0 _ _).trans (feq hc1).2) ⟨by decide, by decide⟩ ?_
    refine iLdcS C D H (z := Int32.ofNat SWD.length) (vs := (SWD.map lo8).map Value.int) (nn := 40) tw103 own_wS hhW hcw (by simp) (by simp) ⟨by decide, by decide⟩ (by decide) (by decide) d0_23 (by decide) (by decide) ⟨rfl, rfl, by decide, by decide⟩ fun B h27 a27 t27 k27 C D H Bk27 E27 A27 Fc27 Fv27 V27 => ?_
    have O27 := O.ext E27
    refine iAstore C d0_25 (Ls' := #[(.val (.int i0)), (.val (.int i1)), (.val (.int i2)), (.val (.int i3)), (.val (.int bb)), (.val (.int op)), (.val (.ref a27)), .unset, .unset, .unset, .unset, .unset, .unset, .unset, .unset]) rfl rfl ?_
    refine iIload C d0_27 rfl ?_
    refine iIfT C (t := 38) d0_29 ((if0 _ _).trans (feq hc1).2) ⟨by decide, by decide⟩ ?_
    refine iGetS C tw104 (G.2.2.2.2.2.1.ext O27.2) d0_38 ?_
    refine iAstore C d0_41 (Ls' := #[(.val (.int i0)), (.val (.int i1)), (.val (.int i2)), (.val (.int i3)), (.val (.int bb)), (.val (.int op)), (.val (.ref a27)), (.val (.ref ga3)), .unset, .unset, .unset, .unset, .unset, .unset, .unset]) rfl rfl ?_
    refine iAload C d0_43 rfl rfl ?_
    refine iCallVB C (payLen hw ⟨A27, Fc27, Fv27, V27, (by decide), (by decide)⟩ (S0.ext O27.2) hz0 (by decide) (by decide)) A27 tw11 tw12 (Or.inl rfl) tw14 tw13 ⟨by decide, by decide⟩ (argsL := []) (S' := []) (lenOf pd0 rfl) rfl rfl d0_45 rfl (W := 0) rfl ⟨rfl, rfl, by decide, by decide⟩ fun v28 h28 q28 => ?_
    obtain ⟨rfl, rfl⟩ := q28
    show Go B n0 _ h27 2 44 48 #[(.val (.int i0)), (.val (.int i1)), (.val (.int i2)), (.val (.int i3)), (.val (.int bb)), (.val (.int op)), (.val (.ref a27)), (.val (.ref ga3)), .unset, .unset, .unset, .unset, .unset, .unset, .unset] [(.int (10 : Int32))]
    refine iIstore C d0_48 (Ls' := #[(.val (.int i0)), (.val (.int i1)), (.val (.int i2)), (.val (.int i3)), (.val (.int bb)), (.val (.int op)), (.val (.ref a27)), (.val (.ref ga3)), (.val (.int (10 : Int32))), .unset, .unset, .unset, .unset, .unset, .unset]) rfl ?_
    refine iIloadN C d0_50 rfl ?_
    refine iSipush C d0_51 (v := (255 : Int32)) (by decide) ?_
    refine iIand C d0_54 rfl ?_
    refine iI2c C d0_55 rfl ?_
    refine iIstore C d0_56 (Ls' := #[(.val (.int i0)), (.val (.int i1)), (.val (.int i2)), (.val (.int i3)), (.val (.int bb)), (.val (.int op)), (.val (.ref a27)), (.val (.ref ga3)), (.val (.int (10 : Int32))), (.val (.int ((i2 &&& (255 : Int32))).toUInt32.toUInt16.toUInt32.toInt32)), .unset, .unset, .unset, .unset, .unset]) rfl ?_
    have hd := own_d i2
    generalize ((i2 &&& (255 : Int32))).toUInt32.toUInt16.toUInt32.toInt32 = d at hd ⊢
    refine iIload C d0_58 rfl ?_
    by_cases hc29 : op = (0 : Int32)
    · refine iIfF C d0_60 ((if0 _ _).trans (teq hc29).2) ?_
      refine iIload C d0_63 rfl ?_
      refine iIstore C d0_65 (Ls' := #[(.val (.int i0)), (.val (.int i1)), (.val (.int i2)), (.val (.int i3)), (.val (.int bb)), (.val (.int op)), (.val (.ref a27)), (.val (.ref ga3)), (.val (.int (10 : Int32))), (.val (.int d)), (.val (.int (10 : Int32))), .unset, .unset, .unset, .unset]) rfl ?_
      refine iIconst C d0_67 (v := (-1 : Int32)) (by decide) ?_
      refine iIstore C d0_68 (Ls' := #[(.val (.int i0)), (.val (.int i1)), (.val (.int i2)), (.val (.int i3)), (.val (.int bb)), (.val (.int op)), (.val (.ref a27)), (.val (.ref ga3)), (.val (.int (10 : Int32))), (.val (.int d)), (.val (.int (10 : Int32))), (.val (.int (-1 : Int32))), .unset, .unset, .unset]) rfl ?_
      refine iAload C d0_70 rfl rfl ?_
      refine iAstore C d0_72 (Ls' := #[(.val (.int i0)), (.val (.int i1)), (.val (.int i2)), (.val (.int i3)), (.val (.int bb)), (.val (.int op)), (.val (.ref a27)), (.val (.ref ga3)), (.val (.int (10 : Int32))), (.val (.int d)), (.val (.int (10 : Int32))), (.val (.int (-1 : Int32))), (.val (.ref ga3)), .unset, .unset]) rfl rfl ?_
      refine iGoto C (t := 175) d0_74 ⟨by decide, by decide⟩ ?_
      have hE : pk ga1 ga3 [ff SWD d (-1 : Int32) 0, ff SWD d (-1 : Int32) 1, ff SWD d (-1 : Int32) 2, ff SWD d (-1 : Int32) 3, ff SWD d (-1 : Int32) 4, ff SWD d (-1 : Int32) 5, ff SWD d (-1 : Int32) 6, ff SWD d (-1 : Int32) 7, ff SWD d (-1 : Int32) 8, ff SWD d (-1 : Int32) 9] = (.ref ga3) := by
        have eL : [ff SWD d (-1 : Int32) 0, ff SWD d (-1 : Int32) 1, ff SWD d (-1 : Int32) 2, ff SWD d (-1 : Int32) 3, ff SWD d (-1 : Int32) 4, ff SWD d (-1 : Int32) 5, ff SWD d (-1 : Int32) 6, ff SWD d (-1 : Int32) 7, ff SWD d (-1 : Int32) 8, ff SWD d (-1 : Int32) 9] = ([(119 : Int32), (105 : Int32), (116 : Int32), (104 : Int32), (100 : Int32), (114 : Int32), (97 : Int32), (119 : Int32), (97 : Int32), (108 : Int32)] : List Int32) := by
          rw [own_fne (i := 0) (by decide), own_fne (i := 1) (by decide), own_fne (i := 2) (by decide), own_fne (i := 3) (by decide), own_fne (i := 4) (by decide), own_fne (i := 5) (by decide), own_fne (i := 6) (by decide), own_fne (i := 7) (by decide), own_fne (i := 8) (by decide), own_fne (i := 9) (by decide)]
          try rfl
        rw [eL]
        rfl
      exact tl10 hw G O27 FV hcap S0 hz0 SI SW S1 rf hcw hhE ⟨A27, Fc27, Fv27, V27, (by decide), (by decide)⟩ hd (Or.inr ⟨_, rfl⟩) hE C
    · refine iIfT C (t := 77) d0_60 ((if0 _ _).trans (feq hc29).2) ⟨by decide, by decide⟩ ?_
      refine iIload C d0_77 rfl ?_
      refine iIconst C d0_79 (v := (2 : Int32)) (by decide) ?_
      by_cases hc30 : op = (2 : Int32)
      · refine iCmpF C d0_80 (teq hc30).2 ?_
        refine iIloadN C d0_83 rfl ?_
        refine iLdcI C tw102 d0_84 ?_
        refine iIand C d0_86 rfl ?_
        refine iIload C d0_87 rfl ?_
        refine iIrem C d0_89 (by decide) rfl ?_
        rcases own_mod10 i3 with q | q | q | q | q | q | q | q | q | q
        · rw [q]
          refine iIstore C d0_90 (Ls' := #[(.val (.int i0)), (.val (.int i1)), (.val (.int i2)), (.val (.int i3)), (.val (.int bb)), (.val (.int op)), (.val (.ref a27)), (.val (.ref ga3)), (.val (.int (10 : Int32))), (.val (.int d)), (.val (.int (0 : Int32))), .unset, .unset, .unset, .unset]) rfl ?_
          refine iIconst C d0_92 (v := (-1 : Int32)) (by decide) ?_
          refine iIstore C d0_93 (Ls' := #[(.val (.int i0)), (.val (.int i1)), (.val (.int i2)), (.val (.int i3)), (.val (.int bb)), (.val (.int op)), (.val (.ref a27)), (.val (.ref ga3)), (.val (.int (10 : Int32))), (.val (.int d)), (.val (.int (0 : Int32))), (.val (.int (-1 : Int32))), .unset, .unset, .unset]) rfl ?_
          refine iNull C d0_95 ?_
          refine iAstore C d0_96 (Ls' := #[(.val (.int i0)), (.val (.int i1)), (.val (.int i2)), (.val (.int i3)), (.val (.int bb)), (.val (.int op)), (.val (.ref a27)), (.val (.ref ga3)), (.val (.int (10 : Int32))), (.val (.int d)), (.val (.int (0 : Int32))), (.val (.int (-1 : Int32))), (.val .null), .unset, .unset]) rfl rfl ?_
          refine iGoto C (t := 175) d0_98 ⟨by decide, by decide⟩ ?_
          have hE : pk ga1 ga3 SEMP = .null := by
            rfl
          exact tl0w hw G O27 FV hcap S0 hz0 SI SW S1 rf hcw hhE ⟨A27, Fc27, Fv27, V27, (by decide), (by decide)⟩ hd (Or.inl rfl) hE C D
        · rw [q]
          refine iIstore C d0_90 (Ls' := #[(.val (.int i0)), (.val (.int i1)), (.val (.int i2)), (.val (.int i3)), (.val (.int bb)), (.val (.int op)), (.val (.ref a27)), (.val (.ref ga3)), (.val (.int (10 : Int32))), (.val (.int d)), (.val (.int (1 : Int32))), .unset, .unset, .unset, .unset]) rfl ?_
          refine iIconst C d0_92 (v := (-1 : Int32)) (by decide) ?_
          refine iIstore C d0_93 (Ls' := #[(.val (.int i0)), (.val (.int i1)), (.val (.int i2)), (.val (.int i3)), (.val (.int bb)), (.val (.int op)), (.val (.ref a27)), (.val (.ref ga3)), (.val (.int (10 : Int32))), (.val (.int d)), (.val (.int (1 : Int32))), (.val (.int (-1 : Int32))), .unset, .unset, .unset]) rfl ?_
          refine iNull C d0_95 ?_
          refine iAstore C d0_96 (Ls' := #[(.val (.int i0)), (.val (.int i1)), (.val (.int i2)), (.val (.int i3)), (.val (.int bb)), (.val (.int op)), (.val (.ref a27)), (.val (.ref ga3)), (.val (.int (10 : Int32))), (.val (.int d)), (.val (.int (1 : Int32))), (.val (.int (-1 : Int32))), (.val .null), .unset, .unset]) rfl rfl ?_
          refine iGoto C (t := 175) d0_98 ⟨by decide, by decide⟩ ?_
          have hE : pk ga1 ga3 [ff SWD d (-1 : Int32) 0] = .null := by
            have eL : [ff SWD d (-1 : Int32) 0] = ([(119 : Int32)] : List Int32) := by
              rw [own_fne (i := 0) (by decide)]
              try rfl
            rw [eL]
            rfl
          exact tl1 hw G O27 FV hcap S0 hz0 SI SW S1 rf hcw hhE ⟨A27, Fc27, Fv27, V27, (by decide), (by decide)⟩ hd (Or.inl rfl) hE C
        · rw [q]
          refine iIstore C d0_90 (Ls' := #[(.val (.int i0)), (.val (.int i1)), (.val (.int i2)), (.val (.int i3)), (.val (.int bb)), (.val (.int op)), (.val (.ref a27)), (.val (.ref ga3)), (.val (.int (10 : Int32))), (.val (.int d)), (.val (.int (2 : Int32))), .unset, .unset, .unset, .unset]) rfl ?_
          refine iIconst C d0_92 (v := (-1 : Int32)) (by decide) ?_
          refine iIstore C d0_93 (Ls' := #[(.val (.int i0)), (.val (.int i1)), (.val (.int i2)), (.val (.int i3)), (.val (.int bb)), (.val (.int op)), (.val (.ref a27)), (.val (.ref ga3)), (.val (.int (10 : Int32))), (.val (.int d)), (.val (.int (2 : Int32))), (.val (.int (-1 : Int32))), .unset, .unset, .unset]) rfl ?_
          refine iNull C d0_95 ?_
          refine iAstore C d0_96 (Ls' := #[(.val (.int i0)), (.val (.int i1)), (.val (.int i2)), (.val (.int i3)), (.val (.int bb)), (.val (.int op)), (.val (.ref a27)), (.val (.ref ga3)), (.val (.int (10 : Int32))), (.val (.int d)), (.val (.int (2 : Int32))), (.val (.int (-1 : Int32))), (.val .null), .unset, .unset]) rfl rfl ?_
          refine iGoto C (t := 175) d0_98 ⟨by decide, by decide⟩ ?_
          have hE : pk ga1 ga3 [ff SWD d (-1 : Int32) 0, ff SWD d (-1 : Int32) 1] = .null := by
            have eL : [ff SWD d (-1 : Int32) 0, ff SWD d (-1 : Int32) 1] = ([(119 : Int32), (105 : Int32)] : List Int32) := by
              rw [own_fne (i := 0) (by decide), own_fne (i := 1) (by decide)]
              try rfl
            rw [eL]
            rfl
          exact tl2 hw G O27 FV hcap S0 hz0 SI SW S1 rf hcw hhE ⟨A27, Fc27, Fv27, V27, (by decide), (by decide)⟩ hd (Or.inl rfl) hE C
        · rw [q]
          refine iIstore C d0_90 (Ls' := #[(.val (.int i0)), (.val (.int i1)), (.val (.int i2)), (.val (.int i3)), (.val (.int bb)), (.val (.int op)), (.val (.ref a27)), (.val (.ref ga3)), (.val (.int (10 : Int32))), (.val (.int d)), (.val (.int (3 : Int32))), .unset, .unset, .unset, .unset]) rfl ?_
          refine iIconst C d0_92 (v := (-1 : Int32)) (by decide) ?_
          refine iIstore C d0_93 (Ls' := #[(.val (.int i0)), (.val (.int i1)), (.val (.int i2)), (.val (.int i3)), (.val (.int bb)), (.val (.int op)), (.val (.ref a27)), (.val (.ref ga3)), (.val (.int (10 : Int32))), (.val (.int d)), (.val (.int (3 : Int32))), (.val (.int (-1 : Int32))), .unset, .unset, .unset]) rfl ?_
          refine iNull C d0_95 ?_
          refine iAstore C d0_96 (Ls' := #[(.val (.int i0)), (.val (.int i1)), (.val (.int i2)), (.val (.int i3)), (.val (.int bb)), (.val (.int op)), (.val (.ref a27)), (.val (.ref ga3)), (.val (.int (10 : Int32))), (.val (.int d)), (.val (.int (3 : Int32))), (.val (.int (-1 : Int32))), (.val .null), .unset, .unset]) rfl rfl ?_
          refine iGoto C (t := 175) d0_98 ⟨by decide, by decide⟩ ?_
          have hE : pk ga1 ga3 [ff SWD d (-1 : Int32) 0, ff SWD d (-1 : Int32) 1, ff SWD d (-1 : Int32) 2] = .null := by
            have eL : [ff SWD d (-1 : Int32) 0, ff SWD d (-1 : Int32) 1, ff SWD d (-1 : Int32) 2] = ([(119 : Int32), (105 : Int32), (116 : Int32)] : List Int32) := by
              rw [own_fne (i := 0) (by decide), own_fne (i := 1) (by decide), own_fne (i := 2) (by decide)]
              try rfl
            rw [eL]
            rfl
          exact tl3 hw G O27 FV hcap S0 hz0 SI SW S1 rf hcw hhE ⟨A27, Fc27, Fv27, V27, (by decide), (by decide)⟩ hd (Or.inl rfl) hE C
        · rw [q]
          refine iIstore C d0_90 (Ls' := #[(.val (.int i0)), (.val (.int i1)), (.val (.int i2)), (.val (.int i3)), (.val (.int bb)), (.val (.int op)), (.val (.ref a27)), (.val (.ref ga3)), (.val (.int (10 : Int32))), (.val (.int d)), (.val (.int (4 : Int32))), .unset, .unset, .unset, .unset]) rfl ?_
          refine iIconst C d0_92 (v := (-1 : Int32)) (by decide) ?_
          refine iIstore C d0_93 (Ls' := #[(.val (.int i0)), (.val (.int i1)), (.val (.int i2)), (.val (.int i3)), (.val (.int bb)), (.val (.int op)), (.val (.ref a27)), (.val (.ref ga3)), (.val (.int (10 : Int32))), (.val (.int d)), (.val (.int (4 : Int32))), (.val (.int (-1 : Int32))), .unset, .unset, .unset]) rfl ?_
          refine iNull C d0_95 ?_
          refine iAstore C d0_96 (Ls' := #[(.val (.int i0)), (.val (.int i1)), (.val (.int i2)), (.val (.int i3)), (.val (.int bb)), (.val (.int op)), (.val (.ref a27)), (.val (.ref ga3)), (.val (.int (10 : Int32))), (.val (.int d)), (.val (.int (4 : Int32))), (.val (.int (-1 : Int32))), (.val .null), .unset, .unset]) rfl rfl ?_
          refine iGoto C (t := 175) d0_98 ⟨by decide, by decide⟩ ?_
          have hE : pk ga1 ga3 [ff SWD d (-1 : Int32) 0, ff SWD d (-1 : Int32) 1, ff SWD d (-1 : Int32) 2, ff SWD d (-1 : Int32) 3] = .null := by
            have eL : [ff SWD d (-1 : Int32) 0, ff SWD d (-1 : Int32) 1, ff SWD d (-1 : Int32) 2, ff SWD d (-1 : Int32) 3] = ([(119 : Int32), (105 : Int32), (116 : Int32), (104 : Int32)] : List Int32) := by
              rw [own_fne (i := 0) (by decide), own_fne (i := 1) (by decide), own_fne (i := 2) (by decide), own_fne (i := 3) (by decide)]
              try rfl
            rw [eL]
            rfl
          exact tl4 hw G O27 FV hcap S0 hz0 SI SW S1 rf hcw hhE ⟨A27, Fc27, Fv27, V27, (by decide), (by decide)⟩ hd (Or.inl rfl) hE C
        · rw [q]
          refine iIstore C d0_90 (Ls' := #[(.val (.int i0)), (.val (.int i1)), (.val (.int i2)), (.val (.int i3)), (.val (.int bb)), (.val (.int op)), (.val (.ref a27)), (.val (.ref ga3)), (.val (.int (10 : Int32))), (.val (.int d)), (.val (.int (5 : Int32))), .unset, .unset, .unset, .unset]) rfl ?_
          refine iIconst C d0_92 (v := (-1 : Int32)) (by decide) ?_
          refine iIstore C d0_93 (Ls' := #[(.val (.int i0)), (.val (.int i1)), (.val (.int i2)), (.val (.int i3)), (.val (.int bb)), (.val (.int op)), (.val (.ref a27)), (.val (.ref ga3)), (.val (.int (10 : Int32))), (.val (.int d)), (.val (.int (5 : Int32))), (.val (.int (-1 : Int32))), .unset, .unset, .unset]) rfl ?_
          refine iNull C d0_95 ?_
          refine iAstore C d0_96 (Ls' := #[(.val (.int i0)), (.val (.int i1)), (.val (.int i2)), (.val (.int i3)), (.val (.int bb)), (.val (.int op)), (.val (.ref a27)), (.val (.ref ga3)), (.val (.int (10 : Int32))), (.val (.int d)), (.val (.int (5 : Int32))), (.val (.int (-1 : Int32))), (.val .null), .unset, .unset]) rfl rfl ?_
          refine iGoto C (t := 175) d0_98 ⟨by decide, by decide⟩ ?_
          have hE : pk ga1 ga3 [ff SWD d (-1 : Int32) 0, ff SWD d (-1 : Int32) 1, ff SWD d (-1 : Int32) 2, ff SWD d (-1 : Int32) 3, ff SWD d (-1 : Int32) 4] = .null := by
            have eL : [ff SWD d (-1 : Int32) 0, ff SWD d (-1 : Int32) 1, ff SWD d (-1 : Int32) 2, ff SWD d (-1 : Int32) 3, ff SWD d (-1 : Int32) 4] = ([(119 : Int32), (105 : Int32), (116 : Int32), (104 : Int32), (100 : Int32)] : List Int32) := by
              rw [own_fne (i := 0) (by decide), own_fne (i := 1) (by decide), own_fne (i := 2) (by decide), own_fne (i := 3) (by decide), own_fne (i := 4) (by decide)]
              try rfl
            rw [eL]
            rfl
          exact tl5 hw G O27 FV hcap S0 hz0 SI SW S1 rf hcw hhE ⟨A27, Fc27, Fv27, V27, (by decide), (by decide)⟩ hd (Or.inl rfl) hE C
        · rw [q]
          refine iIstore C d0_90 (Ls' := #[(.val (.int i0)), (.val (.int i1)), (.val (.int i2)), (.val (.int i3)), (.val (.int bb)), (.val (.int op)), (.val (.ref a27)), (.val (.ref ga3)), (.val (.int (10 : Int32))), (.val (.int d)), (.val (.int (6 : Int32))), .unset, .unset, .unset, .unset]) rfl ?_
          refine iIconst C d0_92 (v := (-1 : Int32)) (by decide) ?_
          refine iIstore C d0_93 (Ls' := #[(.val (.int i0)), (.val (.int i1)), (.val (.int i2)), (.val (.int i3)), (.val (.int bb)), (.val (.int op)), (.val (.ref a27)), (.val (.ref ga3)), (.val (.int (10 : Int32))), (.val (.int d)), (.val (.int (6 : Int32))), (.val (.int (-1 : Int32))), .unset, .unset, .unset]) rfl ?_
          refine iNull C d0_95 ?_
          refine iAstore C d0_96 (Ls' := #[(.val (.int i0)), (.val (.int i1)), (.val (.int i2)), (.val (.int i3)), (.val (.int bb)), (.val (.int op)), (.val (.ref a27)), (.val (.ref ga3)), (.val (.int (10 : Int32))), (.val (.int d)), (.val (.int (6 : Int32))), (.val (.int (-1 : Int32))), (.val .null), .unset, .unset]) rfl rfl ?_
          refine iGoto C (t := 175) d0_98 ⟨by decide, by decide⟩ ?_
          have hE : pk ga1 ga3 [ff SWD d (-1 : Int32) 0, ff SWD d (-1 : Int32) 1, ff SWD d (-1 : Int32) 2, ff SWD d (-1 : Int32) 3, ff SWD d (-1 : Int32) 4, ff SWD d (-1 : Int32) 5] = .null := by
            have eL : [ff SWD d (-1 : Int32) 0, ff SWD d (-1 : Int32) 1, ff SWD d (-1 : Int32) 2, ff SWD d (-1 : Int32) 3, ff SWD d (-1 : Int32) 4, ff SWD d (-1 : Int32) 5] = ([(119 : Int32), (105 : Int32), (116 : Int32), (104 : Int32), (100 : Int32), (114 : Int32)] : List Int32) := by
              rw [own_fne (i := 0) (by decide), own_fne (i := 1) (by decide), own_fne (i := 2) (by decide), own_fne (i := 3) (by decide), own_fne (i := 4) (by decide), own_fne (i := 5) (by decide)]
              try rfl
            rw [eL]
            rfl
          exact tl6 hw G O27 FV hcap S0 hz0 SI SW S1 rf hcw hhE ⟨A27, Fc27, Fv27, V27, (by decide), (by decide)⟩ hd (Or.inl rfl) hE C
        · rw [q]
          refine iIstore C d0_90 (Ls' := #[(.val (.int i0)), (.val (.int i1)), (.val (.int i2)), (.val (.int i3)), (.val (.int bb)), (.val (.int op)), (.val (.ref a27)), (.val (.ref ga3)), (.val (.int (10 : Int32))), (.val (.int d)), (.val (.int (7 : Int32))), .unset, .unset, .unset, .unset]) rfl ?_
          refine iIconst C d0_92 (v := (-1 : Int32)) (by decide) ?_
          refine iIstore C d0_93 (Ls' := #[(.val (.int i0)), (.val (.int i1)), (.val (.int i2)), (.val (.int i3)), (.val (.int bb)), (.val (.int op)), (.val (.ref a27)), (.val (.ref ga3)), (.val (.int (10 : Int32))), (.val (.int d)), (.val (.int (7 : Int32))), (.val (.int (-1 : Int32))), .unset, .unset, .unset]) rfl ?_
          refine iNull C d0_95 ?_
          refine iAstore C d0_96 (Ls' := #[(.val (.int i0)), (.val (.int i1)), (.val (.int i2)), (.val (.int i3)), (.val (.int bb)), (.val (.int op)), (.val (.ref a27)), (.val (.ref ga3)), (.val (.int (10 : Int32))), (.val (.int d)), (.val (.int (7 : Int32))), (.val (.int (-1 : Int32))), (.val .null), .unset, .unset]) rfl rfl ?_
          refine iGoto C (t := 175) d0_98 ⟨by decide, by decide⟩ ?_
          have hE : pk ga1 ga3 [ff SWD d (-1 : Int32) 0, ff SWD d (-1 : Int32) 1, ff SWD d (-1 : Int32) 2, ff SWD d (-1 : Int32) 3, ff SWD d (-1 : Int32) 4, ff SWD d (-1 : Int32) 5, ff SWD d (-1 : Int32) 6] = .null := by
            have eL : [ff SWD d (-1 : Int32) 0, ff SWD d (-1 : Int32) 1, ff SWD d (-1 : Int32) 2, ff SWD d (-1 : Int32) 3, ff SWD d (-1 : Int32) 4, ff SWD d (-1 : Int32) 5, ff SWD d (-1 : Int32) 6] = ([(119 : Int32), (105 : Int32), (116 : Int32), (104 : Int32), (100 : Int32), (114 : Int32), (97 : Int32)] : List Int32) := by
              rw [own_fne (i := 0) (by decide), own_fne (i := 1) (by decide), own_fne (i := 2) (by decide), own_fne (i := 3) (by decide), own_fne (i := 4) (by decide), own_fne (i := 5) (by decide), own_fne (i := 6) (by decide)]
              try rfl
            rw [eL]
            rfl
          exact tl7 hw G O27 FV hcap S0 hz0 SI SW S1 rf hcw hhE ⟨A27, Fc27, Fv27, V27, (by decide), (by decide)⟩ hd (Or.inl rfl) hE C
        · rw [q]
          refine iIstore C d0_90 (Ls' := #[(.val (.int i0)), (.val (.int i1)), (.val (.int i2)), (.val (.int i3)), (.val (.int bb)), (.val (.int op)), (.val (.ref a27)), (.val (.ref ga3)), (.val (.int (10 : Int32))), (.val (.int d)), (.val (.int (8 : Int32))), .unset, .unset, .unset, .unset]) rfl ?_
          refine iIconst C d0_92 (v := (-1 : Int32)) (by decide) ?_
          refine iIstore C d0_93 (Ls' := #[(.val (.int i0)), (.val (.int i1)), (.val (.int i2)), (.val (.int i3)), (.val (.int bb)), (.val (.int op)), (.val (.ref a27)), (.val (.ref ga3)), (.val (.int (10 : Int32))), (.val (.int d)), (.val (.int (8 : Int32))), (.val (.int (-1 : Int32))), .unset, .unset, .unset]) rfl ?_
          refine iNull C d0_95 ?_
          refine iAstore C d0_96 (Ls' := #[(.val (.int i0)), (.val (.int i1)), (.val (.int i2)), (.val (.int i3)), (.val (.int bb)), (.val (.int op)), (.val (.ref a27)), (.val (.ref ga3)), (.val (.int (10 : Int32))), (.val (.int d)), (.val (.int (8 : Int32))), (.val (.int (-1 : Int32))), (.val .null), .unset, .unset]) rfl rfl ?_
          refine iGoto C (t := 175) d0_98 ⟨by decide, by decide⟩ ?_
          have hE : pk ga1 ga3 [ff SWD d (-1 : Int32) 0, ff SWD d (-1 : Int32) 1, ff SWD d (-1 : Int32) 2, ff SWD d (-1 : Int32) 3, ff SWD d (-1 : Int32) 4, ff SWD d (-1 : Int32) 5, ff SWD d (-1 : Int32) 6, ff SWD d (-1 : Int32) 7] = .null := by
            have eL : [ff SWD d (-1 : Int32) 0, ff SWD d (-1 : Int32) 1, ff SWD d (-1 : Int32) 2, ff SWD d (-1 : Int32) 3, ff SWD d (-1 : Int32) 4, ff SWD d (-1 : Int32) 5, ff SWD d (-1 : Int32) 6, ff SWD d (-1 : Int32) 7] = ([(119 : Int32), (105 : Int32), (116 : Int32), (104 : Int32), (100 : Int32), (114 : Int32), (97 : Int32), (119 : Int32)] : List Int32) := by
              rw [own_fne (i := 0) (by decide), own_fne (i := 1) (by decide), own_fne (i := 2) (by decide), own_fne (i := 3) (by decide), own_fne (i := 4) (by decide), own_fne (i := 5) (by decide), own_fne (i := 6) (by decide), own_fne (i := 7) (by decide)]
              try rfl
            rw [eL]
            rfl
          exact tl8 hw G O27 FV hcap S0 hz0 SI SW S1 rf hcw hhE ⟨A27, Fc27, Fv27, V27, (by decide), (by decide)⟩ hd (Or.inl rfl) hE C
        · rw [q]
          refine iIstore C d0_90 (Ls' := #[(.val (.int i0)), (.val (.int i1)), (.val (.int i2)), (.val (.int i3)), (.val (.int bb)), (.val (.int op)), (.val (.ref a27)), (.val (.ref ga3)), (.val (.int (10 : Int32))), (.val (.int d)), (.val (.int (9 : Int32))), .unset, .unset, .unset, .unset]) rfl ?_
          refine iIconst C d0_92 (v := (-1 : Int32)) (by decide) ?_
          refine iIstore C d0_93 (Ls' := #[(.val (.int i0)), (.val (.int i1)), (.val (.int i2)), (.val (.int i3)), (.val (.int bb)), (.val (.int op)), (.val (.ref a27)), (.val (.ref ga3)), (.val (.int (10 : Int32))), (.val (.int d)), (.val (.int (9 : Int32))), (.val (.int (-1 : Int32))), .unset, .unset, .unset]) rfl ?_
          refine iNull C d0_95 ?_
          refine iAstore C d0_96 (Ls' := #[(.val (.int i0)), (.val (.int i1)), (.val (.int i2)), (.val (.int i3)), (.val (.int bb)), (.val (.int op)), (.val (.ref a27)), (.val (.ref ga3)), (.val (.int (10 : Int32))), (.val (.int d)), (.val (.int (9 : Int32))), (.val (.int (-1 : Int32))), (.val .null), .unset, .unset]) rfl rfl ?_
          refine iGoto C (t := 175) d0_98 ⟨by decide, by decide⟩ ?_
          have hE : pk ga1 ga3 [ff SWD d (-1 : Int32) 0, ff SWD d (-1 : Int32) 1, ff SWD d (-1 : Int32) 2, ff SWD d (-1 : Int32) 3, ff SWD d (-1 : Int32) 4, ff SWD d (-1 : Int32) 5, ff SWD d (-1 : Int32) 6, ff SWD d (-1 : Int32) 7, ff SWD d (-1 : Int32) 8] = .null := by
            have eL : [ff SWD d (-1 : Int32) 0, ff SWD d (-1 : Int32) 1, ff SWD d (-1 : Int32) 2, ff SWD d (-1 : Int32) 3, ff SWD d (-1 : Int32) 4, ff SWD d (-1 : Int32) 5, ff SWD d (-1 : Int32) 6, ff SWD d (-1 : Int32) 7, ff SWD d (-1 : Int32) 8] = ([(119 : Int32), (105 : Int32), (116 : Int32), (104 : Int32), (100 : Int32), (114 : Int32), (97 : Int32), (119 : Int32), (97 : Int32)] : List Int32) := by
              rw [own_fne (i := 0) (by decide), own_fne (i := 1) (by decide), own_fne (i := 2) (by decide), own_fne (i := 3) (by decide), own_fne (i := 4) (by decide), own_fne (i := 5) (by decide), own_fne (i := 6) (by decide), own_fne (i := 7) (by decide), own_fne (i := 8) (by decide)]
              try rfl
            rw [eL]
            rfl
          exact tl9 hw G O27 FV hcap S0 hz0 SI SW S1 rf hcw hhE ⟨A27, Fc27, Fv27, V27, (by decide), (by decide)⟩ hd (Or.inl rfl) hE C
      · refine iCmpT C (t := 101) d0_80 (feq hc30).2 ⟨by decide, by decide⟩ ?_
        refine iIload C d0_101 rfl ?_
        refine iIconst C d0_103 (v := (3 : Int32)) (by decide) ?_
        by_cases hc31 : op = (3 : Int32)
        · refine iCmpF C d0_104 (teq hc31).2 ?_
          refine iIload C d0_107 rfl ?_
          refine iIconst C d0_109 (v := (1 : Int32)) (by decide) ?_
          refine iIadd C d0_110 (v := (11 : Int32)) (by decide) ?_
          refine iIstore C d0_111 (Ls' := #[(.val (.int i0)), (.val (.int i1)), (.val (.int i2)), (.val (.int i3)), (.val (.int bb)), (.val (.int op)), (.val (.ref a27)), (.val (.ref ga3)), (.val (.int (10 : Int32))), (.val (.int d)), (.val (.int (11 : Int32))), .unset, .unset, .unset, .unset]) rfl ?_
          refine iIload C d0_113 rfl ?_
          refine iIstore C d0_115 (Ls' := #[(.val (.int i0)), (.val (.int i1)), (.val (.int i2)), (.val (.int i3)), (.val (.int bb)), (.val (.int op)), (.val (.ref a27)), (.val (.ref ga3)), (.val (.int (10 : Int32))), (.val (.int d)), (.val (.int (11 : Int32))), (.val (.int (10 : Int32))), .unset, .unset, .unset]) rfl ?_
          refine iNull C d0_117 ?_
          refine iAstore C d0_118 (Ls' := #[(.val (.int i0)), (.val (.int i1)), (.val (.int i2)), (.val (.int i3)), (.val (.int bb)), (.val (.int op)), (.val (.ref a27)), (.val (.ref ga3)), (.val (.int (10 : Int32))), (.val (.int d)), (.val (.int (11 : Int32))), (.val (.int (10 : Int32))), (.val .null), .unset, .unset]) rfl rfl ?_
          refine iGoto C (t := 175) d0_120 ⟨by decide, by decide⟩ ?_
          have hE : pk ga1 ga3 [ff SWD d (10 : Int32) 0, ff SWD d (10 : Int32) 1, ff SWD d (10 : Int32) 2, ff SWD d (10 : Int32) 3, ff SWD d (10 : Int32) 4, ff SWD d (10 : Int32) 5, ff SWD d (10 : Int32) 6, ff SWD d (10 : Int32) 7, ff SWD d (10 : Int32) 8, ff SWD d (10 : Int32) 9, ff SWD d (10 : Int32) 10] = .null := by
            have eL : [ff SWD d (10 : Int32) 0, ff SWD d (10 : Int32) 1, ff SWD d (10 : Int32) 2, ff SWD d (10 : Int32) 3, ff SWD d (10 : Int32) 4, ff SWD d (10 : Int32) 5, ff SWD d (10 : Int32) 6, ff SWD d (10 : Int32) 7, ff SWD d (10 : Int32) 8, ff SWD d (10 : Int32) 9, ff SWD d (10 : Int32) 10] = ([(119 : Int32), (105 : Int32), (116 : Int32), (104 : Int32), (100 : Int32), (114 : Int32), (97 : Int32), (119 : Int32), (97 : Int32), (108 : Int32), d] : List Int32) := by
              rw [own_fne (i := 0) (by decide), own_fne (i := 1) (by decide), own_fne (i := 2) (by decide), own_fne (i := 3) (by decide), own_fne (i := 4) (by decide), own_fne (i := 5) (by decide), own_fne (i := 6) (by decide), own_fne (i := 7) (by decide), own_fne (i := 8) (by decide), own_fne (i := 9) (by decide), own_feq (i := 10) (by decide)]
              try rfl
            rw [eL]
            exact pk_no (fun q => (by decide : ¬ (9 : Nat) = 11) (congrArg List.length q)) (fun q => (by decide : ¬ (10 : Nat) = 11) (congrArg List.length q))
          exact tl11 hw G O27 FV hcap S0 hz0 SI SW S1 rf hcw hhE ⟨A27, Fc27, Fv27, V27, (by decide), (by decide)⟩ hd (Or.inl rfl) hE C
        · refine iCmpT C (t := 123) d0_104 (feq hc31).2 ⟨by decide, by decide⟩ ?_
          refine iIload C d0_123 rfl ?_
          refine iIconst C d0_125 (v := (4 : Int32)) (by decide) ?_
          by_cases hc32 : op = (4 : Int32)
          · refine iCmpF C d0_126 (teq hc32).2 ?_
            refine iNull C d0_129 ?_
            refine iCallS C (rmNN hw G O27 FV hcap) tw72 tw73 tw9 tw74 ⟨by decide, by decide⟩ (argsL := [.null]) (S' := []) (lenOf pd7 rfl) rfl rfl d0_130 rfl (W := 0) rfl ⟨by decide, by decide, rfl, rfl, by decide, by decide⟩ fun v33 h33 q33 => ?_
            obtain ⟨rfl, E33⟩ := q33
            show Go B n0 _ h33 3 46 133 #[(.val (.int i0)), (.val (.int i1)), (.val (.int i2)), (.val (.int i3)), (.val (.int bb)), (.val (.int op)), (.val (.ref a27)), (.val (.ref ga3)), (.val (.int (10 : Int32))), (.val (.int d)), .unset, .unset, .unset, .unset, .unset] [.null]
            refine iNonnullF C d0_133 ?_
            refine iIconst C d0_136 (v := (1 : Int32)) (by decide) ?_
            refine iGoto C (t := 141) d0_137 ⟨by decide, by decide⟩ ?_
            refine iRetZ C d0_141 (by simp) ⟨Nat.le_refl _, by decide, by decide⟩ ?_
            exact rfl
          · refine iCmpT C (t := 142) d0_126 (feq hc32).2 ⟨by decide, by decide⟩ ?_
            refine iIload C d0_142 rfl ?_
            refine iIstore C d0_144 (Ls' := #[(.val (.int i0)), (.val (.int i1)), (.val (.int i2)), (.val (.int i3)), (.val (.int bb)), (.val (.int op)), (.val (.ref a27)), (.val (.ref ga3)), (.val (.int (10 : Int32))), (.val (.int d)), (.val (.int (10 : Int32))), .unset, .unset, .unset, .unset]) rfl ?_
            refine iIloadN C d0_146 rfl ?_
            refine iLdcI C tw102 d0_147 ?_
            refine iIand C d0_149 rfl ?_
            refine iIload C d0_150 rfl ?_
            refine iIrem C d0_152 (by decide) rfl ?_
            rcases own_mod10 i1 with q | q | q | q | q | q | q | q | q | q
            · rw [q]
              refine iIstore C d0_153 (Ls' := #[(.val (.int i0)), (.val (.int i1)), (.val (.int i2)), (.val (.int i3)), (.val (.int bb)), (.val (.int op)), (.val (.ref a27)), (.val (.ref ga3)), (.val (.int (10 : Int32))), (.val (.int d)), (.val (.int (10 : Int32))), (.val (.int (0 : Int32))), .unset, .unset, .unset]) rfl ?_
              refine iIload C d0_155 rfl ?_
              refine iAload C d0_157 rfl rfl ?_
              refine iIload C d0_159 rfl ?_
              refine iCallVB C (payCh hw ⟨A27, Fc27, Fv27, V27, (by decide), (by decide)⟩ (S0.ext O27.2) hz0 (S1.ext O27.2) rf (i := 0) (by decide) rfl (by decide) (by decide)) A27 tw29 tw30 (Or.inl rfl) tw32 tw31 ⟨by decide, by decide⟩ (argsL := [(.int (0 : Int32))]) (S' := [(.int d)]) (lenOf pd1 rfl) rfl rfl d0_161 rfl (W := 1) rfl ⟨rfl, rfl, by decide, by decide⟩ fun v34 h34 q34 => ?_
              obtain ⟨rfl, rfl⟩ := q34
              show Go B n0 _ h27 2 44 164 #[(.val (.int i0)), (.val (.int i1)), (.val (.int i2)), (.val (.int i3)), (.val (.int bb)), (.val (.int op)), (.val (.ref a27)), (.val (.ref ga3)), (.val (.int (10 : Int32))), (.val (.int d)), (.val (.int (10 : Int32))), (.val (.int (0 : Int32))), .unset, .unset, .unset] [(.int (119 : Int32)), (.int d)]
              by_cases hc35 : d = (119 : Int32)
              · refine iCmpF C d0_164 (teq hc35).2 ?_
                refine iAload C d0_167 rfl rfl ?_
                refine iGoto C (t := 173) d0_169 ⟨by decide, by decide⟩ ?_
                refine iAstore C d0_173 (Ls' := #[(.val (.int i0)), (.val (.int i1)), (.val (.int i2)), (.val (.int i3)), (.val (.int bb)), (.val (.int op)), (.val (.ref a27)), (.val (.ref ga3)), (.val (.int (10 : Int32))), (.val (.int d)), (.val (.int (10 : Int32))), (.val (.int (0 : Int32))), (.val (.ref ga3)), .unset, .unset]) rfl rfl ?_
                have hE : pk ga1 ga3 [ff SWD d (0 : Int32) 0, ff SWD d (0 : Int32) 1, ff SWD d (0 : Int32) 2, ff SWD d (0 : Int32) 3, ff SWD d (0 : Int32) 4, ff SWD d (0 : Int32) 5, ff SWD d (0 : Int32) 6, ff SWD d (0 : Int32) 7, ff SWD d (0 : Int32) 8, ff SWD d (0 : Int32) 9] = (.ref ga3) := by
                  have eL : [ff SWD d (0 : Int32) 0, ff SWD d (0 : Int32) 1, ff SWD d (0 : Int32) 2, ff SWD d (0 : Int32) 3, ff SWD d (0 : Int32) 4, ff SWD d (0 : Int32) 5, ff SWD d (0 : Int32) 6, ff SWD d (0 : Int32) 7, ff SWD d (0 : Int32) 8, ff SWD d (0 : Int32) 9] = ([d, (105 : Int32), (116 : Int32), (104 : Int32), (100 : Int32), (114 : Int32), (97 : Int32), (119 : Int32), (97 : Int32), (108 : Int32)] : List Int32) := by
                    rw [own_feq (i := 0) (by decide), own_fne (i := 1) (by decide), own_fne (i := 2) (by decide), own_fne (i := 3) (by decide), own_fne (i := 4) (by decide), own_fne (i := 5) (by decide), own_fne (i := 6) (by decide), own_fne (i := 7) (by decide), own_fne (i := 8) (by decide), own_fne (i := 9) (by decide)]
                    try rfl
                  rw [eL]
                  rw [hc35]
                  rfl
                exact tl10 hw G O27 FV hcap S0 hz0 SI SW S1 rf hcw hhE ⟨A27, Fc27, Fv27, V27, (by decide), (by decide)⟩ hd (Or.inr ⟨_, rfl⟩) hE C
              · refine iCmpT C (t := 172) d0_164 (feq hc35).2 ⟨by decide, by decide⟩ ?_
                refine iNull C d0_172 ?_
                refine iAstore C d0_173 (Ls' := #[(.val (.int i0)), (.val (.int i1)), (.val (.int i2)), (.val (.int i3)), (.val (.int bb)), (.val (.int op)), (.val (.ref a27)), (.val (.ref ga3)), (.val (.int (10 : Int32))), (.val (.int d)), (.val (.int (10 : Int32))), (.val (.int (0 : Int32))), (.val .null), .unset, .unset]) rfl rfl ?_
                have hE : pk ga1 ga3 [ff SWD d (0 : Int32) 0, ff SWD d (0 : Int32) 1, ff SWD d (0 : Int32) 2, ff SWD d (0 : Int32) 3, ff SWD d (0 : Int32) 4, ff SWD d (0 : Int32) 5, ff SWD d (0 : Int32) 6, ff SWD d (0 : Int32) 7, ff SWD d (0 : Int32) 8, ff SWD d (0 : Int32) 9] = .null := by
                  have eL : [ff SWD d (0 : Int32) 0, ff SWD d (0 : Int32) 1, ff SWD d (0 : Int32) 2, ff SWD d (0 : Int32) 3, ff SWD d (0 : Int32) 4, ff SWD d (0 : Int32) 5, ff SWD d (0 : Int32) 6, ff SWD d (0 : Int32) 7, ff SWD d (0 : Int32) 8, ff SWD d (0 : Int32) 9] = ([d, (105 : Int32), (116 : Int32), (104 : Int32), (100 : Int32), (114 : Int32), (97 : Int32), (119 : Int32), (97 : Int32), (108 : Int32)] : List Int32) := by
                    rw [own_feq (i := 0) (by decide), own_fne (i := 1) (by decide), own_fne (i := 2) (by decide), own_fne (i := 3) (by decide), own_fne (i := 4) (by decide), own_fne (i := 5) (by decide), own_fne (i := 6) (by decide), own_fne (i := 7) (by decide), own_fne (i := 8) (by decide), own_fne (i := 9) (by decide)]
                    try rfl
                  rw [eL]
                  exact pk_no (fun q => (by decide : ¬ (9 : Nat) = 10) (congrArg List.length q)) (fun q => hc35 (congrArg (fun z => z.getD 0 0) q : (119 : Int32) = d).symm)
                exact tl10 hw G O27 FV hcap S0 hz0 SI SW S1 rf hcw hhE ⟨A27, Fc27, Fv27, V27, (by decide), (by decide)⟩ hd (Or.inl rfl) hE C
            · rw [q]
              refine iIstore C d0_153 (Ls' := #[(.val (.int i0)), (.val (.int i1)), (.val (.int i2)), (.val (.int i3)), (.val (.int bb)), (.val (.int op)), (.val (.ref a27)), (.val (.ref ga3)), (.val (.int (10 : Int32))), (.val (.int d)), (.val (.int (10 : Int32))), (.val (.int (1 : Int32))), .unset, .unset, .unset]) rfl ?_
              refine iIload C d0_155 rfl ?_
              refine iAload C d0_157 rfl rfl ?_
              refine iIload C d0_159 rfl ?_
              refine iCallVB C (payCh hw ⟨A27, Fc27, Fv27, V27, (by decide), (by decide)⟩ (S0.ext O27.2) hz0 (S1.ext O27.2) rf (i := 1) (by decide) rfl (by decide) (by decide)) A27 tw29 tw30 (Or.inl rfl) tw32 tw31 ⟨by decide, by decide⟩ (argsL := [(.int (1 : Int32))]) (S' := [(.int d)]) (lenOf pd1 rfl) rfl rfl d0_161 rfl (W := 1) rfl ⟨rfl, rfl, by decide, by decide⟩ fun v36 h36 q36 => ?_
              obtain ⟨rfl, rfl⟩ := q36
              show Go B n0 _ h27 2 44 164 #[(.val (.int i0)), (.val (.int i1)), (.val (.int i2)), (.val (.int i3)), (.val (.int bb)), (.val (.int op)), (.val (.ref a27)), (.val (.ref ga3)), (.val (.int (10 : Int32))), (.val (.int d)), (.val (.int (10 : Int32))), (.val (.int (1 : Int32))), .unset, .unset, .unset] [(.int (105 : Int32)), (.int d)]
              by_cases hc37 : d = (105 : Int32)
              · refine iCmpF C d0_164 (teq hc37).2 ?_
                refine iAload C d0_167 rfl rfl ?_
                refine iGoto C (t := 173) d0_169 ⟨by decide, by decide⟩ ?_
                refine iAstore C d0_173 (Ls' := #[(.val (.int i0)), (.val (.int i1)), (.val (.int i2)), (.val (.int i3)), (.val (.int bb)), (.val (.int op)), (.val (.ref a27)), (.val (.ref ga3)), (.val (.int (10 : Int32))), (.val (.int d)), (.val (.int (10 : Int32))), (.val (.int (1 : Int32))), (.val (.ref ga3)), .unset, .unset]) rfl rfl ?_
                have hE : pk ga1 ga3 [ff SWD d (1 : Int32) 0, ff SWD d (1 : Int32) 1, ff SWD d (1 : Int32) 2, ff SWD d (1 : Int32) 3, ff SWD d (1 : Int32) 4, ff SWD d (1 : Int32) 5, ff SWD d (1 : Int32) 6, ff SWD d (1 : Int32) 7, ff SWD d (1 : Int32) 8, ff SWD d (1 : Int32) 9] = (.ref ga3) := by
                  have eL : [ff SWD d (1 : Int32) 0, ff SWD d (1 : Int32) 1, ff SWD d (1 : Int32) 2, ff SWD d (1 : Int32) 3, ff SWD d (1 : Int32) 4, ff SWD d (1 : Int32) 5, ff SWD d (1 : Int32) 6, ff SWD d (1 : Int32) 7, ff SWD d (1 : Int32) 8, ff SWD d (1 : Int32) 9] = ([(119 : Int32), d, (116 : Int32), (104 : Int32), (100 : Int32), (114 : Int32), (97 : Int32), (119 : Int32), (97 : Int32), (108 : Int32)] : List Int32) := by
                    rw [own_fne (i := 0) (by decide), own_feq (i := 1) (by decide), own_fne (i := 2) (by decide), own_fne (i := 3) (by decide), own_fne (i := 4) (by decide), own_fne (i := 5) (by decide), own_fne (i := 6) (by decide), own_fne (i := 7) (by decide), own_fne (i := 8) (by decide), own_fne (i := 9) (by decide)]
                    try rfl
                  rw [eL]
                  rw [hc37]
                  rfl
                exact tl10 hw G O27 FV hcap S0 hz0 SI SW S1 rf hcw hhE ⟨A27, Fc27, Fv27, V27, (by decide), (by decide)⟩ hd (Or.inr ⟨_, rfl⟩) hE C
              · refine iCmpT C (t := 172) d0_164 (feq hc37).2 ⟨by decide, by decide⟩ ?_
                refine iNull C d0_172 ?_
                refine iAstore C d0_173 (Ls' := #[(.val (.int i0)), (.val (.int i1)), (.val (.int i2)), (.val (.int i3)), (.val (.int bb)), (.val (.int op)), (.val (.ref a27)), (.val (.ref ga3)), (.val (.int (10 : Int32))), (.val (.int d)), (.val (.int (10 : Int32))), (.val (.int (1 : Int32))), (.val .null), .unset, .unset]) rfl rfl ?_
                have hE : pk ga1 ga3 [ff SWD d (1 : Int32) 0, ff SWD d (1 : Int32) 1, ff SWD d (1 : Int32) 2, ff SWD d (1 : Int32) 3, ff SWD d (1 : Int32) 4, ff SWD d (1 : Int32) 5, ff SWD d (1 : Int32) 6, ff SWD d (1 : Int32) 7, ff SWD d (1 : Int32) 8, ff SWD d (1 : Int32) 9] = .null := by
                  have eL : [ff SWD d (1 : Int32) 0, ff SWD d (1 : Int32) 1, ff SWD d (1 : Int32) 2, ff SWD d (1 : Int32) 3, ff SWD d (1 : Int32) 4, ff SWD d (1 : Int32) 5, ff SWD d (1 : Int32) 6, ff SWD d (1 : Int32) 7, ff SWD d (1 : Int32) 8, ff SWD d (1 : Int32) 9] = ([(119 : Int32), d, (116 : Int32), (104 : Int32), (100 : Int32), (114 : Int32), (97 : Int32), (119 : Int32), (97 : Int32), (108 : Int32)] : List Int32) := by
                    rw [own_fne (i := 0) (by decide), own_feq (i := 1) (by decide), own_fne (i := 2) (by decide), own_fne (i := 3) (by decide), own_fne (i := 4) (by decide), own_fne (i := 5) (by decide), own_fne (i := 6) (by decide), own_fne (i := 7) (by decide), own_fne (i := 8) (by decide), own_fne (i := 9) (by decide)]
                    try rfl
                  rw [eL]
                  exact pk_no (fun q => (by decide : ¬ (9 : Nat) = 10) (congrArg List.length q)) (fun q => hc37 (congrArg (fun z => z.getD 1 0) q : (105 : Int32) = d).symm)
                exact tl10 hw G O27 FV hcap S0 hz0 SI SW S1 rf hcw hhE ⟨A27, Fc27, Fv27, V27, (by decide), (by decide)⟩ hd (Or.inl rfl) hE C
            · rw [q]
              refine iIstore C d0_153 (Ls' := #[(.val (.int i0)), (.val (.int i1)), (.val (.int i2)), (.val (.int i3)), (.val (.int bb)), (.val (.int op)), (.val (.ref a27)), (.val (.ref ga3)), (.val (.int (10 : Int32))), (.val (.int d)), (.val (.int (10 : Int32))), (.val (.int (2 : Int32))), .unset, .unset, .unset]) rfl ?_
              refine iIload C d0_155 rfl ?_
              refine iAload C d0_157 rfl rfl ?_
              refine iIload C d0_159 rfl ?_
              refine iCallVB C (payCh hw ⟨A27, Fc27, Fv27, V27, (by decide), (by decide)⟩ (S0.ext O27.2) hz0 (S1.ext O27.2) rf (i := 2) (by decide) rfl (by decide) (by decide)) A27 tw29 tw30 (Or.inl rfl) tw32 tw31 ⟨by decide, by decide⟩ (argsL := [(.int (2 : Int32))]) (S' := [(.int d)]) (lenOf pd1 rfl) rfl rfl d0_161 rfl (W := 1) rfl ⟨rfl, rfl, by decide, by decide⟩ fun v38 h38 q38 => ?_
              obtain ⟨rfl, rfl⟩ := q38
              show Go B n0 _ h27 2 44 164 #[(.val (.int i0)), (.val (.int i1)), (.val (.int i2)), (.val (.int i3)), (.val (.int bb)), (.val (.int op)), (.val (.ref a27)), (.val (.ref ga3)), (.val (.int (10 : Int32))), (.val (.int d)), (.val (.int (10 : Int32))), (.val (.int (2 : Int32))), .unset, .unset, .unset] [(.int (116 : Int32)), (.int d)]
              by_cases hc39 : d = (116 : Int32)
              · refine iCmpF C d0_164 (teq hc39).2 ?_
                refine iAload C d0_167 rfl rfl ?_
                refine iGoto C (t := 173) d0_169 ⟨by decide, by decide⟩ ?_
                refine iAstore C d0_173 (Ls' := #[(.val (.int i0)), (.val (.int i1)), (.val (.int i2)), (.val (.int i3)), (.val (.int bb)), (.val (.int op)), (.val (.ref a27)), (.val (.ref ga3)), (.val (.int (10 : Int32))), (.val (.int d)), (.val (.int (10 : Int32))), (.val (.int (2 : Int32))), (.val (.ref ga3)), .unset, .unset]) rfl rfl ?_
                have hE : pk ga1 ga3 [ff SWD d (2 : Int32) 0, ff SWD d (2 : Int32) 1, ff SWD d (2 : Int32) 2, ff SWD d (2 : Int32) 3, ff SWD d (2 : Int32) 4, ff SWD d (2 : Int32) 5, ff SWD d (2 : Int32) 6, ff SWD d (2 : Int32) 7, ff SWD d (2 : Int32) 8, ff SWD d (2 : Int32) 9] = (.ref ga3) := by
                  have eL : [ff SWD d (2 : Int32) 0, ff SWD d (2 : Int32) 1, ff SWD d (2 : Int32) 2, ff SWD d (2 : Int32) 3, ff SWD d (2 : Int32) 4, ff SWD d (2 : Int32) 5, ff SWD d (2 : Int32) 6, ff SWD d (2 : Int32) 7, ff SWD d (2 : Int32) 8, ff SWD d (2 : Int32) 9] = ([(119 : Int32), (105 : Int32), d, (104 : Int32), (100 : Int32), (114 : Int32), (97 : Int32), (119 : Int32), (97 : Int32), (108 : Int32)] : List Int32) := by
                    rw [own_fne (i := 0) (by decide), own_fne (i := 1) (by decide), own_feq (i := 2) (by decide), own_fne (i := 3) (by decide), own_fne (i := 4) (by decide), own_fne (i := 5) (by decide), own_fne (i := 6) (by decide), own_fne (i := 7) (by decide), own_fne (i := 8) (by decide), own_fne (i := 9) (by decide)]
                    try rfl
                  rw [eL]
                  rw [hc39]
                  rfl
                exact tl10 hw G O27 FV hcap S0 hz0 SI SW S1 rf hcw hhE ⟨A27, Fc27, Fv27, V27, (by decide), (by decide)⟩ hd (Or.inr ⟨_, rfl⟩) hE C
              · refine iCmpT C (t := 172) d0_164 (feq hc39).2 ⟨by decide, by decide⟩ ?_
                refine iNull C d0_172 ?_
                refine iAstore C d0_173 (Ls' := #[(.val (.int i0)), (.val (.int i1)), (.val (.int i2)), (.val (.int i3)), (.val (.int bb)), (.val (.int op)), (.val (.ref a27)), (.val (.ref ga3)), (.val (.int (10 : Int32))), (.val (.int d)), (.val (.int (10 : Int32))), (.val (.int (2 : Int32))), (.val .null), .unset, .unset]) rfl rfl ?_
                have hE : pk ga1 ga3 [ff SWD d (2 : Int32) 0, ff SWD d (2 : Int32) 1, ff SWD d (2 : Int32) 2, ff SWD d (2 : Int32) 3, ff SWD d (2 : Int32) 4, ff SWD d (2 : Int32) 5, ff SWD d (2 : Int32) 6, ff SWD d (2 : Int32) 7, ff SWD d (2 : Int32) 8, ff SWD d (2 : Int32) 9] = .null := by
                  have eL : [ff SWD d (2 : Int32) 0, ff SWD d (2 : Int32) 1, ff SWD d (2 : Int32) 2, ff SWD d (2 : Int32) 3, ff SWD d (2 : Int32) 4, ff SWD d (2 : Int32) 5, ff SWD d (2 : Int32) 6, ff SWD d (2 : Int32) 7, ff SWD d (2 : Int32) 8, ff SWD d (2 : Int32) 9] = ([(119 : Int32), (105 : Int32), d, (104 : Int32), (100 : Int32), (114 : Int32), (97 : Int32), (119 : Int32), (97 : Int32), (108 : Int32)] : List Int32) := by
                    rw [own_fne (i := 0) (by decide), own_fne (i := 1) (by decide), own_feq (i := 2) (by decide), own_fne (i := 3) (by decide), own_fne (i := 4) (by decide), own_fne (i := 5) (by decide), own_fne (i := 6) (by decide), own_fne (i := 7) (by decide), own_fne (i := 8) (by decide), own_fne (i := 9) (by decide)]
                    try rfl
                  rw [eL]
                  exact pk_no (fun q => (by decide : ¬ (9 : Nat) = 10) (congrArg List.length q)) (fun q => hc39 (congrArg (fun z => z.getD 2 0) q : (116 : Int32) = d).symm)
                exact tl10 hw G O27 FV hcap S0 hz0 SI SW S1 rf hcw hhE ⟨A27, Fc27, Fv27, V27, (by decide), (by decide)⟩ hd (Or.inl rfl) hE C
            · rw [q]
              refine iIstore C d0_153 (Ls' := #[(.val (.int i0)), (.val (.int i1)), (.val (.int i2)), (.val (.int i3)), (.val (.int bb)), (.val (.int op)), (.val (.ref a27)), (.val (.ref ga3)), (.val (.int (10 : Int32))), (.val (.int d)), (.val (.int (10 : Int32))), (.val (.int (3 : Int32))), .unset, .unset, .unset]) rfl ?_
              refine iIload C d0_155 rfl ?_
              refine iAload C d0_157 rfl rfl ?_
              refine iIload C d0_159 rfl ?_
              refine iCallVB C (payCh hw ⟨A27, Fc27, Fv27, V27, (by decide), (by decide)⟩ (S0.ext O27.2) hz0 (S1.ext O27.2) rf (i := 3) (by decide) rfl (by decide) (by decide)) A27 tw29 tw30 (Or.inl rfl) tw32 tw31 ⟨by decide, by decide⟩ (argsL := [(.int (3 : Int32))]) (S' := [(.int d)]) (lenOf pd1 rfl) rfl rfl d0_161 rfl (W := 1) rfl ⟨rfl, rfl, by decide, by decide⟩ fun v40 h40 q40 => ?_
              obtain ⟨rfl, rfl⟩ := q40
              show Go B n0 _ h27 2 44 164 #[(.val (.int i0)), (.val (.int i1)), (.val (.int i2)), (.val (.int i3)), (.val (.int bb)), (.val (.int op)), (.val (.ref a27)), (.val (.ref ga3)), (.val (.int (10 : Int32))), (.val (.int d)), (.val (.int (10 : Int32))), (.val (.int (3 : Int32))), .unset, .unset, .unset] [(.int (104 : Int32)), (.int d)]
              by_cases hc41 : d = (104 : Int32)
              · refine iCmpF C d0_164 (teq hc41).2 ?_
                refine iAload C d0_167 rfl rfl ?_
                refine iGoto C (t := 173) d0_169 ⟨by decide, by decide⟩ ?_
                refine iAstore C d0_173 (Ls' := #[(.val (.int i0)), (.val (.int i1)), (.val (.int i2)), (.val (.int i3)), (.val (.int bb)), (.val (.int op)), (.val (.ref a27)), (.val (.ref ga3)), (.val (.int (10 : Int32))), (.val (.int d)), (.val (.int (10 : Int32))), (.val (.int (3 : Int32))), (.val (.ref ga3)), .unset, .unset]) rfl rfl ?_
                have hE : pk ga1 ga3 [ff SWD d (3 : Int32) 0, ff SWD d (3 : Int32) 1, ff SWD d (3 : Int32) 2, ff SWD d (3 : Int32) 3, ff SWD d (3 : Int32) 4, ff SWD d (3 : Int32) 5, ff SWD d (3 : Int32) 6, ff SWD d (3 : Int32) 7, ff SWD d (3 : Int32) 8, ff SWD d (3 : Int32) 9] = (.ref ga3) := by
                  have eL : [ff SWD d (3 : Int32) 0, ff SWD d (3 : Int32) 1, ff SWD d (3 : Int32) 2, ff SWD d (3 : Int32) 3, ff SWD d (3 : Int32) 4, ff SWD d (3 : Int32) 5, ff SWD d (3 : Int32) 6, ff SWD d (3 : Int32) 7, ff SWD d (3 : Int32) 8, ff SWD d (3 : Int32) 9] = ([(119 : Int32), (105 : Int32), (116 : Int32), d, (100 : Int32), (114 : Int32), (97 : Int32), (119 : Int32), (97 : Int32), (108 : Int32)] : List Int32) := by
                    rw [own_fne (i := 0) (by decide), own_fne (i := 1) (by decide), own_fne (i := 2) (by decide), own_feq (i := 3) (by decide), own_fne (i := 4) (by decide), own_fne (i := 5) (by decide), own_fne (i := 6) (by decide), own_fne (i := 7) (by decide), own_fne (i := 8) (by decide), own_fne (i := 9) (by decide)]
                    try rfl
                  rw [eL]
                  rw [hc41]
                  rfl
                exact tl10 hw G O27 FV hcap S0 hz0 SI SW S1 rf hcw hhE ⟨A27, Fc27, Fv27, V27, (by decide), (by decide)⟩ hd (Or.inr ⟨_, rfl⟩) hE C
              · refine iCmpT C (t := 172) d0_164 (feq hc41).2 ⟨by decide, by decide⟩ ?_
                refine iNull C d0_172 ?_
                refine iAstore C d0_173 (Ls' := #[(.val (.int i0)), (.val (.int i1)), (.val (.int i2)), (.val (.int i3)), (.val (.int bb)), (.val (.int op)), (.val (.ref a27)), (.val (.ref ga3)), (.val (.int (10 : Int32))), (.val (.int d)), (.val (.int (10 : Int32))), (.val (.int (3 : Int32))), (.val .null), .unset, .unset]) rfl rfl ?_
                have hE : pk ga1 ga3 [ff SWD d (3 : Int32) 0, ff SWD d (3 : Int32) 1, ff SWD d (3 : Int32) 2, ff SWD d (3 : Int32) 3, ff SWD d (3 : Int32) 4, ff SWD d (3 : Int32) 5, ff SWD d (3 : Int32) 6, ff SWD d (3 : Int32) 7, ff SWD d (3 : Int32) 8, ff SWD d (3 : Int32) 9] = .null := by
                  have eL : [ff SWD d (3 : Int32) 0, ff SWD d (3 : Int32) 1, ff SWD d (3 : Int32) 2, ff SWD d (3 : Int32) 3, ff SWD d (3 : Int32) 4, ff SWD d (3 : Int32) 5, ff SWD d (3 : Int32) 6, ff SWD d (3 : Int32) 7, ff SWD d (3 : Int32) 8, ff SWD d (3 : Int32) 9] = ([(119 : Int32), (105 : Int32), (116 : Int32), d, (100 : Int32), (114 : Int32), (97 : Int32), (119 : Int32), (97 : Int32), (108 : Int32)] : List Int32) := by
                    rw [own_fne (i := 0) (by decide), own_fne (i := 1) (by decide), own_fne (i := 2) (by decide), own_feq (i := 3) (by decide), own_fne (i := 4) (by decide), own_fne (i := 5) (by decide), own_fne (i := 6) (by decide), own_fne (i := 7) (by decide), own_fne (i := 8) (by decide), own_fne (i := 9) (by decide)]
                    try rfl
                  rw [eL]
                  exact pk_no (fun q => (by decide : ¬ (9 : Nat) = 10) (congrArg List.length q)) (fun q => hc41 (congrArg (fun z => z.getD 3 0) q : (104 : Int32) = d).symm)
                exact tl10 hw G O27 FV hcap S0 hz0 SI SW S1 rf hcw hhE ⟨A27, Fc27, Fv27, V27, (by decide), (by decide)⟩ hd (Or.inl rfl) hE C
            · rw [q]
              refine iIstore C d0_153 (Ls' := #[(.val (.int i0)), (.val (.int i1)), (.val (.int i2)), (.val (.int i3)), (.val (.int bb)), (.val (.int op)), (.val (.ref a27)), (.val (.ref ga3)), (.val (.int (10 : Int32))), (.val (.int d)), (.val (.int (10 : Int32))), (.val (.int (4 : Int32))), .unset, .unset, .unset]) rfl ?_
              refine iIload C d0_155 rfl ?_
              refine iAload C d0_157 rfl rfl ?_
              refine iIload C d0_159 rfl ?_
              refine iCallVB C (payCh hw ⟨A27, Fc27, Fv27, V27, (by decide), (by decide)⟩ (S0.ext O27.2) hz0 (S1.ext O27.2) rf (i := 4) (by decide) rfl (by decide) (by decide)) A27 tw29 tw30 (Or.inl rfl) tw32 tw31 ⟨by decide, by decide⟩ (argsL := [(.int (4 : Int32))]) (S' := [(.int d)]) (lenOf pd1 rfl) rfl rfl d0_161 rfl (W := 1) rfl ⟨rfl, rfl, by decide, by decide⟩ fun v42 h42 q42 => ?_
              obtain ⟨rfl, rfl⟩ := q42
              show Go B n0 _ h27 2 44 164 #[(.val (.int i0)), (.val (.int i1)), (.val (.int i2)), (.val (.int i3)), (.val (.int bb)), (.val (.int op)), (.val (.ref a27)), (.val (.ref ga3)), (.val (.int (10 : Int32))), (.val (.int d)), (.val (.int (10 : Int32))), (.val (.int (4 : Int32))), .unset, .unset, .unset] [(.int (100 : Int32)), (.int d)]
              by_cases hc43 : d = (100 : Int32)
              · refine iCmpF C d0_164 (teq hc43).2 ?_
                refine iAload C d0_167 rfl rfl ?_
                refine iGoto C (t := 173) d0_169 ⟨by decide, by decide⟩ ?_
                refine iAstore C d0_173 (Ls' := #[(.val (.int i0)), (.val (.int i1)), (.val (.int i2)), (.val (.int i3)), (.val (.int bb)), (.val (.int op)), (.val (.ref a27)), (.val (.ref ga3)), (.val (.int (10 : Int32))), (.val (.int d)), (.val (.int (10 : Int32))), (.val (.int (4 : Int32))), (.val (.ref ga3)), .unset, .unset]) rfl rfl ?_
                have hE : pk ga1 ga3 [ff SWD d (4 : Int32) 0, ff SWD d (4 : Int32) 1, ff SWD d (4 : Int32) 2, ff SWD d (4 : Int32) 3, ff SWD d (4 : Int32) 4, ff SWD d (4 : Int32) 5, ff SWD d (4 : Int32) 6, ff SWD d (4 : Int32) 7, ff SWD d (4 : Int32) 8, ff SWD d (4 : Int32) 9] = (.ref ga3) := by
                  have eL : [ff SWD d (4 : Int32) 0, ff SWD d (4 : Int32) 1, ff SWD d (4 : Int32) 2, ff SWD d (4 : Int32) 3, ff SWD d (4 : Int32) 4, ff SWD d (4 : Int32) 5, ff SWD d (4 : Int32) 6, ff SWD d (4 : Int32) 7, ff SWD d (4 : Int32) 8, ff SWD d (4 : Int32) 9] = ([(119 : Int32), (105 : Int32), (116 : Int32), (104 : Int32), d, (114 : Int32), (97 : Int32), (119 : Int32), (97 : Int32), (108 : Int32)] : List Int32) := by
                    rw [own_fne (i := 0) (by decide), own_fne (i := 1) (by decide), own_fne (i := 2) (by decide), own_fne (i := 3) (by decide), own_feq (i := 4) (by decide), own_fne (i := 5) (by decide), own_fne (i := 6) (by decide), own_fne (i := 7) (by decide), own_fne (i := 8) (by decide), own_fne (i := 9) (by decide)]
                    try rfl
                  rw [eL]
                  rw [hc43]
                  rfl
                exact tl10 hw G O27 FV hcap S0 hz0 SI SW S1 rf hcw hhE ⟨A27, Fc27, Fv27, V27, (by decide), (by decide)⟩ hd (Or.inr ⟨_, rfl⟩) hE C
              · refine iCmpT C (t := 172) d0_164 (feq hc43).2 ⟨by decide, by decide⟩ ?_
                refine iNull C d0_172 ?_
                refine iAstore C d0_173 (Ls' := #[(.val (.int i0)), (.val (.int i1)), (.val (.int i2)), (.val (.int i3)), (.val (.int bb)), (.val (.int op)), (.val (.ref a27)), (.val (.ref ga3)), (.val (.int (10 : Int32))), (.val (.int d)), (.val (.int (10 : Int32))), (.val (.int (4 : Int32))), (.val .null), .unset, .unset]) rfl rfl ?_
                have hE : pk ga1 ga3 [ff SWD d (4 : Int32) 0, ff SWD d (4 : Int32) 1, ff SWD d (4 : Int32) 2, ff SWD d (4 : Int32) 3, ff SWD d (4 : Int32) 4, ff SWD d (4 : Int32) 5, ff SWD d (4 : Int32) 6, ff SWD d (4 : Int32) 7, ff SWD d (4 : Int32) 8, ff SWD d (4 : Int32) 9] = .null := by
                  have eL : [ff SWD d (4 : Int32) 0, ff SWD d (4 : Int32) 1, ff SWD d (4 : Int32) 2, ff SWD d (4 : Int32) 3, ff SWD d (4 : Int32) 4, ff SWD d (4 : Int32) 5, ff SWD d (4 : Int32) 6, ff SWD d (4 : Int32) 7, ff SWD d (4 : Int32) 8, ff SWD d (4 : Int32) 9] = ([(119 : Int32), (105 : Int32), (116 : Int32), (104 : Int32), d, (114 : Int32), (97 : Int32), (119 : Int32), (97 : Int32), (108 : Int32)] : List Int32) := by
                    rw [own_fne (i := 0) (by decide), own_fne (i := 1) (by decide), own_fne (i := 2) (by decide), own_fne (i := 3) (by decide), own_feq (i := 4) (by decide), own_fne (i := 5) (by decide), own_fne (i := 6) (by decide), own_fne (i := 7) (by decide), own_fne (i := 8) (by decide), own_fne (i := 9) (by decide)]
                    try rfl
                  rw [eL]
                  exact pk_no (fun q => (by decide : ¬ (9 : Nat) = 10) (congrArg List.length q)) (fun q => hc43 (congrArg (fun z => z.getD 4 0) q : (100 : Int32) = d).symm)
                exact tl10 hw G O27 FV hcap S0 hz0 SI SW S1 rf hcw hhE ⟨A27, Fc27, Fv27, V27, (by decide), (by decide)⟩ hd (Or.inl rfl) hE C
            · rw [q]
              refine iIstore C d0_153 (Ls' := #[(.val (.int i0)), (.val (.int i1)), (.val (.int i2)), (.val (.int i3)), (.val (.int bb)), (.val (.int op)), (.val (.ref a27)), (.val (.ref ga3)), (.val (.int (10 : Int32))), (.val (.int d)), (.val (.int (10 : Int32))), (.val (.int (5 : Int32))), .unset, .unset, .unset]) rfl ?_
              refine iIload C d0_155 rfl ?_
              refine iAload C d0_157 rfl rfl ?_
              refine iIload C d0_159 rfl ?_
              refine iCallVB C (payCh hw ⟨A27, Fc27, Fv27, V27, (by decide), (by decide)⟩ (S0.ext O27.2) hz0 (S1.ext O27.2) rf (i := 5) (by decide) rfl (by decide) (by decide)) A27 tw29 tw30 (Or.inl rfl) tw32 tw31 ⟨by decide, by decide⟩ (argsL := [(.int (5 : Int32))]) (S' := [(.int d)]) (lenOf pd1 rfl) rfl rfl d0_161 rfl (W := 1) rfl ⟨rfl, rfl, by decide, by decide⟩ fun v44 h44 q44 => ?_
              obtain ⟨rfl, rfl⟩ := q44
              show Go B n0 _ h27 2 44 164 #[(.val (.int i0)), (.val (.int i1)), (.val (.int i2)), (.val (.int i3)), (.val (.int bb)), (.val (.int op)), (.val (.ref a27)), (.val (.ref ga3)), (.val (.int (10 : Int32))), (.val (.int d)), (.val (.int (10 : Int32))), (.val (.int (5 : Int32))), .unset, .unset, .unset] [(.int (114 : Int32)), (.int d)]
              by_cases hc45 : d = (114 : Int32)
              · refine iCmpF C d0_164 (teq hc45).2 ?_
                refine iAload C d0_167 rfl rfl ?_
                refine iGoto C (t := 173) d0_169 ⟨by decide, by decide⟩ ?_
                refine iAstore C d0_173 (Ls' := #[(.val (.int i0)), (.val (.int i1)), (.val (.int i2)), (.val (.int i3)), (.val (.int bb)), (.val (.int op)), (.val (.ref a27)), (.val (.ref ga3)), (.val (.int (10 : Int32))), (.val (.int d)), (.val (.int (10 : Int32))), (.val (.int (5 : Int32))), (.val (.ref ga3)), .unset, .unset]) rfl rfl ?_
                have hE : pk ga1 ga3 [ff SWD d (5 : Int32) 0, ff SWD d (5 : Int32) 1, ff SWD d (5 : Int32) 2, ff SWD d (5 : Int32) 3, ff SWD d (5 : Int32) 4, ff SWD d (5 : Int32) 5, ff SWD d (5 : Int32) 6, ff SWD d (5 : Int32) 7, ff SWD d (5 : Int32) 8, ff SWD d (5 : Int32) 9] = (.ref ga3) := by
                  have eL : [ff SWD d (5 : Int32) 0, ff SWD d (5 : Int32) 1, ff SWD d (5 : Int32) 2, ff SWD d (5 : Int32) 3, ff SWD d (5 : Int32) 4, ff SWD d (5 : Int32) 5, ff SWD d (5 : Int32) 6, ff SWD d (5 : Int32) 7, ff SWD d (5 : Int32) 8, ff SWD d (5 : Int32) 9] = ([(119 : Int32), (105 : Int32), (116 : Int32), (104 : Int32), (100 : Int32), d, (97 : Int32), (119 : Int32), (97 : Int32), (108 : Int32)] : List Int32) := by
                    rw [own_fne (i := 0) (by decide), own_fne (i := 1) (by decide), own_fne (i := 2) (by decide), own_fne (i := 3) (by decide), own_fne (i := 4) (by decide), own_feq (i := 5) (by decide), own_fne (i := 6) (by decide), own_fne (i := 7) (by decide), own_fne (i := 8) (by decide), own_fne (i := 9) (by decide)]
                    try rfl
                  rw [eL]
                  rw [hc45]
                  rfl
                exact tl10 hw G O27 FV hcap S0 hz0 SI SW S1 rf hcw hhE ⟨A27, Fc27, Fv27, V27, (by decide), (by decide)⟩ hd (Or.inr ⟨_, rfl⟩) hE C
              · refine iCmpT C (t := 172) d0_164 (feq hc45).2 ⟨by decide, by decide⟩ ?_
                refine iNull C d0_172 ?_
                refine iAstore C d0_173 (Ls' := #[(.val (.int i0)), (.val (.int i1)), (.val (.int i2)), (.val (.int i3)), (.val (.int bb)), (.val (.int op)), (.val (.ref a27)), (.val (.ref ga3)), (.val (.int (10 : Int32))), (.val (.int d)), (.val (.int (10 : Int32))), (.val (.int (5 : Int32))), (.val .null), .unset, .unset]) rfl rfl ?_
                have hE : pk ga1 ga3 [ff SWD d (5 : Int32) 0, ff SWD d (5 : Int32) 1, ff SWD d (5 : Int32) 2, ff SWD d (5 : Int32) 3, ff SWD d (5 : Int32) 4, ff SWD d (5 : Int32) 5, ff SWD d (5 : Int32) 6, ff SWD d (5 : Int32) 7, ff SWD d (5 : Int32) 8, ff SWD d (5 : Int32) 9] = .null := by
                  have eL : [ff SWD d (5 : Int32) 0, ff SWD d (5 : Int32) 1, ff SWD d (5 : Int32) 2, ff SWD d (5 : Int32) 3, ff SWD d (5 : Int32) 4, ff SWD d (5 : Int32) 5, ff SWD d (5 : Int32) 6, ff SWD d (5 : Int32) 7, ff SWD d (5 : Int32) 8, ff SWD d (5 : Int32) 9] = ([(119 : Int32), (105 : Int32), (116 : Int32), (104 : Int32), (100 : Int32), d, (97 : Int32), (119 : Int32), (97 : Int32), (108 : Int32)] : List Int32) := by
                    rw [own_fne (i := 0) (by decide), own_fne (i := 1) (by decide), own_fne (i := 2) (by decide), own_fne (i := 3) (by decide), own_fne (i := 4) (by decide), own_feq (i := 5) (by decide), own_fne (i := 6) (by decide), own_fne (i := 7) (by decide), own_fne (i := 8) (by decide), own_fne (i := 9) (by decide)]
                    try rfl
                  rw [eL]
                  exact pk_no (fun q => (by decide : ¬ (9 : Nat) = 10) (congrArg List.length q)) (fun q => hc45 (congrArg (fun z => z.getD 5 0) q : (114 : Int32) = d).symm)
                exact tl10 hw G O27 FV hcap S0 hz0 SI SW S1 rf hcw hhE ⟨A27, Fc27, Fv27, V27, (by decide), (by decide)⟩ hd (Or.inl rfl) hE C
            · rw [q]
              refine iIstore C d0_153 (Ls' := #[(.val (.int i0)), (.val (.int i1)), (.val (.int i2)), (.val (.int i3)), (.val (.int bb)), (.val (.int op)), (.val (.ref a27)), (.val (.ref ga3)), (.val (.int (10 : Int32))), (.val (.int d)), (.val (.int (10 : Int32))), (.val (.int (6 : Int32))), .unset, .unset, .unset]) rfl ?_
              refine iIload C d0_155 rfl ?_
              refine iAload C d0_157 rfl rfl ?_
              refine iIload C d0_159 rfl ?_
              refine iCallVB C (payCh hw ⟨A27, Fc27, Fv27, V27, (by decide), (by decide)⟩ (S0.ext O27.2) hz0 (S1.ext O27.2) rf (i := 6) (by decide) rfl (by decide) (by decide)) A27 tw29 tw30 (Or.inl rfl) tw32 tw31 ⟨by decide, by decide⟩ (argsL := [(.int (6 : Int32))]) (S' := [(.int d)]) (lenOf pd1 rfl) rfl rfl d0_161 rfl (W := 1) rfl ⟨rfl, rfl, by decide, by decide⟩ fun v46 h46 q46 => ?_
              obtain ⟨rfl, rfl⟩ := q46
              show Go B n0 _ h27 2 44 164 #[(.val (.int i0)), (.val (.int i1)), (.val (.int i2)), (.val (.int i3)), (.val (.int bb)), (.val (.int op)), (.val (.ref a27)), (.val (.ref ga3)), (.val (.int (10 : Int32))), (.val (.int d)), (.val (.int (10 : Int32))), (.val (.int (6 : Int32))), .unset, .unset, .unset] [(.int (97 : Int32)), (.int d)]
              by_cases hc47 : d = (97 : Int32)
              · refine iCmpF C d0_164 (teq hc47).2 ?_
                refine iAload C d0_167 rfl rfl ?_
                refine iGoto C (t := 173) d0_169 ⟨by decide, by decide⟩ ?_
                refine iAstore C d0_173 (Ls' := #[(.val (.int i0)), (.val (.int i1)), (.val (.int i2)), (.val (.int i3)), (.val (.int bb)), (.val (.int op)), (.val (.ref a27)), (.val (.ref ga3)), (.val (.int (10 : Int32))), (.val (.int d)), (.val (.int (10 : Int32))), (.val (.int (6 : Int32))), (.val (.ref ga3)), .unset, .unset]) rfl rfl ?_
                have hE : pk ga1 ga3 [ff SWD d (6 : Int32) 0, ff SWD d (6 : Int32) 1, ff SWD d (6 : Int32) 2, ff SWD d (6 : Int32) 3, ff SWD d (6 : Int32) 4, ff SWD d (6 : Int32) 5, ff SWD d (6 : Int32) 6, ff SWD d (6 : Int32) 7, ff SWD d (6 : Int32) 8, ff SWD d (6 : Int32) 9] = (.ref ga3) := by
                  have eL : [ff SWD d (6 : Int32) 0, ff SWD d (6 : Int32) 1, ff SWD d (6 : Int32) 2, ff SWD d (6 : Int32) 3, ff SWD d (6 : Int32) 4, ff SWD d (6 : Int32) 5, ff SWD d (6 : Int32) 6, ff SWD d (6 : Int32) 7, ff SWD d (6 : Int32) 8, ff SWD d (6 : Int32) 9] = ([(119 : Int32), (105 : Int32), (116 : Int32), (104 : Int32), (100 : Int32), (114 : Int32), d, (119 : Int32), (97 : Int32), (108 : Int32)] : List Int32) := by
                    rw [own_fne (i := 0) (by decide), own_fne (i := 1) (by decide), own_fne (i := 2) (by decide), own_fne (i := 3) (by decide), own_fne (i := 4) (by decide), own_fne (i := 5) (by decide), own_feq (i := 6) (by decide), own_fne (i := 7) (by decide), own_fne (i := 8) (by decide), own_fne (i := 9) (by decide)]
                    try rfl
                  rw [eL]
                  rw [hc47]
                  rfl
                exact tl10 hw G O27 FV hcap S0 hz0 SI SW S1 rf hcw hhE ⟨A27, Fc27, Fv27, V27, (by decide), (by decide)⟩ hd (Or.inr ⟨_, rfl⟩) hE C
              · refine iCmpT C (t := 172) d0_164 (feq hc47).2 ⟨by decide, by decide⟩ ?_
                refine iNull C d0_172 ?_
                refine iAstore C d0_173 (Ls' := #[(.val (.int i0)), (.val (.int i1)), (.val (.int i2)), (.val (.int i3)), (.val (.int bb)), (.val (.int op)), (.val (.ref a27)), (.val (.ref ga3)), (.val (.int (10 : Int32))), (.val (.int d)), (.val (.int (10 : Int32))), (.val (.int (6 : Int32))), (.val .null), .unset, .unset]) rfl rfl ?_
                have hE : pk ga1 ga3 [ff SWD d (6 : Int32) 0, ff SWD d (6 : Int32) 1, ff SWD d (6 : Int32) 2, ff SWD d (6 : Int32) 3, ff SWD d (6 : Int32) 4, ff SWD d (6 : Int32) 5, ff SWD d (6 : Int32) 6, ff SWD d (6 : Int32) 7, ff SWD d (6 : Int32) 8, ff SWD d (6 : Int32) 9] = .null := by
                  have eL : [ff SWD d (6 : Int32) 0, ff SWD d (6 : Int32) 1, ff SWD d (6 : Int32) 2, ff SWD d (6 : Int32) 3, ff SWD d (6 : Int32) 4, ff SWD d (6 : Int32) 5, ff SWD d (6 : Int32) 6, ff SWD d (6 : Int32) 7, ff SWD d (6 : Int32) 8, ff SWD d (6 : Int32) 9] = ([(119 : Int32), (105 : Int32), (116 : Int32), (104 : Int32), (100 : Int32), (114 : Int32), d, (119 : Int32), (97 : Int32), (108 : Int32)] : List Int32) := by
                    rw [own_fne (i := 0) (by decide), own_fne (i := 1) (by decide), own_fne (i := 2) (by decide), own_fne (i := 3) (by decide), own_fne (i := 4) (by decide), own_fne (i := 5) (by decide), own_feq (i := 6) (by decide), own_fne (i := 7) (by decide), own_fne (i := 8) (by decide), own_fne (i := 9) (by decide)]
                    try rfl
                  rw [eL]
                  exact pk_no (fun q => (by decide : ¬ (9 : Nat) = 10) (congrArg List.length q)) (fun q => hc47 (congrArg (fun z => z.getD 6 0) q : (97 : Int32) = d).symm)
                exact tl10 hw G O27 FV hcap S0 hz0 SI SW S1 rf hcw hhE ⟨A27, Fc27, Fv27, V27, (by decide), (by decide)⟩ hd (Or.inl rfl) hE C
            · rw [q]
              refine iIstore C d0_153 (Ls' := #[(.val (.int i0)), (.val (.int i1)), (.val (.int i2)), (.val (.int i3)), (.val (.int bb)), (.val (.int op)), (.val (.ref a27)), (.val (.ref ga3)), (.val (.int (10 : Int32))), (.val (.int d)), (.val (.int (10 : Int32))), (.val (.int (7 : Int32))), .unset, .unset, .unset]) rfl ?_
              refine iIload C d0_155 rfl ?_
              refine iAload C d0_157 rfl rfl ?_
              refine iIload C d0_159 rfl ?_
              refine iCallVB C (payCh hw ⟨A27, Fc27, Fv27, V27, (by decide), (by decide)⟩ (S0.ext O27.2) hz0 (S1.ext O27.2) rf (i := 7) (by decide) rfl (by decide) (by decide)) A27 tw29 tw30 (Or.inl rfl) tw32 tw31 ⟨by decide, by decide⟩ (argsL := [(.int (7 : Int32))]) (S' := [(.int d)]) (lenOf pd1 rfl) rfl rfl d0_161 rfl (W := 1) rfl ⟨rfl, rfl, by decide, by decide⟩ fun v48 h48 q48 => ?_
              obtain ⟨rfl, rfl⟩ := q48
              show Go B n0 _ h27 2 44 164 #[(.val (.int i0)), (.val (.int i1)), (.val (.int i2)), (.val (.int i3)), (.val (.int bb)), (.val (.int op)), (.val (.ref a27)), (.val (.ref ga3)), (.val (.int (10 : Int32))), (.val (.int d)), (.val (.int (10 : Int32))), (.val (.int (7 : Int32))), .unset, .unset, .unset] [(.int (119 : Int32)), (.int d)]
              by_cases hc49 : d = (119 : Int32)
              · refine iCmpF C d0_164 (teq hc49).2 ?_
                refine iAload C d0_167 rfl rfl ?_
                refine iGoto C (t := 173) d0_169 ⟨by decide, by decide⟩ ?_
                refine iAstore C d0_173 (Ls' := #[(.val (.int i0)), (.val (.int i1)), (.val (.int i2)), (.val (.int i3)), (.val (.int bb)), (.val (.int op)), (.val (.ref a27)), (.val (.ref ga3)), (.val (.int (10 : Int32))), (.val (.int d)), (.val (.int (10 : Int32))), (.val (.int (7 : Int32))), (.val (.ref ga3)), .unset, .unset]) rfl rfl ?_
                have hE : pk ga1 ga3 [ff SWD d (7 : Int32) 0, ff SWD d (7 : Int32) 1, ff SWD d (7 : Int32) 2, ff SWD d (7 : Int32) 3, ff SWD d (7 : Int32) 4, ff SWD d (7 : Int32) 5, ff SWD d (7 : Int32) 6, ff SWD d (7 : Int32) 7, ff SWD d (7 : Int32) 8, ff SWD d (7 : Int32) 9] = (.ref ga3) := by
                  have eL : [ff SWD d (7 : Int32) 0, ff SWD d (7 : Int32) 1, ff SWD d (7 : Int32) 2, ff SWD d (7 : Int32) 3, ff SWD d (7 : Int32) 4, ff SWD d (7 : Int32) 5, ff SWD d (7 : Int32) 6, ff SWD d (7 : Int32) 7, ff SWD d (7 : Int32) 8, ff SWD d (7 : Int32) 9] = ([(119 : Int32), (105 : Int32), (116 : Int32), (104 : Int32), (100 : Int32), (114 : Int32), (97 : Int32), d, (97 : Int32), (108 : Int32)] : List Int32) := by
                    rw [own_fne (i := 0) (by decide), own_fne (i := 1) (by decide), own_fne (i := 2) (by decide), own_fne (i := 3) (by decide), own_fne (i := 4) (by decide), own_fne (i := 5) (by decide), own_fne (i := 6) (by decide), own_feq (i := 7) (by decide), own_fne (i := 8) (by decide), own_fne (i := 9) (by decide)]
                    try rfl
                  rw [eL]
                  rw [hc49]
                  rfl
                exact tl10 hw G O27 FV hcap S0 hz0 SI SW S1 rf hcw hhE ⟨A27, Fc27, Fv27, V27, (by decide), (by decide)⟩ hd (Or.inr ⟨_, rfl⟩) hE C
              · refine iCmpT C (t := 172) d0_164 (feq hc49).2 ⟨by decide, by decide⟩ ?_
                refine iNull C d0_172 ?_
                refine iAstore C d0_173 (Ls' := #[(.val (.int i0)), (.val (.int i1)), (.val (.int i2)), (.val (.int i3)), (.val (.int bb)), (.val (.int op)), (.val (.ref a27)), (.val (.ref ga3)), (.val (.int (10 : Int32))), (.val (.int d)), (.val (.int (10 : Int32))), (.val (.int (7 : Int32))), (.val .null), .unset, .unset]) rfl rfl ?_
                have hE : pk ga1 ga3 [ff SWD d (7 : Int32) 0, ff SWD d (7 : Int32) 1, ff SWD d (7 : Int32) 2, ff SWD d (7 : Int32) 3, ff SWD d (7 : Int32) 4, ff SWD d (7 : Int32) 5, ff SWD d (7 : Int32) 6, ff SWD d (7 : Int32) 7, ff SWD d (7 : Int32) 8, ff SWD d (7 : Int32) 9] = .null := by
                  have eL : [ff SWD d (7 : Int32) 0, ff SWD d (7 : Int32) 1, ff SWD d (7 : Int32) 2, ff SWD d (7 : Int32) 3, ff SWD d (7 : Int32) 4, ff SWD d (7 : Int32) 5, ff SWD d (7 : Int32) 6, ff SWD d (7 : Int32) 7, ff SWD d (7 : Int32) 8, ff SWD d (7 : Int32) 9] = ([(119 : Int32), (105 : Int32), (116 : Int32), (104 : Int32), (100 : Int32), (114 : Int32), (97 : Int32), d, (97 : Int32), (108 : Int32)] : List Int32) := by
                    rw [own_fne (i := 0) (by decide), own_fne (i := 1) (by decide), own_fne (i := 2) (by decide), own_fne (i := 3) (by decide), own_fne (i := 4) (by decide), own_fne (i := 5) (by decide), own_fne (i := 6) (by decide), own_feq (i := 7) (by decide), own_fne (i := 8) (by decide), own_fne (i := 9) (by decide)]
                    try rfl
                  rw [eL]
                  exact pk_no (fun q => (by decide : ¬ (9 : Nat) = 10) (congrArg List.length q)) (fun q => hc49 (congrArg (fun z => z.getD 7 0) q : (119 : Int32) = d).symm)
                exact tl10 hw G O27 FV hcap S0 hz0 SI SW S1 rf hcw hhE ⟨A27, Fc27, Fv27, V27, (by decide), (by decide)⟩ hd (Or.inl rfl) hE C
            · rw [q]
              refine iIstore C d0_153 (Ls' := #[(.val (.int i0)), (.val (.int i1)), (.val (.int i2)), (.val (.int i3)), (.val (.int bb)), (.val (.int op)), (.val (.ref a27)), (.val (.ref ga3)), (.val (.int (10 : Int32))), (.val (.int d)), (.val (.int (10 : Int32))), (.val (.int (8 : Int32))), .unset, .unset, .unset]) rfl ?_
              refine iIload C d0_155 rfl ?_
              refine iAload C d0_157 rfl rfl ?_
              refine iIload C d0_159 rfl ?_
              refine iCallVB C (payCh hw ⟨A27, Fc27, Fv27, V27, (by decide), (by decide)⟩ (S0.ext O27.2) hz0 (S1.ext O27.2) rf (i := 8) (by decide) rfl (by decide) (by decide)) A27 tw29 tw30 (Or.inl rfl) tw32 tw31 ⟨by decide, by decide⟩ (argsL := [(.int (8 : Int32))]) (S' := [(.int d)]) (lenOf pd1 rfl) rfl rfl d0_161 rfl (W := 1) rfl ⟨rfl, rfl, by decide, by decide⟩ fun v50 h50 q50 => ?_
              obtain ⟨rfl, rfl⟩ := q50
              show Go B n0 _ h27 2 44 164 #[(.val (.int i0)), (.val (.int i1)), (.val (.int i2)), (.val (.int i3)), (.val (.int bb)), (.val (.int op)), (.val (.ref a27)), (.val (.ref ga3)), (.val (.int (10 : Int32))), (.val (.int d)), (.val (.int (10 : Int32))), (.val (.int (8 : Int32))), .unset, .unset, .unset] [(.int (97 : Int32)), (.int d)]
              by_cases hc51 : d = (97 : Int32)
              · refine iCmpF C d0_164 (teq hc51).2 ?_
                refine iAload C d0_167 rfl rfl ?_
                refine iGoto C (t := 173) d0_169 ⟨by decide, by decide⟩ ?_
                refine iAstore C d0_173 (Ls' := #[(.val (.int i0)), (.val (.int i1)), (.val (.int i2)), (.val (.int i3)), (.val (.int bb)), (.val (.int op)), (.val (.ref a27)), (.val (.ref ga3)), (.val (.int (10 : Int32))), (.val (.int d)), (.val (.int (10 : Int32))), (.val (.int (8 : Int32))), (.val (.ref ga3)), .unset, .unset]) rfl rfl ?_
                have hE : pk ga1 ga3 [ff SWD d (8 : Int32) 0, ff SWD d (8 : Int32) 1, ff SWD d (8 : Int32) 2, ff SWD d (8 : Int32) 3, ff SWD d (8 : Int32) 4, ff SWD d (8 : Int32) 5, ff SWD d (8 : Int32) 6, ff SWD d (8 : Int32) 7, ff SWD d (8 : Int32) 8, ff SWD d (8 : Int32) 9] = (.ref ga3) := by
                  have eL : [ff SWD d (8 : Int32) 0, ff SWD d (8 : Int32) 1, ff SWD d (8 : Int32) 2, ff SWD d (8 : Int32) 3, ff SWD d (8 : Int32) 4, ff SWD d (8 : Int32) 5, ff SWD d (8 : Int32) 6, ff SWD d (8 : Int32) 7, ff SWD d (8 : Int32) 8, ff SWD d (8 : Int32) 9] = ([(119 : Int32), (105 : Int32), (116 : Int32), (104 : Int32), (100 : Int32), (114 : Int32), (97 : Int32), (119 : Int32), d, (108 : Int32)] : List Int32) := by
                    rw [own_fne (i := 0) (by decide), own_fne (i := 1) (by decide), own_fne (i := 2) (by decide), own_fne (i := 3) (by decide), own_fne (i := 4) (by decide), own_fne (i := 5) (by decide), own_fne (i := 6) (by decide), own_fne (i := 7) (by decide), own_feq (i := 8) (by decide), own_fne (i := 9) (by decide)]
                    try rfl
                  rw [eL]
                  rw [hc51]
                  rfl
                exact tl10 hw G O27 FV hcap S0 hz0 SI SW S1 rf hcw hhE ⟨A27, Fc27, Fv27, V27, (by decide), (by decide)⟩ hd (Or.inr ⟨_, rfl⟩) hE C
              · refine iCmpT C (t := 172) d0_164 (feq hc51).2 ⟨by decide, by decide⟩ ?_
                refine iNull C d0_172 ?_
                refine iAstore C d0_173 (Ls' := #[(.val (.int i0)), (.val (.int i1)), (.val (.int i2)), (.val (.int i3)), (.val (.int bb)), (.val (.int op)), (.val (.ref a27)), (.val (.ref ga3)), (.val (.int (10 : Int32))), (.val (.int d)), (.val (.int (10 : Int32))), (.val (.int (8 : Int32))), (.val .null), .unset, .unset]) rfl rfl ?_
                have hE : pk ga1 ga3 [ff SWD d (8 : Int32) 0, ff SWD d (8 : Int32) 1, ff SWD d (8 : Int32) 2, ff SWD d (8 : Int32) 3, ff SWD d (8 : Int32) 4, ff SWD d (8 : Int32) 5, ff SWD d (8 : Int32) 6, ff SWD d (8 : Int32) 7, ff SWD d (8 : Int32) 8, ff SWD d (8 : Int32) 9] = .null := by
                  have eL : [ff SWD d (8 : Int32) 0, ff SWD d (8 : Int32) 1, ff SWD d (8 : Int32) 2, ff SWD d (8 : Int32) 3, ff SWD d (8 : Int32) 4, ff SWD d (8 : Int32) 5, ff SWD d (8 : Int32) 6, ff SWD d (8 : Int32) 7, ff SWD d (8 : Int32) 8, ff SWD d (8 : Int32) 9] = ([(119 : Int32), (105 : Int32), (116 : Int32), (104 : Int32), (100 : Int32), (114 : Int32), (97 : Int32), (119 : Int32), d, (108 : Int32)] : List Int32) := by
                    rw [own_fne (i := 0) (by decide), own_fne (i := 1) (by decide), own_fne (i := 2) (by decide), own_fne (i := 3) (by decide), own_fne (i := 4) (by decide), own_fne (i := 5) (by decide), own_fne (i := 6) (by decide), own_fne (i := 7) (by decide), own_feq (i := 8) (by decide), own_fne (i := 9) (by decide)]
                    try rfl
                  rw [eL]
                  exact pk_no (fun q => (by decide : ¬ (9 : Nat) = 10) (congrArg List.length q)) (fun q => hc51 (congrArg (fun z => z.getD 8 0) q : (97 : Int32) = d).symm)
                exact tl10 hw G O27 FV hcap S0 hz0 SI SW S1 rf hcw hhE ⟨A27, Fc27, Fv27, V27, (by decide), (by decide)⟩ hd (Or.inl rfl) hE C
            · rw [q]
              refine iIstore C d0_153 (Ls' := #[(.val (.int i0)), (.val (.int i1)), (.val (.int i2)), (.val (.int i3)), (.val (.int bb)), (.val (.int op)), (.val (.ref a27)), (.val (.ref ga3)), (.val (.int (10 : Int32))), (.val (.int d)), (.val (.int (10 : Int32))), (.val (.int (9 : Int32))), .unset, .unset, .unset]) rfl ?_
              refine iIload C d0_155 rfl ?_
              refine iAload C d0_157 rfl rfl ?_
              refine iIload C d0_159 rfl ?_
              refine iCallVB C (payCh hw ⟨A27, Fc27, Fv27, V27, (by decide), (by decide)⟩ (S0.ext O27.2) hz0 (S1.ext O27.2) rf (i := 9) (by decide) rfl (by decide) (by decide)) A27 tw29 tw30 (Or.inl rfl) tw32 tw31 ⟨by decide, by decide⟩ (argsL := [(.int (9 : Int32))]) (S' := [(.int d)]) (lenOf pd1 rfl) rfl rfl d0_161 rfl (W := 1) rfl ⟨rfl, rfl, by decide, by decide⟩ fun v52 h52 q52 => ?_
              obtain ⟨rfl, rfl⟩ := q52
              show Go B n0 _ h27 2 44 164 #[(.val (.int i0)), (.val (.int i1)), (.val (.int i2)), (.val (.int i3)), (.val (.int bb)), (.val (.int op)), (.val (.ref a27)), (.val (.ref ga3)), (.val (.int (10 : Int32))), (.val (.int d)), (.val (.int (10 : Int32))), (.val (.int (9 : Int32))), .unset, .unset, .unset] [(.int (108 : Int32)), (.int d)]
              by_cases hc53 : d = (108 : Int32)
              · refine iCmpF C d0_164 (teq hc53).2 ?_
                refine iAload C d0_167 rfl rfl ?_
                refine iGoto C (t := 173) d0_169 ⟨by decide, by decide⟩ ?_
                refine iAstore C d0_173 (Ls' := #[(.val (.int i0)), (.val (.int i1)), (.val (.int i2)), (.val (.int i3)), (.val (.int bb)), (.val (.int op)), (.val (.ref a27)), (.val (.ref ga3)), (.val (.int (10 : Int32))), (.val (.int d)), (.val (.int (10 : Int32))), (.val (.int (9 : Int32))), (.val (.ref ga3)), .unset, .unset]) rfl rfl ?_
                have hE : pk ga1 ga3 [ff SWD d (9 : Int32) 0, ff SWD d (9 : Int32) 1, ff SWD d (9 : Int32) 2, ff SWD d (9 : Int32) 3, ff SWD d (9 : Int32) 4, ff SWD d (9 : Int32) 5, ff SWD d (9 : Int32) 6, ff SWD d (9 : Int32) 7, ff SWD d (9 : Int32) 8, ff SWD d (9 : Int32) 9] = (.ref ga3) := by
                  have eL : [ff SWD d (9 : Int32) 0, ff SWD d (9 : Int32) 1, ff SWD d (9 : Int32) 2, ff SWD d (9 : Int32) 3, ff SWD d (9 : Int32) 4, ff SWD d (9 : Int32) 5, ff SWD d (9 : Int32) 6, ff SWD d (9 : Int32) 7, ff SWD d (9 : Int32) 8, ff SWD d (9 : Int32) 9] = ([(119 : Int32), (105 : Int32), (116 : Int32), (104 : Int32), (100 : Int32), (114 : Int32), (97 : Int32), (119 : Int32), (97 : Int32), d] : List Int32) := by
                    rw [own_fne (i := 0) (by decide), own_fne (i := 1) (by decide), own_fne (i := 2) (by decide), own_fne (i := 3) (by decide), own_fne (i := 4) (by decide), own_fne (i := 5) (by decide), own_fne (i := 6) (by decide), own_fne (i := 7) (by decide), own_fne (i := 8) (by decide), own_feq (i := 9) (by decide)]
                    try rfl
                  rw [eL]
                  rw [hc53]
                  rfl
                exact tl10 hw G O27 FV hcap S0 hz0 SI SW S1 rf hcw hhE ⟨A27, Fc27, Fv27, V27, (by decide), (by decide)⟩ hd (Or.inr ⟨_, rfl⟩) hE C
              · refine iCmpT C (t := 172) d0_164 (feq hc53).2 ⟨by decide, by decide⟩ ?_
                refine iNull C d0_172 ?_
                refine iAstore C d0_173 (Ls' := #[(.val (.int i0)), (.val (.int i1)), (.val (.int i2)), (.val (.int i3)), (.val (.int bb)), (.val (.int op)), (.val (.ref a27)), (.val (.ref ga3)), (.val (.int (10 : Int32))), (.val (.int d)), (.val (.int (10 : Int32))), (.val (.int (9 : Int32))), (.val .null), .unset, .unset]) rfl rfl ?_
                have hE : pk ga1 ga3 [ff SWD d (9 : Int32) 0, ff SWD d (9 : Int32) 1, ff SWD d (9 : Int32) 2, ff SWD d (9 : Int32) 3, ff SWD d (9 : Int32) 4, ff SWD d (9 : Int32) 5, ff SWD d (9 : Int32) 6, ff SWD d (9 : Int32) 7, ff SWD d (9 : Int32) 8, ff SWD d (9 : Int32) 9] = .null := by
                  have eL : [ff SWD d (9 : Int32) 0, ff SWD d (9 : Int32) 1, ff SWD d (9 : Int32) 2, ff SWD d (9 : Int32) 3, ff SWD d (9 : Int32) 4, ff SWD d (9 : Int32) 5, ff SWD d (9 : Int32) 6, ff SWD d (9 : Int32) 7, ff SWD d (9 : Int32) 8, ff SWD d (9 : Int32) 9] = ([(119 : Int32), (105 : Int32), (116 : Int32), (104 : Int32), (100 : Int32), (114 : Int32), (97 : Int32), (119 : Int32), (97 : Int32), d] : List Int32) := by
                    rw [own_fne (i := 0) (by decide), own_fne (i := 1) (by decide), own_fne (i := 2) (by decide), own_fne (i := 3) (by decide), own_fne (i := 4) (by decide), own_fne (i := 5) (by decide), own_fne (i := 6) (by decide), own_fne (i := 7) (by decide), own_fne (i := 8) (by decide), own_feq (i := 9) (by decide)]
                    try rfl
                  rw [eL]
                  exact pk_no (fun q => (by decide : ¬ (9 : Nat) = 10) (congrArg List.length q)) (fun q => hc53 (congrArg (fun z => z.getD 9 0) q : (108 : Int32) = d).symm)
                exact tl10 hw G O27 FV hcap S0 hz0 SI SW S1 rf hcw hhE ⟨A27, Fc27, Fv27, V27, (by decide), (by decide)⟩ hd (Or.inl rfl) hE C
set_option maxRecDepth 65536 in
set_option maxHeartbeats 4000000 in
theorem comes_1 {Post : Tables → Env → Array Value → State → Outcome → State → Prop} (hpost : ∀ tb e args s v u, (limb_1_1.after args s (.returned v) u = true ∧ limb_1_2.after args s (.returned v) u = true ∧ True) → Jvm.D.FramedW s (.returned v) u (Jvm.fieldLocs frame_1_writes args s ++ Jvm.arrayLocs frame_1_arrays args s ++ Jvm.staticLocs frame_1_statics s) 24 3264 → Post tb e args s (.returned v) u) :
    ArmFor flags0 classFile x code maxLocals ret World_1 tables_1 room_1 Calls_1 rest_1 Pre_1 Post := by
  intro l hfl _ _ p e ha hc hk s m args below hf hA hF happ hP
  obtain ⟨hcalls, hrest, hpre⟩ := hP
  obtain ⟨-, -, -, hnamed, -, -, -, hat⟩ := (Spec.applies_iff hf).mp happ
  obtain ⟨hg, hn⟩ := and_e (Cond.before_iff.mp (show (Jvm.Cond.and given_1 narrow_1).before args s = true from hpre))
  obtain ⟨hg_1, hg_2⟩ := and_e hg
  obtain ⟨hg_3, hg_4⟩ := and_e hg_2
  obtain ⟨hg_5, hg_6⟩ := and_e hg_4
  obtain ⟨hg_7, hg_8⟩ := and_e hg_6
  obtain ⟨w0, w1, w2, w3, rfl⟩ : ∃ w0 w1 w2 w3 : Value, args = #[w0, w1, w2, w3] := by
    have hs : args.size = 4 := by simpa [Cond.value, given_1] using hg_1
    obtain ⟨L⟩ := args
    match L, hs with
    | [w0, w1, w2, w3], _ => exact ⟨w0, w1, w2, w3, rfl⟩
  have hw := fun d (hd : d ∈ tables_1) => atoms_spec (ws := Jvm.Cond.code x code maxLocals ret :: tables_1) hat d (List.mem_cons_of_mem _ hd)
  have hfit : Fit s := fun {y c} hc i hi => by
    obtain ⟨ha, rfl⟩ := Array.getElem?_eq_some_iff.mp hc
    have q := List.all_eq_true.mp ((Array.all_eq_true_iff_forall_mem.mp hF) _ (Array.getElem_mem ha)) i (List.mem_range.mpr hi)
    simpa [Array.getElem?_eq_getElem hi] using q
  obtain ⟨hsets, hown0⟩ := atoms_of _ (rest_1_c_eq ▸ (show rest_1_c.before _ s = true from hrest))
  obtain ⟨i0, ei0⟩ := is_v hg_3
  obtain rfl : w0 = (.int i0) := Option.some.inj ei0
  obtain ⟨i1, ei1⟩ := is_v hg_5
  obtain rfl : w1 = (.int i1) := Option.some.inj ei1
  obtain ⟨i2, ei2⟩ := is_v hg_7
  obtain rfl : w2 = (.int i2) := Option.some.inj ei2
  obtain ⟨i3, ei3⟩ := is_v hg_8
  obtain rfl : w3 = (.int i3) := Option.some.inj ei3
  obtain ⟨hn_1, hn_2⟩ := and_e hn
  obtain ⟨hn_3, hn_4⟩ := and_e hn_2
  obtain ⟨hn_5, hn_6⟩ := and_e hn_4
  obtain ⟨hn_7, hn_8⟩ := and_e hn_6
  obtain ⟨hn_9, hn_10⟩ := and_e hn_8
  obtain ⟨hn_11, hn_12⟩ := and_e hn_10
  obtain ⟨hn_13, hn_14⟩ := and_e hn_12
  obtain ⟨hn_15, hn_16⟩ := and_e hn_14
  obtain ⟨hn_17, hn_18⟩ := and_e hn_16
  obtain ⟨hn_19, hn_20⟩ := and_e hn_18
  obtain ⟨hn_21, hn_22⟩ := and_e hn_20
  obtain ⟨hn_23, hn_24⟩ := and_e hn_22
  obtain ⟨hn_25, hn_26⟩ := and_e hn_24
  obtain ⟨hn_27, hn_28⟩ := and_e hn_26
  obtain ⟨hn_29, hn_30⟩ := and_e hn_28
  obtain ⟨hn_31, hn_32⟩ := and_e hn_30
  obtain ⟨hn_33, hn_34⟩ := and_e hn_32
  obtain ⟨hn_35, hn_36⟩ := and_e hn_34
  obtain ⟨hn_37, hn_38⟩ := and_e hn_36
  obtain ⟨hn_39, hn_40⟩ := and_e hn_38
  obtain ⟨hn_41, hn_42⟩ := and_e hn_40
  obtain ⟨hn_43, hn_44⟩ := and_e hn_42
  obtain ⟨hn_45, hn_46⟩ := and_e hn_44
  obtain ⟨hn_47, hn_48⟩ := and_e hn_46
  obtain ⟨hn_49, hn_50⟩ := and_e hn_48
  obtain ⟨hn_51, hn_52⟩ := and_e hn_50
  obtain ⟨hn_53, hn_54⟩ := and_e hn_52
  obtain ⟨hn_55, hn_56⟩ := and_e hn_54
  obtain ⟨hn_57, hn_58⟩ := and_e hn_56
  obtain ⟨hn_59, hn_60⟩ := and_e hn_58
  obtain ⟨hn_61, hn_62⟩ := and_e hn_60
  obtain ⟨hn_63, hn_64⟩ := and_e hn_62
  obtain ⟨hn_65, hn_66⟩ := and_e hn_64
  obtain ⟨ga1, ge1⟩ := exa_v hn_1
  obtain ⟨ga2, ge2⟩ := arr_v hn_3
  obtain ⟨gc2, gA2⟩ := Arr.start ge2 hn_3
  obtain ⟨ga3, ge3⟩ := exa_v hn_11
  obtain ⟨ga4, ge4⟩ := exa_v hn_15
  obtain ⟨ga5, ge5⟩ := arr_v hn_19
  obtain ⟨gc5, gA5⟩ := Arr.start ge5 hn_19
  obtain ⟨ga6, ge6⟩ := exa_v hn_23
  obtain ⟨ga7, ge7⟩ := arr_v hn_27
  obtain ⟨gc7, gA7⟩ := Arr.start ge7 hn_27
  have G : GG s ga1 ga2 ga3 ga4 ga5 ga6 ga7 gc2 gc5 gc7 := ⟨Sta.start ge1 (Or.inr ⟨hw _ tw9, (hw _ tw10)⟩), Exa.start ge1 hn_1, Sta.start ge2 (Or.inr ⟨hw _ tw9, (hw _ tw79)⟩), gA2, Exa.start ge2 hn_5, Sta.start ge3 (Or.inr ⟨hw _ tw9, (hw _ tw87)⟩), Exa.start ge3 hn_11, Fld.start ((fld_at ge1).symm.trans ge4), Exa.start ge4 hn_15, Fld.start ((fld_at ge4).symm.trans ge5), gA5, Fld.start ((fld_at ge3).symm.trans ge6), Exa.start ge6 hn_23, Fld.start ((fld_at ge6).symm.trans ge7), gA7, oLen (eqI_v hn_7) ge2 gA2.1, elem_in (eqQ_v hn_9 ge1) ge2 (Term.int_eval _) gA2.1, elem_in (eqQ_v hn_13 ge3) ge2 (Term.int_eval _) gA2.1, Fld.start ((fld_at ge4).symm.trans (eqI_v hn_17)), oLen (eqI_v hn_21) ge5 gA5.1, Fld.start ((fld_at ge6).symm.trans (eqI_v hn_25)), oLen (eqI_v hn_29) ge7 gA7.1, elem_in (eqI_v hn_31) ge5 (Term.int_eval _) gA5.1, elem_in (eqI_v hn_33) ge5 (Term.int_eval _) gA5.1, elem_in (eqI_v hn_35) ge5 (Term.int_eval _) gA5.1, elem_in (eqI_v hn_37) ge5 (Term.int_eval _) gA5.1, elem_in (eqI_v hn_39) ge5 (Term.int_eval _) gA5.1, elem_in (eqI_v hn_41) ge5 (Term.int_eval _) gA5.1, elem_in (eqI_v hn_43) ge5 (Term.int_eval _) gA5.1, elem_in (eqI_v hn_45) ge5 (Term.int_eval _) gA5.1, elem_in (eqI_v hn_47) ge5 (Term.int_eval _) gA5.1, elem_in (eqI_v hn_49) ge7 (Term.int_eval _) gA7.1, elem_in (eqI_v hn_51) ge7 (Term.int_eval _) gA7.1, elem_in (eqI_v hn_53) ge7 (Term.int_eval _) gA7.1, elem_in (eqI_v hn_55) ge7 (Term.int_eval _) gA7.1, elem_in (eqI_v hn_57) ge7 (Term.int_eval _) gA7.1, elem_in (eqI_v hn_59) ge7 (Term.int_eval _) gA7.1, elem_in (eqI_v hn_61) ge7 (Term.int_eval _) gA7.1, elem_in (eqI_v hn_63) ge7 (Term.int_eval _) gA7.1, elem_in (eqI_v hn_65) ge7 (Term.int_eval _) gA7.1, elem_in (eqI_v hn_66) ge7 (Term.int_eval _) gA7.1⟩
  have l31_ga2 := oLen31 (eqI_v hn_7) ge2 gA2.1
  have l31_ga5 := oLen31 (eqI_v hn_21) ge5 gA5.1
  have l31_ga7 := oLen31 (eqI_v hn_29) ge7 gA7.1
  have SI : SX s s.heap ga4 ga5 gc5.cls SINJ := ⟨G.2.2.2.2.2.2.2.2.1, G.2.2.2.2.2.2.2.2.2.2.2.2.2.2.2.2.2.2.1, G.2.2.2.2.2.2.2.2.2.1, Arv.start hfit G.2.2.2.2.2.2.2.2.2.2.1 l31_ga5 G.2.2.2.2.2.2.2.2.2.2.2.2.2.2.2.2.2.2.2.1 (by decide) (by decide) ⟨G.2.2.2.2.2.2.2.2.2.2.2.2.2.2.2.2.2.2.2.2.2.2.1.2, ⟨G.2.2.2.2.2.2.2.2.2.2.2.2.2.2.2.2.2.2.2.2.2.2.2.1.2, ⟨G.2.2.2.2.2.2.2.2.2.2.2.2.2.2.2.2.2.2.2.2.2.2.2.2.1.2, ⟨G.2.2.2.2.2.2.2.2.2.2.2.2.2.2.2.2.2.2.2.2.2.2.2.2.2.1.2, ⟨G.2.2.2.2.2.2.2.2.2.2.2.2.2.2.2.2.2.2.2.2.2.2.2.2.2.2.1.2, ⟨G.2.2.2.2.2.2.2.2.2.2.2.2.2.2.2.2.2.2.2.2.2.2.2.2.2.2.2.1.2, ⟨G.2.2.2.2.2.2.2.2.2.2.2.2.2.2.2.2.2.2.2.2.2.2.2.2.2.2.2.2.1.2, ⟨G.2.2.2.2.2.2.2.2.2.2.2.2.2.2.2.2.2.2.2.2.2.2.2.2.2.2.2.2.2.1.2, ⟨G.2.2.2.2.2.2.2.2.2.2.2.2.2.2.2.2.2.2.2.2.2.2.2.2.2.2.2.2.2.2.1.2, trivial⟩⟩⟩⟩⟩⟩⟩⟩⟩, by decide, by decide⟩
  have SW : SX s s.heap ga6 ga7 gc7.cls SWD := ⟨G.2.2.2.2.2.2.2.2.2.2.2.2.1, G.2.2.2.2.2.2.2.2.2.2.2.2.2.2.2.2.2.2.2.2.1, G.2.2.2.2.2.2.2.2.2.2.2.2.2.1, Arv.start hfit G.2.2.2.2.2.2.2.2.2.2.2.2.2.2.1 l31_ga7 G.2.2.2.2.2.2.2.2.2.2.2.2.2.2.2.2.2.2.2.2.2.1 (by decide) (by decide) ⟨G.2.2.2.2.2.2.2.2.2.2.2.2.2.2.2.2.2.2.2.2.2.2.2.2.2.2.2.2.2.2.2.1.2, ⟨G.2.2.2.2.2.2.2.2.2.2.2.2.2.2.2.2.2.2.2.2.2.2.2.2.2.2.2.2.2.2.2.2.1.2, ⟨G.2.2.2.2.2.2.2.2.2.2.2.2.2.2.2.2.2.2.2.2.2.2.2.2.2.2.2.2.2.2.2.2.2.1.2, ⟨G.2.2.2.2.2.2.2.2.2.2.2.2.2.2.2.2.2.2.2.2.2.2.2.2.2.2.2.2.2.2.2.2.2.2.1.2, ⟨G.2.2.2.2.2.2.2.2.2.2.2.2.2.2.2.2.2.2.2.2.2.2.2.2.2.2.2.2.2.2.2.2.2.2.2.1.2, ⟨G.2.2.2.2.2.2.2.2.2.2.2.2.2.2.2.2.2.2.2.2.2.2.2.2.2.2.2.2.2.2.2.2.2.2.2.2.1.2, ⟨G.2.2.2.2.2.2.2.2.2.2.2.2.2.2.2.2.2.2.2.2.2.2.2.2.2.2.2.2.2.2.2.2.2.2.2.2.2.1.2, ⟨G.2.2.2.2.2.2.2.2.2.2.2.2.2.2.2.2.2.2.2.2.2.2.2.2.2.2.2.2.2.2.2.2.2.2.2.2.2.2.1.2, ⟨G.2.2.2.2.2.2.2.2.2.2.2.2.2.2.2.2.2.2.2.2.2.2.2.2.2.2.2.2.2.2.2.2.2.2.2.2.2.2.2.1.2, ⟨G.2.2.2.2.2.2.2.2.2.2.2.2.2.2.2.2.2.2.2.2.2.2.2.2.2.2.2.2.2.2.2.2.2.2.2.2.2.2.2.2.2, trivial⟩⟩⟩⟩⟩⟩⟩⟩⟩⟩, by decide, by decide⟩
  have FV : FitC s gc2 := FitC.start hfit G.2.2.2.1
  have hcap : gc2.slots.size ≤ 2 := Nat.le_of_eq (oCap l31_ga2 G.2.2.2.2.2.2.2.2.2.2.2.2.2.2.2.1)
  have n3 := hsets _ (List.mem_of_getElem? (i := 2) rfl)
  obtain ⟨z0, e6⟩ := is_v (Cond.before_iff.mp (hsets _ (List.mem_of_getElem? (i := 1) rfl)))
  have S0 : Sta s s.heap "java/lang/String" "COMPACT_STRINGS" "Z" (.int z0) := Sta.start e6 (Or.inl (hsets _ (List.mem_of_getElem? (i := 0) rfl)))
  have hz0 : ¬ z0 = 0 := gotF (Cond.eq_ints e6 (Term.int_eval 0)) (not_v (Cond.before_iff.mp n3))
  obtain ⟨fm, e7, rf⟩ := isR_v (Cond.before_iff.mp (hsets _ (List.mem_of_getElem? (i := 8) rfl)))
  have S1 : Sta s s.heap "jdk/internal/util/Preconditions" "SIOOBE_FORMATTER" "Ljava/util/function/BiFunction;" fm := Sta.start e7 (Or.inl (hsets _ (List.mem_of_getElem? (i := 7) rfl)))
  have hh : ∀ p ∈ consts_1, Jvm.Lit.constHeld s p.1 p.2 := hcalls.1
  have hhI : Jvm.Lit.constHeld s "com/example/hedgeline/hedgeline/FlowNamedPinLaw" 17 := hh _ (List.mem_of_getElem? (i := 0) rfl)
  have hhW : Jvm.Lit.constHeld s "com/example/hedgeline/hedgeline/FlowNamedPinLaw" 19 := hh _ (List.mem_of_getElem? (i := 1) rfl)
  have hhE : Jvm.Lit.constHeld s "java/lang/String" 7 := hh _ (List.mem_of_getElem? (i := 2) rfl)
  obtain ⟨n, o, h1, h2, h3, _, L, rfl, ⟨rfl, N, -⟩, -, hq⟩ := (rm0 (l := l) (Z := s) hw (n0 := s.heap.size) (h0 := s.heap) i0 i1 i2 i3 G (Old.start s) FV hcap S0 hz0 SI SW S1 rf n3 hhE hhI hhW (fun _ _ q => q) rfl) tables_1 p e ha hc hk s m _ below hf ((Spec.applies_iff_loose hf).mp happ).1 ⟨rfl, State.Warmed39.refl s, rfl, IB.start⟩ trivial
  refine ⟨n, _, h1, h2, h3, hpost _ _ _ _ _ _ ⟨Cond.after_iff.mpr rfl, Cond.after_iff.mpr (eq_i res_at (Term.int_eval (1)) rfl), trivial⟩ ⟨hq.1, hq.2.1, hq.2.2.1, (hq.2.2.2.sift fun y hy => Or.inr (N y hy)).mono (by decide) (by decide)⟩⟩
theorem main_1_1 : Claimed_1_1 := comes_1 fun _ _ _ _ _ _ h hF => ⟨h.1, hF⟩
theorem main_1_2 : Claimed_1_2 := comes_1 fun _ _ _ _ _ _ h hF => ⟨h.2.1, hF⟩
end Jvm.Pilot.@@N@@
namespace Jvm.Pilot.@@N@@
open Jvm Jvm.ClassFile Sem Op Lib Jvm.Free Jvm.Stand Jvm.Pilot.@@N@@.Jvm.D
/-! MADE BY PROGRAM (witnessworld.py) out of the Statement's table words and the real class files: 22 classes; the members and pool entries that the words name. The judged class is class 1, her method 2. -/
namespace start1
open Jvm.ClassFile
def u (s : String) : CpInfo := .utf8 (stringToUtf16 s)
/-- a pool by its gaps: so many unusable entries, then the entry; so many at the end -/
def gap : Nat → List CpInfo → List CpInfo
  | 0, r => r
  | n + 1, r => .unusable :: gap n r
def poolList (es : List (Nat × CpInfo)) (last : Nat) : List CpInfo := es.foldr (fun e r => gap e.1 (e.2 :: r)) (gap last [])
def pool (es : List (Nat × CpInfo)) (last : Nat) : Array CpInfo := ⟨poolList es last⟩
def fileOf (pool : Array CpInfo) (this : Nat) (attrs : Array Attribute := #[]) (ms : Array MethodInfo := #[]) (fl : Nat := 33) (sup : Nat := 0) (ifs : Array Nat := #[]) (fds : Array FieldInfo := #[]) : ClassFile where
  minorVersion := 0
  majorVersion := 65
  constantPool := pool
  accessFlags := fl
  thisClass := this
  superClass := sup
  interfaces := ifs
  fields := fds
  methods := ms
  attributes := attrs
def plain (name : String) (sup : Option ClassId) : Class where
  name := name
  kind := .ordinary
  loader := none
  accessFlags := 33
  super := sup
  interfaces := #[]
  cf := none
  fields := #[]
  methods := #[]
  instanceTypes := #[]
  staticTypes := #[]
  resolved := #[]
  callSites := []
  init := .initialized
  statics := none
  mirror := none

def pool0 : Array CpInfo := pool [(5, u "<init>"), (0, u "()V"), (1, .class_ 10), (1, u "java/lang/Object"), (85, u "clone"), (0, u "()Ljava/lang/Object;")] 26

def k0c0 : Code := { maxStack := 0, maxLocals := 1, code := object_method_1_code, exceptionTable := #[], attributes := #[] }
def k0m0 : Method := { name := "<init>", desc := "()V", sig := { parameters := [], returnType := none }, accessFlags := 1, code := some k0c0 }
def k0m1 : Method := { name := "clone", desc := "()Ljava/lang/Object;", sig := { parameters := [], returnType := some (.object "java/lang/Object") }, accessFlags := 260, code := none }
/-- java/lang/Object -/
def k0 : Class := { plain "java/lang/Object" none with
  accessFlags := 33
  interfaces := #[]
  cf := some (fileOf pool0 8 #[] #[{ accessFlags := 1, nameIndex := 5, descriptorIndex := 6, attributes := #[] }, { accessFlags := 260, nameIndex := 96, descriptorIndex := 97, attributes := #[] }] 33 0 #[] #[])
  fields := #[]
  methods := #[k0m0, k0m1]
  instanceTypes := #[]
  staticTypes := #[]
  resolved := Array.replicate 124 none
  statics := none }

def pool1 : Array CpInfo := pool [(2, .class_ 4), (1, u "java/lang/Object"), (0, u "<init>"), (0, u "()V"), (0, .methodref 8 9), (0, .class_ 10), (0, .nameAndType 11 12), (0, u "java/lang/String"), (0, u "length"), (0, u "()I"), (0, .methodref 8 14), (0, .nameAndType 15 16), (0, u "charAt"), (0, u "(I)C"), (0, .string 18), (0, u "injection"), (0, .string 20), (0, u "withdrawal"), (0, .fieldref 22 23), (0, .class_ 24), (0, .nameAndType 25 26), (0, u "com/example/hedgeline/hedgeline/Flow"), (0, u "INJECTION"), (0, u "Lcom/example/hedgeline/hedgeline/Flow;"), (0, .fieldref 22 28), (0, .nameAndType 29 26), (0, u "WITHDRAWAL"), (0, .integer 2147483647), (0, .methodref 22 32), (0, .nameAndType 33 34), (0, u "named"), (0, u "(Ljava/lang/String;)Lcom/example/hedgeline/hedgeline/Flow;"), (0, .methodref 36 37), (0, .class_ 38), (0, .nameAndType 39 40), (0, u "com/example/hedgeline/hedgeline/FlowNamedPinLaw"), (0, u "at"), (0, u "(Ljava/lang/String;IIC)C"), (0, .methodref 8 42), (0, .nameAndType 5 43), (0, u "([C)V"), (3, u "law"), (0, u "(IIII)Z")] 4

def k1m0 : Method := { name := "<init>", desc := "()V", sig := { parameters := [], returnType := none }, accessFlags := 2, code := none }
def k1c1 : Code := { maxStack := 2, maxLocals := 4, code := method_2_code, exceptionTable := #[], attributes := #[] }
def k1m1 : Method := { name := "at", desc := "(Ljava/lang/String;IIC)C", sig := { parameters := [(.object "java/lang/String"), .int, .int, .char], returnType := some .char }, accessFlags := 10, code := some k1c1 }
def k1c2 : Code := { maxStack := 6, maxLocals := 15, code := code, exceptionTable := #[], attributes := #[] }
def k1m2 : Method := { name := "law", desc := "(IIII)Z", sig := { parameters := [.int, .int, .int, .int], returnType := some .boolean }, accessFlags := 9, code := some k1c2 }
/-- com/example/hedgeline/hedgeline/FlowNamedPinLaw -/
def k1 : Class := { plain "com/example/hedgeline/hedgeline/FlowNamedPinLaw" (some 0) with
  accessFlags := 49
  interfaces := #[]
  cf := some (fileOf pool1 36 #[] #[{ accessFlags := 2, nameIndex := 5, descriptorIndex := 6, attributes := #[] }, { accessFlags := 10, nameIndex := 39, descriptorIndex := 40, attributes := #[] }, { accessFlags := 9, nameIndex := 47, descriptorIndex := 48, attributes := #[] }] 49 2 #[] #[])
  fields := #[]
  methods := #[k1m0, k1m1, k1m2]
  instanceTypes := #[]
  staticTypes := #[]
  resolved := Array.replicate 53 none
  statics := none }

def pool2 : Array CpInfo := pool [(1, .class_ 2), (0, u "java/io/Serializable"), (0, .class_ 4), (0, u "java/lang/Object")] 2

/-- java/io/Serializable -/
def k2 : Class := { plain "java/io/Serializable" (some 0) with
  accessFlags := 1537
  interfaces := #[]
  cf := some (fileOf pool2 1 #[] #[] 1537 3 #[] #[])
  fields := #[]
  methods := #[]
  instanceTypes := #[]
  staticTypes := #[]
  resolved := Array.replicate 7 none
  statics := none }

def pool3 : Array CpInfo := pool [(1, .class_ 2), (0, u "java/lang/Comparable"), (0, .class_ 4), (0, u "java/lang/Object")] 7

/-- java/lang/Comparable -/
def k3 : Class := { plain "java/lang/Comparable" (some 0) with
  accessFlags := 1537
  interfaces := #[]
  cf := some (fileOf pool3 1 #[] #[] 1537 3 #[] #[])
  fields := #[]
  methods := #[]
  instanceTypes := #[]
  staticTypes := #[]
  resolved := Array.replicate 12 none
  statics := none }

def pool4 : Array CpInfo := pool [(2, .class_ 4), (1, u "java/lang/CharSequence"), (42, .class_ 48), (0, u "java/lang/CharSequence$1CodePointIterator"), (10, .class_ 60), (0, u "java/lang/CharSequence$1CharIterator"), (5, .class_ 67), (0, u "java/lang/Object")] 63

/-- java/lang/CharSequence -/
def k4 : Class := { plain "java/lang/CharSequence" (some 0) with
  accessFlags := 1537
  interfaces := #[]
  cf := some (fileOf pool4 2 #[.nestMembers #[47, 59]] #[] 1537 66 #[] #[])
  fields := #[]
  methods := #[]
  instanceTypes := #[]
  staticTypes := #[]
  resolved := Array.replicate 131 none
  statics := none }

def pool5 : Array CpInfo := pool [(1, .class_ 2), (0, u "java/lang/constant/Constable"), (0, .class_ 4), (0, u "java/lang/Object")] 6

/-- java/lang/constant/Constable -/
def k5 : Class := { plain "java/lang/constant/Constable" (some 0) with
  accessFlags := 1537
  interfaces := #[]
  cf := some (fileOf pool5 1 #[] #[] 1537 3 #[] #[])
  fields := #[]
  methods := #[]
  instanceTypes := #[]
  staticTypes := #[]
  resolved := Array.replicate 11 none
  statics := none }

def pool6 : Array CpInfo := pool [(1, .class_ 2), (0, u "java/lang/constant/ConstantDesc"), (0, .class_ 4), (0, u "java/lang/Object")] 32

/-- java/lang/constant/ConstantDesc -/
def k6 : Class := { plain "java/lang/constant/ConstantDesc" (some 0) with
  accessFlags := 1537
  interfaces := #[]
  cf := some (fileOf pool6 1 #[] #[] 1537 3 #[] #[])
  fields := #[]
  methods := #[]
  instanceTypes := #[]
  staticTypes := #[]
  resolved := Array.replicate 37 none
  statics := none }

def pool7 : Array CpInfo := pool [(1, .methodref 2 3), (0, .class_ 4), (0, .nameAndType 5 6), (0, u "java/lang/Object"), (0, u "<init>"), (0, u "()V"), (0, .string 8), (0, u ""), (0, .fieldref 10 11), (0, .class_ 12), (0, .nameAndType 13 14), (0, u "java/lang/String"), (0, u "value"), (0, u "[B"), (0, .fieldref 10 16), (0, .nameAndType 17 18), (0, u "coder"), (0, u "B"), (2, u "hash"), (0, u "I"), (2, u "hashIsZero"), (0, u "Z"), (0, .methodref 10 28), (0, .nameAndType 5 29), (0, u "([CIILjava/lang/Void;)V"), (8, .fieldref 10 39), (0, .nameAndType 40 26), (0, u "COMPACT_STRINGS"), (1, .class_ 44), (1, u "java/lang/StringUTF16"), (0, u "compress"), (1, .methodref 42 48), (0, .nameAndType 49 50), (0, u "coderFromArrayLen"), (0, u "([BI)B"), (56, .class_ 109), (1, u "java/lang/StringLatin1"), (32, u "()Z"), (34, .methodref 42 178), (0, .nameAndType 45 179), (0, u "([CII)[B"), (154, u "()I"), (0, .methodref 10 336), (0, .nameAndType 17 337), (0, u "()B"), (25, u "([BI)C"), (27, u "(II)V"), (35, u "(I)C"), (64, .methodref 10 493), (0, .nameAndType 494 142), (0, u "isLatin1"), (0, .methodref 107 496), (0, .nameAndType 497 363), (0, u "charAt"), (3, u "checkIndex"), (5, u "length"), (33, .methodref 107 542), (0, .nameAndType 543 544), (0, u "equals"), (0, u "([B[B)Z"), (28, u "(Ljava/lang/Object;)Z"), (1, .class_ 576), (0, u "java/lang/CharSequence"), (22, u "CASE_INSENSITIVE_ORDER"), (0, u "Ljava/util/Comparator;"), (409, u "([C)V"), (42, .fieldref 1054 1055), (0, .class_ 1056), (0, .nameAndType 1057 1058), (0, u "jdk/internal/util/Preconditions"), (0, u "SIOOBE_FORMATTER"), (0, u "Ljava/util/function/BiFunction;"), (0, .methodref 1054 1060), (0, .nameAndType 501 1061), (0, u "(IILjava/util/function/BiFunction;)I"), (39, u "serialPersistentFields"), (0, u "[Ljava/io/ObjectStreamField;"), (0, .class_ 1104), (0, u "java/lang/String$CaseInsensitiveComparator"), (1, .class_ 1107), (0, u "java/io/Serializable"), (0, .class_ 1109), (0, u "java/lang/Comparable"), (0, .class_ 1111), (0, u "java/lang/constant/Constable"), (0, .class_ 1113), (0, u "java/lang/constant/ConstantDesc"), (2, u "serialVersionUID"), (0, u "J"), (3, u "REPL"), (0, u "C"), (2, u "LATIN1"), (1, u "UTF16")] 323

def k7m0 : Method := { name := "<init>", desc := "()V", sig := { parameters := [], returnType := none }, accessFlags := 1, code := none }
def k7c1 : Code := { maxStack := 5, maxLocals := 2, code := jdk_42_method_3_code, exceptionTable := #[], attributes := #[] }
def k7m1 : Method := { name := "<init>", desc := "([C)V", sig := { parameters := [(.array .char)], returnType := none }, accessFlags := 1, code := some k7c1 }
def k7c2 : Code := { maxStack := 2, maxLocals := 1, code := jdk_42_method_54_code, exceptionTable := #[], attributes := #[] }
def k7m2 : Method := { name := "length", desc := "()I", sig := { parameters := [], returnType := some .int }, accessFlags := 1, code := some k7c2 }
def k7c3 : Code := { maxStack := 2, maxLocals := 2, code := jdk_42_method_56_code, exceptionTable := #[], attributes := #[] }
def k7m3 : Method := { name := "charAt", desc := "(I)C", sig := { parameters := [.int], returnType := some .char }, accessFlags := 1, code := some k7c3 }
def k7c4 : Code := { maxStack := 2, maxLocals := 3, code := jdk_42_method_66_code, exceptionTable := #[], attributes := #[] }
def k7m4 : Method := { name := "equals", desc := "(Ljava/lang/Object;)Z", sig := { parameters := [(.object "java/lang/Object")], returnType := some .boolean }, accessFlags := 1, code := some k7c4 }
def k7c5 : Code := { maxStack := 4, maxLocals := 6, code := jdk_42_method_149_code, exceptionTable := #[], attributes := #[] }
def k7m5 : Method := { name := "<init>", desc := "([CIILjava/lang/Void;)V", sig := { parameters := [(.array .char), .int, .int, (.object "java/lang/Void")], returnType := none }, accessFlags := 2, code := some k7c5 }
def k7c6 : Code := { maxStack := 1, maxLocals := 1, code := jdk_42_method_152_code, exceptionTable := #[], attributes := #[] }
def k7m6 : Method := { name := "coder", desc := "()B", sig := { parameters := [], returnType := some .byte }, accessFlags := 0, code := some k7c6 }
def k7c7 : Code := { maxStack := 1, maxLocals := 1, code := jdk_42_method_154_code, exceptionTable := #[], attributes := #[] }
def k7m7 : Method := { name := "isLatin1", desc := "()Z", sig := { parameters := [], returnType := some .boolean }, accessFlags := 0, code := some k7c7 }
def k7c8 : Code := { maxStack := 3, maxLocals := 2, code := jdk_42_method_155_code, exceptionTable := #[], attributes := #[] }
def k7m8 : Method := { name := "checkIndex", desc := "(II)V", sig := { parameters := [.int, .int], returnType := none }, accessFlags := 8, code := some k7c8 }
/-- java/lang/String -/
def k7 : Class := { plain "java/lang/String" (some 0) with
  accessFlags := 49
  interfaces := #[2, 3, 4, 5, 6]
  cf := some (fileOf pool7 10 #[.nestMembers #[1103]] #[{ accessFlags := 1, nameIndex := 5, descriptorIndex := 6, attributes := #[] }, { accessFlags := 1, nameIndex := 5, descriptorIndex := 1010, attributes := #[] }, { accessFlags := 1, nameIndex := 507, descriptorIndex := 334, attributes := #[] }, { accessFlags := 1, nameIndex := 497, descriptorIndex := 427, attributes := #[] }, { accessFlags := 1, nameIndex := 543, descriptorIndex := 573, attributes := #[] }, { accessFlags := 2, nameIndex := 5, descriptorIndex := 29, attributes := #[] }, { accessFlags := 0, nameIndex := 17, descriptorIndex := 337, attributes := #[] }, { accessFlags := 0, nameIndex := 494, descriptorIndex := 142, attributes := #[] }, { accessFlags := 8, nameIndex := 501, descriptorIndex := 391, attributes := #[] }] 49 2 #[1106, 1108, 575, 1110, 1112] #[{ accessFlags := 18, nameIndex := 13, descriptorIndex := 14, attributes := #[] }, { accessFlags := 18, nameIndex := 17, descriptorIndex := 18, attributes := #[] }, { accessFlags := 2, nameIndex := 21, descriptorIndex := 22, attributes := #[] }, { accessFlags := 2, nameIndex := 25, descriptorIndex := 26, attributes := #[] }, { accessFlags := 26, nameIndex := 1116, descriptorIndex := 1117, attributes := #[] }, { accessFlags := 24, nameIndex := 40, descriptorIndex := 26, attributes := #[] }, { accessFlags := 26, nameIndex := 1101, descriptorIndex := 1102, attributes := #[] }, { accessFlags := 26, nameIndex := 1121, descriptorIndex := 1122, attributes := #[] }, { accessFlags := 25, nameIndex := 599, descriptorIndex := 600, attributes := #[] }, { accessFlags := 24, nameIndex := 1125, descriptorIndex := 18, attributes := #[] }, { accessFlags := 24, nameIndex := 1127, descriptorIndex := 18, attributes := #[] }])
  fields := #[{ name := "value", type := (.array .byte), accessFlags := 18, slot := 0, constantValue := 0 }, { name := "coder", type := .byte, accessFlags := 18, slot := 1, constantValue := 0 }, { name := "hash", type := .int, accessFlags := 2, slot := 2, constantValue := 0 }, { name := "hashIsZero", type := .boolean, accessFlags := 2, slot := 3, constantValue := 0 }, { name := "serialVersionUID", type := .long, accessFlags := 26, slot := 0, constantValue := 0 }, { name := "COMPACT_STRINGS", type := .boolean, accessFlags := 24, slot := 1, constantValue := 0 }, { name := "serialPersistentFields", type := (.array (.object "java/io/ObjectStreamField")), accessFlags := 26, slot := 2, constantValue := 0 }, { name := "REPL", type := .char, accessFlags := 26, slot := 3, constantValue := 0 }, { name := "CASE_INSENSITIVE_ORDER", type := (.object "java/util/Comparator"), accessFlags := 25, slot := 4, constantValue := 0 }, { name := "LATIN1", type := .byte, accessFlags := 24, slot := 5, constantValue := 0 }, { name := "UTF16", type := .byte, accessFlags := 24, slot := 6, constantValue := 0 }]
  methods := #[k7m0, k7m1, k7m2, k7m3, k7m4, k7m5, k7m6, k7m7, k7m8]
  instanceTypes := #[(.array .byte), .byte, .int, .boolean]
  staticTypes := #[.long, .boolean, (.array (.object "java/io/ObjectStreamField")), .char, (.object "java/util/Comparator"), .byte, .byte]
  resolved := Array.replicate 1451 none
  statics := some 0 }

def pool8 : Array CpInfo := pool [(2, .class_ 4), (1, u "java/lang/Enum"), (0, u "name"), (0, u "Ljava/lang/String;"), (2, u "ordinal"), (0, u "I"), (1, .class_ 14), (1, u "java/lang/Object"), (4, u "hash"), (86, .class_ 108), (1, u "java/lang/Enum$EnumDesc"), (2, .class_ 112), (0, u "java/lang/constant/Constable"), (0, .class_ 114), (0, u "java/lang/Comparable"), (0, .class_ 116), (0, u "java/io/Serializable")] 87

/-- java/lang/Enum -/
def k8 : Class := { plain "java/lang/Enum" (some 0) with
  accessFlags := 1057
  interfaces := #[5, 3, 2]
  cf := some (fileOf pool8 2 #[.nestMembers #[106]] #[] 1057 12 #[111, 113, 115] #[{ accessFlags := 18, nameIndex := 5, descriptorIndex := 6, attributes := #[] }, { accessFlags := 18, nameIndex := 9, descriptorIndex := 10, attributes := #[] }, { accessFlags := 2, nameIndex := 19, descriptorIndex := 10, attributes := #[] }])
  fields := #[{ name := "name", type := (.object "java/lang/String"), accessFlags := 18, slot := 0, constantValue := 0 }, { name := "ordinal", type := .int, accessFlags := 18, slot := 1, constantValue := 0 }, { name := "hash", type := .int, accessFlags := 2, slot := 2, constantValue := 0 }]
  methods := #[]
  instanceTypes := #[(.object "java/lang/String"), .int, .int]
  staticTypes := #[]
  resolved := Array.replicate 204 none
  statics := none }

def pool9 : Array CpInfo := pool [(1, .class_ 2), (0, u "com/example/hedgeline/hedgeline/Flow"), (2, u "INJECTION"), (0, u "Lcom/example/hedgeline/hedgeline/Flow;"), (2, u "WITHDRAWAL"), (0, .fieldref 1 11), (0, .nameAndType 12 13), (0, u "$VALUES"), (0, u "[Lcom/example/hedgeline/hedgeline/Flow;"), (0, .methodref 15 16), (0, .class_ 13), (0, .nameAndType 17 18), (0, u "clone"), (0, u "()Ljava/lang/Object;"), (1, .class_ 22), (1, u "java/lang/Enum"), (6, .fieldref 1 30), (0, .nameAndType 31 32), (0, u "label"), (0, u "Ljava/lang/String;"), (0, .methodref 1 34), (0, .nameAndType 35 36), (0, u "values"), (0, u "()[Lcom/example/hedgeline/hedgeline/Flow;"), (0, .methodref 38 39), (0, .class_ 40), (0, .nameAndType 41 42), (0, u "java/lang/String"), (0, u "equals"), (0, u "(Ljava/lang/Object;)Z"), (10, u "named"), (0, u "(Ljava/lang/String;)Lcom/example/hedgeline/hedgeline/Flow;")] 52

def k9c0 : Code := { maxStack := 1, maxLocals := 0, code := prog_26_method_1_code, exceptionTable := #[], attributes := #[] }
def k9m0 : Method := { name := "values", desc := "()[Lcom/example/hedgeline/hedgeline/Flow;", sig := { parameters := [], returnType := some (.array (.object "com/example/hedgeline/hedgeline/Flow")) }, accessFlags := 9, code := some k9c0 }
def k9c1 : Code := { maxStack := 2, maxLocals := 5, code := prog_26_method_4_code, exceptionTable := #[], attributes := #[] }
def k9m1 : Method := { name := "named", desc := "(Ljava/lang/String;)Lcom/example/hedgeline/hedgeline/Flow;", sig := { parameters := [(.object "java/lang/String")], returnType := some (.object "com/example/hedgeline/hedgeline/Flow") }, accessFlags := 8, code := some k9c1 }
/-- com/example/hedgeline/hedgeline/Flow -/
def k9 : Class := { plain "com/example/hedgeline/hedgeline/Flow" (some 8) with
  accessFlags := 16432
  interfaces := #[]
  cf := some (fileOf pool9 1 #[] #[{ accessFlags := 9, nameIndex := 35, descriptorIndex := 36, attributes := #[] }, { accessFlags := 8, nameIndex := 53, descriptorIndex := 54, attributes := #[] }] 16432 20 #[] #[{ accessFlags := 16409, nameIndex := 5, descriptorIndex := 6, attributes := #[] }, { accessFlags := 16409, nameIndex := 9, descriptorIndex := 6, attributes := #[] }, { accessFlags := 18, nameIndex := 31, descriptorIndex := 32, attributes := #[] }, { accessFlags := 4122, nameIndex := 12, descriptorIndex := 13, attributes := #[] }])
  fields := #[{ name := "INJECTION", type := (.object "com/example/hedgeline/hedgeline/Flow"), accessFlags := 16409, slot := 0, constantValue := 0 }, { name := "WITHDRAWAL", type := (.object "com/example/hedgeline/hedgeline/Flow"), accessFlags := 16409, slot := 1, constantValue := 0 }, { name := "label", type := (.object "java/lang/String"), accessFlags := 18, slot := 3, constantValue := 0 }, { name := "$VALUES", type := (.array (.object "com/example/hedgeline/hedgeline/Flow")), accessFlags := 4122, slot := 2, constantValue := 0 }]
  methods := #[k9m0, k9m1]
  instanceTypes := #[(.object "java/lang/String"), .int, .int, (.object "java/lang/String")]
  staticTypes := #[(.object "com/example/hedgeline/hedgeline/Flow"), (.object "com/example/hedgeline/hedgeline/Flow"), (.array (.object "com/example/hedgeline/hedgeline/Flow"))]
  resolved := Array.replicate 107 none
  statics := some 1 }

def pool10 : Array CpInfo := pool [(1, .class_ 2), (0, u "java/lang/String"), (1, .class_ 6), (1, u "java/lang/Object"), (0, u "<init>"), (0, u "()V"), (0, .methodref 1 10), (0, .nameAndType 11 12), (0, u "checkIndex"), (0, u "(II)V"), (1, .class_ 16), (1, u "java/lang/StringLatin1"), (36, u "([BI)C"), (67, u "$assertionsDisabled"), (0, u "Z"), (98, .class_ 223), (1, u "java/lang/StringLatin1$LinesSpliterator"), (28, u "charAt"), (28, u "equals"), (0, u "([B[B)Z"), (107, .class_ 391), (0, u "java/lang/StringLatin1$CharsSpliterator")] 3

def k10m0 : Method := { name := "<init>", desc := "()V", sig := { parameters := [], returnType := none }, accessFlags := 0, code := none }
def k10c1 : Code := { maxStack := 2, maxLocals := 2, code := jdk_43_method_2_code, exceptionTable := #[], attributes := #[] }
def k10m1 : Method := { name := "charAt", desc := "([BI)C", sig := { parameters := [(.array .byte), .int], returnType := some .char }, accessFlags := 9, code := some k10c1 }
def k10c2 : Code := { maxStack := 3, maxLocals := 3, code := jdk_43_method_13_code, exceptionTable := #[], attributes := #[] }
def k10m2 : Method := { name := "equals", desc := "([B[B)Z", sig := { parameters := [(.array .byte), (.array .byte)], returnType := some .boolean }, accessFlags := 9, code := some k10c2 }
/-- java/lang/StringLatin1 -/
def k10 : Class := { plain "java/lang/StringLatin1" (some 0) with
  accessFlags := 48
  interfaces := #[]
  cf := some (fileOf pool10 14 #[.nestMembers #[390, 221]] #[{ accessFlags := 0, nameIndex := 7, descriptorIndex := 8, attributes := #[] }, { accessFlags := 9, nameIndex := 252, descriptorIndex := 53, attributes := #[] }, { accessFlags := 9, nameIndex := 281, descriptorIndex := 282, attributes := #[] }] 48 4 #[] #[{ accessFlags := 4120, nameIndex := 121, descriptorIndex := 122, attributes := #[] }])
  fields := #[{ name := "$assertionsDisabled", type := .boolean, accessFlags := 4120, slot := 0, constantValue := 0 }]
  methods := #[k10m0, k10m1, k10m2]
  instanceTypes := #[]
  staticTypes := #[.boolean]
  resolved := Array.replicate 395 none
  statics := none }

def pool11 : Array CpInfo := pool [(2, .class_ 4), (1, u "java/lang/Object"), (0, u "<init>"), (0, u "()V"), (17, .class_ 26), (1, u "jdk/internal/util/Preconditions"), (6, u "checkIndex"), (21, .class_ 56), (0, u "jdk/internal/util/Preconditions$4"), (57, .class_ 115), (0, u "jdk/internal/util/Preconditions$1"), (7, u "SIOOBE_FORMATTER"), (0, u "Ljava/util/function/BiFunction;"), (0, .class_ 126), (0, u "jdk/internal/util/Preconditions$2"), (3, u "AIOOBE_FORMATTER"), (0, .class_ 132), (0, u "jdk/internal/util/Preconditions$3"), (3, u "IOOBE_FORMATTER"), (41, u "(IILjava/util/function/BiFunction;)I")] 15

def k11m0 : Method := { name := "<init>", desc := "()V", sig := { parameters := [], returnType := none }, accessFlags := 1, code := none }
def k11c1 : Code := { maxStack := 3, maxLocals := 3, code := jdk_41_method_11_code, exceptionTable := #[], attributes := #[] }
def k11m1 : Method := { name := "checkIndex", desc := "(IILjava/util/function/BiFunction;)I", sig := { parameters := [.int, .int, (.object "java/util/function/BiFunction")], returnType := some .int }, accessFlags := 9, code := some k11c1 }
/-- jdk/internal/util/Preconditions -/
def k11 : Class := { plain "jdk/internal/util/Preconditions" (some 0) with
  accessFlags := 33
  interfaces := #[]
  cf := some (fileOf pool11 24 #[.nestMembers #[55, 131, 125, 114]] #[{ accessFlags := 1, nameIndex := 5, descriptorIndex := 6, attributes := #[] }, { accessFlags := 9, nameIndex := 33, descriptorIndex := 178, attributes := #[] }] 33 2 #[] #[{ accessFlags := 25, nameIndex := 123, descriptorIndex := 124, attributes := #[] }, { accessFlags := 25, nameIndex := 130, descriptorIndex := 124, attributes := #[] }, { accessFlags := 25, nameIndex := 136, descriptorIndex := 124, attributes := #[] }])
  fields := #[{ name := "SIOOBE_FORMATTER", type := (.object "java/util/function/BiFunction"), accessFlags := 25, slot := 0, constantValue := 0 }, { name := "AIOOBE_FORMATTER", type := (.object "java/util/function/BiFunction"), accessFlags := 25, slot := 1, constantValue := 0 }, { name := "IOOBE_FORMATTER", type := (.object "java/util/function/BiFunction"), accessFlags := 25, slot := 2, constantValue := 0 }]
  methods := #[k11m0, k11m1]
  instanceTypes := #[]
  staticTypes := #[(.object "java/util/function/BiFunction"), (.object "java/util/function/BiFunction"), (.object "java/util/function/BiFunction")]
  resolved := Array.replicate 194 none
  statics := some 2 }

def pool12 : Array CpInfo := pool [(6, .class_ 8), (1, u "java/lang/Object"), (0, u "<init>"), (0, u "()V"), (1, .class_ 14), (1, u "java/lang/StringUTF16"), (31, u "$assertionsDisabled"), (0, u "Z"), (13, u "HI_BYTE_SHIFT"), (0, u "I"), (2, u "LO_BYTE_SHIFT"), (49, .methodref 12 116), (0, .nameAndType 117 118), (0, u "compress"), (0, u "([CI[BII)I"), (3, u "([CII)[B"), (138, u "coderFromArrayLen"), (0, u "([BI)B"), (106, .class_ 371), (1, u "java/lang/StringUTF16$LinesSpliterator"), (58, u "MAX_LENGTH"), (196, .class_ 628), (0, u "java/lang/StringUTF16$CodePointsSpliterator"), (0, .class_ 630), (0, u "java/lang/StringUTF16$CharsSpliterator")] 4

def k12m0 : Method := { name := "<init>", desc := "()V", sig := { parameters := [], returnType := none }, accessFlags := 0, code := none }
def k12c1 : Code := { maxStack := 2, maxLocals := 2, code := jdk_52_method_15_code, exceptionTable := #[], attributes := #[] }
def k12m1 : Method := { name := "coderFromArrayLen", desc := "([BI)B", sig := { parameters := [(.array .byte), .int], returnType := some .byte }, accessFlags := 8, code := some k12c1 }
def k12c2 : Code := { maxStack := 5, maxLocals := 6, code := jdk_52_method_16_code, exceptionTable := #[], attributes := #[] }
def k12m2 : Method := { name := "compress", desc := "([CII)[B", sig := { parameters := [(.array .char), .int, .int], returnType := some (.array .byte) }, accessFlags := 9, code := some k12c2 }
def k12c3 : Code := { maxStack := 3, maxLocals := 7, code := jdk_52_method_21_code, exceptionTable := #[], attributes := #[] }
def k12m3 : Method := { name := "compress", desc := "([CI[BII)I", sig := { parameters := [(.array .char), .int, (.array .byte), .int, .int], returnType := some .int }, accessFlags := 9, code := some k12c3 }
/-- java/lang/StringUTF16 -/
def k12 : Class := { plain "java/lang/StringUTF16" (some 0) with
  accessFlags := 48
  interfaces := #[]
  cf := some (fileOf pool12 12 #[.nestMembers #[627, 629, 369]] #[{ accessFlags := 0, nameIndex := 9, descriptorIndex := 10, attributes := #[] }, { accessFlags := 8, nameIndex := 261, descriptorIndex := 262, attributes := #[] }, { accessFlags := 9, nameIndex := 117, descriptorIndex := 122, attributes := #[] }, { accessFlags := 9, nameIndex := 117, descriptorIndex := 118, attributes := #[] }] 48 6 #[] #[{ accessFlags := 26, nameIndex := 61, descriptorIndex := 62, attributes := #[] }, { accessFlags := 26, nameIndex := 65, descriptorIndex := 62, attributes := #[] }, { accessFlags := 24, nameIndex := 430, descriptorIndex := 62, attributes := #[] }, { accessFlags := 4120, nameIndex := 46, descriptorIndex := 47, attributes := #[] }])
  fields := #[{ name := "HI_BYTE_SHIFT", type := .int, accessFlags := 26, slot := 0, constantValue := 0 }, { name := "LO_BYTE_SHIFT", type := .int, accessFlags := 26, slot := 1, constantValue := 0 }, { name := "MAX_LENGTH", type := .int, accessFlags := 24, slot := 2, constantValue := 0 }, { name := "$assertionsDisabled", type := .boolean, accessFlags := 4120, slot := 3, constantValue := 0 }]
  methods := #[k12m0, k12m1, k12m2, k12m3]
  instanceTypes := #[]
  staticTypes := #[.int, .int, .int, .boolean]
  resolved := Array.replicate 635 none
  statics := none }

def pool13 : Array CpInfo := pool [(1, .class_ 2), (0, u "java/lang/Cloneable"), (0, .class_ 4), (0, u "java/lang/Object")] 2

/-- java/lang/Cloneable -/
def k13 : Class := { plain "java/lang/Cloneable" (some 0) with
  accessFlags := 1537
  interfaces := #[]
  cf := some (fileOf pool13 1 #[] #[] 1537 3 #[] #[])
  fields := #[]
  methods := #[]
  instanceTypes := #[]
  staticTypes := #[]
  resolved := Array.replicate 7 none
  statics := none }

def pool14 : Array CpInfo := pool [(9, u "<init>"), (6, .class_ 18), (1, u "java/lang/Object"), (0, u "()V"), (1, .class_ 23), (1, u "jdk/internal/util/ArraysSupport"), (0, u "LOG2_ARRAY_LONG_INDEX_SCALE"), (0, u "I"), (2, u "U"), (0, u "Ljdk/internal/misc/Unsafe;"), (8, u "BIG_ENDIAN"), (0, u "Z"), (8, u "LOG2_BYTE_BIT_SIZE"), (4, u "LOG2_ARRAY_INT_INDEX_SCALE"), (54, u "JLA"), (0, u "Ljdk/internal/access/JavaLangAccess;"), (11, u "LOG2_ARRAY_BOOLEAN_INDEX_SCALE"), (9, u "LOG2_ARRAY_BYTE_INDEX_SCALE"), (5, u "LOG2_ARRAY_CHAR_INDEX_SCALE"), (5, u "LOG2_ARRAY_SHORT_INDEX_SCALE"), (18, u "LOG2_ARRAY_FLOAT_INDEX_SCALE"), (24, u "LOG2_ARRAY_DOUBLE_INDEX_SCALE"), (89, u "T_BOOLEAN"), (2, u "T_CHAR"), (1, u "T_FLOAT"), (1, u "T_DOUBLE"), (1, u "T_BYTE"), (1, u "T_SHORT"), (1, u "T_INT"), (1, u "T_LONG"), (1, u "SOFT_MAX_ARRAY_LENGTH")] 83

def k14m0 : Method := { name := "<init>", desc := "()V", sig := { parameters := [], returnType := none }, accessFlags := 2, code := none }
/-- jdk/internal/util/ArraysSupport -/
def k14 : Class := { plain "jdk/internal/util/ArraysSupport" (some 0) with
  accessFlags := 33
  interfaces := #[]
  cf := some (fileOf pool14 21 #[] #[{ accessFlags := 2, nameIndex := 9, descriptorIndex := 19, attributes := #[] }] 33 16 #[] #[{ accessFlags := 24, nameIndex := 28, descriptorIndex := 29, attributes := #[] }, { accessFlags := 26, nameIndex := 38, descriptorIndex := 39, attributes := #[] }, { accessFlags := 25, nameIndex := 121, descriptorIndex := 25, attributes := #[] }, { accessFlags := 25, nameIndex := 131, descriptorIndex := 25, attributes := #[] }, { accessFlags := 25, nameIndex := 137, descriptorIndex := 25, attributes := #[] }, { accessFlags := 25, nameIndex := 143, descriptorIndex := 25, attributes := #[] }, { accessFlags := 25, nameIndex := 53, descriptorIndex := 25, attributes := #[] }, { accessFlags := 25, nameIndex := 24, descriptorIndex := 25, attributes := #[] }, { accessFlags := 25, nameIndex := 162, descriptorIndex := 25, attributes := #[] }, { accessFlags := 25, nameIndex := 187, descriptorIndex := 25, attributes := #[] }, { accessFlags := 26, nameIndex := 48, descriptorIndex := 25, attributes := #[] }, { accessFlags := 25, nameIndex := 277, descriptorIndex := 25, attributes := #[] }, { accessFlags := 25, nameIndex := 280, descriptorIndex := 25, attributes := #[] }, { accessFlags := 25, nameIndex := 282, descriptorIndex := 25, attributes := #[] }, { accessFlags := 25, nameIndex := 284, descriptorIndex := 25, attributes := #[] }, { accessFlags := 25, nameIndex := 286, descriptorIndex := 25, attributes := #[] }, { accessFlags := 25, nameIndex := 288, descriptorIndex := 25, attributes := #[] }, { accessFlags := 25, nameIndex := 290, descriptorIndex := 25, attributes := #[] }, { accessFlags := 25, nameIndex := 292, descriptorIndex := 25, attributes := #[] }, { accessFlags := 26, nameIndex := 108, descriptorIndex := 109, attributes := #[] }, { accessFlags := 25, nameIndex := 294, descriptorIndex := 25, attributes := #[] }])
  fields := #[{ name := "U", type := (.object "jdk/internal/misc/Unsafe"), accessFlags := 24, slot := 0, constantValue := 0 }, { name := "BIG_ENDIAN", type := .boolean, accessFlags := 26, slot := 1, constantValue := 0 }, { name := "LOG2_ARRAY_BOOLEAN_INDEX_SCALE", type := .int, accessFlags := 25, slot := 2, constantValue := 0 }, { name := "LOG2_ARRAY_BYTE_INDEX_SCALE", type := .int, accessFlags := 25, slot := 3, constantValue := 0 }, { name := "LOG2_ARRAY_CHAR_INDEX_SCALE", type := .int, accessFlags := 25, slot := 4, constantValue := 0 }, { name := "LOG2_ARRAY_SHORT_INDEX_SCALE", type := .int, accessFlags := 25, slot := 5, constantValue := 0 }, { name := "LOG2_ARRAY_INT_INDEX_SCALE", type := .int, accessFlags := 25, slot := 6, constantValue := 0 }, { name := "LOG2_ARRAY_LONG_INDEX_SCALE", type := .int, accessFlags := 25, slot := 7, constantValue := 0 }, { name := "LOG2_ARRAY_FLOAT_INDEX_SCALE", type := .int, accessFlags := 25, slot := 8, constantValue := 0 }, { name := "LOG2_ARRAY_DOUBLE_INDEX_SCALE", type := .int, accessFlags := 25, slot := 9, constantValue := 0 }, { name := "LOG2_BYTE_BIT_SIZE", type := .int, accessFlags := 26, slot := 10, constantValue := 0 }, { name := "T_BOOLEAN", type := .int, accessFlags := 25, slot := 11, constantValue := 0 }, { name := "T_CHAR", type := .int, accessFlags := 25, slot := 12, constantValue := 0 }, { name := "T_FLOAT", type := .int, accessFlags := 25, slot := 13, constantValue := 0 }, { name := "T_DOUBLE", type := .int, accessFlags := 25, slot := 14, constantValue := 0 }, { name := "T_BYTE", type := .int, accessFlags := 25, slot := 15, constantValue := 0 }, { name := "T_SHORT", type := .int, accessFlags := 25, slot := 16, constantValue := 0 }, { name := "T_INT", type := .int, accessFlags := 25, slot := 17, constantValue := 0 }, { name := "T_LONG", type := .int, accessFlags := 25, slot := 18, constantValue := 0 }, { name := "JLA", type := (.object "jdk/internal/access/JavaLangAccess"), accessFlags := 26, slot := 19, constantValue := 0 }, { name := "SOFT_MAX_ARRAY_LENGTH", type := .int, accessFlags := 25, slot := 20, constantValue := 0 }]
  methods := #[k14m0]
  instanceTypes := #[]
  staticTypes := #[(.object "jdk/internal/misc/Unsafe"), .boolean, .int, .int, .int, .int, .int, .int, .int, .int, .int, .int, .int, .int, .int, .int, .int, .int, .int, (.object "jdk/internal/access/JavaLangAccess"), .int]
  resolved := Array.replicate 378 none
  statics := none }

/-- the primitive byte -/
def k15 : Class := { plain "byte" none with kind := .primitive 'B', accessFlags := 0x411 }
/-- [B -/
def k16 : Class := { plain "[B" (some 0) with kind := .array 15 .byte, interfaces := #[13, 2], accessFlags := 1041 }

/-- the primitive char -/
def k17 : Class := { plain "char" none with kind := .primitive 'C', accessFlags := 0x411 }
/-- [C -/
def k18 : Class := { plain "[C" (some 0) with kind := .array 17 .char, interfaces := #[13, 2], accessFlags := 1041 }

/-- the primitive int -/
def k19 : Class := { plain "int" none with kind := .primitive 'I', accessFlags := 0x411 }
/-- [I -/
def k20 : Class := { plain "[I" (some 0) with kind := .array 19 .int, interfaces := #[13, 2], accessFlags := 1041 }

/-- [Lcom/example/hedgeline/hedgeline/Flow; -/
def k21 : Class := { plain "[Lcom/example/hedgeline/hedgeline/Flow;" (some 0) with kind := .array 9 (.object "com/example/hedgeline/hedgeline/Flow"), interfaces := #[13, 2], accessFlags := 1041 }

def heap : Heap := #[{ cls := 7, slots := #[.long 0, .int 1, .null, .int 0, .null, .int 0, .int 0], vm := .statics 7 },
  { cls := 9, slots := #[.ref 4, .ref 5, .ref 3], vm := .statics 9 },
  { cls := 11, slots := #[.null, .null, .null], vm := .statics 11 },
  { cls := 21, slots := #[.ref 4, .ref 5], vm := .none },
  { cls := 9, slots := #[.null, .int 0, .int 0, .ref 6], vm := .none },
  { cls := 9, slots := #[.null, .int 1, .int 0, .ref 7], vm := .none },
  { cls := 7, slots := #[.ref 8, .int 0, .int 0, .int 0], vm := .none },
  { cls := 7, slots := #[.ref 9, .int 0, .int 0, .int 0], vm := .none },
  { cls := 16, slots := #[.int 105, .int 110, .int 106, .int 101, .int 99, .int 116, .int 105, .int 111, .int 110], vm := .none },
  { cls := 16, slots := #[.int 119, .int 105, .int 116, .int 104, .int 100, .int 114, .int 97, .int 119, .int 97, .int 108], vm := .none }]
def classes : Array Class := #[k0, k1, k2, k3, k4, k5, k6, k7, k8, k9, k10, k11, k12, k13, k14, k15, k16, k17, k18, k19, k20, k21]
def interned : List (Array UInt16 × Addr) := []
def slotsUsed : Nat := 50
def theMethod : MethodId := ⟨1, 2⟩
def args0 : Array Value := #[.int 5, .int 6, .int 7, .int 8]
def aboutOver (below : List Frame) : State where
  vm := { classes := classes, interned := interned.toArray }
  heap := heap
  slotsUsed := slotsUsed
  threads := #[{ frames := .invoking theMethod args0 :: below }]
def below0 : List Frame := [.native { method := ⟨0, 0⟩, args := #[] }]
def about1 : State := aboutOver below0
def p0 : Program := .bare "" "" ""
def e0 : Env := launch0.env 0 0 0
theorem w_frames : about1.frames = Frame.invoking theMethod args0 :: below0 := rfl
set_option maxRecDepth 65536 in
theorem w_args : argsFit about1.vm theMethod args0 = true := by decide +kernel
set_option maxRecDepth 65536 in
theorem w_heap : heapFits about1 = true := by decide +kernel
set_option maxRecDepth 65536 in
theorem w_runnable : about1.curStatus? = some .runnable := by decide +kernel
set_option maxRecDepth 65536 in
theorem w_alone : about1.alone = true := by decide +kernel
set_option maxRecDepth 65536 in
theorem w_named : about1.methodNamed? x = some theMethod := by decide +kernel
set_option maxRecDepth 65536 in
theorem w_hears : about1.hears theMethod below0 = true := by decide +kernel
set_option maxRecDepth 65536 in
theorem w_ripe : about1.ripe theMethod args0 below0 = true := by decide +kernel
theorem w_running : about1.status = .running := rfl
set_option maxRecDepth 65536 in
theorem w_room : about1.hasRoom e0.platform room_1 = true :=
  launch0.hasRoom_least _ room_1 (by decide +kernel) (by decide +kernel) (by decide +kernel) (by decide +kernel) (by decide +kernel) (by decide +kernel)
theorem allAtoms_all (ts : List Jvm.Cond) (a : Array Jvm.Value) (st : Jvm.State) : (allAtoms ts).before a st = ts.all (fun c => c.before a st) := by
  induction ts with
  | nil => rfl
  | cons c t ih =>
    show (Jvm.Cond.and c (allAtoms t)).before a st = _
    rw [Jvm.Cond.before_and, ih, List.all_cons]
def words1 : List Jvm.Cond := Jvm.Cond.code x code maxLocals ret :: tables_1
/-- a 'code' word, met by the world's own term for the bytes: nothing is compared byte by byte -/
theorem code_word {y : MethodName} {bytes : ByteArray} {mx : Nat} {rt : Option FieldType} {a : Array Value} {s : State} {m : MethodId} {meth : Method} {c : Code} (h1 : s.methodNamed? y = some m) (h2 : s.vm.method? m = some meth) (h3 : meth.code = some c) (h4 : c.code = bytes)
    (h5 : (c.maxLocals == mx && c.exceptionTable.isEmpty && decide (c.maxStack ≤ mostOperands) && decide (meth.sig.returnType = rt) && !meth.locks && decide (parseMethodDescriptor y.desc = some meth.sig)) = true) : (Jvm.Cond.code y bytes mx rt).before a s = true := by
  simp only [Bool.and_eq_true, beq_iff_eq, Bool.not_eq_true', decide_eq_true_eq] at h5
  obtain ⟨⟨⟨⟨⟨g1, g2⟩, g3⟩, g4⟩, g5⟩, g6⟩ := h5
  simp [Cond.before, Cond.holds, Cond.value, h1, h2, h3, h4, g1, g2, g3, g4, g5, g6]
def isCode : Jvm.Cond → Bool
  | .code _ _ _ _ => true
  | _ => false
theorem all_split {L : List Jvm.Cond} {P : Jvm.Cond → Bool} (h1 : L.all (fun c => isCode c || P c) = true) (h2 : ∀ c ∈ L.filter isCode, P c = true) : L.all P = true := by
  refine List.all_eq_true.mpr fun c hc => ?_
  have h := List.all_eq_true.mp h1 c hc
  rcases Bool.eq_false_or_eq_true (isCode c) with hi | hi
  · exact h2 c (List.mem_filter.mpr ⟨hc, hi⟩)
  · simpa [hi] using h
set_option maxRecDepth 65536 in
theorem w_c0 : (Jvm.Cond.code x code maxLocals ret).before args0 about1 = true := code_word (m := ⟨1, 2⟩) (meth := k1m2) (c := k1c2) (by decide +kernel) rfl rfl rfl (by decide +kernel)
set_option maxRecDepth 65536 in
theorem w_c1 : (Jvm.Cond.code ({ cls := "java/lang/String", name := "length", desc := "()I" } : Jvm.MethodName) jdk_42_method_54_code (1 : Nat) (Option.some Jvm.ClassFile.FieldType.int)).before args0 about1 = true := code_word (m := ⟨7, 2⟩) (meth := k7m2) (c := k7c2) (by decide +kernel) rfl rfl rfl (by decide +kernel)
set_option maxRecDepth 65536 in
theorem w_c2 : (Jvm.Cond.code ({ cls := "java/lang/String", name := "coder", desc := "()B" } : Jvm.MethodName) jdk_42_method_152_code (1 : Nat) (Option.some Jvm.ClassFile.FieldType.byte)).before args0 about1 = true := code_word (m := ⟨7, 6⟩) (meth := k7m6) (c := k7c6) (by decide +kernel) rfl rfl rfl (by decide +kernel)
set_option maxRecDepth 65536 in
theorem w_c3 : (Jvm.Cond.code ({ cls := "com/example/hedgeline/hedgeline/FlowNamedPinLaw", name := "at", desc := "(Ljava/lang/String;IIC)C" } : Jvm.MethodName) method_2_code (4 : Nat) (Option.some Jvm.ClassFile.FieldType.char)).before args0 about1 = true := code_word (m := ⟨1, 1⟩) (meth := k1m1) (c := k1c1) (by decide +kernel) rfl rfl rfl (by decide +kernel)
set_option maxRecDepth 65536 in
theorem w_c4 : (Jvm.Cond.code ({ cls := "java/lang/String", name := "charAt", desc := "(I)C" } : Jvm.MethodName) jdk_42_method_56_code (2 : Nat) (Option.some Jvm.ClassFile.FieldType.char)).before args0 about1 = true := code_word (m := ⟨7, 3⟩) (meth := k7m3) (c := k7c3) (by decide +kernel) rfl rfl rfl (by decide +kernel)
set_option maxRecDepth 65536 in
theorem w_c5 : (Jvm.Cond.code ({ cls := "java/lang/String", name := "isLatin1", desc := "()Z" } : Jvm.MethodName) jdk_42_method_154_code (1 : Nat) (Option.some Jvm.ClassFile.FieldType.boolean)).before args0 about1 = true := code_word (m := ⟨7, 7⟩) (meth := k7m7) (c := k7c7) (by decide +kernel) rfl rfl rfl (by decide +kernel)
set_option maxRecDepth 65536 in
theorem w_c6 : (Jvm.Cond.code ({ cls := "java/lang/StringLatin1", name := "charAt", desc := "([BI)C" } : Jvm.MethodName) jdk_43_method_2_code (2 : Nat) (Option.some Jvm.ClassFile.FieldType.char)).before args0 about1 = true := code_word (m := ⟨10, 1⟩) (meth := k10m1) (c := k10c1) (by decide +kernel) rfl rfl rfl (by decide +kernel)
set_option maxRecDepth 65536 in
theorem w_c7 : (Jvm.Cond.code ({ cls := "java/lang/String", name := "checkIndex", desc := "(II)V" } : Jvm.MethodName) jdk_42_method_155_code (2 : Nat) (Option.none : Option Jvm.ClassFile.FieldType)).before args0 about1 = true := code_word (m := ⟨7, 8⟩) (meth := k7m8) (c := k7c8) (by decide +kernel) rfl rfl rfl (by decide +kernel)
set_option maxRecDepth 65536 in
theorem w_c8 : (Jvm.Cond.code ({ cls := "jdk/internal/util/Preconditions", name := "checkIndex", desc := "(IILjava/util/function/BiFunction;)I" } : Jvm.MethodName) jdk_41_method_11_code (3 : Nat) (Option.some Jvm.ClassFile.FieldType.int)).before args0 about1 = true := code_word (m := ⟨11, 1⟩) (meth := k11m1) (c := k11c1) (by decide +kernel) rfl rfl rfl (by decide +kernel)
set_option maxRecDepth 65536 in
theorem w_c9 : (Jvm.Cond.code ({ cls := "java/lang/String", name := "<init>", desc := "([C)V" } : Jvm.MethodName) jdk_42_method_3_code (2 : Nat) (Option.none : Option Jvm.ClassFile.FieldType)).before args0 about1 = true := code_word (m := ⟨7, 1⟩) (meth := k7m1) (c := k7c1) (by decide +kernel) rfl rfl rfl (by decide +kernel)
set_option maxRecDepth 65536 in
theorem w_c10 : (Jvm.Cond.code ({ cls := "java/lang/String", name := "<init>", desc := "([CIILjava/lang/Void;)V" } : Jvm.MethodName) jdk_42_method_149_code (6 : Nat) (Option.none : Option Jvm.ClassFile.FieldType)).before args0 about1 = true := code_word (m := ⟨7, 5⟩) (meth := k7m5) (c := k7c5) (by decide +kernel) rfl rfl rfl (by decide +kernel)
set_option maxRecDepth 65536 in
theorem w_c11 : (Jvm.Cond.code ({ cls := "java/lang/Object", name := "<init>", desc := "()V" } : Jvm.MethodName) object_method_1_code (1 : Nat) (Option.none : Option Jvm.ClassFile.FieldType)).before args0 about1 = true := code_word (m := ⟨0, 0⟩) (meth := k0m0) (c := k0c0) (by decide +kernel) rfl rfl rfl (by decide +kernel)
set_option maxRecDepth 65536 in
theorem w_c12 : (Jvm.Cond.code ({ cls := "java/lang/StringUTF16", name := "compress", desc := "([CII)[B" } : Jvm.MethodName) jdk_52_method_16_code (6 : Nat) (Option.some (Jvm.ClassFile.FieldType.array Jvm.ClassFile.FieldType.byte))).before args0 about1 = true := code_word (m := ⟨12, 2⟩) (meth := k12m2) (c := k12c2) (by decide +kernel) rfl rfl rfl (by decide +kernel)
set_option maxRecDepth 65536 in
theorem w_c13 : (Jvm.Cond.code ({ cls := "java/lang/StringUTF16", name := "compress", desc := "([CI[BII)I" } : Jvm.MethodName) jdk_52_method_21_code (7 : Nat) (Option.some Jvm.ClassFile.FieldType.int)).before args0 about1 = true := code_word (m := ⟨12, 3⟩) (meth := k12m3) (c := k12c3) (by decide +kernel) rfl rfl rfl (by decide +kernel)
set_option maxRecDepth 65536 in
theorem w_c14 : (Jvm.Cond.code ({ cls := "java/lang/StringUTF16", name := "coderFromArrayLen", desc := "([BI)B" } : Jvm.MethodName) jdk_52_method_15_code (2 : Nat) (Option.some Jvm.ClassFile.FieldType.byte)).before args0 about1 = true := code_word (m := ⟨12, 1⟩) (meth := k12m1) (c := k12c1) (by decide +kernel) rfl rfl rfl (by decide +kernel)
set_option maxRecDepth 65536 in
theorem w_c15 : (Jvm.Cond.code ({ cls := "com/example/hedgeline/hedgeline/Flow", name := "named", desc := "(Ljava/lang/String;)Lcom/example/hedgeline/hedgeline/Flow;" } : Jvm.MethodName) prog_26_method_4_code (5 : Nat) (Option.some (Jvm.ClassFile.FieldType.object "com/example/hedgeline/hedgeline/Flow"))).before args0 about1 = true := code_word (m := ⟨9, 1⟩) (meth := k9m1) (c := k9c1) (by decide +kernel) rfl rfl rfl (by decide +kernel)
set_option maxRecDepth 65536 in
theorem w_c16 : (Jvm.Cond.code ({ cls := "com/example/hedgeline/hedgeline/Flow", name := "values", desc := "()[Lcom/example/hedgeline/hedgeline/Flow;" } : Jvm.MethodName) prog_26_method_1_code (0 : Nat) (Option.some (Jvm.ClassFile.FieldType.array (Jvm.ClassFile.FieldType.object "com/example/hedgeline/hedgeline/Flow")))).before args0 about1 = true := code_word (m := ⟨9, 0⟩) (meth := k9m0) (c := k9c0) (by decide +kernel) rfl rfl rfl (by decide +kernel)
set_option maxRecDepth 65536 in
theorem w_c17 : (Jvm.Cond.code ({ cls := "java/lang/String", name := "equals", desc := "(Ljava/lang/Object;)Z" } : Jvm.MethodName) jdk_42_method_66_code (3 : Nat) (Option.some Jvm.ClassFile.FieldType.boolean)).before args0 about1 = true := code_word (m := ⟨7, 4⟩) (meth := k7m4) (c := k7c4) (by decide +kernel) rfl rfl rfl (by decide +kernel)
set_option maxRecDepth 65536 in
theorem w_c18 : (Jvm.Cond.code ({ cls := "java/lang/StringLatin1", name := "equals", desc := "([B[B)Z" } : Jvm.MethodName) jdk_43_method_13_code (3 : Nat) (Option.some Jvm.ClassFile.FieldType.boolean)).before args0 about1 = true := code_word (m := ⟨10, 2⟩) (meth := k10m2) (c := k10c2) (by decide +kernel) rfl rfl rfl (by decide +kernel)
def codes1 : List Jvm.Cond := [Jvm.Cond.code x code maxLocals ret, Jvm.Cond.code ({ cls := "java/lang/String", name := "length", desc := "()I" } : Jvm.MethodName) jdk_42_method_54_code (1 : Nat) (Option.some Jvm.ClassFile.FieldType.int), Jvm.Cond.code ({ cls := "java/lang/String", name := "coder", desc := "()B" } : Jvm.MethodName) jdk_42_method_152_code (1 : Nat) (Option.some Jvm.ClassFile.FieldType.byte), Jvm.Cond.code ({ cls := "com/example/hedgeline/hedgeline/FlowNamedPinLaw", name := "at", desc := "(Ljava/lang/String;IIC)C" } : Jvm.MethodName) method_2_code (4 : Nat) (Option.some Jvm.ClassFile.FieldType.char), Jvm.Cond.code ({ cls := "java/lang/String", name := "charAt", desc := "(I)C" } : Jvm.MethodName) jdk_42_method_56_code (2 : Nat) (Option.some Jvm.ClassFile.FieldType.char), Jvm.Cond.code ({ cls := "java/lang/String", name := "isLatin1", desc := "()Z" } : Jvm.MethodName) jdk_42_method_154_code (1 : Nat) (Option.some Jvm.ClassFile.FieldType.boolean), Jvm.Cond.code ({ cls := "java/lang/StringLatin1", name := "charAt", desc := "([BI)C" } : Jvm.MethodName) jdk_43_method_2_code (2 : Nat) (Option.some Jvm.ClassFile.FieldType.char), Jvm.Cond.code ({ cls := "java/lang/String", name := "checkIndex", desc := "(II)V" } : Jvm.MethodName) jdk_42_method_155_code (2 : Nat) (Option.none : Option Jvm.ClassFile.FieldType), Jvm.Cond.code ({ cls := "jdk/internal/util/Preconditions", name := "checkIndex", desc := "(IILjava/util/function/BiFunction;)I" } : Jvm.MethodName) jdk_41_method_11_code (3 : Nat) (Option.some Jvm.ClassFile.FieldType.int), Jvm.Cond.code ({ cls := "java/lang/String", name := "<init>", desc := "([C)V" } : Jvm.MethodName) jdk_42_method_3_code (2 : Nat) (Option.none : Option Jvm.ClassFile.FieldType), Jvm.Cond.code ({ cls := "java/lang/String", name := "<init>", desc := "([CIILjava/lang/Void;)V" } : Jvm.MethodName) jdk_42_method_149_code (6 : Nat) (Option.none : Option Jvm.ClassFile.FieldType), Jvm.Cond.code ({ cls := "java/lang/Object", name := "<init>", desc := "()V" } : Jvm.MethodName) object_method_1_code (1 : Nat) (Option.none : Option Jvm.ClassFile.FieldType), Jvm.Cond.code ({ cls := "java/lang/StringUTF16", name := "compress", desc := "([CII)[B" } : Jvm.MethodName) jdk_52_method_16_code (6 : Nat) (Option.some (Jvm.ClassFile.FieldType.array Jvm.ClassFile.FieldType.byte)), Jvm.Cond.code ({ cls := "java/lang/StringUTF16", name := "compress", desc := "([CI[BII)I" } : Jvm.MethodName) jdk_52_method_21_code (7 : Nat) (Option.some Jvm.ClassFile.FieldType.int), Jvm.Cond.code ({ cls := "java/lang/StringUTF16", name := "coderFromArrayLen", desc := "([BI)B" } : Jvm.MethodName) jdk_52_method_15_code (2 : Nat) (Option.some Jvm.ClassFile.FieldType.byte), Jvm.Cond.code ({ cls := "com/example/hedgeline/hedgeline/Flow", name := "named", desc := "(Ljava/lang/String;)Lcom/example/hedgeline/hedgeline/Flow;" } : Jvm.MethodName) prog_26_method_4_code (5 : Nat) (Option.some (Jvm.ClassFile.FieldType.object "com/example/hedgeline/hedgeline/Flow")), Jvm.Cond.code ({ cls := "com/example/hedgeline/hedgeline/Flow", name := "values", desc := "()[Lcom/example/hedgeline/hedgeline/Flow;" } : Jvm.MethodName) prog_26_method_1_code (0 : Nat) (Option.some (Jvm.ClassFile.FieldType.array (Jvm.ClassFile.FieldType.object "com/example/hedgeline/hedgeline/Flow"))), Jvm.Cond.code ({ cls := "java/lang/String", name := "equals", desc := "(Ljava/lang/Object;)Z" } : Jvm.MethodName) jdk_42_method_66_code (3 : Nat) (Option.some Jvm.ClassFile.FieldType.boolean), Jvm.Cond.code ({ cls := "java/lang/StringLatin1", name := "equals", desc := "([B[B)Z" } : Jvm.MethodName) jdk_43_method_13_code (3 : Nat) (Option.some Jvm.ClassFile.FieldType.boolean)]
set_option maxRecDepth 65536 in
theorem codes_eq : words1.filter isCode = codes1 := rfl
theorem w_codes : ∀ c ∈ words1.filter isCode, c.before args0 about1 = true := by
  rw [codes_eq]
  intro c hc
  simp only [codes1, List.mem_cons, List.not_mem_nil, or_false] at hc
  rcases hc with rfl | rfl | rfl | rfl | rfl | rfl | rfl | rfl | rfl | rfl | rfl | rfl | rfl | rfl | rfl | rfl | rfl | rfl | rfl
  · exact w_c0
  · exact w_c1
  · exact w_c2
  · exact w_c3
  · exact w_c4
  · exact w_c5
  · exact w_c6
  · exact w_c7
  · exact w_c8
  · exact w_c9
  · exact w_c10
  · exact w_c11
  · exact w_c12
  · exact w_c13
  · exact w_c14
  · exact w_c15
  · exact w_c16
  · exact w_c17
  · exact w_c18
set_option maxRecDepth 65536 in
theorem w_t1 : (words1.take 24).all (fun c => isCode c || c.before args0 about1) = true := by decide +kernel
set_option maxRecDepth 65536 in
theorem w_t2 : ((words1.drop 24).take 24).all (fun c => isCode c || c.before args0 about1) = true := by decide +kernel
set_option maxRecDepth 65536 in
theorem w_t3 : (((words1.drop 24).drop 24).take 24).all (fun c => isCode c || c.before args0 about1) = true := by decide +kernel
set_option maxRecDepth 65536 in
theorem w_t4 : ((((words1.drop 24).drop 24).drop 24).take 24).all (fun c => isCode c || c.before args0 about1) = true := by decide +kernel
set_option maxRecDepth 65536 in
theorem w_t5 : ((((words1.drop 24).drop 24).drop 24).drop 24).all (fun c => isCode c || c.before args0 about1) = true := by decide +kernel
theorem w_tables : (allAtoms (Jvm.Cond.code x code maxLocals ret :: tables_1)).before args0 about1 = true := by
  rw [allAtoms_all]
  show words1.all (fun c => c.before args0 about1) = true
  refine all_split ?_ w_codes
  rw [← List.take_append_drop 24 words1, List.all_append, w_t1, ← List.take_append_drop 24 (words1.drop 24), List.all_append, w_t2, ← List.take_append_drop 24 ((words1.drop 24).drop 24), List.all_append, w_t3, ← List.take_append_drop 24 (((words1.drop 24).drop 24).drop 24), List.all_append, w_t4, w_t5]
  rfl
set_option maxRecDepth 65536 in
theorem w_rest : rest_1_c.before args0 about1 = true := by decide +kernel
set_option maxRecDepth 65536 in
theorem w_case : (Jvm.Cond.and given_1 narrow_1).before args0 about1 = true := by decide +kernel
set_option maxRecDepth 65536 in
theorem w_consts : constsHeld consts_1 about1 := Jvm.Lit.constsHeldB_iff.mp (by decide +kernel)
theorem w_applies : (headSpec (Jvm.Cond.code x code maxLocals ret :: tables_1) room_1).applies x e0.platform about1 = true :=
  (Spec.applies_iff w_frames).mpr ⟨w_running, w_runnable, w_alone, w_named, w_hears, w_ripe, w_room, w_tables⟩
theorem atStart : AtStart classFile x code maxLocals ret World_1 tables_1 room_1 Calls_1 rest_1 Pre_1 launch0 p0 e0 about1 theMethod args0 below0 :=
  ⟨lists_1, trivial, launch0.admits_env _ _ _, launch0.least_env, fairChoices_fair.cas, fairChoices_fair.clock, w_frames, w_args, w_heap, w_applies, ⟨w_consts, trivial⟩, w_rest, w_case⟩
end start1
theorem witness_1 : WitnessClaimed_1 := ⟨start1.p0, start1.e0, start1.about1, start1.theMethod, start1.args0, start1.below0, start1.atStart⟩
end Jvm.Pilot.@@N@@
