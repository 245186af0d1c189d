import JvmDerived
import JvmDerived.Pilot.@@N@@Statement
import JvmDerived.Pilot.@@N@@Code
set_option linter.unusedVariables false
set_option linter.unusedSimpArgs false
/- laws to paste: Road.backV, Road.lenW, Road.chN, Road.codOf (cut by pick.py; bodies as the Statement names them) -/
namespace Jvm.Pilot.@@N@@
namespace StrChars
open Jvm Sem ClassFile Op Lib Jvm.Stand Jvm.Free.XT Jvm.Free.ALB Jvm.Free.JM Jvm.Free
open Jvm.Lib.Cold (StaticIs)
/-- a char array whose places are chars -/
def Ch (a : Addr) (A : Cell) (U : State) : Prop := Arr .char a A U ∧ Typed .char A
theorem Ch.mv {a : Addr} {A : Cell} {U U' : State} (h : Ch a A U) (hal : U.vm.Alike U'.vm) (hh : U'.heap = U.heap) : Ch a A U' := ⟨h.1.mv hal hh, h.2⟩
theorem Ch.keep {a : Addr} {A : Cell} {U U' : State} (h : Ch a A U) (hal : U.vm.Alike U'.vm) (hk : U'.heap[a]? = some A) : Ch a A U' := ⟨h.1.keep hal hk, h.2⟩
/-- what place i of a char[]'s cell holds -/
def cv (A : Cell) (i : Nat) : Int32 := match A.slots[i]? with | some (.int x) => x | _ => 0
theorem Ch.get {a : Addr} {A : Cell} {U : State} (h : Ch a A U) {i : Nat} (hi : i < A.slots.size) : A.slots[i]? = some (.int (cv A i)) := by
  have e := Array.getElem?_eq_getElem hi
  have f := h.2 i _ e
  unfold cv; rw [e]
  generalize A.slots[i] = v at f
  cases v <;> simp [fits] at f ⊢
/-- the byte that i2b leaves of a char -/
def lo8 (x : Int32) : Int32 := x.toInt8.toInt32
theorem fits_lo8 (y : Int32) : fits .byte (.int (lo8 y)) = true := by
  have h1 := y.toInt8.le_toInt
  have h2 := y.toInt8.toInt_lt
  simp only [lo8, fits, Bool.and_eq_true, decide_eq_true_eq, Int32.le_iff_toInt_le, Int8.toInt_toInt32, show (-128 : Int32).toInt = -128 from by decide, show (127 : Int32).toInt = 127 from by decide]
  omega
/-- A' is A but that each place j of lo .. hi - 1 holds f j -/
def Laid (A A' : Cell) (lo hi : Nat) (f : Nat → Value) : Prop := A'.cls = A.cls ∧ A'.vm = A.vm ∧ A'.slots.size = A.slots.size ∧ ∀ i, A'.slots[i]? = if lo ≤ i ∧ i < hi then some (f i) else A.slots[i]?
theorem Laid.zero (A : Cell) (lo : Nat) (f : Nat → Value) : Laid A A lo (lo + 0) f := ⟨rfl, rfl, rfl, fun i => by rw [if_neg (by omega)]⟩
theorem Laid.step {A Ak : Cell} {lo k : Nat} {f : Nat → Value} {v : Value} (h : Laid A Ak lo k f) (hlo : lo ≤ k) (hk : k < Ak.slots.size) (hv : v = f k) : Laid A (Ak.setSlot k v) lo (k + 1) f := by
  refine ⟨h.1, h.2.1, by simpa [Cell.setSlot] using h.2.2.1, fun i => ?_⟩
  by_cases e : k = i
  · subst e; rw [Cell.slots_setSlot_self v hk, if_pos (by omega), hv]
  · rw [Cell.slots_setSlot_ne v e, h.2.2.2 i]
    by_cases q : lo ≤ i ∧ i < k
    · rw [if_pos q, if_pos (by omega)]
    · rw [if_neg q, if_neg (by omega)]
def U16 : String := "java/lang/StringUTF16"
namespace Cmp5
def yN : MethodName := ⟨"java/lang/StringUTF16", "compress", "([CI[BII)I"⟩
abbrev yB : ByteArray := jdk_52_method_21_code
theorem d0 : decode yB 0 = .ok (.iconst 0, 1) := by decide +kernel
theorem d1 : decode yB 1 = .ok (.istore 5, 2) := by decide +kernel
theorem d3 : decode yB 3 = .ok (.iload 5, 2) := by decide +kernel
theorem d5 : decode yB 5 = .ok (.iload 4, 2) := by decide +kernel
theorem d7 : decode yB 7 = .ok (.if_icmp (.ge) 37, 3) := by decide +kernel
theorem d10 : decode yB 10 = .ok (.aload_n 0, 1) := by decide +kernel
theorem d11 : decode yB 11 = .ok (.iload_n 1, 1) := by decide +kernel
theorem d12 : decode yB 12 = .ok (.caload, 1) := by decide +kernel
theorem d13 : decode yB 13 = .ok (.istore 6, 2) := by decide +kernel
theorem d15 : decode yB 15 = .ok (.iload 6, 2) := by decide +kernel
theorem d17 : decode yB 17 = .ok (.sipush 255, 3) := by decide +kernel
theorem d20 : decode yB 20 = .ok (.if_icmp (.le) 6, 3) := by decide +kernel
theorem d26 : decode yB 26 = .ok (.aload_n 2, 1) := by decide +kernel
theorem d27 : decode yB 27 = .ok (.iload_n 3, 1) := by decide +kernel
theorem d28 : decode yB 28 = .ok (.iload 6, 2) := by decide +kernel
theorem d30 : decode yB 30 = .ok (.i2b, 1) := by decide +kernel
theorem d31 : decode yB 31 = .ok (.bastore, 1) := by decide +kernel
theorem d32 : decode yB 32 = .ok (.iinc 1 1, 3) := by decide +kernel
theorem d35 : decode yB 35 = .ok (.iinc 3 1, 3) := by decide +kernel
theorem d38 : decode yB 38 = .ok (.iinc 5 1, 3) := by decide +kernel
theorem d41 : decode yB 41 = .ok (.goto (-38), 3) := by decide +kernel
theorem d44 : decode yB 44 = .ok (.iload 4, 2) := by decide +kernel
theorem d46 : decode yB 46 = .ok (.ireturn, 1) := by decide +kernel
def site : List Cond := []
def tab : Cond := tabOf yN yB 7 (some .int) site
def P (b : Addr) (A : Cell) (d : Addr) (B : Cell) (o q len : Nat) (args : Array Value) (s : State) : Prop := args = #[.ref b, .int (Int32.ofNat o), .ref d, .int (Int32.ofNat q), .int (Int32.ofNat len)] ∧ Ch b A s ∧ Arr .byte d B s ∧ b ≠ d ∧ o + len ≤ A.slots.size ∧ q + len ≤ B.slots.size ∧ ∀ i, i < len → ¬ 255 < cv A (o + i)
def E (b : Addr) (A : Cell) (d : Addr) (B : Cell) (o q len : Nat) (r : Option Value) (s u : State) : Prop := r = some (.int (Int32.ofNat len)) ∧ ∃ B', Put d B' s u ∧ Laid B B' q (q + len) (fun j => Value.int (lo8 (cv A (o + (j - q)))))
/-- no char of the range above 255: len; the places written hold each char's low byte -/
theorem law (l : Launch) (b : Addr) (A : Cell) (d : Addr) (B : Cell) (o q len : Nat) : Law l yN 5 5 0 0 yB 7 (some .int) site (P b A d B o q len) (E b A d B o q len) (copyLocs d q len) 0 0 := by
  refine Law.of_walk (plainFor_of_name (by decide +kernel)) (by decide +kernel) (by decide +kernel) (by decide) (fun _ _ h => by rw [h.1]; rfl) (fun _ U U' hal hh h => ⟨h.1, h.2.1.mv hal hh, h.2.2.1.mv hal hh, h.2.2.2⟩) (fun r U U' V V' h1 hal h2 h => ⟨h.1, h.2.elim fun B' q => ⟨B', q.1.mv h1 h2, q.2⟩⟩) ?_
  intro p e s m args below meth c s₁ X0 hexec hbytes hml hret hlk hnm hown hh0 W hP
  obtain ⟨rfl, hA, hB, hne, l1, l2, hp⟩ := hP
  have c1 : Steps p.tables e below (s₁.setTop (entryFrame m #[.ref b, .int (Int32.ofNat o), .ref d, .int (Int32.ofNat q), .int (Int32.ofNat len)] 7)) (s₁.setTop (mkF m 0 #[.val (.ref b), .val (.int (Int32.ofNat o)), .val (.ref d), .val (.int (Int32.ofNat q)), .val (.int (Int32.ofNat len)), .unset, .unset] [])) := entry rfl
  have hA0 := hA.1.mv X0.warmed.alike hh0
  have hB0 := hB.mv X0.warmed.alike hh0
  have a31 := hA.1.2.2.2
  have c2 : Steps p.tables e below (s₁.setTop (entryFrame m #[.ref b, .int (Int32.ofNat o), .ref d, .int (Int32.ofNat q), .int (Int32.ofNat len)] 7)) (s₁.setTop (mkF m 3 #[.val (.ref b), .val (.int (Int32.ofNat o)), .val (.ref d), .val (.int (Int32.ofNat q)), .val (.int (Int32.ofNat len)), .val (.int 0), .unset] [])) := c1.trans (by
    refine iconstV X0.here hexec rfl 0 (hb hbytes d0) (by decide) ?_
    refine XS.istore X0.here hexec rfl (hb hbytes d1) rfl rfl ?_
    exact Steps.refl _)
  have loop : ∀ (r i : Nat), i + r = len → ∀ (z : Slot), (z = .unset ∨ ∃ w, z = .val w ∧ w.category = 1) → ∀ (Tl : State) (Bk : Cell), Stand p l e { frames := 0, locals := 0, cells := 0, slots := 0 } s m #[.ref b, .int (Int32.ofNat o), .ref d, .int (Int32.ofNat q), .int (Int32.ofNat len)] below meth c Tl ([] ++ copyLocs d q i) 0 0 → Put d Bk s₁ Tl → Laid B Bk q (q + i) (fun j => Value.int (lo8 (cv A (o + (j - q))))) →
      Steps p.tables e below (s₁.setTop (entryFrame m #[.ref b, .int (Int32.ofNat o), .ref d, .int (Int32.ofNat q), .int (Int32.ofNat len)] 7)) (Tl.setTop (mkF m 3 #[.val (.ref b), .val (.int (Int32.ofNat (o + i))), .val (.ref d), .val (.int (Int32.ofNat (q + i))), .val (.int (Int32.ofNat len)), .val (.int (Int32.ofNat i)), z] [])) → ∃ (T' : State) (B' : Cell) (z' : Slot), Stand p l e { frames := 0, locals := 0, cells := 0, slots := 0 } s m #[.ref b, .int (Int32.ofNat o), .ref d, .int (Int32.ofNat q), .int (Int32.ofNat len)] below meth c T' ([] ++ copyLocs d q len) 0 0 ∧ Put d B' s₁ T' ∧ Laid B B' q (q + len) (fun j => Value.int (lo8 (cv A (o + (j - q))))) ∧
      Steps p.tables e below (s₁.setTop (entryFrame m #[.ref b, .int (Int32.ofNat o), .ref d, .int (Int32.ofNat q), .int (Int32.ofNat len)] 7)) (T'.setTop (mkF m 3 #[.val (.ref b), .val (.int (Int32.ofNat (o + len))), .val (.ref d), .val (.int (Int32.ofNat (q + len))), .val (.int (Int32.ofNat len)), .val (.int (Int32.ofNat len)), z'] [])) := by
    intro r
    induction r with
    | zero =>
      intro i hi z hz Tl Bk Xl pl fl cl
      have hil : i = len := by omega
      rw [hil] at Xl fl cl
      exact ⟨Tl, Bk, z, Xl, pl, fl, cl⟩
    | succ r ih =>
      intro i hi z hz Tl Bk Xl pl fl cl
      have all := X0.warmed.alike.symm.trans Xl.warmed.alike
      have hAl := hA0.keep all (pl.other hne hA0.1)
      have hBk := hB0.like all pl.1 fl.1 fl.2.1 fl.2.2.1
      have hlt : q + i < Bk.slots.size := by rw [fl.2.2.1]; omega
      have c3 : Steps p.tables e below (s₁.setTop (entryFrame m #[.ref b, .int (Int32.ofNat o), .ref d, .int (Int32.ofNat q), .int (Int32.ofNat len)] 7)) (Tl.setTop (mkF m 12 #[.val (.ref b), .val (.int (Int32.ofNat (o + i))), .val (.ref d), .val (.int (Int32.ofNat (q + i))), .val (.int (Int32.ofNat len)), .val (.int (Int32.ofNat i)), z] [.int (Int32.ofNat (o + i)), .ref b])) := cl.trans (by
        refine XS.iload Xl.here hexec rfl (hb hbytes d3) rfl ?_
        refine XS.iload Xl.here hexec rfl (hb hbytes d5) rfl ?_
        refine XS.icmpNo Xl.here hexec rfl (hb hbytes d7) rfl (ii_ge_f (lt32 (by omega) (by omega))) ?_
        refine XS.aloadN Xl.here hexec rfl (hb hbytes d10) rfl rfl ?_
        refine XS.iloadN Xl.here hexec rfl (hb hbytes d11) rfl ?_
        exact Steps.refl _)
      have c4 : Steps p.tables e below (s₁.setTop (entryFrame m #[.ref b, .int (Int32.ofNat o), .ref d, .int (Int32.ofNat q), .int (Int32.ofNat len)] 7)) (Tl.setTop (mkF m 13 #[.val (.ref b), .val (.int (Int32.ofNat (o + i))), .val (.ref d), .val (.int (Int32.ofNat (q + i))), .val (.int (Int32.ofNat len)), .val (.int (Int32.ofNat i)), z] [.int (cv A (o + i))])) := c3.trans (by
        refine Xl.aget hexec hAl rfl (hA.get (i := o + i) (by omega)) rfl rfl (hb hbytes d12) ?_
        exact Steps.refl _)
      have c5 : Steps p.tables e below (s₁.setTop (entryFrame m #[.ref b, .int (Int32.ofNat o), .ref d, .int (Int32.ofNat q), .int (Int32.ofNat len)] 7)) (Tl.setTop (mkF m 15 #[.val (.ref b), .val (.int (Int32.ofNat (o + i))), .val (.ref d), .val (.int (Int32.ofNat (q + i))), .val (.int (Int32.ofNat len)), .val (.int (Int32.ofNat i)), .val (.int (cv A (o + i)))] [])) := c4.trans (by
        refine XS.istoreS Xl.here hexec rfl (hb hbytes d13) rfl rfl hz ?_
        exact Steps.refl _)
      have c6 : Steps p.tables e below (s₁.setTop (entryFrame m #[.ref b, .int (Int32.ofNat o), .ref d, .int (Int32.ofNat q), .int (Int32.ofNat len)] 7)) (Tl.setTop (mkF m 31 #[.val (.ref b), .val (.int (Int32.ofNat (o + i))), .val (.ref d), .val (.int (Int32.ofNat (q + i))), .val (.int (Int32.ofNat len)), .val (.int (Int32.ofNat i)), .val (.int (cv A (o + i)))] [.int (lo8 (cv A (o + i))), .int (Int32.ofNat (q + i)), .ref d])) := c5.trans (by
        refine XS.iload Xl.here hexec rfl (hb hbytes d15) rfl ?_
        refine sipushV Xl.here hexec rfl 255 (hb hbytes d17) (by decide) ?_
        refine XS.icmpYes Xl.here hexec rfl (pc0 := 20) rfl (hb hbytes d20) rfl (ii_le_t (hp i (by omega))) (by decide) rfl ?_
        refine XS.aloadN Xl.here hexec rfl (hb hbytes d26) rfl rfl ?_
        refine XS.iloadN Xl.here hexec rfl (hb hbytes d27) rfl ?_
        refine XS.iload Xl.here hexec rfl (hb hbytes d28) rfl ?_
        refine i2b Xl.here hexec rfl (hb hbytes d30) rfl ?_
        exact Steps.refl _)
      obtain ⟨T7, X7, p7, st7⟩ := Xl.aput hexec hBk rfl hlt rfl (fits_lo8 (cv A (o + i))) (g := (mkF m 31 #[.val (.ref b), .val (.int (Int32.ofNat (o + i))), .val (.ref d), .val (.int (Int32.ofNat (q + i))), .val (.int (Int32.ofNat len)), .val (.int (Int32.ofNat i)), .val (.int (cv A (o + i)))] [.int (lo8 (cv A (o + i))), .int (Int32.ofNat (q + i)), .ref d])) rfl (rest := []) rfl (hb hbytes d31)
      have c8 : Steps p.tables e below (s₁.setTop (entryFrame m #[.ref b, .int (Int32.ofNat o), .ref d, .int (Int32.ofNat q), .int (Int32.ofNat len)] 7)) (T7.setTop (mkF m 32 #[.val (.ref b), .val (.int (Int32.ofNat (o + i))), .val (.ref d), .val (.int (Int32.ofNat (q + i))), .val (.int (Int32.ofNat len)), .val (.int (Int32.ofNat i)), .val (.int (cv A (o + i)))] [])) := c6.trans (st7 _ (Steps.refl _))
      have c9 : Steps p.tables e below (s₁.setTop (entryFrame m #[.ref b, .int (Int32.ofNat o), .ref d, .int (Int32.ofNat q), .int (Int32.ofNat len)] 7)) (T7.setTop (mkF m 3 #[.val (.ref b), .val (.int (Int32.ofNat (o + i) + 1)), .val (.ref d), .val (.int (Int32.ofNat (q + i) + 1)), .val (.int (Int32.ofNat len)), .val (.int (Int32.ofNat i + 1)), .val (.int (cv A (o + i)))] [])) := c8.trans (by
        refine iincV X7.here hexec rfl 1 (hb hbytes d32) (by decide) rfl rfl ?_
        refine iincV X7.here hexec rfl 1 (hb hbytes d35) (by decide) rfl rfl ?_
        refine iincV X7.here hexec rfl 1 (hb hbytes d38) (by decide) rfl rfl ?_
        refine XS.goto X7.here hexec rfl (pc0 := 41) rfl (hb hbytes d41) (by decide) rfl ?_
        exact Steps.refl _)
      have c10 : Steps p.tables e below (s₁.setTop (entryFrame m #[.ref b, .int (Int32.ofNat o), .ref d, .int (Int32.ofNat q), .int (Int32.ofNat len)] 7)) (T7.setTop (mkF m 3 #[.val (.ref b), .val (.int (Int32.ofNat (o + (i + 1)))), .val (.ref d), .val (.int (Int32.ofNat (q + (i + 1)))), .val (.int (Int32.ofNat len)), .val (.int (Int32.ofNat (i + 1))), .val (.int (cv A (o + i)))] [])) := by
        have := c9
        rw [succ32, succ32, succ32] at this
        exact this
      exact ih (i + 1) (by omega) _ (Or.inr ⟨_, rfl, rfl⟩) T7 _ (by rw [copyLocs_step, ← List.append_assoc]; exact X7) (pl.trans p7) (fl.step (by omega) hlt (by simp)) c10
  obtain ⟨T9, B9, z9, X9, p9, f9, g9⟩ := loop len 0 (by omega) .unset (Or.inl rfl) s₁ B (by simpa [copyLocs] using X0) ⟨hB0.1, fun _ _ => rfl, rfl⟩ (Laid.zero _ _ _) c2
  have c11 : Steps p.tables e below (s₁.setTop (entryFrame m #[.ref b, .int (Int32.ofNat o), .ref d, .int (Int32.ofNat q), .int (Int32.ofNat len)] 7)) (T9.setTop (mkF m 46 #[.val (.ref b), .val (.int (Int32.ofNat (o + len))), .val (.ref d), .val (.int (Int32.ofNat (q + len))), .val (.int (Int32.ofNat len)), .val (.int (Int32.ofNat len)), z9] [.int (Int32.ofNat len)])) := g9.trans (by
    refine XS.iload X9.here hexec rfl (hb hbytes d3) rfl ?_
    refine XS.iload X9.here hexec rfl (hb hbytes d5) rfl ?_
    refine XS.icmpYes X9.here hexec rfl (pc0 := 7) rfl (hb hbytes d7) rfl (ii_ge_t (nlt32 (by omega) (Nat.le_refl _))) (by decide) rfl ?_
    refine XS.iload X9.here hexec rfl (hb hbytes d44) rfl ?_
    exact Steps.refl _)
  exact ⟨T9, some (.int (Int32.ofNat len)), _, _, _, X9, by simp, rfl, rfl, (fun h => by cases h), ⟨rfl, B9, p9.from hh0, f9⟩, fun fs hl => c11.trans (X9.ireturnOut hexec hret rfl (Or.inl rfl) (hb hbytes d46) hl)⟩
end Cmp5
namespace Cmp3
def yN : MethodName := ⟨"java/lang/StringUTF16", "compress", "([CII)[B"⟩
abbrev yB : ByteArray := jdk_52_method_16_code
theorem d0 : decode yB 0 = .ok (.iload_n 2, 1) := by decide +kernel
theorem d1 : decode yB 1 = .ok (.newarray .byte, 2) := by decide +kernel
theorem d3 : decode yB 3 = .ok (.astore_n 3, 1) := by decide +kernel
theorem d4 : decode yB 4 = .ok (.aload_n 0, 1) := by decide +kernel
theorem d5 : decode yB 5 = .ok (.iload_n 1, 1) := by decide +kernel
theorem d6 : decode yB 6 = .ok (.aload_n 3, 1) := by decide +kernel
theorem d7 : decode yB 7 = .ok (.iconst 0, 1) := by decide +kernel
theorem d8 : decode yB 8 = .ok (.iload_n 2, 1) := by decide +kernel
theorem d9 : decode yB 9 = .ok (.invokestatic 115, 3) := by decide +kernel
theorem d12 : decode yB 12 = .ok (.istore 4, 2) := by decide +kernel
theorem d14 : decode yB 14 = .ok (.iload 4, 2) := by decide +kernel
theorem d16 : decode yB 16 = .ok (.iload_n 2, 1) := by decide +kernel
theorem d17 : decode yB 17 = .ok (.if_icmp (.eq) 40, 3) := by decide +kernel
theorem d57 : decode yB 57 = .ok (.aload_n 3, 1) := by decide +kernel
theorem d58 : decode yB 58 = .ok (.areturn, 1) := by decide +kernel
def site : List Cond := [.arrayClass .byte, Cmp5.tab] ++ staticW U16 115 Cmp5.yN
def tab : Cond := tabOf yN yB 6 (some (.array .byte)) site
def P (b : Addr) (A : Cell) (o len : Nat) (args : Array Value) (s : State) : Prop := args = #[.ref b, .int (Int32.ofNat o), .int (Int32.ofNat len)] ∧ Ch b A s ∧ o + len ≤ A.slots.size ∧ len ≤ 536870912 ∧ ∀ i, i < len → ¬ 255 < cv A (o + i)
def E (b : Addr) (A : Cell) (o len : Nat) (r : Option Value) (s u : State) : Prop := NewArr .byte "[B" len (fun j => .int (lo8 (cv A (o + j)))) r s u ∧ u.heap.size = s.heap.size + 1
/-- no char of the range above 255: a new byte[] of their low bytes -/
theorem law (l : Launch) (b : Addr) (A : Cell) (o len : Nat) : Law l yN 3 3 1 18 yB 6 (some (.array .byte)) site (P b A o len) (E b A o len) [] 1 len := by
  refine Law.of_walk (plainFor_of_name (by decide +kernel)) (by decide +kernel) (by decide +kernel) (by decide) (fun _ _ h => by rw [h.1]; rfl) (fun _ U U' hal hh h => ⟨h.1, h.2.1.mv hal hh, h.2.2⟩) (fun r U U' V V' h1 hal h2 h => ⟨NewArr.mv r U U' V V' h1 hal h2 h.1, by rw [h1, h2]; exact h.2⟩) ?_
  intro p e s m args below meth c s₁ X0 hexec hbytes hml hret hlk hnm hown hh0 W hP
  obtain ⟨rfl, hA, l1, l2, hp⟩ := hP
  have a31 := hA.1.2.2.2
  have c1 : Steps p.tables e below (s₁.setTop (entryFrame m #[.ref b, .int (Int32.ofNat o), .int (Int32.ofNat len)] 6)) (s₁.setTop (mkF m 0 #[.val (.ref b), .val (.int (Int32.ofNat o)), .val (.int (Int32.ofNat len)), .unset, .unset, .unset] [])) := entry rfl
  have c2 : Steps p.tables e below (s₁.setTop (entryFrame m #[.ref b, .int (Int32.ofNat o), .int (Int32.ofNat len)] 6)) (s₁.setTop (mkF m 1 #[.val (.ref b), .val (.int (Int32.ofNat o)), .val (.int (Int32.ofNat len)), .unset, .unset, .unset] [.int (Int32.ofNat len)])) := c1.trans (by
    refine XS.iloadN X0.here hexec rfl (hb hbytes d0) rfl ?_
    exact Steps.refl _)
  obtain ⟨T3, B3, X3, ba3, bs3, bv3, bh3, bf3, st3⟩ := X0.anew hexec (atype := .byte) (wk W (.arrayClass .byte)) rfl (by show len * 1 ≤ _; omega) (by omega) (g := (mkF m 1 #[.val (.ref b), .val (.int (Int32.ofNat o)), .val (.int (Int32.ofNat len)), .unset, .unset, .unset] [.int (Int32.ofNat len)])) rfl (hb hbytes d1) (rest := []) rfl (Nat.le_refl _) (by show 0 + len ≤ len; omega)
  rw [hh0] at ba3 st3
  have kp3 : XT.Kept s T3 := (XT.Kept.of_eq hh0).push bh3
  have hA3 := hA.keep X3.warmed.alike (kp3 _ _ hA.1.1)
  have hne : b ≠ s.heap.size := hA.1.ne
  have c4 : Steps p.tables e below (s₁.setTop (entryFrame m #[.ref b, .int (Int32.ofNat o), .int (Int32.ofNat len)] 6)) (T3.setTop (mkF m 3 #[.val (.ref b), .val (.int (Int32.ofNat o)), .val (.int (Int32.ofNat len)), .unset, .unset, .unset] [.ref s.heap.size])) := c2.trans (st3 _ (Steps.refl _))
  have c5 : Steps p.tables e below (s₁.setTop (entryFrame m #[.ref b, .int (Int32.ofNat o), .int (Int32.ofNat len)] 6)) (T3.setTop (mkF m 9 #[.val (.ref b), .val (.int (Int32.ofNat o)), .val (.int (Int32.ofNat len)), .val (.ref s.heap.size), .unset, .unset] [.int (Int32.ofNat len), .int 0, .ref s.heap.size, .int (Int32.ofNat o), .ref b])) := c4.trans (by
    refine XS.astoreN X3.here hexec rfl (hb hbytes d3) rfl rfl rfl ?_
    refine XS.aloadN X3.here hexec rfl (hb hbytes d4) rfl rfl ?_
    refine XS.iloadN X3.here hexec rfl (hb hbytes d5) rfl ?_
    refine XS.aloadN X3.here hexec rfl (hb hbytes d6) rfl rfl ?_
    refine iconstV X3.here hexec rfl 0 (hb hbytes d7) (by decide) ?_
    refine XS.iloadN X3.here hexec rfl (hb hbytes d8) rfl ?_
    exact Steps.refl _)
  obtain ⟨v6, T6, X6, E6, g6⟩ := X3.callS hexec (Cmp5.law l b A s.heap.size B3 o 0 len) hown (wks W (staticW U16 115 Cmp5.yN)) (wk W Cmp5.tab) (W := 0) (Nat.le_of_ble_eq_true rfl) (Nat.le_of_ble_eq_true rfl) (Nat.le_refl _) (by show 0 + len + 0 ≤ len; omega) (g := (mkF m 9 #[.val (.ref b), .val (.int (Int32.ofNat o)), .val (.int (Int32.ofNat len)), .val (.ref s.heap.size), .unset, .unset] [.int (Int32.ofNat len), .int (Int32.ofNat 0), .ref s.heap.size, .int (Int32.ofNat o), .ref b])) rfl (by rw [hml]; rfl) c5 (argsL := [.ref b, .int (Int32.ofNat o), .ref s.heap.size, .int (Int32.ofNat 0), .int (Int32.ofNat len)]) (rest := []) rfl rfl (by show 2 * 0 + 0 ≤ _; decide) (hb hbytes d9) (⟨rfl, hA3, ba3, hne, l1, by rw [bs3]; simp, hp⟩)
  obtain ⟨rfl, B6, p6, f6⟩ := E6
  have c7 : Steps p.tables e below (s₁.setTop (entryFrame m #[.ref b, .int (Int32.ofNat o), .int (Int32.ofNat len)] 6)) (T6.setTop (mkF m 12 #[.val (.ref b), .val (.int (Int32.ofNat o)), .val (.int (Int32.ofNat len)), .val (.ref s.heap.size), .unset, .unset] [.int (Int32.ofNat len)])) := g6
  have c8 : Steps p.tables e below (s₁.setTop (entryFrame m #[.ref b, .int (Int32.ofNat o), .int (Int32.ofNat len)] 6)) (T6.setTop (mkF m 58 #[.val (.ref b), .val (.int (Int32.ofNat o)), .val (.int (Int32.ofNat len)), .val (.ref s.heap.size), .val (.int (Int32.ofNat len)), .unset] [.ref s.heap.size])) := c7.trans (by
    refine XS.istore X6.here hexec rfl (hb hbytes d12) rfl rfl ?_
    refine XS.iload X6.here hexec rfl (hb hbytes d14) rfl ?_
    refine XS.iloadN X6.here hexec rfl (hb hbytes d16) rfl ?_
    refine XS.icmpYes X6.here hexec rfl (pc0 := 17) rfl (hb hbytes d17) rfl (ii_eq_t rfl) (by decide) rfl ?_
    refine XS.aloadN X6.here hexec rfl (hb hbytes d57) rfl rfl ?_
    exact Steps.refl _)
  have X8 := X6.wide (L' := []) (cells' := 1) (slots' := len) (fun x hx hlt => by
    simp only [List.nil_append, copyLocs, List.mem_map, List.mem_range] at hx
    obtain ⟨i, -, rfl⟩ := hx
    exact absurd hlt (Nat.lt_irrefl _)) (Nat.le_refl _) (by omega)
  exact ⟨T6, some (.ref s.heap.size), _, _, _, X8, rfl, rfl, rfl, (fun h => by cases h), ⟨⟨rfl, B6, ba3.like (X3.warmed.alike.symm.trans X6.warmed.alike) p6.1 f6.1 f6.2.1 f6.2.2.1, f6.2.1.trans bv3, by rw [X6.warmed.alike.findClass, f6.1]; exact bf3, by rw [f6.2.2.1, bs3]; simp, fun j hj => by rw [f6.2.2.2 j, if_pos (by omega)]; rfl, kp3.put p6 (Nat.le_refl _)⟩, by rw [p6.2.2, bh3, hh0]; simp⟩, fun fs hl => c8.trans (X8.areturnOut hexec rfl hret rfl (hb hbytes d58) hl)⟩
end Cmp3
namespace CodL
def yN : MethodName := ⟨"java/lang/StringUTF16", "coderFromArrayLen", "([BI)B"⟩
abbrev yB : ByteArray := jdk_52_method_15_code
theorem d0 : decode yB 0 = .ok (.iload_n 1, 1) := by decide +kernel
theorem d1 : decode yB 1 = .ok (.aload_n 0, 1) := by decide +kernel
theorem d2 : decode yB 2 = .ok (.arraylength, 1) := by decide +kernel
theorem d3 : decode yB 3 = .ok (.isub, 1) := by decide +kernel
theorem d4 : decode yB 4 = .ok (.bipush 31, 2) := by decide +kernel
theorem d6 : decode yB 6 = .ok (.iushr, 1) := by decide +kernel
theorem d7 : decode yB 7 = .ok (.i2b, 1) := by decide +kernel
theorem d8 : decode yB 8 = .ok (.ireturn, 1) := by decide +kernel
def site : List Cond := []
def tab : Cond := tabOf yN yB 2 (some .byte) site
def P (d : Addr) (B : Cell) (args : Array Value) (s : State) : Prop := args = #[.ref d, .int (Int32.ofNat B.slots.size)] ∧ Arr .byte d B s
def E (r : Option Value) (s u : State) : Prop := XT.PureE (some (.int 0)) r s u
/-- an array as long as the number of chars: LATIN1 -/
theorem law (l : Launch) (d : Addr) (B : Cell) : Law l yN 2 2 0 0 yB 2 (some .byte) site (P d B) E [] 0 0 := by
  refine Law.of_walk (plainFor_of_name (by decide +kernel)) (by decide +kernel) (by decide +kernel) (by decide) (fun _ _ h => by rw [h.1]; rfl) (fun _ U U' hal hh h => ⟨h.1, h.2.mv hal hh⟩) (fun r U U' V V' h1 hal h2 h => XT.PureE.mv r U U' V V' h1 hal h2 h) ?_
  intro p e s m args below meth c s₁ X0 hexec hbytes hml hret hlk hnm hown hh0 W hP
  obtain ⟨rfl, hB⟩ := hP
  have hB0 := hB.mv X0.warmed.alike hh0
  have c1 : Steps p.tables e below (s₁.setTop (entryFrame m #[.ref d, .int (Int32.ofNat B.slots.size)] 2)) (s₁.setTop (mkF m 0 #[.val (.ref d), .val (.int (Int32.ofNat B.slots.size))] [])) := entry rfl
  have c2 : Steps p.tables e below (s₁.setTop (entryFrame m #[.ref d, .int (Int32.ofNat B.slots.size)] 2)) (s₁.setTop (mkF m 2 #[.val (.ref d), .val (.int (Int32.ofNat B.slots.size))] [.ref d, .int (Int32.ofNat B.slots.size)])) := c1.trans (by
    refine XS.iloadN X0.here hexec rfl (hb hbytes d0) rfl ?_
    refine XS.aloadN X0.here hexec rfl (hb hbytes d1) rfl rfl ?_
    exact Steps.refl _)
  have c3 : Steps p.tables e below (s₁.setTop (entryFrame m #[.ref d, .int (Int32.ofNat B.slots.size)] 2)) (s₁.setTop (mkF m 8 #[.val (.ref d), .val (.int (Int32.ofNat B.slots.size))] [.int (lo8 (ushr (Int32.ofNat B.slots.size - Int32.ofNat B.slots.size) 31))])) := c2.trans (by
    refine X0.alen hexec hB0 rfl rfl (hb hbytes d2) ?_
    refine XS.isub X0.here hexec rfl (hb hbytes d3) rfl ?_
    refine bipushV X0.here hexec rfl 31 (hb hbytes d4) (by decide) ?_
    refine iushr X0.here hexec rfl (hb hbytes d6) rfl ?_
    refine i2b X0.here hexec rfl (hb hbytes d7) rfl ?_
    exact Steps.refl _)
  have e0 : lo8 (ushr (Int32.ofNat B.slots.size - Int32.ofNat B.slots.size) 31) = 0 := by rw [Int32.sub_self]; decide
  rw [e0] at c3
  exact ⟨s₁, some (.int 0), _, _, _, X0, rfl, rfl, rfl, (fun h => by cases h), ⟨rfl, hh0⟩, fun fs hl => c3.trans (X0.ireturnOut hexec hret rfl (Or.inr (Or.inr (Or.inl rfl))) (hb hbytes d8) hl)⟩
end CodL
/-- the String at a is Latin-1 over a new byte[] (the heap's one new cell): the low bytes of the len chars of A from o on; every cell but a is kept -/
def Got (a : Addr) (D : Cell) (fV fC : Field) (A : Cell) (o len : Nat) (r : Option Value) (s u : State) : Prop := r = none ∧ ∃ D' V : Cell, Blank "java/lang/String" a D' u ∧ Same D D' [fV.slot, fC.slot] ∧ D'.slots[fV.slot]? = some (.ref s.heap.size) ∧ D'.slots[fC.slot]? = some (.int 0) ∧ Arr .byte s.heap.size V u ∧ V.vm = .none ∧ u.vm.findClass "[B" = some V.cls ∧ V.slots.size = len ∧ (∀ j, j < len → V.slots[j]? = some (.int (lo8 (cv A (o + j))))) ∧ (∀ (y : Addr) (c : Cell), y ≠ a → s.heap[y]? = some c → u.heap[y]? = some c) ∧ u.heap.size = s.heap.size + 1
theorem Got.mv {a : Addr} {D A : Cell} {fV fC : Field} {o len : Nat} : ∀ r (U U' V V' : State), U'.heap = U.heap → V.vm.Alike V'.vm → V'.heap = V.heap → Got a D fV fC A o len r U V → Got a D fV fC A o len r U' V' :=
  fun r U U' V V' h1 hal h2 ⟨e0, D', X, a1, a2, a3, a4, a5, a6, a7, a8, a9, a10, a11⟩ => ⟨e0, D', X, a1.mv hal h2, a2, by rw [h1]; exact a3, a4, by rw [h1]; exact a5.mv hal h2, a6, by rw [hal.findClass]; exact a7, a8, a9, by rw [h1, h2]; exact a10, by rw [h1, h2]; exact a11⟩
namespace New4
def yN : MethodName := ⟨"java/lang/String", "<init>", "([CIILjava/lang/Void;)V"⟩
abbrev yB : ByteArray := jdk_42_method_149_code
theorem d0 : decode yB 0 = .ok (.aload_n 0, 1) := by decide +kernel
theorem d1 : decode yB 1 = .ok (.invokespecial 1, 3) := by decide +kernel
theorem d4 : decode yB 4 = .ok (.iload_n 3, 1) := by decide +kernel
theorem d5 : decode yB 5 = .ok (.ifCond (.ne) 22, 3) := by decide +kernel
theorem d27 : decode yB 27 = .ok (.getstatic 38, 3) := by decide +kernel
theorem d30 : decode yB 30 = .ok (.ifCond (.eq) 28, 3) := by decide +kernel
theorem d33 : decode yB 33 = .ok (.aload_n 1, 1) := by decide +kernel
theorem d34 : decode yB 34 = .ok (.iload_n 2, 1) := by decide +kernel
theorem d35 : decode yB 35 = .ok (.iload_n 3, 1) := by decide +kernel
theorem d36 : decode yB 36 = .ok (.invokestatic 177, 3) := by decide +kernel
theorem d39 : decode yB 39 = .ok (.astore 5, 2) := by decide +kernel
theorem d41 : decode yB 41 = .ok (.aload_n 0, 1) := by decide +kernel
theorem d42 : decode yB 42 = .ok (.aload 5, 2) := by decide +kernel
theorem d44 : decode yB 44 = .ok (.iload_n 3, 1) := by decide +kernel
theorem d45 : decode yB 45 = .ok (.invokestatic 47, 3) := by decide +kernel
theorem d48 : decode yB 48 = .ok (.putfield 15, 3) := by decide +kernel
theorem d51 : decode yB 51 = .ok (.aload_n 0, 1) := by decide +kernel
theorem d52 : decode yB 52 = .ok (.aload 5, 2) := by decide +kernel
theorem d54 : decode yB 54 = .ok (.putfield 9, 3) := by decide +kernel
theorem d57 : decode yB 57 = .ok (.return_, 1) := by decide +kernel
def site : List Cond := [.fieldLink "java/lang/String" 38 "java/lang/String" "COMPACT_STRINGS" "Z", Cmp3.tab, CodL.tab, .laysFinal "java/lang/String" "java/lang/String" "value" "[B", .fieldLink "java/lang/String" 9 "java/lang/String" "value" "[B", .laysFinal "java/lang/String" "java/lang/String" "coder" "B", .fieldLink "java/lang/String" 15 "java/lang/String" "coder" "B"] ++ objW "java/lang/String" 1 ++ staticW "java/lang/String" 177 Cmp3.yN ++ staticW "java/lang/String" 47 CodL.yN
def tab : Cond := tabOf yN yB 6 none site
def P (a : Addr) (D : Cell) (fV fC : Field) (b : Addr) (A : Cell) (z : Int32) (o len : Nat) (args : Array Value) (s : State) : Prop := args = #[.ref a, .ref b, .int (Int32.ofNat o), .int (Int32.ofNat len), .null] ∧ Blank "java/lang/String" a D s ∧ Found "java/lang/String" "value" "[B" fV s ∧ Found "java/lang/String" "coder" "B" fC s ∧ Ch b A s ∧ StaticIs s "java/lang/String" "COMPACT_STRINGS" "Z" (.int z) ∧ ¬ z = 0 ∧ 0 < len ∧ o + len ≤ A.slots.size ∧ len ≤ 536870912 ∧ ∀ i, i < len → ¬ 255 < cv A (o + i)
def E (a : Addr) (D : Cell) (fV fC : Field) (A : Cell) (o len : Nat) (r : Option Value) (s u : State) : Prop := Got a D fV fC A o len r s u
/-- len > 0, no char of the range above 255: a Latin-1 String of their low bytes -/
theorem law (l : Launch) (a : Addr) (D : Cell) (fV fC : Field) (b : Addr) (A : Cell) (z : Int32) (o len : Nat) : Law l yN 5 4 2 35 yB 6 none site (P a D fV fC b A z o len) (E a D fV fC A o len) [⟨a, fC.slot⟩, ⟨a, fV.slot⟩] 1 len := by
  refine Law.of_walk (plainFor_of_name (by decide +kernel)) (by decide +kernel) (by decide +kernel) (by decide) (fun _ _ h => by rw [h.1]; rfl) (fun _ U U' hal hh h => ⟨h.1, h.2.1.mv hal hh, h.2.2.1.al hal, h.2.2.2.1.al hal, h.2.2.2.2.1.mv hal hh, h.2.2.2.2.2.1.there hal hh, h.2.2.2.2.2.2⟩) (fun r U U' V V' h1 hal h2 h => Got.mv r U U' V V' h1 hal h2 h) ?_
  intro p e s m args below meth c s₁ X0 hexec hbytes hml hret hlk hnm hown hh0 W hP
  obtain ⟨rfl, hB, f1, f2, hA, s1, hz, l0, l1, l2, hp⟩ := hP
  have a31 := hA.1.2.2.2
  have c1 : Steps p.tables e below (s₁.setTop (entryFrame m #[.ref a, .ref b, .int (Int32.ofNat o), .int (Int32.ofNat len), .null] 6)) (s₁.setTop (mkF m 0 #[.val (.ref a), .val (.ref b), .val (.int (Int32.ofNat o)), .val (.int (Int32.ofNat len)), .val .null, .unset] [])) := entry rfl
  have c2 : Steps p.tables e below (s₁.setTop (entryFrame m #[.ref a, .ref b, .int (Int32.ofNat o), .int (Int32.ofNat len), .null] 6)) (s₁.setTop (mkF m 1 #[.val (.ref a), .val (.ref b), .val (.int (Int32.ofNat o)), .val (.int (Int32.ofNat len)), .val .null, .unset] [.ref a])) := c1.trans (by
    refine XS.aloadN X0.here hexec rfl (hb hbytes d0) rfl rfl ?_
    exact Steps.refl _)
  obtain ⟨T3, X3, q3, st3⟩ := X0.oinit hexec hown (wks W (objW "java/lang/String" 1)) (g := (mkF m 1 #[.val (.ref a), .val (.ref b), .val (.int (Int32.ofNat o)), .val (.int (Int32.ofNat len)), .val .null, .unset] [.ref a])) rfl (by rw [hml]; rfl) (rest := []) rfl (hb hbytes d1) (W := 0) (by show 2 * 0 + 0 ≤ _; decide) (Nat.le_of_ble_eq_true rfl) (Nat.le_of_ble_eq_true rfl)
  have hh3 := q3.trans hh0
  have c4 : Steps p.tables e below (s₁.setTop (entryFrame m #[.ref a, .ref b, .int (Int32.ofNat o), .int (Int32.ofNat len), .null] 6)) (T3.setTop (mkF m 27 #[.val (.ref a), .val (.ref b), .val (.int (Int32.ofNat o)), .val (.int (Int32.ofNat len)), .val .null, .unset] [])) := (c2.trans (st3 _ (Steps.refl _))).trans (by
    refine XS.iloadN X3.here hexec rfl (hb hbytes d4) rfl ?_
    refine XS.ifYes X3.here hexec rfl (pc0 := 5) rfl (hb hbytes d5) rfl (i0_ne_t (nz32 (by omega) l0)) (by decide) rfl ?_
    exact Steps.refl _)
  obtain ⟨T5, X5, q5, st5⟩ := X3.sget hexec hown (wk W (.fieldLink "java/lang/String" 38 "java/lang/String" "COMPACT_STRINGS" "Z")) s1 (fun _ _ h => by rw [hh3]; exact h) (g := (mkF m 27 #[.val (.ref a), .val (.ref b), .val (.int (Int32.ofNat o)), .val (.int (Int32.ofNat len)), .val .null, .unset] [])) rfl (hb hbytes d27)
  have hh5 := q5.trans hh3
  have c6 : Steps p.tables e below (s₁.setTop (entryFrame m #[.ref a, .ref b, .int (Int32.ofNat o), .int (Int32.ofNat len), .null] 6)) (T5.setTop (mkF m 30 #[.val (.ref a), .val (.ref b), .val (.int (Int32.ofNat o)), .val (.int (Int32.ofNat len)), .val .null, .unset] [.int z])) := c4.trans (st5 _ (Steps.refl _))
  have c7 : Steps p.tables e below (s₁.setTop (entryFrame m #[.ref a, .ref b, .int (Int32.ofNat o), .int (Int32.ofNat len), .null] 6)) (T5.setTop (mkF m 36 #[.val (.ref a), .val (.ref b), .val (.int (Int32.ofNat o)), .val (.int (Int32.ofNat len)), .val .null, .unset] [.int (Int32.ofNat len), .int (Int32.ofNat o), .ref b])) := c6.trans (by
    refine XS.ifNo X5.here hexec rfl (hb hbytes d30) rfl (i0_eq_f hz) ?_
    refine XS.aloadN X5.here hexec rfl (hb hbytes d33) rfl rfl ?_
    refine XS.iloadN X5.here hexec rfl (hb hbytes d34) rfl ?_
    refine XS.iloadN X5.here hexec rfl (hb hbytes d35) rfl ?_
    exact Steps.refl _)
  obtain ⟨v8, T8, X8, E8, g8⟩ := X5.callS hexec (Cmp3.law l b A o len) hown (wks W (staticW "java/lang/String" 177 Cmp3.yN)) (wk W Cmp3.tab) (W := 0) (Nat.le_of_ble_eq_true rfl) (Nat.le_of_ble_eq_true rfl) (Nat.le_refl _) (by show 0 + len ≤ len; omega) (g := (mkF m 36 #[.val (.ref a), .val (.ref b), .val (.int (Int32.ofNat o)), .val (.int (Int32.ofNat len)), .val .null, .unset] [.int (Int32.ofNat len), .int (Int32.ofNat o), .ref b])) rfl (by rw [hml]; rfl) c7 (argsL := [.ref b, .int (Int32.ofNat o), .int (Int32.ofNat len)]) (rest := []) rfl rfl (by show 2 * 0 + 0 ≤ _; decide) (hb hbytes d36) (⟨rfl, hA.mv X5.warmed.alike hh5, l1, l2, hp⟩)
  obtain ⟨e8, z8⟩ := E8
  obtain ⟨rfl, N, n1, n2, n3, n4, n5, n6⟩ := NewArr.mv _ T5 s _ _ hh5.symm (Vm.Alike.refl _) rfl e8
  rw [hh5] at z8
  have hB1 := hB.keep X8.warmed.alike (n6 _ _ hB.1)
  have hne : s.heap.size ≠ a := (Nat.ne_of_lt (Array.getElem?_eq_some_iff.mp hB.1).1).symm
  have c9 : Steps p.tables e below (s₁.setTop (entryFrame m #[.ref a, .ref b, .int (Int32.ofNat o), .int (Int32.ofNat len), .null] 6)) (T8.setTop (mkF m 39 #[.val (.ref a), .val (.ref b), .val (.int (Int32.ofNat o)), .val (.int (Int32.ofNat len)), .val .null, .unset] [.ref s.heap.size])) := g8
  have c10 : Steps p.tables e below (s₁.setTop (entryFrame m #[.ref a, .ref b, .int (Int32.ofNat o), .int (Int32.ofNat len), .null] 6)) (T8.setTop (mkF m 45 #[.val (.ref a), .val (.ref b), .val (.int (Int32.ofNat o)), .val (.int (Int32.ofNat len)), .val .null, .val (.ref s.heap.size)] [.int (Int32.ofNat N.slots.size), .ref s.heap.size, .ref a])) := by
    have hc : Steps p.tables e below (s₁.setTop (entryFrame m #[.ref a, .ref b, .int (Int32.ofNat o), .int (Int32.ofNat len), .null] 6)) (T8.setTop (mkF m 45 #[.val (.ref a), .val (.ref b), .val (.int (Int32.ofNat o)), .val (.int (Int32.ofNat len)), .val .null, .val (.ref s.heap.size)] [.int (Int32.ofNat len), .ref s.heap.size, .ref a])) := c9.trans (by
      refine XS.astore X8.here hexec rfl (hb hbytes d39) rfl rfl rfl ?_
      refine XS.aloadN X8.here hexec rfl (hb hbytes d41) rfl rfl ?_
      refine XS.aload X8.here hexec rfl (hb hbytes d42) rfl rfl ?_
      refine XS.iloadN X8.here hexec rfl (hb hbytes d44) rfl ?_
      exact Steps.refl _)
    rw [n4]; exact hc
  obtain ⟨v11, T11, X11, E11, g11⟩ := X8.callS hexec (CodL.law l s.heap.size N) hown (wks W (staticW "java/lang/String" 47 CodL.yN)) (wk W CodL.tab) (W := 1) (Nat.le_of_ble_eq_true rfl) (Nat.le_of_ble_eq_true rfl) (Nat.le_refl _) (by show 0 + len + 0 ≤ len; omega) (g := (mkF m 45 #[.val (.ref a), .val (.ref b), .val (.int (Int32.ofNat o)), .val (.int (Int32.ofNat len)), .val .null, .val (.ref s.heap.size)] [.int (Int32.ofNat N.slots.size), .ref s.heap.size, .ref a])) rfl (by rw [hml]; rfl) c10 (argsL := [.ref s.heap.size, .int (Int32.ofNat N.slots.size)]) (rest := [.ref a]) rfl rfl (by show 2 * 0 + (1 + 0) ≤ _; decide) (hb hbytes d45) (⟨rfl, n1⟩)
  obtain ⟨rfl, q11⟩ := E11
  have hB11 := hB1.mv (X8.warmed.alike.symm.trans X11.warmed.alike) q11
  have c12 : Steps p.tables e below (s₁.setTop (entryFrame m #[.ref a, .ref b, .int (Int32.ofNat o), .int (Int32.ofNat len), .null] 6)) (T11.setTop (mkF m 48 #[.val (.ref a), .val (.ref b), .val (.int (Int32.ofNat o)), .val (.int (Int32.ofNat len)), .val .null, .val (.ref s.heap.size)] [.int 0, .ref a])) := g11
  obtain ⟨T13, X13, p13, bl13, sl13, st13⟩ := X11.finit hexec hown (wk W (.fieldLink "java/lang/String" 15 "java/lang/String" "coder" "B")) (Or.inr ⟨_, (wk W (.laysFinal "java/lang/String" "java/lang/String" "coder" "B"))⟩) (Or.inl ⟨rfl, hnm⟩) f2 (Or.inl rfl) hB11 (t := .byte) (by decide +kernel) rfl (g := (mkF m 48 #[.val (.ref a), .val (.ref b), .val (.int (Int32.ofNat o)), .val (.int (Int32.ofNat len)), .val .null, .val (.ref s.heap.size)] [.int 0, .ref a])) rfl (rest := []) rfl (hb hbytes d48)
  have c14 : Steps p.tables e below (s₁.setTop (entryFrame m #[.ref a, .ref b, .int (Int32.ofNat o), .int (Int32.ofNat len), .null] 6)) (T13.setTop (mkF m 54 #[.val (.ref a), .val (.ref b), .val (.int (Int32.ofNat o)), .val (.int (Int32.ofNat len)), .val .null, .val (.ref s.heap.size)] [.ref s.heap.size, .ref a])) := (c12.trans (st13 _ (Steps.refl _))).trans (by
    refine XS.aloadN X13.here hexec rfl (hb hbytes d51) rfl rfl ?_
    refine XS.aload X13.here hexec rfl (hb hbytes d52) rfl rfl ?_
    exact Steps.refl _)
  obtain ⟨T15, X15, p15, bl15, sl15, st15⟩ := X13.finit hexec hown (wk W (.fieldLink "java/lang/String" 9 "java/lang/String" "value" "[B")) (Or.inr ⟨_, (wk W (.laysFinal "java/lang/String" "java/lang/String" "value" "[B"))⟩) (Or.inl ⟨rfl, hnm⟩) f1 (Or.inl rfl) bl13 (t := (.array .byte)) (by decide +kernel) rfl (g := (mkF m 54 #[.val (.ref a), .val (.ref b), .val (.int (Int32.ofNat o)), .val (.int (Int32.ofNat len)), .val .null, .val (.ref s.heap.size)] [.ref s.heap.size, .ref a])) rfl (rest := []) rfl (hb hbytes d54)
  have c16 : Steps p.tables e below (s₁.setTop (entryFrame m #[.ref a, .ref b, .int (Int32.ofNat o), .int (Int32.ofNat len), .null] 6)) (T15.setTop (mkF m 57 #[.val (.ref a), .val (.ref b), .val (.int (Int32.ofNat o)), .val (.int (Int32.ofNat len)), .val .null, .val (.ref s.heap.size)] [])) := c14.trans (st15 _ (Steps.refl _))
  have ap := apart (Or.inr ⟨_, (wk W (.laysFinal "java/lang/String" "java/lang/String" "value" "[B"))⟩) (Or.inr ⟨_, (wk W (.laysFinal "java/lang/String" "java/lang/String" "coder" "B"))⟩) f1 f2 (t₁ := .array .byte) (t₂ := .byte) (by decide +kernel) (by decide +kernel) (by decide)
  have al := X8.warmed.alike.symm.trans X15.warmed.alike
  have n7 : T11.heap[s.heap.size]? = some N := by rw [q11]; exact n1.1
  exact ⟨T15, none, _, _, _, X15, by simp, rfl, by omega, (fun _ => rfl), ⟨rfl, _, N, bl15, ((Same.refl D _).set _ (by simp)).set _ (by simp), sl15, (Cell.slots_setSlot_ne _ ap).trans sl13, n1.keep al (p15.other hne (p13.other hne n7)), n2, by rw [al.findClass]; exact n3, n4, n5, fun y c h1 h2 => p15.other h1 (p13.other h1 (by rw [q11]; exact n6 y c h2)), by rw [p15.2.2, p13.2.2, q11]; exact z8⟩, fun fs hl => c16.trans (X15.returnOut hexec hret (hb hbytes d57) hl)⟩
end New4
namespace New1
def yN : MethodName := ⟨"java/lang/String", "<init>", "([C)V"⟩
abbrev yB : ByteArray := jdk_42_method_3_code
theorem d0 : decode yB 0 = .ok (.aload_n 0, 1) := by decide +kernel
theorem d1 : decode yB 1 = .ok (.aload_n 1, 1) := by decide +kernel
theorem d2 : decode yB 2 = .ok (.iconst 0, 1) := by decide +kernel
theorem d3 : decode yB 3 = .ok (.aload_n 1, 1) := by decide +kernel
theorem d4 : decode yB 4 = .ok (.arraylength, 1) := by decide +kernel
theorem d5 : decode yB 5 = .ok (.aconst_null, 1) := by decide +kernel
theorem d6 : decode yB 6 = .ok (.invokespecial 27, 3) := by decide +kernel
theorem d9 : decode yB 9 = .ok (.return_, 1) := by decide +kernel
def site : List Cond := [New4.tab] ++ initW "java/lang/String" 27 New4.yN
def tab : Cond := tabOf yN yB 2 none site
def P (a : Addr) (D : Cell) (fV fC : Field) (b : Addr) (A : Cell) (z : Int32) (args : Array Value) (s : State) : Prop := args = #[.ref a, .ref b] ∧ Blank "java/lang/String" a D s ∧ Found "java/lang/String" "value" "[B" fV s ∧ Found "java/lang/String" "coder" "B" fC s ∧ Ch b A s ∧ StaticIs s "java/lang/String" "COMPACT_STRINGS" "Z" (.int z) ∧ ¬ z = 0 ∧ 0 < A.slots.size ∧ A.slots.size ≤ 536870912 ∧ ∀ i, i < A.slots.size → ¬ 255 < cv A i
def E (a : Addr) (D : Cell) (fV fC : Field) (A : Cell) (r : Option Value) (s u : State) : Prop := Got a D fV fC A 0 A.slots.size r s u
/-- new String(chars), not empty, no char above 255: a Latin-1 String of their low bytes -/
theorem law (l : Launch) (a : Addr) (D : Cell) (fV fC : Field) (b : Addr) (A : Cell) (z : Int32) : Law l yN 2 1 3 52 yB 2 none site (P a D fV fC b A z) (E a D fV fC A) [⟨a, fC.slot⟩, ⟨a, fV.slot⟩] 1 A.slots.size := by
  refine Law.of_walk (plainFor_of_name (by decide +kernel)) (by decide +kernel) (by decide +kernel) (by decide) (fun _ _ h => by rw [h.1]; rfl) (fun _ U U' hal hh h => ⟨h.1, h.2.1.mv hal hh, h.2.2.1.al hal, h.2.2.2.1.al hal, h.2.2.2.2.1.mv hal hh, h.2.2.2.2.2.1.there hal hh, h.2.2.2.2.2.2⟩) (fun r U U' V V' h1 hal h2 h => Got.mv r U U' V V' h1 hal h2 h) ?_
  intro p e s m args below meth c s₁ X0 hexec hbytes hml hret hlk hnm hown hh0 W hP
  obtain ⟨rfl, hB, f1, f2, hA, s1, hz, l0, l2, hp⟩ := hP
  have c1 : Steps p.tables e below (s₁.setTop (entryFrame m #[.ref a, .ref b] 2)) (s₁.setTop (mkF m 0 #[.val (.ref a), .val (.ref b)] [])) := entry rfl
  have c2 : Steps p.tables e below (s₁.setTop (entryFrame m #[.ref a, .ref b] 2)) (s₁.setTop (mkF m 6 #[.val (.ref a), .val (.ref b)] [.null, .int (Int32.ofNat A.slots.size), .int 0, .ref b, .ref a])) := c1.trans (by
    refine XS.aloadN X0.here hexec rfl (hb hbytes d0) rfl rfl ?_
    refine XS.aloadN X0.here hexec rfl (hb hbytes d1) rfl rfl ?_
    refine iconstV X0.here hexec rfl 0 (hb hbytes d2) (by decide) ?_
    refine XS.aloadN X0.here hexec rfl (hb hbytes d3) rfl rfl ?_
    refine X0.alen hexec (hA.1.mv X0.warmed.alike hh0) rfl rfl (hb hbytes d4) ?_
    refine XS.aconstNull X0.here hexec rfl (hb hbytes d5) ?_
    exact Steps.refl _)
  obtain ⟨v3, T3, X3, E3, g3⟩ := X0.callN hexec (New4.law l a D fV fC b A z 0 A.slots.size) rfl hown (wks W (initW "java/lang/String" 27 New4.yN)) (W New4.tab (by simp only [site, List.mem_cons, List.mem_append, true_or, or_true])) (W := 0) (Nat.le_of_ble_eq_true rfl) (Nat.le_of_ble_eq_true rfl) (Nat.le_refl _) (by show 0 + A.slots.size ≤ A.slots.size; omega) (g := (mkF m 6 #[.val (.ref a), .val (.ref b)] [.null, .int (Int32.ofNat A.slots.size), .int (Int32.ofNat 0), .ref b, .ref a])) rfl (by rw [hml]; rfl) c2 (argsL := [.ref b, .int (Int32.ofNat 0), .int (Int32.ofNat A.slots.size), .null]) (rest := []) rfl rfl (by show 2 * 0 + 0 ≤ _; decide) (hb hbytes d6) (⟨rfl, hB.mv X0.warmed.alike hh0, f1.al X0.warmed.alike, f2.al X0.warmed.alike, hA.mv X0.warmed.alike hh0, s1.there X0.warmed.alike hh0, hz, l0, by omega, l2, fun i hi => by rw [Nat.zero_add]; exact hp i hi⟩)
  have e0 := Got.mv _ s₁ s _ _ hh0.symm (Vm.Alike.refl _) rfl E3
  obtain rfl := e0.1
  have c4 : Steps p.tables e below (s₁.setTop (entryFrame m #[.ref a, .ref b] 2)) (T3.setTop (mkF m 9 #[.val (.ref a), .val (.ref b)] [])) := g3
  exact ⟨T3, none, _, _, _, X3, by simp, rfl, by omega, (fun _ => rfl), e0, fun fs hl => c4.trans (X3.returnOut hexec hret (hb hbytes d9) hl)⟩
theorem pays {l : Launch} {R : Room} {p : Program} {e : Env} {below : List Frame} {s : State} {sargs : Array Value} {len W : Nat} (a : Addr) (D : Cell) (fV fC : Field) (b : Addr) (A : Cell) (z : Int32) (htab : tab.before sargs s = true) (hfr : 4 ≤ R.frames) (hlo : W + 65 ≤ R.locals) :
    Back l R p e below s sargs yN len W (fun A₁ a₁ => A₁.cells + 1 ≤ R.cells ∧ A₁.slots + A.slots.size ≤ R.slots ∧ P a D fV fC b A z a₁ A₁.U) (fun A₁ _ v₁ B₁ => E a D fV fC A v₁ A₁.U B₁.U ∧ B₁.locs = A₁.locs ++ [⟨a, fC.slot⟩, ⟨a, fV.slot⟩] ∧ B₁.cells = A₁.cells + 1 ∧ B₁.slots = A₁.slots + A.slots.size) :=
  (law l a D fV fC b A z).pays htab hfr (by omega)
end New1
/-- the byte, read back as charAt reads it, is the char -/
theorem lo8_mask {x : Int32} (h0 : ¬ x < 0) (h1 : ¬ 255 < x) : lo8 x &&& 255 = x := by
  have t : ∀ k : Fin 256, lo8 (Int32.ofNat k.val) &&& 255 = Int32.ofNat k.val := by decide +kernel
  rw [Int32.lt_iff_toInt_lt] at h0 h1
  have e0 : (0 : Int32).toInt = 0 := rfl
  have e1 : (255 : Int32).toInt = 255 := rfl
  obtain ⟨k, hk⟩ : ∃ k : Nat, x.toInt = k := ⟨x.toInt.toNat, by omega⟩
  have hx : x = Int32.ofNat k := Int32.toInt_inj.mp (by rw [hk, Int32.toInt_ofNat_small (by omega)])
  rw [hx]
  exact t ⟨k, by omega⟩
end StrChars
namespace StrChars.Road
open Jvm Sem ClassFile Op Lib Jvm.Stand Jvm.Free Jvm.Free.XT
open Jvm.Lib.Cold (StaticIs)
abbrev ST : String := "java/lang/String"
/-- every table word that New1's law asks, flat -/
abbrev words : List Jvm.Cond := [.code New1.yN New1.yB 2 none, .initialized ST, .methodLink ST 27 New4.yN, .instanceMethod New4.yN,
  .code New4.yN New4.yB 6 none, .fieldLink ST 38 ST "COMPACT_STRINGS" "Z", .laysFinal ST ST "value" "[B", .fieldLink ST 9 ST "value" "[B", .laysFinal ST ST "coder" "B", .fieldLink ST 15 ST "coder" "B",
  .methodLink ST 1 Lib.objectInit, .instanceMethod Lib.objectInit, .code Lib.objectInit ⟨#[0xb1]⟩ 1 none, .methodLink ST 177 Cmp3.yN, .static Cmp3.yN, .methodLink ST 47 CodL.yN, .static CodL.yN,
  .code Cmp3.yN Cmp3.yB 6 (some (.array .byte)), .initialized U16, .arrayClass .byte, .methodLink U16 115 Cmp5.yN, .static Cmp5.yN, .code Cmp5.yN Cmp5.yB 7 (some .int), .code CodL.yN CodL.yB 2 (some .byte)]
theorem tab_of {a : Array Value} {s : State} (h : ∀ w ∈ words, w.before a s = true) : New1.tab.before a s = true := by
  have h5 : Cmp5.tab.before a s = true := unparts (wk h (.code Cmp5.yN Cmp5.yB 7 (some .int))) (wks h (.initialized Cmp5.yN.cls :: Cmp5.site))
  have hc : CodL.tab.before a s = true := unparts (wk h (.code CodL.yN CodL.yB 2 (some .byte))) (wks h (.initialized CodL.yN.cls :: CodL.site))
  have q5 : ∀ w ∈ Cmp5.tab :: words, w.before a s = true := fun w hw => (List.mem_cons.mp hw).elim (fun e => e ▸ h5) (h w)
  have h3 : Cmp3.tab.before a s = true := unparts (wk q5 (.code Cmp3.yN Cmp3.yB 6 (some (.array .byte)))) (wks q5 (.initialized Cmp3.yN.cls :: Cmp3.site))
  have q3 : ∀ w ∈ Cmp3.tab :: CodL.tab :: words, w.before a s = true := fun w hw => (List.mem_cons.mp hw).elim (fun e => e ▸ h3) fun hw => (List.mem_cons.mp hw).elim (fun e => e ▸ hc) (h w)
  have h4 : New4.tab.before a s = true := unparts (wk q3 (.code New4.yN New4.yB 6 none)) (wks q3 (.initialized New4.yN.cls :: New4.site))
  have q4 : ∀ w ∈ New4.tab :: words, w.before a s = true := fun w hw => (List.mem_cons.mp hw).elim (fun e => e ▸ h4) (h w)
  exact unparts (wk q4 (.code New1.yN New1.yB 2 none)) (wks q4 (.initialized New1.yN.cls :: New1.site))
/-- the words ride from the start Z to the walk's own state -/
theorem moved {Z s : State} {a0 args : Array Value} (hZ : Z.Warmed39 s.vm) (hw : ∀ d ∈ words, d.before a0 Z = true) : ∀ d ∈ words, d.before args s = true := fun d hd => by
  have q := hw d hd
  have t : ∀ d ∈ words, d = .arrayClass .byte ∨ (d.onTables && d.keepsFace) = true := by decide +kernel
  rcases t d hd with rfl | t
  · exact RoadKit.mvA hZ q
  · exact RoadKit.mv hZ q t
/-- WHAT COMES BACK, over the tables of the start Z: h the heap at the call, h' behind it -/
def Q (Z : State) (x : Addr) (A : Cell) (h : Heap) (v : Option Value) (h' : Heap) (L : List Loc) : Prop := v = none ∧ (∀ y ∈ L, y.base = x) ∧ RoadKit.Keep h h' [x] ∧ h'.size = h.size + 1 ∧ RoadKit.Exa Z h' x ST ∧ RoadKit.Fld Z h' x ST "value" "[B" (.ref h.size) ∧ RoadKit.Fld Z h' x ST "coder" "B" (.int 0) ∧
  (∃ V : Cell, RoadKit.Arr Z h' h.size V .byte ∧ V.vm = .none ∧ Z.vm.findClass "[B" = some V.cls ∧ V.slots.size = A.slots.size ∧ ∀ j, j < A.slots.size → V.slots[j]? = some (.int (lo8 (cv A j)))) ∧
  ∀ (O n d : String) (w : Value), RoadKit.Fld Z h x O n d w → RoadKit.slotOf Z O n d ≠ RoadKit.slotOf Z ST "value" "[B" → RoadKit.slotOf Z O n d ≠ RoadKit.slotOf Z ST "coder" "B" → RoadKit.Fld Z h' x O n d w
/-- **new String(chars) AT A CALL, IN THE ROAD'S FORM**: for specialBack behind newO: x the fresh String, b the char[] with the cell A -/
theorem back {p : Program} {l : Launch} {e : Env} {R : Room} {s : State} {args : Array Value} {below : List Frame} {len W : Nat} {Z : State} {a0 : Array Value} {h : Heap} (hZ : Z.Warmed39 s.vm) (hw : ∀ d ∈ words, d.before a0 Z = true) {kI : Nat} (wi : (Jvm.Cond.instantiable ST kI).before a0 Z = true)
    {x b : Addr} {A : Cell} {z : Int32} {v0 c0 : Value} (E : RoadKit.Exa Z h x ST) (V : RoadKit.Fld Z h x ST "value" "[B" v0) (C : RoadKit.Fld Z h x ST "coder" "B" c0) (K : RoadKit.Arr Z h b A .char) (hty : Typed .char A) (S : RoadKit.Sta Z h ST "COMPACT_STRINGS" "Z" (.int z)) (hz : ¬ z = 0)
    (l0 : 0 < A.slots.size) (l2 : A.slots.size ≤ 536870912) (hp : ∀ i, i < A.slots.size → ¬ 255 < cv A i) (hfr : 4 ≤ R.frames) (hlo : W + 65 ≤ R.locals) :
    Back l R p e below s args New1.yN len W (fun P a => a = #[.ref x, .ref b] ∧ P.U.heap = h ∧ P.cells + 1 ≤ R.cells ∧ P.slots + A.slots.size ≤ R.slots)
      (fun P _ v B => ∃ L, Q Z x A h v B.U.heap L ∧ B.locs = P.locs ++ L ∧ B.cells = P.cells + 1 ∧ B.slots = P.slots + A.slots.size) := by
  intro m meth c P g ig mk a X hg hsize hdg hW hn hp'
  obtain ⟨rfl, rfl, r1, r2⟩ := hp'
  have al : Z.vm.Alike P.U.vm := hZ.alike.trans X.warmed.alike
  obtain ⟨D, cfV, kV, iV, fV, hD, gV, stV, knV, obV, asV, slV⟩ := id V
  obtain ⟨D', cfC, kC, iC, fC, hD', gC, stC, -, -, asC, slC⟩ := id C
  cases hD.symm.trans hD'
  obtain ⟨D2, kD, e1, e2, e3, e4, e5⟩ := id E
  cases hD.symm.trans e1
  obtain ⟨c2, k2, i1, i2, i3, -⟩ := Cond.instantiable_spec wi
  cases e2.symm.trans i1
  cases e3.symm.trans i2
  obtain ⟨kU, u1, u2⟩ := al.2.2 _ _ e3
  have hB : Blank ST x D P.U := ⟨hD, ⟨knV, fun q hq => by rw [hq] at obV; cases obV⟩, by rw [al.findClass]; exact e2, kU, u1, by rw [u2]; exact i3, by rw [u2]; exact e5 i3⟩
  have F1 : Found ST "value" "[B" fV P.U := ⟨SBG.found_only al ⟨cfV, kV, iV, gV⟩, stV⟩
  have F2 : Found ST "coder" "B" fC P.U := ⟨SBG.found_only al ⟨cfC, kC, iC, gC⟩, stC⟩
  have hA : Ch b A P.U := ⟨⟨K.1, State.isArrayOf_alike al K.2.1, K.2.2, by omega⟩, hty⟩
  have hS : StaticIs P.U ST "COMPACT_STRINGS" "Z" (.int z) := by
    obtain ⟨cfS, iS, kS, fS, st, cS, t1, t2, t3, t4, t5, t6, t7⟩ := S
    exact StaticIs.there (s := { Z with heap := P.U.heap }) ⟨cfS, iS, kS, fS, st, cS, t1, t2, t3, t4, t5, (fun q => by rw [q] at t6; cases t6), t7⟩ al rfl
  obtain ⟨v, B, X', ⟨⟨hv, E', V', q1, q2, q3, q4, q5, q6, q7, q8, q9, q10, q11⟩, hl, hc, hs⟩, st⟩ := New1.pays x D fV fC b A z (tab_of (moved hZ hw)) hfr hlo m meth c P g ig mk _ X hg hsize hdg hW hn ⟨r1, r2, rfl, hB, F1, F2, hA, hS, hz, l0, l2, hp⟩
  have al' : Z.vm.Alike B.U.vm := hZ.alike.trans X'.warmed.alike
  have hsz : E'.slots.size = D.slots.size := by
    obtain ⟨-, -, -, kB, w1, w2, w3⟩ := q1
    obtain ⟨kB', y1, y2⟩ := al'.2.2 _ _ e3
    rw [q2.2.1] at w1
    cases w1.symm.trans y1
    rw [w3, e5 i3, y2]
  refine ⟨v, B, X', ⟨_, ⟨hv, ?_, ⟨by omega, fun y cy hy hn' => q10 y cy (by simpa using hn') hy, fun y cy hy => ?_⟩, q11, ⟨E', _, q1.1, by rw [q2.2.1]; exact e2, by rw [q2.2.1]; exact e3, by rw [q2.1]; exact obV, fun _ => by rw [hsz]; exact e5 i3⟩,
    ⟨E', cfV, kV, iV, fV, q1.1, gV, stV, by rw [q2.1]; exact knV, by rw [q2.1]; exact obV, by rw [q2.2.1]; exact asV, q3⟩, ⟨E', cfC, kC, iC, fC, q1.1, gC, stC, by rw [q2.1]; exact knV, by rw [q2.1]; exact obV, by rw [q2.2.1]; exact asC, q4⟩,
    ⟨V', ⟨q5.1, State.isArrayOf_alike al'.symm q5.2.1, q5.2.2.1⟩, q6, by rw [← al'.findClass]; exact q7, q8, fun j hj => by have := q9 j hj; rwa [Nat.zero_add] at this⟩, fun O n d w F n1 n2 => ?_⟩, hl, hc, hs⟩, st⟩
  · intro y hy
    simp only [List.mem_cons, List.not_mem_nil, or_false] at hy
    rcases hy with rfl | rfl <;> rfl
  · by_cases q : y = x
    · subst q
      cases hD.symm.trans hy
      exact ⟨E', q1.1, q2.2.1, q2.1, hsz⟩
    · exact ⟨cy, q10 y cy q hy, rfl, rfl, rfl⟩
  · obtain ⟨D3, cf, k, i, f, g1, g2, g3, g4, g5, g6, g7⟩ := F
    cases hD.symm.trans g1
    simp only [RoadKit.slotOf, g2, gV, gC, Option.map_some, Option.getD_some] at n1 n2
    exact ⟨E', cf, k, i, f, q1.1, g2, g3, by rw [q2.1]; exact g4, by rw [q2.1]; exact g5, by rw [q2.2.1]; exact g6, by rw [q2.2.2 f.slot (by simp [n1, n2])]; exact g7⟩
end StrChars.Road
namespace StrChars.Road
open Jvm Sem ClassFile Op Lib Jvm.Stand Jvm.Free Jvm.Free.XT
/-- WHAT COMES BACK, the byte[] as a list of values -/
def QA (Z : State) (x : Addr) (zn : Int32) (cs : List Int32) (h : Heap) (v : Option Value) (h' : Heap) (L : List Loc) : Prop := v = none ∧ (∀ y ∈ L, y.base = x) ∧ RoadKit.Keep h h' [x] ∧ h'.size = h.size + 1 ∧ RoadKit.Exa Z h' x ST ∧ RoadKit.Fld Z h' x ST "value" "[B" (.ref h.size) ∧ RoadKit.Fld Z h' x ST "coder" "B" (.int 0) ∧
  (∃ kb, Z.vm.findClass "[B" = some kb ∧ RoadKit.Arv Z h' h.size kb .byte zn (cs.map fun c => .int (lo8 c)) (.int 0)) ∧
  ∀ (O n d : String) (w : Value), RoadKit.Fld Z h x O n d w → RoadKit.slotOf Z O n d ≠ RoadKit.slotOf Z ST "value" "[B" → RoadKit.slotOf Z O n d ≠ RoadKit.slotOf Z ST "coder" "B" → RoadKit.Fld Z h' x O n d w
/-- **new String(chars) AT A CALL, THE ARRAYS AS LISTS**: the char[] at b holds cs, not empty, no char above 255 -/
theorem backArv {p : Program} {l : Launch} {e : Env} {R : Room} {s : State} {args : Array Value} {below : List Frame} {len W : Nat} {Z : State} {a0 : Array Value} {h : Heap} (hZ : Z.Warmed39 s.vm) (hw : ∀ d ∈ words, d.before a0 Z = true) {kI : Nat} (wi : (Jvm.Cond.instantiable ST kI).before a0 Z = true)
    {x b : Addr} {k : ClassId} {zn z : Int32} {cs : List Int32} {dv v0 c0 : Value} (E : RoadKit.Exa Z h x ST) (V : RoadKit.Fld Z h x ST "value" "[B" v0) (C : RoadKit.Fld Z h x ST "coder" "B" c0) (K : RoadKit.Arv Z h b k .char zn (cs.map Value.int) dv) (S : RoadKit.Sta Z h ST "COMPACT_STRINGS" "Z" (.int z)) (hz : ¬ z = 0)
    (hlen : zn.toNatClampNeg = cs.length) (h0 : 0 < cs.length) (hbig : cs.length ≤ 536870912) (hall : ∀ c ∈ cs, ¬ 255 < c) (hfr : 4 ≤ R.frames) (hlo : W + 65 ≤ R.locals) :
    Back l R p e below s args New1.yN len W (fun P a => a = #[.ref x, .ref b] ∧ P.U.heap = h ∧ P.cells + 1 ≤ R.cells ∧ P.slots + cs.length ≤ R.slots)
      (fun P _ v B => ∃ L, QA Z x zn cs h v B.U.heap L ∧ B.locs = P.locs ++ L ∧ B.cells = P.cells + 1 ∧ B.slots = P.slots + cs.length) := by
  obtain ⟨A, K1, K2, K3, K4, K5, K6⟩ := K
  have e : A.slots.size = cs.length := K3.trans hlen
  have hat : ∀ (i : Nat) (hi : i < cs.length), A.slots[i]? = some (.int cs[i]) := fun i hi => by rw [K5 i (by omega)]; simp [List.getD_eq_getElem?_getD, hi]
  have hcv : ∀ (i : Nat) (hi : i < cs.length), cv A i = cs[i] := fun i hi => by unfold cv; rw [hat i hi]
  have hty : Typed .char A := fun i v hv => by
    have hi : i < A.slots.size := (Array.getElem?_eq_some_iff.mp hv).1
    have q := K5 i hi
    rw [hv] at q
    rw [Option.some.inj q]
    exact K6 i hi
  refine Back.mono (back hZ hw wi E V C K1 hty S hz (by omega) (by omega) (fun i hi => by rw [hcv i (by omega)]; exact hall _ (List.getElem_mem _)) hfr hlo) (fun P a hp => ⟨hp.1, hp.2.1, hp.2.2.1, by rw [e]; exact hp.2.2.2⟩) (fun P a v B hp hq => ?_)
  obtain ⟨L, ⟨q1, q2, q3, q4, q5, q6, q7, ⟨V', v1, v2, v3, v4, v5⟩, q9⟩, hl, hc, hs⟩ := hq
  refine ⟨L, ⟨q1, q2, q3, q4, q5, q6, q7, ⟨V'.cls, v3, V', v1, rfl, by rw [v4, e, hlen], K4, fun i hi => ?_, fun i hi => ?_⟩, q9⟩, hl, hc, by rw [hs, e]⟩
  · have hi' : i < cs.length := by omega
    rw [v5 i (by omega), hcv i hi']; simp [List.getD_eq_getElem?_getD, hi']
  · have hi' : i < cs.length := by omega
    simp only [List.getD_eq_getElem?_getD, List.getElem?_map, List.getElem?_eq_getElem hi', Option.map_some, Option.getD_some]
    exact fits_lo8 _
end StrChars.Road
namespace StrChars.Road
open Jvm Sem ClassFile Op Lib Jvm.Stand Jvm.Free Jvm.Free.XT
/-- WHAT COMES BACK, in the writer's own shape -/
def QV (Z : State) (x : Addr) (N : Int32) (bs : List Int32) (h : Heap) (n0 : Nat) (v : Option Value) (h' : Heap) (L : List Loc) : Prop := v = none ∧ RoadKit.Fr n0 L ∧ RoadKit.Keep h h' [x] ∧ RoadKit.Exa Z h' x ST ∧ RoadKit.Fld Z h' x ST "coder" "B" (.int 0) ∧
  ∃ (t : Addr) (kb : ClassId), n0 ≤ t ∧ h.size ≤ t ∧ ¬ t = x ∧ RoadKit.Fld Z h' x ST "value" "[B" (.ref t) ∧ RoadKit.Arv Z h' t kb .byte N (bs.map Value.int) (.int 0)
/-- **new String(chars) AT A CALL, FOR THE WRITER**: a char[] of n known ints, each 0 to 255 -/
theorem backV {p : Program} {l : Launch} {e : Env} {R : Room} {s : State} {args : Array Value} {below : List Frame} {len W : Nat} {Z : State} {a0 : Array Value} {h : Heap} (hZ : Z.Warmed39 s.vm) (hw : ∀ d ∈ words, d.before a0 Z = true) {kI : Nat} (wi : (Jvm.Cond.instantiable ST kI).before a0 Z = true)
    {x b : Addr} {kC : ClassId} {cs bs : List Int32} {d v0 c0 : Value} {z N : Int32} {n n0 : Nat} (hx0 : n0 ≤ x) (hh0 : n0 ≤ h.size) (E : RoadKit.Exa Z h x ST) (V : RoadKit.Fld Z h x ST "value" "[B" v0) (C : RoadKit.Fld Z h x ST "coder" "B" c0) (K : RoadKit.Arv Z h b kC .char N (cs.map Value.int) d) (S : RoadKit.Sta Z h ST "COMPACT_STRINGS" "Z" (.int z)) (hz : ¬ z = 0)
    (hn : cs.length = n) (hN : N = Int32.ofNat n) (l0 : 0 < n) (l2 : n ≤ 4000) (hp : ∀ c ∈ cs, ¬ c < 0 ∧ ¬ (255 : Int32) < c) (hb : bs = cs.map (fun c => c.toInt8.toInt32)) (hfr : 4 ≤ R.frames) (hlo : W + 65 ≤ R.locals) :
    Back l R p e below s args (⟨"java/lang/String", "<init>", "([C)V"⟩ : MethodName) len W (fun P a => a = #[.ref x, .ref b] ∧ P.U.heap = h ∧ P.cells + 1 ≤ R.cells ∧ P.slots + n ≤ R.slots)
      (fun P _ v B => ∃ L, QV Z x N bs h n0 v B.U.heap L ∧ B.locs = P.locs ++ L ∧ B.cells = P.cells + 1 ∧ B.slots = P.slots + n) := by
  subst hn hN hb
  refine Back.mono (backArv hZ hw wi E V C K S hz (n32 (by omega)) l0 (by omega) (fun c hc => (hp c hc).2) hfr hlo) (fun P a hp => hp) (fun P a v B hp hq => ?_)
  obtain ⟨L, ⟨q1, q2, q3, q4, q5, q6, q7, ⟨kb, v1, v2⟩, q9⟩, hl, hc, hs⟩ := hq
  exact ⟨L, ⟨q1, fun y hy => by rw [q2 y hy]; exact hx0, q3, q5, q7, h.size, kb, hh0, Nat.le_refl _, Nat.ne_of_gt E.lt, q6, by rw [List.map_map]; exact v2⟩, hl, hc, hs⟩
end StrChars.Road
namespace StrChars
open Jvm Sem ClassFile Op Lib Jvm.Stand Jvm.Free.XT Jvm.Free.ALB Jvm.Free.JM Jvm.Free
open Jvm.Lib.Cold (StaticIs)
def hi8 (x : Int32) : Int32 := lo8 (x >>> ((8 : Int32) &&& 31))
/-- what StringUTF16.getChar makes of two bytes -/
def pairCh (u v : Int32) : Int32 := (((u &&& 255) <<< ((0 : Int32) &&& 31)) ||| ((v &&& 255) <<< ((8 : Int32) &&& 31))).toUInt32.toUInt16.toUInt32.toInt32
theorem shr0 (c : Int32) : c >>> ((0 : Int32) &&& 31) = c := by
  have e : ((0 : Int32) &&& 31) = 0 := by decide
  rw [e]
  apply Int32.toBitVec_inj.mp
  rw [Int32.toBitVec_shiftRight]
  have e1 : ((0 : Int32).toBitVec.smod 32) = 0#32 := by decide
  rw [e1, BitVec.sshiftRight_eq']
  exact BitVec.sshiftRight_zero
theorem lo8_and (x : Int32) : (lo8 x &&& 255).toBitVec.toNat = x.toBitVec.toNat % 256 := by
  have h : (lo8 x).toBitVec = (x.toBitVec.signExtend 8).signExtend 32 := by rw [lo8, Int8.toBitVec_toInt32, Int32.toBitVec_toInt8]
  rw [Int32.toBitVec_and, BitVec.toNat_and, h]
  have e : ((x.toBitVec.signExtend 8).signExtend 32).toNat % 256 = x.toBitVec.toNat % 256 := by
    rw [BitVec.toNat_signExtend]
    have hlt := x.toBitVec.isLt
    simp only [BitVec.toNat_setWidth, BitVec.toNat_signExtend]
    split <;> split <;> omega
  rw [← e]
  exact Nat.and_two_pow_sub_one_eq_mod _ 8
theorem pair_says {c : Int32} (h0 : ¬ c < 0) (h1 : ¬ 65535 < c) : pairCh (lo8 c) (hi8 c) = c := by
  rw [Int32.lt_iff_toInt_lt] at h0 h1
  have e0 : (0 : Int32).toInt = 0 := rfl
  have e1 : (65535 : Int32).toInt = 65535 := rfl
  have hc : c.toInt = c.toBitVec.toNat := by
    have := c.toBitVec.isLt
    have e : c.toInt = c.toBitVec.toInt := rfl
    rw [e] at h0 h1
    rw [e]
    rw [BitVec.toInt_eq_toNat_cond] at h0 h1 ⊢
    split at h0 <;> split <;> omega
  have hn : c.toBitVec.toNat < 65536 := by omega
  have a1 := lo8_and c
  have a2 : (hi8 c &&& 255).toBitVec.toNat = c.toBitVec.toNat / 256 := by
    rw [hi8, lo8_and]
    have e : ((8 : Int32) &&& 31) = 8 := by decide
    rw [e, Int32.toBitVec_shiftRight]
    have e2 : ((8 : Int32).toBitVec.smod 32) = 8#32 := by decide
    rw [e2, BitVec.sshiftRight_eq', BitVec.toNat_sshiftRight_of_msb_false (by rw [BitVec.msb_eq_false_iff_two_mul_lt]; omega)]
    show c.toBitVec.toNat >>> 8 % 256 = _
    rw [Nat.shiftRight_eq_div_pow]
    omega
  unfold pairCh
  apply Int32.toBitVec_inj.mp
  apply BitVec.eq_of_toNat_eq
  have f0 : ((0 : Int32) &&& 31) = 0 := by decide
  have f8 : ((8 : Int32) &&& 31) = 8 := by decide
  rw [f0, f8]
  have g : (((lo8 c &&& 255) <<< (0 : Int32)) ||| ((hi8 c &&& 255) <<< (8 : Int32))).toBitVec.toNat = c.toBitVec.toNat := by
    rw [Int32.toBitVec_or, Int32.toBitVec_shiftLeft, Int32.toBitVec_shiftLeft]
    have s0 : ((0 : Int32).toBitVec.smod 32) = 0#32 := by decide
    have s8 : ((8 : Int32).toBitVec.smod 32) = 8#32 := by decide
    rw [s0, s8, BitVec.toNat_or]
    simp only [BitVec.shiftLeft_eq', BitVec.toNat_shiftLeft, a1, a2]
    show (c.toBitVec.toNat % 256) <<< 0 % 2 ^ 32 ||| (c.toBitVec.toNat / 256) <<< 8 % 2 ^ 32 = _
    rw [Nat.shiftLeft_zero, Nat.mod_eq_of_lt (show c.toBitVec.toNat % 256 < 2 ^ 32 by omega), Nat.mod_eq_of_lt (show (c.toBitVec.toNat / 256) <<< 8 < 2 ^ 32 by rw [Nat.shiftLeft_eq]; omega), Nat.or_comm, ← Nat.shiftLeft_add_eq_or_of_lt (by omega), Nat.shiftLeft_eq]
    omega
  show BitVec.toNat (((((lo8 c &&& 255) <<< (0 : Int32)) ||| ((hi8 c &&& 255) <<< (8 : Int32))).toBitVec.setWidth 16).setWidth 32) = _
  rw [BitVec.toNat_setWidth, BitVec.toNat_setWidth, g]
  omega
end StrChars
namespace StrChars
open Jvm Sem ClassFile Op Lib Jvm.Stand Jvm.Free.XT Jvm.Free.ALB Jvm.Free.JM Jvm.Free
open Jvm.Lib.Cold (StaticIs)
theorem shr1 {n : Nat} (h : 2 * n < 2 ^ 31) : Int32.ofNat (2 * n) >>> ((1 : Int32) &&& 31) = Int32.ofNat n := by
  have e : ((1 : Int32) &&& 31) = 1 := by decide
  rw [e]
  apply Int32.toBitVec_inj.mp
  rw [Int32.toBitVec_shiftRight]
  have e1 : ((1 : Int32).toBitVec.smod 32) = 1#32 := by decide
  have hm : (BitVec.ofNat 32 (2 * n)).toNat = 2 * n := by rw [BitVec.toNat_ofNat, Nat.mod_eq_of_lt (by omega)]
  rw [e1, BitVec.sshiftRight_eq']
  apply BitVec.eq_of_toNat_eq
  show ((BitVec.ofNat 32 (2 * n)).sshiftRight 1).toNat = (BitVec.ofNat 32 n).toNat
  rw [BitVec.toNat_sshiftRight_of_msb_false (by rw [BitVec.msb_eq_false_iff_two_mul_lt, hm]; omega), hm, BitVec.toNat_ofNat, Nat.shiftRight_eq_div_pow]
  omega
/-- charAt's cast of a byte read back -/
def chr8 (u : Int32) : Int32 := (u &&& 255).toUInt32.toUInt16.toUInt32.toInt32
theorem chr8_lo8 {c : Int32} (h0 : ¬ c < 0) (h1 : ¬ 255 < c) : chr8 (lo8 c) = c := by
  have t : ∀ k : Fin 256, (Int32.ofNat k.val).toUInt32.toUInt16.toUInt32.toInt32 = Int32.ofNat k.val := by decide +kernel
  unfold chr8
  rw [lo8_mask h0 h1]
  rw [Int32.lt_iff_toInt_lt] at h0 h1
  have e0 : (0 : Int32).toInt = 0 := rfl
  have e1 : (255 : Int32).toInt = 255 := rfl
  obtain ⟨k, hk⟩ : ∃ k : Nat, c.toInt = k := ⟨c.toInt.toNat, by omega⟩
  have hx : c = Int32.ofNat k := Int32.toInt_inj.mp (by rw [hk, Int32.toInt_ofNat_small (by omega)])
  rw [hx]
  exact t ⟨k, by omega⟩
theorem narrow_ch {c : Int32} (h0 : ¬ c < 0) (h1 : ¬ 65535 < c) : narrow .char (.int c) = .int c := by
  have q : narrow .char (.int (pairCh (lo8 c) (hi8 c))) = .int (pairCh (lo8 c) (hi8 c)) := narrow_c _
  rwa [pair_says h0 h1] at q
/-- the array's cell V codes the n chars f 0 .. f (n - 1) by the coder cd, as the JDK does: coder 1 just where some char is above 255 -/
def Cod (cd : Int32) (n : Nat) (f : Nat → Int32) (V : Cell) : Prop := (cd = 0 ∧ V.slots.size = n ∧ ∀ j, j < n → V.slots[j]? = some (.int (lo8 (f j))) ∧ ¬ 255 < f j) ∨ (cd = 1 ∧ V.slots.size = 2 * n ∧ (∀ j, j < n → V.slots[2 * j]? = some (.int (lo8 (f j))) ∧ V.slots[2 * j + 1]? = some (.int (hi8 (f j)))) ∧ ∃ j, j < n ∧ 255 < f j)
theorem Cod.cd {cd : Int32} {n : Nat} {f : Nat → Int32} {V : Cell} (h : Cod cd n f V) : cd = 0 ∨ cd = 1 := h.imp (fun q => q.1) fun q => q.1
theorem Cod.len {cd : Int32} {n : Nat} {f : Nat → Int32} {V : Cell} (h : Cod cd n f V) (hs : V.slots.size < 2 ^ 31) : Int32.ofNat V.slots.size >>> (cd &&& 31) = Int32.ofNat n := by
  rcases h with ⟨rfl, h, -⟩ | ⟨rfl, h, -⟩
  · rw [shr0, h]
  · rw [h, shr1 (by omega)]
/-- **x is a String of the n chars f 0 .. f (n - 1)**, Latin-1 or UTF-16; its array at t has the cell V -/
def Txt (x t : Addr) (V : Cell) (cd : Int32) (n : Nat) (f : Nat → Int32) (U : State) : Prop := Exact "java/lang/String" x U ∧ Has x "java/lang/String" "value" "[B" (.ref t) U ∧ Has x "java/lang/String" "coder" "B" (.int cd) U ∧ XT.Arr .byte t V U ∧ Cod cd n f V ∧ ∀ j, j < n → ¬ f j < 0 ∧ ¬ 65535 < f j
theorem Txt.mv {x t : Addr} {V : Cell} {cd : Int32} {n : Nat} {f : Nat → Int32} {U U' : State} (h : Txt x t V cd n f U) (hal : U.vm.Alike U'.vm) (hh : U'.heap = U.heap) : Txt x t V cd n f U' := ⟨h.1.mv hal hh, h.2.1.mv hal hh, h.2.2.1.mv hal hh, h.2.2.2.1.mv hal hh, h.2.2.2.2⟩
namespace Cdr
def yN : MethodName := ⟨"java/lang/String", "coder", "()B"⟩
abbrev yB : ByteArray := jdk_42_method_152_code
theorem d0 : decode yB 0 = .ok (.getstatic 38, 3) := by decide +kernel
theorem d3 : decode yB 3 = .ok (.ifCond (.eq) 10, 3) := by decide +kernel
theorem d6 : decode yB 6 = .ok (.aload_n 0, 1) := by decide +kernel
theorem d7 : decode yB 7 = .ok (.getfield 15, 3) := by decide +kernel
theorem d10 : decode yB 10 = .ok (.goto 4, 3) := by decide +kernel
theorem d14 : decode yB 14 = .ok (.ireturn, 1) := by decide +kernel
def site : List Cond := [.fieldLink "java/lang/String" 38 "java/lang/String" "COMPACT_STRINGS" "Z", .fieldLink "java/lang/String" 15 "java/lang/String" "coder" "B"]
def tab : Cond := tabOf yN yB 1 (some .byte) site
def P (x : Addr) (cd z : Int32) (args : Array Value) (s : State) : Prop := args = #[.ref x] ∧ Has x "java/lang/String" "coder" "B" (.int cd) s ∧ (cd = 0 ∨ cd = 1) ∧ StaticIs s "java/lang/String" "COMPACT_STRINGS" "Z" (.int z) ∧ ¬ z = 0
def E (cd : Int32) (r : Option Value) (s u : State) : Prop := XT.PureE (some (.int cd)) r s u
theorem law (l : Launch) (x : Addr) (cd z : Int32) : Law l yN 1 0 0 0 yB 1 (some .byte) site (P x cd z) (E cd) [] 0 0 := by
  refine Law.of_walk (plainFor_of_name (by decide +kernel)) (by decide +kernel) (by decide +kernel) (by decide) (fun _ _ h => by rw [h.1]; rfl) (fun _ U U' hal hh h => ⟨h.1, h.2.1.mv hal hh, h.2.2.1, h.2.2.2.1.there hal hh, h.2.2.2.2⟩) (fun r U U' V V' h1 hal h2 h => XT.PureE.mv r U U' V V' h1 hal h2 h) ?_
  intro p e s m args below meth c s₁ X0 hexec hbytes hml hret hlk hnm hown hh0 W hP
  obtain ⟨rfl, hx, hc, s1, hz⟩ := hP
  have c1 : Steps p.tables e below (s₁.setTop (entryFrame m #[.ref x] 1)) (s₁.setTop (mkF m 0 #[.val (.ref x)] [])) := entry rfl
  obtain ⟨T2, X2, q2, st2⟩ := X0.sget hexec hown (wk W (.fieldLink "java/lang/String" 38 "java/lang/String" "COMPACT_STRINGS" "Z")) s1 (fun _ _ h => by rw [hh0]; exact h) (g := (mkF m 0 #[.val (.ref x)] [])) rfl (hb hbytes d0)
  have hh2 := q2.trans hh0
  have c3 : Steps p.tables e below (s₁.setTop (entryFrame m #[.ref x] 1)) (T2.setTop (mkF m 7 #[.val (.ref x)] [.ref x])) := (c1.trans (st2 _ (Steps.refl _))).trans (by
    refine XS.ifNo X2.here hexec rfl (hb hbytes d3) rfl (i0_eq_f hz) ?_
    refine XS.aloadN X2.here hexec rfl (hb hbytes d6) rfl rfl ?_
    exact Steps.refl _)
  obtain ⟨T4, X4, q4, st4⟩ := X2.hget hexec hown (wk W (.fieldLink "java/lang/String" 15 "java/lang/String" "coder" "B")) (hx.mv X2.warmed.alike hh2) (g := (mkF m 7 #[.val (.ref x)] [.ref x])) rfl (rest := []) rfl (hb hbytes d7)
  have c5 : Steps p.tables e below (s₁.setTop (entryFrame m #[.ref x] 1)) (T4.setTop (mkF m 14 #[.val (.ref x)] [.int cd])) := (c3.trans (st4 _ (Steps.refl _))).trans (by
    refine XS.goto X4.here hexec rfl (pc0 := 10) rfl (hb hbytes d10) (by decide) rfl ?_
    exact Steps.refl _)
  exact ⟨T4, some (.int cd), _, _, _, X4, rfl, rfl, rfl, (fun h => by cases h), ⟨rfl, q4.trans hh2⟩, fun fs hl => c5.trans (X4.ireturnOut hexec hret (by rcases hc with rfl | rfl <;> rfl) (Or.inr (Or.inr (Or.inl rfl))) (hb hbytes d14) hl)⟩
end Cdr
namespace Len
def yN : MethodName := ⟨"java/lang/String", "length", "()I"⟩
abbrev yB : ByteArray := jdk_42_method_54_code
theorem d0 : decode yB 0 = .ok (.aload_n 0, 1) := by decide +kernel
theorem d1 : decode yB 1 = .ok (.getfield 9, 3) := by decide +kernel
theorem d4 : decode yB 4 = .ok (.arraylength, 1) := by decide +kernel
theorem d5 : decode yB 5 = .ok (.aload_n 0, 1) := by decide +kernel
theorem d6 : decode yB 6 = .ok (.invokevirtual 335, 3) := by decide +kernel
theorem d9 : decode yB 9 = .ok (.ishr, 1) := by decide +kernel
theorem d10 : decode yB 10 = .ok (.ireturn, 1) := by decide +kernel
def site : List Cond := [.fieldLink "java/lang/String" 9 "java/lang/String" "value" "[B", Cdr.tab] ++ virtW "java/lang/String" 335 "java/lang/String" Cdr.yN Cdr.yN
def tab : Cond := tabOf yN yB 1 (some .int) site
def P (x t : Addr) (V : Cell) (cd : Int32) (n : Nat) (f : Nat → Int32) (z : Int32) (args : Array Value) (s : State) : Prop := args = #[.ref x] ∧ Txt x t V cd n f s ∧ StaticIs s "java/lang/String" "COMPACT_STRINGS" "Z" (.int z) ∧ ¬ z = 0
def E (n : Nat) (r : Option Value) (s u : State) : Prop := XT.PureE (some (.int (Int32.ofNat n))) r s u
/-- length() of a String of n chars, in either coding -/
theorem law (l : Launch) (x t : Addr) (V : Cell) (cd : Int32) (n : Nat) (f : Nat → Int32) (z : Int32) : Law l yN 1 0 1 13 yB 1 (some .int) site (P x t V cd n f z) (E n) [] 0 0 := by
  refine Law.of_walk (plainFor_of_name (by decide +kernel)) (by decide +kernel) (by decide +kernel) (by decide) (fun _ _ h => by rw [h.1]; rfl) (fun _ U U' hal hh h => ⟨h.1, h.2.1.mv hal hh, h.2.2.1.there hal hh, h.2.2.2⟩) (fun r U U' V V' h1 hal h2 h => XT.PureE.mv r U U' V V' h1 hal h2 h) ?_
  intro p e s m args below meth c s₁ X0 hexec hbytes hml hret hlk hnm hown hh0 W hP
  obtain ⟨rfl, hx, s1, hz⟩ := hP
  have v31 := hx.2.2.2.1.2.2.2
  have c1 : Steps p.tables e below (s₁.setTop (entryFrame m #[.ref x] 1)) (s₁.setTop (mkF m 1 #[.val (.ref x)] [.ref x])) := Steps.trans (entry rfl) (by
    show Steps p.tables e below (s₁.setTop (mkF m 0 #[.val (.ref x)] [])) _
    refine XS.aloadN X0.here hexec rfl (hb hbytes d0) rfl rfl ?_
    exact Steps.refl _)
  obtain ⟨T2, X2, q2, st2⟩ := X0.hget hexec hown (wk W (.fieldLink "java/lang/String" 9 "java/lang/String" "value" "[B")) (hx.mv X0.warmed.alike hh0).2.1 (g := (mkF m 1 #[.val (.ref x)] [.ref x])) rfl (rest := []) rfl (hb hbytes d1)
  have hh2 := q2.trans hh0
  have hx2 := hx.mv X2.warmed.alike hh2
  have c3 : Steps p.tables e below (s₁.setTop (entryFrame m #[.ref x] 1)) (T2.setTop (mkF m 6 #[.val (.ref x)] [.ref x, .int (Int32.ofNat V.slots.size)])) := (c1.trans (st2 _ (Steps.refl _))).trans (by
    refine X2.alen hexec hx2.2.2.2.1 rfl rfl (hb hbytes d4) ?_
    refine XS.aloadN X2.here hexec rfl (hb hbytes d5) rfl rfl ?_
    exact Steps.refl _)
  obtain ⟨v4, T4, X4, E4, g4⟩ := X2.callV hexec (Cdr.law l x cd z) hown (wks W (virtW "java/lang/String" 335 "java/lang/String" Cdr.yN Cdr.yN)) rfl (by decide) (wk W Cdr.tab) (W := 1) (Nat.le_of_ble_eq_true rfl) (Nat.le_of_ble_eq_true rfl) (Nat.le_refl _) (Nat.le_refl _) (hx2.1.fc X2.warmed.alike) hx2.1.is (g := (mkF m 6 #[.val (.ref x)] [.ref x, .int (Int32.ofNat V.slots.size)])) rfl (by rw [hml]; rfl) c3 (argsL := []) (rest := [.int (Int32.ofNat V.slots.size)]) rfl rfl (by show 2 * 0 + (1 + 0) ≤ _; decide) (hb hbytes d6) (⟨rfl, hx2.2.2.1, hx.2.2.2.2.1.cd, s1.there X2.warmed.alike hh2, hz⟩)
  obtain ⟨rfl, q4⟩ := E4
  have c5 : Steps p.tables e below (s₁.setTop (entryFrame m #[.ref x] 1)) (T4.setTop (mkF m 10 #[.val (.ref x)] [.int (Int32.ofNat V.slots.size >>> (cd &&& 31))])) := Steps.trans g4 (by
    refine ishr X4.here hexec rfl (hb hbytes d9) rfl ?_
    exact Steps.refl _)
  rw [hx.2.2.2.2.1.len v31] at c5
  exact ⟨T4, some (.int (Int32.ofNat n)), _, _, _, X4, rfl, rfl, rfl, (fun h => by cases h), ⟨rfl, q4.trans hh2⟩, fun fs hl => c5.trans (X4.ireturnOut hexec hret rfl (Or.inl rfl) (hb hbytes d10) hl)⟩
theorem pays {l : Launch} {R : Room} {p : Program} {e : Env} {below : List Frame} {s : State} {sargs : Array Value} {len W : Nat} (x t : Addr) (V : Cell) (cd : Int32) (n : Nat) (f : Nat → Int32) (z : Int32) (htab : tab.before sargs s = true) (hfr : 2 ≤ R.frames) (hlo : W + 25 ≤ R.locals) :
    Back l R p e below s sargs yN len W (fun A₁ a₁ => A₁.cells + 0 ≤ R.cells ∧ A₁.slots + 0 ≤ R.slots ∧ P x t V cd n f z a₁ A₁.U) (fun A₁ _ v₁ B₁ => E n v₁ A₁.U B₁.U ∧ B₁.locs = A₁.locs ++ [] ∧ B₁.cells = A₁.cells + 0 ∧ B₁.slots = A₁.slots + 0) :=
  (law l x t V cd n f z).pays htab hfr (by omega)
end Len
namespace IsL
def yN : MethodName := ⟨"java/lang/String", "isLatin1", "()Z"⟩
abbrev yB : ByteArray := jdk_42_method_154_code
theorem d0 : decode yB 0 = .ok (.getstatic 38, 3) := by decide +kernel
theorem d3 : decode yB 3 = .ok (.ifCond (.eq) 14, 3) := by decide +kernel
theorem d6 : decode yB 6 = .ok (.aload_n 0, 1) := by decide +kernel
theorem d7 : decode yB 7 = .ok (.getfield 15, 3) := by decide +kernel
theorem d10 : decode yB 10 = .ok (.ifCond (.ne) 7, 3) := by decide +kernel
theorem d13 : decode yB 13 = .ok (.iconst 1, 1) := by decide +kernel
theorem d14 : decode yB 14 = .ok (.goto 4, 3) := by decide +kernel
theorem d17 : decode yB 17 = .ok (.iconst 0, 1) := by decide +kernel
theorem d18 : decode yB 18 = .ok (.ireturn, 1) := by decide +kernel
def site : List Cond := [.fieldLink "java/lang/String" 38 "java/lang/String" "COMPACT_STRINGS" "Z", .fieldLink "java/lang/String" 15 "java/lang/String" "coder" "B"]
def tab : Cond := tabOf yN yB 1 (some .boolean) site
def P (x : Addr) (cd z : Int32) (args : Array Value) (s : State) : Prop := args = #[.ref x] ∧ Has x "java/lang/String" "coder" "B" (.int cd) s ∧ (cd = 0 ∨ cd = 1) ∧ StaticIs s "java/lang/String" "COMPACT_STRINGS" "Z" (.int z) ∧ ¬ z = 0
def E (cd : Int32) (r : Option Value) (s u : State) : Prop := XT.PureE (some (.int (1 - cd))) r s u
theorem law (l : Launch) (x : Addr) (cd z : Int32) : Law l yN 1 0 0 0 yB 1 (some .boolean) site (P x cd z) (E cd) [] 0 0 := by
  refine Law.of_walk (plainFor_of_name (by decide +kernel)) (by decide +kernel) (by decide +kernel) (by decide) (fun _ _ h => by rw [h.1]; rfl) (fun _ U U' hal hh h => ⟨h.1, h.2.1.mv hal hh, h.2.2.1, h.2.2.2.1.there hal hh, h.2.2.2.2⟩) (fun r U U' V V' h1 hal h2 h => XT.PureE.mv r U U' V V' h1 hal h2 h) ?_
  intro p e s m args below meth c s₁ X0 hexec hbytes hml hret hlk hnm hown hh0 W hP
  obtain ⟨rfl, hx, hc, s1, hz⟩ := hP
  have c1 : Steps p.tables e below (s₁.setTop (entryFrame m #[.ref x] 1)) (s₁.setTop (mkF m 0 #[.val (.ref x)] [])) := entry rfl
  obtain ⟨T2, X2, q2, st2⟩ := X0.sget hexec hown (wk W (.fieldLink "java/lang/String" 38 "java/lang/String" "COMPACT_STRINGS" "Z")) s1 (fun _ _ h => by rw [hh0]; exact h) (g := (mkF m 0 #[.val (.ref x)] [])) rfl (hb hbytes d0)
  have hh2 := q2.trans hh0
  have c3 : Steps p.tables e below (s₁.setTop (entryFrame m #[.ref x] 1)) (T2.setTop (mkF m 7 #[.val (.ref x)] [.ref x])) := (c1.trans (st2 _ (Steps.refl _))).trans (by
    refine XS.ifNo X2.here hexec rfl (hb hbytes d3) rfl (i0_eq_f hz) ?_
    refine XS.aloadN X2.here hexec rfl (hb hbytes d6) rfl rfl ?_
    exact Steps.refl _)
  obtain ⟨T4, X4, q4, st4⟩ := X2.hget hexec hown (wk W (.fieldLink "java/lang/String" 15 "java/lang/String" "coder" "B")) (hx.mv X2.warmed.alike hh2) (g := (mkF m 7 #[.val (.ref x)] [.ref x])) rfl (rest := []) rfl (hb hbytes d7)
  have c5 : Steps p.tables e below (s₁.setTop (entryFrame m #[.ref x] 1)) (T4.setTop (mkF m 10 #[.val (.ref x)] [.int cd])) := c3.trans (st4 _ (Steps.refl _))
  have c6 : Steps p.tables e below (s₁.setTop (entryFrame m #[.ref x] 1)) (T4.setTop (mkF m 18 #[.val (.ref x)] [.int (1 - cd)])) := by
    rcases hc with rfl | rfl
    · exact c5.trans (by
        refine XS.ifNo X4.here hexec rfl (hb hbytes d10) rfl (i0_ne_f rfl) ?_
        refine iconstV X4.here hexec rfl 1 (hb hbytes d13) (by decide) ?_
        refine XS.goto X4.here hexec rfl (pc0 := 14) rfl (hb hbytes d14) (by decide) rfl ?_
        exact Steps.refl _)
    · exact c5.trans (by
        refine XS.ifYes X4.here hexec rfl (pc0 := 10) rfl (hb hbytes d10) rfl (i0_ne_t (by decide)) (by decide) rfl ?_
        refine iconstV X4.here hexec rfl 0 (hb hbytes d17) (by decide) ?_
        exact Steps.refl _)
  exact ⟨T4, some (.int (1 - cd)), _, _, _, X4, rfl, rfl, rfl, (fun h => by cases h), ⟨rfl, q4.trans hh2⟩, fun fs hl => c6.trans (X4.ireturnOut hexec hret (by rcases hc with rfl | rfl <;> rfl) (Or.inr (Or.inl rfl)) (hb hbytes d18) hl)⟩
end IsL
namespace LChA
def yN : MethodName := ⟨"java/lang/StringLatin1", "charAt", "([BI)C"⟩
abbrev yB : ByteArray := jdk_43_method_2_code
theorem d0 : decode yB 0 = .ok (.iload_n 1, 1) := by decide +kernel
theorem d1 : decode yB 1 = .ok (.aload_n 0, 1) := by decide +kernel
theorem d2 : decode yB 2 = .ok (.arraylength, 1) := by decide +kernel
theorem d3 : decode yB 3 = .ok (.invokestatic 9, 3) := by decide +kernel
theorem d6 : decode yB 6 = .ok (.aload_n 0, 1) := by decide +kernel
theorem d7 : decode yB 7 = .ok (.iload_n 1, 1) := by decide +kernel
theorem d8 : decode yB 8 = .ok (.baload, 1) := by decide +kernel
theorem d9 : decode yB 9 = .ok (.sipush 255, 3) := by decide +kernel
theorem d12 : decode yB 12 = .ok (.iand, 1) := by decide +kernel
theorem d13 : decode yB 13 = .ok (.i2c, 1) := by decide +kernel
theorem d14 : decode yB 14 = .ok (.ireturn, 1) := by decide +kernel
def site : List Cond := [JO.Str_checkIndex.tab] ++ staticW "java/lang/StringLatin1" 9 JO.Str_checkIndex.yN
def tab : Cond := tabOf yN yB 2 (some .char) site
def P (t : Addr) (V : Cell) (i : Nat) (u : Int32) (fm : Value) (args : Array Value) (s : State) : Prop := args = #[.ref t, .int (Int32.ofNat i)] ∧ XT.Arr .byte t V s ∧ V.slots[i]? = some (.int u) ∧ (StaticIs s "jdk/internal/util/Preconditions" "SIOOBE_FORMATTER" "Ljava/util/function/BiFunction;" fm ∧ fm.isRef = true)
def E (u : Int32) (r : Option Value) (s w : State) : Prop := XT.PureE (some (.int (chr8 u))) r s w
theorem law (l : Launch) (t : Addr) (V : Cell) (i : Nat) (u : Int32) (fm : Value) : Law l yN 2 2 2 27 yB 2 (some .char) site (P t V i u fm) (E u) [] 0 0 := by
  refine Law.of_walk (plainFor_of_name (by decide +kernel)) (by decide +kernel) (by decide +kernel) (by decide) (fun _ _ h => by rw [h.1]; rfl) (fun _ U U' hal hh h => ⟨h.1, h.2.1.mv hal hh, h.2.2.1, h.2.2.2.1.there hal hh, h.2.2.2.2⟩) (fun r U U' V V' h1 hal h2 h => XT.PureE.mv r U U' V V' h1 hal h2 h) ?_
  intro p e s m args below meth c s₁ X0 hexec hbytes hml hret hlk hnm hown hh0 W hP
  obtain ⟨rfl, hV, hu, s1, rf⟩ := hP
  have v31 := hV.2.2.2
  have hi : i < V.slots.size := (Array.getElem?_eq_some_iff.mp hu).1
  have c1 : Steps p.tables e below (s₁.setTop (entryFrame m #[.ref t, .int (Int32.ofNat i)] 2)) (s₁.setTop (mkF m 0 #[.val (.ref t), .val (.int (Int32.ofNat i))] [])) := entry rfl
  have c2 : Steps p.tables e below (s₁.setTop (entryFrame m #[.ref t, .int (Int32.ofNat i)] 2)) (s₁.setTop (mkF m 3 #[.val (.ref t), .val (.int (Int32.ofNat i))] [.int (Int32.ofNat V.slots.size), .int (Int32.ofNat i)])) := c1.trans (by
    refine XS.iloadN X0.here hexec rfl (hb hbytes d0) rfl ?_
    refine XS.aloadN X0.here hexec rfl (hb hbytes d1) rfl rfl ?_
    refine X0.alen hexec (hV.mv X0.warmed.alike hh0) rfl rfl (hb hbytes d2) ?_
    exact Steps.refl _)
  obtain ⟨v3, T3, X3, E3, g3⟩ := X0.callS hexec (JO.Str_checkIndex.law l (Int32.ofNat i) (Int32.ofNat V.slots.size) fm) hown (wks W (staticW "java/lang/StringLatin1" 9 JO.Str_checkIndex.yN)) (wk W JO.Str_checkIndex.tab) (W := 0) (Nat.le_of_ble_eq_true rfl) (Nat.le_of_ble_eq_true rfl) (Nat.le_refl _) (Nat.le_refl _) (g := (mkF m 3 #[.val (.ref t), .val (.int (Int32.ofNat i))] [.int (Int32.ofNat V.slots.size), .int (Int32.ofNat i)])) rfl (by rw [hml]; rfl) c2 (argsL := [.int (Int32.ofNat i), .int (Int32.ofNat V.slots.size)]) (rest := []) rfl rfl (by show 2 * 0 + 0 ≤ _; decide) (hb hbytes d3) (⟨rfl, rf, s1.there X0.warmed.alike hh0, Int32.ofNat_not_neg (by omega), lt32 v31 hi⟩)
  obtain ⟨rfl, q3⟩ := E3
  have hh3 := q3.trans hh0
  have c4 : Steps p.tables e below (s₁.setTop (entryFrame m #[.ref t, .int (Int32.ofNat i)] 2)) (T3.setTop (mkF m 14 #[.val (.ref t), .val (.int (Int32.ofNat i))] [.int (chr8 u)])) := Steps.trans g3 (by
    refine XS.aloadN X3.here hexec rfl (hb hbytes d6) rfl rfl ?_
    refine XS.iloadN X3.here hexec rfl (hb hbytes d7) rfl ?_
    refine X3.aget hexec (hV.mv X3.warmed.alike hh3) rfl hu rfl rfl (hb hbytes d8) ?_
    refine sipushV X3.here hexec rfl 255 (hb hbytes d9) (by decide) ?_
    refine XS.iand X3.here hexec rfl (hb hbytes d12) rfl ?_
    refine i2c X3.here hexec rfl (hb hbytes d13) rfl ?_
    exact Steps.refl _)
  exact ⟨T3, some (.int (chr8 u)), _, _, _, X3, rfl, rfl, rfl, (fun h => by cases h), ⟨rfl, hh3⟩, fun fs hl => c4.trans (X3.ireturnOut hexec hret (narrow_c _) (Or.inr (Or.inr (Or.inr (Or.inl rfl)))) (hb hbytes d14) hl)⟩
end LChA
end StrChars
namespace StrChars.Road
open Jvm Sem ClassFile Op Lib Jvm.Stand Jvm.Free Jvm.Free.XT
open Jvm.Lib.Cold (StaticIs)
theorem consq {a : Array Value} {s : State} {c : Jvm.Cond} {L : List Jvm.Cond} (h0 : c.before a s = true) (h : ∀ w ∈ L, w.before a s = true) : ∀ w ∈ c :: L, w.before a s = true := fun w hw => (List.mem_cons.mp hw).elim (fun e => e ▸ h0) (h w)
/-- the words of String.length(), either coding -/
abbrev wordsLen : List Jvm.Cond := [.code Len.yN Len.yB 1 (some .int), .initialized ST, .fieldLink ST 9 ST "value" "[B", .fieldLink ST 38 ST "COMPACT_STRINGS" "Z", .fieldLink ST 15 ST "coder" "B", .code Cdr.yN Cdr.yB 1 (some .byte), .methodLink ST 335 Cdr.yN, .declares Cdr.yN, .selects ST Cdr.yN Cdr.yN, .instanceMethod Cdr.yN]
theorem tabLen_of {a : Array Value} {s : State} (h : ∀ w ∈ wordsLen, w.before a s = true) : Len.tab.before a s = true := by
  have hc : Cdr.tab.before a s = true := unparts (wk h (.code Cdr.yN Cdr.yB 1 (some .byte))) (wks h (.initialized Cdr.yN.cls :: Cdr.site))
  have q := consq hc h
  exact unparts (wk q (.code Len.yN Len.yB 1 (some .int))) (wks q (.initialized Len.yN.cls :: Len.site))
theorem movedLen {Z s : State} {a0 args : Array Value} (hZ : Z.Warmed39 s.vm) (hw : ∀ d ∈ wordsLen, d.before a0 Z = true) : ∀ d ∈ wordsLen, d.before args s = true := fun d hd => by
  have q := hw d hd
  have t : ∀ d ∈ wordsLen, d = .arrayClass .byte ∨ (d.onTables && d.keepsFace) = true := by decide +kernel
  rcases t d hd with rfl | t
  · exact RoadKit.mvA hZ q
  · exact RoadKit.mv hZ q t
/-- the bytes of the chars cs, low before high -/
def wideBytes : List Int32 → List Value
  | [] => []
  | c :: cs => .int (lo8 c) :: .int (hi8 c) :: wideBytes cs
theorem wide_lo (d : Value) : ∀ (cs : List Int32) (j : Nat), j < cs.length → (wideBytes cs).getD (2 * j) d = .int (lo8 (cs.getD j 0))
  | [], j, h => absurd h (Nat.not_lt_zero j)
  | c :: cs, 0, _ => rfl
  | c :: cs, j + 1, h => by
    have q := wide_lo d cs j (by simpa using h)
    rw [show 2 * (j + 1) = 2 * j + 1 + 1 from by omega]
    simpa [wideBytes] using q
theorem wide_hi (d : Value) : ∀ (cs : List Int32) (j : Nat), j < cs.length → (wideBytes cs).getD (2 * j + 1) d = .int (hi8 (cs.getD j 0))
  | [], j, h => absurd h (Nat.not_lt_zero j)
  | c :: cs, 0, _ => rfl
  | c :: cs, j + 1, h => by
    have q := wide_hi d cs j (by simpa using h)
    rw [show 2 * (j + 1) + 1 = 2 * j + 1 + 1 + 1 from by omega]
    simpa [wideBytes] using q
theorem low_at (d : Value) (cs : List Int32) (j : Nat) (h : j < cs.length) : (cs.map fun c => Value.int (lo8 c)).getD j d = .int (lo8 (cs.getD j 0)) := by
  simp [List.getD_eq_getElem?_getD, h]
/-- an array of N2 bytes vs codes the chars cs by the coder cd -/
def CodA (cs : List Int32) (cd N2 : Int32) (vs : List Value) : Prop := (cd = 0 ∧ N2 = Int32.ofNat cs.length ∧ vs = (cs.map fun c => Value.int (lo8 c)) ∧ ∀ c ∈ cs, ¬ 255 < c) ∨ (cd = 1 ∧ N2 = Int32.ofNat (2 * cs.length) ∧ vs = wideBytes cs ∧ ∃ c ∈ cs, 255 < c)
theorem CodA.cod {cs : List Int32} {cd N2 : Int32} {vs : List Value} {V : Cell} (h : CodA cs cd N2 vs) (hn : 2 * cs.length < 2 ^ 31) (hs : V.slots.size = N2.toNatClampNeg) (hv : RoadKit.Has V vs (.int 0)) : Cod cd cs.length (fun j => cs.getD j 0) V := by
  rcases h with ⟨rfl, rfl, rfl, h⟩ | ⟨rfl, rfl, rfl, c, hc, hw⟩
  · rw [n32 (by omega)] at hs
    exact Or.inl ⟨rfl, hs, fun j hj => ⟨by rw [hv j (by omega), low_at _ _ _ hj], by
      have e : cs.getD j 0 = cs[j] := by simp [List.getD_eq_getElem?_getD, hj]
      show ¬ 255 < cs.getD j 0
      rw [e]; exact h _ (List.getElem_mem _)⟩⟩
  · rw [n32 (by omega)] at hs
    obtain ⟨j, hj, rfl⟩ := List.getElem_of_mem hc
    exact Or.inr ⟨rfl, hs, fun j hj => ⟨by rw [hv _ (by omega), wide_lo _ _ _ hj], by rw [hv _ (by omega), wide_hi _ _ _ hj]⟩, j, hj, by
      have e : cs.getD j 0 = cs[j] := by simp [List.getD_eq_getElem?_getD, hj]
      show 255 < cs.getD j 0
      rw [e]; exact hw⟩
/-- an object of exactly java/lang/String, its two fields found: as the laws ask it -/
theorem strObj {Z U : State} {a0 : Array Value} {kI : Nat} (wi : (Jvm.Cond.instantiable ST kI).before a0 Z = true) (al : Z.vm.Alike U.vm) {x : Addr} {v0 c0 : Value} (E : RoadKit.Exa Z U.heap x ST) (V : RoadKit.Fld Z U.heap x ST "value" "[B" v0) (C : RoadKit.Fld Z U.heap x ST "coder" "B" c0) :
    ∃ (D : Cell) (fV fC : Field), Blank ST x D U ∧ Found ST "value" "[B" fV U ∧ Found ST "coder" "B" fC U ∧ D.slots[fV.slot]? = some v0 ∧ D.slots[fC.slot]? = some c0 ∧ RoadKit.slotOf Z ST "value" "[B" = fV.slot ∧ RoadKit.slotOf Z ST "coder" "B" = fC.slot := by
  obtain ⟨D, cfV, kV, iV, fV, hD, gV, stV, knV, obV, asV, slV⟩ := V
  obtain ⟨D', cfC, kC, iC, fC, hD', gC, stC, -, -, asC, slC⟩ := C
  cases hD.symm.trans hD'
  obtain ⟨D2, kD, e1, e2, e3, e4, e5⟩ := E
  cases hD.symm.trans e1
  obtain ⟨c2, k2, i1, i2, i3, -⟩ := Cond.instantiable_spec wi
  cases e2.symm.trans i1
  cases e3.symm.trans i2
  obtain ⟨kU, u1, u2⟩ := al.2.2 _ _ e3
  exact ⟨D, fV, fC, ⟨hD, ⟨knV, fun q hq => by rw [hq] at obV; cases obV⟩, by rw [al.findClass]; exact e2, kU, u1, by rw [u2]; exact i3, by rw [u2]; exact e5 i3⟩, ⟨SBG.found_only al ⟨cfV, kV, iV, gV⟩, stV⟩, ⟨SBG.found_only al ⟨cfC, kC, iC, gC⟩, stC⟩, slV, slC, by simp [RoadKit.slotOf, gV], by simp [RoadKit.slotOf, gC]⟩
theorem sta_is {Z U : State} (al : Z.vm.Alike U.vm) {C n d : String} {v : Value} (S : RoadKit.Sta Z U.heap C n d v) : StaticIs U C n d v := by
  obtain ⟨cfS, iS, kS, fS, st, cS, t1, t2, t3, t4, t5, t6, t7⟩ := S
  exact StaticIs.there (s := { Z with heap := U.heap }) ⟨cfS, iS, kS, fS, st, cS, t1, t2, t3, t4, t5, (fun q => by rw [q] at t6; cases t6), t7⟩ al rfl
/-- **length() OF SUCH A STRING** -/
theorem lenW {p : Program} {l : Launch} {e : Env} {R : Room} {s : State} {args : Array Value} {below : List Frame} {len W : Nat} {Z : State} {a0 : Array Value} {h : Heap} (hZ : Z.Warmed39 s.vm) (hw : ∀ d ∈ wordsLen, d.before a0 Z = true) {kI : Nat} (wi : (Jvm.Cond.instantiable ST kI).before a0 Z = true)
    {x t : Addr} {kb : ClassId} {cs : List Int32} {cd N2 z : Int32} {vs : List Value} (E : RoadKit.Exa Z h x ST) (V : RoadKit.Fld Z h x ST "value" "[B" (.ref t)) (C : RoadKit.Fld Z h x ST "coder" "B" (.int cd)) (K : RoadKit.Arv Z h t kb .byte N2 vs (.int 0)) (hc : CodA cs cd N2 vs) (hb : ∀ c ∈ cs, ¬ c < 0 ∧ ¬ (65535 : Int32) < c)
    (S : RoadKit.Sta Z h ST "COMPACT_STRINGS" "Z" (.int z)) (hz : ¬ z = 0) (l2 : cs.length ≤ 4000) (hfr : 2 ≤ R.frames) (hlo : W + 25 ≤ R.locals) :
    Back l R p e below s args (⟨"java/lang/String", "length", "()I"⟩ : MethodName) len W (fun P a => a = #[.ref x] ∧ P.U.heap = h ∧ P.cells + 0 ≤ R.cells ∧ P.slots + 0 ≤ R.slots)
      (fun P _ v B => ∃ L, (v = some (.int (Int32.ofNat cs.length)) ∧ L = [] ∧ B.U.heap = h) ∧ B.locs = P.locs ++ L ∧ B.cells = P.cells + 0 ∧ B.slots = P.slots + 0) := by
  obtain ⟨A, K1, K2, K3, K4, K5, K6⟩ := K
  have hcod := hc.cod (by omega) K3 K5
  intro m meth c P g ig mk a X hg hsize hdg hW hn hp'
  obtain ⟨rfl, rfl, r1, r2⟩ := hp'
  have al : Z.vm.Alike P.U.vm := hZ.alike.trans X.warmed.alike
  obtain ⟨D, fV, fC, hB, F1, F2, g1, g2, -, -⟩ := strObj wi al E V C
  have hx : Txt x t A cd cs.length (fun j => cs.getD j 0) P.U := ⟨⟨_, hB.2.2.1, D, hB.1, rfl, by cases q : D.vm <;> first | rfl | exact absurd q (hB.2.1.2 _)⟩, Has.of hB F1 g1, Has.of hB F2 g2, ⟨K1.1, State.isArrayOf_alike al K1.2.1, K1.2.2, by rcases hcod with ⟨-, q, -⟩ | ⟨-, q, -⟩ <;> omega⟩, hcod, fun j hj => by
    have e : cs.getD j 0 = cs[j] := by simp [List.getD_eq_getElem?_getD, hj]
    show ¬ cs.getD j 0 < 0 ∧ ¬ 65535 < cs.getD j 0
    rw [e]; exact hb _ (List.getElem_mem _)⟩
  obtain ⟨v, B, X', ⟨⟨hv, hh⟩, hl, hk, hs⟩, st⟩ := Len.pays x t A cd cs.length (fun j => cs.getD j 0) z (tabLen_of (movedLen hZ hw)) hfr hlo m meth c P g ig mk _ X hg hsize hdg hW hn ⟨r1, r2, rfl, hx, sta_is al S, hz⟩
  exact ⟨v, B, X', ⟨[], ⟨hv, rfl, hh⟩, hl, hk, hs⟩, st⟩
end StrChars.Road
namespace StrChars.Road
open Jvm Sem ClassFile Op Lib Jvm.Stand Jvm.Free Jvm.Free.XT
open Jvm.Lib.Cold (StaticIs)
/-- the road's facts of a String, as the laws ask it -/
theorem txt_of {Z U : State} {a0 : Array Value} {kI : Nat} (wi : (Jvm.Cond.instantiable ST kI).before a0 Z = true) (al : Z.vm.Alike U.vm) {x t : Addr} {kb : ClassId} {cs : List Int32} {cd N2 : Int32} {vs : List Value} (E : RoadKit.Exa Z U.heap x ST) (V : RoadKit.Fld Z U.heap x ST "value" "[B" (.ref t)) (C : RoadKit.Fld Z U.heap x ST "coder" "B" (.int cd)) (K : RoadKit.Arv Z U.heap t kb .byte N2 vs (.int 0)) (hc : CodA cs cd N2 vs) (hb : ∀ c ∈ cs, ¬ c < 0 ∧ ¬ (65535 : Int32) < c) (l2 : cs.length ≤ 4000) :
    ∃ A, Txt x t A cd cs.length (fun j => cs.getD j 0) U := by
  obtain ⟨A, K1, K2, K3, K4, K5, K6⟩ := K
  have hcod := hc.cod (by omega) K3 K5
  obtain ⟨D, fV, fC, hB, F1, F2, g1, g2, -, -⟩ := strObj wi al E V C
  exact ⟨A, ⟨_, hB.2.2.1, D, hB.1, rfl, by cases q : D.vm <;> first | rfl | exact absurd q (hB.2.1.2 _)⟩, Has.of hB F1 g1, Has.of hB F2 g2, ⟨K1.1, State.isArrayOf_alike al K1.2.1, K1.2.2, by rcases hcod with ⟨-, q, -⟩ | ⟨-, q, -⟩ <;> omega⟩, hcod, fun j hj => by
    have e : cs.getD j 0 = cs[j] := by simp [List.getD_eq_getElem?_getD, hj]
    show ¬ cs.getD j 0 < 0 ∧ ¬ 65535 < cs.getD j 0
    rw [e]; exact hb _ (List.getElem_mem _)⟩
end StrChars.Road
namespace StrChars
open Jvm Sem ClassFile Op Lib Jvm.Stand Jvm.Free.XT Jvm.Free.ALB Jvm.Free.JM Jvm.Free
open Jvm.Lib.Cold (StaticIs)
namespace ChN
def yN : MethodName := ⟨"java/lang/String", "charAt", "(I)C"⟩
abbrev yB : ByteArray := jdk_42_method_56_code
theorem d0 : decode yB 0 = .ok (.aload_n 0, 1) := by decide +kernel
theorem d1 : decode yB 1 = .ok (.invokevirtual 492, 3) := by decide +kernel
theorem d4 : decode yB 4 = .ok (.ifCond (.eq) 12, 3) := by decide +kernel
theorem d7 : decode yB 7 = .ok (.aload_n 0, 1) := by decide +kernel
theorem d8 : decode yB 8 = .ok (.getfield 9, 3) := by decide +kernel
theorem d11 : decode yB 11 = .ok (.iload_n 1, 1) := by decide +kernel
theorem d12 : decode yB 12 = .ok (.invokestatic 495, 3) := by decide +kernel
theorem d15 : decode yB 15 = .ok (.ireturn, 1) := by decide +kernel
def site : List Cond := [.fieldLink "java/lang/String" 9 "java/lang/String" "value" "[B", IsL.tab, LChA.tab] ++ virtW "java/lang/String" 492 "java/lang/String" IsL.yN IsL.yN ++ staticW "java/lang/String" 495 LChA.yN
def tab : Cond := tabOf yN yB 2 (some .char) site
def P (x t : Addr) (V : Cell) (n : Nat) (f : Nat → Int32) (z : Int32) (fm : Value) (i : Nat) (args : Array Value) (s : State) : Prop := args = #[.ref x, .int (Int32.ofNat i)] ∧ Txt x t V 0 n f s ∧ i < n ∧ StaticIs s "java/lang/String" "COMPACT_STRINGS" "Z" (.int z) ∧ ¬ z = 0 ∧ StaticIs s "jdk/internal/util/Preconditions" "SIOOBE_FORMATTER" "Ljava/util/function/BiFunction;" fm ∧ fm.isRef = true
def E (f : Nat → Int32) (i : Nat) (r : Option Value) (s u : State) : Prop := XT.PureE (some (.int (f i))) r s u
/-- charAt(i) of a Latin-1 String of n chars, i < n: f i -/
theorem law (l : Launch) (x t : Addr) (V : Cell) (n : Nat) (f : Nat → Int32) (z : Int32) (fm : Value) (i : Nat) : Law l yN 2 1 3 40 yB 2 (some .char) site (P x t V n f z fm i) (E f i) [] 0 0 := by
  refine Law.of_walk (plainFor_of_name (by decide +kernel)) (by decide +kernel) (by decide +kernel) (by decide) (fun _ _ h => by rw [h.1]; rfl) (fun _ U U' hal hh h => ⟨h.1, h.2.1.mv hal hh, h.2.2.1, h.2.2.2.1.there hal hh, h.2.2.2.2.1, h.2.2.2.2.2.1.there hal hh, h.2.2.2.2.2.2⟩) (fun r U U' V V' h1 hal h2 h => XT.PureE.mv r U U' V V' h1 hal h2 h) ?_
  intro p e s m args below meth c s₁ X0 hexec hbytes hml hret hlk hnm hown hh0 W hP
  obtain ⟨rfl, hx, hi, s1, hz, s3, rf⟩ := hP
  have v31 := hx.2.2.2.1.2.2.2
  have hr := hx.2.2.2.2.2 i hi
  have hx0 := hx.mv X0.warmed.alike hh0
  have c1 : Steps p.tables e below (s₁.setTop (entryFrame m #[.ref x, .int (Int32.ofNat i)] 2)) (s₁.setTop (mkF m 1 #[.val (.ref x), .val (.int (Int32.ofNat i))] [.ref x])) := Steps.trans (entry rfl) (by
    show Steps p.tables e below (s₁.setTop (mkF m 0 #[.val (.ref x), .val (.int (Int32.ofNat i))] [])) _
    refine XS.aloadN X0.here hexec rfl (hb hbytes d0) rfl rfl ?_
    exact Steps.refl _)
  obtain ⟨v2, T2, X2, E2, g2⟩ := X0.callV hexec (IsL.law l x 0 z) hown (wks W (virtW "java/lang/String" 492 "java/lang/String" IsL.yN IsL.yN)) rfl (by decide) (wk W IsL.tab) (W := 0) (Nat.le_of_ble_eq_true rfl) (Nat.le_of_ble_eq_true rfl) (Nat.le_refl _) (Nat.le_refl _) (hx0.1.fc X0.warmed.alike) hx0.1.is (g := (mkF m 1 #[.val (.ref x), .val (.int (Int32.ofNat i))] [.ref x])) rfl (by rw [hml]; rfl) c1 (argsL := []) (rest := []) rfl rfl (by show 2 * 0 + 0 ≤ _; decide) (hb hbytes d1) (⟨rfl, hx0.2.2.1, hx.2.2.2.2.1.cd, s1.there X0.warmed.alike hh0, hz⟩)
  obtain ⟨rfl, q2⟩ := E2
  have hh2 := q2.trans hh0
  have hx2 := hx.mv X2.warmed.alike hh2
  obtain ⟨-, k1, k2⟩ | ⟨k0, -⟩ := hx.2.2.2.2.1
  · have c3 : Steps p.tables e below (s₁.setTop (entryFrame m #[.ref x, .int (Int32.ofNat i)] 2)) (T2.setTop (mkF m 8 #[.val (.ref x), .val (.int (Int32.ofNat i))] [.ref x])) := Steps.trans g2 (by
      refine XS.ifNo X2.here hexec rfl (hb hbytes d4) rfl (i0_eq_f (by decide)) ?_
      refine XS.aloadN X2.here hexec rfl (hb hbytes d7) rfl rfl ?_
      exact Steps.refl _)
    obtain ⟨T4, X4, q4, st4⟩ := X2.hget hexec hown (wk W (.fieldLink "java/lang/String" 9 "java/lang/String" "value" "[B")) hx2.2.1 (g := (mkF m 8 #[.val (.ref x), .val (.int (Int32.ofNat i))] [.ref x])) rfl (rest := []) rfl (hb hbytes d8)
    have hh4 := q4.trans hh2
    have c5 : Steps p.tables e below (s₁.setTop (entryFrame m #[.ref x, .int (Int32.ofNat i)] 2)) (T4.setTop (mkF m 12 #[.val (.ref x), .val (.int (Int32.ofNat i))] [.int (Int32.ofNat i), .ref t])) := (c3.trans (st4 _ (Steps.refl _))).trans (by
      refine XS.iloadN X4.here hexec rfl (hb hbytes d11) rfl ?_
      exact Steps.refl _)
    obtain ⟨v6, T6, X6, E6, g6⟩ := X4.callS hexec (LChA.law l t V i (lo8 (f i)) fm) hown (wks W (staticW "java/lang/String" 495 LChA.yN)) (wk W LChA.tab) (W := 0) (Nat.le_of_ble_eq_true rfl) (Nat.le_of_ble_eq_true rfl) (Nat.le_refl _) (Nat.le_refl _) (g := (mkF m 12 #[.val (.ref x), .val (.int (Int32.ofNat i))] [.int (Int32.ofNat i), .ref t])) rfl (by rw [hml]; rfl) c5 (argsL := [.ref t, .int (Int32.ofNat i)]) (rest := []) rfl rfl (by show 2 * 0 + 0 ≤ _; decide) (hb hbytes d12) (⟨rfl, hx.2.2.2.1.mv X4.warmed.alike hh4, (k2 i hi).1, s3.there X4.warmed.alike hh4, rf⟩)
    obtain ⟨rfl, q6⟩ := E6
    rw [chr8_lo8 hr.1 (k2 i hi).2] at g6
    exact ⟨T6, some (.int (f i)), _, _, _, X6, rfl, rfl, rfl, (fun h => by cases h), ⟨rfl, q6.trans hh4⟩, fun fs hl => Steps.trans g6 (X6.ireturnOut hexec hret (narrow_ch hr.1 hr.2) (Or.inr (Or.inr (Or.inr (Or.inl rfl)))) (hb hbytes d15) hl)⟩
  · exact absurd k0 (by decide)
theorem pays {l : Launch} {R : Room} {p : Program} {e : Env} {below : List Frame} {s : State} {sargs : Array Value} {len W : Nat} (x t : Addr) (V : Cell) (n : Nat) (f : Nat → Int32) (z : Int32) (fm : Value) (i : Nat) (htab : tab.before sargs s = true) (hfr : 4 ≤ R.frames) (hlo : W + 53 ≤ R.locals) :
    Back l R p e below s sargs yN len W (fun A₁ a₁ => A₁.cells + 0 ≤ R.cells ∧ A₁.slots + 0 ≤ R.slots ∧ P x t V n f z fm i a₁ A₁.U) (fun A₁ _ v₁ B₁ => E f i v₁ A₁.U B₁.U ∧ B₁.locs = A₁.locs ++ [] ∧ B₁.cells = A₁.cells + 0 ∧ B₁.slots = A₁.slots + 0) :=
  (law l x t V n f z fm i).pays htab hfr (by omega)
end ChN
end StrChars
namespace StrChars.Road
open Jvm Sem ClassFile Op Lib Jvm.Stand Jvm.Free Jvm.Free.XT
open Jvm.Lib.Cold (StaticIs)
/-- the words of String.charAt(int), the Latin-1 road alone -/
abbrev wordsChN : List Jvm.Cond := [.code ChN.yN ChN.yB 2 (some .char), .initialized ST, .fieldLink ST 9 ST "value" "[B", .fieldLink ST 38 ST "COMPACT_STRINGS" "Z", .fieldLink ST 15 ST "coder" "B", .code IsL.yN IsL.yB 1 (some .boolean), .methodLink ST 492 IsL.yN, .declares IsL.yN, .selects ST IsL.yN IsL.yN, .instanceMethod IsL.yN,
  .methodLink ST 495 LChA.yN, .static LChA.yN, .code LChA.yN LChA.yB 2 (some .char), .initialized "java/lang/StringLatin1", .methodLink "java/lang/StringLatin1" 9 JO.Str_checkIndex.yN, .static JO.Str_checkIndex.yN, .code JO.Str_checkIndex.yN JO.Str_checkIndex.yB 2 none,
  .fieldLink ST 1053 "jdk/internal/util/Preconditions" "SIOOBE_FORMATTER" "Ljava/util/function/BiFunction;", .methodLink ST 1059 JC.PreCheck.yN, .static JC.PreCheck.yN, .code JC.PreCheck.yN JC.PreCheck.yB 3 (some .int), .initialized "jdk/internal/util/Preconditions"]
theorem tabChN_of {a : Array Value} {s : State} (h : ∀ w ∈ wordsChN, w.before a s = true) : ChN.tab.before a s = true := by
  have hp : JC.PreCheck.tab.before a s = true := unparts (wk h (.code JC.PreCheck.yN JC.PreCheck.yB 3 (some .int))) (wks h (.initialized JC.PreCheck.yN.cls :: JC.PreCheck.site))
  have qk := consq hp h
  have hk : JO.Str_checkIndex.tab.before a s = true := unparts (wk qk (.code JO.Str_checkIndex.yN JO.Str_checkIndex.yB 2 none)) (wks qk (.initialized JO.Str_checkIndex.yN.cls :: JO.Str_checkIndex.site))
  have ql := consq hk h
  have hl : LChA.tab.before a s = true := unparts (wk ql (.code LChA.yN LChA.yB 2 (some .char))) (wks ql (.initialized LChA.yN.cls :: LChA.site))
  have hi : IsL.tab.before a s = true := unparts (wk h (.code IsL.yN IsL.yB 1 (some .boolean))) (wks h (.initialized IsL.yN.cls :: IsL.site))
  have q := consq hi (consq hl h)
  exact unparts (wk q (.code ChN.yN ChN.yB 2 (some .char))) (wks q (.initialized ChN.yN.cls :: ChN.site))
theorem movedChN {Z s : State} {a0 args : Array Value} (hZ : Z.Warmed39 s.vm) (hw : ∀ d ∈ wordsChN, d.before a0 Z = true) : ∀ d ∈ wordsChN, d.before args s = true := fun d hd => by
  have t : ∀ d ∈ wordsChN, (d.onTables && d.keepsFace) = true := by decide +kernel
  exact RoadKit.mv hZ (hw d hd) (t d hd)
/-- **charAt(i) OF A LATIN-1 STRING**, i < n: the char -/
theorem chN {p : Program} {l : Launch} {e : Env} {R : Room} {s : State} {args : Array Value} {below : List Frame} {len W : Nat} {Z : State} {a0 : Array Value} {h : Heap} (hZ : Z.Warmed39 s.vm) (hw : ∀ d ∈ wordsChN, d.before a0 Z = true) {kI : Nat} (wi : (Jvm.Cond.instantiable ST kI).before a0 Z = true)
    {x t : Addr} {kb : ClassId} {cs : List Int32} {N2 z : Int32} {vs : List Value} {fm : Value} {i : Nat} {j : Int32} (E : RoadKit.Exa Z h x ST) (V : RoadKit.Fld Z h x ST "value" "[B" (.ref t)) (C : RoadKit.Fld Z h x ST "coder" "B" (.int 0)) (K : RoadKit.Arv Z h t kb .byte N2 vs (.int 0)) (hc : CodA cs 0 N2 vs) (hb : ∀ c ∈ cs, ¬ c < 0 ∧ ¬ (65535 : Int32) < c)
    (S : RoadKit.Sta Z h ST "COMPACT_STRINGS" "Z" (.int z)) (hz : ¬ z = 0) (F : RoadKit.Sta Z h "jdk/internal/util/Preconditions" "SIOOBE_FORMATTER" "Ljava/util/function/BiFunction;" fm) (rf : fm.isRef = true) (l2 : cs.length ≤ 4000) (hi : i < cs.length) (hj : j = Int32.ofNat i) (hfr : 4 ≤ R.frames) (hlo : W + 53 ≤ R.locals) :
    Back l R p e below s args (⟨"java/lang/String", "charAt", "(I)C"⟩ : MethodName) len W (fun P a => a = #[.ref x, .int j] ∧ P.U.heap = h ∧ P.cells + 0 ≤ R.cells ∧ P.slots + 0 ≤ R.slots)
      (fun P _ v B => ∃ L, (v = some (.int (cs.getD i 0)) ∧ L = [] ∧ B.U.heap = h) ∧ B.locs = P.locs ++ L ∧ B.cells = P.cells + 0 ∧ B.slots = P.slots + 0) := by
  subst hj
  intro m meth c P g ig mk a X hg hsize hdg hW hn hp'
  obtain ⟨rfl, rfl, r1, r2⟩ := hp'
  have al : Z.vm.Alike P.U.vm := hZ.alike.trans X.warmed.alike
  obtain ⟨A, hx⟩ := txt_of wi al E V C K hc hb l2
  obtain ⟨v, B, X', ⟨⟨hv, hh⟩, hl, hk, hs⟩, st⟩ := ChN.pays x t A cs.length (fun j => cs.getD j 0) z fm i (tabChN_of (movedChN hZ hw)) hfr hlo m meth c P g ig mk _ X hg hsize hdg hW hn ⟨r1, r2, rfl, hx, hi, sta_is al S, hz, sta_is al F, rf⟩
  exact ⟨v, B, X', ⟨[], ⟨hv, rfl, hh⟩, hl, hk, hs⟩, st⟩
/-- what backV says of its String, as the contracts of this text ask it: cs's low bytes, coder 0 -/
theorem codOf {cs : List Int32} {n : Nat} (hn : cs.length = n) (hb : ∀ c ∈ cs, ¬ 255 < c) : CodA cs 0 (Int32.ofNat n) ((cs.map lo8).map Value.int) := Or.inl ⟨rfl, by rw [hn], by simp [List.map_map, Function.comp_def], hb⟩
end StrChars.Road
end Jvm.Pilot.@@N@@

namespace Jvm.Pilot.@@N@@
open Jvm Jvm.ClassFile Sem Op Lib Jvm.Free Jvm.Stand Jvm.LawKit Jvm.RoadKit Bundle Jvm.Pilot.@@N@@.Jvm.D
/-! MY OWN LAYER: the walk in continuation form -/
abbrev Bx : Type := Program × Launch × Env × Room × State × MethodId × Array Value × List Frame × Method × Code × (Option Value → State → List Loc → Prop)
def De (b : ByteArray) (pc : Nat) (i : Instr) (k n : Nat) : Prop := decode b pc = .ok (i, k) ∧ pc + k = n
def Go (B : Bx) (n0 : Nat) (Q : Option Value → Heap → Prop) (h : Heap) (ce sl pc : Nat) (Ls : Array Slot) (S : List Value) : Prop :=
  match B with
  | (p, l, e, R, s, m, args, below, meth, c, Fin) => ∀ (T : State) (locs : List Loc), Stand p l e R s m args below meth c T locs ce sl → T.heap = h → Fr n0 locs →
    ∃ s₂ o, Steps p.tables e below (T.setTop (mkF m pc Ls S)) s₂ ∧ s₂.status = .running ∧ Ended s₂ below o ∧ h.size ≤ s₂.heap.size ∧ ∃ (v : Option Value) (L : List Loc), o = .returned v ∧ Q v s₂.heap ∧ Fin v s₂ L
def Cx (B : Bx) (l0 : Launch) (Z : State) (a0 : Array Value) (R0 : Room) (y : MethodName) (b : ByteArray) (mx : Nat) (rt : Option FieldType) (nf : Nat) : Prop :=
  match B with
  | (p, l, e, R, s, m, args, below, meth, c, Fin) => l = l0 ∧ R = R0 ∧ p.tables.exec = Jvm.exec ∧ c.code = b ∧ c.maxLocals = mx ∧ s.vm.findClass y.cls = some m.cls ∧ meth.name = y.name ∧ meth.sig.returnType = rt ∧ meth.locks = false ∧ Z.Warmed39 s.vm ∧ True ∧ ∀ d ∈ tables_1, d.before a0 Z = true
def Nx (B : Bx) (nf : Nat) : Prop :=
  match B with
  | (p, l, e, R, s, m, args, below, meth, c, Fin) => ∀ (v : Option Value) (t : State) (L : List Loc), Fr nf L → FrameEnd s (.returned v) t L R.cells R.slots → Fin v t L
def QQ (n0 : Nat) (h0 : Heap) (Q : Option Value → Heap → Prop) (v : Option Value) (h : Heap) (L : List Loc) : Prop := Q v h ∧ Fr n0 L ∧ h0.size ≤ h.size
def Pays (l : Launch) (Z : State) (y : MethodName) (b : ByteArray) (mx : Nat) (rt : Option FieldType) (rm : Room) (as' : Array Value) (n0 : Nat) (h0 : Heap) (Q : Option Value → Heap → Prop) : Prop :=
  ∀ ws : List Jvm.Cond, MetFree l y (head1 (Jvm.Cond.code y b mx rt :: ws) rm) (fun a U => a = as' ∧ Z.Warmed39 U.vm ∧ U.heap = h0) (fun _ _ _ _ _ => True) (fun _ U o U' => ∃ v L, o = .returned v ∧ QQ n0 h0 Q v U'.heap L ∧ FrameEnd U o U' L rm.cells rm.slots)
section Flow
variable {B : Bx} {n0 nf : Nat} {Q : Option Value → Heap → Prop} {h : Heap} {ce sl pc n : Nat} {Ls Ls' : Array Slot} {S S' : List Value} {l : Launch} {Z : State} {a0 : Array Value} {R : Room} {y : MethodName} {b : ByteArray} {mx : Nat} {rt : Option FieldType}
theorem Pays.mono {rm : Room} {as' : Array Value} {Q' : Option Value → Heap → Prop} (hM : Pays l Z y b mx rt rm as' n0 h Q) (hq : ∀ v h, Q v h → Q' v h) : Pays l Z y b mx rt rm as' n0 h Q' := by
  intro ws p e ha hc hk s m args below hf happ hP hK
  obtain ⟨k, o, h1, h2, h3, v, L, h4, h5, h6⟩ := hM ws p e ha hc hk s m args below hf happ hP hK
  exact ⟨k, o, h1, h2, h3, v, L, h4, ⟨hq _ _ h5.1, h5.2⟩, h6⟩
theorem Pays.of (hw : ∀ d ∈ tables_1, d.before a0 Z = true) (hp : plainFor y = true) {rm : Room} {as' : Array Value} (ef : ∀ m, entryFrame m as' mx = mkF m 0 Ls []) (hb : ∀ B, Cx B l Z a0 rm y b mx rt n0 → Nx B n0 → Go B n0 Q h 0 0 0 Ls []) : Pays l Z y b mx rt rm as' n0 h Q := by
  intro ws
  refine MetFree.of_bodySF hp hisR ?_
  intro p e s m args below meth c s₁ Bd hml0 hP hK
  obtain ⟨rfl, hZ, hh⟩ := hP
  have X0 : Stand p l e rm s m args below meth c s₁ [] 0 0 := Stand.of_body Bd
  have e0 : s₁.heap = h := by rw [← hh, Bd.state]; rfl
  obtain ⟨s₂, o, st, r1, r2, r6, v, L, r3, r4, r5, r7⟩ := hb (p, l, e, rm, s, m, args, below, meth, c, fun v t L => Fr n0 L ∧ FrameEnd s (.returned v) t L rm.cells rm.slots) ⟨rfl, rfl, Bd.exec, Bd.bytes, hml0, findClass_of_methodNamed Bd.named, (name_of_methodNamed Bd.named Bd.method).1, Bd.returns, BodyLoose.notSynchronized Bd, hZ, trivial, hw⟩ (fun _ _ _ q1 q2 => ⟨q1, q2⟩) s₁ [] X0 e0 (Fr.nil n0)
  subst r3
  exact ⟨s₂, _, castTop (ef m) st, r1, r2, v, L, rfl, ⟨r4, r5, r6⟩, r7⟩
theorem iAloadN (C : Cx B l Z a0 R y b mx rt nf) {k : Fin 4} {v : Value} (hd : De b pc (.aload_n k) 1 n) (hl : Ls[k.val]? = some (.val v)) (hv : v.isRef = true) (K : Go B n0 Q h ce sl n Ls (v :: S)) : Go B n0 Q h ce sl pc Ls (S) := by
  obtain ⟨p, l', e, R', s, m, args, below, meth, c, Fin⟩ := B
  obtain ⟨rfl, rfl, hx, rfl, hml, hown, hnm, hret, hlk, hZ, hfin, hw⟩ := C
  intro T locs X eT N
  obtain ⟨hd, rfl⟩ := hd
  obtain ⟨s₂, o, st, r⟩ := K T locs X eT N
  exact ⟨s₂, o, XS.aloadN X.here hx rfl hd hl hv st, r⟩
theorem iAload (C : Cx B l Z a0 R y b mx rt nf) {k : Nat} {v : Value} (hd : De b pc (.aload k) 2 n) (hl : Ls[k]? = some (.val v)) (hv : v.isRef = true) (K : Go B n0 Q h ce sl n Ls (v :: S)) : Go B n0 Q h ce sl pc Ls (S) := by
  obtain ⟨p, l', e, R', s, m, args, below, meth, c, Fin⟩ := B
  obtain ⟨rfl, rfl, hx, rfl, hml, hown, hnm, hret, hlk, hZ, hfin, hw⟩ := C
  intro T locs X eT N
  obtain ⟨hd, rfl⟩ := hd
  obtain ⟨s₂, o, st, r⟩ := K T locs X eT N
  exact ⟨s₂, o, XS.aload X.here hx rfl hd hl hv st, r⟩
theorem iIloadN (C : Cx B l Z a0 R y b mx rt nf) {k : Fin 4} {v : Int32} (hd : De b pc (.iload_n k) 1 n) (hl : Ls[k.val]? = some (.val (.int v))) (K : Go B n0 Q h ce sl n Ls (.int v :: S)) : Go B n0 Q h ce sl pc Ls (S) := by
  obtain ⟨p, l', e, R', s, m, args, below, meth, c, Fin⟩ := B
  obtain ⟨rfl, rfl, hx, rfl, hml, hown, hnm, hret, hlk, hZ, hfin, hw⟩ := C
  intro T locs X eT N
  obtain ⟨hd, rfl⟩ := hd
  obtain ⟨s₂, o, st, r⟩ := K T locs X eT N
  exact ⟨s₂, o, XS.iloadN X.here hx rfl hd hl st, r⟩
theorem iIload (C : Cx B l Z a0 R y b mx rt nf) {k : Nat} {v : Int32} (hd : De b pc (.iload k) 2 n) (hl : Ls[k]? = some (.val (.int v))) (K : Go B n0 Q h ce sl n Ls (.int v :: S)) : Go B n0 Q h ce sl pc Ls (S) := by
  obtain ⟨p, l', e, R', s, m, args, below, meth, c, Fin⟩ := B
  obtain ⟨rfl, rfl, hx, rfl, hml, hown, hnm, hret, hlk, hZ, hfin, hw⟩ := C
  intro T locs X eT N
  obtain ⟨hd, rfl⟩ := hd
  obtain ⟨s₂, o, st, r⟩ := K T locs X eT N
  exact ⟨s₂, o, XS.iload X.here hx rfl hd hl st, r⟩
theorem iLloadN (C : Cx B l Z a0 R y b mx rt nf) {k : Fin 4} {v : Int64} (hd : De b pc (.lload_n k) 1 n) (hl : Ls[k.val]? = some (.val (.long v))) (K : Go B n0 Q h ce sl n Ls (.long v :: S)) : Go B n0 Q h ce sl pc Ls (S) := by
  obtain ⟨p, l', e, R', s, m, args, below, meth, c, Fin⟩ := B
  obtain ⟨rfl, rfl, hx, rfl, hml, hown, hnm, hret, hlk, hZ, hfin, hw⟩ := C
  intro T locs X eT N
  obtain ⟨hd, rfl⟩ := hd
  obtain ⟨s₂, o, st, r⟩ := K T locs X eT N
  exact ⟨s₂, o, XT.lloadN X.here hx rfl hd hl st, r⟩
theorem iLload (C : Cx B l Z a0 R y b mx rt nf) {k : Nat} {v : Int64} (hd : De b pc (.lload k) 2 n) (hl : Ls[k]? = some (.val (.long v))) (K : Go B n0 Q h ce sl n Ls (.long v :: S)) : Go B n0 Q h ce sl pc Ls (S) := by
  obtain ⟨p, l', e, R', s, m, args, below, meth, c, Fin⟩ := B
  obtain ⟨rfl, rfl, hx, rfl, hml, hown, hnm, hret, hlk, hZ, hfin, hw⟩ := C
  intro T locs X eT N
  obtain ⟨hd, rfl⟩ := hd
  obtain ⟨s₂, o, st, r⟩ := K T locs X eT N
  exact ⟨s₂, o, XT.lload X.here hx rfl hd hl st, r⟩
theorem iIconst (C : Cx B l Z a0 R y b mx rt nf) {i : Int} {v : Int32} (hd : De b pc (.iconst i) 1 n) (hv : Int32.ofInt i = v) (K : Go B n0 Q h ce sl n Ls (.int v :: S)) : Go B n0 Q h ce sl pc Ls (S) := by
  obtain ⟨p, l', e, R', s, m, args, below, meth, c, Fin⟩ := B
  obtain ⟨rfl, rfl, hx, rfl, hml, hown, hnm, hret, hlk, hZ, hfin, hw⟩ := C
  intro T locs X eT N
  obtain ⟨hd, rfl⟩ := hd
  subst hv
  obtain ⟨s₂, o, st, r⟩ := K T locs X eT N
  exact ⟨s₂, o, XS.iconst X.here hx rfl hd st, r⟩
theorem iBipush (C : Cx B l Z a0 R y b mx rt nf) {i : Int} {v : Int32} (hd : De b pc (.bipush i) 2 n) (hv : (Int8.ofInt i).toInt32 = v) (K : Go B n0 Q h ce sl n Ls (.int v :: S)) : Go B n0 Q h ce sl pc Ls (S) := by
  obtain ⟨p, l', e, R', s, m, args, below, meth, c, Fin⟩ := B
  obtain ⟨rfl, rfl, hx, rfl, hml, hown, hnm, hret, hlk, hZ, hfin, hw⟩ := C
  intro T locs X eT N
  obtain ⟨hd, rfl⟩ := hd
  subst hv
  obtain ⟨s₂, o, st, r⟩ := K T locs X eT N
  exact ⟨s₂, o, XS.bipush X.here hx rfl hd st, r⟩
theorem iSipush (C : Cx B l Z a0 R y b mx rt nf) {i : Int} {v : Int32} (hd : De b pc (.sipush i) 3 n) (hv : (Int16.ofInt i).toInt32 = v) (K : Go B n0 Q h ce sl n Ls (.int v :: S)) : Go B n0 Q h ce sl pc Ls (S) := by
  obtain ⟨p, l', e, R', s, m, args, below, meth, c, Fin⟩ := B
  obtain ⟨rfl, rfl, hx, rfl, hml, hown, hnm, hret, hlk, hZ, hfin, hw⟩ := C
  intro T locs X eT N
  obtain ⟨hd, rfl⟩ := hd
  subst hv
  obtain ⟨s₂, o, st, r⟩ := K T locs X eT N
  exact ⟨s₂, o, XS.sipush X.here hx rfl hd st, r⟩
theorem iNull (C : Cx B l Z a0 R y b mx rt nf)  (hd : De b pc (.aconst_null) 1 n) (K : Go B n0 Q h ce sl n Ls (.null :: S)) : Go B n0 Q h ce sl pc Ls (S) := by
  obtain ⟨p, l', e, R', s, m, args, below, meth, c, Fin⟩ := B
  obtain ⟨rfl, rfl, hx, rfl, hml, hown, hnm, hret, hlk, hZ, hfin, hw⟩ := C
  intro T locs X eT N
  obtain ⟨hd, rfl⟩ := hd
  obtain ⟨s₂, o, st, r⟩ := K T locs X eT N
  exact ⟨s₂, o, XS.aconstNull X.here hx rfl hd st, r⟩
theorem iIadd (C : Cx B l Z a0 R y b mx rt nf) {x z v : Int32} (hd : De b pc (.iadd) 1 n) (hv : x + z = v) (K : Go B n0 Q h ce sl n Ls (.int v :: S)) : Go B n0 Q h ce sl pc Ls (.int z :: .int x :: S) := by
  obtain ⟨p, l', e, R', s, m, args, below, meth, c, Fin⟩ := B
  obtain ⟨rfl, rfl, hx, rfl, hml, hown, hnm, hret, hlk, hZ, hfin, hw⟩ := C
  intro T locs X eT N
  obtain ⟨hd, rfl⟩ := hd
  subst hv
  obtain ⟨s₂, o, st, r⟩ := K T locs X eT N
  exact ⟨s₂, o, XS.iadd X.here hx rfl hd rfl st, r⟩
theorem iIsub (C : Cx B l Z a0 R y b mx rt nf) {x z v : Int32} (hd : De b pc (.isub) 1 n) (hv : x - z = v) (K : Go B n0 Q h ce sl n Ls (.int v :: S)) : Go B n0 Q h ce sl pc Ls (.int z :: .int x :: S) := by
  obtain ⟨p, l', e, R', s, m, args, below, meth, c, Fin⟩ := B
  obtain ⟨rfl, rfl, hx, rfl, hml, hown, hnm, hret, hlk, hZ, hfin, hw⟩ := C
  intro T locs X eT N
  obtain ⟨hd, rfl⟩ := hd
  subst hv
  obtain ⟨s₂, o, st, r⟩ := K T locs X eT N
  exact ⟨s₂, o, XS.isub X.here hx rfl hd rfl st, r⟩
theorem iIand (C : Cx B l Z a0 R y b mx rt nf) {x z v : Int32} (hd : De b pc (.iand) 1 n) (hv : x &&& z = v) (K : Go B n0 Q h ce sl n Ls (.int v :: S)) : Go B n0 Q h ce sl pc Ls (.int z :: .int x :: S) := by
  obtain ⟨p, l', e, R', s, m, args, below, meth, c, Fin⟩ := B
  obtain ⟨rfl, rfl, hx, rfl, hml, hown, hnm, hret, hlk, hZ, hfin, hw⟩ := C
  intro T locs X eT N
  obtain ⟨hd, rfl⟩ := hd
  subst hv
  obtain ⟨s₂, o, st, r⟩ := K T locs X eT N
  exact ⟨s₂, o, XS.iand X.here hx rfl hd rfl st, r⟩
theorem iImul (C : Cx B l Z a0 R y b mx rt nf) {x z v : Int32} (hd : De b pc (.imul) 1 n) (hv : x * z = v) (K : Go B n0 Q h ce sl n Ls (.int v :: S)) : Go B n0 Q h ce sl pc Ls (.int z :: .int x :: S) := by
  obtain ⟨p, l', e, R', s, m, args, below, meth, c, Fin⟩ := B
  obtain ⟨rfl, rfl, hx, rfl, hml, hown, hnm, hret, hlk, hZ, hfin, hw⟩ := C
  intro T locs X eT N
  obtain ⟨hd, rfl⟩ := hd
  subst hv
  obtain ⟨s₂, o, st, r⟩ := K T locs X eT N
  exact ⟨s₂, o, XS.imul X.here hx rfl hd rfl st, r⟩
theorem iIdiv (C : Cx B l Z a0 R y b mx rt nf) {x z v : Int32} (hd : De b pc (.idiv) 1 n) (hz : z ≠ 0) (hv : x / z = v) (K : Go B n0 Q h ce sl n Ls (.int v :: S)) : Go B n0 Q h ce sl pc Ls (.int z :: .int x :: S) := by
  obtain ⟨p, l', e, R', s, m, args, below, meth, c, Fin⟩ := B
  obtain ⟨rfl, rfl, hx, rfl, hml, hown, hnm, hret, hlk, hZ, hfin, hw⟩ := C
  intro T locs X eT N
  obtain ⟨hd, rfl⟩ := hd
  subst hv
  obtain ⟨s₂, o, st, r⟩ := K T locs X eT N
  exact ⟨s₂, o, XS.idiv X.here hx rfl hd rfl hz st, r⟩
theorem iIrem (C : Cx B l Z a0 R y b mx rt nf) {x z v : Int32} (hd : De b pc (.irem) 1 n) (hz : z ≠ 0) (hv : x % z = v) (K : Go B n0 Q h ce sl n Ls (.int v :: S)) : Go B n0 Q h ce sl pc Ls (.int z :: .int x :: S) := by
  obtain ⟨p, l', e, R', s, m, args, below, meth, c, Fin⟩ := B
  obtain ⟨rfl, rfl, hx, rfl, hml, hown, hnm, hret, hlk, hZ, hfin, hw⟩ := C
  intro T locs X eT N
  obtain ⟨hd, rfl⟩ := hd
  subst hv
  obtain ⟨s₂, o, st, r⟩ := K T locs X eT N
  exact ⟨s₂, o, iremM X hx rfl hd rfl hz st, r⟩
theorem iDup (C : Cx B l Z a0 R y b mx rt nf) {x : Value} (hd : De b pc (.dup) 1 n) (hc : x.category = 1) (K : Go B n0 Q h ce sl n Ls (x :: x :: S)) : Go B n0 Q h ce sl pc Ls (x :: S) := by
  obtain ⟨p, l', e, R', s, m, args, below, meth, c, Fin⟩ := B
  obtain ⟨rfl, rfl, hx, rfl, hml, hown, hnm, hret, hlk, hZ, hfin, hw⟩ := C
  intro T locs X eT N
  obtain ⟨hd, rfl⟩ := hd
  obtain ⟨s₂, o, st, r⟩ := K T locs X eT N
  exact ⟨s₂, o, XS.dup X.here hx rfl hd rfl hc st, r⟩
theorem iPop (C : Cx B l Z a0 R y b mx rt nf) {x : Value} (hd : De b pc (.pop) 1 n) (hc : x.category = 1) (K : Go B n0 Q h ce sl n Ls (S)) : Go B n0 Q h ce sl pc Ls (x :: S) := by
  obtain ⟨p, l', e, R', s, m, args, below, meth, c, Fin⟩ := B
  obtain ⟨rfl, rfl, hx, rfl, hml, hown, hnm, hret, hlk, hZ, hfin, hw⟩ := C
  intro T locs X eT N
  obtain ⟨hd, rfl⟩ := hd
  obtain ⟨s₂, o, st, r⟩ := K T locs X eT N
  exact ⟨s₂, o, XT.pop X.here hx rfl hd rfl hc st, r⟩
theorem iIstoreN (C : Cx B l Z a0 R y b mx rt nf) {k : Fin 4} {x : Int32} (hd : De b pc (.istore_n k) 1 n) (hl : storeLocals Ls k.val (.int x) = some Ls') (K : Go B n0 Q h ce sl n Ls' (S)) : Go B n0 Q h ce sl pc Ls (.int x :: S) := by
  obtain ⟨p, l', e, R', s, m, args, below, meth, c, Fin⟩ := B
  obtain ⟨rfl, rfl, hx, rfl, hml, hown, hnm, hret, hlk, hZ, hfin, hw⟩ := C
  intro T locs X eT N
  obtain ⟨hd, rfl⟩ := hd
  obtain ⟨s₂, o, st, r⟩ := K T locs X eT N
  exact ⟨s₂, o, XS.istoreN X.here hx rfl hd rfl hl st, r⟩
theorem iIstore (C : Cx B l Z a0 R y b mx rt nf) {k : Nat} {x : Int32} (hd : De b pc (.istore k) 2 n) (hl : storeLocals Ls k (.int x) = some Ls') (K : Go B n0 Q h ce sl n Ls' (S)) : Go B n0 Q h ce sl pc Ls (.int x :: S) := by
  obtain ⟨p, l', e, R', s, m, args, below, meth, c, Fin⟩ := B
  obtain ⟨rfl, rfl, hx, rfl, hml, hown, hnm, hret, hlk, hZ, hfin, hw⟩ := C
  intro T locs X eT N
  obtain ⟨hd, rfl⟩ := hd
  obtain ⟨s₂, o, st, r⟩ := K T locs X eT N
  exact ⟨s₂, o, XS.istore X.here hx rfl hd rfl hl st, r⟩
theorem iAstoreN (C : Cx B l Z a0 R y b mx rt nf) {k : Fin 4} {x : Value} (hd : De b pc (.astore_n k) 1 n) (hv : x.isRef = true) (hl : storeLocals Ls k.val x = some Ls') (K : Go B n0 Q h ce sl n Ls' (S)) : Go B n0 Q h ce sl pc Ls (x :: S) := by
  obtain ⟨p, l', e, R', s, m, args, below, meth, c, Fin⟩ := B
  obtain ⟨rfl, rfl, hx, rfl, hml, hown, hnm, hret, hlk, hZ, hfin, hw⟩ := C
  intro T locs X eT N
  obtain ⟨hd, rfl⟩ := hd
  obtain ⟨s₂, o, st, r⟩ := K T locs X eT N
  exact ⟨s₂, o, XS.astoreN X.here hx rfl hd rfl hv hl st, r⟩
theorem iAstore (C : Cx B l Z a0 R y b mx rt nf) {k : Nat} {x : Value} (hd : De b pc (.astore k) 2 n) (hv : x.isRef = true) (hl : storeLocals Ls k x = some Ls') (K : Go B n0 Q h ce sl n Ls' (S)) : Go B n0 Q h ce sl pc Ls (x :: S) := by
  obtain ⟨p, l', e, R', s, m, args, below, meth, c, Fin⟩ := B
  obtain ⟨rfl, rfl, hx, rfl, hml, hown, hnm, hret, hlk, hZ, hfin, hw⟩ := C
  intro T locs X eT N
  obtain ⟨hd, rfl⟩ := hd
  obtain ⟨s₂, o, st, r⟩ := K T locs X eT N
  exact ⟨s₂, o, XS.astore X.here hx rfl hd rfl hv hl st, r⟩
theorem iIinc (C : Cx B l Z a0 R y b mx rt nf) {k : Nat} {cst : Int} {x v : Int32} (hd : De b pc (.iinc k cst) 3 n) (hl : Ls[k]? = some (.val (.int x))) (hv : x + Int32.ofInt cst = v) (hl' : storeLocals Ls k (.int v) = some Ls') (K : Go B n0 Q h ce sl n Ls' (S)) : Go B n0 Q h ce sl pc Ls (S) := by
  obtain ⟨p, l', e, R', s, m, args, below, meth, c, Fin⟩ := B
  obtain ⟨rfl, rfl, hx, rfl, hml, hown, hnm, hret, hlk, hZ, hfin, hw⟩ := C
  intro T locs X eT N
  obtain ⟨hd, rfl⟩ := hd
  subst hv
  obtain ⟨s₂, o, st, r⟩ := K T locs X eT N
  exact ⟨s₂, o, XS.iinc X.here hx rfl hd hl hl' st, r⟩
theorem iI2b (C : Cx B l Z a0 R y b mx rt nf) {x v : Int32} (hd : De b pc (.i2b) 1 n) (hv : x.toInt8.toInt32 = v) (K : Go B n0 Q h ce sl n Ls (.int v :: S)) : Go B n0 Q h ce sl pc Ls (.int x :: S) := by
  obtain ⟨p, l', e, R', s, m, args, below, meth, c, Fin⟩ := B
  obtain ⟨rfl, rfl, hx, rfl, hml, hown, hnm, hret, hlk, hZ, hfin, hw⟩ := C
  intro T locs X eT N
  obtain ⟨hd, rfl⟩ := hd
  subst hv
  obtain ⟨s₂, o, st, r⟩ := K T locs X eT N
  exact ⟨s₂, o, XT.i2b X.here hx rfl hd rfl st, r⟩
theorem iI2c (C : Cx B l Z a0 R y b mx rt nf) {x v : Int32} (hd : De b pc (.i2c) 1 n) (hv : x.toUInt32.toUInt16.toUInt32.toInt32 = v) (K : Go B n0 Q h ce sl n Ls (.int v :: S)) : Go B n0 Q h ce sl pc Ls (.int x :: S) := by
  obtain ⟨p, l', e, R', s, m, args, below, meth, c, Fin⟩ := B
  obtain ⟨rfl, rfl, hx, rfl, hml, hown, hnm, hret, hlk, hZ, hfin, hw⟩ := C
  intro T locs X eT N
  obtain ⟨hd, rfl⟩ := hd
  subst hv
  obtain ⟨s₂, o, st, r⟩ := K T locs X eT N
  exact ⟨s₂, o, XT.i2c X.here hx rfl hd rfl st, r⟩
theorem iIushr (C : Cx B l Z a0 R y b mx rt nf) {x z v : Int32} (hd : De b pc (.iushr) 1 n) (hv : (x.toUInt32 >>> (z &&& 31).toUInt32).toInt32 = v) (K : Go B n0 Q h ce sl n Ls (.int v :: S)) : Go B n0 Q h ce sl pc Ls (.int z :: .int x :: S) := by
  obtain ⟨p, l', e, R', s, m, args, below, meth, c, Fin⟩ := B
  obtain ⟨rfl, rfl, hx, rfl, hml, hown, hnm, hret, hlk, hZ, hfin, hw⟩ := C
  intro T locs X eT N
  obtain ⟨hd, rfl⟩ := hd
  subst hv
  obtain ⟨s₂, o, st, r⟩ := K T locs X eT N
  exact ⟨s₂, o, XT.iushr X.here hx rfl hd rfl st, r⟩
theorem iIfF (C : Cx B l Z a0 R y b mx rt nf) {cd : ClassFile.Cond} {o : Int} {x : Int32} (hd : De b pc (.ifCond cd o) 3 n) (hc : ifCond.holds cd x = false) (K : Go B n0 Q h ce sl n Ls (S)) : Go B n0 Q h ce sl pc Ls (.int x :: S) := by
  obtain ⟨p, l', e, R', s, m, args, below, meth, c, Fin⟩ := B
  obtain ⟨rfl, rfl, hx, rfl, hml, hown, hnm, hret, hlk, hZ, hfin, hw⟩ := C
  intro T locs X eT N
  obtain ⟨hd, rfl⟩ := hd
  obtain ⟨s₂, o, st, r⟩ := K T locs X eT N
  exact ⟨s₂, o, XS.ifNo X.here hx rfl hd rfl hc st, r⟩
theorem iCmpF (C : Cx B l Z a0 R y b mx rt nf) {cd : ClassFile.Cond} {o : Int} {x z : Int32} (hd : De b pc (.if_icmp cd o) 3 n) (hc : if_icmp.holds cd x z = false) (K : Go B n0 Q h ce sl n Ls (S)) : Go B n0 Q h ce sl pc Ls (.int z :: .int x :: S) := by
  obtain ⟨p, l', e, R', s, m, args, below, meth, c, Fin⟩ := B
  obtain ⟨rfl, rfl, hx, rfl, hml, hown, hnm, hret, hlk, hZ, hfin, hw⟩ := C
  intro T locs X eT N
  obtain ⟨hd, rfl⟩ := hd
  obtain ⟨s₂, o, st, r⟩ := K T locs X eT N
  exact ⟨s₂, o, XS.icmpNo X.here hx rfl hd rfl hc st, r⟩
theorem iNullF (C : Cx B l Z a0 R y b mx rt nf) {o : Int} {a : Addr} (hd : De b pc (.ifnull o) 3 n) (K : Go B n0 Q h ce sl n Ls (S)) : Go B n0 Q h ce sl pc Ls (.ref a :: S) := by
  obtain ⟨p, l', e, R', s, m, args, below, meth, c, Fin⟩ := B
  obtain ⟨rfl, rfl, hx, rfl, hml, hown, hnm, hret, hlk, hZ, hfin, hw⟩ := C
  intro T locs X eT N
  obtain ⟨hd, rfl⟩ := hd
  obtain ⟨s₂, o, st, r⟩ := K T locs X eT N
  exact ⟨s₂, o, XS.ifnullNo X.here hx rfl hd rfl st, r⟩
theorem iNonnullF (C : Cx B l Z a0 R y b mx rt nf) {o : Int} (hd : De b pc (.ifnonnull o) 3 n) (K : Go B n0 Q h ce sl n Ls (S)) : Go B n0 Q h ce sl pc Ls (.null :: S) := by
  obtain ⟨p, l', e, R', s, m, args, below, meth, c, Fin⟩ := B
  obtain ⟨rfl, rfl, hx, rfl, hml, hown, hnm, hret, hlk, hZ, hfin, hw⟩ := C
  intro T locs X eT N
  obtain ⟨hd, rfl⟩ := hd
  obtain ⟨s₂, o, st, r⟩ := K T locs X eT N
  exact ⟨s₂, o, XT.ifnonnullNo X.here hx rfl hd rfl st, r⟩
theorem iAcmpF (C : Cx B l Z a0 R y b mx rt nf) {cd : ClassFile.ACond} {o : Int} {x z : Value} (hd : De b pc (.if_acmp cd o) 3 n) (hx1 : x.isRef = true) (hz1 : z.isRef = true) (hc : XT.acmp cd x z = false) (K : Go B n0 Q h ce sl n Ls (S)) : Go B n0 Q h ce sl pc Ls (z :: x :: S) := by
  obtain ⟨p, l', e, R', s, m, args, below, meth, c, Fin⟩ := B
  obtain ⟨rfl, rfl, hx, rfl, hml, hown, hnm, hret, hlk, hZ, hfin, hw⟩ := C
  intro T locs X eT N
  obtain ⟨hd, rfl⟩ := hd
  obtain ⟨s₂, o, st, r⟩ := K T locs X eT N
  exact ⟨s₂, o, XT.acmpNo X.here hx rfl hd rfl hx1 hz1 hc st, r⟩
theorem iGoto (C : Cx B l Z a0 R y b mx rt nf) {o : Int} {t : Nat} (hd : De b pc (.goto o) 3 n) (hj : 0 ≤ (pc : Int) + o ∧ ((pc : Int) + o).toNat = t) (K : Go B n0 Q h ce sl t Ls (S)) : Go B n0 Q h ce sl pc Ls (S) := by
  obtain ⟨p, l', e, R', s, m, args, below, meth, c, Fin⟩ := B
  obtain ⟨rfl, rfl, hx, rfl, hml, hown, hnm, hret, hlk, hZ, hfin, hw⟩ := C
  intro T locs X eT N
  obtain ⟨hd, rfl⟩ := hd
  obtain ⟨s₂, oo, st, r⟩ := K T locs X eT N
  exact ⟨s₂, oo, XS.goto X.here hx rfl rfl hd hj.1 hj.2 st, r⟩
theorem iIfT (C : Cx B l Z a0 R y b mx rt nf) {cd : ClassFile.Cond} {o : Int} {x : Int32} {t : Nat} (hd : De b pc (.ifCond cd o) 3 n) (hc : ifCond.holds cd x = true) (hj : 0 ≤ (pc : Int) + o ∧ ((pc : Int) + o).toNat = t) (K : Go B n0 Q h ce sl t Ls (S)) : Go B n0 Q h ce sl pc Ls (.int x :: S) := by
  obtain ⟨p, l', e, R', s, m, args, below, meth, c, Fin⟩ := B
  obtain ⟨rfl, rfl, hx, rfl, hml, hown, hnm, hret, hlk, hZ, hfin, hw⟩ := C
  intro T locs X eT N
  obtain ⟨hd, rfl⟩ := hd
  obtain ⟨s₂, oo, st, r⟩ := K T locs X eT N
  exact ⟨s₂, oo, XS.ifYes X.here hx rfl rfl hd rfl hc hj.1 hj.2 st, r⟩
theorem iCmpT (C : Cx B l Z a0 R y b mx rt nf) {cd : ClassFile.Cond} {o : Int} {x z : Int32} {t : Nat} (hd : De b pc (.if_icmp cd o) 3 n) (hc : if_icmp.holds cd x z = true) (hj : 0 ≤ (pc : Int) + o ∧ ((pc : Int) + o).toNat = t) (K : Go B n0 Q h ce sl t Ls (S)) : Go B n0 Q h ce sl pc Ls (.int z :: .int x :: S) := by
  obtain ⟨p, l', e, R', s, m, args, below, meth, c, Fin⟩ := B
  obtain ⟨rfl, rfl, hx, rfl, hml, hown, hnm, hret, hlk, hZ, hfin, hw⟩ := C
  intro T locs X eT N
  obtain ⟨hd, rfl⟩ := hd
  obtain ⟨s₂, oo, st, r⟩ := K T locs X eT N
  exact ⟨s₂, oo, XS.icmpYes X.here hx rfl rfl hd rfl hc hj.1 hj.2 st, r⟩
theorem iNullT (C : Cx B l Z a0 R y b mx rt nf) {o : Int} {t : Nat} (hd : De b pc (.ifnull o) 3 n) (hj : 0 ≤ (pc : Int) + o ∧ ((pc : Int) + o).toNat = t) (K : Go B n0 Q h ce sl t Ls (S)) : Go B n0 Q h ce sl pc Ls (.null :: S) := by
  obtain ⟨p, l', e, R', s, m, args, below, meth, c, Fin⟩ := B
  obtain ⟨rfl, rfl, hx, rfl, hml, hown, hnm, hret, hlk, hZ, hfin, hw⟩ := C
  intro T locs X eT N
  obtain ⟨hd, rfl⟩ := hd
  obtain ⟨s₂, oo, st, r⟩ := K T locs X eT N
  exact ⟨s₂, oo, XS.ifnullYes X.here hx rfl rfl hd rfl hj.1 hj.2 st, r⟩
theorem iNonnullT (C : Cx B l Z a0 R y b mx rt nf) {o : Int} {a : Addr} {t : Nat} (hd : De b pc (.ifnonnull o) 3 n) (hj : 0 ≤ (pc : Int) + o ∧ ((pc : Int) + o).toNat = t) (K : Go B n0 Q h ce sl t Ls (S)) : Go B n0 Q h ce sl pc Ls (.ref a :: S) := by
  obtain ⟨p, l', e, R', s, m, args, below, meth, c, Fin⟩ := B
  obtain ⟨rfl, rfl, hx, rfl, hml, hown, hnm, hret, hlk, hZ, hfin, hw⟩ := C
  intro T locs X eT N
  obtain ⟨hd, rfl⟩ := hd
  obtain ⟨s₂, oo, st, r⟩ := K T locs X eT N
  exact ⟨s₂, oo, XT.ifnonnullYes X.here hx rfl rfl hd rfl hj.1 hj.2 st, r⟩
theorem iAcmpT (C : Cx B l Z a0 R y b mx rt nf) {cd : ClassFile.ACond} {o : Int} {x z : Value} {t : Nat} (hd : De b pc (.if_acmp cd o) 3 n) (hx1 : x.isRef = true) (hz1 : z.isRef = true) (hc : XT.acmp cd x z = true) (hj : 0 ≤ (pc : Int) + o ∧ ((pc : Int) + o).toNat = t) (K : Go B n0 Q h ce sl t Ls (S)) : Go B n0 Q h ce sl pc Ls (z :: x :: S) := by
  obtain ⟨p, l', e, R', s, m, args, below, meth, c, Fin⟩ := B
  obtain ⟨rfl, rfl, hx, rfl, hml, hown, hnm, hret, hlk, hZ, hfin, hw⟩ := C
  intro T locs X eT N
  obtain ⟨hd, rfl⟩ := hd
  obtain ⟨s₂, oo, st, r⟩ := K T locs X eT N
  exact ⟨s₂, oo, XT.acmpYes X.here hx rfl rfl hd rfl hx1 hz1 hc hj.1 hj.2 st, r⟩
theorem iLdcI (C : Cx B l Z a0 R y b mx rt nf) {i : Nat} {v : Int32} (w : Jvm.Cond.constant y.cls i v ∈ tables_1) (hd : De b pc (.ldc i) 2 n) (K : Go B n0 Q h ce sl n Ls (.int v :: S)) : Go B n0 Q h ce sl pc Ls S := by
  obtain ⟨p, l', e, R', s, m, args, below, meth, c, Fin⟩ := B
  obtain ⟨rfl, rfl, hx, rfl, hml, hown, hnm, hret, hlk, hZ, hfin, hw⟩ := C
  intro T locs X eT N
  obtain ⟨hd, rfl⟩ := hd
  obtain ⟨s₂, o, st, r⟩ := K T locs X eT N
  exact ⟨s₂, o, X.ldcInt hx hown (mvT hZ (hw _ w)) (g := mkF m pc Ls S) rfl hd _ st, r⟩
theorem iGetS (C : Cx B l Z a0 R y b mx rt nf) {i : Nat} {O f d : String} {v : Value} (w : Jvm.Cond.fieldLink y.cls i O f d ∈ tables_1) (F : Sta Z h O f d v) (hd : De b pc (.getstatic i) 3 n) (K : Go B n0 Q h ce sl n Ls (v :: S)) : Go B n0 Q h ce sl pc Ls S := by
  obtain ⟨p, l', e, R', s, m, args, below, meth, c, Fin⟩ := B
  obtain ⟨rfl, rfl, hx, rfl, hml, hown, hnm, hret, hlk, hZ, hfin, hw⟩ := C
  intro T locs X eT N
  obtain ⟨hd, rfl⟩ := hd
  obtain ⟨T', X', e', st⟩ := getS X hx hZ (host := "") hown (hw _ w) Via.refl eT F (g := mkF m pc Ls S) rfl hd
  obtain ⟨s₂, o, st', r⟩ := K T' locs X' e' N
  exact ⟨s₂, o, st _ st', r⟩
theorem iGetF (C : Cx B l Z a0 R y b mx rt nf) {i : Nat} {O f d : String} {a : Addr} {v : Value} (w : Jvm.Cond.fieldLink y.cls i O f d ∈ tables_1) (F : Fld Z h a O f d v) (hd : De b pc (.getfield i) 3 n) (K : Go B n0 Q h ce sl n Ls (v :: S)) : Go B n0 Q h ce sl pc Ls (.ref a :: S) := by
  obtain ⟨p, l', e, R', s, m, args, below, meth, c, Fin⟩ := B
  obtain ⟨rfl, rfl, hx, rfl, hml, hown, hnm, hret, hlk, hZ, hfin, hw⟩ := C
  intro T locs X eT N
  obtain ⟨hd, rfl⟩ := hd
  obtain ⟨T', X', e', st⟩ := getF X hx hZ hown (host := "") (Or.inl (hw _ w)) Via.refl eT F (g := mkF m pc Ls (.ref a :: S)) rfl rfl hd
  obtain ⟨s₂, o, st', r⟩ := K T' locs X' e' N
  exact ⟨s₂, o, st _ st', r⟩
theorem iPutF (C : Cx B l Z a0 R y b mx rt nf) {i kk : Nat} {O f d CC : String} {a : Addr} {v old : Value} {ty : FieldType} (w : Jvm.Cond.fieldLink y.cls i O f d ∈ tables_1) (F : Fld Z h a O f d old) (E : Exa Z h a CC) (L : Jvm.Cond.lays CC O f d ∈ tables_1 ∨ (Jvm.Cond.laysFinal CC O f d ∈ tables_1 ∧ y.cls = O ∧ y.name = "<init>")) (wi : Jvm.Cond.instantiable CC kk ∈ tables_1) (hty : parseFieldDescriptor d = some ty) (hn : narrow ty v = v) (hf : fits ty v = true) (ha : n0 ≤ a) (hd : De b pc (.putfield i) 3 n) (K : ∀ h', Wr h h' a (Jvm.RoadKit.slotOf Z O f d) v → Go B n0 Q h' ce sl n Ls S) : Go B n0 Q h ce sl pc Ls (v :: .ref a :: S) := by
  obtain ⟨p, l', e, R', s, m, args, below, meth, c, Fin⟩ := B
  obtain ⟨rfl, rfl, hx, rfl, hml, hown, hnm, hret, hlk, hZ, hfin, hw⟩ := C
  intro T locs X eT N
  obtain ⟨hd, rfl⟩ := hd
  obtain ⟨T', h', X', e', W, st⟩ := putF X hx hZ hown (host := "") (Or.inl (hw _ w)) Via.refl eT F E (L.imp (fun q => hw _ q) fun q => ⟨hw _ q.1, q.2.1, hnm.trans q.2.2⟩) (hw _ wi) hty hn hf (g := mkF m pc Ls (v :: .ref a :: S)) rfl rfl hd
  obtain ⟨s₂, o, st', r1, r2, r3, r4⟩ := K h' W T' _ X' e' (Fr.snoc X' N ha)
  exact ⟨s₂, o, st _ st', r1, r2, Nat.le_trans (Nat.le_of_eq W.size.symm) r3, r4⟩
theorem iNew (C : Cx B l Z a0 R y b mx rt nf) {i kk ce' sl' : Nat} {CC : String} (w1 : Jvm.Cond.classLink y.cls i CC ∈ tables_1) (w2 : Jvm.Cond.instantiable CC kk ∈ tables_1) (w3 : Jvm.Cond.initialized CC ∈ tables_1) (hd : De b pc (.new i) 3 n) (hc : ce + 1 = ce' ∧ sl + kk = sl' ∧ ce' ≤ R.cells ∧ sl' ≤ R.slots) (K : ∀ (h' : Heap) (a : Addr), a = h.size → Ext h h' → Exa Z h' a CC → (∀ {O nm d : String} {ty : FieldType}, Laid Z a0 CC O nm d → parseFieldDescriptor d = some ty → Fld Z h' a O nm d (defaultValue ty)) → Go B n0 Q h' ce' sl' n Ls (.ref a :: S)) : Go B n0 Q h ce sl pc Ls S := by
  obtain ⟨p, l', e, R', s, m, args, below, meth, c, Fin⟩ := B
  obtain ⟨rfl, rfl, hx, rfl, hml, hown, hnm, hret, hlk, hZ, hfin, hw⟩ := C
  intro T locs X eT N
  obtain ⟨hd, rfl⟩ := hd
  obtain ⟨rfl, rfl, hc, hs⟩ := hc
  obtain ⟨T', h', X', e', E, A, D, -, st⟩ := newO X hx hZ hown (hw _ w1) (hw _ w2) (hw _ w3) eT (g := mkF m pc Ls S) rfl hd hc hs
  obtain ⟨s₂, o, st', r1, r2, r3, r4⟩ := K h' _ rfl E A D T' locs X' e' N
  exact ⟨s₂, o, st _ st', r1, r2, Nat.le_trans E.1 r3, r4⟩
theorem iInitO (C : Cx B l Z a0 R y b mx rt nf) {i W : Nat} {a : Addr} (w1 : Jvm.Cond.methodLink y.cls i Lib.objectInit ∈ tables_1) (w2 : Jvm.Cond.instanceMethod Lib.objectInit ∈ tables_1) (w3 : Jvm.Cond.code Lib.objectInit ⟨#[0xb1]⟩ 1 none ∈ tables_1) (hd : De b pc (.invokespecial i) 3 n) (hsz : Ls.size = mx) (hf : 1 ≤ R.frames) (hW : (S.map fun v => v.category).sum = W) (hl : W + 12 ≤ R.locals) (K : Go B n0 Q h ce sl n Ls S) : Go B n0 Q h ce sl pc Ls (.ref a :: S) := by
  obtain ⟨p, l', e, R', s, m, args, below, meth, c, Fin⟩ := B
  obtain ⟨rfl, rfl, hx, rfl, hml, hown, hnm, hret, hlk, hZ, hfin, hw⟩ := C
  intro T locs X eT N
  obtain ⟨hd, rfl⟩ := hd
  obtain ⟨T', X', e', st⟩ := initO X hx hZ hown (hw _ w1) (hw _ w2) (hw _ w3) eT (g := mkF m pc Ls (.ref a :: S)) rfl (by rw [hml]; exact hsz) rfl hd hf (W := W) (by show 2 * 0 + _ ≤ _; omega) hl
  obtain ⟨s₂, o, st', r⟩ := K T' locs X' e' N
  exact ⟨s₂, o, st _ st', r⟩
def Pay (l : Launch) (Z : State) (R : Room) (yc : MethodName) (len W : Nat) (as' : Array Value) (n0 : Nat) (h : Heap) (cc ss : Nat) (Qc : Option Value → Heap → Prop) : Prop :=
  ∀ (p : Program) (e : Env) (below : List Frame) (s : State) (args : Array Value), Z.Warmed39 s.vm → Back l R p e below s args yc len W (fun A a => a = as' ∧ A.U.heap = h ∧ A.cells + cc ≤ R.cells ∧ A.slots + ss ≤ R.slots) (fun A _ v B => ∃ L, QQ n0 h Qc v B.U.heap L ∧ B.locs = A.locs ++ L ∧ B.cells = A.cells + cc ∧ B.slots = A.slots + ss)
theorem Pay.of {yc : MethodName} {cb : ByteArray} {cm len W : Nat} {cr : Option FieldType} {rm : Room} {as' : Array Value} {Qc : Option Value → Heap → Prop} (hM : Pays l Z yc cb cm cr rm as' n0 h Qc) (hw : ∀ d ∈ tables_1, d.before a0 Z = true) (w4 : Jvm.Cond.code yc cb cm cr ∈ tables_1) (w3 : Jvm.Cond.initialized yc.cls ∈ tables_1) (hr1 : rm.frames + 1 ≤ R.frames) (hr2 : W + (cm + 11) + rm.locals ≤ R.locals) : Pay l Z R yc len W as' n0 h rm.cells rm.slots Qc :=
  fun p e below s args hZ => backOf (W := W) (hM []) hZ (hw _ w4) (hw _ w3) hr1 hr2
theorem Cx.words (C : Cx B l Z a0 R y b mx rt nf) : ∀ d ∈ tables_1, d.before a0 Z = true := by
  obtain ⟨p, l', e, R', s, m, args, below, meth, c, Fin⟩ := B
  obtain ⟨rfl, rfl, hx, rfl, hml, hown, hnm, hret, hlk, hZ, hfin, hw⟩ := C
  exact hw
theorem iCallSB (C : Cx B l Z a0 R y b mx rt nf) {yc : MethodName} {as' : Array Value} {Qc : Option Value → Heap → Prop} {i W cc ss ce' sl' : Nat} {argsL : List Value} {cbx : ByteArray} {cmx : Nat} {crx : Option FieldType} (hM : Pay l Z R yc 3 W as' n0 h cc ss Qc) (w1 : Jvm.Cond.methodLink y.cls i yc ∈ tables_1) (w2 : Jvm.Cond.static yc ∈ tables_1) (w3 : Jvm.Cond.initialized yc.cls ∈ tables_1) (w4 : Jvm.Cond.code yc cbx cmx crx ∈ tables_1) (hy : yc.cls ≠ "java/lang/invoke/MethodHandle" ∧ yc.cls ≠ "java/lang/invoke/VarHandle") (hlen : ∀ sig, parseMethodDescriptor yc.desc = some sig → argsL.length = sig.parameters.length) (hS : S = argsL.reverse ++ S') (has : argsL.toArray = as') (hd : De b pc (.invokestatic i) 3 n) (hsz : Ls.size = mx) (hW : (S'.map fun v => v.category).sum = W) (hr : ce + cc = ce' ∧ sl + ss = sl' ∧ ce' ≤ R.cells ∧ sl' ≤ R.slots) (K : ∀ (v : Option Value) (h' : Heap), Qc v h' → Go B n0 Q h' ce' sl' n Ls (v.toList ++ S')) : Go B n0 Q h ce sl pc Ls S := by
  obtain ⟨p, l', e, R', s, m, args, below, meth, c, Fin⟩ := B
  obtain ⟨rfl, rfl, hx, rfl, hml, hown, hnm, hret, hlk, hZ, hfin, hw⟩ := C
  intro T locs X eT N
  obtain ⟨hd, rfl⟩ := hd
  obtain ⟨rfl, rfl, hr3, hr4⟩ := hr
  subst hS has
  obtain ⟨v, vm₁, ⟨T', L', k', n'⟩, -, X', ⟨Lc, hQ, l', y', z'⟩, st⟩ := Jvm.LawKit.callS X hx (y := yc) hown (mvT hZ (hw _ w1)) (mvT hZ (hw _ w2)) (mvT hZ (hw _ w3)) (mvT hZ (hw _ w4)) hy (hM p e below s args hZ) (g := mkF m pc Ls (argsL.reverse ++ S')) rfl (by rw [hml]; exact hsz) (argsL := argsL) (rest := S') hlen rfl (by show 2 * 0 + _ ≤ _; omega) hd (fun _ _ => ⟨rfl, eT, hr3, hr4⟩)
  dsimp only [Pt.U, Pt.locs, Pt.cells, Pt.slots] at X' l' y' z' st hQ
  subst l' y' z'
  obtain ⟨s₂, o, st', r1, r2, r3, r4⟩ := K v _ hQ.1 T' _ X' rfl (Fr.app N hQ.2.1)
  exact ⟨s₂, o, st _ st', r1, r2, Nat.le_trans hQ.2.2 r3, r4⟩
theorem iCallS (C : Cx B l Z a0 R y b mx rt nf) {yc : MethodName} {cb : ByteArray} {cm : Nat} {cr : Option FieldType} {rm : Room} {as' : Array Value} {Qc : Option Value → Heap → Prop} {i W ce' sl' : Nat} {argsL : List Value} (hM : Pays l Z yc cb cm cr rm as' n0 h Qc) (w1 : Jvm.Cond.methodLink y.cls i yc ∈ tables_1) (w2 : Jvm.Cond.static yc ∈ tables_1) (w3 : Jvm.Cond.initialized yc.cls ∈ tables_1) (w4 : Jvm.Cond.code yc cb cm cr ∈ tables_1) (hy : yc.cls ≠ "java/lang/invoke/MethodHandle" ∧ yc.cls ≠ "java/lang/invoke/VarHandle") (hlen : ∀ sig, parseMethodDescriptor yc.desc = some sig → argsL.length = sig.parameters.length) (hS : S = argsL.reverse ++ S') (has : argsL.toArray = as') (hd : De b pc (.invokestatic i) 3 n) (hsz : Ls.size = mx) (hW : (S'.map fun v => v.category).sum = W) (hr : rm.frames + 1 ≤ R.frames ∧ W + (cm + 11) + rm.locals ≤ R.locals ∧ ce + rm.cells = ce' ∧ sl + rm.slots = sl' ∧ ce' ≤ R.cells ∧ sl' ≤ R.slots) (K : ∀ (v : Option Value) (h' : Heap), Qc v h' → Go B n0 Q h' ce' sl' n Ls (v.toList ++ S')) : Go B n0 Q h ce sl pc Ls S :=
  iCallSB C (Pay.of hM C.words w4 w3 hr.1 hr.2.1) w1 w2 w3 w4 hy hlen hS has hd hsz hW hr.2.2 K
theorem iCallIB (C : Cx B l Z a0 R y b mx rt nf) {yc : MethodName} {as' : Array Value} {Qc : Option Value → Heap → Prop} {i W cc ss ce' sl' : Nat} {argsL : List Value} {a : Addr} {cbx : ByteArray} {cmx : Nat} (hM : Pay l Z R yc 3 W as' n0 h cc ss Qc) (hi : yc.name = "<init>") (w1 : Jvm.Cond.methodLink y.cls i yc ∈ tables_1) (w2 : Jvm.Cond.instanceMethod yc ∈ tables_1) (w4 : Jvm.Cond.code yc cbx cmx none ∈ tables_1) (hy : yc.cls ≠ "java/lang/invoke/MethodHandle" ∧ yc.cls ≠ "java/lang/invoke/VarHandle") (hlen : ∀ sig, parseMethodDescriptor yc.desc = some sig → argsL.length = sig.parameters.length) (hS : S = argsL.reverse ++ .ref a :: S') (has : (.ref a :: argsL).toArray = as') (hd : De b pc (.invokespecial i) 3 n) (hsz : Ls.size = mx) (hW : (S'.map fun v => v.category).sum = W) (hr : ce + cc = ce' ∧ sl + ss = sl' ∧ ce' ≤ R.cells ∧ sl' ≤ R.slots) (K : ∀ (v : Option Value) (h' : Heap), Qc v h' → Go B n0 Q h' ce' sl' n Ls (v.toList ++ S')) : Go B n0 Q h ce sl pc Ls S := by
  obtain ⟨p, l', e, R', s, m, args, below, meth, c, Fin⟩ := B
  obtain ⟨rfl, rfl, hx, rfl, hml, hown, hnm, hret, hlk, hZ, hfin, hw⟩ := C
  intro T locs X eT N
  obtain ⟨hd, rfl⟩ := hd
  obtain ⟨rfl, rfl, hr3, hr4⟩ := hr
  subst hS has
  obtain ⟨v, vm₁, ⟨T', L', k', n'⟩, -, X', ⟨Lc, hQ, l', y', z'⟩, st⟩ := X.specialBack hx (y := yc) hi hown (mvT hZ (hw _ w1)) (mvT hZ (hw _ w2)) (mvT hZ (hw _ w4)) hy (hM p e below s args hZ) (g := mkF m pc Ls (argsL.reverse ++ .ref a :: S')) rfl (by rw [hml]; exact hsz) (Steps.refl _) (a := a) (argsL := argsL) (rest := S') hlen rfl (by show 2 * 0 + _ ≤ _; omega) hd (fun _ _ => ⟨rfl, eT, hr3, hr4⟩)
  dsimp only [Pt.U, Pt.locs, Pt.cells, Pt.slots] at X' l' y' z' st hQ
  subst l' y' z'
  obtain ⟨s₂, o, st', r1, r2, r3, r4⟩ := K v _ hQ.1 T' _ X' rfl (Fr.app N hQ.2.1)
  exact ⟨s₂, o, st.trans st', r1, r2, Nat.le_trans hQ.2.2 r3, r4⟩
theorem iCallI (C : Cx B l Z a0 R y b mx rt nf) {yc : MethodName} {cb : ByteArray} {cm : Nat} {rm : Room} {as' : Array Value} {Qc : Option Value → Heap → Prop} {i W ce' sl' : Nat} {argsL : List Value} {a : Addr} (hM : Pays l Z yc cb cm none rm as' n0 h Qc) (hi : yc.name = "<init>") (w1 : Jvm.Cond.methodLink y.cls i yc ∈ tables_1) (w2 : Jvm.Cond.instanceMethod yc ∈ tables_1) (w3 : Jvm.Cond.initialized yc.cls ∈ tables_1) (w4 : Jvm.Cond.code yc cb cm none ∈ tables_1) (hy : yc.cls ≠ "java/lang/invoke/MethodHandle" ∧ yc.cls ≠ "java/lang/invoke/VarHandle") (hlen : ∀ sig, parseMethodDescriptor yc.desc = some sig → argsL.length = sig.parameters.length) (hS : S = argsL.reverse ++ .ref a :: S') (has : (.ref a :: argsL).toArray = as') (hd : De b pc (.invokespecial i) 3 n) (hsz : Ls.size = mx) (hW : (S'.map fun v => v.category).sum = W) (hr : rm.frames + 1 ≤ R.frames ∧ W + (cm + 11) + rm.locals ≤ R.locals ∧ ce + rm.cells = ce' ∧ sl + rm.slots = sl' ∧ ce' ≤ R.cells ∧ sl' ≤ R.slots) (K : ∀ (v : Option Value) (h' : Heap), Qc v h' → Go B n0 Q h' ce' sl' n Ls (v.toList ++ S')) : Go B n0 Q h ce sl pc Ls S :=
  iCallIB C (Pay.of hM C.words w4 w3 hr.1 hr.2.1) hi w1 w2 w4 hy hlen hS has hd hsz hW hr.2.2 K
theorem iCallVB (C : Cx B l Z a0 R y b mx rt nf) {yc : MethodName} {as' : Array Value} {Qc : Option Value → Heap → Prop} {i W cc ss ce' sl' : Nat} {argsL : List Value} {a : Addr} {CC : String} {yd : MethodName} (hM : Pay l Z R yc 3 W as' n0 h cc ss Qc) (E : Exa Z h a CC) (w1 : Jvm.Cond.methodLink y.cls i yd ∈ tables_1) (w2 : Jvm.Cond.declares yd ∈ tables_1) (wn : yd = yc ∨ ∃ SS, Jvm.Cond.superclass yd.cls SS ∈ tables_1) (w5 : Jvm.Cond.selects CC yd yc ∈ tables_1) (w6 : Jvm.Cond.instanceMethod yc ∈ tables_1) (hy : yd.cls ≠ "java/lang/invoke/MethodHandle" ∧ yd.cls ≠ "java/lang/invoke/VarHandle") (hlen : ∀ sig, parseMethodDescriptor yd.desc = some sig → argsL.length = sig.parameters.length) (hS : S = argsL.reverse ++ .ref a :: S') (has : (.ref a :: argsL).toArray = as') (hd : De b pc (.invokevirtual i) 3 n) (hsz : Ls.size = mx) (hW : (S'.map fun v => v.category).sum = W) (hr : ce + cc = ce' ∧ sl + ss = sl' ∧ ce' ≤ R.cells ∧ sl' ≤ R.slots) (K : ∀ (v : Option Value) (h' : Heap), Qc v h' → Go B n0 Q h' ce' sl' n Ls (v.toList ++ S')) : Go B n0 Q h ce sl pc Ls S := by
  obtain ⟨p, l', e, R', s, m, args, below, meth, c, Fin⟩ := B
  obtain ⟨rfl, rfl, hx, rfl, hml, hown, hnm, hret, hlk, hZ, hfin, hw⟩ := C
  intro T locs X eT N
  obtain ⟨hd, rfl⟩ := hd
  obtain ⟨rfl, rfl, hr3, hr4⟩ := hr
  subst hS has
  obtain ⟨cq, kq, q1, q2, q3⟩ := isOf hZ eT E
  have nf : NotFace s yd := by
    rcases wn with rfl | ⟨SS, wn⟩
    · exact notFace_of_selects (args := #[]) (mvT hZ (hw _ w5))
    · exact nf_super (args := #[]) (mvT hZ (hw _ wn))
  obtain ⟨v, vm₁, ⟨T', L', k', n'⟩, -, X', ⟨Lc, hQ, l', y', z'⟩, st⟩ := X.virtualBack hx (y := yd) (z := yc) hown (mvT hZ (hw _ w1)) (mvT hZ (hw _ w2)) nf (mvT hZ (hw _ w5)) (mvT hZ (hw _ w6)) hy (hM p e below s args hZ) q1 q3 (g := mkF m pc Ls (argsL.reverse ++ .ref a :: S')) rfl (by rw [hml]; exact hsz) (Steps.refl _) (argsL := argsL) (rest := S') hlen rfl (by show 2 * 0 + _ ≤ _; omega) hd (fun _ _ => ⟨rfl, eT, hr3, hr4⟩)
  dsimp only [Pt.U, Pt.locs, Pt.cells, Pt.slots] at X' l' y' z' st hQ
  subst l' y' z'
  obtain ⟨s₂, o, st', r1, r2, r3, r4⟩ := K v _ hQ.1 T' _ X' rfl (Fr.app N hQ.2.1)
  exact ⟨s₂, o, st.trans st', r1, r2, Nat.le_trans hQ.2.2 r3, r4⟩
theorem iCallV (C : Cx B l Z a0 R y b mx rt nf) {yc : MethodName} {cb : ByteArray} {cm : Nat} {cr : Option FieldType} {rm : Room} {as' : Array Value} {Qc : Option Value → Heap → Prop} {i W ce' sl' : Nat} {argsL : List Value} {a : Addr} {CC : String} {yd : MethodName} (hM : Pays l Z yc cb cm cr rm as' n0 h Qc) (E : Exa Z h a CC) (w1 : Jvm.Cond.methodLink y.cls i yd ∈ tables_1) (w2 : Jvm.Cond.declares yd ∈ tables_1) (wn : yd = yc ∨ ∃ SS, Jvm.Cond.superclass yd.cls SS ∈ tables_1) (w5 : Jvm.Cond.selects CC yd yc ∈ tables_1) (w6 : Jvm.Cond.instanceMethod yc ∈ tables_1) (w3 : Jvm.Cond.initialized yc.cls ∈ tables_1) (w4 : Jvm.Cond.code yc cb cm cr ∈ tables_1) (hy : yd.cls ≠ "java/lang/invoke/MethodHandle" ∧ yd.cls ≠ "java/lang/invoke/VarHandle") (hlen : ∀ sig, parseMethodDescriptor yd.desc = some sig → argsL.length = sig.parameters.length) (hS : S = argsL.reverse ++ .ref a :: S') (has : (.ref a :: argsL).toArray = as') (hd : De b pc (.invokevirtual i) 3 n) (hsz : Ls.size = mx) (hW : (S'.map fun v => v.category).sum = W) (hr : rm.frames + 1 ≤ R.frames ∧ W + (cm + 11) + rm.locals ≤ R.locals ∧ ce + rm.cells = ce' ∧ sl + rm.slots = sl' ∧ ce' ≤ R.cells ∧ sl' ≤ R.slots) (K : ∀ (v : Option Value) (h' : Heap), Qc v h' → Go B n0 Q h' ce' sl' n Ls (v.toList ++ S')) : Go B n0 Q h ce sl pc Ls S :=
  iCallVB C (Pay.of hM C.words w4 w3 hr.1 hr.2.1) E w1 w2 wn w5 w6 hy hlen hS has hd hsz hW hr.2.2 K
theorem iCallFB (C : Cx B l Z a0 R y b mx rt nf) {yc : MethodName} {as' : Array Value} {Qc : Option Value → Heap → Prop} {i W cc ss ce' sl' : Nat} {argsL : List Value} {a : Addr} {CC : String} {yd : MethodName} {cnt : Nat} (hM : Pay l Z R yc 5 W as' n0 h cc ss Qc) (E : Exa Z h a CC) (w1 : Jvm.Cond.methodLink y.cls i yd ∈ tables_1) (w2 : Jvm.Cond.declares yd ∈ tables_1) (w7 : Jvm.Cond.interfaceMethod yd.cls yd.cls yd.name yd.desc ∈ tables_1) (h7 : ((Jvm.Cond.interfaceMethod yd.cls yd.cls yd.name yd.desc).onTables && (Jvm.Cond.interfaceMethod yd.cls yd.cls yd.name yd.desc).keepsFace) = true) (w5 : Jvm.Cond.selects CC yd yc ∈ tables_1) (w6 : Jvm.Cond.instanceMethod yc ∈ tables_1) (w8 : Jvm.Cond.publicMethod yc ∈ tables_1) (w9 : Jvm.Cond.unhidden CC yd.name yd.desc ∈ tables_1) (w0 : Jvm.Cond.castable CC yd.cls ∈ tables_1) (hy : yd.cls ≠ "java/lang/invoke/MethodHandle" ∧ yd.cls ≠ "java/lang/invoke/VarHandle") (hlen : ∀ sig, parseMethodDescriptor yd.desc = some sig → argsL.length = sig.parameters.length) (hS : S = argsL.reverse ++ .ref a :: S') (has : (.ref a :: argsL).toArray = as') (hd : De b pc (.invokeinterface i cnt) 5 n) (hsz : Ls.size = mx) (hW : (S'.map fun v => v.category).sum = W) (hr : ce + cc = ce' ∧ sl + ss = sl' ∧ ce' ≤ R.cells ∧ sl' ≤ R.slots) (K : ∀ (v : Option Value) (h' : Heap), Qc v h' → Go B n0 Q h' ce' sl' n Ls (v.toList ++ S')) : Go B n0 Q h ce sl pc Ls S := by
  obtain ⟨p, l', e, R', s, m, args, below, meth, c, Fin⟩ := B
  obtain ⟨rfl, rfl, hx, rfl, hml, hown, hnm, hret, hlk, hZ, hfin, hw⟩ := C
  intro T locs X eT N
  obtain ⟨hd, rfl⟩ := hd
  obtain ⟨rfl, rfl, hr3, hr4⟩ := hr
  subst hS has
  obtain ⟨cq, kq, q1, q2, q3⟩ := isOf hZ eT E
  obtain ⟨v, vm₁, ⟨T', L', k', n'⟩, -, X', ⟨Lc, hQ, l', y', z'⟩, st⟩ := X.interfaceBack hx (xi := yd) (y := yc) hown (mvT hZ (hw _ w1)) (mvT hZ (hw _ w2)) (mvT hZ (hw _ w7) h7) (mvT hZ (hw _ w5)) (mvT hZ (hw _ w6)) (mvT hZ (hw _ w8)) (mvT hZ (hw _ w9)) (mvT hZ (hw _ w0)) hy (hM p e below s args hZ) q1 q2 q3 (g := mkF m pc Ls (argsL.reverse ++ .ref a :: S')) rfl (by rw [hml]; exact hsz) (Steps.refl _) (argsL := argsL) (rest := S') hlen rfl (by show 2 * 0 + _ ≤ _; omega) hd (fun _ _ => ⟨rfl, eT, hr3, hr4⟩)
  dsimp only [Pt.U, Pt.locs, Pt.cells, Pt.slots] at X' l' y' z' st hQ
  subst l' y' z'
  obtain ⟨s₂, o, st', r1, r2, r3, r4⟩ := K v _ hQ.1 T' _ X' rfl (Fr.app N hQ.2.1)
  exact ⟨s₂, o, st.trans st', r1, r2, Nat.le_trans hQ.2.2 r3, r4⟩
theorem iCallF (C : Cx B l Z a0 R y b mx rt nf) {yc : MethodName} {cb : ByteArray} {cm : Nat} {cr : Option FieldType} {rm : Room} {as' : Array Value} {Qc : Option Value → Heap → Prop} {i W ce' sl' : Nat} {argsL : List Value} {a : Addr} {CC : String} {yd : MethodName} {cnt : Nat} (hM : Pays l Z yc cb cm cr rm as' n0 h Qc) (E : Exa Z h a CC) (w1 : Jvm.Cond.methodLink y.cls i yd ∈ tables_1) (w2 : Jvm.Cond.declares yd ∈ tables_1) (w7 : Jvm.Cond.interfaceMethod yd.cls yd.cls yd.name yd.desc ∈ tables_1) (h7 : ((Jvm.Cond.interfaceMethod yd.cls yd.cls yd.name yd.desc).onTables && (Jvm.Cond.interfaceMethod yd.cls yd.cls yd.name yd.desc).keepsFace) = true) (w5 : Jvm.Cond.selects CC yd yc ∈ tables_1) (w6 : Jvm.Cond.instanceMethod yc ∈ tables_1) (w8 : Jvm.Cond.publicMethod yc ∈ tables_1) (w9 : Jvm.Cond.unhidden CC yd.name yd.desc ∈ tables_1) (w0 : Jvm.Cond.castable CC yd.cls ∈ tables_1) (w3 : Jvm.Cond.initialized yc.cls ∈ tables_1) (w4 : Jvm.Cond.code yc cb cm cr ∈ tables_1) (hy : yd.cls ≠ "java/lang/invoke/MethodHandle" ∧ yd.cls ≠ "java/lang/invoke/VarHandle") (hlen : ∀ sig, parseMethodDescriptor yd.desc = some sig → argsL.length = sig.parameters.length) (hS : S = argsL.reverse ++ .ref a :: S') (has : (.ref a :: argsL).toArray = as') (hd : De b pc (.invokeinterface i cnt) 5 n) (hsz : Ls.size = mx) (hW : (S'.map fun v => v.category).sum = W) (hr : rm.frames + 1 ≤ R.frames ∧ W + (cm + 11) + rm.locals ≤ R.locals ∧ ce + rm.cells = ce' ∧ sl + rm.slots = sl' ∧ ce' ≤ R.cells ∧ sl' ≤ R.slots) (K : ∀ (v : Option Value) (h' : Heap), Qc v h' → Go B n0 Q h' ce' sl' n Ls (v.toList ++ S')) : Go B n0 Q h ce sl pc Ls S :=
  iCallFB C (Pay.of hM C.words w4 w3 hr.1 hr.2.1) E w1 w2 w7 h7 w5 w6 w8 w9 w0 hy hlen hS has hd hsz hW hr.2.2 K
theorem iLen (C : Cx B l Z a0 R y b mx rt nf) {a : Addr} {cl : Cell} {ty : FieldType} {z : Int32} (A : Arr Z h a cl ty) (hz : cl.slots.size.toInt32 = z) (hd : De b pc (.arraylength) 1 n) (K : Go B n0 Q h ce sl n Ls (.int z :: S)) : Go B n0 Q h ce sl pc Ls (.ref a :: S) := by
  obtain ⟨p, l', e, R', s, m, args, below, meth, c, Fin⟩ := B
  obtain ⟨rfl, rfl, hx, rfl, hml, hown, hnm, hret, hlk, hZ, hfin, hw⟩ := C
  intro T locs X eT N
  obtain ⟨hd, rfl⟩ := hd
  subst hz
  obtain ⟨s₂, o, st, r⟩ := K T locs X eT N
  exact ⟨s₂, o, X.arraylength hx (by rw [eT]; exact A.1) (State.isArrayOf_alike hZ.alike A.2.1) (g := mkF m pc Ls (.ref a :: S)) rfl rfl hd _ st, r⟩
theorem iIaload (C : Cx B l Z a0 R y b mx rt nf) {a : Addr} {cl : Cell} {j : Int32} {v : Value} (A : Arr Z h a cl .int) (hj : ¬ (j < 0 ∨ cl.slots.size ≤ j.toNatClampNeg)) (hv : cl.slots[j.toNatClampNeg]? = some v) (hd : De b pc (.iaload) 1 n) (K : Go B n0 Q h ce sl n Ls (v :: S)) : Go B n0 Q h ce sl pc Ls (.int j :: .ref a :: S) := by
  obtain ⟨p, l', e, R', s, m, args, below, meth, c, Fin⟩ := B
  obtain ⟨rfl, rfl, hx, rfl, hml, hown, hnm, hret, hlk, hZ, hfin, hw⟩ := C
  intro T locs X eT N
  obtain ⟨hd, rfl⟩ := hd
  obtain ⟨s₂, o, st, r⟩ := K T locs X eT N
  exact ⟨s₂, o, X.iaload hx (by rw [eT]; exact A.1) (State.isArrayOf_alike hZ.alike A.2.1) A.2.2 hj hv (g := mkF m pc Ls (.int j :: .ref a :: S)) rfl rfl hd _ st, r⟩
theorem iCaload (C : Cx B l Z a0 R y b mx rt nf) {a : Addr} {cl : Cell} {j : Int32} {v : Value} (A : Arr Z h a cl .char) (hj : ¬ (j < 0 ∨ cl.slots.size ≤ j.toNatClampNeg)) (hv : cl.slots[j.toNatClampNeg]? = some v) (hd : De b pc (.caload) 1 n) (K : Go B n0 Q h ce sl n Ls (v :: S)) : Go B n0 Q h ce sl pc Ls (.int j :: .ref a :: S) := by
  obtain ⟨p, l', e, R', s, m, args, below, meth, c, Fin⟩ := B
  obtain ⟨rfl, rfl, hx, rfl, hml, hown, hnm, hret, hlk, hZ, hfin, hw⟩ := C
  intro T locs X eT N
  obtain ⟨hd, rfl⟩ := hd
  obtain ⟨s₂, o, st, r⟩ := K T locs X eT N
  exact ⟨s₂, o, X.caload hx (by rw [eT]; exact A.1) (State.isArrayOf_alike hZ.alike A.2.1) A.2.2 hj hv (g := mkF m pc Ls (.int j :: .ref a :: S)) rfl rfl hd _ st, r⟩
theorem iBaload (C : Cx B l Z a0 R y b mx rt nf) {a : Addr} {cl : Cell} {j : Int32} {v : Value} (A : Arr Z h a cl .byte) (hj : ¬ (j < 0 ∨ cl.slots.size ≤ j.toNatClampNeg)) (hv : cl.slots[j.toNatClampNeg]? = some v) (hd : De b pc (.baload) 1 n) (K : Go B n0 Q h ce sl n Ls (v :: S)) : Go B n0 Q h ce sl pc Ls (.int j :: .ref a :: S) := by
  obtain ⟨p, l', e, R', s, m, args, below, meth, c, Fin⟩ := B
  obtain ⟨rfl, rfl, hx, rfl, hml, hown, hnm, hret, hlk, hZ, hfin, hw⟩ := C
  intro T locs X eT N
  obtain ⟨hd, rfl⟩ := hd
  obtain ⟨s₂, o, st, r⟩ := K T locs X eT N
  exact ⟨s₂, o, X.baloadBytes hx (by rw [eT]; exact A.1) (State.isArrayOf_alike hZ.alike A.2.1) A.2.2 hj hv (g := mkF m pc Ls (.int j :: .ref a :: S)) rfl rfl hd _ st, r⟩
theorem iLaload (C : Cx B l Z a0 R y b mx rt nf) {a : Addr} {cl : Cell} {j : Int32} {v : Value} (A : Arr Z h a cl .long) (hj : ¬ (j < 0 ∨ cl.slots.size ≤ j.toNatClampNeg)) (hv : cl.slots[j.toNatClampNeg]? = some v) (hd : De b pc (.laload) 1 n) (K : Go B n0 Q h ce sl n Ls (v :: S)) : Go B n0 Q h ce sl pc Ls (.int j :: .ref a :: S) := by
  obtain ⟨p, l', e, R', s, m, args, below, meth, c, Fin⟩ := B
  obtain ⟨rfl, rfl, hx, rfl, hml, hown, hnm, hret, hlk, hZ, hfin, hw⟩ := C
  intro T locs X eT N
  obtain ⟨hd, rfl⟩ := hd
  obtain ⟨s₂, o, st, r⟩ := K T locs X eT N
  exact ⟨s₂, o, X.laload hx (by rw [eT]; exact A.1) (State.isArrayOf_alike hZ.alike A.2.1) A.2.2 hj hv (g := mkF m pc Ls (.int j :: .ref a :: S)) rfl rfl hd _ st, r⟩
theorem iAaload (C : Cx B l Z a0 R y b mx rt nf) {a : Addr} {cl : Cell} {j : Int32} {v : Value} {ty : FieldType} (hty : ty.isReference = true) (A : Arr Z h a cl ty) (hj : ¬ (j < 0 ∨ cl.slots.size ≤ j.toNatClampNeg)) (hv : cl.slots[j.toNatClampNeg]? = some v) (hd : De b pc (.aaload) 1 n) (K : Go B n0 Q h ce sl n Ls (v :: S)) : Go B n0 Q h ce sl pc Ls (.int j :: .ref a :: S) := by
  obtain ⟨p, l', e, R', s, m, args, below, meth, c, Fin⟩ := B
  obtain ⟨rfl, rfl, hx, rfl, hml, hown, hnm, hret, hlk, hZ, hfin, hw⟩ := C
  intro T locs X eT N
  obtain ⟨hd, rfl⟩ := hd
  obtain ⟨s₂, o, st, r⟩ := K T locs X eT N
  exact ⟨s₂, o, X.aaload hx (by rw [eT]; exact A.1) (State.isArrayOf_alike hZ.alike A.2.1) hty A.2.2 hj hv (g := mkF m pc Ls (.int j :: .ref a :: S)) rfl rfl hd _ st, r⟩
theorem iNewP (C : Cx B l Z a0 R y b mx rt nf) {aty : ArrayType} {z : Int32} {cap ce' sl' : Nat} (w : Jvm.Cond.arrayClass (newarray.typeOf aty) ∈ tables_1) (hd : De b pc (.newarray aty) 2 n) (hz : ¬ z < 0) (hcap : z.toNatClampNeg ≤ cap) (hb : cap * 8 ≤ 536870912) (hc : ce + 1 = ce' ∧ sl + cap = sl' ∧ ce' ≤ R.cells ∧ sl' ≤ R.slots) (K : ∀ (h' : Heap) (a : Addr) (k : ClassId), a = h.size → Ext h h' → Arv Z h' a k (newarray.typeOf aty) z [] (defaultValue (newarray.typeOf aty)) → Go B n0 Q h' ce' sl' n Ls (.ref a :: S)) : Go B n0 Q h ce sl pc Ls (.int z :: S) := by
  obtain ⟨p, l', e, R', s, m, args, below, meth, c, Fin⟩ := B
  obtain ⟨rfl, rfl, hx, rfl, hml, hown, hnm, hret, hlk, hZ, hfin, hw⟩ := C
  intro T locs X eT N
  obtain ⟨hd, rfl⟩ := hd
  obtain ⟨rfl, rfl, hc, hs⟩ := hc
  obtain ⟨T', h', kA, X', e', E, A, st⟩ := newP X hx hZ (hw _ w) eT (g := mkF m pc Ls (.int z :: S)) rfl hd rfl hz hcap hb hc hs
  obtain ⟨s₂, o, st', r1, r2, r3, r4⟩ := K h' _ kA rfl E (Arv.new A hz) T' locs X' e' N
  exact ⟨s₂, o, st _ st', r1, r2, Nat.le_trans E.1 r3, r4⟩
theorem iIastore (C : Cx B l Z a0 R y b mx rt nf) {a : Addr} {cl : Cell} {j : Int32} {x : Int32} (A : Arr Z h a cl .int) (hj : ¬ (j < 0 ∨ cl.slots.size ≤ j.toNatClampNeg)) (ha : n0 ≤ a) (hd : De b pc (.iastore) 1 n) (K : ∀ h', Wr h h' a j.toNatClampNeg (.int x) → Go B n0 Q h' ce sl n Ls S) : Go B n0 Q h ce sl pc Ls (.int x :: .int j :: .ref a :: S) := by
  obtain ⟨p, l', e, R', s, m, args, below, meth, c, Fin⟩ := B
  obtain ⟨rfl, rfl, hx, rfl, hml, hown, hnm, hret, hlk, hZ, hfin, hw⟩ := C
  intro T locs X eT N
  obtain ⟨hd, rfl⟩ := hd
  obtain ⟨T', h', X', e', W, st⟩ := stI X hx hZ eT A (j := j) hj (g := mkF m pc Ls (.int x :: .int j :: .ref a :: S)) rfl rfl hd
  obtain ⟨s₂, o, st', r1, r2, r3, r4⟩ := K h' W T' _ X' e' (Fr.snoc X' N ha)
  exact ⟨s₂, o, st _ st', r1, r2, Nat.le_trans (Nat.le_of_eq W.size.symm) r3, r4⟩
theorem iCastore (C : Cx B l Z a0 R y b mx rt nf) {a : Addr} {cl : Cell} {j : Int32} {x : Int32} (A : Arr Z h a cl .char) (hj : ¬ (j < 0 ∨ cl.slots.size ≤ j.toNatClampNeg)) (ha : n0 ≤ a) (hd : De b pc (.castore) 1 n) (K : ∀ h', Wr h h' a j.toNatClampNeg (.int (nar .char x)) → Go B n0 Q h' ce sl n Ls S) : Go B n0 Q h ce sl pc Ls (.int x :: .int j :: .ref a :: S) := by
  obtain ⟨p, l', e, R', s, m, args, below, meth, c, Fin⟩ := B
  obtain ⟨rfl, rfl, hx, rfl, hml, hown, hnm, hret, hlk, hZ, hfin, hw⟩ := C
  intro T locs X eT N
  obtain ⟨hd, rfl⟩ := hd
  obtain ⟨T', h', X', e', W, st⟩ := stC X hx hZ eT A (j := j) hj (g := mkF m pc Ls (.int x :: .int j :: .ref a :: S)) rfl rfl hd
  obtain ⟨s₂, o, st', r1, r2, r3, r4⟩ := K h' W T' _ X' e' (Fr.snoc X' N ha)
  exact ⟨s₂, o, st _ st', r1, r2, Nat.le_trans (Nat.le_of_eq W.size.symm) r3, r4⟩
theorem iBastore (C : Cx B l Z a0 R y b mx rt nf) {a : Addr} {cl : Cell} {j : Int32} {x : Int32} (A : Arr Z h a cl .byte) (hj : ¬ (j < 0 ∨ cl.slots.size ≤ j.toNatClampNeg)) (ha : n0 ≤ a) (hd : De b pc (.bastore) 1 n) (K : ∀ h', Wr h h' a j.toNatClampNeg (.int (nar .byte x)) → Go B n0 Q h' ce sl n Ls S) : Go B n0 Q h ce sl pc Ls (.int x :: .int j :: .ref a :: S) := by
  obtain ⟨p, l', e, R', s, m, args, below, meth, c, Fin⟩ := B
  obtain ⟨rfl, rfl, hx, rfl, hml, hown, hnm, hret, hlk, hZ, hfin, hw⟩ := C
  intro T locs X eT N
  obtain ⟨hd, rfl⟩ := hd
  obtain ⟨T', h', X', e', W, st⟩ := stB X hx hZ eT A (j := j) hj (g := mkF m pc Ls (.int x :: .int j :: .ref a :: S)) rfl rfl hd
  obtain ⟨s₂, o, st', r1, r2, r3, r4⟩ := K h' W T' _ X' e' (Fr.snoc X' N ha)
  exact ⟨s₂, o, st _ st', r1, r2, Nat.le_trans (Nat.le_of_eq W.size.symm) r3, r4⟩
theorem iLastore (C : Cx B l Z a0 R y b mx rt nf) {a : Addr} {cl : Cell} {j : Int32} {x : Int64} (A : Arr Z h a cl .long) (hj : ¬ (j < 0 ∨ cl.slots.size ≤ j.toNatClampNeg)) (ha : n0 ≤ a) (hd : De b pc (.lastore) 1 n) (K : ∀ h', Wr h h' a j.toNatClampNeg (.long x) → Go B n0 Q h' ce sl n Ls S) : Go B n0 Q h ce sl pc Ls (.long x :: .int j :: .ref a :: S) := by
  obtain ⟨p, l', e, R', s, m, args, below, meth, c, Fin⟩ := B
  obtain ⟨rfl, rfl, hx, rfl, hml, hown, hnm, hret, hlk, hZ, hfin, hw⟩ := C
  intro T locs X eT N
  obtain ⟨hd, rfl⟩ := hd
  obtain ⟨T', h', X', e', W, st⟩ := stJ X hx hZ eT A (j := j) hj (g := mkF m pc Ls (.long x :: .int j :: .ref a :: S)) rfl rfl hd
  obtain ⟨s₂, o, st', r1, r2, r3, r4⟩ := K h' W T' _ X' e' (Fr.snoc X' N ha)
  exact ⟨s₂, o, st _ st', r1, r2, Nat.le_trans (Nat.le_of_eq W.size.symm) r3, r4⟩
theorem iAastore (C : Cx B l Z a0 R y b mx rt nf) {a : Addr} {cl : Cell} {j : Int32} {v : Value} {ty : FieldType} (A : Arr Z h a cl ty) (hj : ¬ (j < 0 ∨ cl.slots.size ≤ j.toNatClampNeg)) (hty : ty.isReference = true) (F : Sto Z h a v) (ha : n0 ≤ a) (hd : De b pc (.aastore) 1 n) (K : ∀ h', Wr h h' a j.toNatClampNeg v → Go B n0 Q h' ce sl n Ls S) : Go B n0 Q h ce sl pc Ls (v :: .int j :: .ref a :: S) := by
  obtain ⟨p, l', e, R', s, m, args, below, meth, c, Fin⟩ := B
  obtain ⟨rfl, rfl, hx, rfl, hml, hown, hnm, hret, hlk, hZ, hfin, hw⟩ := C
  intro T locs X eT N
  obtain ⟨hd, rfl⟩ := hd
  obtain ⟨T', h', X', e', W, st⟩ := stR X hx hZ eT A (j := j) hj hty F (g := mkF m pc Ls (v :: .int j :: .ref a :: S)) rfl rfl hd
  obtain ⟨s₂, o, st', r1, r2, r3, r4⟩ := K h' W T' _ X' e' (Fr.snoc X' N ha)
  exact ⟨s₂, o, st _ st', r1, r2, Nat.le_trans (Nat.le_of_eq W.size.symm) r3, r4⟩
theorem iCast (C : Cx B l Z a0 R y b mx rt nf) {i : Nat} {a : Addr} {K0 : String} (w : Jvm.Cond.classLink y.cls i K0 ∈ tables_1) (F : Ins Z h a K0 true) (hd : De b pc (.checkcast i) 3 n) (K : Go B n0 Q h ce sl n Ls (.ref a :: S)) : Go B n0 Q h ce sl pc Ls (.ref a :: S) := by
  obtain ⟨p, l', e, R', s, m, args, below, meth, c, Fin⟩ := B
  obtain ⟨rfl, rfl, hx, rfl, hml, hown, hnm, hret, hlk, hZ, hfin, hw⟩ := C
  intro T locs X eT N
  obtain ⟨hd, rfl⟩ := hd
  obtain ⟨T', X', e', st⟩ := castY X hx hZ hown (hw _ w) eT F (g := mkF m pc Ls (.ref a :: S)) rfl rfl hd
  obtain ⟨s₂, o, st', r⟩ := K T' locs X' e' N
  exact ⟨s₂, o, st _ st', r⟩
theorem iInstY (C : Cx B l Z a0 R y b mx rt nf) {i : Nat} {a : Addr} {K0 : String} (w : Jvm.Cond.classLink y.cls i K0 ∈ tables_1) (F : Ins Z h a K0 true) (hd : De b pc (.instanceof i) 3 n) (K : Go B n0 Q h ce sl n Ls (.int 1 :: S)) : Go B n0 Q h ce sl pc Ls (.ref a :: S) := by
  obtain ⟨p, l', e, R', s, m, args, below, meth, c, Fin⟩ := B
  obtain ⟨rfl, rfl, hx, rfl, hml, hown, hnm, hret, hlk, hZ, hfin, hw⟩ := C
  intro T locs X eT N
  obtain ⟨hd, rfl⟩ := hd
  obtain ⟨T', X', e', st⟩ := instY X hx hZ hown (hw _ w) eT F (g := mkF m pc Ls (.ref a :: S)) rfl rfl hd
  obtain ⟨s₂, o, st', r⟩ := K T' locs X' e' N
  exact ⟨s₂, o, st _ st', r⟩
theorem iInstN (C : Cx B l Z a0 R y b mx rt nf) {i : Nat} {a : Addr} {K0 CC : String} (w : Jvm.Cond.classLink y.cls i K0 ∈ tables_1) (E : Exa Z h a CC) (F : ∃ c t, Z.vm.findClass CC = some c ∧ Z.vm.findClass K0 = some t ∧ Z.vm.assignable c t = false) (hd : De b pc (.instanceof i) 3 n) (K : Go B n0 Q h ce sl n Ls (.int 0 :: S)) : Go B n0 Q h ce sl pc Ls (.ref a :: S) := by
  obtain ⟨p, l', e, R', s, m, args, below, meth, c, Fin⟩ := B
  obtain ⟨rfl, rfl, hx, rfl, hml, hown, hnm, hret, hlk, hZ, hfin, hw⟩ := C
  intro T locs X eT N
  obtain ⟨hd, rfl⟩ := hd
  obtain ⟨T', X', e', st⟩ := instNo X hx hZ hown (hw _ w) eT E F (g := mkF m pc Ls (.ref a :: S)) rfl rfl hd
  obtain ⟨s₂, o, st', r⟩ := K T' locs X' e' N
  exact ⟨s₂, o, st _ st', r⟩
theorem iRetV  (C : Cx B l Z a0 R y b mx none nf) (M : Nx B nf) (hd : De b pc (.return_) 1 n) (hc : nf ≤ n0 ∧ ce ≤ R.cells ∧ sl ≤ R.slots) (hQ : Q none h) : Go B n0 Q h ce sl pc Ls ([]) := by
  obtain ⟨p, l', e, R', s, m, args, below, meth, c, Fin⟩ := B
  obtain ⟨rfl, rfl, hx, rfl, hml, hown, hnm, hret, hlk, hZ, hfin, hw⟩ := C
  intro T locs X eT N
  obtain ⟨hd, rfl⟩ := hd
  obtain ⟨fs, hr, hrun, hended, hW, hsame⟩ := X.leave (v := none) (fun q => by first | rfl | (rw [hret] at q; cases q)) hlk
  exact ⟨_, _, X.returnOut hx hret hd hr, hrun, hended, Nat.le_of_eq (eT ▸ rfl), _, _, rfl, eT ▸ hQ, M _ _ _ (fun y hy => Nat.le_trans hc.1 (N y hy)) ⟨⟨_, rfl⟩, hW, hsame.mono hc.2.1 hc.2.2⟩⟩
theorem iRetZ {z : Int32} {t : FieldType} (C : Cx B l Z a0 R y b mx (some t) nf) (M : Nx B nf) (hd : De b pc (.ireturn) 1 n) (ht : t = .boolean ∨ t = .byte ∨ t = .char ∨ t = .short) (hc : nf ≤ n0 ∧ ce ≤ R.cells ∧ sl ≤ R.slots) (hQ : Q (some (.int (nar t z))) h) : Go B n0 Q h ce sl pc Ls (.int z :: S) := by
  obtain ⟨p, l', e, R', s, m, args, below, meth, c, Fin⟩ := B
  obtain ⟨rfl, rfl, hx, rfl, hml, hown, hnm, hret, hlk, hZ, hfin, hw⟩ := C
  intro T locs X eT N
  obtain ⟨hd, rfl⟩ := hd
  obtain ⟨fs, hr, hrun, hended, hW, hsame⟩ := X.leave (v := (some (.int (nar t z)))) (fun q => by first | rfl | (rw [hret] at q; cases q)) hlk
  exact ⟨_, _, retN X hx hret ht hd hr, hrun, hended, Nat.le_of_eq (eT ▸ rfl), _, _, rfl, eT ▸ hQ, M _ _ _ (fun y hy => Nat.le_trans hc.1 (N y hy)) ⟨⟨_, rfl⟩, hW, hsame.mono hc.2.1 hc.2.2⟩⟩
theorem iRetI {z : Int32} (C : Cx B l Z a0 R y b mx (some .int) nf) (M : Nx B nf) (hd : De b pc (.ireturn) 1 n) (hc : nf ≤ n0 ∧ ce ≤ R.cells ∧ sl ≤ R.slots) (hQ : Q (some (.int z)) h) : Go B n0 Q h ce sl pc Ls (.int z :: S) := by
  obtain ⟨p, l', e, R', s, m, args, below, meth, c, Fin⟩ := B
  obtain ⟨rfl, rfl, hx, rfl, hml, hown, hnm, hret, hlk, hZ, hfin, hw⟩ := C
  intro T locs X eT N
  obtain ⟨hd, rfl⟩ := hd
  obtain ⟨fs, hr, hrun, hended, hW, hsame⟩ := X.leave (v := (some (.int z))) (fun q => by first | rfl | (rw [hret] at q; cases q)) hlk
  exact ⟨_, _, retOut X hx hret rfl (Or.inl ⟨rfl, Or.inl rfl, z, rfl⟩) hd hr, hrun, hended, Nat.le_of_eq (eT ▸ rfl), _, _, rfl, eT ▸ hQ, M _ _ _ (fun y hy => Nat.le_trans hc.1 (N y hy)) ⟨⟨_, rfl⟩, hW, hsame.mono hc.2.1 hc.2.2⟩⟩
theorem iRetA {w : Value} {t : FieldType} (C : Cx B l Z a0 R y b mx (some t) nf) (M : Nx B nf) (hd : De b pc (.areturn) 1 n) (ht : t.isReference = true) (hw' : w.isRef = true) (hna : narrow t w = w) (hc : nf ≤ n0 ∧ ce ≤ R.cells ∧ sl ≤ R.slots) (hQ : Q (some w) h) : Go B n0 Q h ce sl pc Ls (w :: S) := by
  obtain ⟨p, l', e, R', s, m, args, below, meth, c, Fin⟩ := B
  obtain ⟨rfl, rfl, hx, rfl, hml, hown, hnm, hret, hlk, hZ, hfin, hw⟩ := C
  intro T locs X eT N
  obtain ⟨hd, rfl⟩ := hd
  obtain ⟨fs, hr, hrun, hended, hW, hsame⟩ := X.leave (v := (some w)) (fun q => by first | rfl | (rw [hret] at q; cases q)) hlk
  exact ⟨_, _, retOut X hx hret hna (Or.inr (Or.inr (Or.inr (Or.inr ⟨rfl, ht, hw'⟩)))) hd hr, hrun, hended, Nat.le_of_eq (eT ▸ rfl), _, _, rfl, eT ▸ hQ, M _ _ _ (fun y hy => Nat.le_trans hc.1 (N y hy)) ⟨⟨_, rfl⟩, hW, hsame.mono hc.2.1 hc.2.2⟩⟩
theorem iRetJ {z : Int64} (C : Cx B l Z a0 R y b mx (some .long) nf) (M : Nx B nf) (hd : De b pc (.lreturn) 1 n) (hc : nf ≤ n0 ∧ ce ≤ R.cells ∧ sl ≤ R.slots) (hQ : Q (some (.long z)) h) : Go B n0 Q h ce sl pc Ls (.long z :: S) := by
  obtain ⟨p, l', e, R', s, m, args, below, meth, c, Fin⟩ := B
  obtain ⟨rfl, rfl, hx, rfl, hml, hown, hnm, hret, hlk, hZ, hfin, hw⟩ := C
  intro T locs X eT N
  obtain ⟨hd, rfl⟩ := hd
  obtain ⟨fs, hr, hrun, hended, hW, hsame⟩ := X.leave (v := (some (.long z))) (fun q => by first | rfl | (rw [hret] at q; cases q)) hlk
  exact ⟨_, _, retOut X hx hret rfl (Or.inr (Or.inl ⟨rfl, rfl, z, rfl⟩)) hd hr, hrun, hended, Nat.le_of_eq (eT ▸ rfl), _, _, rfl, eT ▸ hQ, M _ _ _ (fun y hy => Nat.le_trans hc.1 (N y hy)) ⟨⟨_, rfl⟩, hW, hsame.mono hc.2.1 hc.2.2⟩⟩
theorem oFresh {a : Addr} (O : Old Z n0 h) (g : a = h.size) : n0 ≤ a := by
  have q1 := O.1
  have q2 := O.2.1
  subst g
  omega
theorem oNe {a a' : Addr} (q : a < h.size) (g : h.size ≤ a') : a ≠ a' := Nat.ne_of_lt (Nat.lt_of_lt_of_le q g)
theorem oSize (O : Old Z n0 h) : n0 ≤ h.size := by
  have q1 := O.1
  have q2 := O.2.1
  omega
theorem acE {x z : Value} (q : x = z) : XT.acmp .eq x z = true ∧ XT.acmp .ne x z = false := by
  show decide (x = z) = true ∧ decide (x ≠ z) = false
  simp [q]
theorem acN {x z : Value} (q : ¬ x = z) : XT.acmp .eq x z = false ∧ XT.acmp .ne x z = true := by
  show decide (x = z) = false ∧ decide (x ≠ z) = true
  simp [q]
theorem acNr {a a' : Addr} (q : ¬ a = a') : XT.acmp .eq (.ref a) (.ref a') = false ∧ XT.acmp .ne (.ref a) (.ref a') = true := acN fun r => q (Value.ref.inj r)
def QP (r : Option Value) (h0 : Heap) (v : Option Value) (h : Heap) : Prop := v = r ∧ h0 = h
theorem eqI_v {args : Array Value} {first s : State} {o : Option Outcome} {idx : List Nat} {t : Term} {k : Int32} (q : (Jvm.Cond.eq t (.int k)).value args first o s idx = some true) : t.eval args first o idx s = some (.int k) := by
  obtain ⟨x, z, e1, e2, k1, k2⟩ := cmp_v (Or.inl q)
  have e3 : (Term.int k).eval args first o idx s = some (.int k) := Term.int_eval k
  cases e3.symm.trans e2
  obtain ⟨w, rfl⟩ := k2
  have e4 := Cond.eq_ints (args := args) (first := first) (o := o) (s := s) (idx := idx) e1 e2
  rw [e1, gotT e4 q]
theorem eqQ_v {args : Array Value} {first s : State} {o : Option Outcome} {idx : List Nat} {t u : Term} {a' : Addr} (q : (Jvm.Cond.eq t u).value args first o s idx = some true) (e2 : u.eval args first o idx s = some (.ref a')) : t.eval args first o idx s = some (.ref a') := by
  obtain ⟨x, z, e1, e3, k1, k2⟩ := cmp_v (Or.inl q)
  cases e2.symm.trans e3
  have e4 := gotT (eq_R e1 e2 k2.2 rfl) q
  rw [e1, e4]
theorem oLen {args : Array Value} {s : State} {t : Term} {k : Int32} {a : Addr} {cl : Cell} (q : (Term.length t).eval args s none [] s = some (.int k)) (ev : t.eval args s none [] s = some (.ref a)) (hc : s.heap[a]? = some cl) : cl.slots.size.toInt32 = k := by
  obtain ⟨c', e1, e3⟩ := length_at q ev
  cases hc.symm.trans e1
  exact e3
theorem oOld {a a' : Addr} (O : Old Z n0 h) (q : a < Z.heap.size) (r : n0 ≤ a') : a ≠ a' := O.ne q r
theorem eqR_v {args : Array Value} {first s : State} {o : Option Outcome} {idx : List Nat} {t u : Term} {a a' : Addr} (q : (Jvm.Cond.eq t u).value args first o s idx = some true) (e1 : t.eval args first o idx s = some (.ref a)) (e2 : u.eval args first o idx s = some (.ref a')) : a = a' := Value.ref.inj (gotT (eq_R e1 e2 rfl rfl) q)
theorem iIshl (C : Cx B l Z a0 R y b mx rt nf) {x z v : Int32} (hd : De b pc (.ishl) 1 n) (hv : x <<< (z &&& 31) = v) (K : Go B n0 Q h ce sl n Ls (.int v :: S)) : Go B n0 Q h ce sl pc Ls (.int z :: .int x :: S) := by
  obtain ⟨p, l', e, R', s, m, args, below, meth, c, Fin⟩ := B
  obtain ⟨rfl, rfl, hx, rfl, hml, hown, hnm, hret, hlk, hZ, hfin, hw⟩ := C
  intro T locs X eT N
  obtain ⟨hd, rfl⟩ := hd
  subst hv
  obtain ⟨s₂, o, st, r⟩ := K T locs X eT N
  exact ⟨s₂, o, XT.ishl X.here hx rfl hd rfl st, r⟩
theorem iIshr (C : Cx B l Z a0 R y b mx rt nf) {x z v : Int32} (hd : De b pc (.ishr) 1 n) (hv : x >>> (z &&& 31) = v) (K : Go B n0 Q h ce sl n Ls (.int v :: S)) : Go B n0 Q h ce sl pc Ls (.int z :: .int x :: S) := by
  obtain ⟨p, l', e, R', s, m, args, below, meth, c, Fin⟩ := B
  obtain ⟨rfl, rfl, hx, rfl, hml, hown, hnm, hret, hlk, hZ, hfin, hw⟩ := C
  intro T locs X eT N
  obtain ⟨hd, rfl⟩ := hd
  subst hv
  obtain ⟨s₂, o, st, r⟩ := K T locs X eT N
  exact ⟨s₂, o, XT.ishr X.here hx rfl hd rfl st, r⟩
theorem iLdiv (C : Cx B l Z a0 R y b mx rt nf) {x z v : Int64} (hd : De b pc (.ldiv) 1 n) (hz : z ≠ 0) (hv : x / z = v) (K : Go B n0 Q h ce sl n Ls (.long v :: S)) : Go B n0 Q h ce sl pc Ls (.long z :: .long x :: S) := by
  obtain ⟨p, l', e, R', s, m, args, below, meth, c, Fin⟩ := B
  obtain ⟨rfl, rfl, hx, rfl, hml, hown, hnm, hret, hlk, hZ, hfin, hw⟩ := C
  intro T locs X eT N
  obtain ⟨hd, rfl⟩ := hd
  subst hv
  obtain ⟨s₂, o, st, r⟩ := K T locs X eT N
  exact ⟨s₂, o, XT.ldiv X.here hx rfl hd rfl hz st, r⟩
theorem iLrem (C : Cx B l Z a0 R y b mx rt nf) {x z v : Int64} (hd : De b pc (.lrem) 1 n) (hz : z ≠ 0) (hv : x - (x / z) * z = v) (K : Go B n0 Q h ce sl n Ls (.long v :: S)) : Go B n0 Q h ce sl pc Ls (.long z :: .long x :: S) := by
  obtain ⟨p, l', e, R', s, m, args, below, meth, c, Fin⟩ := B
  obtain ⟨rfl, rfl, hx, rfl, hml, hown, hnm, hret, hlk, hZ, hfin, hw⟩ := C
  intro T locs X eT N
  obtain ⟨hd, rfl⟩ := hd
  subst hv
  obtain ⟨s₂, o, st, r⟩ := K T locs X eT N
  exact ⟨s₂, o, XT.lrem X.here hx rfl hd rfl hz st, r⟩
theorem iLneg (C : Cx B l Z a0 R y b mx rt nf) {x v : Int64} (hd : De b pc (.lneg) 1 n) (hv : -x = v) (K : Go B n0 Q h ce sl n Ls (.long v :: S)) : Go B n0 Q h ce sl pc Ls (.long x :: S) := by
  obtain ⟨p, l', e, R', s, m, args, below, meth, c, Fin⟩ := B
  obtain ⟨rfl, rfl, hx, rfl, hml, hown, hnm, hret, hlk, hZ, hfin, hw⟩ := C
  intro T locs X eT N
  obtain ⟨hd, rfl⟩ := hd
  subst hv
  obtain ⟨s₂, o, st, r⟩ := K T locs X eT N
  exact ⟨s₂, o, XT.lneg X.here hx rfl hd rfl st, r⟩
theorem iL2i (C : Cx B l Z a0 R y b mx rt nf) {x : Int64} {v : Int32} (hd : De b pc (.l2i) 1 n) (hv : x.toInt32 = v) (K : Go B n0 Q h ce sl n Ls (.int v :: S)) : Go B n0 Q h ce sl pc Ls (.long x :: S) := by
  obtain ⟨p, l', e, R', s, m, args, below, meth, c, Fin⟩ := B
  obtain ⟨rfl, rfl, hx, rfl, hml, hown, hnm, hret, hlk, hZ, hfin, hw⟩ := C
  intro T locs X eT N
  obtain ⟨hd, rfl⟩ := hd
  subst hv
  obtain ⟨s₂, o, st, r⟩ := K T locs X eT N
  exact ⟨s₂, o, XT.l2i X.here hx rfl hd rfl st, r⟩
theorem iLstore (C : Cx B l Z a0 R y b mx rt nf) {k : Nat} {x : Int64} (hd : De b pc (.lstore k) 2 n) (hl : storeLocals Ls k (.long x) = some Ls') (K : Go B n0 Q h ce sl n Ls' (S)) : Go B n0 Q h ce sl pc Ls (.long x :: S) := by
  obtain ⟨p, l', e, R', s, m, args, below, meth, c, Fin⟩ := B
  obtain ⟨rfl, rfl, hx, rfl, hml, hown, hnm, hret, hlk, hZ, hfin, hw⟩ := C
  intro T locs X eT N
  obtain ⟨hd, rfl⟩ := hd
  obtain ⟨s₂, o, st, r⟩ := K T locs X eT N
  exact ⟨s₂, o, XT.lstore X.here hx rfl hd rfl hl st, r⟩
theorem iLconst (C : Cx B l Z a0 R y b mx rt nf) {k : Fin 2} {v : Int64} (hd : De b pc (.lconst k) 1 n) (hv : Int64.ofNat k = v) (K : Go B n0 Q h ce sl n Ls (.long v :: S)) : Go B n0 Q h ce sl pc Ls (S) := by
  obtain ⟨p, l', e, R', s, m, args, below, meth, c, Fin⟩ := B
  obtain ⟨rfl, rfl, hx, rfl, hml, hown, hnm, hret, hlk, hZ, hfin, hw⟩ := C
  intro T locs X eT N
  obtain ⟨hd, rfl⟩ := hd
  subst hv
  obtain ⟨s₂, o, st, r⟩ := K T locs X eT N
  exact ⟨s₂, o, XT.lconst X.here hx rfl hd st, r⟩
theorem iLcmp (C : Cx B l Z a0 R y b mx rt nf) {x z : Int64} {v : Int32} (hd : De b pc (.lcmp) 1 n) (hv : Jvm.Free.XT.cmpL x z = v) (K : Go B n0 Q h ce sl n Ls (.int v :: S)) : Go B n0 Q h ce sl pc Ls (.long z :: .long x :: S) := by
  obtain ⟨p, l', e, R', s, m, args, below, meth, c, Fin⟩ := B
  obtain ⟨rfl, rfl, hx, rfl, hml, hown, hnm, hret, hlk, hZ, hfin, hw⟩ := C
  intro T locs X eT N
  obtain ⟨hd, rfl⟩ := hd
  subst hv
  obtain ⟨s₂, o, st, r⟩ := K T locs X eT N
  exact ⟨s₂, o, XT.lcmp X.here hx rfl hd rfl st, r⟩
theorem iLdc2 (C : Cx B l Z a0 R y b mx rt nf) {i : Nat} {v : Int64} (w : Jvm.Cond.constantLong y.cls i v ∈ tables_1) (hd : De b pc (.ldc2_w i) 3 n) (K : Go B n0 Q h ce sl n Ls (.long v :: S)) : Go B n0 Q h ce sl pc Ls S := by
  obtain ⟨p, l', e, R', s, m, args, below, meth, c, Fin⟩ := B
  obtain ⟨rfl, rfl, hx, rfl, hml, hown, hnm, hret, hlk, hZ, hfin, hw⟩ := C
  intro T locs X eT N
  obtain ⟨hd, rfl⟩ := hd
  obtain ⟨s₂, o, st', r⟩ := K T locs X eT N
  exact ⟨s₂, o, X.ldc2Long hx hown (mvT hZ (hw _ w)) (g := mkF m pc Ls S) rfl hd _ st', r⟩
theorem iDupX1 (C : Cx B l Z a0 R y b mx rt nf) {x z : Value} (hd : De b pc (.dup_x1) 1 n) (hc : x.category = 1) (hc' : z.category = 1) (K : Go B n0 Q h ce sl n Ls (x :: z :: x :: S)) : Go B n0 Q h ce sl pc Ls (x :: z :: S) := by
  obtain ⟨p, l', e, R', s, m, args, below, meth, c, Fin⟩ := B
  obtain ⟨rfl, rfl, hx, rfl, hml, hown, hnm, hret, hlk, hZ, hfin, hw⟩ := C
  intro T locs X eT N
  obtain ⟨hd, rfl⟩ := hd
  obtain ⟨s₂, o, st, r⟩ := K T locs X eT N
  exact ⟨s₂, o, XT.dupX1 X.here hx rfl hd rfl hc hc' st, r⟩
theorem iGetFV (C : Cx B l Z a0 R y b mx rt nf) {i : Nat} {R1 O f d : String} {a : Addr} {v : Value} (w : Jvm.Cond.fieldLink y.cls i R1 f d ∈ tables_1) (wv : Jvm.Cond.sameField R1 O f d ∈ tables_1) (F : Fld Z h a O f d v) (hd : De b pc (.getfield i) 3 n) (K : Go B n0 Q h ce sl n Ls (v :: S)) : Go B n0 Q h ce sl pc Ls (.ref a :: S) := by
  obtain ⟨p, l', e, R', s, m, args, below, meth, c, Fin⟩ := B
  obtain ⟨rfl, rfl, hx, rfl, hml, hown, hnm, hret, hlk, hZ, hfin, hw⟩ := C
  intro T locs X eT N
  obtain ⟨hd, rfl⟩ := hd
  obtain ⟨T', X', e', st⟩ := getF X hx hZ hown (host := "") (Or.inl (hw _ w)) (Via.of (hw _ wv)) eT F (g := mkF m pc Ls (.ref a :: S)) rfl rfl hd
  obtain ⟨s₂, o, st', r⟩ := K T' locs X' e' N
  exact ⟨s₂, o, st _ st', r⟩
theorem iPutFV (C : Cx B l Z a0 R y b mx rt nf) {i kk : Nat} {R1 O f d CC : String} {a : Addr} {v old : Value} {ty : FieldType} (w : Jvm.Cond.fieldLink y.cls i R1 f d ∈ tables_1) (wv : Jvm.Cond.sameField R1 O f d ∈ tables_1) (F : Fld Z h a O f d old) (E : Exa Z h a CC) (L : Jvm.Cond.lays CC O f d ∈ tables_1) (wi : Jvm.Cond.instantiable CC kk ∈ tables_1) (hty : parseFieldDescriptor d = some ty) (hn : narrow ty v = v) (hf : fits ty v = true) (ha : n0 ≤ a) (hd : De b pc (.putfield i) 3 n) (K : ∀ h', Wr h h' a (Jvm.RoadKit.slotOf Z O f d) v → Go B n0 Q h' ce sl n Ls S) : Go B n0 Q h ce sl pc Ls (v :: .ref a :: S) := by
  obtain ⟨p, l', e, R', s, m, args, below, meth, c, Fin⟩ := B
  obtain ⟨rfl, rfl, hx, rfl, hml, hown, hnm, hret, hlk, hZ, hfin, hw⟩ := C
  intro T locs X eT N
  obtain ⟨hd, rfl⟩ := hd
  obtain ⟨T', h', X', e', W, st⟩ := putF X hx hZ hown (host := "") (Or.inl (hw _ w)) (Via.of (hw _ wv)) eT F E (Or.inl (hw _ L)) (hw _ wi) hty hn hf (g := mkF m pc Ls (v :: .ref a :: S)) rfl rfl hd
  obtain ⟨s₂, o, st', r1, r2, r3, r4⟩ := K h' W T' _ X' e' (Fr.snoc X' N ha)
  exact ⟨s₂, o, st _ st', r1, r2, Nat.le_trans (Nat.le_of_eq W.size.symm) r3, r4⟩
theorem iGetSN (C : Cx B l Z a0 R y b mx rt nf) {i : Nat} {O f d host : String} {v : Value} (w : Jvm.Cond.fieldLinkNest y.cls i O f d host ∈ tables_1) (F : Sta Z h O f d v) (hd : De b pc (.getstatic i) 3 n) (K : Go B n0 Q h ce sl n Ls (v :: S)) : Go B n0 Q h ce sl pc Ls S := by
  obtain ⟨p, l', e, R', s, m, args, below, meth, c, Fin⟩ := B
  obtain ⟨rfl, rfl, hx, rfl, hml, hown, hnm, hret, hlk, hZ, hfin, hw⟩ := C
  intro T locs X eT N
  obtain ⟨hd, rfl⟩ := hd
  obtain ⟨T', X', e', st⟩ := getS2 X hx hZ hown (Or.inr (hw _ w)) Via.refl eT F (g := mkF m pc Ls S) rfl hd
  obtain ⟨s₂, o, st', r⟩ := K T' locs X' e' N
  exact ⟨s₂, o, st _ st', r⟩
theorem iCallPB (C : Cx B l Z a0 R y b mx rt nf) {yc : MethodName} {as' : Array Value} {Qc : Option Value → Heap → Prop} {i W cc ss ce' sl' : Nat} {argsL : List Value} {a : Addr} {CC : String} {cbx : ByteArray} {cmx : Nat} {crx : Option FieldType} (hM : Pay l Z R yc 3 W as' n0 h cc ss Qc) (E : Exa Z h a CC) (w1 : Jvm.Cond.methodLink y.cls i yc ∈ tables_1) (w2 : Jvm.Cond.instanceMethod yc ∈ tables_1) (w5 : Jvm.Cond.selects yc.cls yc yc ∈ tables_1) (w6 : Jvm.Cond.privateMethod yc ∈ tables_1) (w4 : Jvm.Cond.code yc cbx cmx crx ∈ tables_1) (hy : yc.cls ≠ "java/lang/invoke/MethodHandle" ∧ yc.cls ≠ "java/lang/invoke/VarHandle") (hlen : ∀ sig, parseMethodDescriptor yc.desc = some sig → argsL.length = sig.parameters.length) (hS : S = argsL.reverse ++ .ref a :: S') (has : (.ref a :: argsL).toArray = as') (hd : De b pc (.invokevirtual i) 3 n) (hsz : Ls.size = mx) (hW : (S'.map fun v => v.category).sum = W) (hr : ce + cc = ce' ∧ sl + ss = sl' ∧ ce' ≤ R.cells ∧ sl' ≤ R.slots) (K : ∀ (v : Option Value) (h' : Heap), Qc v h' → Go B n0 Q h' ce' sl' n Ls (v.toList ++ S')) : Go B n0 Q h ce sl pc Ls S := by
  obtain ⟨p, l', e, R', s, m, args, below, meth, c, Fin⟩ := B
  obtain ⟨rfl, rfl, hx, rfl, hml, hown, hnm, hret, hlk, hZ, hfin, hw⟩ := C
  intro T locs X eT N
  obtain ⟨hd, rfl⟩ := hd
  obtain ⟨rfl, rfl, hr3, hr4⟩ := hr
  subst hS has
  obtain ⟨cq, q1, q2⟩ := E.cell
  obtain ⟨v, vm₁, ⟨T', L', k', n'⟩, -, X', ⟨Lc, hQ, l', y', z'⟩, st⟩ := X.privateBack hx (y := yc) hown (mvT hZ (hw _ w1)) (mvT hZ (hw _ w2)) (mvT hZ (hw _ w5)) (Cond.privateMethod_at (mvP hZ (hw _ w6) (args := #[]))) (mvT hZ (hw _ w4)) hy (hM p e below s args hZ) (g := mkF m pc Ls (argsL.reverse ++ .ref a :: S')) rfl (by rw [hml]; exact hsz) (Steps.refl _) (a := a) (by rw [eT]; exact q1) q2 (argsL := argsL) (rest := S') hlen rfl (by show 2 * 0 + _ ≤ _; omega) hd (fun _ _ => ⟨rfl, eT, hr3, hr4⟩)
  dsimp only [Pt.U, Pt.locs, Pt.cells, Pt.slots] at X' l' y' z' st hQ
  subst l' y' z'
  obtain ⟨s₂, o, st', r1, r2, r3, r4⟩ := K v _ hQ.1 T' _ X' rfl (Fr.app N hQ.2.1)
  exact ⟨s₂, o, st.trans st', r1, r2, Nat.le_trans hQ.2.2 r3, r4⟩
theorem iCallP (C : Cx B l Z a0 R y b mx rt nf) {yc : MethodName} {cb : ByteArray} {cm : Nat} {cr : Option FieldType} {rm : Room} {as' : Array Value} {Qc : Option Value → Heap → Prop} {i W ce' sl' : Nat} {argsL : List Value} {a : Addr} {CC : String} (hM : Pays l Z yc cb cm cr rm as' n0 h Qc) (E : Exa Z h a CC) (w1 : Jvm.Cond.methodLink y.cls i yc ∈ tables_1) (w2 : Jvm.Cond.instanceMethod yc ∈ tables_1) (w5 : Jvm.Cond.selects yc.cls yc yc ∈ tables_1) (w6 : Jvm.Cond.privateMethod yc ∈ tables_1) (w3 : Jvm.Cond.initialized yc.cls ∈ tables_1) (w4 : Jvm.Cond.code yc cb cm cr ∈ tables_1) (hy : yc.cls ≠ "java/lang/invoke/MethodHandle" ∧ yc.cls ≠ "java/lang/invoke/VarHandle") (hlen : ∀ sig, parseMethodDescriptor yc.desc = some sig → argsL.length = sig.parameters.length) (hS : S = argsL.reverse ++ .ref a :: S') (has : (.ref a :: argsL).toArray = as') (hd : De b pc (.invokevirtual i) 3 n) (hsz : Ls.size = mx) (hW : (S'.map fun v => v.category).sum = W) (hr : rm.frames + 1 ≤ R.frames ∧ W + (cm + 11) + rm.locals ≤ R.locals ∧ ce + rm.cells = ce' ∧ sl + rm.slots = sl' ∧ ce' ≤ R.cells ∧ sl' ≤ R.slots) (K : ∀ (v : Option Value) (h' : Heap), Qc v h' → Go B n0 Q h' ce' sl' n Ls (v.toList ++ S')) : Go B n0 Q h ce sl pc Ls S :=
  iCallPB C (Pay.of hM C.words w4 w3 hr.1 hr.2.1) E w1 w2 w5 w6 w4 hy hlen hS has hd hsz hW hr.2.2 K
theorem mvLN {s : State} {args : Array Value} {own host : String} {i : Nat} {yc : MethodName} (hZ : Z.Warmed39 s.vm) (w : (Jvm.Cond.methodLinkNest own i yc host).before a0 Z = true) : (Jvm.Cond.methodLinkNest own i yc host).before args s = true := (Cond.methodLinkNest_wide hZ w :)
theorem iCallNB (C : Cx B l Z a0 R y b mx rt nf) {yc : MethodName} {as' : Array Value} {Qc : Option Value → Heap → Prop} {i W cc ss ce' sl' : Nat} {argsL : List Value} {a : Addr} {host : String} {cbx : ByteArray} {cmx : Nat} (hM : Pay l Z R yc 3 W as' n0 h cc ss Qc) (hi : yc.name = "<init>") (w1 : Jvm.Cond.methodLinkNest y.cls i yc host ∈ tables_1) (w2 : Jvm.Cond.instanceMethod yc ∈ tables_1) (w4 : Jvm.Cond.code yc cbx cmx none ∈ tables_1) (hy : yc.cls ≠ "java/lang/invoke/MethodHandle" ∧ yc.cls ≠ "java/lang/invoke/VarHandle") (hlen : ∀ sig, parseMethodDescriptor yc.desc = some sig → argsL.length = sig.parameters.length) (hS : S = argsL.reverse ++ .ref a :: S') (has : (.ref a :: argsL).toArray = as') (hd : De b pc (.invokespecial i) 3 n) (hsz : Ls.size = mx) (hW : (S'.map fun v => v.category).sum = W) (hr : ce + cc = ce' ∧ sl + ss = sl' ∧ ce' ≤ R.cells ∧ sl' ≤ R.slots) (K : ∀ (v : Option Value) (h' : Heap), Qc v h' → Go B n0 Q h' ce' sl' n Ls (v.toList ++ S')) : Go B n0 Q h ce sl pc Ls S := by
  obtain ⟨p, l', e, R', s, m, args, below, meth, c, Fin⟩ := B
  obtain ⟨rfl, rfl, hx, rfl, hml, hown, hnm, hret, hlk, hZ, hfin, hw⟩ := C
  intro T locs X eT N
  obtain ⟨hd, rfl⟩ := hd
  obtain ⟨rfl, rfl, hr3, hr4⟩ := hr
  subst hS has
  obtain ⟨v, vm₁, ⟨T', L', k', n'⟩, -, X', ⟨Lc, hQ, l', y', z'⟩, st⟩ := X.specialBackNest hx (y := yc) hi hown (mvLN hZ (hw _ w1)) (mvT hZ (hw _ w2)) (mvT hZ (hw _ w4)) hy (hM p e below s args hZ) (g := mkF m pc Ls (argsL.reverse ++ .ref a :: S')) rfl (by rw [hml]; exact hsz) (Steps.refl _) (a := a) (argsL := argsL) (rest := S') hlen rfl (by show 2 * 0 + _ ≤ _; omega) hd (fun _ _ => ⟨rfl, eT, hr3, hr4⟩)
  dsimp only [Pt.U, Pt.locs, Pt.cells, Pt.slots] at X' l' y' z' st hQ
  subst l' y' z'
  obtain ⟨s₂, o, st', r1, r2, r3, r4⟩ := K v _ hQ.1 T' _ X' rfl (Fr.app N hQ.2.1)
  exact ⟨s₂, o, st.trans st', r1, r2, Nat.le_trans hQ.2.2 r3, r4⟩
theorem iCallN (C : Cx B l Z a0 R y b mx rt nf) {yc : MethodName} {cb : ByteArray} {cm : Nat} {rm : Room} {as' : Array Value} {Qc : Option Value → Heap → Prop} {i W ce' sl' : Nat} {argsL : List Value} {a : Addr} {host : String} (hM : Pays l Z yc cb cm none rm as' n0 h Qc) (hi : yc.name = "<init>") (w1 : Jvm.Cond.methodLinkNest y.cls i yc host ∈ tables_1) (w2 : Jvm.Cond.instanceMethod yc ∈ tables_1) (w3 : Jvm.Cond.initialized yc.cls ∈ tables_1) (w4 : Jvm.Cond.code yc cb cm none ∈ tables_1) (hy : yc.cls ≠ "java/lang/invoke/MethodHandle" ∧ yc.cls ≠ "java/lang/invoke/VarHandle") (hlen : ∀ sig, parseMethodDescriptor yc.desc = some sig → argsL.length = sig.parameters.length) (hS : S = argsL.reverse ++ .ref a :: S') (has : (.ref a :: argsL).toArray = as') (hd : De b pc (.invokespecial i) 3 n) (hsz : Ls.size = mx) (hW : (S'.map fun v => v.category).sum = W) (hr : rm.frames + 1 ≤ R.frames ∧ W + (cm + 11) + rm.locals ≤ R.locals ∧ ce + rm.cells = ce' ∧ sl + rm.slots = sl' ∧ ce' ≤ R.cells ∧ sl' ≤ R.slots) (K : ∀ (v : Option Value) (h' : Heap), Qc v h' → Go B n0 Q h' ce' sl' n Ls (v.toList ++ S')) : Go B n0 Q h ce sl pc Ls S :=
  iCallNB C (Pay.of hM C.words w4 w3 hr.1 hr.2.1) hi w1 w2 w4 hy hlen hS has hd hsz hW hr.2.2 K
theorem iNewR (C : Cx B l Z a0 R y b mx rt nf) {i : Nat} {CC ad : String} {z : Int32} {cap ce' sl' : Nat} (w1 : Jvm.Cond.classLink y.cls i CC ∈ tables_1) (w2 : Jvm.Cond.arrayOver (.object CC) ∈ tables_1) (had : "[" ++ (FieldType.object CC).toString = ad) (hd : De b pc (.anewarray i) 3 n) (hz : ¬ z < 0) (hcap : z.toNatClampNeg ≤ cap) (hb : cap * 8 ≤ 536870912) (hc : ce + 1 = ce' ∧ sl + cap = sl' ∧ ce' ≤ R.cells ∧ sl' ≤ R.slots) (K : ∀ (h' : Heap) (a : Addr) (k : ClassId), a = h.size → Ext h h' → Arv Z h' a k (.object CC) z [] .null → Exa Z h' a ad → Ovr Z k CC → Go B n0 Q h' ce' sl' n Ls (.ref a :: S)) : Go B n0 Q h ce sl pc Ls (.int z :: S) := by
  obtain ⟨p, l', e, R', s, m, args, below, meth, c, Fin⟩ := B
  obtain ⟨rfl, rfl, hx, rfl, hml, hown, hnm, hret, hlk, hZ, hfin, hw⟩ := C
  intro T locs X eT N
  obtain ⟨hd, rfl⟩ := hd
  obtain ⟨rfl, rfl, hc, hs⟩ := hc
  obtain ⟨T', h', kA, X', e', E, A, A2, O, st⟩ := newRE X hx hZ hown (hw _ w1) (hw _ w2) eT (g := mkF m pc Ls (.int z :: S)) rfl hd rfl hz hcap hb hc hs had
  obtain ⟨s₂, o, st', r1, r2, r3, r4⟩ := K h' _ kA rfl E (Arv.new A hz) A2 O T' locs X' e' N
  exact ⟨s₂, o, st _ st', r1, r2, Nat.le_trans E.1 r3, r4⟩
def Mr (Z : State) (CC : String) (m : Addr) : Prop := ∃ (c : ClassId) (k : Class), Z.vm.findClass CC = some c ∧ Z.vm.classes[c]? = some k ∧ k.mirror = some m
theorem iGcls (C : Cx B l Z a0 R y b mx rt nf) {i W : Nat} {a mr : Addr} {CC : String} (w1 : Jvm.Cond.methodLink y.cls i ⟨"java/lang/Object", "getClass", "()Ljava/lang/Class;"⟩ ∈ tables_1) (w2 : Jvm.Cond.declares ⟨"java/lang/Object", "getClass", "()Ljava/lang/Class;"⟩ ∈ tables_1) (w3 : Jvm.Cond.noSuperclass "java/lang/Object" ∈ tables_1) (w4 : Jvm.Cond.selects CC ⟨"java/lang/Object", "getClass", "()Ljava/lang/Class;"⟩ ⟨"java/lang/Object", "getClass", "()Ljava/lang/Class;"⟩ ∈ tables_1) (w5 : Jvm.Cond.instanceMethod ⟨"java/lang/Object", "getClass", "()Ljava/lang/Class;"⟩ ∈ tables_1) (w6 : Jvm.Cond.native ⟨"java/lang/Object", "getClass", "()Ljava/lang/Class;"⟩ ∈ tables_1) (E : Exa Z h a CC) (M : Mr Z CC mr) (hd : De b pc (.invokevirtual i) 3 n) (hsz : Ls.size = mx) (hf : 1 ≤ R.frames) (hW : (S.map fun v => v.category).sum = W) (hl : W + (nativeFrameWords "java/lang/Object" "getClass" 1 + 11) ≤ R.locals) (K : Go B n0 Q h ce sl n Ls (.ref mr :: S)) : Go B n0 Q h ce sl pc Ls (.ref a :: S) := by
  obtain ⟨p, l', e, R', s, m, args, below, meth, c, Fin⟩ := B
  obtain ⟨rfl, rfl, hx, rfl, hml, hown, hnm, hret, hlk, hZ, hfin, hw⟩ := C
  intro T locs X eT N
  obtain ⟨hd, rfl⟩ := hd
  obtain ⟨cB, kB, i1, i2, i3⟩ := isOf hZ eT E
  obtain ⟨cc, kc, m1, m2, m3⟩ := M
  have f1 : s.vm.findClass CC = some cc := by rw [hZ.alike.findClass]; exact m1
  cases i1.symm.trans f1
  obtain ⟨k', q, ek⟩ := hZ.alike.2.2 _ _ m2
  obtain ⟨vm', X', st⟩ := X.getClassOf hx hown (mvT hZ (hw _ w1)) (mvT hZ (hw _ w2)) (nf_top (args := #[]) (mvT hZ (hw _ w3))) (mvT hZ (hw _ w4)) (mvT hZ (hw _ w5)) (mvT hZ (hw _ w6)) f1 i3 q (by rw [ek]; exact m3) (g := mkF m pc Ls (.ref a :: S)) rfl (by rw [hml]; exact hsz) rfl hd hf (by show 2 * 0 + _ + _ ≤ _; omega)
  obtain ⟨s₂, o, st', r⟩ := K _ locs X' eT N
  exact ⟨s₂, o, st _ st', r⟩
theorem iLdcM (C : Cx B l Z a0 R y b mx rt nf) {i : Nat} {CC : String} {mr : Addr} (w : Jvm.Cond.classLink y.cls i CC ∈ tables_1) (M : Mr Z CC mr) (hd : De b pc (.ldc i) 2 n) (K : Go B n0 Q h ce sl n Ls (.ref mr :: S)) : Go B n0 Q h ce sl pc Ls S := by
  obtain ⟨p, l', e, R', s, m, args, below, meth, c, Fin⟩ := B
  obtain ⟨rfl, rfl, hx, rfl, hml, hown, hnm, hret, hlk, hZ, hfin, hw⟩ := C
  intro T locs X eT N
  obtain ⟨hd, rfl⟩ := hd
  obtain ⟨cc, k, m1, m2, m3⟩ := M
  obtain ⟨k', q1, q2⟩ := hZ.alike.2.2 _ _ m2
  have f1 : s.vm.findClass CC = some cc := by rw [hZ.alike.findClass]; exact m1
  have f2 : k'.mirror = some mr := by rw [q2]; exact m3
  have ev : (Term.mirror CC).eval args s none [] s = some (.ref mr) := by simp [Term.eval, f1, q1, f2]
  obtain ⟨vm', X', st⟩ := X.ldcMirror hx hown (mvT hZ (hw _ w)) ev (g := mkF m pc Ls S) rfl hd
  obtain ⟨s₂, o, st', r⟩ := K _ locs X' eT N
  exact ⟨s₂, o, st _ st', r⟩
theorem iCpA (C : Cx B l Z a0 R y b mx rt nf) {i W : Nat} {a a' : Addr} {k k' : ClassId} {ty ty' : FieldType} {z z' sp dp nn : Int32} {vs vd us : List Value} {dv dd : Value} (w1 : Jvm.Cond.methodLink y.cls i Jvm.Stand.acN ∈ tables_1) (w2 : Jvm.Cond.native Jvm.Stand.acN ∈ tables_1) (w3 : Jvm.Cond.static Jvm.Stand.acN ∈ tables_1) (w4 : Jvm.Cond.initialized "java/lang/System" ∈ tables_1) (A : Arv Z h a k ty z vs dv) (A' : Arv Z h a' k' ty' z' vd dd) (hty : (ty = ty' ∧ refKind ty = false) ∨ (refKind ty = true ∧ refKind ty' = true ∧ StoL Z h a' us)) (h1 : ¬ sp < 0) (h2 : ¬ dp < 0) (h3 : ¬ nn < 0) (h4 : sp.toNatClampNeg + nn.toNatClampNeg ≤ z.toNatClampNeg) (h5 : dp.toNatClampNeg + nn.toNatClampNeg ≤ z'.toNatClampNeg) (hus : us = (List.range nn.toNatClampNeg).map fun i => vs.getD (sp.toNatClampNeg + i) dv) (hl : dp.toNatClampNeg + nn.toNatClampNeg ≤ vd.length) (ge : n0 ≤ a') (hd : De b pc (.invokestatic i) 3 n) (hsz : Ls.size = mx) (hf : 1 ≤ R.frames) (hW : (S.map fun v => v.category).sum = W) (hlo : W + (nativeFrameWords "java/lang/System" "arraycopy" 5 + 11) ≤ R.locals) (K : ∀ h', Keep h h' [a'] → Arv Z h' a' k' ty' z' (vd.take dp.toNatClampNeg ++ us ++ vd.drop (dp.toNatClampNeg + nn.toNatClampNeg)) dd → Go B n0 Q h' ce sl n Ls S) : Go B n0 Q h ce sl pc Ls (.int nn :: .int dp :: .ref a' :: .int sp :: .ref a :: S) := by
  obtain ⟨p, l', e, R', s, m, args, below, meth, c, Fin⟩ := B
  obtain ⟨rfl, rfl, hx, rfl, hml, hown, hnm, hret, hlk, hZ, hfin, hw⟩ := C
  intro T locs X eT N
  obtain ⟨hd, rfl⟩ := hd
  obtain ⟨T', h', L', X', e', N', K', A2, st⟩ := cpA X hx hZ hown (hw _ w1) (hw _ w2) (hw _ w3) (hw _ w4) eT A A' hty h1 h2 h3 h4 h5 hus hl N ge (g := mkF m pc Ls (.int nn :: .int dp :: .ref a' :: .int sp :: .ref a :: S)) rfl (by rw [hml]; exact hsz) rfl hd hf (W := W) (by show 2 * 0 + _ ≤ _; omega) hlo
  obtain ⟨s₂, o, st', r1, r2, r3, r4⟩ := K h' K' A2 T' L' X' e' N'
  exact ⟨s₂, o, st _ st', r1, r2, Nat.le_trans K'.1 r3, r4⟩
theorem iTswIn (C : Cx B l Z a0 R y b mx rt nf) {dflt low high : Int} {offs : Array Int} {len t : Nat} {o : Int} {x : Int32} (hd : De b pc (.tableswitch dflt low high offs) len n) (hin : ¬ (x.toInt < low ∨ x.toInt > high)) (hoff : offs[(x.toInt - low).toNat]? = some o) (hj : 0 ≤ (pc : Int) + o ∧ ((pc : Int) + o).toNat = t) (K : Go B n0 Q h ce sl t Ls S) : Go B n0 Q h ce sl pc Ls (.int x :: S) := by
  obtain ⟨p, l', e, R', s, m, args, below, meth, c, Fin⟩ := B
  obtain ⟨rfl, rfl, hx, rfl, hml, hown, hnm, hret, hlk, hZ, hfin, hw⟩ := C
  intro T locs X eT N
  obtain ⟨hd, -⟩ := hd
  obtain ⟨s₂, oo, st, r⟩ := K T locs X eT N
  exact ⟨s₂, oo, XS.tswIn X.here hx rfl rfl hd rfl hin hoff hj.1 hj.2 st, r⟩
theorem iTswOut (C : Cx B l Z a0 R y b mx rt nf) {dflt low high : Int} {offs : Array Int} {len t : Nat} {x : Int32} (hd : De b pc (.tableswitch dflt low high offs) len n) (hout : x.toInt < low ∨ x.toInt > high) (hj : 0 ≤ (pc : Int) + dflt ∧ ((pc : Int) + dflt).toNat = t) (K : Go B n0 Q h ce sl t Ls S) : Go B n0 Q h ce sl pc Ls (.int x :: S) := by
  obtain ⟨p, l', e, R', s, m, args, below, meth, c, Fin⟩ := B
  obtain ⟨rfl, rfl, hx, rfl, hml, hown, hnm, hret, hlk, hZ, hfin, hw⟩ := C
  intro T locs X eT N
  obtain ⟨hd, -⟩ := hd
  obtain ⟨s₂, oo, st, r⟩ := K T locs X eT N
  exact ⟨s₂, oo, XS.tswOut X.here hx rfl rfl hd rfl hout hj.1 hj.2 st, r⟩
theorem insKeep {a : Addr} {K1 : String} {h' : Heap} {ws : List Addr} (F : Ins Z h a K1 true) (K : Keep h h' ws) : Ins Z h' a K1 true := by
  obtain ⟨cell, cT, h1, h2, h3⟩ := F
  obtain ⟨c', q1, q2, q3, q4⟩ := K.2.2 a cell h1
  exact ⟨c', cT, q1, h2, by rw [q2, q3]; exact h3⟩
theorem nsI {a0' : Array Value} {CC S1 K1 : String} {kk : Nat} (w : (Jvm.Cond.superclass CC S1).before a0' Z = true) (wk : (Jvm.Cond.instantiable K1 kk).before a0' Z = true) (q : NS Z CC K1) (hn : CC ≠ K1) : ∃ c t, Z.vm.findClass CC = some c ∧ Z.vm.findClass K1 = some t ∧ Z.vm.assignable c t = false := by
  obtain ⟨c, t, h0, g0, n3⟩ := q
  obtain ⟨p, k, kp, h1, h2, h3, h4, h5, -, h7⟩ := Cond.superclass_spec h0 w
  obtain ⟨t', k', g1, g2, g3, g4, -⟩ := Cond.instantiable_spec wk
  cases g0.symm.trans g1
  have g7 : k'.isInterface = false := (Bool.or_eq_false_iff.mp g4).1
  have ne := ids_ne h0 g0 hn
  refine ⟨c, t, h0, g0, ?_⟩
  show Z.vm.assignableAux (255 + 1) c t = false
  simp [Vm.assignableAux, ne, h2, g2, h5, g3, g7, Vm.isSubclass, n3]
theorem nsRoot {a0' : Array Value} {O1 K1 : String} {kk : Nat} (w : (Jvm.Cond.noSuperclass O1).before a0' Z = true) (wk : (Jvm.Cond.instantiable K1 kk).before a0' Z = true) (hn : O1 ≠ K1) : NS Z O1 K1 := by
  obtain ⟨c, k, h1, h2, h3, -, -⟩ := Cond.noSuperclass_spec w
  obtain ⟨t, k', g1, -⟩ := Cond.instantiable_spec wk
  have ne := ids_ne h1 g1 hn
  refine ⟨c, t, h1, g1, fun fuel => ?_⟩
  cases fuel with
  | zero => rfl
  | succ f => simp [Vm.isSubclassAux, ne, h2, h3]
theorem endW {s t : State} {vm1 : Vm} {k1 : Nat} {o : Outcome} {L : List Loc} {k n : Nat} (hS : s.Since vm1 k1) (hk : k1 ≤ t.heap.size) (q : ReturnedEndW (s.setVm vm1) o t L k n) : ReturnedEndW s o t L k n := by
  obtain ⟨q1, q2, q3, q4⟩ := q
  have hT : s.Since t.vm t.heap.size := hS.trans ⟨q2, q3⟩ hk
  exact ⟨q1, hT.1, hT.2, q4.setVm s.vm⟩
def Bkx (B : Bx) (own : String) (i : Nat) (a : Addr) : Prop :=
  match B with
  | (p, l, e, R, s, m, args, below, meth, c, Fin) => Jvm.RoadKit.Lit s own i a
theorem iLdcAgain (C : Cx B l Z a0 R y b mx rt nf) {i : Nat} {text : String} {a : Addr} (w : Jvm.Cond.stringLink y.cls i text ∈ tables_1) (L : Bkx B y.cls i a) (hd : De b pc (.ldc i) 2 n) (K : Go B n0 Q h ce sl n Ls (.ref a :: S)) : Go B n0 Q h ce sl pc Ls S := by
  obtain ⟨p, l', e, R', s, m, args, below, meth, c, Fin⟩ := B
  obtain ⟨rfl, rfl, hx, rfl, hml, hown, hnm, hret, hlk, hZ, hfin, hw⟩ := C
  intro T locs X eT N
  obtain ⟨hd, rfl⟩ := hd
  have st := ldcAgain (s := s) (vm0 := s.vm) X hx hZ hown (hw _ w) L (g := mkF m pc Ls S) rfl hd
  obtain ⟨s₂, o, st', r⟩ := K T locs X eT N
  exact ⟨s₂, o, st _ st', r⟩
theorem iInst0 (C : Cx B l Z a0 R y b mx rt nf) {i : Nat} (hd : De b pc (.instanceof i) 3 n) (K : Go B n0 Q h ce sl n Ls (.int 0 :: S)) : Go B n0 Q h ce sl pc Ls (.null :: S) := by
  obtain ⟨p, l', e, R', s, m, args, below, meth, c, Fin⟩ := B
  obtain ⟨rfl, rfl, hx, rfl, hml, hown, hnm, hret, hlk, hZ, hfin, hw⟩ := C
  intro T locs X eT N
  obtain ⟨hd, rfl⟩ := hd
  obtain ⟨s₂, o, st', r⟩ := K T locs X eT N
  exact ⟨s₂, o, X.instanceofNull hx (g := mkF m pc Ls (.null :: S)) rfl rfl hd _ st', r⟩
theorem iClone (C : Cx B l Z a0 R y b mx rt nf) {i W cap ce' sl' : Nat} {ad : String} {a : Addr} {cl : Cell} {ty : FieldType} (w1 : Jvm.Cond.methodLink y.cls i ⟨ad, "clone", "()Ljava/lang/Object;"⟩ ∈ tables_1) (w2 : Jvm.Cond.sameMethod ad "java/lang/Object" "clone" "()Ljava/lang/Object;" ∈ tables_1) (w3 : Jvm.Cond.native ⟨"java/lang/Object", "clone", "()Ljava/lang/Object;"⟩ ∈ tables_1) (w4 : Jvm.Cond.instanceMethod ⟨"java/lang/Object", "clone", "()Ljava/lang/Object;"⟩ ∈ tables_1) (w5 : Jvm.Cond.selects ad ⟨ad, "clone", "()Ljava/lang/Object;"⟩ ⟨"java/lang/Object", "clone", "()Ljava/lang/Object;"⟩ ∈ tables_1) (w6 : Jvm.Cond.castable ad "java/lang/Cloneable" ∈ tables_1) (A : Arr Z h a cl ty) (E : Exa Z h a ad) (F : FitC Z cl) (hcap : cl.slots.size ≤ cap) (hd : De b pc (.invokevirtual i) 3 n) (hsz : Ls.size = mx) (hf : 1 ≤ R.frames) (hW : (S.map fun v => v.category).sum = W) (hl : W + 14 ≤ R.locals) (hc : ce + 1 = ce' ∧ sl + cap = sl' ∧ ce' ≤ R.cells ∧ sl' ≤ R.slots) (K : ∀ (h' : Heap) (a' : Addr), a' = h.size → Ext h h' → Arr Z h' a' (cloneOf cl) ty → Exa Z h' a' ad → Go B n0 Q h' ce' sl' n Ls (.ref a' :: S)) : Go B n0 Q h ce sl pc Ls (.ref a :: S) := by
  obtain ⟨p, l', e, R', s, m, args, below, meth, c, Fin⟩ := B
  obtain ⟨rfl, rfl, hx, rfl, hml, hown, hnm, hret, hlk, hZ, hfin, hw⟩ := C
  intro T locs X eT N
  obtain ⟨hd, rfl⟩ := hd
  obtain ⟨rfl, rfl, hc1, hc2⟩ := hc
  obtain ⟨T', h', X', e', E', A', Ex', st⟩ := cloneA X hx hZ hown (hw _ w1) (hw _ w2) (hw _ w3) (hw _ w4) (hw _ w5) (hw _ w6) eT A E F (g := mkF m pc Ls (.ref a :: S)) rfl (by rw [hml]; exact hsz) rfl hd hf (W := W) (by show 2 * 0 + _ ≤ _; omega) hl hcap hc1 hc2
  obtain ⟨s₂, o, st', r1, r2, r3, r4⟩ := K h' _ rfl E' A' Ex' T' locs X' e' N
  exact ⟨s₂, o, st _ st', r1, r2, Nat.le_trans E'.1 r3, r4⟩
/-- the end that a walk owes which may have loaded String constants -/
def Wc (B : Bx) (Z : State) (a0 : Array Value) (EL : List (String × Nat)) (vmS : Vm) (hS : Heap) (nf : Nat) : Prop :=
  match B with
  | (p, l, e, R, s, m, args, below, meth, c, Fin) => (∀ (v : Option Value) (t : State) (L : List Loc), Fr nf L → ReturnedEndW s (.returned v) t L R.cells R.slots → CHr Z EL vmS hS t.vm t.heap → Fin v t L) ∧ EW Z a0 EL
/-- from the walk's start to the base's tables and this heap the booked Strings stand -/
def Chx (B : Bx) (Z : State) (EL : List (String × Nat)) (vmS : Vm) (hS h : Heap) : Prop :=
  match B with
  | (p, l, e, R, s, m, args, below, meth, c, Fin) => CHr Z EL vmS hS s.vm h
def Sfx (B : Bx) (Z : State) (EL : List (String × Nat)) (h : Heap) (x : Addr) : Prop :=
  match B with
  | (p, l, e, R, s, m, args, below, meth, c, Fin) => Safe Z EL s.vm h x
theorem chEnd {s : State} {EL : List (String × Nat)} {h' : Heap} {vm1 : Vm} (hZ : Z.Warmed39 s.vm) (w : EW Z a0 EL) (hW : s.WarmedH vm1) (H : CHv Z EL s.vm h) (e : h' = h) : CHr Z EL s.vm h vm1 h' := by
  subst e
  have q := CHv.later (h' := h') hZ (hW := (show (Wst Z s.vm h').Warmed39 vm1 from hW.wide)) w ⟨Nat.le_refl _, fun _ _ q => q⟩ (Or.inl hW.interned_eq) H
  exact ⟨q.1, Nat.le_refl _, q.2⟩
theorem iRetVC  (C : Cx B l Z a0 R y b mx none nf) {EL : List (String × Nat)} {vmS : Vm} {hS : Heap} (D : Wc B Z a0 EL vmS hS nf) (HC : Chx B Z EL vmS hS h) (hd : De b pc (.return_) 1 n) (hc : nf ≤ n0 ∧ ce ≤ R.cells ∧ sl ≤ R.slots) (hQ : Q none h) : Go B n0 Q h ce sl pc Ls ([]) := by
  obtain ⟨p, l', e, R', s, m, args, below, meth, c, Fin⟩ := B
  obtain ⟨rfl, rfl, hx, rfl, hml, hown, hnm, hret, hlk, hZ, hfin, hw⟩ := C
  intro T locs X eT N
  obtain ⟨hd, rfl⟩ := hd
  obtain ⟨fs, hr, hrun, hended, hW, hsame⟩ := X.leave (v := none) (fun q => by first | rfl | (rw [hret] at q; cases q)) hlk
  exact ⟨_, _, X.returnOut hx hret hd hr, hrun, hended, Nat.le_of_eq (eT ▸ rfl), _, _, rfl, eT ▸ hQ, D.1 _ _ _ (fun y hy => Nat.le_trans hc.1 (N y hy)) (ReturnedEndW.of_narrow ⟨_, rfl⟩ hW (hsame.mono hc.2.1 hc.2.2)) (HC.trans (chEnd hZ D.2 hW HC.1 eT))⟩
theorem iRetZC {z : Int32} {t : FieldType} (C : Cx B l Z a0 R y b mx (some t) nf) {EL : List (String × Nat)} {vmS : Vm} {hS : Heap} (D : Wc B Z a0 EL vmS hS nf) (HC : Chx B Z EL vmS hS h) (hd : De b pc (.ireturn) 1 n) (ht : t = .boolean ∨ t = .byte ∨ t = .char ∨ t = .short) (hc : nf ≤ n0 ∧ ce ≤ R.cells ∧ sl ≤ R.slots) (hQ : Q (some (.int (nar t z))) h) : Go B n0 Q h ce sl pc Ls (.int z :: S) := by
  obtain ⟨p, l', e, R', s, m, args, below, meth, c, Fin⟩ := B
  obtain ⟨rfl, rfl, hx, rfl, hml, hown, hnm, hret, hlk, hZ, hfin, hw⟩ := C
  intro T locs X eT N
  obtain ⟨hd, rfl⟩ := hd
  obtain ⟨fs, hr, hrun, hended, hW, hsame⟩ := X.leave (v := (some (.int (nar t z)))) (fun q => by first | rfl | (rw [hret] at q; cases q)) hlk
  exact ⟨_, _, retN X hx hret ht hd hr, hrun, hended, Nat.le_of_eq (eT ▸ rfl), _, _, rfl, eT ▸ hQ, D.1 _ _ _ (fun y hy => Nat.le_trans hc.1 (N y hy)) (ReturnedEndW.of_narrow ⟨_, rfl⟩ hW (hsame.mono hc.2.1 hc.2.2)) (HC.trans (chEnd hZ D.2 hW HC.1 eT))⟩
theorem iRetIC {z : Int32} (C : Cx B l Z a0 R y b mx (some .int) nf) {EL : List (String × Nat)} {vmS : Vm} {hS : Heap} (D : Wc B Z a0 EL vmS hS nf) (HC : Chx B Z EL vmS hS h) (hd : De b pc (.ireturn) 1 n) (hc : nf ≤ n0 ∧ ce ≤ R.cells ∧ sl ≤ R.slots) (hQ : Q (some (.int z)) h) : Go B n0 Q h ce sl pc Ls (.int z :: S) := by
  obtain ⟨p, l', e, R', s, m, args, below, meth, c, Fin⟩ := B
  obtain ⟨rfl, rfl, hx, rfl, hml, hown, hnm, hret, hlk, hZ, hfin, hw⟩ := C
  intro T locs X eT N
  obtain ⟨hd, rfl⟩ := hd
  obtain ⟨fs, hr, hrun, hended, hW, hsame⟩ := X.leave (v := (some (.int z))) (fun q => by first | rfl | (rw [hret] at q; cases q)) hlk
  exact ⟨_, _, retOut X hx hret rfl (Or.inl ⟨rfl, Or.inl rfl, z, rfl⟩) hd hr, hrun, hended, Nat.le_of_eq (eT ▸ rfl), _, _, rfl, eT ▸ hQ, D.1 _ _ _ (fun y hy => Nat.le_trans hc.1 (N y hy)) (ReturnedEndW.of_narrow ⟨_, rfl⟩ hW (hsame.mono hc.2.1 hc.2.2)) (HC.trans (chEnd hZ D.2 hW HC.1 eT))⟩
theorem iRetAC {w : Value} {t : FieldType} (C : Cx B l Z a0 R y b mx (some t) nf) {EL : List (String × Nat)} {vmS : Vm} {hS : Heap} (D : Wc B Z a0 EL vmS hS nf) (HC : Chx B Z EL vmS hS h) (hd : De b pc (.areturn) 1 n) (ht : t.isReference = true) (hw' : w.isRef = true) (hna : narrow t w = w) (hc : nf ≤ n0 ∧ ce ≤ R.cells ∧ sl ≤ R.slots) (hQ : Q (some w) h) : Go B n0 Q h ce sl pc Ls (w :: S) := by
  obtain ⟨p, l', e, R', s, m, args, below, meth, c, Fin⟩ := B
  obtain ⟨rfl, rfl, hx, rfl, hml, hown, hnm, hret, hlk, hZ, hfin, hw⟩ := C
  intro T locs X eT N
  obtain ⟨hd, rfl⟩ := hd
  obtain ⟨fs, hr, hrun, hended, hW, hsame⟩ := X.leave (v := (some w)) (fun q => by first | rfl | (rw [hret] at q; cases q)) hlk
  exact ⟨_, _, retOut X hx hret hna (Or.inr (Or.inr (Or.inr (Or.inr ⟨rfl, ht, hw'⟩)))) hd hr, hrun, hended, Nat.le_of_eq (eT ▸ rfl), _, _, rfl, eT ▸ hQ, D.1 _ _ _ (fun y hy => Nat.le_trans hc.1 (N y hy)) (ReturnedEndW.of_narrow ⟨_, rfl⟩ hW (hsame.mono hc.2.1 hc.2.2)) (HC.trans (chEnd hZ D.2 hW HC.1 eT))⟩
theorem iRetJC {z : Int64} (C : Cx B l Z a0 R y b mx (some .long) nf) {EL : List (String × Nat)} {vmS : Vm} {hS : Heap} (D : Wc B Z a0 EL vmS hS nf) (HC : Chx B Z EL vmS hS h) (hd : De b pc (.lreturn) 1 n) (hc : nf ≤ n0 ∧ ce ≤ R.cells ∧ sl ≤ R.slots) (hQ : Q (some (.long z)) h) : Go B n0 Q h ce sl pc Ls (.long z :: S) := by
  obtain ⟨p, l', e, R', s, m, args, below, meth, c, Fin⟩ := B
  obtain ⟨rfl, rfl, hx, rfl, hml, hown, hnm, hret, hlk, hZ, hfin, hw⟩ := C
  intro T locs X eT N
  obtain ⟨hd, rfl⟩ := hd
  obtain ⟨fs, hr, hrun, hended, hW, hsame⟩ := X.leave (v := (some (.long z))) (fun q => by first | rfl | (rw [hret] at q; cases q)) hlk
  exact ⟨_, _, retOut X hx hret rfl (Or.inr (Or.inl ⟨rfl, rfl, z, rfl⟩)) hd hr, hrun, hended, Nat.le_of_eq (eT ▸ rfl), _, _, rfl, eT ▸ hQ, D.1 _ _ _ (fun y hy => Nat.le_trans hc.1 (N y hy)) (ReturnedEndW.of_narrow ⟨_, rfl⟩ hW (hsame.mono hc.2.1 hc.2.2)) (HC.trans (chEnd hZ D.2 hW HC.1 eT))⟩

theorem Chx.ext {EL : List (String × Nat)} {vmS : Vm} {hS h' : Heap} (H : Chx B Z EL vmS hS h) (E : Ext h h') : Chx B Z EL vmS hS h' := by
  obtain ⟨p, l', e, R', s, m, args, below, meth, c, Fin⟩ := B
  exact CHr.trans H (CHr.ext E H.1)
theorem Chx.wr {EL : List (String × Nat)} {vmS : Vm} {hS h' : Heap} {a : Addr} {i : Nat} {v : Value} (H : Chx B Z EL vmS hS h) (W : Wr h h' a i v) (q : Sfx B Z EL h a) : Chx B Z EL vmS hS h' := by
  obtain ⟨p, l', e, R', s, m, args, below, meth, c, Fin⟩ := B
  exact CHr.trans H (CHr.wr W q H.1)
theorem Chx.keep {EL : List (String × Nat)} {vmS : Vm} {hS h' : Heap} {ws : List Addr} (H : Chx B Z EL vmS hS h) (K : Keep h h' ws) (q : ∀ x ∈ ws, Sfx B Z EL h x) : Chx B Z EL vmS hS h' := by
  obtain ⟨p, l', e, R', s, m, args, below, meth, c, Fin⟩ := B
  exact CHr.trans H (CHr.keep K q H.1)
theorem Sfx.new {EL : List (String × Nat)} {x : Addr} (q : h.size ≤ x) : Sfx B Z EL h x := by
  obtain ⟨p, l', e, R', s, m, args, below, meth, c, Fin⟩ := B
  exact Safe.new q
theorem Sfx.exa (C : Cx B l Z a0 R y b mx rt nf) {EL : List (String × Nat)} {x : Addr} {K : String} (E : Exa Z h x K) (h1 : K ≠ "java/lang/String") (h2 : K ≠ "[B") : Sfx B Z EL h x := by
  obtain ⟨p, l', e, R', s, m, args, below, meth, c, Fin⟩ := B
  obtain ⟨rfl, rfl, hx, rfl, hml, hown, hnm, hret, hlk, hZ, hfin, hw⟩ := C
  exact Safe.exa hZ.alike E h1 h2
theorem Sfx.arv (C : Cx B l Z a0 R y b mx rt nf) {EL : List (String × Nat)} {x : Addr} {k : ClassId} {ty : FieldType} {z : Int32} {vs : List Value} {dv : Value} (A : Arv Z h x k ty z vs dv) (h1 : ty ≠ .byte) : Sfx B Z EL h x := by
  obtain ⟨p, l', e, R', s, m, args, below, meth, c, Fin⟩ := B
  obtain ⟨rfl, rfl, hx, rfl, hml, hown, hnm, hret, hlk, hZ, hfin, hw⟩ := C
  obtain ⟨cl, A, -⟩ := A
  exact Safe.arr hZ.alike A h1
theorem Sfx.ext {EL : List (String × Nat)} {vmS : Vm} {hS h' : Heap} {x : Addr} (S : Sfx B Z EL h x) (E : Ext h h') (H : Chx B Z EL vmS hS h) : Sfx B Z EL h' x := by
  obtain ⟨p, l', e, R', s, m, args, below, meth, c, Fin⟩ := B
  exact Safe.ext E H.1 S
theorem Sfx.wr {EL : List (String × Nat)} {vmS : Vm} {hS h' : Heap} {x a : Addr} {i : Nat} {v : Value} (S : Sfx B Z EL h x) (W : Wr h h' a i v) (q : Sfx B Z EL h a) (H : Chx B Z EL vmS hS h) : Sfx B Z EL h' x := by
  obtain ⟨p, l', e, R', s, m, args, below, meth, c, Fin⟩ := B
  exact Safe.wr W q H.1 S
theorem Sfx.keep {EL : List (String × Nat)} {vmS : Vm} {hS h' : Heap} {x : Addr} {ws : List Addr} (S : Sfx B Z EL h x) (K : Keep h h' ws) (q : ∀ x ∈ ws, Sfx B Z EL h x) (H : Chx B Z EL vmS hS h) : Sfx B Z EL h' x := by
  obtain ⟨p, l', e, R', s, m, args, below, meth, c, Fin⟩ := B
  exact Safe.keep K q H.1 S
theorem iLdcC (C : Cx B l Z a0 R y b mx rt nf) {EL : List (String × Nat)} {vmS : Vm} {hS : Heap} (D : Wc B Z a0 EL vmS hS nf) (HC : Chx B Z EL vmS hS h) {i : Nat} {text : String} {vs : List Value} {z : Int32} {nn ce' sl' : Nat} (w : Jvm.Cond.stringLink y.cls i text ∈ tables_1) (wS : ∀ d ∈ Bundle.stringAtoms, d ∈ tables_1) (hmem : (y.cls, i) ∈ EL) (ht : (∀ c ∈ text.toList, c.toNat < 256) ∧ text.toList.map (fun c => Value.int (Jvm.Lit.byteI c.toNat.toUInt16)) = vs) (hz : ¬ z < 0) (hl : z.toNatClampNeg = vs.length) (hd : De b pc (.ldc i) 2 n) (hn : 4 * text.toList.length ≤ nn) (hbig : nn ≤ 536870912) (hc : ce + 2 = ce' ∧ sl + (nn + 4) = sl' ∧ ce' ≤ R.cells ∧ sl' ≤ R.slots)
    (K : ∀ (B' : Bx) (h' : Heap) (a b' : Addr) (k : ClassId), Cx B' l Z a0 R y b mx rt nf → Wc B' Z a0 EL vmS hS nf → Chx B' Z EL vmS hS h' → Bkx B' y.cls i a → Ext h h' → (∀ x, x < h.size → Sfx B Z EL h x → Sfx B' Z EL h' x) → (∀ x, Sfx B' Z EL h' x → x ≠ a ∧ x ≠ b') → Exa Z h' a "java/lang/String" → Fld Z h' a "java/lang/String" "coder" "B" (.int 0) → Fld Z h' a "java/lang/String" "value" "[B" (.ref b') → Arv Z h' b' k .byte z vs (.int 0) → Go B' n0 Q h' ce' sl' n Ls (.ref a :: S)) : Go B n0 Q h ce sl pc Ls S := by
  obtain ⟨p, l', e, R', s, m, args, below, meth, c, Fin⟩ := B
  obtain ⟨rfl, rfl, hx, rfl, hml, hown, hnm, hret, hlk, hZ, hfin, hw⟩ := C
  obtain ⟨d1, d2⟩ := D
  intro T locs X eT N
  obtain ⟨hd, rfl⟩ := hd
  obtain ⟨rfl, rfl, hc1, hc2⟩ := hc
  obtain ⟨a, T', h', k1, b', k, X', e', E, hSi, hk, hZ', hown', A1, F1, F2, V, -, -, hC, Li, hne, st⟩ := ldcCH (s := s) (vm0 := s.vm) X hx hZ hown (hw _ w) (fun d hd => hw _ (wS d hd)) eT (k0 := 0) ((State.WarmedH.refl s).since 0) (Nat.zero_le _) d2 hmem HC.1 ht hz hl (g := mkF m pc Ls S) rfl hd hn hbig hc1 hc2
  obtain ⟨s₂, o, st', r1, r2, r3, v, L, r4, r5, r6⟩ := K (p, l', e, R', s.setVm T'.vm, m, args, below, meth, c, fun v t L => k1 ≤ t.heap.size → Fin v t L) h' a b' k ⟨rfl, rfl, hx, rfl, hml, hown', hnm, hret, hlk, hZ', trivial, hw⟩ ⟨fun v t L q1 q2 q4 q3 => d1 v t L q1 (endW hSi q3 q2) q4, d2⟩ (CHr.trans HC hC) Li E (fun x q r => hC.safe q r) hne A1 F1 F2 V T' locs X' e' N
  exact ⟨s₂, o, st _ st', r1, r2, Nat.le_trans E.1 r3, v, L, r4, r5, r6 (Nat.le_trans hk r3)⟩
def PaysC (l : Launch) (Z : State) (EL : List (String × Nat)) (ss : List Addr) (y : MethodName) (b : ByteArray) (mx : Nat) (rt : Option FieldType) (rm : Room) (as' : Array Value) (n0 : Nat) (h0 : Heap) (Q : Option Value → Heap → Prop) : Prop :=
  ∀ ws : List Jvm.Cond, MetFree l y (head1 (Jvm.Cond.code y b mx rt :: ws) rm) (fun a U => a = as' ∧ Z.Warmed39 U.vm ∧ U.heap = h0 ∧ CHv Z EL U.vm h0 ∧ ∀ x ∈ ss, Safe Z EL U.vm h0 x) (fun _ _ _ _ _ => True) (fun _ U o U' => ∃ v L, o = .returned v ∧ QQ n0 h0 Q v U'.heap L ∧ CHr Z EL U.vm U.heap U'.vm U'.heap ∧ ReturnedEndW U o U' L rm.cells rm.slots)
theorem PaysC.of (hw : ∀ d ∈ tables_1, d.before a0 Z = true) (hp : plainFor y = true) {EL : List (String × Nat)} (w : EW Z a0 EL) {ss : List Addr} {rm : Room} {as' : Array Value} (ef : ∀ m, entryFrame m as' mx = mkF m 0 Ls []) (hb : ∀ B vmS, Cx B l Z a0 rm y b mx rt n0 → Wc B Z a0 EL vmS h n0 → Chx B Z EL vmS h h → (∀ x ∈ ss, Sfx B Z EL h x) → Go B n0 Q h 0 0 0 Ls []) : PaysC l Z EL ss y b mx rt rm as' n0 h Q := by
  intro ws
  refine MetFree.of_bodySF hp hisR ?_
  intro p e s m args below meth c s₁ Bd hml0 hP hK
  obtain ⟨rfl, hZ, hh, hI, hss⟩ := hP
  have X0 : Stand p l e rm s m args below meth c s₁ [] 0 0 := Stand.of_body Bd
  have e0 : s₁.heap = h := by rw [← hh, Bd.state]; rfl
  obtain ⟨s₂, o, st, r1, r2, r6, v, L, r3, r4, r5, r7, r8⟩ := hb (p, l, e, rm, s, m, args, below, meth, c, fun v t L => Fr n0 L ∧ ReturnedEndW s (.returned v) t L rm.cells rm.slots ∧ CHr Z EL s.vm h t.vm t.heap) s.vm ⟨rfl, rfl, Bd.exec, Bd.bytes, hml0, findClass_of_methodNamed Bd.named, (name_of_methodNamed Bd.named Bd.method).1, Bd.returns, BodyLoose.notSynchronized Bd, hZ, trivial, hw⟩ ⟨fun _ _ _ q1 q2 q3 => ⟨q1, q2, q3⟩, w⟩ (CHr.refl hI) hss s₁ [] X0 e0 (Fr.nil _)
  subst r3
  exact ⟨s₂, _, castTop (ef m) st, r1, r2, v, L, rfl, ⟨r4, r5, r6⟩, by rw [hh]; exact r8, r7⟩
def PayC (l : Launch) (Z : State) (EL : List (String × Nat)) (R : Room) (yc : MethodName) (len W : Nat) (as' : Array Value) (n0 : Nat) (h : Heap) (cc ss : Nat) (Qc : Option Value → Heap → Prop) (s : State) : Prop :=
  ∀ (p : Program) (e : Env) (below : List Frame) (args : Array Value), BackS l R p e below s args yc len W (fun A a => a = as' ∧ A.U.heap = h ∧ A.cells + cc ≤ R.cells ∧ A.slots + ss ≤ R.slots) (fun A _ v B => ∃ L, QQ n0 h Qc v B.U.heap L ∧ B.locs = A.locs ++ L ∧ B.cells = A.cells + cc ∧ B.slots = A.slots + ss ∧ CHr Z EL s.vm h B.U.vm B.U.heap)
theorem PayC.of {EL : List (String × Nat)} {sa : List Addr} {yc : MethodName} {cb : ByteArray} {cm len W : Nat} {cr : Option FieldType} {rm : Room} {as' : Array Value} {Qc : Option Value → Heap → Prop} {s : State} (hM : PaysC l Z EL sa yc cb cm cr rm as' n0 h Qc) (hZ : Z.Warmed39 s.vm) (hw : ∀ d ∈ tables_1, d.before a0 Z = true) (w4 : Jvm.Cond.code yc cb cm cr ∈ tables_1) (w3 : Jvm.Cond.initialized yc.cls ∈ tables_1) (hr1 : rm.frames + 1 ≤ R.frames) (hr2 : W + (cm + 11) + rm.locals ≤ R.locals) (hEL : EW Z a0 EL) (H : CHv Z EL s.vm h) (hsa : ∀ x ∈ sa, x < h.size ∧ Safe Z EL s.vm h x) : PayC l Z EL R yc len W as' n0 h rm.cells rm.slots Qc s :=
  fun p e below args => BackS.of_freeW (bytes := cb) (maxL := cm) (ret := cr) (E := fun _ first o t L k n => k = rm.cells ∧ n = rm.slots ∧ (∃ v, o = .returned v ∧ QQ n0 h Qc v t.heap L) ∧ CHr Z EL first.vm first.heap t.vm t.heap) (hM []) hr1 hr2
    (fun m meth c A a Y hp => have hU : Z.Warmed39 A.U.vm := wtrans hZ Y.warmed
      ⟨by show (Jvm.Cond.and _ .tt).before a A.U = true; rw [Cond.before_and, mv hU (hw _ w4)]; rfl, mv hU (hw _ w4), mv hU (hw _ w3), hp.2.2.1, hp.2.2.2⟩)
    (fun m meth c A a g mk Y hp => ⟨hp.1, wtrans hZ Y.warmed, hp.2.1, (CHv.at (s := s) (vm0 := s.vm) Y hZ hEL H).1, fun x hx => (CHv.at (s := s) (vm0 := s.vm) Y hZ hEL H).safe (hsa x hx).1 (hsa x hx).2⟩) (fun _ _ _ _ _ _ _ _ _ => trivial)
    (fun _ _ _ _ ⟨v, L, h1, h2, h3, h4⟩ => ⟨L, _, _, h4, rfl, rfl, ⟨v, h1, h2⟩, h3⟩)
    (fun m meth c A a g mk v t L k n Y hp _ _ ⟨e1, e2, ⟨v', e3, e4⟩, e5⟩ => by
      cases e3; subst e1 e2
      refine ⟨L, e4, rfl, rfl, rfl, (CHv.at (s := s) (vm0 := s.vm) Y hZ hEL H).trans ?_⟩
      rw [← hp.2.1]; exact e5)
theorem iCallIC (C : Cx B l Z a0 R y b mx rt nf) {EL : List (String × Nat)} {vmS : Vm} {hS : Heap} (D : Wc B Z a0 EL vmS hS nf) (HC : Chx B Z EL vmS hS h) {sa : List Addr} (hsa : ∀ x ∈ sa, x < h.size ∧ Sfx B Z EL h x) {yc : MethodName} {cb : ByteArray} {cm : Nat} {rm : Room} {as' : Array Value} {Qc : Option Value → Heap → Prop} {i W ce' sl' : Nat} {argsL : List Value} {a : Addr} (hM : PaysC l Z EL sa yc cb cm none rm as' n0 h Qc) (hi : yc.name = "<init>") (w1 : Jvm.Cond.methodLink y.cls i yc ∈ tables_1) (w2 : Jvm.Cond.instanceMethod yc ∈ tables_1) (w3 : Jvm.Cond.initialized yc.cls ∈ tables_1) (w4 : Jvm.Cond.code yc cb cm none ∈ tables_1) (hy : yc.cls ≠ "java/lang/invoke/MethodHandle" ∧ yc.cls ≠ "java/lang/invoke/VarHandle") (hlen : ∀ sig, parseMethodDescriptor yc.desc = some sig → argsL.length = sig.parameters.length) (hS' : S = argsL.reverse ++ .ref a :: S') (has : (.ref a :: argsL).toArray = as') (hd : De b pc (.invokespecial i) 3 n) (hsz : Ls.size = mx) (hW : (S'.map fun v => v.category).sum = W) (hr : rm.frames + 1 ≤ R.frames ∧ W + (cm + 11) + rm.locals ≤ R.locals ∧ ce + rm.cells = ce' ∧ sl + rm.slots = sl' ∧ ce' ≤ R.cells ∧ sl' ≤ R.slots) (K : ∀ (B' : Bx) (v : Option Value) (h' : Heap), Cx B' l Z a0 R y b mx rt nf → Wc B' Z a0 EL vmS hS nf → Chx B' Z EL vmS hS h' → (∀ x, x < h.size → Sfx B Z EL h x → Sfx B' Z EL h' x) → Qc v h' → Go B' n0 Q h' ce' sl' n Ls (v.toList ++ S')) : Go B n0 Q h ce sl pc Ls S := by
  obtain ⟨p, l', e, R', s, m, args, below, meth, c, Fin⟩ := B
  obtain ⟨rfl, rfl, hx, rfl, hml, hown, hnm, hret, hlk, hZ, hfin, hw⟩ := C
  obtain ⟨d1, d2⟩ := D
  intro T locs X eT N
  obtain ⟨hd, rfl⟩ := hd
  obtain ⟨hr1, hr2, rfl, rfl, hr3, hr4⟩ := hr
  subst hS' has
  obtain ⟨v, vm₁, ⟨T', L', k', n'⟩, -, X', hSi, hgr, ⟨Lc, hQ, l1, y1, z1, hC⟩, st⟩ := X.specialBackS hx (y := yc) hi hown (mvT hZ (hw _ w1)) (mvT hZ (hw _ w2)) (mvT hZ (hw _ w4)) hy (PayC.of hM hZ hw w4 w3 hr1 hr2 d2 HC.1 hsa p e below args) (g := mkF m pc Ls (argsL.reverse ++ .ref a :: S')) rfl (by rw [hml]; exact hsz) (Steps.refl _) (a := a) (argsL := argsL) (rest := S') hlen rfl (by show 2 * 0 + _ ≤ _; omega) hd (fun vm1 hW1 => ⟨rfl, eT, hr3, hr4⟩)
  dsimp only [Pt.U, Pt.locs, Pt.cells, Pt.slots] at X' l1 y1 z1 st hQ hC hSi hgr
  subst l1 y1 z1
  obtain ⟨s₂, o, st', r1, r2, r3, v', L, r4, r5, r6⟩ := K (p, l', e, R', s.setVm T'.vm, m, args, below, meth, c, fun v t L => T'.heap.size ≤ t.heap.size → Fin v t L) v _ ⟨rfl, rfl, hx, rfl, hml, (hSi.1.alike.findClass _ _).trans hown, hnm, hret, hlk, State.Warmed39.trans hZ hSi.1, trivial, hw⟩ ⟨fun v t L q1 q2 q4 q3 => d1 v t L q1 (endW hSi q3 q2) q4, d2⟩ (CHr.trans HC hC) (fun x q r => hC.safe q r) hQ.1 T' _ X' rfl (Fr.app N hQ.2.1)
  exact ⟨s₂, o, st.trans st', r1, r2, Nat.le_trans hQ.2.2 r3, v', L, r4, r5, r6 r3⟩
theorem iCallVC (C : Cx B l Z a0 R y b mx rt nf) {EL : List (String × Nat)} {vmS : Vm} {hS : Heap} (D : Wc B Z a0 EL vmS hS nf) (HC : Chx B Z EL vmS hS h) {sa : List Addr} (hsa : ∀ x ∈ sa, x < h.size ∧ Sfx B Z EL h x) {yc : MethodName} {cb : ByteArray} {cm : Nat} {cr : Option FieldType} {rm : Room} {as' : Array Value} {Qc : Option Value → Heap → Prop} {i W ce' sl' : Nat} {argsL : List Value} {a : Addr} {CC : String} {yd : MethodName} (hM : PaysC l Z EL sa yc cb cm cr rm as' n0 h Qc) (E : Exa Z h a CC) (w1 : Jvm.Cond.methodLink y.cls i yd ∈ tables_1) (w2 : Jvm.Cond.declares yd ∈ tables_1) (wn : yd = yc ∨ ∃ SS, Jvm.Cond.superclass yd.cls SS ∈ tables_1) (w5 : Jvm.Cond.selects CC yd yc ∈ tables_1) (w6 : Jvm.Cond.instanceMethod yc ∈ tables_1) (w3 : Jvm.Cond.initialized yc.cls ∈ tables_1) (w4 : Jvm.Cond.code yc cb cm cr ∈ tables_1) (hy : yd.cls ≠ "java/lang/invoke/MethodHandle" ∧ yd.cls ≠ "java/lang/invoke/VarHandle") (hlen : ∀ sig, parseMethodDescriptor yd.desc = some sig → argsL.length = sig.parameters.length) (hS' : S = argsL.reverse ++ .ref a :: S') (has : (.ref a :: argsL).toArray = as') (hd : De b pc (.invokevirtual i) 3 n) (hsz : Ls.size = mx) (hW : (S'.map fun v => v.category).sum = W) (hr : rm.frames + 1 ≤ R.frames ∧ W + (cm + 11) + rm.locals ≤ R.locals ∧ ce + rm.cells = ce' ∧ sl + rm.slots = sl' ∧ ce' ≤ R.cells ∧ sl' ≤ R.slots) (K : ∀ (B' : Bx) (v : Option Value) (h' : Heap), Cx B' l Z a0 R y b mx rt nf → Wc B' Z a0 EL vmS hS nf → Chx B' Z EL vmS hS h' → (∀ x, x < h.size → Sfx B Z EL h x → Sfx B' Z EL h' x) → Qc v h' → Go B' n0 Q h' ce' sl' n Ls (v.toList ++ S')) : Go B n0 Q h ce sl pc Ls S := by
  obtain ⟨p, l', e, R', s, m, args, below, meth, c, Fin⟩ := B
  obtain ⟨rfl, rfl, hx, rfl, hml, hown, hnm, hret, hlk, hZ, hfin, hw⟩ := C
  obtain ⟨d1, d2⟩ := D
  intro T locs X eT N
  obtain ⟨hd, rfl⟩ := hd
  obtain ⟨hr1, hr2, rfl, rfl, hr3, hr4⟩ := hr
  subst hS' has
  obtain ⟨cq, kq, q1, q2, q3⟩ := isOf hZ eT E
  have nf' : NotFace s yd := by
    rcases wn with rfl | ⟨SS, wn⟩
    · exact notFace_of_selects (args := #[]) (mvT hZ (hw _ w5))
    · exact nf_super (args := #[]) (mvT hZ (hw _ wn))
  obtain ⟨v, vm₁, ⟨T', L', k', n'⟩, -, X', hSi, hgr, ⟨Lc, hQ, l1, y1, z1, hC⟩, st⟩ := X.virtualBackS hx (y := yd) (z := yc) hown (mvT hZ (hw _ w1)) (mvT hZ (hw _ w2)) nf' (mvT hZ (hw _ w5)) (mvT hZ (hw _ w6)) hy (PayC.of hM hZ hw w4 w3 hr1 hr2 d2 HC.1 hsa p e below args) q1 q3 (g := mkF m pc Ls (argsL.reverse ++ .ref a :: S')) rfl (by rw [hml]; exact hsz) (Steps.refl _) (argsL := argsL) (rest := S') hlen rfl (by show 2 * 0 + _ ≤ _; omega) hd (fun vm1 hW1 => ⟨rfl, eT, hr3, hr4⟩)
  dsimp only [Pt.U, Pt.locs, Pt.cells, Pt.slots] at X' l1 y1 z1 st hQ hC hSi hgr
  subst l1 y1 z1
  obtain ⟨s₂, o, st', r1, r2, r3, v', L, r4, r5, r6⟩ := K (p, l', e, R', s.setVm T'.vm, m, args, below, meth, c, fun v t L => T'.heap.size ≤ t.heap.size → Fin v t L) v _ ⟨rfl, rfl, hx, rfl, hml, (hSi.1.alike.findClass _ _).trans hown, hnm, hret, hlk, State.Warmed39.trans hZ hSi.1, trivial, hw⟩ ⟨fun v t L q1 q2 q4 q3 => d1 v t L q1 (endW hSi q3 q2) q4, d2⟩ (CHr.trans HC hC) (fun x q r => hC.safe q r) hQ.1 T' _ X' rfl (Fr.app N hQ.2.1)
  exact ⟨s₂, o, st.trans st', r1, r2, Nat.le_trans hQ.2.2 r3, v', L, r4, r5, r6 r3⟩

theorem own_self {yc : MethodName} {CC : String} (hy : yc.cls ≠ "java/lang/invoke/MethodHandle" ∧ yc.cls ≠ "java/lang/invoke/VarHandle") (w2 : (Jvm.Cond.instanceMethod yc).before a0 Z = true) (w5 : (Jvm.Cond.selects CC yc yc).before a0 Z = true) (w6 : (Jvm.Cond.privateMethod yc).before a0 Z = true) : (Jvm.Cond.selects yc.cls yc yc).before a0 Z = true := by
  obtain ⟨mk, methM, hnamed, hmethM, hstM, habM⟩ := Cond.instanceMethod_spec w2
  obtain ⟨kr, hkr, hi⟩ := notFace_of_selects w5 mk hnamed
  exact selects_self_of_private (findClass_of_methodNamed hnamed) hkr hi (Cond.privateMethod_at w6) w2 hy
theorem own_same {yc yd : MethodName} {CC : String} (hcl : yd.cls = yc.cls) (hy : yc.cls ≠ "java/lang/invoke/MethodHandle" ∧ yc.cls ≠ "java/lang/invoke/VarHandle") (w2 : (Jvm.Cond.instanceMethod yc).before a0 Z = true) (w3 : (Jvm.Cond.instanceMethod yd).before a0 Z = true) (w5 : (Jvm.Cond.selects CC yd yd).before a0 Z = true) : (Jvm.Cond.sameMethod yc.cls yc.cls yc.name yc.desc).before a0 Z = true := by
  obtain ⟨mk, methM, hnamed, hmethM, hstM, habM⟩ := Cond.instanceMethod_spec w2
  obtain ⟨md, methD, hnamedD, -⟩ := Cond.instanceMethod_spec w3
  obtain ⟨kr, hkr, hi⟩ := notFace_of_selects w5 md hnamedD
  have f1 := findClass_of_methodNamed hnamed
  have f2 := findClass_of_methodNamed hnamedD
  rw [hcl, f1] at f2
  have e := Option.some.inj f2
  have hf := State.methodFound?_of_named hnamed hy
  have hnamed' : Z.methodNamed? ⟨yc.cls, yc.name, yc.desc⟩ = some mk := hnamed
  rw [← e] at hkr
  simp [Jvm.Cond.before, Jvm.Cond.holds, Jvm.Cond.value, f1, hf, hnamed', hkr, hi]
theorem iCallQ (C : Cx B l Z a0 R y b mx rt nf) {yc : MethodName} {cb : ByteArray} {cm : Nat} {cr : Option FieldType} {rm : Room} {as' : Array Value} {Qc : Option Value → Heap → Prop} {i W ce' sl' : Nat} {argsL : List Value} {a : Addr} {CC KK : String} (hM : Pays l Z yc cb cm cr rm as' n0 h Qc) (E : Exa Z h a CC) (w1 : Jvm.Cond.methodLink y.cls i yc ∈ tables_1) (w2 : Jvm.Cond.instanceMethod yc ∈ tables_1) (w5 : Jvm.Cond.selects KK yc yc ∈ tables_1) (w6 : Jvm.Cond.privateMethod yc ∈ tables_1) (w3 : Jvm.Cond.initialized yc.cls ∈ tables_1) (w4 : Jvm.Cond.code yc cb cm cr ∈ tables_1) (hy : yc.cls ≠ "java/lang/invoke/MethodHandle" ∧ yc.cls ≠ "java/lang/invoke/VarHandle") (hlen : ∀ sig, parseMethodDescriptor yc.desc = some sig → argsL.length = sig.parameters.length) (hS : S = argsL.reverse ++ .ref a :: S') (has : (.ref a :: argsL).toArray = as') (hd : De b pc (.invokevirtual i) 3 n) (hsz : Ls.size = mx) (hW : (S'.map fun v => v.category).sum = W) (hr : rm.frames + 1 ≤ R.frames ∧ W + (cm + 11) + rm.locals ≤ R.locals ∧ ce + rm.cells = ce' ∧ sl + rm.slots = sl' ∧ ce' ≤ R.cells ∧ sl' ≤ R.slots) (K : ∀ (v : Option Value) (h' : Heap), Qc v h' → Go B n0 Q h' ce' sl' n Ls (v.toList ++ S')) : Go B n0 Q h ce sl pc Ls S := by
  have hM' := Pay.of (W := W) (len := 3) hM C.words w4 w3 hr.1 hr.2.1
  obtain ⟨p, l', e, R', s, m, args, below, meth, c, Fin⟩ := B
  obtain ⟨rfl, rfl, hx, rfl, hml, hown, hnm, hret, hlk, hZ, hfin, hw⟩ := C
  intro T locs X eT N
  obtain ⟨hd, rfl⟩ := hd
  obtain ⟨-, -, rfl, rfl, hr3, hr4⟩ := hr
  subst hS has
  obtain ⟨cq, q1, q2⟩ := E.cell
  obtain ⟨v, vm₁, ⟨T', L', k', n'⟩, -, X', ⟨Lc, hQ, l', y', z'⟩, st⟩ := X.privateBack hx (y := yc) hown (mvT hZ (hw _ w1)) (mvT hZ (hw _ w2)) (mvT hZ (own_self hy (hw _ w2) (hw _ w5) (hw _ w6))) (Cond.privateMethod_at (mvP hZ (hw _ w6) (args := #[]))) (mvT hZ (hw _ w4)) hy (hM' p e below s args hZ) (g := mkF m pc Ls (argsL.reverse ++ .ref a :: S')) rfl (by rw [hml]; exact hsz) (Steps.refl _) (a := a) (by rw [eT]; exact q1) q2 (argsL := argsL) (rest := S') hlen rfl (by show 2 * 0 + _ ≤ _; omega) hd (fun _ _ => ⟨rfl, eT, hr3, hr4⟩)
  dsimp only [Pt.U, Pt.locs, Pt.cells, Pt.slots] at X' l' y' z' st hQ
  subst l' y' z'
  obtain ⟨s₂, o, st', r1, r2, r3, r4⟩ := K v _ hQ.1 T' _ X' rfl (Fr.app N hQ.2.1)
  exact ⟨s₂, o, st.trans st', r1, r2, Nat.le_trans hQ.2.2 r3, r4⟩
theorem iCallU (C : Cx B l Z a0 R y b mx rt nf) {yc : MethodName} {cb : ByteArray} {cm : Nat} {cr : Option FieldType} {rm : Room} {as' : Array Value} {Qc : Option Value → Heap → Prop} {i W ce' sl' : Nat} {argsL : List Value} {a : Addr} {KK : String} (hM : Pays l Z yc cb cm cr rm as' n0 h Qc) (F : Ins Z h a KK true) (hi : yc.name ≠ "<init>") (w1 : Jvm.Cond.methodLink y.cls i yc ∈ tables_1) (w2 : (Jvm.Cond.sameMethod yc.cls yc.cls yc.name yc.desc).before a0 Z = true) (w5 : Jvm.Cond.instanceMethod yc ∈ tables_1) (w6 : Jvm.Cond.superclass y.cls yc.cls ∈ tables_1) (w3 : Jvm.Cond.initialized yc.cls ∈ tables_1) (w4 : Jvm.Cond.code yc cb cm cr ∈ tables_1) (hlen : ∀ sig, parseMethodDescriptor yc.desc = some sig → argsL.length = sig.parameters.length) (hS : S = argsL.reverse ++ .ref a :: S') (has : (.ref a :: argsL).toArray = as') (hd : De b pc (.invokespecial i) 3 n) (hsz : Ls.size = mx) (hW : (S'.map fun v => v.category).sum = W) (hr : rm.frames + 1 ≤ R.frames ∧ W + (cm + 11) + rm.locals ≤ R.locals ∧ ce + rm.cells = ce' ∧ sl + rm.slots = sl' ∧ ce' ≤ R.cells ∧ sl' ≤ R.slots) (K : ∀ (v : Option Value) (h' : Heap), Qc v h' → Go B n0 Q h' ce' sl' n Ls (v.toList ++ S')) : Go B n0 Q h ce sl pc Ls S := by
  have hM' := Pay.of (W := W) (len := 3) hM C.words w4 w3 hr.1 hr.2.1
  obtain ⟨p, l', e, R', s, m, args, below, meth, c, Fin⟩ := B
  obtain ⟨rfl, rfl, hx, rfl, hml, hown, hnm, hret, hlk, hZ, hfin, hw⟩ := C
  intro T locs X eT N
  obtain ⟨hd, rfl⟩ := hd
  obtain ⟨-, -, rfl, rfl, hr3, hr4⟩ := hr
  subst hS has
  obtain ⟨v, vm₁, ⟨T', L', k', n'⟩, -, X', ⟨Lc, hQ, l', y', z'⟩, st⟩ := superBack X hx hZ hown (hw _ w1) w2 (hw _ w5) (hw _ w6) hi (hM' p e below s args hZ) eT F (g := mkF m pc Ls (argsL.reverse ++ .ref a :: S')) rfl (by rw [hml]; exact hsz) (hw _ w4) (argsL := argsL) (rest := S') hlen rfl (by show 2 * 0 + _ ≤ _; omega) hd (fun _ _ => ⟨rfl, eT, hr3, hr4⟩)
  dsimp only [Pt.U, Pt.locs, Pt.cells, Pt.slots] at X' l' y' z' st hQ
  subst l' y' z'
  obtain ⟨s₂, o, st', r1, r2, r3, r4⟩ := K v _ hQ.1 T' _ X' rfl (Fr.app N hQ.2.1)
  exact ⟨s₂, o, st.trans st', r1, r2, Nat.le_trans hQ.2.2 r3, r4⟩
theorem iCloneV (C : Cx B l Z a0 R y b mx rt nf) {i W cap ce' sl' : Nat} {ad : String} {a : Addr} {k : ClassId} {z : Int32} {vs : List Value} {dv : Value} {ty : FieldType} (w1 : Jvm.Cond.methodLink y.cls i ⟨ad, "clone", "()Ljava/lang/Object;"⟩ ∈ tables_1) (w2 : Jvm.Cond.sameMethod ad "java/lang/Object" "clone" "()Ljava/lang/Object;" ∈ tables_1) (w3 : Jvm.Cond.native ⟨"java/lang/Object", "clone", "()Ljava/lang/Object;"⟩ ∈ tables_1) (w4 : Jvm.Cond.instanceMethod ⟨"java/lang/Object", "clone", "()Ljava/lang/Object;"⟩ ∈ tables_1) (w5 : Jvm.Cond.selects ad ⟨ad, "clone", "()Ljava/lang/Object;"⟩ ⟨"java/lang/Object", "clone", "()Ljava/lang/Object;"⟩ ∈ tables_1) (w6 : Jvm.Cond.castable ad "java/lang/Cloneable" ∈ tables_1) (A : Arv Z h a k ty z vs dv) (E : Exa Z h a ad) (hcap : z.toNatClampNeg ≤ cap) (hd : De b pc (.invokevirtual i) 3 n) (hsz : Ls.size = mx) (hf : 1 ≤ R.frames) (hW : (S.map fun v => v.category).sum = W) (hl : W + 14 ≤ R.locals) (hc : ce + 1 = ce' ∧ sl + cap = sl' ∧ ce' ≤ R.cells ∧ sl' ≤ R.slots) (K : ∀ (h' : Heap) (a' : Addr), a' = h.size → Ext h h' → Arv Z h' a' k ty z vs dv → Exa Z h' a' ad → Go B n0 Q h' ce' sl' n Ls (.ref a' :: S)) : Go B n0 Q h ce sl pc Ls (.ref a :: S) := by
  obtain ⟨cl, A1, q1, q2, q3, H, G⟩ := A
  have FC : FitC Z cl := fitC_of A1 fun i hi v hv => by rw [H i hi] at hv; cases hv; exact G i hi
  exact iClone C w1 w2 w3 w4 w5 w6 A1 E FC (by rw [q2]; exact hcap) hd hsz hf hW hl hc fun h' a' e E' A' Ex' => K h' a' e E' ⟨cloneOf cl, A', q1, q2, q3, H, G⟩ Ex'
theorem Go.more {ce' sl' : Nat} (q1 : ce ≤ ce') (q2 : sl ≤ sl') (K : Go B n0 Q h ce' sl' pc Ls S) : Go B n0 Q h ce sl pc Ls S := by
  obtain ⟨p, l', e, R', s, m, args, below, meth, c, Fin⟩ := B
  intro T locs X eT N
  exact K T locs (X.more q1 q2) eT N
theorem iNewPE (C : Cx B l Z a0 R y b mx rt nf) {aty : ArrayType} {z : Int32} {cap ce' sl' : Nat} {ad : String} (w : Jvm.Cond.arrayClass (newarray.typeOf aty) ∈ tables_1) (had : "[" ++ (newarray.typeOf aty).toString = ad) (hd : De b pc (.newarray aty) 2 n) (hz : ¬ z < 0) (hcap : z.toNatClampNeg ≤ cap) (hb : cap * 8 ≤ 536870912) (hc : ce + 1 = ce' ∧ sl + cap = sl' ∧ ce' ≤ R.cells ∧ sl' ≤ R.slots) (K : ∀ (h' : Heap) (a : Addr) (k : ClassId), a = h.size → Ext h h' → Arv Z h' a k (newarray.typeOf aty) z [] (defaultValue (newarray.typeOf aty)) → Exa Z h' a ad → Go B n0 Q h' ce' sl' n Ls (.ref a :: S)) : Go B n0 Q h ce sl pc Ls (.int z :: S) := by
  obtain ⟨p, l', e, R', s, m, args, below, meth, c, Fin⟩ := B
  obtain ⟨rfl, rfl, hx, rfl, hml, hown, hnm, hret, hlk, hZ, hfin, hw⟩ := C
  intro T locs X eT N
  obtain ⟨hd, rfl⟩ := hd
  obtain ⟨rfl, rfl, hc1, hc2⟩ := hc
  obtain ⟨T', h', kA, X', e', E, A, Ex, st⟩ := newPE X hx hZ (hw _ w) eT (g := mkF m pc Ls (.int z :: S)) rfl hd rfl hz hcap hb hc1 hc2 had
  obtain ⟨s₂, o, st', r1, r2, r3, r4⟩ := K h' _ kA rfl E (Arv.new A hz) Ex T' locs X' e' N
  exact ⟨s₂, o, st _ st', r1, r2, Nat.le_trans E.1 r3, r4⟩

theorem own_nf {s : State} {args : Array Value} {ye yd : MethodName} {KE : String} (hcl : ye.cls = yd.cls) (w3 : (Jvm.Cond.instanceMethod ye).before args s = true) (w5 : (Jvm.Cond.selects KE ye ye).before args s = true) : NotFace s yd := fun r0 h0 => by
  obtain ⟨md, methD, hnamedD, -⟩ := Cond.instanceMethod_spec w3
  obtain ⟨kr, hkr, hi⟩ := notFace_of_selects w5 md hnamedD
  have f1 := findClass_of_methodNamed h0
  have f2 := findClass_of_methodNamed hnamedD
  rw [hcl, f1] at f2
  have e := Option.some.inj f2
  exact ⟨kr, by rw [e]; exact hkr, hi⟩
theorem iCallXB (C : Cx B l Z a0 R y b mx rt nf) {yc : MethodName} {as' : Array Value} {Qc : Option Value → Heap → Prop} {i W cc ss ce' sl' : Nat} {argsL : List Value} {a : Addr} {CC : String} {yd : MethodName} (hM : Pay l Z R yc 3 W as' n0 h cc ss Qc) (E : Exa Z h a CC) (w1 : Jvm.Cond.methodLink y.cls i yd ∈ tables_1) (w2 : Jvm.Cond.declares yd ∈ tables_1) {ye : MethodName} {KE : String} (wn : ye.cls = yd.cls ∧ Jvm.Cond.instanceMethod ye ∈ tables_1 ∧ Jvm.Cond.selects KE ye ye ∈ tables_1) (w5 : Jvm.Cond.selects CC yd yc ∈ tables_1) (w6 : Jvm.Cond.instanceMethod yc ∈ tables_1) (hy : yd.cls ≠ "java/lang/invoke/MethodHandle" ∧ yd.cls ≠ "java/lang/invoke/VarHandle") (hlen : ∀ sig, parseMethodDescriptor yd.desc = some sig → argsL.length = sig.parameters.length) (hS : S = argsL.reverse ++ .ref a :: S') (has : (.ref a :: argsL).toArray = as') (hd : De b pc (.invokevirtual i) 3 n) (hsz : Ls.size = mx) (hW : (S'.map fun v => v.category).sum = W) (hr : ce + cc = ce' ∧ sl + ss = sl' ∧ ce' ≤ R.cells ∧ sl' ≤ R.slots) (K : ∀ (v : Option Value) (h' : Heap), Qc v h' → Go B n0 Q h' ce' sl' n Ls (v.toList ++ S')) : Go B n0 Q h ce sl pc Ls S := by
  obtain ⟨p, l', e, R', s, m, args, below, meth, c, Fin⟩ := B
  obtain ⟨rfl, rfl, hx, rfl, hml, hown, hnm, hret, hlk, hZ, hfin, hw⟩ := C
  intro T locs X eT N
  obtain ⟨hd, rfl⟩ := hd
  obtain ⟨rfl, rfl, hr3, hr4⟩ := hr
  subst hS has
  obtain ⟨cq, kq, q1, q2, q3⟩ := isOf hZ eT E
  have nf : NotFace s yd := own_nf wn.1 (mvT (args := #[]) hZ (hw _ wn.2.1)) (mvT (args := #[]) hZ (hw _ wn.2.2))
  obtain ⟨v, vm₁, ⟨T', L', k', n'⟩, -, X', ⟨Lc, hQ, l', y', z'⟩, st⟩ := X.virtualBack hx (y := yd) (z := yc) hown (mvT hZ (hw _ w1)) (mvT hZ (hw _ w2)) nf (mvT hZ (hw _ w5)) (mvT hZ (hw _ w6)) hy (hM p e below s args hZ) q1 q3 (g := mkF m pc Ls (argsL.reverse ++ .ref a :: S')) rfl (by rw [hml]; exact hsz) (Steps.refl _) (argsL := argsL) (rest := S') hlen rfl (by show 2 * 0 + _ ≤ _; omega) hd (fun _ _ => ⟨rfl, eT, hr3, hr4⟩)
  dsimp only [Pt.U, Pt.locs, Pt.cells, Pt.slots] at X' l' y' z' st hQ
  subst l' y' z'
  obtain ⟨s₂, o, st', r1, r2, r3, r4⟩ := K v _ hQ.1 T' _ X' rfl (Fr.app N hQ.2.1)
  exact ⟨s₂, o, st.trans st', r1, r2, Nat.le_trans hQ.2.2 r3, r4⟩
theorem iCallX (C : Cx B l Z a0 R y b mx rt nf) {yc : MethodName} {cb : ByteArray} {cm : Nat} {cr : Option FieldType} {rm : Room} {as' : Array Value} {Qc : Option Value → Heap → Prop} {i W ce' sl' : Nat} {argsL : List Value} {a : Addr} {CC : String} {yd : MethodName} (hM : Pays l Z yc cb cm cr rm as' n0 h Qc) (E : Exa Z h a CC) (w1 : Jvm.Cond.methodLink y.cls i yd ∈ tables_1) (w2 : Jvm.Cond.declares yd ∈ tables_1) {ye : MethodName} {KE : String} (wn : ye.cls = yd.cls ∧ Jvm.Cond.instanceMethod ye ∈ tables_1 ∧ Jvm.Cond.selects KE ye ye ∈ tables_1) (w5 : Jvm.Cond.selects CC yd yc ∈ tables_1) (w6 : Jvm.Cond.instanceMethod yc ∈ tables_1) (w3 : Jvm.Cond.initialized yc.cls ∈ tables_1) (w4 : Jvm.Cond.code yc cb cm cr ∈ tables_1) (hy : yd.cls ≠ "java/lang/invoke/MethodHandle" ∧ yd.cls ≠ "java/lang/invoke/VarHandle") (hlen : ∀ sig, parseMethodDescriptor yd.desc = some sig → argsL.length = sig.parameters.length) (hS : S = argsL.reverse ++ .ref a :: S') (has : (.ref a :: argsL).toArray = as') (hd : De b pc (.invokevirtual i) 3 n) (hsz : Ls.size = mx) (hW : (S'.map fun v => v.category).sum = W) (hr : rm.frames + 1 ≤ R.frames ∧ W + (cm + 11) + rm.locals ≤ R.locals ∧ ce + rm.cells = ce' ∧ sl + rm.slots = sl' ∧ ce' ≤ R.cells ∧ sl' ≤ R.slots) (K : ∀ (v : Option Value) (h' : Heap), Qc v h' → Go B n0 Q h' ce' sl' n Ls (v.toList ++ S')) : Go B n0 Q h ce sl pc Ls S :=
  iCallXB C (Pay.of hM C.words w4 w3 hr.1 hr.2.1) E w1 w2 wn w5 w6 hy hlen hS has hd hsz hW hr.2.2 K
end Flow



theorem tw0 : (Jvm.Cond.arrayClass Jvm.ClassFile.FieldType.char) ∈ tables_1 := List.mem_of_getElem? (i := 0) rfl
theorem tw1 : (Jvm.Cond.classLink "com/example/uketsuke/uketsuke/core/token/PageTokenToStringPinLaw" (7 : Nat) "java/lang/String") ∈ tables_1 := List.mem_of_getElem? (i := 1) rfl
theorem tw2 : (Jvm.Cond.instantiable "java/lang/String" (4 : Nat)) ∈ tables_1 := List.mem_of_getElem? (i := 2) rfl
theorem tw3 : (Jvm.Cond.initialized "java/lang/String") ∈ tables_1 := List.mem_of_getElem? (i := 3) rfl
theorem tw4 : (Jvm.Cond.methodLink "com/example/uketsuke/uketsuke/core/token/PageTokenToStringPinLaw" (9 : Nat) ({ cls := "java/lang/String", name := "<init>", desc := "([C)V" } : Jvm.MethodName)) ∈ tables_1 := List.mem_of_getElem? (i := 4) rfl
theorem tw5 : (Jvm.Cond.instanceMethod ({ cls := "java/lang/String", name := "<init>", desc := "([C)V" } : Jvm.MethodName)) ∈ tables_1 := List.mem_of_getElem? (i := 5) rfl
theorem tw6 : (Jvm.Cond.code ({ cls := "java/lang/String", name := "<init>", desc := "([C)V" } : Jvm.MethodName) jdk_42_method_3_code (2 : Nat) (Option.none : Option Jvm.ClassFile.FieldType)) ∈ tables_1 := List.mem_of_getElem? (i := 6) rfl
theorem tw7 : (Jvm.Cond.methodLink "java/lang/String" (27 : Nat) ({ cls := "java/lang/String", name := "<init>", desc := "([CIILjava/lang/Void;)V" } : Jvm.MethodName)) ∈ tables_1 := List.mem_of_getElem? (i := 7) rfl
theorem tw8 : (Jvm.Cond.instanceMethod ({ cls := "java/lang/String", name := "<init>", desc := "([CIILjava/lang/Void;)V" } : Jvm.MethodName)) ∈ tables_1 := List.mem_of_getElem? (i := 8) rfl
theorem tw10 : (Jvm.Cond.code ({ cls := "java/lang/String", name := "<init>", desc := "([CIILjava/lang/Void;)V" } : Jvm.MethodName) jdk_42_method_149_code (6 : Nat) (Option.none : Option Jvm.ClassFile.FieldType)) ∈ tables_1 := List.mem_of_getElem? (i := 10) rfl
theorem tw11 : (Jvm.Cond.methodLink "java/lang/String" (1 : Nat) ({ cls := "java/lang/Object", name := "<init>", desc := "()V" } : Jvm.MethodName)) ∈ tables_1 := List.mem_of_getElem? (i := 11) rfl
theorem tw12 : (Jvm.Cond.instanceMethod ({ cls := "java/lang/Object", name := "<init>", desc := "()V" } : Jvm.MethodName)) ∈ tables_1 := List.mem_of_getElem? (i := 12) rfl
theorem tw13 : (Jvm.Cond.code ({ cls := "java/lang/Object", name := "<init>", desc := "()V" } : Jvm.MethodName) object_method_1_code (1 : Nat) (Option.none : Option Jvm.ClassFile.FieldType)) ∈ tables_1 := List.mem_of_getElem? (i := 13) rfl
theorem tw14 : (Jvm.Cond.stringLink "java/lang/String" (7 : Nat) "") ∈ tables_1 := List.mem_of_getElem? (i := 14) rfl
theorem tw15 : (Jvm.Cond.arrayClass Jvm.ClassFile.FieldType.byte) ∈ tables_1 := List.mem_of_getElem? (i := 15) rfl
theorem tw16 : (Jvm.Cond.laysFinal "java/lang/String" "java/lang/String" "value" "[B") ∈ tables_1 := List.mem_of_getElem? (i := 16) rfl
theorem tw17 : (Jvm.Cond.laysFinal "java/lang/String" "java/lang/String" "coder" "B") ∈ tables_1 := List.mem_of_getElem? (i := 17) rfl
theorem tw20 : (Jvm.Cond.fieldLink "java/lang/String" (9 : Nat) "java/lang/String" "value" "[B") ∈ tables_1 := List.mem_of_getElem? (i := 20) rfl
theorem tw21 : (Jvm.Cond.fieldLink "java/lang/String" (15 : Nat) "java/lang/String" "coder" "B") ∈ tables_1 := List.mem_of_getElem? (i := 21) rfl
theorem tw22 : (Jvm.Cond.fieldLink "java/lang/String" (38 : Nat) "java/lang/String" "COMPACT_STRINGS" "Z") ∈ tables_1 := List.mem_of_getElem? (i := 22) rfl
theorem tw33 : (Jvm.Cond.classLink "com/example/uketsuke/uketsuke/core/token/PageTokenToStringPinLaw" (12 : Nat) "com/example/uketsuke/uketsuke/core/token/PageToken") ∈ tables_1 := List.mem_of_getElem? (i := 33) rfl
theorem tw34 : (Jvm.Cond.instantiable "com/example/uketsuke/uketsuke/core/token/PageToken" (3 : Nat)) ∈ tables_1 := List.mem_of_getElem? (i := 34) rfl
theorem tw35 : (Jvm.Cond.initialized "com/example/uketsuke/uketsuke/core/token/PageToken") ∈ tables_1 := List.mem_of_getElem? (i := 35) rfl
theorem tw36 : (Jvm.Cond.methodLink "com/example/uketsuke/uketsuke/core/token/PageTokenToStringPinLaw" (14 : Nat) ({ cls := "com/example/uketsuke/uketsuke/core/token/PageToken", name := "<init>", desc := "(Ljava/lang/String;Ljava/lang/String;J)V" } : Jvm.MethodName)) ∈ tables_1 := List.mem_of_getElem? (i := 36) rfl
theorem tw37 : (Jvm.Cond.instanceMethod ({ cls := "com/example/uketsuke/uketsuke/core/token/PageToken", name := "<init>", desc := "(Ljava/lang/String;Ljava/lang/String;J)V" } : Jvm.MethodName)) ∈ tables_1 := List.mem_of_getElem? (i := 37) rfl
theorem tw38 : (Jvm.Cond.code ({ cls := "com/example/uketsuke/uketsuke/core/token/PageToken", name := "<init>", desc := "(Ljava/lang/String;Ljava/lang/String;J)V" } : Jvm.MethodName) prog_55_method_1_code (5 : Nat) (Option.none : Option Jvm.ClassFile.FieldType)) ∈ tables_1 := List.mem_of_getElem? (i := 38) rfl
theorem tw39 : (Jvm.Cond.methodLink "com/example/uketsuke/uketsuke/core/token/PageToken" (1 : Nat) ({ cls := "java/lang/Record", name := "<init>", desc := "()V" } : Jvm.MethodName)) ∈ tables_1 := List.mem_of_getElem? (i := 39) rfl
theorem tw40 : (Jvm.Cond.instanceMethod ({ cls := "java/lang/Record", name := "<init>", desc := "()V" } : Jvm.MethodName)) ∈ tables_1 := List.mem_of_getElem? (i := 40) rfl
theorem tw42 : (Jvm.Cond.initialized "java/lang/Record") ∈ tables_1 := List.mem_of_getElem? (i := 42) rfl
theorem tw43 : (Jvm.Cond.code ({ cls := "java/lang/Record", name := "<init>", desc := "()V" } : Jvm.MethodName) jdk_30_method_1_code (1 : Nat) (Option.none : Option Jvm.ClassFile.FieldType)) ∈ tables_1 := List.mem_of_getElem? (i := 43) rfl
theorem tw44 : (Jvm.Cond.methodLink "java/lang/Record" (1 : Nat) ({ cls := "java/lang/Object", name := "<init>", desc := "()V" } : Jvm.MethodName)) ∈ tables_1 := List.mem_of_getElem? (i := 44) rfl
theorem tw45 : (Jvm.Cond.fieldLink "com/example/uketsuke/uketsuke/core/token/PageToken" (7 : Nat) "com/example/uketsuke/uketsuke/core/token/PageToken" "text" "Ljava/lang/String;") ∈ tables_1 := List.mem_of_getElem? (i := 45) rfl
theorem tw46 : (Jvm.Cond.laysFinal "com/example/uketsuke/uketsuke/core/token/PageToken" "com/example/uketsuke/uketsuke/core/token/PageToken" "text" "Ljava/lang/String;") ∈ tables_1 := List.mem_of_getElem? (i := 46) rfl
theorem tw47 : (Jvm.Cond.fieldLink "com/example/uketsuke/uketsuke/core/token/PageToken" (13 : Nat) "com/example/uketsuke/uketsuke/core/token/PageToken" "nonce" "Ljava/lang/String;") ∈ tables_1 := List.mem_of_getElem? (i := 47) rfl
theorem tw48 : (Jvm.Cond.laysFinal "com/example/uketsuke/uketsuke/core/token/PageToken" "com/example/uketsuke/uketsuke/core/token/PageToken" "nonce" "Ljava/lang/String;") ∈ tables_1 := List.mem_of_getElem? (i := 48) rfl
theorem tw49 : (Jvm.Cond.fieldLink "com/example/uketsuke/uketsuke/core/token/PageToken" (16 : Nat) "com/example/uketsuke/uketsuke/core/token/PageToken" "expiresAt" "J") ∈ tables_1 := List.mem_of_getElem? (i := 49) rfl
theorem tw50 : (Jvm.Cond.laysFinal "com/example/uketsuke/uketsuke/core/token/PageToken" "com/example/uketsuke/uketsuke/core/token/PageToken" "expiresAt" "J") ∈ tables_1 := List.mem_of_getElem? (i := 50) rfl
theorem tw51 : (Jvm.Cond.methodLink "com/example/uketsuke/uketsuke/core/token/PageTokenToStringPinLaw" (17 : Nat) ({ cls := "com/example/uketsuke/uketsuke/core/token/PageToken", name := "toString", desc := "()Ljava/lang/String;" } : Jvm.MethodName)) ∈ tables_1 := List.mem_of_getElem? (i := 51) rfl
theorem tw52 : (Jvm.Cond.declares ({ cls := "com/example/uketsuke/uketsuke/core/token/PageToken", name := "toString", desc := "()Ljava/lang/String;" } : Jvm.MethodName)) ∈ tables_1 := List.mem_of_getElem? (i := 52) rfl
theorem tw53 : (Jvm.Cond.instanceMethod ({ cls := "com/example/uketsuke/uketsuke/core/token/PageToken", name := "toString", desc := "()Ljava/lang/String;" } : Jvm.MethodName)) ∈ tables_1 := List.mem_of_getElem? (i := 53) rfl
theorem tw54 : (Jvm.Cond.selects "com/example/uketsuke/uketsuke/core/token/PageToken" ({ cls := "com/example/uketsuke/uketsuke/core/token/PageToken", name := "toString", desc := "()Ljava/lang/String;" } : Jvm.MethodName) ({ cls := "com/example/uketsuke/uketsuke/core/token/PageToken", name := "toString", desc := "()Ljava/lang/String;" } : Jvm.MethodName)) ∈ tables_1 := List.mem_of_getElem? (i := 54) rfl
theorem tw55 : (Jvm.Cond.code ({ cls := "com/example/uketsuke/uketsuke/core/token/PageToken", name := "toString", desc := "()Ljava/lang/String;" } : Jvm.MethodName) prog_55_method_2_code (1 : Nat) (Option.some (Jvm.ClassFile.FieldType.object "java/lang/String"))) ∈ tables_1 := List.mem_of_getElem? (i := 55) rfl
theorem tw56 : (Jvm.Cond.classLink "com/example/uketsuke/uketsuke/core/token/PageToken" (20 : Nat) "java/lang/StringBuilder") ∈ tables_1 := List.mem_of_getElem? (i := 56) rfl
theorem tw57 : (Jvm.Cond.instantiable "java/lang/StringBuilder" (4 : Nat)) ∈ tables_1 := List.mem_of_getElem? (i := 57) rfl
theorem tw58 : (Jvm.Cond.initialized "java/lang/StringBuilder") ∈ tables_1 := List.mem_of_getElem? (i := 58) rfl
theorem tw59 : (Jvm.Cond.methodLink "com/example/uketsuke/uketsuke/core/token/PageToken" (22 : Nat) ({ cls := "java/lang/StringBuilder", name := "<init>", desc := "()V" } : Jvm.MethodName)) ∈ tables_1 := List.mem_of_getElem? (i := 59) rfl
theorem tw60 : (Jvm.Cond.instanceMethod ({ cls := "java/lang/StringBuilder", name := "<init>", desc := "()V" } : Jvm.MethodName)) ∈ tables_1 := List.mem_of_getElem? (i := 60) rfl
theorem tw61 : (Jvm.Cond.code ({ cls := "java/lang/StringBuilder", name := "<init>", desc := "()V" } : Jvm.MethodName) jdk_67_method_1_code (1 : Nat) (Option.none : Option Jvm.ClassFile.FieldType)) ∈ tables_1 := List.mem_of_getElem? (i := 61) rfl
theorem tw62 : (Jvm.Cond.methodLink "java/lang/StringBuilder" (1 : Nat) ({ cls := "java/lang/AbstractStringBuilder", name := "<init>", desc := "(I)V" } : Jvm.MethodName)) ∈ tables_1 := List.mem_of_getElem? (i := 62) rfl
theorem tw63 : (Jvm.Cond.instanceMethod ({ cls := "java/lang/AbstractStringBuilder", name := "<init>", desc := "(I)V" } : Jvm.MethodName)) ∈ tables_1 := List.mem_of_getElem? (i := 63) rfl
theorem tw66 : (Jvm.Cond.initialized "java/lang/AbstractStringBuilder") ∈ tables_1 := List.mem_of_getElem? (i := 66) rfl
theorem tw67 : (Jvm.Cond.code ({ cls := "java/lang/AbstractStringBuilder", name := "<init>", desc := "(I)V" } : Jvm.MethodName) jdk_68_method_2_code (2 : Nat) (Option.none : Option Jvm.ClassFile.FieldType)) ∈ tables_1 := List.mem_of_getElem? (i := 67) rfl
theorem tw68 : (Jvm.Cond.methodLink "java/lang/AbstractStringBuilder" (3 : Nat) ({ cls := "java/lang/Object", name := "<init>", desc := "()V" } : Jvm.MethodName)) ∈ tables_1 := List.mem_of_getElem? (i := 68) rfl
theorem tw69 : (Jvm.Cond.fieldLink "java/lang/AbstractStringBuilder" (18 : Nat) "java/lang/String" "COMPACT_STRINGS" "Z") ∈ tables_1 := List.mem_of_getElem? (i := 69) rfl
theorem tw70 : (Jvm.Cond.fieldLink "java/lang/AbstractStringBuilder" (15 : Nat) "java/lang/AbstractStringBuilder" "value" "[B") ∈ tables_1 := List.mem_of_getElem? (i := 70) rfl
theorem tw71 : (Jvm.Cond.lays "java/lang/StringBuilder" "java/lang/AbstractStringBuilder" "value" "[B") ∈ tables_1 := List.mem_of_getElem? (i := 71) rfl
theorem tw72 : (Jvm.Cond.fieldLink "java/lang/AbstractStringBuilder" (22 : Nat) "java/lang/AbstractStringBuilder" "coder" "B") ∈ tables_1 := List.mem_of_getElem? (i := 72) rfl
theorem tw73 : (Jvm.Cond.lays "java/lang/StringBuilder" "java/lang/AbstractStringBuilder" "coder" "B") ∈ tables_1 := List.mem_of_getElem? (i := 73) rfl
theorem tw74 : (Jvm.Cond.stringLink "com/example/uketsuke/uketsuke/core/token/PageToken" (23 : Nat) "PageToken[nonce=") ∈ tables_1 := List.mem_of_getElem? (i := 74) rfl
theorem tw75 : (Jvm.Cond.methodLink "com/example/uketsuke/uketsuke/core/token/PageToken" (25 : Nat) ({ cls := "java/lang/StringBuilder", name := "append", desc := "(Ljava/lang/String;)Ljava/lang/StringBuilder;" } : Jvm.MethodName)) ∈ tables_1 := List.mem_of_getElem? (i := 75) rfl
theorem tw76 : (Jvm.Cond.declares ({ cls := "java/lang/StringBuilder", name := "append", desc := "(Ljava/lang/String;)Ljava/lang/StringBuilder;" } : Jvm.MethodName)) ∈ tables_1 := List.mem_of_getElem? (i := 76) rfl
theorem tw77 : (Jvm.Cond.instanceMethod ({ cls := "java/lang/StringBuilder", name := "append", desc := "(Ljava/lang/String;)Ljava/lang/StringBuilder;" } : Jvm.MethodName)) ∈ tables_1 := List.mem_of_getElem? (i := 77) rfl
theorem tw78 : (Jvm.Cond.selects "java/lang/StringBuilder" ({ cls := "java/lang/StringBuilder", name := "append", desc := "(Ljava/lang/String;)Ljava/lang/StringBuilder;" } : Jvm.MethodName) ({ cls := "java/lang/StringBuilder", name := "append", desc := "(Ljava/lang/String;)Ljava/lang/StringBuilder;" } : Jvm.MethodName)) ∈ tables_1 := List.mem_of_getElem? (i := 78) rfl
theorem tw79 : (Jvm.Cond.code ({ cls := "java/lang/StringBuilder", name := "append", desc := "(Ljava/lang/String;)Ljava/lang/StringBuilder;" } : Jvm.MethodName) jdk_67_method_7_code (2 : Nat) (Option.some (Jvm.ClassFile.FieldType.object "java/lang/StringBuilder"))) ∈ tables_1 := List.mem_of_getElem? (i := 79) rfl
theorem tw80 : (Jvm.Cond.methodLink "java/lang/StringBuilder" (29 : Nat) ({ cls := "java/lang/AbstractStringBuilder", name := "append", desc := "(Ljava/lang/String;)Ljava/lang/AbstractStringBuilder;" } : Jvm.MethodName)) ∈ tables_1 := List.mem_of_getElem? (i := 80) rfl
theorem tw81 : (Jvm.Cond.instanceMethod ({ cls := "java/lang/AbstractStringBuilder", name := "append", desc := "(Ljava/lang/String;)Ljava/lang/AbstractStringBuilder;" } : Jvm.MethodName)) ∈ tables_1 := List.mem_of_getElem? (i := 81) rfl
theorem tw82 : (Jvm.Cond.superclass "java/lang/StringBuilder" "java/lang/AbstractStringBuilder") ∈ tables_1 := List.mem_of_getElem? (i := 82) rfl
theorem tw84 : (Jvm.Cond.code ({ cls := "java/lang/AbstractStringBuilder", name := "append", desc := "(Ljava/lang/String;)Ljava/lang/AbstractStringBuilder;" } : Jvm.MethodName) jdk_68_method_22_code (3 : Nat) (Option.some (Jvm.ClassFile.FieldType.object "java/lang/AbstractStringBuilder"))) ∈ tables_1 := List.mem_of_getElem? (i := 84) rfl
theorem tw85 : (Jvm.Cond.methodLink "java/lang/AbstractStringBuilder" (32 : Nat) ({ cls := "java/lang/String", name := "length", desc := "()I" } : Jvm.MethodName)) ∈ tables_1 := List.mem_of_getElem? (i := 85) rfl
theorem tw86 : (Jvm.Cond.declares ({ cls := "java/lang/String", name := "length", desc := "()I" } : Jvm.MethodName)) ∈ tables_1 := List.mem_of_getElem? (i := 86) rfl
theorem tw87 : (Jvm.Cond.instanceMethod ({ cls := "java/lang/String", name := "length", desc := "()I" } : Jvm.MethodName)) ∈ tables_1 := List.mem_of_getElem? (i := 87) rfl
theorem tw88 : (Jvm.Cond.selects "java/lang/String" ({ cls := "java/lang/String", name := "length", desc := "()I" } : Jvm.MethodName) ({ cls := "java/lang/String", name := "length", desc := "()I" } : Jvm.MethodName)) ∈ tables_1 := List.mem_of_getElem? (i := 88) rfl
theorem tw89 : (Jvm.Cond.code ({ cls := "java/lang/String", name := "length", desc := "()I" } : Jvm.MethodName) jdk_42_method_54_code (1 : Nat) (Option.some Jvm.ClassFile.FieldType.int)) ∈ tables_1 := List.mem_of_getElem? (i := 89) rfl
theorem tw90 : (Jvm.Cond.methodLink "java/lang/String" (335 : Nat) ({ cls := "java/lang/String", name := "coder", desc := "()B" } : Jvm.MethodName)) ∈ tables_1 := List.mem_of_getElem? (i := 90) rfl
theorem tw91 : (Jvm.Cond.declares ({ cls := "java/lang/String", name := "coder", desc := "()B" } : Jvm.MethodName)) ∈ tables_1 := List.mem_of_getElem? (i := 91) rfl
theorem tw92 : (Jvm.Cond.instanceMethod ({ cls := "java/lang/String", name := "coder", desc := "()B" } : Jvm.MethodName)) ∈ tables_1 := List.mem_of_getElem? (i := 92) rfl
theorem tw93 : (Jvm.Cond.selects "java/lang/String" ({ cls := "java/lang/String", name := "coder", desc := "()B" } : Jvm.MethodName) ({ cls := "java/lang/String", name := "coder", desc := "()B" } : Jvm.MethodName)) ∈ tables_1 := List.mem_of_getElem? (i := 93) rfl
theorem tw94 : (Jvm.Cond.code ({ cls := "java/lang/String", name := "coder", desc := "()B" } : Jvm.MethodName) jdk_42_method_152_code (1 : Nat) (Option.some Jvm.ClassFile.FieldType.byte)) ∈ tables_1 := List.mem_of_getElem? (i := 94) rfl
theorem tw95 : (Jvm.Cond.fieldLink "java/lang/AbstractStringBuilder" (79 : Nat) "java/lang/AbstractStringBuilder" "count" "I") ∈ tables_1 := List.mem_of_getElem? (i := 95) rfl
theorem tw96 : (Jvm.Cond.lays "java/lang/StringBuilder" "java/lang/AbstractStringBuilder" "count" "I") ∈ tables_1 := List.mem_of_getElem? (i := 96) rfl
theorem tw97 : (Jvm.Cond.methodLink "java/lang/AbstractStringBuilder" (100 : Nat) ({ cls := "java/lang/AbstractStringBuilder", name := "ensureCapacityInternal", desc := "(I)V" } : Jvm.MethodName)) ∈ tables_1 := List.mem_of_getElem? (i := 97) rfl
theorem tw98 : (Jvm.Cond.instanceMethod ({ cls := "java/lang/AbstractStringBuilder", name := "ensureCapacityInternal", desc := "(I)V" } : Jvm.MethodName)) ∈ tables_1 := List.mem_of_getElem? (i := 98) rfl
theorem tw99 : (Jvm.Cond.privateMethod ({ cls := "java/lang/AbstractStringBuilder", name := "ensureCapacityInternal", desc := "(I)V" } : Jvm.MethodName)) ∈ tables_1 := List.mem_of_getElem? (i := 99) rfl
theorem tw100 : (Jvm.Cond.selects "java/lang/StringBuilder" ({ cls := "java/lang/AbstractStringBuilder", name := "ensureCapacityInternal", desc := "(I)V" } : Jvm.MethodName) ({ cls := "java/lang/AbstractStringBuilder", name := "ensureCapacityInternal", desc := "(I)V" } : Jvm.MethodName)) ∈ tables_1 := List.mem_of_getElem? (i := 100) rfl
theorem tw101 : (Jvm.Cond.code ({ cls := "java/lang/AbstractStringBuilder", name := "ensureCapacityInternal", desc := "(I)V" } : Jvm.MethodName) jdk_68_method_9_code (3 : Nat) (Option.none : Option Jvm.ClassFile.FieldType)) ∈ tables_1 := List.mem_of_getElem? (i := 101) rfl
theorem tw102 : (Jvm.Cond.methodLink "java/lang/AbstractStringBuilder" (208 : Nat) ({ cls := "java/lang/AbstractStringBuilder", name := "putStringAt", desc := "(ILjava/lang/String;)V" } : Jvm.MethodName)) ∈ tables_1 := List.mem_of_getElem? (i := 102) rfl
theorem tw103 : (Jvm.Cond.instanceMethod ({ cls := "java/lang/AbstractStringBuilder", name := "putStringAt", desc := "(ILjava/lang/String;)V" } : Jvm.MethodName)) ∈ tables_1 := List.mem_of_getElem? (i := 103) rfl
theorem tw104 : (Jvm.Cond.privateMethod ({ cls := "java/lang/AbstractStringBuilder", name := "putStringAt", desc := "(ILjava/lang/String;)V" } : Jvm.MethodName)) ∈ tables_1 := List.mem_of_getElem? (i := 104) rfl
theorem tw105 : (Jvm.Cond.selects "java/lang/StringBuilder" ({ cls := "java/lang/AbstractStringBuilder", name := "putStringAt", desc := "(ILjava/lang/String;)V" } : Jvm.MethodName) ({ cls := "java/lang/AbstractStringBuilder", name := "putStringAt", desc := "(ILjava/lang/String;)V" } : Jvm.MethodName)) ∈ tables_1 := List.mem_of_getElem? (i := 105) rfl
theorem tw106 : (Jvm.Cond.code ({ cls := "java/lang/AbstractStringBuilder", name := "putStringAt", desc := "(ILjava/lang/String;)V" } : Jvm.MethodName) jdk_68_method_73_code (3 : Nat) (Option.none : Option Jvm.ClassFile.FieldType)) ∈ tables_1 := List.mem_of_getElem? (i := 106) rfl
theorem tw107 : (Jvm.Cond.methodLink "java/lang/AbstractStringBuilder" (397 : Nat) ({ cls := "java/lang/AbstractStringBuilder", name := "inflateIfNeededFor", desc := "(Ljava/lang/String;)V" } : Jvm.MethodName)) ∈ tables_1 := List.mem_of_getElem? (i := 107) rfl
theorem tw108 : (Jvm.Cond.instanceMethod ({ cls := "java/lang/AbstractStringBuilder", name := "inflateIfNeededFor", desc := "(Ljava/lang/String;)V" } : Jvm.MethodName)) ∈ tables_1 := List.mem_of_getElem? (i := 108) rfl
theorem tw109 : (Jvm.Cond.privateMethod ({ cls := "java/lang/AbstractStringBuilder", name := "inflateIfNeededFor", desc := "(Ljava/lang/String;)V" } : Jvm.MethodName)) ∈ tables_1 := List.mem_of_getElem? (i := 109) rfl
theorem tw110 : (Jvm.Cond.selects "java/lang/StringBuilder" ({ cls := "java/lang/AbstractStringBuilder", name := "inflateIfNeededFor", desc := "(Ljava/lang/String;)V" } : Jvm.MethodName) ({ cls := "java/lang/AbstractStringBuilder", name := "inflateIfNeededFor", desc := "(Ljava/lang/String;)V" } : Jvm.MethodName)) ∈ tables_1 := List.mem_of_getElem? (i := 110) rfl
theorem tw111 : (Jvm.Cond.code ({ cls := "java/lang/AbstractStringBuilder", name := "inflateIfNeededFor", desc := "(Ljava/lang/String;)V" } : Jvm.MethodName) jdk_68_method_71_code (2 : Nat) (Option.none : Option Jvm.ClassFile.FieldType)) ∈ tables_1 := List.mem_of_getElem? (i := 111) rfl
theorem tw112 : (Jvm.Cond.methodLink "java/lang/AbstractStringBuilder" (40 : Nat) ({ cls := "java/lang/String", name := "coder", desc := "()B" } : Jvm.MethodName)) ∈ tables_1 := List.mem_of_getElem? (i := 112) rfl
theorem tw113 : (Jvm.Cond.methodLink "java/lang/AbstractStringBuilder" (399 : Nat) ({ cls := "java/lang/String", name := "getBytes", desc := "([BIB)V" } : Jvm.MethodName)) ∈ tables_1 := List.mem_of_getElem? (i := 113) rfl
theorem tw114 : (Jvm.Cond.declares ({ cls := "java/lang/String", name := "getBytes", desc := "([BIB)V" } : Jvm.MethodName)) ∈ tables_1 := List.mem_of_getElem? (i := 114) rfl
theorem tw115 : (Jvm.Cond.instanceMethod ({ cls := "java/lang/String", name := "getBytes", desc := "([BIB)V" } : Jvm.MethodName)) ∈ tables_1 := List.mem_of_getElem? (i := 115) rfl
theorem tw116 : (Jvm.Cond.selects "java/lang/String" ({ cls := "java/lang/String", name := "getBytes", desc := "([BIB)V" } : Jvm.MethodName) ({ cls := "java/lang/String", name := "getBytes", desc := "([BIB)V" } : Jvm.MethodName)) ∈ tables_1 := List.mem_of_getElem? (i := 116) rfl
theorem tw117 : (Jvm.Cond.code ({ cls := "java/lang/String", name := "getBytes", desc := "([BIB)V" } : Jvm.MethodName) jdk_42_method_147_code (4 : Nat) (Option.none : Option Jvm.ClassFile.FieldType)) ∈ tables_1 := List.mem_of_getElem? (i := 117) rfl
theorem tw118 : (Jvm.Cond.methodLink "java/lang/String" (212 : Nat) ({ cls := "java/lang/System", name := "arraycopy", desc := "(Ljava/lang/Object;ILjava/lang/Object;II)V" } : Jvm.MethodName)) ∈ tables_1 := List.mem_of_getElem? (i := 118) rfl
theorem tw119 : (Jvm.Cond.static ({ cls := "java/lang/System", name := "arraycopy", desc := "(Ljava/lang/Object;ILjava/lang/Object;II)V" } : Jvm.MethodName)) ∈ tables_1 := List.mem_of_getElem? (i := 119) rfl
theorem tw120 : (Jvm.Cond.initialized "java/lang/System") ∈ tables_1 := List.mem_of_getElem? (i := 120) rfl
theorem tw121 : (Jvm.Cond.native ({ cls := "java/lang/System", name := "arraycopy", desc := "(Ljava/lang/Object;ILjava/lang/Object;II)V" } : Jvm.MethodName)) ∈ tables_1 := List.mem_of_getElem? (i := 121) rfl
theorem tw122 : (Jvm.Cond.stringLink "com/example/uketsuke/uketsuke/core/token/PageToken" (29 : Nat) ", expiresAt=") ∈ tables_1 := List.mem_of_getElem? (i := 122) rfl
theorem tw123 : (Jvm.Cond.methodLink "java/lang/AbstractStringBuilder" (104 : Nat) ({ cls := "java/lang/AbstractStringBuilder", name := "newCapacity", desc := "(I)I" } : Jvm.MethodName)) ∈ tables_1 := List.mem_of_getElem? (i := 123) rfl
theorem tw124 : (Jvm.Cond.instanceMethod ({ cls := "java/lang/AbstractStringBuilder", name := "newCapacity", desc := "(I)I" } : Jvm.MethodName)) ∈ tables_1 := List.mem_of_getElem? (i := 124) rfl
theorem tw125 : (Jvm.Cond.privateMethod ({ cls := "java/lang/AbstractStringBuilder", name := "newCapacity", desc := "(I)I" } : Jvm.MethodName)) ∈ tables_1 := List.mem_of_getElem? (i := 125) rfl
theorem tw126 : (Jvm.Cond.selects "java/lang/StringBuilder" ({ cls := "java/lang/AbstractStringBuilder", name := "newCapacity", desc := "(I)I" } : Jvm.MethodName) ({ cls := "java/lang/AbstractStringBuilder", name := "newCapacity", desc := "(I)I" } : Jvm.MethodName)) ∈ tables_1 := List.mem_of_getElem? (i := 126) rfl
theorem tw127 : (Jvm.Cond.code ({ cls := "java/lang/AbstractStringBuilder", name := "newCapacity", desc := "(I)I" } : Jvm.MethodName) jdk_68_method_10_code (6 : Nat) (Option.some Jvm.ClassFile.FieldType.int)) ∈ tables_1 := List.mem_of_getElem? (i := 127) rfl
theorem tw128 : (Jvm.Cond.methodLink "java/lang/AbstractStringBuilder" (114 : Nat) ({ cls := "jdk/internal/util/ArraysSupport", name := "newLength", desc := "(III)I" } : Jvm.MethodName)) ∈ tables_1 := List.mem_of_getElem? (i := 128) rfl
theorem tw129 : (Jvm.Cond.static ({ cls := "jdk/internal/util/ArraysSupport", name := "newLength", desc := "(III)I" } : Jvm.MethodName)) ∈ tables_1 := List.mem_of_getElem? (i := 129) rfl
theorem tw130 : (Jvm.Cond.initialized "jdk/internal/util/ArraysSupport") ∈ tables_1 := List.mem_of_getElem? (i := 130) rfl
theorem tw131 : (Jvm.Cond.code ({ cls := "jdk/internal/util/ArraysSupport", name := "newLength", desc := "(III)I" } : Jvm.MethodName) jdk_48_method_27_code (4 : Nat) (Option.some Jvm.ClassFile.FieldType.int)) ∈ tables_1 := List.mem_of_getElem? (i := 131) rfl
theorem tw132 : (Jvm.Cond.methodLink "jdk/internal/util/ArraysSupport" (194 : Nat) ({ cls := "java/lang/Math", name := "max", desc := "(II)I" } : Jvm.MethodName)) ∈ tables_1 := List.mem_of_getElem? (i := 132) rfl
theorem tw133 : (Jvm.Cond.static ({ cls := "java/lang/Math", name := "max", desc := "(II)I" } : Jvm.MethodName)) ∈ tables_1 := List.mem_of_getElem? (i := 133) rfl
theorem tw134 : (Jvm.Cond.initialized "java/lang/Math") ∈ tables_1 := List.mem_of_getElem? (i := 134) rfl
theorem tw135 : (Jvm.Cond.code ({ cls := "java/lang/Math", name := "max", desc := "(II)I" } : Jvm.MethodName) jdk_29_method_65_code (2 : Nat) (Option.some Jvm.ClassFile.FieldType.int)) ∈ tables_1 := List.mem_of_getElem? (i := 135) rfl
theorem tw136 : (Jvm.Cond.constant "jdk/internal/util/ArraysSupport" (200 : Nat) (2147483639 : Int32)) ∈ tables_1 := List.mem_of_getElem? (i := 136) rfl
theorem tw137 : (Jvm.Cond.constant "java/lang/AbstractStringBuilder" (39 : Nat) (2147483647 : Int32)) ∈ tables_1 := List.mem_of_getElem? (i := 137) rfl
theorem tw138 : (Jvm.Cond.methodLink "java/lang/AbstractStringBuilder" (108 : Nat) ({ cls := "java/util/Arrays", name := "copyOf", desc := "([BI)[B" } : Jvm.MethodName)) ∈ tables_1 := List.mem_of_getElem? (i := 138) rfl
theorem tw139 : (Jvm.Cond.static ({ cls := "java/util/Arrays", name := "copyOf", desc := "([BI)[B" } : Jvm.MethodName)) ∈ tables_1 := List.mem_of_getElem? (i := 139) rfl
theorem tw140 : (Jvm.Cond.initialized "java/util/Arrays") ∈ tables_1 := List.mem_of_getElem? (i := 140) rfl
theorem tw141 : (Jvm.Cond.code ({ cls := "java/util/Arrays", name := "copyOf", desc := "([BI)[B" } : Jvm.MethodName) jdk_65_method_121_code (3 : Nat) (Option.some (Jvm.ClassFile.FieldType.array Jvm.ClassFile.FieldType.byte))) ∈ tables_1 := List.mem_of_getElem? (i := 141) rfl
theorem tw142 : (Jvm.Cond.methodLink "java/util/Arrays" (304 : Nat) ({ cls := "java/lang/Math", name := "min", desc := "(II)I" } : Jvm.MethodName)) ∈ tables_1 := List.mem_of_getElem? (i := 142) rfl
theorem tw143 : (Jvm.Cond.static ({ cls := "java/lang/Math", name := "min", desc := "(II)I" } : Jvm.MethodName)) ∈ tables_1 := List.mem_of_getElem? (i := 143) rfl
theorem tw144 : (Jvm.Cond.code ({ cls := "java/lang/Math", name := "min", desc := "(II)I" } : Jvm.MethodName) jdk_29_method_69_code (2 : Nat) (Option.some Jvm.ClassFile.FieldType.int)) ∈ tables_1 := List.mem_of_getElem? (i := 144) rfl
theorem tw145 : (Jvm.Cond.methodLink "java/util/Arrays" (150 : Nat) ({ cls := "java/lang/System", name := "arraycopy", desc := "(Ljava/lang/Object;ILjava/lang/Object;II)V" } : Jvm.MethodName)) ∈ tables_1 := List.mem_of_getElem? (i := 145) rfl
theorem tw146 : (Jvm.Cond.methodLink "com/example/uketsuke/uketsuke/core/token/PageToken" (31 : Nat) ({ cls := "java/lang/StringBuilder", name := "append", desc := "(J)Ljava/lang/StringBuilder;" } : Jvm.MethodName)) ∈ tables_1 := List.mem_of_getElem? (i := 146) rfl
theorem tw147 : (Jvm.Cond.declares ({ cls := "java/lang/StringBuilder", name := "append", desc := "(J)Ljava/lang/StringBuilder;" } : Jvm.MethodName)) ∈ tables_1 := List.mem_of_getElem? (i := 147) rfl
theorem tw148 : (Jvm.Cond.instanceMethod ({ cls := "java/lang/StringBuilder", name := "append", desc := "(J)Ljava/lang/StringBuilder;" } : Jvm.MethodName)) ∈ tables_1 := List.mem_of_getElem? (i := 148) rfl
theorem tw149 : (Jvm.Cond.selects "java/lang/StringBuilder" ({ cls := "java/lang/StringBuilder", name := "append", desc := "(J)Ljava/lang/StringBuilder;" } : Jvm.MethodName) ({ cls := "java/lang/StringBuilder", name := "append", desc := "(J)Ljava/lang/StringBuilder;" } : Jvm.MethodName)) ∈ tables_1 := List.mem_of_getElem? (i := 149) rfl
theorem tw150 : (Jvm.Cond.code ({ cls := "java/lang/StringBuilder", name := "append", desc := "(J)Ljava/lang/StringBuilder;" } : Jvm.MethodName) jdk_67_method_16_code (3 : Nat) (Option.some (Jvm.ClassFile.FieldType.object "java/lang/StringBuilder"))) ∈ tables_1 := List.mem_of_getElem? (i := 150) rfl
theorem tw151 : (Jvm.Cond.methodLink "java/lang/StringBuilder" (56 : Nat) ({ cls := "java/lang/AbstractStringBuilder", name := "append", desc := "(J)Ljava/lang/AbstractStringBuilder;" } : Jvm.MethodName)) ∈ tables_1 := List.mem_of_getElem? (i := 151) rfl
theorem tw152 : (Jvm.Cond.instanceMethod ({ cls := "java/lang/AbstractStringBuilder", name := "append", desc := "(J)Ljava/lang/AbstractStringBuilder;" } : Jvm.MethodName)) ∈ tables_1 := List.mem_of_getElem? (i := 152) rfl
theorem tw154 : (Jvm.Cond.code ({ cls := "java/lang/AbstractStringBuilder", name := "append", desc := "(J)Ljava/lang/AbstractStringBuilder;" } : Jvm.MethodName) jdk_68_method_33_code (5 : Nat) (Option.some (Jvm.ClassFile.FieldType.object "java/lang/AbstractStringBuilder"))) ∈ tables_1 := List.mem_of_getElem? (i := 154) rfl
theorem tw155 : (Jvm.Cond.methodLink "java/lang/AbstractStringBuilder" (254 : Nat) ({ cls := "java/lang/Long", name := "stringSize", desc := "(J)I" } : Jvm.MethodName)) ∈ tables_1 := List.mem_of_getElem? (i := 155) rfl
theorem tw156 : (Jvm.Cond.static ({ cls := "java/lang/Long", name := "stringSize", desc := "(J)I" } : Jvm.MethodName)) ∈ tables_1 := List.mem_of_getElem? (i := 156) rfl
theorem tw157 : (Jvm.Cond.initialized "java/lang/Long") ∈ tables_1 := List.mem_of_getElem? (i := 157) rfl
theorem tw158 : (Jvm.Cond.code ({ cls := "java/lang/Long", name := "stringSize", desc := "(J)I" } : Jvm.MethodName) jdk_35_method_15_code (6 : Nat) (Option.some Jvm.ClassFile.FieldType.int)) ∈ tables_1 := List.mem_of_getElem? (i := 158) rfl
theorem tw161 : (Jvm.Cond.methodLink "java/lang/AbstractStringBuilder" (83 : Nat) ({ cls := "java/lang/AbstractStringBuilder", name := "isLatin1", desc := "()Z" } : Jvm.MethodName)) ∈ tables_1 := List.mem_of_getElem? (i := 161) rfl
theorem tw162 : (Jvm.Cond.declares ({ cls := "java/lang/AbstractStringBuilder", name := "isLatin1", desc := "()Z" } : Jvm.MethodName)) ∈ tables_1 := List.mem_of_getElem? (i := 162) rfl
theorem tw163 : (Jvm.Cond.instanceMethod ({ cls := "java/lang/AbstractStringBuilder", name := "isLatin1", desc := "()Z" } : Jvm.MethodName)) ∈ tables_1 := List.mem_of_getElem? (i := 163) rfl
theorem tw164 : (Jvm.Cond.selects "java/lang/StringBuilder" ({ cls := "java/lang/AbstractStringBuilder", name := "isLatin1", desc := "()Z" } : Jvm.MethodName) ({ cls := "java/lang/AbstractStringBuilder", name := "isLatin1", desc := "()Z" } : Jvm.MethodName)) ∈ tables_1 := List.mem_of_getElem? (i := 164) rfl
theorem tw165 : (Jvm.Cond.code ({ cls := "java/lang/AbstractStringBuilder", name := "isLatin1", desc := "()Z" } : Jvm.MethodName) jdk_68_method_68_code (1 : Nat) (Option.some Jvm.ClassFile.FieldType.boolean)) ∈ tables_1 := List.mem_of_getElem? (i := 165) rfl
theorem tw166 : (Jvm.Cond.methodLink "java/lang/AbstractStringBuilder" (259 : Nat) ({ cls := "java/lang/Long", name := "getChars", desc := "(JI[B)I" } : Jvm.MethodName)) ∈ tables_1 := List.mem_of_getElem? (i := 166) rfl
theorem tw167 : (Jvm.Cond.static ({ cls := "java/lang/Long", name := "getChars", desc := "(JI[B)I" } : Jvm.MethodName)) ∈ tables_1 := List.mem_of_getElem? (i := 167) rfl
theorem tw168 : (Jvm.Cond.code ({ cls := "java/lang/Long", name := "getChars", desc := "(JI[B)I" } : Jvm.MethodName) jdk_35_method_14_code (11 : Nat) (Option.some Jvm.ClassFile.FieldType.int)) ∈ tables_1 := List.mem_of_getElem? (i := 168) rfl
theorem tw174 : (Jvm.Cond.stringLink "com/example/uketsuke/uketsuke/core/token/PageToken" (34 : Nat) "]") ∈ tables_1 := List.mem_of_getElem? (i := 174) rfl
theorem tw175 : (Jvm.Cond.methodLink "com/example/uketsuke/uketsuke/core/token/PageToken" (36 : Nat) ({ cls := "java/lang/StringBuilder", name := "toString", desc := "()Ljava/lang/String;" } : Jvm.MethodName)) ∈ tables_1 := List.mem_of_getElem? (i := 175) rfl
theorem tw176 : (Jvm.Cond.declares ({ cls := "java/lang/StringBuilder", name := "toString", desc := "()Ljava/lang/String;" } : Jvm.MethodName)) ∈ tables_1 := List.mem_of_getElem? (i := 176) rfl
theorem tw177 : (Jvm.Cond.instanceMethod ({ cls := "java/lang/StringBuilder", name := "toString", desc := "()Ljava/lang/String;" } : Jvm.MethodName)) ∈ tables_1 := List.mem_of_getElem? (i := 177) rfl
theorem tw178 : (Jvm.Cond.selects "java/lang/StringBuilder" ({ cls := "java/lang/StringBuilder", name := "toString", desc := "()Ljava/lang/String;" } : Jvm.MethodName) ({ cls := "java/lang/StringBuilder", name := "toString", desc := "()Ljava/lang/String;" } : Jvm.MethodName)) ∈ tables_1 := List.mem_of_getElem? (i := 178) rfl
theorem tw179 : (Jvm.Cond.code ({ cls := "java/lang/StringBuilder", name := "toString", desc := "()Ljava/lang/String;" } : Jvm.MethodName) jdk_67_method_42_code (1 : Nat) (Option.some (Jvm.ClassFile.FieldType.object "java/lang/String"))) ∈ tables_1 := List.mem_of_getElem? (i := 179) rfl
theorem tw180 : (Jvm.Cond.classLink "java/lang/StringBuilder" (18 : Nat) "java/lang/String") ∈ tables_1 := List.mem_of_getElem? (i := 180) rfl
theorem tw181 : (Jvm.Cond.methodLink "java/lang/StringBuilder" (137 : Nat) ({ cls := "java/lang/String", name := "<init>", desc := "(Ljava/lang/StringBuilder;)V" } : Jvm.MethodName)) ∈ tables_1 := List.mem_of_getElem? (i := 181) rfl
theorem tw182 : (Jvm.Cond.instanceMethod ({ cls := "java/lang/String", name := "<init>", desc := "(Ljava/lang/StringBuilder;)V" } : Jvm.MethodName)) ∈ tables_1 := List.mem_of_getElem? (i := 182) rfl
theorem tw183 : (Jvm.Cond.code ({ cls := "java/lang/String", name := "<init>", desc := "(Ljava/lang/StringBuilder;)V" } : Jvm.MethodName) jdk_42_method_53_code (2 : Nat) (Option.none : Option Jvm.ClassFile.FieldType)) ∈ tables_1 := List.mem_of_getElem? (i := 183) rfl
theorem tw184 : (Jvm.Cond.methodLink "java/lang/String" (489 : Nat) ({ cls := "java/lang/String", name := "<init>", desc := "(Ljava/lang/AbstractStringBuilder;Ljava/lang/Void;)V" } : Jvm.MethodName)) ∈ tables_1 := List.mem_of_getElem? (i := 184) rfl
theorem tw185 : (Jvm.Cond.instanceMethod ({ cls := "java/lang/String", name := "<init>", desc := "(Ljava/lang/AbstractStringBuilder;Ljava/lang/Void;)V" } : Jvm.MethodName)) ∈ tables_1 := List.mem_of_getElem? (i := 185) rfl
theorem tw186 : (Jvm.Cond.code ({ cls := "java/lang/String", name := "<init>", desc := "(Ljava/lang/AbstractStringBuilder;Ljava/lang/Void;)V" } : Jvm.MethodName) jdk_42_method_150_code (5 : Nat) (Option.none : Option Jvm.ClassFile.FieldType)) ∈ tables_1 := List.mem_of_getElem? (i := 186) rfl
theorem tw187 : (Jvm.Cond.methodLink "java/lang/String" (552 : Nat) ({ cls := "java/lang/AbstractStringBuilder", name := "getValue", desc := "()[B" } : Jvm.MethodName)) ∈ tables_1 := List.mem_of_getElem? (i := 187) rfl
theorem tw188 : (Jvm.Cond.declares ({ cls := "java/lang/AbstractStringBuilder", name := "getValue", desc := "()[B" } : Jvm.MethodName)) ∈ tables_1 := List.mem_of_getElem? (i := 188) rfl
theorem tw189 : (Jvm.Cond.instanceMethod ({ cls := "java/lang/AbstractStringBuilder", name := "getValue", desc := "()[B" } : Jvm.MethodName)) ∈ tables_1 := List.mem_of_getElem? (i := 189) rfl
theorem tw190 : (Jvm.Cond.selects "java/lang/StringBuilder" ({ cls := "java/lang/AbstractStringBuilder", name := "getValue", desc := "()[B" } : Jvm.MethodName) ({ cls := "java/lang/AbstractStringBuilder", name := "getValue", desc := "()[B" } : Jvm.MethodName)) ∈ tables_1 := List.mem_of_getElem? (i := 190) rfl
theorem tw191 : (Jvm.Cond.code ({ cls := "java/lang/AbstractStringBuilder", name := "getValue", desc := "()[B" } : Jvm.MethodName) jdk_68_method_64_code (1 : Nat) (Option.some (Jvm.ClassFile.FieldType.array Jvm.ClassFile.FieldType.byte))) ∈ tables_1 := List.mem_of_getElem? (i := 191) rfl
theorem tw192 : (Jvm.Cond.methodLink "java/lang/String" (549 : Nat) ({ cls := "java/lang/AbstractStringBuilder", name := "length", desc := "()I" } : Jvm.MethodName)) ∈ tables_1 := List.mem_of_getElem? (i := 192) rfl
theorem tw193 : (Jvm.Cond.declares ({ cls := "java/lang/AbstractStringBuilder", name := "length", desc := "()I" } : Jvm.MethodName)) ∈ tables_1 := List.mem_of_getElem? (i := 193) rfl
theorem tw194 : (Jvm.Cond.instanceMethod ({ cls := "java/lang/AbstractStringBuilder", name := "length", desc := "()I" } : Jvm.MethodName)) ∈ tables_1 := List.mem_of_getElem? (i := 194) rfl
theorem tw195 : (Jvm.Cond.selects "java/lang/StringBuilder" ({ cls := "java/lang/AbstractStringBuilder", name := "length", desc := "()I" } : Jvm.MethodName) ({ cls := "java/lang/StringBuilder", name := "length", desc := "()I" } : Jvm.MethodName)) ∈ tables_1 := List.mem_of_getElem? (i := 195) rfl
theorem tw196 : (Jvm.Cond.instanceMethod ({ cls := "java/lang/StringBuilder", name := "length", desc := "()I" } : Jvm.MethodName)) ∈ tables_1 := List.mem_of_getElem? (i := 196) rfl
theorem tw197 : (Jvm.Cond.code ({ cls := "java/lang/StringBuilder", name := "length", desc := "()I" } : Jvm.MethodName) jdk_67_method_93_code (1 : Nat) (Option.some Jvm.ClassFile.FieldType.int)) ∈ tables_1 := List.mem_of_getElem? (i := 197) rfl
theorem tw198 : (Jvm.Cond.methodLink "java/lang/StringBuilder" (343 : Nat) ({ cls := "java/lang/AbstractStringBuilder", name := "length", desc := "()I" } : Jvm.MethodName)) ∈ tables_1 := List.mem_of_getElem? (i := 198) rfl
theorem tw199 : (Jvm.Cond.code ({ cls := "java/lang/AbstractStringBuilder", name := "length", desc := "()I" } : Jvm.MethodName) jdk_68_method_6_code (1 : Nat) (Option.some Jvm.ClassFile.FieldType.int)) ∈ tables_1 := List.mem_of_getElem? (i := 199) rfl
theorem tw200 : (Jvm.Cond.methodLink "java/lang/String" (1047 : Nat) ({ cls := "java/lang/AbstractStringBuilder", name := "isLatin1", desc := "()Z" } : Jvm.MethodName)) ∈ tables_1 := List.mem_of_getElem? (i := 200) rfl
theorem tw201 : (Jvm.Cond.methodLink "java/lang/String" (54 : Nat) ({ cls := "java/util/Arrays", name := "copyOfRange", desc := "([BII)[B" } : Jvm.MethodName)) ∈ tables_1 := List.mem_of_getElem? (i := 201) rfl
theorem tw202 : (Jvm.Cond.static ({ cls := "java/util/Arrays", name := "copyOfRange", desc := "([BII)[B" } : Jvm.MethodName)) ∈ tables_1 := List.mem_of_getElem? (i := 202) rfl
theorem tw203 : (Jvm.Cond.code ({ cls := "java/util/Arrays", name := "copyOfRange", desc := "([BII)[B" } : Jvm.MethodName) jdk_65_method_132_code (3 : Nat) (Option.some (Jvm.ClassFile.FieldType.array Jvm.ClassFile.FieldType.byte))) ∈ tables_1 := List.mem_of_getElem? (i := 203) rfl
theorem tw204 : (Jvm.Cond.methodLink "java/util/Arrays" (339 : Nat) ({ cls := "java/util/Arrays", name := "copyOfRangeByte", desc := "([BII)[B" } : Jvm.MethodName)) ∈ tables_1 := List.mem_of_getElem? (i := 204) rfl
theorem tw205 : (Jvm.Cond.static ({ cls := "java/util/Arrays", name := "copyOfRangeByte", desc := "([BII)[B" } : Jvm.MethodName)) ∈ tables_1 := List.mem_of_getElem? (i := 205) rfl
theorem tw206 : (Jvm.Cond.code ({ cls := "java/util/Arrays", name := "copyOfRangeByte", desc := "([BII)[B" } : Jvm.MethodName) jdk_65_method_133_code (5 : Nat) (Option.some (Jvm.ClassFile.FieldType.array Jvm.ClassFile.FieldType.byte))) ∈ tables_1 := List.mem_of_getElem? (i := 206) rfl
theorem tw207 : (Jvm.Cond.methodLink "java/util/Arrays" (343 : Nat) ({ cls := "java/util/Arrays", name := "checkLength", desc := "(II)V" } : Jvm.MethodName)) ∈ tables_1 := List.mem_of_getElem? (i := 207) rfl
theorem tw208 : (Jvm.Cond.static ({ cls := "java/util/Arrays", name := "checkLength", desc := "(II)V" } : Jvm.MethodName)) ∈ tables_1 := List.mem_of_getElem? (i := 208) rfl
theorem tw209 : (Jvm.Cond.code ({ cls := "java/util/Arrays", name := "checkLength", desc := "(II)V" } : Jvm.MethodName) jdk_65_method_131_code (2 : Nat) (Option.none : Option Jvm.ClassFile.FieldType)) ∈ tables_1 := List.mem_of_getElem? (i := 209) rfl
theorem tw210 : (Jvm.Cond.arrayClass Jvm.ClassFile.FieldType.long) ∈ tables_1 := List.mem_of_getElem? (i := 210) rfl
theorem tw211 : (Jvm.Cond.constantLong "com/example/uketsuke/uketsuke/core/token/PageTokenToStringPinLaw" (21 : Nat) (10 : Int64)) ∈ tables_1 := List.mem_of_getElem? (i := 211) rfl
theorem tw212 : (Jvm.Cond.constantLong "com/example/uketsuke/uketsuke/core/token/PageTokenToStringPinLaw" (23 : Nat) (100 : Int64)) ∈ tables_1 := List.mem_of_getElem? (i := 212) rfl
theorem tw213 : (Jvm.Cond.constantLong "com/example/uketsuke/uketsuke/core/token/PageTokenToStringPinLaw" (25 : Nat) (1000 : Int64)) ∈ tables_1 := List.mem_of_getElem? (i := 213) rfl
theorem tw214 : (Jvm.Cond.constantLong "com/example/uketsuke/uketsuke/core/token/PageTokenToStringPinLaw" (27 : Nat) (10000 : Int64)) ∈ tables_1 := List.mem_of_getElem? (i := 214) rfl
theorem tw215 : (Jvm.Cond.constantLong "com/example/uketsuke/uketsuke/core/token/PageTokenToStringPinLaw" (29 : Nat) (100000 : Int64)) ∈ tables_1 := List.mem_of_getElem? (i := 215) rfl
theorem tw216 : (Jvm.Cond.constantLong "com/example/uketsuke/uketsuke/core/token/PageTokenToStringPinLaw" (31 : Nat) (1000000 : Int64)) ∈ tables_1 := List.mem_of_getElem? (i := 216) rfl
theorem tw217 : (Jvm.Cond.constantLong "com/example/uketsuke/uketsuke/core/token/PageTokenToStringPinLaw" (33 : Nat) (10000000 : Int64)) ∈ tables_1 := List.mem_of_getElem? (i := 217) rfl
theorem tw218 : (Jvm.Cond.constantLong "com/example/uketsuke/uketsuke/core/token/PageTokenToStringPinLaw" (35 : Nat) (100000000 : Int64)) ∈ tables_1 := List.mem_of_getElem? (i := 218) rfl
theorem tw219 : (Jvm.Cond.constantLong "com/example/uketsuke/uketsuke/core/token/PageTokenToStringPinLaw" (37 : Nat) (1000000000 : Int64)) ∈ tables_1 := List.mem_of_getElem? (i := 219) rfl
theorem tw220 : (Jvm.Cond.constantLong "com/example/uketsuke/uketsuke/core/token/PageTokenToStringPinLaw" (39 : Nat) (10000000000 : Int64)) ∈ tables_1 := List.mem_of_getElem? (i := 220) rfl
theorem tw221 : (Jvm.Cond.constantLong "com/example/uketsuke/uketsuke/core/token/PageTokenToStringPinLaw" (41 : Nat) (100000000000 : Int64)) ∈ tables_1 := List.mem_of_getElem? (i := 221) rfl
theorem tw222 : (Jvm.Cond.constantLong "com/example/uketsuke/uketsuke/core/token/PageTokenToStringPinLaw" (43 : Nat) (1000000000000 : Int64)) ∈ tables_1 := List.mem_of_getElem? (i := 222) rfl
theorem tw223 : (Jvm.Cond.constantLong "com/example/uketsuke/uketsuke/core/token/PageTokenToStringPinLaw" (45 : Nat) (10000000000000 : Int64)) ∈ tables_1 := List.mem_of_getElem? (i := 223) rfl
theorem tw224 : (Jvm.Cond.constantLong "com/example/uketsuke/uketsuke/core/token/PageTokenToStringPinLaw" (47 : Nat) (100000000000000 : Int64)) ∈ tables_1 := List.mem_of_getElem? (i := 224) rfl
theorem tw225 : (Jvm.Cond.constantLong "com/example/uketsuke/uketsuke/core/token/PageTokenToStringPinLaw" (49 : Nat) (1000000000000000 : Int64)) ∈ tables_1 := List.mem_of_getElem? (i := 225) rfl
theorem tw226 : (Jvm.Cond.constantLong "com/example/uketsuke/uketsuke/core/token/PageTokenToStringPinLaw" (51 : Nat) (10000000000000000 : Int64)) ∈ tables_1 := List.mem_of_getElem? (i := 226) rfl
theorem tw227 : (Jvm.Cond.constantLong "com/example/uketsuke/uketsuke/core/token/PageTokenToStringPinLaw" (53 : Nat) (100000000000000000 : Int64)) ∈ tables_1 := List.mem_of_getElem? (i := 227) rfl
theorem tw228 : (Jvm.Cond.constantLong "com/example/uketsuke/uketsuke/core/token/PageTokenToStringPinLaw" (55 : Nat) (1000000000000000000 : Int64)) ∈ tables_1 := List.mem_of_getElem? (i := 228) rfl
theorem tw229 : (Jvm.Cond.methodLink "com/example/uketsuke/uketsuke/core/token/PageTokenToStringPinLaw" (57 : Nat) ({ cls := "com/example/uketsuke/uketsuke/core/token/PageTokenToStringPinLaw", name := "ge", desc := "(JJ)I" } : Jvm.MethodName)) ∈ tables_1 := List.mem_of_getElem? (i := 229) rfl
theorem tw230 : (Jvm.Cond.static ({ cls := "com/example/uketsuke/uketsuke/core/token/PageTokenToStringPinLaw", name := "ge", desc := "(JJ)I" } : Jvm.MethodName)) ∈ tables_1 := List.mem_of_getElem? (i := 230) rfl
theorem tw231 : (Jvm.Cond.initialized "com/example/uketsuke/uketsuke/core/token/PageTokenToStringPinLaw") ∈ tables_1 := List.mem_of_getElem? (i := 231) rfl
theorem tw232 : (Jvm.Cond.code ({ cls := "com/example/uketsuke/uketsuke/core/token/PageTokenToStringPinLaw", name := "ge", desc := "(JJ)I" } : Jvm.MethodName) method_3_code (4 : Nat) (Option.some Jvm.ClassFile.FieldType.int)) ∈ tables_1 := List.mem_of_getElem? (i := 232) rfl
theorem tw233 : (Jvm.Cond.methodLink "com/example/uketsuke/uketsuke/core/token/PageTokenToStringPinLaw" (63 : Nat) ({ cls := "java/lang/String", name := "length", desc := "()I" } : Jvm.MethodName)) ∈ tables_1 := List.mem_of_getElem? (i := 233) rfl
theorem tw234 : (Jvm.Cond.stringLink "com/example/uketsuke/uketsuke/core/token/PageTokenToStringPinLaw" (67 : Nat) "PageToken[nonce=") ∈ tables_1 := List.mem_of_getElem? (i := 234) rfl
theorem tw235 : (Jvm.Cond.stringLink "com/example/uketsuke/uketsuke/core/token/PageTokenToStringPinLaw" (69 : Nat) ", expiresAt=") ∈ tables_1 := List.mem_of_getElem? (i := 235) rfl
theorem tw236 : (Jvm.Cond.methodLink "com/example/uketsuke/uketsuke/core/token/PageTokenToStringPinLaw" (71 : Nat) ({ cls := "com/example/uketsuke/uketsuke/core/token/PageTokenToStringPinLaw", name := "eq4", desc := "(Ljava/lang/String;ILjava/lang/String;I)Z" } : Jvm.MethodName)) ∈ tables_1 := List.mem_of_getElem? (i := 236) rfl
theorem tw237 : (Jvm.Cond.static ({ cls := "com/example/uketsuke/uketsuke/core/token/PageTokenToStringPinLaw", name := "eq4", desc := "(Ljava/lang/String;ILjava/lang/String;I)Z" } : Jvm.MethodName)) ∈ tables_1 := List.mem_of_getElem? (i := 237) rfl
theorem tw238 : (Jvm.Cond.code ({ cls := "com/example/uketsuke/uketsuke/core/token/PageTokenToStringPinLaw", name := "eq4", desc := "(Ljava/lang/String;ILjava/lang/String;I)Z" } : Jvm.MethodName) method_5_code (4 : Nat) (Option.some Jvm.ClassFile.FieldType.boolean)) ∈ tables_1 := List.mem_of_getElem? (i := 238) rfl
theorem tw239 : (Jvm.Cond.methodLink "com/example/uketsuke/uketsuke/core/token/PageTokenToStringPinLaw" (83 : Nat) ({ cls := "com/example/uketsuke/uketsuke/core/token/PageTokenToStringPinLaw", name := "eq1", desc := "(Ljava/lang/String;ILjava/lang/String;I)Z" } : Jvm.MethodName)) ∈ tables_1 := List.mem_of_getElem? (i := 239) rfl
theorem tw240 : (Jvm.Cond.static ({ cls := "com/example/uketsuke/uketsuke/core/token/PageTokenToStringPinLaw", name := "eq1", desc := "(Ljava/lang/String;ILjava/lang/String;I)Z" } : Jvm.MethodName)) ∈ tables_1 := List.mem_of_getElem? (i := 240) rfl
theorem tw241 : (Jvm.Cond.code ({ cls := "com/example/uketsuke/uketsuke/core/token/PageTokenToStringPinLaw", name := "eq1", desc := "(Ljava/lang/String;ILjava/lang/String;I)Z" } : Jvm.MethodName) method_4_code (4 : Nat) (Option.some Jvm.ClassFile.FieldType.boolean)) ∈ tables_1 := List.mem_of_getElem? (i := 241) rfl
theorem tw242 : (Jvm.Cond.methodLink "com/example/uketsuke/uketsuke/core/token/PageTokenToStringPinLaw" (75 : Nat) ({ cls := "java/lang/String", name := "charAt", desc := "(I)C" } : Jvm.MethodName)) ∈ tables_1 := List.mem_of_getElem? (i := 242) rfl
theorem tw243 : (Jvm.Cond.declares ({ cls := "java/lang/String", name := "charAt", desc := "(I)C" } : Jvm.MethodName)) ∈ tables_1 := List.mem_of_getElem? (i := 243) rfl
theorem tw244 : (Jvm.Cond.instanceMethod ({ cls := "java/lang/String", name := "charAt", desc := "(I)C" } : Jvm.MethodName)) ∈ tables_1 := List.mem_of_getElem? (i := 244) rfl
theorem tw245 : (Jvm.Cond.selects "java/lang/String" ({ cls := "java/lang/String", name := "charAt", desc := "(I)C" } : Jvm.MethodName) ({ cls := "java/lang/String", name := "charAt", desc := "(I)C" } : Jvm.MethodName)) ∈ tables_1 := List.mem_of_getElem? (i := 245) rfl
theorem tw246 : (Jvm.Cond.code ({ cls := "java/lang/String", name := "charAt", desc := "(I)C" } : Jvm.MethodName) jdk_42_method_56_code (2 : Nat) (Option.some Jvm.ClassFile.FieldType.char)) ∈ tables_1 := List.mem_of_getElem? (i := 246) rfl
theorem tw264 : (Jvm.Cond.methodLink "com/example/uketsuke/uketsuke/core/token/PageTokenToStringPinLaw" (79 : Nat) ({ cls := "com/example/uketsuke/uketsuke/core/token/PageTokenToStringPinLaw", name := "dig", desc := "(Ljava/lang/String;IIJJI)Z" } : Jvm.MethodName)) ∈ tables_1 := List.mem_of_getElem? (i := 264) rfl
theorem tw265 : (Jvm.Cond.static ({ cls := "com/example/uketsuke/uketsuke/core/token/PageTokenToStringPinLaw", name := "dig", desc := "(Ljava/lang/String;IIJJI)Z" } : Jvm.MethodName)) ∈ tables_1 := List.mem_of_getElem? (i := 265) rfl
theorem tw266 : (Jvm.Cond.code ({ cls := "com/example/uketsuke/uketsuke/core/token/PageTokenToStringPinLaw", name := "dig", desc := "(Ljava/lang/String;IIJJI)Z" } : Jvm.MethodName) method_6_code (8 : Nat) (Option.some Jvm.ClassFile.FieldType.boolean)) ∈ tables_1 := List.mem_of_getElem? (i := 266) rfl
theorem tw267 : (Jvm.Cond.methodLink "java/util/Arrays" (310 : Nat) ({ cls := "[B", name := "clone", desc := "()Ljava/lang/Object;" } : Jvm.MethodName)) ∈ tables_1 := List.mem_of_getElem? (i := 267) rfl
theorem tw268 : (Jvm.Cond.sameMethod "[B" "java/lang/Object" "clone" "()Ljava/lang/Object;") ∈ tables_1 := List.mem_of_getElem? (i := 268) rfl
theorem tw270 : (Jvm.Cond.instanceMethod ({ cls := "java/lang/Object", name := "clone", desc := "()Ljava/lang/Object;" } : Jvm.MethodName)) ∈ tables_1 := List.mem_of_getElem? (i := 270) rfl
theorem tw271 : (Jvm.Cond.selects "[B" ({ cls := "[B", name := "clone", desc := "()Ljava/lang/Object;" } : Jvm.MethodName) ({ cls := "java/lang/Object", name := "clone", desc := "()Ljava/lang/Object;" } : Jvm.MethodName)) ∈ tables_1 := List.mem_of_getElem? (i := 271) rfl
theorem tw272 : (Jvm.Cond.native ({ cls := "java/lang/Object", name := "clone", desc := "()Ljava/lang/Object;" } : Jvm.MethodName)) ∈ tables_1 := List.mem_of_getElem? (i := 272) rfl
theorem tw273 : (Jvm.Cond.castable "[B" "java/lang/Cloneable") ∈ tables_1 := List.mem_of_getElem? (i := 273) rfl
theorem tw274 : (Jvm.Cond.classLink "java/util/Arrays" (311 : Nat) "[B") ∈ tables_1 := List.mem_of_getElem? (i := 274) rfl
theorem d0_0 : De code 0 (.iload_n 0) 1 1 := ⟨by decide +kernel, rfl⟩
theorem d0_1 : De code 1 (.iconst 3) 1 2 := ⟨by decide +kernel, rfl⟩
theorem d0_2 : De code 2 (.iand) 1 3 := ⟨by decide +kernel, rfl⟩
theorem d0_3 : De code 3 (.istore 5) 2 5 := ⟨by decide +kernel, rfl⟩
theorem d0_5 : De code 5 (.iload_n 1) 1 6 := ⟨by decide +kernel, rfl⟩
theorem d0_6 : De code 6 (.sipush 255) 3 9 := ⟨by decide +kernel, rfl⟩
theorem d0_9 : De code 9 (.iand) 1 10 := ⟨by decide +kernel, rfl⟩
theorem d0_10 : De code 10 (.i2c) 1 11 := ⟨by decide +kernel, rfl⟩
theorem d0_11 : De code 11 (.istore 6) 2 13 := ⟨by decide +kernel, rfl⟩
theorem d0_13 : De code 13 (.iload_n 1) 1 14 := ⟨by decide +kernel, rfl⟩
theorem d0_14 : De code 14 (.bipush 8) 2 16 := ⟨by decide +kernel, rfl⟩
theorem d0_16 : De code 16 (.iushr) 1 17 := ⟨by decide +kernel, rfl⟩
theorem d0_17 : De code 17 (.sipush 255) 3 20 := ⟨by decide +kernel, rfl⟩
theorem d0_20 : De code 20 (.iand) 1 21 := ⟨by decide +kernel, rfl⟩
theorem d0_21 : De code 21 (.i2c) 1 22 := ⟨by decide +kernel, rfl⟩
theorem d0_22 : De code 22 (.istore 7) 2 24 := ⟨by decide +kernel, rfl⟩
theorem d0_24 : De code 24 (.iload_n 1) 1 25 := ⟨by decide +kernel, rfl⟩
theorem d0_25 : De code 25 (.bipush 16) 2 27 := ⟨by decide +kernel, rfl⟩
theorem d0_27 : De code 27 (.iushr) 1 28 := ⟨by decide +kernel, rfl⟩
theorem d0_28 : De code 28 (.sipush 255) 3 31 := ⟨by decide +kernel, rfl⟩
theorem d0_31 : De code 31 (.iand) 1 32 := ⟨by decide +kernel, rfl⟩
theorem d0_32 : De code 32 (.i2c) 1 33 := ⟨by decide +kernel, rfl⟩
theorem d0_33 : De code 33 (.istore 8) 2 35 := ⟨by decide +kernel, rfl⟩
theorem d0_35 : De code 35 (.iload 5) 2 37 := ⟨by decide +kernel, rfl⟩
theorem d0_37 : De code 37 (.ifCond .ne 11) 3 40 := ⟨by decide +kernel, rfl⟩
theorem d0_40 : De code 40 (.iconst 0) 1 41 := ⟨by decide +kernel, rfl⟩
theorem d0_41 : De code 41 (.newarray .char) 2 43 := ⟨by decide +kernel, rfl⟩
theorem d0_43 : De code 43 (.astore 9) 2 45 := ⟨by decide +kernel, rfl⟩
theorem d0_45 : De code 45 (.goto 66) 3 48 := ⟨by decide +kernel, rfl⟩
theorem d0_48 : De code 48 (.iload 5) 2 50 := ⟨by decide +kernel, rfl⟩
theorem d0_50 : De code 50 (.iconst 1) 1 51 := ⟨by decide +kernel, rfl⟩
theorem d0_51 : De code 51 (.if_icmp .ne 16) 3 54 := ⟨by decide +kernel, rfl⟩
theorem d0_54 : De code 54 (.iconst 1) 1 55 := ⟨by decide +kernel, rfl⟩
theorem d0_55 : De code 55 (.newarray .char) 2 57 := ⟨by decide +kernel, rfl⟩
theorem d0_57 : De code 57 (.dup) 1 58 := ⟨by decide +kernel, rfl⟩
theorem d0_58 : De code 58 (.iconst 0) 1 59 := ⟨by decide +kernel, rfl⟩
theorem d0_59 : De code 59 (.iload 6) 2 61 := ⟨by decide +kernel, rfl⟩
theorem d0_61 : De code 61 (.castore) 1 62 := ⟨by decide +kernel, rfl⟩
theorem d0_62 : De code 62 (.astore 9) 2 64 := ⟨by decide +kernel, rfl⟩
theorem d0_64 : De code 64 (.goto 47) 3 67 := ⟨by decide +kernel, rfl⟩
theorem d0_67 : De code 67 (.iload 5) 2 69 := ⟨by decide +kernel, rfl⟩
theorem d0_69 : De code 69 (.iconst 2) 1 70 := ⟨by decide +kernel, rfl⟩
theorem d0_70 : De code 70 (.if_icmp .ne 21) 3 73 := ⟨by decide +kernel, rfl⟩
theorem d0_73 : De code 73 (.iconst 2) 1 74 := ⟨by decide +kernel, rfl⟩
theorem d0_74 : De code 74 (.newarray .char) 2 76 := ⟨by decide +kernel, rfl⟩
theorem d0_76 : De code 76 (.dup) 1 77 := ⟨by decide +kernel, rfl⟩
theorem d0_77 : De code 77 (.iconst 0) 1 78 := ⟨by decide +kernel, rfl⟩
theorem d0_78 : De code 78 (.iload 6) 2 80 := ⟨by decide +kernel, rfl⟩
theorem d0_80 : De code 80 (.castore) 1 81 := ⟨by decide +kernel, rfl⟩
theorem d0_81 : De code 81 (.dup) 1 82 := ⟨by decide +kernel, rfl⟩
theorem d0_82 : De code 82 (.iconst 1) 1 83 := ⟨by decide +kernel, rfl⟩
theorem d0_83 : De code 83 (.iload 7) 2 85 := ⟨by decide +kernel, rfl⟩
theorem d0_85 : De code 85 (.castore) 1 86 := ⟨by decide +kernel, rfl⟩
theorem d0_86 : De code 86 (.astore 9) 2 88 := ⟨by decide +kernel, rfl⟩
theorem d0_88 : De code 88 (.goto 23) 3 91 := ⟨by decide +kernel, rfl⟩
theorem d0_91 : De code 91 (.iconst 3) 1 92 := ⟨by decide +kernel, rfl⟩
theorem d0_92 : De code 92 (.newarray .char) 2 94 := ⟨by decide +kernel, rfl⟩
theorem d0_94 : De code 94 (.dup) 1 95 := ⟨by decide +kernel, rfl⟩
theorem d0_95 : De code 95 (.iconst 0) 1 96 := ⟨by decide +kernel, rfl⟩
theorem d0_96 : De code 96 (.iload 6) 2 98 := ⟨by decide +kernel, rfl⟩
theorem d0_98 : De code 98 (.castore) 1 99 := ⟨by decide +kernel, rfl⟩
theorem d0_99 : De code 99 (.dup) 1 100 := ⟨by decide +kernel, rfl⟩
theorem d0_100 : De code 100 (.iconst 1) 1 101 := ⟨by decide +kernel, rfl⟩
theorem d0_101 : De code 101 (.iload 7) 2 103 := ⟨by decide +kernel, rfl⟩
theorem d0_103 : De code 103 (.castore) 1 104 := ⟨by decide +kernel, rfl⟩
theorem d0_104 : De code 104 (.dup) 1 105 := ⟨by decide +kernel, rfl⟩
theorem d0_105 : De code 105 (.iconst 2) 1 106 := ⟨by decide +kernel, rfl⟩
theorem d0_106 : De code 106 (.iload 8) 2 108 := ⟨by decide +kernel, rfl⟩
theorem d0_108 : De code 108 (.castore) 1 109 := ⟨by decide +kernel, rfl⟩
theorem d0_109 : De code 109 (.astore 9) 2 111 := ⟨by decide +kernel, rfl⟩
theorem d0_111 : De code 111 (.new 7) 3 114 := ⟨by decide +kernel, rfl⟩
theorem d0_114 : De code 114 (.dup) 1 115 := ⟨by decide +kernel, rfl⟩
theorem d0_115 : De code 115 (.aload 9) 2 117 := ⟨by decide +kernel, rfl⟩
theorem d0_117 : De code 117 (.invokespecial 9) 3 120 := ⟨by decide +kernel, rfl⟩
theorem d0_120 : De code 120 (.astore 10) 2 122 := ⟨by decide +kernel, rfl⟩
theorem d0_122 : De code 122 (.new 7) 3 125 := ⟨by decide +kernel, rfl⟩
theorem d0_125 : De code 125 (.dup) 1 126 := ⟨by decide +kernel, rfl⟩
theorem d0_126 : De code 126 (.iconst 2) 1 127 := ⟨by decide +kernel, rfl⟩
theorem d0_127 : De code 127 (.newarray .char) 2 129 := ⟨by decide +kernel, rfl⟩
theorem d0_129 : De code 129 (.dup) 1 130 := ⟨by decide +kernel, rfl⟩
theorem d0_130 : De code 130 (.iconst 0) 1 131 := ⟨by decide +kernel, rfl⟩
theorem d0_131 : De code 131 (.iload_n 2) 1 132 := ⟨by decide +kernel, rfl⟩
theorem d0_132 : De code 132 (.sipush 255) 3 135 := ⟨by decide +kernel, rfl⟩
theorem d0_135 : De code 135 (.iand) 1 136 := ⟨by decide +kernel, rfl⟩
theorem d0_136 : De code 136 (.i2c) 1 137 := ⟨by decide +kernel, rfl⟩
theorem d0_137 : De code 137 (.castore) 1 138 := ⟨by decide +kernel, rfl⟩
theorem d0_138 : De code 138 (.dup) 1 139 := ⟨by decide +kernel, rfl⟩
theorem d0_139 : De code 139 (.iconst 1) 1 140 := ⟨by decide +kernel, rfl⟩
theorem d0_140 : De code 140 (.iload_n 2) 1 141 := ⟨by decide +kernel, rfl⟩
theorem d0_141 : De code 141 (.bipush 8) 2 143 := ⟨by decide +kernel, rfl⟩
theorem d0_143 : De code 143 (.iushr) 1 144 := ⟨by decide +kernel, rfl⟩
theorem d0_144 : De code 144 (.sipush 255) 3 147 := ⟨by decide +kernel, rfl⟩
theorem d0_147 : De code 147 (.iand) 1 148 := ⟨by decide +kernel, rfl⟩
theorem d0_148 : De code 148 (.i2c) 1 149 := ⟨by decide +kernel, rfl⟩
theorem d0_149 : De code 149 (.castore) 1 150 := ⟨by decide +kernel, rfl⟩
theorem d0_150 : De code 150 (.invokespecial 9) 3 153 := ⟨by decide +kernel, rfl⟩
theorem d0_153 : De code 153 (.astore 11) 2 155 := ⟨by decide +kernel, rfl⟩
theorem d0_155 : De code 155 (.new 12) 3 158 := ⟨by decide +kernel, rfl⟩
theorem d0_158 : De code 158 (.dup) 1 159 := ⟨by decide +kernel, rfl⟩
theorem d0_159 : De code 159 (.aload 11) 2 161 := ⟨by decide +kernel, rfl⟩
theorem d0_161 : De code 161 (.aload 10) 2 163 := ⟨by decide +kernel, rfl⟩
theorem d0_163 : De code 163 (.lload_n 3) 1 164 := ⟨by decide +kernel, rfl⟩
theorem d0_164 : De code 164 (.invokespecial 14) 3 167 := ⟨by decide +kernel, rfl⟩
theorem d0_167 : De code 167 (.invokevirtual 17) 3 170 := ⟨by decide +kernel, rfl⟩
theorem d0_170 : De code 170 (.astore 12) 2 172 := ⟨by decide +kernel, rfl⟩
theorem d0_172 : De code 172 (.bipush 19) 2 174 := ⟨by decide +kernel, rfl⟩
theorem d0_174 : De code 174 (.newarray .long) 2 176 := ⟨by decide +kernel, rfl⟩
theorem d0_176 : De code 176 (.dup) 1 177 := ⟨by decide +kernel, rfl⟩
theorem d0_177 : De code 177 (.iconst 0) 1 178 := ⟨by decide +kernel, rfl⟩
theorem d0_178 : De code 178 (.lconst 1) 1 179 := ⟨by decide +kernel, rfl⟩
theorem d0_179 : De code 179 (.lastore) 1 180 := ⟨by decide +kernel, rfl⟩
theorem d0_180 : De code 180 (.dup) 1 181 := ⟨by decide +kernel, rfl⟩
theorem d0_181 : De code 181 (.iconst 1) 1 182 := ⟨by decide +kernel, rfl⟩
theorem d0_182 : De code 182 (.ldc2_w 21) 3 185 := ⟨by decide +kernel, rfl⟩
theorem d0_185 : De code 185 (.lastore) 1 186 := ⟨by decide +kernel, rfl⟩
theorem d0_186 : De code 186 (.dup) 1 187 := ⟨by decide +kernel, rfl⟩
theorem d0_187 : De code 187 (.iconst 2) 1 188 := ⟨by decide +kernel, rfl⟩
theorem d0_188 : De code 188 (.ldc2_w 23) 3 191 := ⟨by decide +kernel, rfl⟩
theorem d0_191 : De code 191 (.lastore) 1 192 := ⟨by decide +kernel, rfl⟩
theorem d0_192 : De code 192 (.dup) 1 193 := ⟨by decide +kernel, rfl⟩
theorem d0_193 : De code 193 (.iconst 3) 1 194 := ⟨by decide +kernel, rfl⟩
theorem d0_194 : De code 194 (.ldc2_w 25) 3 197 := ⟨by decide +kernel, rfl⟩
theorem d0_197 : De code 197 (.lastore) 1 198 := ⟨by decide +kernel, rfl⟩
theorem d0_198 : De code 198 (.dup) 1 199 := ⟨by decide +kernel, rfl⟩
theorem d0_199 : De code 199 (.iconst 4) 1 200 := ⟨by decide +kernel, rfl⟩
theorem d0_200 : De code 200 (.ldc2_w 27) 3 203 := ⟨by decide +kernel, rfl⟩
theorem d0_203 : De code 203 (.lastore) 1 204 := ⟨by decide +kernel, rfl⟩
theorem d0_204 : De code 204 (.dup) 1 205 := ⟨by decide +kernel, rfl⟩
theorem d0_205 : De code 205 (.iconst 5) 1 206 := ⟨by decide +kernel, rfl⟩
theorem d0_206 : De code 206 (.ldc2_w 29) 3 209 := ⟨by decide +kernel, rfl⟩
theorem d0_209 : De code 209 (.lastore) 1 210 := ⟨by decide +kernel, rfl⟩
theorem d0_210 : De code 210 (.dup) 1 211 := ⟨by decide +kernel, rfl⟩
theorem d0_211 : De code 211 (.bipush 6) 2 213 := ⟨by decide +kernel, rfl⟩
theorem d0_213 : De code 213 (.ldc2_w 31) 3 216 := ⟨by decide +kernel, rfl⟩
theorem d0_216 : De code 216 (.lastore) 1 217 := ⟨by decide +kernel, rfl⟩
theorem d0_217 : De code 217 (.dup) 1 218 := ⟨by decide +kernel, rfl⟩
theorem d0_218 : De code 218 (.bipush 7) 2 220 := ⟨by decide +kernel, rfl⟩
theorem d0_220 : De code 220 (.ldc2_w 33) 3 223 := ⟨by decide +kernel, rfl⟩
theorem d0_223 : De code 223 (.lastore) 1 224 := ⟨by decide +kernel, rfl⟩
theorem d0_224 : De code 224 (.dup) 1 225 := ⟨by decide +kernel, rfl⟩
theorem d0_225 : De code 225 (.bipush 8) 2 227 := ⟨by decide +kernel, rfl⟩
theorem d0_227 : De code 227 (.ldc2_w 35) 3 230 := ⟨by decide +kernel, rfl⟩
theorem d0_230 : De code 230 (.lastore) 1 231 := ⟨by decide +kernel, rfl⟩
theorem d0_231 : De code 231 (.dup) 1 232 := ⟨by decide +kernel, rfl⟩
theorem d0_232 : De code 232 (.bipush 9) 2 234 := ⟨by decide +kernel, rfl⟩
theorem d0_234 : De code 234 (.ldc2_w 37) 3 237 := ⟨by decide +kernel, rfl⟩
theorem d0_237 : De code 237 (.lastore) 1 238 := ⟨by decide +kernel, rfl⟩
theorem d0_238 : De code 238 (.dup) 1 239 := ⟨by decide +kernel, rfl⟩
theorem d0_239 : De code 239 (.bipush 10) 2 241 := ⟨by decide +kernel, rfl⟩
theorem d0_241 : De code 241 (.ldc2_w 39) 3 244 := ⟨by decide +kernel, rfl⟩
theorem d0_244 : De code 244 (.lastore) 1 245 := ⟨by decide +kernel, rfl⟩
theorem d0_245 : De code 245 (.dup) 1 246 := ⟨by decide +kernel, rfl⟩
theorem d0_246 : De code 246 (.bipush 11) 2 248 := ⟨by decide +kernel, rfl⟩
theorem d0_248 : De code 248 (.ldc2_w 41) 3 251 := ⟨by decide +kernel, rfl⟩
theorem d0_251 : De code 251 (.lastore) 1 252 := ⟨by decide +kernel, rfl⟩
theorem d0_252 : De code 252 (.dup) 1 253 := ⟨by decide +kernel, rfl⟩
theorem d0_253 : De code 253 (.bipush 12) 2 255 := ⟨by decide +kernel, rfl⟩
theorem d0_255 : De code 255 (.ldc2_w 43) 3 258 := ⟨by decide +kernel, rfl⟩
theorem d0_258 : De code 258 (.lastore) 1 259 := ⟨by decide +kernel, rfl⟩
theorem d0_259 : De code 259 (.dup) 1 260 := ⟨by decide +kernel, rfl⟩
theorem d0_260 : De code 260 (.bipush 13) 2 262 := ⟨by decide +kernel, rfl⟩
theorem d0_262 : De code 262 (.ldc2_w 45) 3 265 := ⟨by decide +kernel, rfl⟩
theorem d0_265 : De code 265 (.lastore) 1 266 := ⟨by decide +kernel, rfl⟩
theorem d0_266 : De code 266 (.dup) 1 267 := ⟨by decide +kernel, rfl⟩
theorem d0_267 : De code 267 (.bipush 14) 2 269 := ⟨by decide +kernel, rfl⟩
theorem d0_269 : De code 269 (.ldc2_w 47) 3 272 := ⟨by decide +kernel, rfl⟩
theorem d0_272 : De code 272 (.lastore) 1 273 := ⟨by decide +kernel, rfl⟩
theorem d0_273 : De code 273 (.dup) 1 274 := ⟨by decide +kernel, rfl⟩
theorem d0_274 : De code 274 (.bipush 15) 2 276 := ⟨by decide +kernel, rfl⟩
theorem d0_276 : De code 276 (.ldc2_w 49) 3 279 := ⟨by decide +kernel, rfl⟩
theorem d0_279 : De code 279 (.lastore) 1 280 := ⟨by decide +kernel, rfl⟩
theorem d0_280 : De code 280 (.dup) 1 281 := ⟨by decide +kernel, rfl⟩
theorem d0_281 : De code 281 (.bipush 16) 2 283 := ⟨by decide +kernel, rfl⟩
theorem d0_283 : De code 283 (.ldc2_w 51) 3 286 := ⟨by decide +kernel, rfl⟩
theorem d0_286 : De code 286 (.lastore) 1 287 := ⟨by decide +kernel, rfl⟩
theorem d0_287 : De code 287 (.dup) 1 288 := ⟨by decide +kernel, rfl⟩
theorem d0_288 : De code 288 (.bipush 17) 2 290 := ⟨by decide +kernel, rfl⟩
theorem d0_290 : De code 290 (.ldc2_w 53) 3 293 := ⟨by decide +kernel, rfl⟩
theorem d0_293 : De code 293 (.lastore) 1 294 := ⟨by decide +kernel, rfl⟩
theorem d0_294 : De code 294 (.dup) 1 295 := ⟨by decide +kernel, rfl⟩
theorem d0_295 : De code 295 (.bipush 18) 2 297 := ⟨by decide +kernel, rfl⟩
theorem d0_297 : De code 297 (.ldc2_w 55) 3 300 := ⟨by decide +kernel, rfl⟩
theorem d0_300 : De code 300 (.lastore) 1 301 := ⟨by decide +kernel, rfl⟩
theorem d0_301 : De code 301 (.astore 13) 2 303 := ⟨by decide +kernel, rfl⟩
theorem d0_303 : De code 303 (.lload_n 3) 1 304 := ⟨by decide +kernel, rfl⟩
theorem d0_304 : De code 304 (.lconst 0) 1 305 := ⟨by decide +kernel, rfl⟩
theorem d0_305 : De code 305 (.lcmp) 1 306 := ⟨by decide +kernel, rfl⟩
theorem d0_306 : De code 306 (.ifCond .ge 7) 3 309 := ⟨by decide +kernel, rfl⟩
theorem d0_309 : De code 309 (.iconst 1) 1 310 := ⟨by decide +kernel, rfl⟩
theorem d0_310 : De code 310 (.goto 4) 3 313 := ⟨by decide +kernel, rfl⟩
theorem d0_313 : De code 313 (.iconst 0) 1 314 := ⟨by decide +kernel, rfl⟩
theorem d0_314 : De code 314 (.istore 14) 2 316 := ⟨by decide +kernel, rfl⟩
theorem d0_316 : De code 316 (.lload_n 3) 1 317 := ⟨by decide +kernel, rfl⟩
theorem d0_317 : De code 317 (.lconst 0) 1 318 := ⟨by decide +kernel, rfl⟩
theorem d0_318 : De code 318 (.lcmp) 1 319 := ⟨by decide +kernel, rfl⟩
theorem d0_319 : De code 319 (.ifCond .le 8) 3 322 := ⟨by decide +kernel, rfl⟩
theorem d0_322 : De code 322 (.lload_n 3) 1 323 := ⟨by decide +kernel, rfl⟩
theorem d0_323 : De code 323 (.lneg) 1 324 := ⟨by decide +kernel, rfl⟩
theorem d0_324 : De code 324 (.goto 4) 3 327 := ⟨by decide +kernel, rfl⟩
theorem d0_327 : De code 327 (.lload_n 3) 1 328 := ⟨by decide +kernel, rfl⟩
theorem d0_328 : De code 328 (.lstore 15) 2 330 := ⟨by decide +kernel, rfl⟩
theorem d0_330 : De code 330 (.iconst 1) 1 331 := ⟨by decide +kernel, rfl⟩
theorem d0_331 : De code 331 (.lload 15) 2 333 := ⟨by decide +kernel, rfl⟩
theorem d0_333 : De code 333 (.aload 13) 2 335 := ⟨by decide +kernel, rfl⟩
theorem d0_335 : De code 335 (.iconst 1) 1 336 := ⟨by decide +kernel, rfl⟩
theorem d0_336 : De code 336 (.laload) 1 337 := ⟨by decide +kernel, rfl⟩
theorem d0_337 : De code 337 (.invokestatic 57) 3 340 := ⟨by decide +kernel, rfl⟩
theorem d0_340 : De code 340 (.iadd) 1 341 := ⟨by decide +kernel, rfl⟩
theorem d0_341 : De code 341 (.lload 15) 2 343 := ⟨by decide +kernel, rfl⟩
theorem d0_343 : De code 343 (.aload 13) 2 345 := ⟨by decide +kernel, rfl⟩
theorem d0_345 : De code 345 (.iconst 2) 1 346 := ⟨by decide +kernel, rfl⟩
theorem d0_346 : De code 346 (.laload) 1 347 := ⟨by decide +kernel, rfl⟩
theorem d0_347 : De code 347 (.invokestatic 57) 3 350 := ⟨by decide +kernel, rfl⟩
theorem d0_350 : De code 350 (.iadd) 1 351 := ⟨by decide +kernel, rfl⟩
theorem d0_351 : De code 351 (.lload 15) 2 353 := ⟨by decide +kernel, rfl⟩
theorem d0_353 : De code 353 (.aload 13) 2 355 := ⟨by decide +kernel, rfl⟩
theorem d0_355 : De code 355 (.iconst 3) 1 356 := ⟨by decide +kernel, rfl⟩
theorem d0_356 : De code 356 (.laload) 1 357 := ⟨by decide +kernel, rfl⟩
theorem d0_357 : De code 357 (.invokestatic 57) 3 360 := ⟨by decide +kernel, rfl⟩
theorem d0_360 : De code 360 (.iadd) 1 361 := ⟨by decide +kernel, rfl⟩
theorem d0_361 : De code 361 (.lload 15) 2 363 := ⟨by decide +kernel, rfl⟩
theorem d0_363 : De code 363 (.aload 13) 2 365 := ⟨by decide +kernel, rfl⟩
theorem d0_365 : De code 365 (.iconst 4) 1 366 := ⟨by decide +kernel, rfl⟩
theorem d0_366 : De code 366 (.laload) 1 367 := ⟨by decide +kernel, rfl⟩
theorem d0_367 : De code 367 (.invokestatic 57) 3 370 := ⟨by decide +kernel, rfl⟩
theorem d0_370 : De code 370 (.iadd) 1 371 := ⟨by decide +kernel, rfl⟩
theorem d0_371 : De code 371 (.lload 15) 2 373 := ⟨by decide +kernel, rfl⟩
theorem d0_373 : De code 373 (.aload 13) 2 375 := ⟨by decide +kernel, rfl⟩
theorem d0_375 : De code 375 (.iconst 5) 1 376 := ⟨by decide +kernel, rfl⟩
theorem d0_376 : De code 376 (.laload) 1 377 := ⟨by decide +kernel, rfl⟩
theorem d0_377 : De code 377 (.invokestatic 57) 3 380 := ⟨by decide +kernel, rfl⟩
theorem d0_380 : De code 380 (.iadd) 1 381 := ⟨by decide +kernel, rfl⟩
theorem d0_381 : De code 381 (.lload 15) 2 383 := ⟨by decide +kernel, rfl⟩
theorem d0_383 : De code 383 (.aload 13) 2 385 := ⟨by decide +kernel, rfl⟩
theorem d0_385 : De code 385 (.bipush 6) 2 387 := ⟨by decide +kernel, rfl⟩
theorem d0_387 : De code 387 (.laload) 1 388 := ⟨by decide +kernel, rfl⟩
theorem d0_388 : De code 388 (.invokestatic 57) 3 391 := ⟨by decide +kernel, rfl⟩
theorem d0_391 : De code 391 (.iadd) 1 392 := ⟨by decide +kernel, rfl⟩
theorem d0_392 : De code 392 (.lload 15) 2 394 := ⟨by decide +kernel, rfl⟩
theorem d0_394 : De code 394 (.aload 13) 2 396 := ⟨by decide +kernel, rfl⟩
theorem d0_396 : De code 396 (.bipush 7) 2 398 := ⟨by decide +kernel, rfl⟩
theorem d0_398 : De code 398 (.laload) 1 399 := ⟨by decide +kernel, rfl⟩
theorem d0_399 : De code 399 (.invokestatic 57) 3 402 := ⟨by decide +kernel, rfl⟩
theorem d0_402 : De code 402 (.iadd) 1 403 := ⟨by decide +kernel, rfl⟩
theorem d0_403 : De code 403 (.lload 15) 2 405 := ⟨by decide +kernel, rfl⟩
theorem d0_405 : De code 405 (.aload 13) 2 407 := ⟨by decide +kernel, rfl⟩
theorem d0_407 : De code 407 (.bipush 8) 2 409 := ⟨by decide +kernel, rfl⟩
theorem d0_409 : De code 409 (.laload) 1 410 := ⟨by decide +kernel, rfl⟩
theorem d0_410 : De code 410 (.invokestatic 57) 3 413 := ⟨by decide +kernel, rfl⟩
theorem d0_413 : De code 413 (.iadd) 1 414 := ⟨by decide +kernel, rfl⟩
theorem d0_414 : De code 414 (.lload 15) 2 416 := ⟨by decide +kernel, rfl⟩
theorem d0_416 : De code 416 (.aload 13) 2 418 := ⟨by decide +kernel, rfl⟩
theorem d0_418 : De code 418 (.bipush 9) 2 420 := ⟨by decide +kernel, rfl⟩
theorem d0_420 : De code 420 (.laload) 1 421 := ⟨by decide +kernel, rfl⟩
theorem d0_421 : De code 421 (.invokestatic 57) 3 424 := ⟨by decide +kernel, rfl⟩
theorem d0_424 : De code 424 (.iadd) 1 425 := ⟨by decide +kernel, rfl⟩
theorem d0_425 : De code 425 (.lload 15) 2 427 := ⟨by decide +kernel, rfl⟩
theorem d0_427 : De code 427 (.aload 13) 2 429 := ⟨by decide +kernel, rfl⟩
theorem d0_429 : De code 429 (.bipush 10) 2 431 := ⟨by decide +kernel, rfl⟩
theorem d0_431 : De code 431 (.laload) 1 432 := ⟨by decide +kernel, rfl⟩
theorem d0_432 : De code 432 (.invokestatic 57) 3 435 := ⟨by decide +kernel, rfl⟩
theorem d0_435 : De code 435 (.iadd) 1 436 := ⟨by decide +kernel, rfl⟩
theorem d0_436 : De code 436 (.lload 15) 2 438 := ⟨by decide +kernel, rfl⟩
theorem d0_438 : De code 438 (.aload 13) 2 440 := ⟨by decide +kernel, rfl⟩
theorem d0_440 : De code 440 (.bipush 11) 2 442 := ⟨by decide +kernel, rfl⟩
theorem d0_442 : De code 442 (.laload) 1 443 := ⟨by decide +kernel, rfl⟩
theorem d0_443 : De code 443 (.invokestatic 57) 3 446 := ⟨by decide +kernel, rfl⟩
theorem d0_446 : De code 446 (.iadd) 1 447 := ⟨by decide +kernel, rfl⟩
theorem d0_447 : De code 447 (.lload 15) 2 449 := ⟨by decide +kernel, rfl⟩
theorem d0_449 : De code 449 (.aload 13) 2 451 := ⟨by decide +kernel, rfl⟩
theorem d0_451 : De code 451 (.bipush 12) 2 453 := ⟨by decide +kernel, rfl⟩
theorem d0_453 : De code 453 (.laload) 1 454 := ⟨by decide +kernel, rfl⟩
theorem d0_454 : De code 454 (.invokestatic 57) 3 457 := ⟨by decide +kernel, rfl⟩
theorem d0_457 : De code 457 (.iadd) 1 458 := ⟨by decide +kernel, rfl⟩
theorem d0_458 : De code 458 (.lload 15) 2 460 := ⟨by decide +kernel, rfl⟩
theorem d0_460 : De code 460 (.aload 13) 2 462 := ⟨by decide +kernel, rfl⟩
theorem d0_462 : De code 462 (.bipush 13) 2 464 := ⟨by decide +kernel, rfl⟩
theorem d0_464 : De code 464 (.laload) 1 465 := ⟨by decide +kernel, rfl⟩
theorem d0_465 : De code 465 (.invokestatic 57) 3 468 := ⟨by decide +kernel, rfl⟩
theorem d0_468 : De code 468 (.iadd) 1 469 := ⟨by decide +kernel, rfl⟩
theorem d0_469 : De code 469 (.lload 15) 2 471 := ⟨by decide +kernel, rfl⟩
theorem d0_471 : De code 471 (.aload 13) 2 473 := ⟨by decide +kernel, rfl⟩
theorem d0_473 : De code 473 (.bipush 14) 2 475 := ⟨by decide +kernel, rfl⟩
theorem d0_475 : De code 475 (.laload) 1 476 := ⟨by decide +kernel, rfl⟩
theorem d0_476 : De code 476 (.invokestatic 57) 3 479 := ⟨by decide +kernel, rfl⟩
theorem d0_479 : De code 479 (.iadd) 1 480 := ⟨by decide +kernel, rfl⟩
theorem d0_480 : De code 480 (.lload 15) 2 482 := ⟨by decide +kernel, rfl⟩
theorem d0_482 : De code 482 (.aload 13) 2 484 := ⟨by decide +kernel, rfl⟩
theorem d0_484 : De code 484 (.bipush 15) 2 486 := ⟨by decide +kernel, rfl⟩
theorem d0_486 : De code 486 (.laload) 1 487 := ⟨by decide +kernel, rfl⟩
theorem d0_487 : De code 487 (.invokestatic 57) 3 490 := ⟨by decide +kernel, rfl⟩
theorem d0_490 : De code 490 (.iadd) 1 491 := ⟨by decide +kernel, rfl⟩
theorem d0_491 : De code 491 (.lload 15) 2 493 := ⟨by decide +kernel, rfl⟩
theorem d0_493 : De code 493 (.aload 13) 2 495 := ⟨by decide +kernel, rfl⟩
theorem d0_495 : De code 495 (.bipush 16) 2 497 := ⟨by decide +kernel, rfl⟩
theorem d0_497 : De code 497 (.laload) 1 498 := ⟨by decide +kernel, rfl⟩
theorem d0_498 : De code 498 (.invokestatic 57) 3 501 := ⟨by decide +kernel, rfl⟩
theorem d0_501 : De code 501 (.iadd) 1 502 := ⟨by decide +kernel, rfl⟩
theorem d0_502 : De code 502 (.lload 15) 2 504 := ⟨by decide +kernel, rfl⟩
theorem d0_504 : De code 504 (.aload 13) 2 506 := ⟨by decide +kernel, rfl⟩
theorem d0_506 : De code 506 (.bipush 17) 2 508 := ⟨by decide +kernel, rfl⟩
theorem d0_508 : De code 508 (.laload) 1 509 := ⟨by decide +kernel, rfl⟩
theorem d0_509 : De code 509 (.invokestatic 57) 3 512 := ⟨by decide +kernel, rfl⟩
theorem d0_512 : De code 512 (.iadd) 1 513 := ⟨by decide +kernel, rfl⟩
theorem d0_513 : De code 513 (.lload 15) 2 515 := ⟨by decide +kernel, rfl⟩
theorem d0_515 : De code 515 (.aload 13) 2 517 := ⟨by decide +kernel, rfl⟩
theorem d0_517 : De code 517 (.bipush 18) 2 519 := ⟨by decide +kernel, rfl⟩
theorem d0_519 : De code 519 (.laload) 1 520 := ⟨by decide +kernel, rfl⟩
theorem d0_520 : De code 520 (.invokestatic 57) 3 523 := ⟨by decide +kernel, rfl⟩
theorem d0_523 : De code 523 (.iadd) 1 524 := ⟨by decide +kernel, rfl⟩
theorem d0_524 : De code 524 (.istore 17) 2 526 := ⟨by decide +kernel, rfl⟩
theorem d0_526 : De code 526 (.iload 14) 2 528 := ⟨by decide +kernel, rfl⟩
theorem d0_528 : De code 528 (.ifCond .eq 7) 3 531 := ⟨by decide +kernel, rfl⟩
theorem d0_531 : De code 531 (.iconst 1) 1 532 := ⟨by decide +kernel, rfl⟩
theorem d0_532 : De code 532 (.goto 4) 3 535 := ⟨by decide +kernel, rfl⟩
theorem d0_535 : De code 535 (.iconst 0) 1 536 := ⟨by decide +kernel, rfl⟩
theorem d0_536 : De code 536 (.istore 18) 2 538 := ⟨by decide +kernel, rfl⟩
theorem d0_538 : De code 538 (.bipush 16) 2 540 := ⟨by decide +kernel, rfl⟩
theorem d0_540 : De code 540 (.iload 5) 2 542 := ⟨by decide +kernel, rfl⟩
theorem d0_542 : De code 542 (.iadd) 1 543 := ⟨by decide +kernel, rfl⟩
theorem d0_543 : De code 543 (.bipush 12) 2 545 := ⟨by decide +kernel, rfl⟩
theorem d0_545 : De code 545 (.iadd) 1 546 := ⟨by decide +kernel, rfl⟩
theorem d0_546 : De code 546 (.istore 19) 2 548 := ⟨by decide +kernel, rfl⟩
theorem d0_548 : De code 548 (.iload 19) 2 550 := ⟨by decide +kernel, rfl⟩
theorem d0_550 : De code 550 (.iload 18) 2 552 := ⟨by decide +kernel, rfl⟩
theorem d0_552 : De code 552 (.iadd) 1 553 := ⟨by decide +kernel, rfl⟩
theorem d0_553 : De code 553 (.iload 17) 2 555 := ⟨by decide +kernel, rfl⟩
theorem d0_555 : De code 555 (.iadd) 1 556 := ⟨by decide +kernel, rfl⟩
theorem d0_556 : De code 556 (.istore 20) 2 558 := ⟨by decide +kernel, rfl⟩
theorem d0_558 : De code 558 (.aload 12) 2 560 := ⟨by decide +kernel, rfl⟩
theorem d0_560 : De code 560 (.ifnull 15) 3 563 := ⟨by decide +kernel, rfl⟩
theorem d0_563 : De code 563 (.aload 12) 2 565 := ⟨by decide +kernel, rfl⟩
theorem d0_565 : De code 565 (.invokevirtual 63) 3 568 := ⟨by decide +kernel, rfl⟩
theorem d0_568 : De code 568 (.iload 20) 2 570 := ⟨by decide +kernel, rfl⟩
theorem d0_570 : De code 570 (.iconst 1) 1 571 := ⟨by decide +kernel, rfl⟩
theorem d0_571 : De code 571 (.iadd) 1 572 := ⟨by decide +kernel, rfl⟩
theorem d0_572 : De code 572 (.if_icmp .eq 5) 3 575 := ⟨by decide +kernel, rfl⟩
theorem d0_577 : De code 577 (.ldc 67) 2 579 := ⟨by decide +kernel, rfl⟩
theorem d0_579 : De code 579 (.astore 21) 2 581 := ⟨by decide +kernel, rfl⟩
theorem d0_581 : De code 581 (.ldc 69) 2 583 := ⟨by decide +kernel, rfl⟩
theorem d0_583 : De code 583 (.astore 22) 2 585 := ⟨by decide +kernel, rfl⟩
theorem d0_585 : De code 585 (.aload 12) 2 587 := ⟨by decide +kernel, rfl⟩
theorem d0_587 : De code 587 (.iconst 0) 1 588 := ⟨by decide +kernel, rfl⟩
theorem d0_588 : De code 588 (.aload 21) 2 590 := ⟨by decide +kernel, rfl⟩
theorem d0_590 : De code 590 (.iconst 0) 1 591 := ⟨by decide +kernel, rfl⟩
theorem d0_591 : De code 591 (.invokestatic 71) 3 594 := ⟨by decide +kernel, rfl⟩
theorem d0_594 : De code 594 (.ifCond .eq 45) 3 597 := ⟨by decide +kernel, rfl⟩
theorem d0_597 : De code 597 (.aload 12) 2 599 := ⟨by decide +kernel, rfl⟩
theorem d0_599 : De code 599 (.iconst 0) 1 600 := ⟨by decide +kernel, rfl⟩
theorem d0_600 : De code 600 (.aload 21) 2 602 := ⟨by decide +kernel, rfl⟩
theorem d0_602 : De code 602 (.iconst 4) 1 603 := ⟨by decide +kernel, rfl⟩
theorem d0_603 : De code 603 (.invokestatic 71) 3 606 := ⟨by decide +kernel, rfl⟩
theorem d0_606 : De code 606 (.ifCond .eq 33) 3 609 := ⟨by decide +kernel, rfl⟩
theorem d0_609 : De code 609 (.aload 12) 2 611 := ⟨by decide +kernel, rfl⟩
theorem d0_611 : De code 611 (.iconst 0) 1 612 := ⟨by decide +kernel, rfl⟩
theorem d0_612 : De code 612 (.aload 21) 2 614 := ⟨by decide +kernel, rfl⟩
theorem d0_614 : De code 614 (.bipush 8) 2 616 := ⟨by decide +kernel, rfl⟩
theorem d0_616 : De code 616 (.invokestatic 71) 3 619 := ⟨by decide +kernel, rfl⟩
theorem d0_619 : De code 619 (.ifCond .eq 20) 3 622 := ⟨by decide +kernel, rfl⟩
theorem d0_622 : De code 622 (.aload 12) 2 624 := ⟨by decide +kernel, rfl⟩
theorem d0_624 : De code 624 (.iconst 0) 1 625 := ⟨by decide +kernel, rfl⟩
theorem d0_625 : De code 625 (.aload 21) 2 627 := ⟨by decide +kernel, rfl⟩
theorem d0_627 : De code 627 (.bipush 12) 2 629 := ⟨by decide +kernel, rfl⟩
theorem d0_629 : De code 629 (.invokestatic 71) 3 632 := ⟨by decide +kernel, rfl⟩
theorem d0_632 : De code 632 (.ifCond .eq 7) 3 635 := ⟨by decide +kernel, rfl⟩
theorem d0_635 : De code 635 (.iconst 1) 1 636 := ⟨by decide +kernel, rfl⟩
theorem d0_636 : De code 636 (.goto 4) 3 639 := ⟨by decide +kernel, rfl⟩
theorem d0_640 : De code 640 (.istore 23) 2 642 := ⟨by decide +kernel, rfl⟩
theorem d0_642 : De code 642 (.iload 23) 2 644 := ⟨by decide +kernel, rfl⟩
theorem d0_644 : De code 644 (.ifCond .eq 20) 3 647 := ⟨by decide +kernel, rfl⟩
theorem d0_647 : De code 647 (.aload 12) 2 649 := ⟨by decide +kernel, rfl⟩
theorem d0_649 : De code 649 (.bipush 16) 2 651 := ⟨by decide +kernel, rfl⟩
theorem d0_651 : De code 651 (.aload 10) 2 653 := ⟨by decide +kernel, rfl⟩
theorem d0_653 : De code 653 (.iconst 0) 1 654 := ⟨by decide +kernel, rfl⟩
theorem d0_654 : De code 654 (.invokestatic 71) 3 657 := ⟨by decide +kernel, rfl⟩
theorem d0_657 : De code 657 (.ifCond .eq 7) 3 660 := ⟨by decide +kernel, rfl⟩
theorem d0_660 : De code 660 (.iconst 1) 1 661 := ⟨by decide +kernel, rfl⟩
theorem d0_661 : De code 661 (.goto 4) 3 664 := ⟨by decide +kernel, rfl⟩
theorem d0_665 : De code 665 (.istore 23) 2 667 := ⟨by decide +kernel, rfl⟩
theorem d0_667 : De code 667 (.iload 23) 2 669 := ⟨by decide +kernel, rfl⟩
theorem d0_669 : De code 669 (.ifCond .eq 56) 3 672 := ⟨by decide +kernel, rfl⟩
theorem d0_672 : De code 672 (.aload 12) 2 674 := ⟨by decide +kernel, rfl⟩
theorem d0_674 : De code 674 (.bipush 16) 2 676 := ⟨by decide +kernel, rfl⟩
theorem d0_676 : De code 676 (.iload 5) 2 678 := ⟨by decide +kernel, rfl⟩
theorem d0_678 : De code 678 (.iadd) 1 679 := ⟨by decide +kernel, rfl⟩
theorem d0_679 : De code 679 (.aload 22) 2 681 := ⟨by decide +kernel, rfl⟩
theorem d0_681 : De code 681 (.iconst 0) 1 682 := ⟨by decide +kernel, rfl⟩
theorem d0_682 : De code 682 (.invokestatic 71) 3 685 := ⟨by decide +kernel, rfl⟩
theorem d0_685 : De code 685 (.ifCond .eq 40) 3 688 := ⟨by decide +kernel, rfl⟩
theorem d0_688 : De code 688 (.aload 12) 2 690 := ⟨by decide +kernel, rfl⟩
theorem d0_690 : De code 690 (.bipush 16) 2 692 := ⟨by decide +kernel, rfl⟩
theorem d0_692 : De code 692 (.iload 5) 2 694 := ⟨by decide +kernel, rfl⟩
theorem d0_694 : De code 694 (.iadd) 1 695 := ⟨by decide +kernel, rfl⟩
theorem d0_695 : De code 695 (.aload 22) 2 697 := ⟨by decide +kernel, rfl⟩
theorem d0_697 : De code 697 (.iconst 4) 1 698 := ⟨by decide +kernel, rfl⟩
theorem d0_698 : De code 698 (.invokestatic 71) 3 701 := ⟨by decide +kernel, rfl⟩
theorem d0_701 : De code 701 (.ifCond .eq 24) 3 704 := ⟨by decide +kernel, rfl⟩
theorem d0_704 : De code 704 (.aload 12) 2 706 := ⟨by decide +kernel, rfl⟩
theorem d0_706 : De code 706 (.bipush 16) 2 708 := ⟨by decide +kernel, rfl⟩
theorem d0_708 : De code 708 (.iload 5) 2 710 := ⟨by decide +kernel, rfl⟩
theorem d0_710 : De code 710 (.iadd) 1 711 := ⟨by decide +kernel, rfl⟩
theorem d0_711 : De code 711 (.aload 22) 2 713 := ⟨by decide +kernel, rfl⟩
theorem d0_713 : De code 713 (.bipush 8) 2 715 := ⟨by decide +kernel, rfl⟩
theorem d0_715 : De code 715 (.invokestatic 71) 3 718 := ⟨by decide +kernel, rfl⟩
theorem d0_718 : De code 718 (.ifCond .eq 7) 3 721 := ⟨by decide +kernel, rfl⟩
theorem d0_721 : De code 721 (.iconst 1) 1 722 := ⟨by decide +kernel, rfl⟩
theorem d0_722 : De code 722 (.goto 4) 3 725 := ⟨by decide +kernel, rfl⟩
theorem d0_726 : De code 726 (.istore 23) 2 728 := ⟨by decide +kernel, rfl⟩
theorem d0_728 : De code 728 (.iload 23) 2 730 := ⟨by decide +kernel, rfl⟩
theorem d0_730 : De code 730 (.ifCond .eq 24) 3 733 := ⟨by decide +kernel, rfl⟩
theorem d0_733 : De code 733 (.iload 14) 2 735 := ⟨by decide +kernel, rfl⟩
theorem d0_735 : De code 735 (.ifCond .eq 15) 3 738 := ⟨by decide +kernel, rfl⟩
theorem d0_738 : De code 738 (.aload 12) 2 740 := ⟨by decide +kernel, rfl⟩
theorem d0_740 : De code 740 (.iload 19) 2 742 := ⟨by decide +kernel, rfl⟩
theorem d0_742 : De code 742 (.invokevirtual 75) 3 745 := ⟨by decide +kernel, rfl⟩
theorem d0_745 : De code 745 (.bipush 45) 2 747 := ⟨by decide +kernel, rfl⟩
theorem d0_747 : De code 747 (.if_icmp .ne 7) 3 750 := ⟨by decide +kernel, rfl⟩
theorem d0_750 : De code 750 (.iconst 1) 1 751 := ⟨by decide +kernel, rfl⟩
theorem d0_751 : De code 751 (.goto 4) 3 754 := ⟨by decide +kernel, rfl⟩
theorem d0_755 : De code 755 (.istore 23) 2 757 := ⟨by decide +kernel, rfl⟩
theorem d0_757 : De code 757 (.iload 23) 2 759 := ⟨by decide +kernel, rfl⟩
theorem d0_759 : De code 759 (.ifCond .eq 19) 3 762 := ⟨by decide +kernel, rfl⟩
theorem d0_762 : De code 762 (.aload 12) 2 764 := ⟨by decide +kernel, rfl⟩
theorem d0_764 : De code 764 (.iload 20) 2 766 := ⟨by decide +kernel, rfl⟩
theorem d0_766 : De code 766 (.invokevirtual 75) 3 769 := ⟨by decide +kernel, rfl⟩
theorem d0_769 : De code 769 (.bipush 93) 2 771 := ⟨by decide +kernel, rfl⟩
theorem d0_771 : De code 771 (.if_icmp .ne 7) 3 774 := ⟨by decide +kernel, rfl⟩
theorem d0_774 : De code 774 (.iconst 1) 1 775 := ⟨by decide +kernel, rfl⟩
theorem d0_775 : De code 775 (.goto 4) 3 778 := ⟨by decide +kernel, rfl⟩
theorem d0_779 : De code 779 (.istore 23) 2 781 := ⟨by decide +kernel, rfl⟩
theorem d0_781 : De code 781 (.iload 23) 2 783 := ⟨by decide +kernel, rfl⟩
theorem d0_783 : De code 783 (.ifCond .eq 394) 3 786 := ⟨by decide +kernel, rfl⟩
theorem d0_786 : De code 786 (.aload 12) 2 788 := ⟨by decide +kernel, rfl⟩
theorem d0_788 : De code 788 (.iload 20) 2 790 := ⟨by decide +kernel, rfl⟩
theorem d0_790 : De code 790 (.iload 17) 2 792 := ⟨by decide +kernel, rfl⟩
theorem d0_792 : De code 792 (.lload 15) 2 794 := ⟨by decide +kernel, rfl⟩
theorem d0_794 : De code 794 (.aload 13) 2 796 := ⟨by decide +kernel, rfl⟩
theorem d0_796 : De code 796 (.iconst 0) 1 797 := ⟨by decide +kernel, rfl⟩
theorem d0_797 : De code 797 (.laload) 1 798 := ⟨by decide +kernel, rfl⟩
theorem d0_798 : De code 798 (.iconst 0) 1 799 := ⟨by decide +kernel, rfl⟩
theorem d0_799 : De code 799 (.invokestatic 79) 3 802 := ⟨by decide +kernel, rfl⟩
theorem d0_802 : De code 802 (.ifCond .eq 375) 3 805 := ⟨by decide +kernel, rfl⟩
theorem d0_805 : De code 805 (.aload 12) 2 807 := ⟨by decide +kernel, rfl⟩
theorem d0_807 : De code 807 (.iload 20) 2 809 := ⟨by decide +kernel, rfl⟩
theorem d0_809 : De code 809 (.iload 17) 2 811 := ⟨by decide +kernel, rfl⟩
theorem d0_811 : De code 811 (.lload 15) 2 813 := ⟨by decide +kernel, rfl⟩
theorem d0_813 : De code 813 (.aload 13) 2 815 := ⟨by decide +kernel, rfl⟩
theorem d0_815 : De code 815 (.iconst 1) 1 816 := ⟨by decide +kernel, rfl⟩
theorem d0_816 : De code 816 (.laload) 1 817 := ⟨by decide +kernel, rfl⟩
theorem d0_817 : De code 817 (.iconst 1) 1 818 := ⟨by decide +kernel, rfl⟩
theorem d0_818 : De code 818 (.invokestatic 79) 3 821 := ⟨by decide +kernel, rfl⟩
theorem d0_821 : De code 821 (.ifCond .eq 356) 3 824 := ⟨by decide +kernel, rfl⟩
theorem d0_824 : De code 824 (.aload 12) 2 826 := ⟨by decide +kernel, rfl⟩
theorem d0_826 : De code 826 (.iload 20) 2 828 := ⟨by decide +kernel, rfl⟩
theorem d0_828 : De code 828 (.iload 17) 2 830 := ⟨by decide +kernel, rfl⟩
theorem d0_830 : De code 830 (.lload 15) 2 832 := ⟨by decide +kernel, rfl⟩
theorem d0_832 : De code 832 (.aload 13) 2 834 := ⟨by decide +kernel, rfl⟩
theorem d0_834 : De code 834 (.iconst 2) 1 835 := ⟨by decide +kernel, rfl⟩
theorem d0_835 : De code 835 (.laload) 1 836 := ⟨by decide +kernel, rfl⟩
theorem d0_836 : De code 836 (.iconst 2) 1 837 := ⟨by decide +kernel, rfl⟩
theorem d0_837 : De code 837 (.invokestatic 79) 3 840 := ⟨by decide +kernel, rfl⟩
theorem d0_840 : De code 840 (.ifCond .eq 337) 3 843 := ⟨by decide +kernel, rfl⟩
theorem d0_843 : De code 843 (.aload 12) 2 845 := ⟨by decide +kernel, rfl⟩
theorem d0_845 : De code 845 (.iload 20) 2 847 := ⟨by decide +kernel, rfl⟩
theorem d0_847 : De code 847 (.iload 17) 2 849 := ⟨by decide +kernel, rfl⟩
theorem d0_849 : De code 849 (.lload 15) 2 851 := ⟨by decide +kernel, rfl⟩
theorem d0_851 : De code 851 (.aload 13) 2 853 := ⟨by decide +kernel, rfl⟩
theorem d0_853 : De code 853 (.iconst 3) 1 854 := ⟨by decide +kernel, rfl⟩
theorem d0_854 : De code 854 (.laload) 1 855 := ⟨by decide +kernel, rfl⟩
theorem d0_855 : De code 855 (.iconst 3) 1 856 := ⟨by decide +kernel, rfl⟩
theorem d0_856 : De code 856 (.invokestatic 79) 3 859 := ⟨by decide +kernel, rfl⟩
theorem d0_859 : De code 859 (.ifCond .eq 318) 3 862 := ⟨by decide +kernel, rfl⟩
theorem d0_862 : De code 862 (.aload 12) 2 864 := ⟨by decide +kernel, rfl⟩
theorem d0_864 : De code 864 (.iload 20) 2 866 := ⟨by decide +kernel, rfl⟩
theorem d0_866 : De code 866 (.iload 17) 2 868 := ⟨by decide +kernel, rfl⟩
theorem d0_868 : De code 868 (.lload 15) 2 870 := ⟨by decide +kernel, rfl⟩
theorem d0_870 : De code 870 (.aload 13) 2 872 := ⟨by decide +kernel, rfl⟩
theorem d0_872 : De code 872 (.iconst 4) 1 873 := ⟨by decide +kernel, rfl⟩
theorem d0_873 : De code 873 (.laload) 1 874 := ⟨by decide +kernel, rfl⟩
theorem d0_874 : De code 874 (.iconst 4) 1 875 := ⟨by decide +kernel, rfl⟩
theorem d0_875 : De code 875 (.invokestatic 79) 3 878 := ⟨by decide +kernel, rfl⟩
theorem d0_878 : De code 878 (.ifCond .eq 299) 3 881 := ⟨by decide +kernel, rfl⟩
theorem d0_881 : De code 881 (.aload 12) 2 883 := ⟨by decide +kernel, rfl⟩
theorem d0_883 : De code 883 (.iload 20) 2 885 := ⟨by decide +kernel, rfl⟩
theorem d0_885 : De code 885 (.iload 17) 2 887 := ⟨by decide +kernel, rfl⟩
theorem d0_887 : De code 887 (.lload 15) 2 889 := ⟨by decide +kernel, rfl⟩
theorem d0_889 : De code 889 (.aload 13) 2 891 := ⟨by decide +kernel, rfl⟩
theorem d0_891 : De code 891 (.iconst 5) 1 892 := ⟨by decide +kernel, rfl⟩
theorem d0_892 : De code 892 (.laload) 1 893 := ⟨by decide +kernel, rfl⟩
theorem d0_893 : De code 893 (.iconst 5) 1 894 := ⟨by decide +kernel, rfl⟩
theorem d0_894 : De code 894 (.invokestatic 79) 3 897 := ⟨by decide +kernel, rfl⟩
theorem d0_897 : De code 897 (.ifCond .eq 280) 3 900 := ⟨by decide +kernel, rfl⟩
theorem d0_900 : De code 900 (.aload 12) 2 902 := ⟨by decide +kernel, rfl⟩
theorem d0_902 : De code 902 (.iload 20) 2 904 := ⟨by decide +kernel, rfl⟩
theorem d0_904 : De code 904 (.iload 17) 2 906 := ⟨by decide +kernel, rfl⟩
theorem d0_906 : De code 906 (.lload 15) 2 908 := ⟨by decide +kernel, rfl⟩
theorem d0_908 : De code 908 (.aload 13) 2 910 := ⟨by decide +kernel, rfl⟩
theorem d0_910 : De code 910 (.bipush 6) 2 912 := ⟨by decide +kernel, rfl⟩
theorem d0_912 : De code 912 (.laload) 1 913 := ⟨by decide +kernel, rfl⟩
theorem d0_913 : De code 913 (.bipush 6) 2 915 := ⟨by decide +kernel, rfl⟩
theorem d0_915 : De code 915 (.invokestatic 79) 3 918 := ⟨by decide +kernel, rfl⟩
theorem d0_918 : De code 918 (.ifCond .eq 259) 3 921 := ⟨by decide +kernel, rfl⟩
theorem d0_921 : De code 921 (.aload 12) 2 923 := ⟨by decide +kernel, rfl⟩
theorem d0_923 : De code 923 (.iload 20) 2 925 := ⟨by decide +kernel, rfl⟩
theorem d0_925 : De code 925 (.iload 17) 2 927 := ⟨by decide +kernel, rfl⟩
theorem d0_927 : De code 927 (.lload 15) 2 929 := ⟨by decide +kernel, rfl⟩
theorem d0_929 : De code 929 (.aload 13) 2 931 := ⟨by decide +kernel, rfl⟩
theorem d0_931 : De code 931 (.bipush 7) 2 933 := ⟨by decide +kernel, rfl⟩
theorem d0_933 : De code 933 (.laload) 1 934 := ⟨by decide +kernel, rfl⟩
theorem d0_934 : De code 934 (.bipush 7) 2 936 := ⟨by decide +kernel, rfl⟩
theorem d0_936 : De code 936 (.invokestatic 79) 3 939 := ⟨by decide +kernel, rfl⟩
theorem d0_939 : De code 939 (.ifCond .eq 238) 3 942 := ⟨by decide +kernel, rfl⟩
theorem d0_942 : De code 942 (.aload 12) 2 944 := ⟨by decide +kernel, rfl⟩
theorem d0_944 : De code 944 (.iload 20) 2 946 := ⟨by decide +kernel, rfl⟩
theorem d0_946 : De code 946 (.iload 17) 2 948 := ⟨by decide +kernel, rfl⟩
theorem d0_948 : De code 948 (.lload 15) 2 950 := ⟨by decide +kernel, rfl⟩
theorem d0_950 : De code 950 (.aload 13) 2 952 := ⟨by decide +kernel, rfl⟩
theorem d0_952 : De code 952 (.bipush 8) 2 954 := ⟨by decide +kernel, rfl⟩
theorem d0_954 : De code 954 (.laload) 1 955 := ⟨by decide +kernel, rfl⟩
theorem d0_955 : De code 955 (.bipush 8) 2 957 := ⟨by decide +kernel, rfl⟩
theorem d0_957 : De code 957 (.invokestatic 79) 3 960 := ⟨by decide +kernel, rfl⟩
theorem d0_960 : De code 960 (.ifCond .eq 217) 3 963 := ⟨by decide +kernel, rfl⟩
theorem d0_963 : De code 963 (.aload 12) 2 965 := ⟨by decide +kernel, rfl⟩
theorem d0_965 : De code 965 (.iload 20) 2 967 := ⟨by decide +kernel, rfl⟩
theorem d0_967 : De code 967 (.iload 17) 2 969 := ⟨by decide +kernel, rfl⟩
theorem d0_969 : De code 969 (.lload 15) 2 971 := ⟨by decide +kernel, rfl⟩
theorem d0_971 : De code 971 (.aload 13) 2 973 := ⟨by decide +kernel, rfl⟩
theorem d0_973 : De code 973 (.bipush 9) 2 975 := ⟨by decide +kernel, rfl⟩
theorem d0_975 : De code 975 (.laload) 1 976 := ⟨by decide +kernel, rfl⟩
theorem d0_976 : De code 976 (.bipush 9) 2 978 := ⟨by decide +kernel, rfl⟩
theorem d0_978 : De code 978 (.invokestatic 79) 3 981 := ⟨by decide +kernel, rfl⟩
theorem d0_981 : De code 981 (.ifCond .eq 196) 3 984 := ⟨by decide +kernel, rfl⟩
theorem d0_984 : De code 984 (.aload 12) 2 986 := ⟨by decide +kernel, rfl⟩
theorem d0_986 : De code 986 (.iload 20) 2 988 := ⟨by decide +kernel, rfl⟩
theorem d0_988 : De code 988 (.iload 17) 2 990 := ⟨by decide +kernel, rfl⟩
theorem d0_990 : De code 990 (.lload 15) 2 992 := ⟨by decide +kernel, rfl⟩
theorem d0_992 : De code 992 (.aload 13) 2 994 := ⟨by decide +kernel, rfl⟩
theorem d0_994 : De code 994 (.bipush 10) 2 996 := ⟨by decide +kernel, rfl⟩
theorem d0_996 : De code 996 (.laload) 1 997 := ⟨by decide +kernel, rfl⟩
theorem d0_997 : De code 997 (.bipush 10) 2 999 := ⟨by decide +kernel, rfl⟩
theorem d0_999 : De code 999 (.invokestatic 79) 3 1002 := ⟨by decide +kernel, rfl⟩
theorem d0_1002 : De code 1002 (.ifCond .eq 175) 3 1005 := ⟨by decide +kernel, rfl⟩
theorem d0_1005 : De code 1005 (.aload 12) 2 1007 := ⟨by decide +kernel, rfl⟩
theorem d0_1007 : De code 1007 (.iload 20) 2 1009 := ⟨by decide +kernel, rfl⟩
theorem d0_1009 : De code 1009 (.iload 17) 2 1011 := ⟨by decide +kernel, rfl⟩
theorem d0_1011 : De code 1011 (.lload 15) 2 1013 := ⟨by decide +kernel, rfl⟩
theorem d0_1013 : De code 1013 (.aload 13) 2 1015 := ⟨by decide +kernel, rfl⟩
theorem d0_1015 : De code 1015 (.bipush 11) 2 1017 := ⟨by decide +kernel, rfl⟩
theorem d0_1017 : De code 1017 (.laload) 1 1018 := ⟨by decide +kernel, rfl⟩
theorem d0_1018 : De code 1018 (.bipush 11) 2 1020 := ⟨by decide +kernel, rfl⟩
theorem d0_1020 : De code 1020 (.invokestatic 79) 3 1023 := ⟨by decide +kernel, rfl⟩
theorem d0_1023 : De code 1023 (.ifCond .eq 154) 3 1026 := ⟨by decide +kernel, rfl⟩
theorem d0_1026 : De code 1026 (.aload 12) 2 1028 := ⟨by decide +kernel, rfl⟩
theorem d0_1028 : De code 1028 (.iload 20) 2 1030 := ⟨by decide +kernel, rfl⟩
theorem d0_1030 : De code 1030 (.iload 17) 2 1032 := ⟨by decide +kernel, rfl⟩
theorem d0_1032 : De code 1032 (.lload 15) 2 1034 := ⟨by decide +kernel, rfl⟩
theorem d0_1034 : De code 1034 (.aload 13) 2 1036 := ⟨by decide +kernel, rfl⟩
theorem d0_1036 : De code 1036 (.bipush 12) 2 1038 := ⟨by decide +kernel, rfl⟩
theorem d0_1038 : De code 1038 (.laload) 1 1039 := ⟨by decide +kernel, rfl⟩
theorem d0_1039 : De code 1039 (.bipush 12) 2 1041 := ⟨by decide +kernel, rfl⟩
theorem d0_1041 : De code 1041 (.invokestatic 79) 3 1044 := ⟨by decide +kernel, rfl⟩
theorem d0_1044 : De code 1044 (.ifCond .eq 133) 3 1047 := ⟨by decide +kernel, rfl⟩
theorem d0_1047 : De code 1047 (.aload 12) 2 1049 := ⟨by decide +kernel, rfl⟩
theorem d0_1049 : De code 1049 (.iload 20) 2 1051 := ⟨by decide +kernel, rfl⟩
theorem d0_1051 : De code 1051 (.iload 17) 2 1053 := ⟨by decide +kernel, rfl⟩
theorem d0_1053 : De code 1053 (.lload 15) 2 1055 := ⟨by decide +kernel, rfl⟩
theorem d0_1055 : De code 1055 (.aload 13) 2 1057 := ⟨by decide +kernel, rfl⟩
theorem d0_1057 : De code 1057 (.bipush 13) 2 1059 := ⟨by decide +kernel, rfl⟩
theorem d0_1059 : De code 1059 (.laload) 1 1060 := ⟨by decide +kernel, rfl⟩
theorem d0_1060 : De code 1060 (.bipush 13) 2 1062 := ⟨by decide +kernel, rfl⟩
theorem d0_1062 : De code 1062 (.invokestatic 79) 3 1065 := ⟨by decide +kernel, rfl⟩
theorem d0_1065 : De code 1065 (.ifCond .eq 112) 3 1068 := ⟨by decide +kernel, rfl⟩
theorem d0_1068 : De code 1068 (.aload 12) 2 1070 := ⟨by decide +kernel, rfl⟩
theorem d0_1070 : De code 1070 (.iload 20) 2 1072 := ⟨by decide +kernel, rfl⟩
theorem d0_1072 : De code 1072 (.iload 17) 2 1074 := ⟨by decide +kernel, rfl⟩
theorem d0_1074 : De code 1074 (.lload 15) 2 1076 := ⟨by decide +kernel, rfl⟩
theorem d0_1076 : De code 1076 (.aload 13) 2 1078 := ⟨by decide +kernel, rfl⟩
theorem d0_1078 : De code 1078 (.bipush 14) 2 1080 := ⟨by decide +kernel, rfl⟩
theorem d0_1080 : De code 1080 (.laload) 1 1081 := ⟨by decide +kernel, rfl⟩
theorem d0_1081 : De code 1081 (.bipush 14) 2 1083 := ⟨by decide +kernel, rfl⟩
theorem d0_1083 : De code 1083 (.invokestatic 79) 3 1086 := ⟨by decide +kernel, rfl⟩
theorem d0_1086 : De code 1086 (.ifCond .eq 91) 3 1089 := ⟨by decide +kernel, rfl⟩
theorem d0_1089 : De code 1089 (.aload 12) 2 1091 := ⟨by decide +kernel, rfl⟩
theorem d0_1091 : De code 1091 (.iload 20) 2 1093 := ⟨by decide +kernel, rfl⟩
theorem d0_1093 : De code 1093 (.iload 17) 2 1095 := ⟨by decide +kernel, rfl⟩
theorem d0_1095 : De code 1095 (.lload 15) 2 1097 := ⟨by decide +kernel, rfl⟩
theorem d0_1097 : De code 1097 (.aload 13) 2 1099 := ⟨by decide +kernel, rfl⟩
theorem d0_1099 : De code 1099 (.bipush 15) 2 1101 := ⟨by decide +kernel, rfl⟩
theorem d0_1101 : De code 1101 (.laload) 1 1102 := ⟨by decide +kernel, rfl⟩
theorem d0_1102 : De code 1102 (.bipush 15) 2 1104 := ⟨by decide +kernel, rfl⟩
theorem d0_1104 : De code 1104 (.invokestatic 79) 3 1107 := ⟨by decide +kernel, rfl⟩
theorem d0_1107 : De code 1107 (.ifCond .eq 70) 3 1110 := ⟨by decide +kernel, rfl⟩
theorem d0_1110 : De code 1110 (.aload 12) 2 1112 := ⟨by decide +kernel, rfl⟩
theorem d0_1112 : De code 1112 (.iload 20) 2 1114 := ⟨by decide +kernel, rfl⟩
theorem d0_1114 : De code 1114 (.iload 17) 2 1116 := ⟨by decide +kernel, rfl⟩
theorem d0_1116 : De code 1116 (.lload 15) 2 1118 := ⟨by decide +kernel, rfl⟩
theorem d0_1118 : De code 1118 (.aload 13) 2 1120 := ⟨by decide +kernel, rfl⟩
theorem d0_1120 : De code 1120 (.bipush 16) 2 1122 := ⟨by decide +kernel, rfl⟩
theorem d0_1122 : De code 1122 (.laload) 1 1123 := ⟨by decide +kernel, rfl⟩
theorem d0_1123 : De code 1123 (.bipush 16) 2 1125 := ⟨by decide +kernel, rfl⟩
theorem d0_1125 : De code 1125 (.invokestatic 79) 3 1128 := ⟨by decide +kernel, rfl⟩
theorem d0_1128 : De code 1128 (.ifCond .eq 49) 3 1131 := ⟨by decide +kernel, rfl⟩
theorem d0_1131 : De code 1131 (.aload 12) 2 1133 := ⟨by decide +kernel, rfl⟩
theorem d0_1133 : De code 1133 (.iload 20) 2 1135 := ⟨by decide +kernel, rfl⟩
theorem d0_1135 : De code 1135 (.iload 17) 2 1137 := ⟨by decide +kernel, rfl⟩
theorem d0_1137 : De code 1137 (.lload 15) 2 1139 := ⟨by decide +kernel, rfl⟩
theorem d0_1139 : De code 1139 (.aload 13) 2 1141 := ⟨by decide +kernel, rfl⟩
theorem d0_1141 : De code 1141 (.bipush 17) 2 1143 := ⟨by decide +kernel, rfl⟩
theorem d0_1143 : De code 1143 (.laload) 1 1144 := ⟨by decide +kernel, rfl⟩
theorem d0_1144 : De code 1144 (.bipush 17) 2 1146 := ⟨by decide +kernel, rfl⟩
theorem d0_1146 : De code 1146 (.invokestatic 79) 3 1149 := ⟨by decide +kernel, rfl⟩
theorem d0_1149 : De code 1149 (.ifCond .eq 28) 3 1152 := ⟨by decide +kernel, rfl⟩
theorem d0_1152 : De code 1152 (.aload 12) 2 1154 := ⟨by decide +kernel, rfl⟩
theorem d0_1154 : De code 1154 (.iload 20) 2 1156 := ⟨by decide +kernel, rfl⟩
theorem d0_1156 : De code 1156 (.iload 17) 2 1158 := ⟨by decide +kernel, rfl⟩
theorem d0_1158 : De code 1158 (.lload 15) 2 1160 := ⟨by decide +kernel, rfl⟩
theorem d0_1160 : De code 1160 (.aload 13) 2 1162 := ⟨by decide +kernel, rfl⟩
theorem d0_1162 : De code 1162 (.bipush 18) 2 1164 := ⟨by decide +kernel, rfl⟩
theorem d0_1164 : De code 1164 (.laload) 1 1165 := ⟨by decide +kernel, rfl⟩
theorem d0_1165 : De code 1165 (.bipush 18) 2 1167 := ⟨by decide +kernel, rfl⟩
theorem d0_1167 : De code 1167 (.invokestatic 79) 3 1170 := ⟨by decide +kernel, rfl⟩
theorem d0_1170 : De code 1170 (.ifCond .eq 7) 3 1173 := ⟨by decide +kernel, rfl⟩
theorem d0_1173 : De code 1173 (.iconst 1) 1 1174 := ⟨by decide +kernel, rfl⟩
theorem d0_1174 : De code 1174 (.goto 4) 3 1177 := ⟨by decide +kernel, rfl⟩
theorem d0_1178 : De code 1178 (.istore 23) 2 1180 := ⟨by decide +kernel, rfl⟩
theorem d0_1180 : De code 1180 (.iload 23) 2 1182 := ⟨by decide +kernel, rfl⟩
theorem d0_1182 : De code 1182 (.ireturn) 1 1183 := ⟨by decide +kernel, rfl⟩
theorem d1_0 : De jdk_42_method_3_code 0 (.aload_n 0) 1 1 := ⟨by decide +kernel, rfl⟩
theorem d1_1 : De jdk_42_method_3_code 1 (.aload_n 1) 1 2 := ⟨by decide +kernel, rfl⟩
theorem d1_2 : De jdk_42_method_3_code 2 (.iconst 0) 1 3 := ⟨by decide +kernel, rfl⟩
theorem d1_3 : De jdk_42_method_3_code 3 (.aload_n 1) 1 4 := ⟨by decide +kernel, rfl⟩
theorem d1_4 : De jdk_42_method_3_code 4 (.arraylength) 1 5 := ⟨by decide +kernel, rfl⟩
theorem d1_5 : De jdk_42_method_3_code 5 (.aconst_null) 1 6 := ⟨by decide +kernel, rfl⟩
theorem d1_6 : De jdk_42_method_3_code 6 (.invokespecial 27) 3 9 := ⟨by decide +kernel, rfl⟩
theorem d1_9 : De jdk_42_method_3_code 9 (.return_) 1 10 := ⟨by decide +kernel, rfl⟩
theorem d2_0 : De jdk_42_method_149_code 0 (.aload_n 0) 1 1 := ⟨by decide +kernel, rfl⟩
theorem d2_1 : De jdk_42_method_149_code 1 (.invokespecial 1) 3 4 := ⟨by decide +kernel, rfl⟩
theorem d2_4 : De jdk_42_method_149_code 4 (.iload_n 3) 1 5 := ⟨by decide +kernel, rfl⟩
theorem d2_5 : De jdk_42_method_149_code 5 (.ifCond .ne 22) 3 8 := ⟨by decide +kernel, rfl⟩
theorem d2_8 : De jdk_42_method_149_code 8 (.aload_n 0) 1 9 := ⟨by decide +kernel, rfl⟩
theorem d2_9 : De jdk_42_method_149_code 9 (.ldc 7) 2 11 := ⟨by decide +kernel, rfl⟩
theorem d2_11 : De jdk_42_method_149_code 11 (.getfield 9) 3 14 := ⟨by decide +kernel, rfl⟩
theorem d2_14 : De jdk_42_method_149_code 14 (.putfield 9) 3 17 := ⟨by decide +kernel, rfl⟩
theorem d2_17 : De jdk_42_method_149_code 17 (.aload_n 0) 1 18 := ⟨by decide +kernel, rfl⟩
theorem d2_18 : De jdk_42_method_149_code 18 (.ldc 7) 2 20 := ⟨by decide +kernel, rfl⟩
theorem d2_20 : De jdk_42_method_149_code 20 (.getfield 15) 3 23 := ⟨by decide +kernel, rfl⟩
theorem d2_23 : De jdk_42_method_149_code 23 (.putfield 15) 3 26 := ⟨by decide +kernel, rfl⟩
theorem d2_26 : De jdk_42_method_149_code 26 (.return_) 1 27 := ⟨by decide +kernel, rfl⟩
theorem d7_0 : De prog_55_method_1_code 0 (.aload_n 0) 1 1 := ⟨by decide +kernel, rfl⟩
theorem d7_1 : De prog_55_method_1_code 1 (.invokespecial 1) 3 4 := ⟨by decide +kernel, rfl⟩
theorem d7_4 : De prog_55_method_1_code 4 (.aload_n 0) 1 5 := ⟨by decide +kernel, rfl⟩
theorem d7_5 : De prog_55_method_1_code 5 (.aload_n 1) 1 6 := ⟨by decide +kernel, rfl⟩
theorem d7_6 : De prog_55_method_1_code 6 (.putfield 7) 3 9 := ⟨by decide +kernel, rfl⟩
theorem d7_9 : De prog_55_method_1_code 9 (.aload_n 0) 1 10 := ⟨by decide +kernel, rfl⟩
theorem d7_10 : De prog_55_method_1_code 10 (.aload_n 2) 1 11 := ⟨by decide +kernel, rfl⟩
theorem d7_11 : De prog_55_method_1_code 11 (.putfield 13) 3 14 := ⟨by decide +kernel, rfl⟩
theorem d7_14 : De prog_55_method_1_code 14 (.aload_n 0) 1 15 := ⟨by decide +kernel, rfl⟩
theorem d7_15 : De prog_55_method_1_code 15 (.lload_n 3) 1 16 := ⟨by decide +kernel, rfl⟩
theorem d7_16 : De prog_55_method_1_code 16 (.putfield 16) 3 19 := ⟨by decide +kernel, rfl⟩
theorem d7_19 : De prog_55_method_1_code 19 (.return_) 1 20 := ⟨by decide +kernel, rfl⟩
theorem d8_0 : De jdk_30_method_1_code 0 (.aload_n 0) 1 1 := ⟨by decide +kernel, rfl⟩
theorem d8_1 : De jdk_30_method_1_code 1 (.invokespecial 1) 3 4 := ⟨by decide +kernel, rfl⟩
theorem d8_4 : De jdk_30_method_1_code 4 (.return_) 1 5 := ⟨by decide +kernel, rfl⟩
theorem d9_0 : De prog_55_method_2_code 0 (.new 20) 3 3 := ⟨by decide +kernel, rfl⟩
theorem d9_3 : De prog_55_method_2_code 3 (.dup) 1 4 := ⟨by decide +kernel, rfl⟩
theorem d9_4 : De prog_55_method_2_code 4 (.invokespecial 22) 3 7 := ⟨by decide +kernel, rfl⟩
theorem d9_7 : De prog_55_method_2_code 7 (.ldc 23) 2 9 := ⟨by decide +kernel, rfl⟩
theorem d9_9 : De prog_55_method_2_code 9 (.invokevirtual 25) 3 12 := ⟨by decide +kernel, rfl⟩
theorem d9_12 : De prog_55_method_2_code 12 (.aload_n 0) 1 13 := ⟨by decide +kernel, rfl⟩
theorem d9_13 : De prog_55_method_2_code 13 (.getfield 13) 3 16 := ⟨by decide +kernel, rfl⟩
theorem d9_16 : De prog_55_method_2_code 16 (.invokevirtual 25) 3 19 := ⟨by decide +kernel, rfl⟩
theorem d9_19 : De prog_55_method_2_code 19 (.ldc 29) 2 21 := ⟨by decide +kernel, rfl⟩
theorem d9_21 : De prog_55_method_2_code 21 (.invokevirtual 25) 3 24 := ⟨by decide +kernel, rfl⟩
theorem d9_24 : De prog_55_method_2_code 24 (.aload_n 0) 1 25 := ⟨by decide +kernel, rfl⟩
theorem d9_25 : De prog_55_method_2_code 25 (.getfield 16) 3 28 := ⟨by decide +kernel, rfl⟩
theorem d9_28 : De prog_55_method_2_code 28 (.invokevirtual 31) 3 31 := ⟨by decide +kernel, rfl⟩
theorem d9_31 : De prog_55_method_2_code 31 (.ldc 34) 2 33 := ⟨by decide +kernel, rfl⟩
theorem d9_33 : De prog_55_method_2_code 33 (.invokevirtual 25) 3 36 := ⟨by decide +kernel, rfl⟩
theorem d9_36 : De prog_55_method_2_code 36 (.invokevirtual 36) 3 39 := ⟨by decide +kernel, rfl⟩
theorem d9_39 : De prog_55_method_2_code 39 (.areturn) 1 40 := ⟨by decide +kernel, rfl⟩
theorem d10_0 : De jdk_67_method_1_code 0 (.aload_n 0) 1 1 := ⟨by decide +kernel, rfl⟩
theorem d10_1 : De jdk_67_method_1_code 1 (.bipush 16) 2 3 := ⟨by decide +kernel, rfl⟩
theorem d10_3 : De jdk_67_method_1_code 3 (.invokespecial 1) 3 6 := ⟨by decide +kernel, rfl⟩
theorem d10_6 : De jdk_67_method_1_code 6 (.return_) 1 7 := ⟨by decide +kernel, rfl⟩
theorem d11_0 : De jdk_68_method_2_code 0 (.aload_n 0) 1 1 := ⟨by decide +kernel, rfl⟩
theorem d11_1 : De jdk_68_method_2_code 1 (.invokespecial 3) 3 4 := ⟨by decide +kernel, rfl⟩
theorem d11_4 : De jdk_68_method_2_code 4 (.getstatic 18) 3 7 := ⟨by decide +kernel, rfl⟩
theorem d11_7 : De jdk_68_method_2_code 7 (.ifCond .eq 18) 3 10 := ⟨by decide +kernel, rfl⟩
theorem d11_10 : De jdk_68_method_2_code 10 (.aload_n 0) 1 11 := ⟨by decide +kernel, rfl⟩
theorem d11_11 : De jdk_68_method_2_code 11 (.iload_n 1) 1 12 := ⟨by decide +kernel, rfl⟩
theorem d11_12 : De jdk_68_method_2_code 12 (.newarray .byte) 2 14 := ⟨by decide +kernel, rfl⟩
theorem d11_14 : De jdk_68_method_2_code 14 (.putfield 15) 3 17 := ⟨by decide +kernel, rfl⟩
theorem d11_17 : De jdk_68_method_2_code 17 (.aload_n 0) 1 18 := ⟨by decide +kernel, rfl⟩
theorem d11_18 : De jdk_68_method_2_code 18 (.iconst 0) 1 19 := ⟨by decide +kernel, rfl⟩
theorem d11_19 : De jdk_68_method_2_code 19 (.putfield 22) 3 22 := ⟨by decide +kernel, rfl⟩
theorem d11_22 : De jdk_68_method_2_code 22 (.goto 16) 3 25 := ⟨by decide +kernel, rfl⟩
theorem d11_38 : De jdk_68_method_2_code 38 (.return_) 1 39 := ⟨by decide +kernel, rfl⟩
theorem d12_0 : De jdk_67_method_7_code 0 (.aload_n 0) 1 1 := ⟨by decide +kernel, rfl⟩
theorem d12_1 : De jdk_67_method_7_code 1 (.aload_n 1) 1 2 := ⟨by decide +kernel, rfl⟩
theorem d12_2 : De jdk_67_method_7_code 2 (.invokespecial 29) 3 5 := ⟨by decide +kernel, rfl⟩
theorem d12_5 : De jdk_67_method_7_code 5 (.pop) 1 6 := ⟨by decide +kernel, rfl⟩
theorem d12_6 : De jdk_67_method_7_code 6 (.aload_n 0) 1 7 := ⟨by decide +kernel, rfl⟩
theorem d12_7 : De jdk_67_method_7_code 7 (.areturn) 1 8 := ⟨by decide +kernel, rfl⟩
theorem d13_0 : De jdk_68_method_22_code 0 (.aload_n 1) 1 1 := ⟨by decide +kernel, rfl⟩
theorem d13_1 : De jdk_68_method_22_code 1 (.ifnonnull 8) 3 4 := ⟨by decide +kernel, rfl⟩
theorem d13_9 : De jdk_68_method_22_code 9 (.aload_n 1) 1 10 := ⟨by decide +kernel, rfl⟩
theorem d13_10 : De jdk_68_method_22_code 10 (.invokevirtual 32) 3 13 := ⟨by decide +kernel, rfl⟩
theorem d13_13 : De jdk_68_method_22_code 13 (.istore_n 2) 1 14 := ⟨by decide +kernel, rfl⟩
theorem d13_14 : De jdk_68_method_22_code 14 (.aload_n 0) 1 15 := ⟨by decide +kernel, rfl⟩
theorem d13_15 : De jdk_68_method_22_code 15 (.aload_n 0) 1 16 := ⟨by decide +kernel, rfl⟩
theorem d13_16 : De jdk_68_method_22_code 16 (.getfield 79) 3 19 := ⟨by decide +kernel, rfl⟩
theorem d13_19 : De jdk_68_method_22_code 19 (.iload_n 2) 1 20 := ⟨by decide +kernel, rfl⟩
theorem d13_20 : De jdk_68_method_22_code 20 (.iadd) 1 21 := ⟨by decide +kernel, rfl⟩
theorem d13_21 : De jdk_68_method_22_code 21 (.invokevirtual 100) 3 24 := ⟨by decide +kernel, rfl⟩
theorem d13_24 : De jdk_68_method_22_code 24 (.aload_n 0) 1 25 := ⟨by decide +kernel, rfl⟩
theorem d13_25 : De jdk_68_method_22_code 25 (.aload_n 0) 1 26 := ⟨by decide +kernel, rfl⟩
theorem d13_26 : De jdk_68_method_22_code 26 (.getfield 79) 3 29 := ⟨by decide +kernel, rfl⟩
theorem d13_29 : De jdk_68_method_22_code 29 (.aload_n 1) 1 30 := ⟨by decide +kernel, rfl⟩
theorem d13_30 : De jdk_68_method_22_code 30 (.invokevirtual 208) 3 33 := ⟨by decide +kernel, rfl⟩
theorem d13_33 : De jdk_68_method_22_code 33 (.aload_n 0) 1 34 := ⟨by decide +kernel, rfl⟩
theorem d13_34 : De jdk_68_method_22_code 34 (.dup) 1 35 := ⟨by decide +kernel, rfl⟩
theorem d13_35 : De jdk_68_method_22_code 35 (.getfield 79) 3 38 := ⟨by decide +kernel, rfl⟩
theorem d13_38 : De jdk_68_method_22_code 38 (.iload_n 2) 1 39 := ⟨by decide +kernel, rfl⟩
theorem d13_39 : De jdk_68_method_22_code 39 (.iadd) 1 40 := ⟨by decide +kernel, rfl⟩
theorem d13_40 : De jdk_68_method_22_code 40 (.putfield 79) 3 43 := ⟨by decide +kernel, rfl⟩
theorem d13_43 : De jdk_68_method_22_code 43 (.aload_n 0) 1 44 := ⟨by decide +kernel, rfl⟩
theorem d13_44 : De jdk_68_method_22_code 44 (.areturn) 1 45 := ⟨by decide +kernel, rfl⟩
theorem d15_0 : De jdk_42_method_152_code 0 (.getstatic 38) 3 3 := ⟨by decide +kernel, rfl⟩
theorem d15_3 : De jdk_42_method_152_code 3 (.ifCond .eq 10) 3 6 := ⟨by decide +kernel, rfl⟩
theorem d15_6 : De jdk_42_method_152_code 6 (.aload_n 0) 1 7 := ⟨by decide +kernel, rfl⟩
theorem d15_7 : De jdk_42_method_152_code 7 (.getfield 15) 3 10 := ⟨by decide +kernel, rfl⟩
theorem d15_10 : De jdk_42_method_152_code 10 (.goto 4) 3 13 := ⟨by decide +kernel, rfl⟩
theorem d15_14 : De jdk_42_method_152_code 14 (.ireturn) 1 15 := ⟨by decide +kernel, rfl⟩
theorem d16_0 : De jdk_68_method_9_code 0 (.aload_n 0) 1 1 := ⟨by decide +kernel, rfl⟩
theorem d16_1 : De jdk_68_method_9_code 1 (.getfield 15) 3 4 := ⟨by decide +kernel, rfl⟩
theorem d16_4 : De jdk_68_method_9_code 4 (.arraylength) 1 5 := ⟨by decide +kernel, rfl⟩
theorem d16_5 : De jdk_68_method_9_code 5 (.aload_n 0) 1 6 := ⟨by decide +kernel, rfl⟩
theorem d16_6 : De jdk_68_method_9_code 6 (.getfield 22) 3 9 := ⟨by decide +kernel, rfl⟩
theorem d16_9 : De jdk_68_method_9_code 9 (.ishr) 1 10 := ⟨by decide +kernel, rfl⟩
theorem d16_10 : De jdk_68_method_9_code 10 (.istore_n 2) 1 11 := ⟨by decide +kernel, rfl⟩
theorem d16_11 : De jdk_68_method_9_code 11 (.iload_n 1) 1 12 := ⟨by decide +kernel, rfl⟩
theorem d16_12 : De jdk_68_method_9_code 12 (.iload_n 2) 1 13 := ⟨by decide +kernel, rfl⟩
theorem d16_13 : De jdk_68_method_9_code 13 (.isub) 1 14 := ⟨by decide +kernel, rfl⟩
theorem d16_14 : De jdk_68_method_9_code 14 (.ifCond .le 24) 3 17 := ⟨by decide +kernel, rfl⟩
theorem d16_17 : De jdk_68_method_9_code 17 (.aload_n 0) 1 18 := ⟨by decide +kernel, rfl⟩
theorem d16_18 : De jdk_68_method_9_code 18 (.aload_n 0) 1 19 := ⟨by decide +kernel, rfl⟩
theorem d16_19 : De jdk_68_method_9_code 19 (.getfield 15) 3 22 := ⟨by decide +kernel, rfl⟩
theorem d16_22 : De jdk_68_method_9_code 22 (.aload_n 0) 1 23 := ⟨by decide +kernel, rfl⟩
theorem d16_23 : De jdk_68_method_9_code 23 (.iload_n 1) 1 24 := ⟨by decide +kernel, rfl⟩
theorem d16_24 : De jdk_68_method_9_code 24 (.invokevirtual 104) 3 27 := ⟨by decide +kernel, rfl⟩
theorem d16_27 : De jdk_68_method_9_code 27 (.aload_n 0) 1 28 := ⟨by decide +kernel, rfl⟩
theorem d16_28 : De jdk_68_method_9_code 28 (.getfield 22) 3 31 := ⟨by decide +kernel, rfl⟩
theorem d16_31 : De jdk_68_method_9_code 31 (.ishl) 1 32 := ⟨by decide +kernel, rfl⟩
theorem d16_32 : De jdk_68_method_9_code 32 (.invokestatic 108) 3 35 := ⟨by decide +kernel, rfl⟩
theorem d16_35 : De jdk_68_method_9_code 35 (.putfield 15) 3 38 := ⟨by decide +kernel, rfl⟩
theorem d16_38 : De jdk_68_method_9_code 38 (.return_) 1 39 := ⟨by decide +kernel, rfl⟩
theorem d17_0 : De jdk_68_method_73_code 0 (.aload_n 0) 1 1 := ⟨by decide +kernel, rfl⟩
theorem d17_1 : De jdk_68_method_73_code 1 (.aload_n 2) 1 2 := ⟨by decide +kernel, rfl⟩
theorem d17_2 : De jdk_68_method_73_code 2 (.invokevirtual 397) 3 5 := ⟨by decide +kernel, rfl⟩
theorem d17_5 : De jdk_68_method_73_code 5 (.aload_n 2) 1 6 := ⟨by decide +kernel, rfl⟩
theorem d17_6 : De jdk_68_method_73_code 6 (.aload_n 0) 1 7 := ⟨by decide +kernel, rfl⟩
theorem d17_7 : De jdk_68_method_73_code 7 (.getfield 15) 3 10 := ⟨by decide +kernel, rfl⟩
theorem d17_10 : De jdk_68_method_73_code 10 (.iload_n 1) 1 11 := ⟨by decide +kernel, rfl⟩
theorem d17_11 : De jdk_68_method_73_code 11 (.aload_n 0) 1 12 := ⟨by decide +kernel, rfl⟩
theorem d17_12 : De jdk_68_method_73_code 12 (.getfield 22) 3 15 := ⟨by decide +kernel, rfl⟩
theorem d17_15 : De jdk_68_method_73_code 15 (.invokevirtual 399) 3 18 := ⟨by decide +kernel, rfl⟩
theorem d17_18 : De jdk_68_method_73_code 18 (.return_) 1 19 := ⟨by decide +kernel, rfl⟩
theorem d18_0 : De jdk_68_method_71_code 0 (.getstatic 18) 3 3 := ⟨by decide +kernel, rfl⟩
theorem d18_3 : De jdk_68_method_71_code 3 (.ifCond .eq 18) 3 6 := ⟨by decide +kernel, rfl⟩
theorem d18_6 : De jdk_68_method_71_code 6 (.aload_n 0) 1 7 := ⟨by decide +kernel, rfl⟩
theorem d18_7 : De jdk_68_method_71_code 7 (.getfield 22) 3 10 := ⟨by decide +kernel, rfl⟩
theorem d18_10 : De jdk_68_method_71_code 10 (.aload_n 1) 1 11 := ⟨by decide +kernel, rfl⟩
theorem d18_11 : De jdk_68_method_71_code 11 (.invokevirtual 40) 3 14 := ⟨by decide +kernel, rfl⟩
theorem d18_14 : De jdk_68_method_71_code 14 (.if_icmp .eq 7) 3 17 := ⟨by decide +kernel, rfl⟩
theorem d18_21 : De jdk_68_method_71_code 21 (.return_) 1 22 := ⟨by decide +kernel, rfl⟩
theorem d19_0 : De jdk_42_method_147_code 0 (.aload_n 0) 1 1 := ⟨by decide +kernel, rfl⟩
theorem d19_1 : De jdk_42_method_147_code 1 (.invokevirtual 335) 3 4 := ⟨by decide +kernel, rfl⟩
theorem d19_4 : De jdk_42_method_147_code 4 (.iload_n 3) 1 5 := ⟨by decide +kernel, rfl⟩
theorem d19_5 : De jdk_42_method_147_code 5 (.if_icmp .ne 23) 3 8 := ⟨by decide +kernel, rfl⟩
theorem d19_8 : De jdk_42_method_147_code 8 (.aload_n 0) 1 9 := ⟨by decide +kernel, rfl⟩
theorem d19_9 : De jdk_42_method_147_code 9 (.getfield 9) 3 12 := ⟨by decide +kernel, rfl⟩
theorem d19_12 : De jdk_42_method_147_code 12 (.iconst 0) 1 13 := ⟨by decide +kernel, rfl⟩
theorem d19_13 : De jdk_42_method_147_code 13 (.aload_n 1) 1 14 := ⟨by decide +kernel, rfl⟩
theorem d19_14 : De jdk_42_method_147_code 14 (.iload_n 2) 1 15 := ⟨by decide +kernel, rfl⟩
theorem d19_15 : De jdk_42_method_147_code 15 (.iload_n 3) 1 16 := ⟨by decide +kernel, rfl⟩
theorem d19_16 : De jdk_42_method_147_code 16 (.ishl) 1 17 := ⟨by decide +kernel, rfl⟩
theorem d19_17 : De jdk_42_method_147_code 17 (.aload_n 0) 1 18 := ⟨by decide +kernel, rfl⟩
theorem d19_18 : De jdk_42_method_147_code 18 (.getfield 9) 3 21 := ⟨by decide +kernel, rfl⟩
theorem d19_21 : De jdk_42_method_147_code 21 (.arraylength) 1 22 := ⟨by decide +kernel, rfl⟩
theorem d19_22 : De jdk_42_method_147_code 22 (.invokestatic 212) 3 25 := ⟨by decide +kernel, rfl⟩
theorem d19_25 : De jdk_42_method_147_code 25 (.goto 18) 3 28 := ⟨by decide +kernel, rfl⟩
theorem d19_43 : De jdk_42_method_147_code 43 (.return_) 1 44 := ⟨by decide +kernel, rfl⟩
theorem d20_0 : De jdk_68_method_10_code 0 (.aload_n 0) 1 1 := ⟨by decide +kernel, rfl⟩
theorem d20_1 : De jdk_68_method_10_code 1 (.getfield 15) 3 4 := ⟨by decide +kernel, rfl⟩
theorem d20_4 : De jdk_68_method_10_code 4 (.arraylength) 1 5 := ⟨by decide +kernel, rfl⟩
theorem d20_5 : De jdk_68_method_10_code 5 (.istore_n 2) 1 6 := ⟨by decide +kernel, rfl⟩
theorem d20_6 : De jdk_68_method_10_code 6 (.iload_n 1) 1 7 := ⟨by decide +kernel, rfl⟩
theorem d20_7 : De jdk_68_method_10_code 7 (.aload_n 0) 1 8 := ⟨by decide +kernel, rfl⟩
theorem d20_8 : De jdk_68_method_10_code 8 (.getfield 22) 3 11 := ⟨by decide +kernel, rfl⟩
theorem d20_11 : De jdk_68_method_10_code 11 (.ishl) 1 12 := ⟨by decide +kernel, rfl⟩
theorem d20_12 : De jdk_68_method_10_code 12 (.istore_n 3) 1 13 := ⟨by decide +kernel, rfl⟩
theorem d20_13 : De jdk_68_method_10_code 13 (.iload_n 3) 1 14 := ⟨by decide +kernel, rfl⟩
theorem d20_14 : De jdk_68_method_10_code 14 (.iload_n 2) 1 15 := ⟨by decide +kernel, rfl⟩
theorem d20_15 : De jdk_68_method_10_code 15 (.isub) 1 16 := ⟨by decide +kernel, rfl⟩
theorem d20_16 : De jdk_68_method_10_code 16 (.istore 4) 2 18 := ⟨by decide +kernel, rfl⟩
theorem d20_18 : De jdk_68_method_10_code 18 (.iload_n 2) 1 19 := ⟨by decide +kernel, rfl⟩
theorem d20_19 : De jdk_68_method_10_code 19 (.iload 4) 2 21 := ⟨by decide +kernel, rfl⟩
theorem d20_21 : De jdk_68_method_10_code 21 (.iload_n 2) 1 22 := ⟨by decide +kernel, rfl⟩
theorem d20_22 : De jdk_68_method_10_code 22 (.iconst 2) 1 23 := ⟨by decide +kernel, rfl⟩
theorem d20_23 : De jdk_68_method_10_code 23 (.aload_n 0) 1 24 := ⟨by decide +kernel, rfl⟩
theorem d20_24 : De jdk_68_method_10_code 24 (.getfield 22) 3 27 := ⟨by decide +kernel, rfl⟩
theorem d20_27 : De jdk_68_method_10_code 27 (.ishl) 1 28 := ⟨by decide +kernel, rfl⟩
theorem d20_28 : De jdk_68_method_10_code 28 (.iadd) 1 29 := ⟨by decide +kernel, rfl⟩
theorem d20_29 : De jdk_68_method_10_code 29 (.invokestatic 114) 3 32 := ⟨by decide +kernel, rfl⟩
theorem d20_32 : De jdk_68_method_10_code 32 (.istore 5) 2 34 := ⟨by decide +kernel, rfl⟩
theorem d20_34 : De jdk_68_method_10_code 34 (.iload 5) 2 36 := ⟨by decide +kernel, rfl⟩
theorem d20_36 : De jdk_68_method_10_code 36 (.ldc 39) 2 38 := ⟨by decide +kernel, rfl⟩
theorem d20_38 : De jdk_68_method_10_code 38 (.if_icmp .ne 13) 3 41 := ⟨by decide +kernel, rfl⟩
theorem d20_51 : De jdk_68_method_10_code 51 (.iload 5) 2 53 := ⟨by decide +kernel, rfl⟩
theorem d20_53 : De jdk_68_method_10_code 53 (.aload_n 0) 1 54 := ⟨by decide +kernel, rfl⟩
theorem d20_54 : De jdk_68_method_10_code 54 (.getfield 22) 3 57 := ⟨by decide +kernel, rfl⟩
theorem d20_57 : De jdk_68_method_10_code 57 (.ishr) 1 58 := ⟨by decide +kernel, rfl⟩
theorem d20_58 : De jdk_68_method_10_code 58 (.ireturn) 1 59 := ⟨by decide +kernel, rfl⟩
theorem d21_0 : De jdk_48_method_27_code 0 (.iload_n 0) 1 1 := ⟨by decide +kernel, rfl⟩
theorem d21_1 : De jdk_48_method_27_code 1 (.iload_n 1) 1 2 := ⟨by decide +kernel, rfl⟩
theorem d21_2 : De jdk_48_method_27_code 2 (.iload_n 2) 1 3 := ⟨by decide +kernel, rfl⟩
theorem d21_3 : De jdk_48_method_27_code 3 (.invokestatic 194) 3 6 := ⟨by decide +kernel, rfl⟩
theorem d21_6 : De jdk_48_method_27_code 6 (.iadd) 1 7 := ⟨by decide +kernel, rfl⟩
theorem d21_7 : De jdk_48_method_27_code 7 (.istore_n 3) 1 8 := ⟨by decide +kernel, rfl⟩
theorem d21_8 : De jdk_48_method_27_code 8 (.iconst 0) 1 9 := ⟨by decide +kernel, rfl⟩
theorem d21_9 : De jdk_48_method_27_code 9 (.iload_n 3) 1 10 := ⟨by decide +kernel, rfl⟩
theorem d21_10 : De jdk_48_method_27_code 10 (.if_icmp .ge 11) 3 13 := ⟨by decide +kernel, rfl⟩
theorem d21_13 : De jdk_48_method_27_code 13 (.iload_n 3) 1 14 := ⟨by decide +kernel, rfl⟩
theorem d21_14 : De jdk_48_method_27_code 14 (.ldc 200) 2 16 := ⟨by decide +kernel, rfl⟩
theorem d21_16 : De jdk_48_method_27_code 16 (.if_icmp .gt 5) 3 19 := ⟨by decide +kernel, rfl⟩
theorem d21_19 : De jdk_48_method_27_code 19 (.iload_n 3) 1 20 := ⟨by decide +kernel, rfl⟩
theorem d21_20 : De jdk_48_method_27_code 20 (.ireturn) 1 21 := ⟨by decide +kernel, rfl⟩
theorem d22_0 : De jdk_29_method_65_code 0 (.iload_n 0) 1 1 := ⟨by decide +kernel, rfl⟩
theorem d22_1 : De jdk_29_method_65_code 1 (.iload_n 1) 1 2 := ⟨by decide +kernel, rfl⟩
theorem d22_2 : De jdk_29_method_65_code 2 (.if_icmp .lt 7) 3 5 := ⟨by decide +kernel, rfl⟩
theorem d22_5 : De jdk_29_method_65_code 5 (.iload_n 0) 1 6 := ⟨by decide +kernel, rfl⟩
theorem d22_6 : De jdk_29_method_65_code 6 (.goto 4) 3 9 := ⟨by decide +kernel, rfl⟩
theorem d22_9 : De jdk_29_method_65_code 9 (.iload_n 1) 1 10 := ⟨by decide +kernel, rfl⟩
theorem d22_10 : De jdk_29_method_65_code 10 (.ireturn) 1 11 := ⟨by decide +kernel, rfl⟩
theorem d23_0 : De jdk_65_method_121_code 0 (.iload_n 1) 1 1 := ⟨by decide +kernel, rfl⟩
theorem d23_1 : De jdk_65_method_121_code 1 (.aload_n 0) 1 2 := ⟨by decide +kernel, rfl⟩
theorem d23_2 : De jdk_65_method_121_code 2 (.arraylength) 1 3 := ⟨by decide +kernel, rfl⟩
theorem d23_3 : De jdk_65_method_121_code 3 (.if_icmp .ne 11) 3 6 := ⟨by decide +kernel, rfl⟩
theorem d23_14 : De jdk_65_method_121_code 14 (.iload_n 1) 1 15 := ⟨by decide +kernel, rfl⟩
theorem d23_15 : De jdk_65_method_121_code 15 (.newarray .byte) 2 17 := ⟨by decide +kernel, rfl⟩
theorem d23_17 : De jdk_65_method_121_code 17 (.astore_n 2) 1 18 := ⟨by decide +kernel, rfl⟩
theorem d23_18 : De jdk_65_method_121_code 18 (.aload_n 0) 1 19 := ⟨by decide +kernel, rfl⟩
theorem d23_19 : De jdk_65_method_121_code 19 (.iconst 0) 1 20 := ⟨by decide +kernel, rfl⟩
theorem d23_20 : De jdk_65_method_121_code 20 (.aload_n 2) 1 21 := ⟨by decide +kernel, rfl⟩
theorem d23_21 : De jdk_65_method_121_code 21 (.iconst 0) 1 22 := ⟨by decide +kernel, rfl⟩
theorem d23_22 : De jdk_65_method_121_code 22 (.aload_n 0) 1 23 := ⟨by decide +kernel, rfl⟩
theorem d23_23 : De jdk_65_method_121_code 23 (.arraylength) 1 24 := ⟨by decide +kernel, rfl⟩
theorem d23_24 : De jdk_65_method_121_code 24 (.iload_n 1) 1 25 := ⟨by decide +kernel, rfl⟩
theorem d23_25 : De jdk_65_method_121_code 25 (.invokestatic 304) 3 28 := ⟨by decide +kernel, rfl⟩
theorem d23_28 : De jdk_65_method_121_code 28 (.invokestatic 150) 3 31 := ⟨by decide +kernel, rfl⟩
theorem d23_31 : De jdk_65_method_121_code 31 (.aload_n 2) 1 32 := ⟨by decide +kernel, rfl⟩
theorem d23_32 : De jdk_65_method_121_code 32 (.areturn) 1 33 := ⟨by decide +kernel, rfl⟩
theorem d24_0 : De jdk_29_method_69_code 0 (.iload_n 0) 1 1 := ⟨by decide +kernel, rfl⟩
theorem d24_1 : De jdk_29_method_69_code 1 (.iload_n 1) 1 2 := ⟨by decide +kernel, rfl⟩
theorem d24_2 : De jdk_29_method_69_code 2 (.if_icmp .gt 7) 3 5 := ⟨by decide +kernel, rfl⟩
theorem d24_5 : De jdk_29_method_69_code 5 (.iload_n 0) 1 6 := ⟨by decide +kernel, rfl⟩
theorem d24_6 : De jdk_29_method_69_code 6 (.goto 4) 3 9 := ⟨by decide +kernel, rfl⟩
theorem d24_9 : De jdk_29_method_69_code 9 (.iload_n 1) 1 10 := ⟨by decide +kernel, rfl⟩
theorem d24_10 : De jdk_29_method_69_code 10 (.ireturn) 1 11 := ⟨by decide +kernel, rfl⟩
theorem d25_0 : De jdk_67_method_16_code 0 (.aload_n 0) 1 1 := ⟨by decide +kernel, rfl⟩
theorem d25_1 : De jdk_67_method_16_code 1 (.lload_n 1) 1 2 := ⟨by decide +kernel, rfl⟩
theorem d25_2 : De jdk_67_method_16_code 2 (.invokespecial 56) 3 5 := ⟨by decide +kernel, rfl⟩
theorem d25_5 : De jdk_67_method_16_code 5 (.pop) 1 6 := ⟨by decide +kernel, rfl⟩
theorem d25_6 : De jdk_67_method_16_code 6 (.aload_n 0) 1 7 := ⟨by decide +kernel, rfl⟩
theorem d25_7 : De jdk_67_method_16_code 7 (.areturn) 1 8 := ⟨by decide +kernel, rfl⟩
theorem d26_0 : De jdk_68_method_33_code 0 (.aload_n 0) 1 1 := ⟨by decide +kernel, rfl⟩
theorem d26_1 : De jdk_68_method_33_code 1 (.getfield 79) 3 4 := ⟨by decide +kernel, rfl⟩
theorem d26_4 : De jdk_68_method_33_code 4 (.istore_n 3) 1 5 := ⟨by decide +kernel, rfl⟩
theorem d26_5 : De jdk_68_method_33_code 5 (.iload_n 3) 1 6 := ⟨by decide +kernel, rfl⟩
theorem d26_6 : De jdk_68_method_33_code 6 (.lload_n 1) 1 7 := ⟨by decide +kernel, rfl⟩
theorem d26_7 : De jdk_68_method_33_code 7 (.invokestatic 254) 3 10 := ⟨by decide +kernel, rfl⟩
theorem d26_10 : De jdk_68_method_33_code 10 (.iadd) 1 11 := ⟨by decide +kernel, rfl⟩
theorem d26_11 : De jdk_68_method_33_code 11 (.istore 4) 2 13 := ⟨by decide +kernel, rfl⟩
theorem d26_13 : De jdk_68_method_33_code 13 (.aload_n 0) 1 14 := ⟨by decide +kernel, rfl⟩
theorem d26_14 : De jdk_68_method_33_code 14 (.iload 4) 2 16 := ⟨by decide +kernel, rfl⟩
theorem d26_16 : De jdk_68_method_33_code 16 (.invokevirtual 100) 3 19 := ⟨by decide +kernel, rfl⟩
theorem d26_19 : De jdk_68_method_33_code 19 (.aload_n 0) 1 20 := ⟨by decide +kernel, rfl⟩
theorem d26_20 : De jdk_68_method_33_code 20 (.invokevirtual 83) 3 23 := ⟨by decide +kernel, rfl⟩
theorem d26_23 : De jdk_68_method_33_code 23 (.ifCond .eq 17) 3 26 := ⟨by decide +kernel, rfl⟩
theorem d26_26 : De jdk_68_method_33_code 26 (.lload_n 1) 1 27 := ⟨by decide +kernel, rfl⟩
theorem d26_27 : De jdk_68_method_33_code 27 (.iload 4) 2 29 := ⟨by decide +kernel, rfl⟩
theorem d26_29 : De jdk_68_method_33_code 29 (.aload_n 0) 1 30 := ⟨by decide +kernel, rfl⟩
theorem d26_30 : De jdk_68_method_33_code 30 (.getfield 15) 3 33 := ⟨by decide +kernel, rfl⟩
theorem d26_33 : De jdk_68_method_33_code 33 (.invokestatic 259) 3 36 := ⟨by decide +kernel, rfl⟩
theorem d26_36 : De jdk_68_method_33_code 36 (.pop) 1 37 := ⟨by decide +kernel, rfl⟩
theorem d26_37 : De jdk_68_method_33_code 37 (.goto 15) 3 40 := ⟨by decide +kernel, rfl⟩
theorem d26_52 : De jdk_68_method_33_code 52 (.aload_n 0) 1 53 := ⟨by decide +kernel, rfl⟩
theorem d26_53 : De jdk_68_method_33_code 53 (.iload 4) 2 55 := ⟨by decide +kernel, rfl⟩
theorem d26_55 : De jdk_68_method_33_code 55 (.putfield 79) 3 58 := ⟨by decide +kernel, rfl⟩
theorem d26_58 : De jdk_68_method_33_code 58 (.aload_n 0) 1 59 := ⟨by decide +kernel, rfl⟩
theorem d26_59 : De jdk_68_method_33_code 59 (.areturn) 1 60 := ⟨by decide +kernel, rfl⟩
theorem d28_0 : De jdk_68_method_68_code 0 (.getstatic 18) 3 3 := ⟨by decide +kernel, rfl⟩
theorem d28_3 : De jdk_68_method_68_code 3 (.ifCond .eq 14) 3 6 := ⟨by decide +kernel, rfl⟩
theorem d28_6 : De jdk_68_method_68_code 6 (.aload_n 0) 1 7 := ⟨by decide +kernel, rfl⟩
theorem d28_7 : De jdk_68_method_68_code 7 (.getfield 22) 3 10 := ⟨by decide +kernel, rfl⟩
theorem d28_10 : De jdk_68_method_68_code 10 (.ifCond .ne 7) 3 13 := ⟨by decide +kernel, rfl⟩
theorem d28_13 : De jdk_68_method_68_code 13 (.iconst 1) 1 14 := ⟨by decide +kernel, rfl⟩
theorem d28_14 : De jdk_68_method_68_code 14 (.goto 4) 3 17 := ⟨by decide +kernel, rfl⟩
theorem d28_18 : De jdk_68_method_68_code 18 (.ireturn) 1 19 := ⟨by decide +kernel, rfl⟩
theorem d30_0 : De jdk_67_method_42_code 0 (.new 18) 3 3 := ⟨by decide +kernel, rfl⟩
theorem d30_3 : De jdk_67_method_42_code 3 (.dup) 1 4 := ⟨by decide +kernel, rfl⟩
theorem d30_4 : De jdk_67_method_42_code 4 (.aload_n 0) 1 5 := ⟨by decide +kernel, rfl⟩
theorem d30_5 : De jdk_67_method_42_code 5 (.invokespecial 137) 3 8 := ⟨by decide +kernel, rfl⟩
theorem d30_8 : De jdk_67_method_42_code 8 (.areturn) 1 9 := ⟨by decide +kernel, rfl⟩
theorem d31_0 : De jdk_42_method_53_code 0 (.aload_n 0) 1 1 := ⟨by decide +kernel, rfl⟩
theorem d31_1 : De jdk_42_method_53_code 1 (.aload_n 1) 1 2 := ⟨by decide +kernel, rfl⟩
theorem d31_2 : De jdk_42_method_53_code 2 (.aconst_null) 1 3 := ⟨by decide +kernel, rfl⟩
theorem d31_3 : De jdk_42_method_53_code 3 (.invokespecial 489) 3 6 := ⟨by decide +kernel, rfl⟩
theorem d31_6 : De jdk_42_method_53_code 6 (.return_) 1 7 := ⟨by decide +kernel, rfl⟩
theorem d32_0 : De jdk_42_method_150_code 0 (.aload_n 0) 1 1 := ⟨by decide +kernel, rfl⟩
theorem d32_1 : De jdk_42_method_150_code 1 (.invokespecial 1) 3 4 := ⟨by decide +kernel, rfl⟩
theorem d32_4 : De jdk_42_method_150_code 4 (.aload_n 1) 1 5 := ⟨by decide +kernel, rfl⟩
theorem d32_5 : De jdk_42_method_150_code 5 (.invokevirtual 552) 3 8 := ⟨by decide +kernel, rfl⟩
theorem d32_8 : De jdk_42_method_150_code 8 (.astore_n 3) 1 9 := ⟨by decide +kernel, rfl⟩
theorem d32_9 : De jdk_42_method_150_code 9 (.aload_n 1) 1 10 := ⟨by decide +kernel, rfl⟩
theorem d32_10 : De jdk_42_method_150_code 10 (.invokevirtual 549) 3 13 := ⟨by decide +kernel, rfl⟩
theorem d32_13 : De jdk_42_method_150_code 13 (.istore 4) 2 15 := ⟨by decide +kernel, rfl⟩
theorem d32_15 : De jdk_42_method_150_code 15 (.aload_n 1) 1 16 := ⟨by decide +kernel, rfl⟩
theorem d32_16 : De jdk_42_method_150_code 16 (.invokevirtual 1047) 3 19 := ⟨by decide +kernel, rfl⟩
theorem d32_19 : De jdk_42_method_150_code 19 (.ifCond .eq 22) 3 22 := ⟨by decide +kernel, rfl⟩
theorem d32_22 : De jdk_42_method_150_code 22 (.aload_n 0) 1 23 := ⟨by decide +kernel, rfl⟩
theorem d32_23 : De jdk_42_method_150_code 23 (.iconst 0) 1 24 := ⟨by decide +kernel, rfl⟩
theorem d32_24 : De jdk_42_method_150_code 24 (.putfield 15) 3 27 := ⟨by decide +kernel, rfl⟩
theorem d32_27 : De jdk_42_method_150_code 27 (.aload_n 0) 1 28 := ⟨by decide +kernel, rfl⟩
theorem d32_28 : De jdk_42_method_150_code 28 (.aload_n 3) 1 29 := ⟨by decide +kernel, rfl⟩
theorem d32_29 : De jdk_42_method_150_code 29 (.iconst 0) 1 30 := ⟨by decide +kernel, rfl⟩
theorem d32_30 : De jdk_42_method_150_code 30 (.iload 4) 2 32 := ⟨by decide +kernel, rfl⟩
theorem d32_32 : De jdk_42_method_150_code 32 (.invokestatic 54) 3 35 := ⟨by decide +kernel, rfl⟩
theorem d32_35 : De jdk_42_method_150_code 35 (.putfield 9) 3 38 := ⟨by decide +kernel, rfl⟩
theorem d32_38 : De jdk_42_method_150_code 38 (.goto 59) 3 41 := ⟨by decide +kernel, rfl⟩
theorem d32_97 : De jdk_42_method_150_code 97 (.return_) 1 98 := ⟨by decide +kernel, rfl⟩
theorem d33_0 : De jdk_68_method_64_code 0 (.aload_n 0) 1 1 := ⟨by decide +kernel, rfl⟩
theorem d33_1 : De jdk_68_method_64_code 1 (.getfield 15) 3 4 := ⟨by decide +kernel, rfl⟩
theorem d33_4 : De jdk_68_method_64_code 4 (.areturn) 1 5 := ⟨by decide +kernel, rfl⟩
theorem d34_0 : De jdk_67_method_93_code 0 (.aload_n 0) 1 1 := ⟨by decide +kernel, rfl⟩
theorem d34_1 : De jdk_67_method_93_code 1 (.invokespecial 343) 3 4 := ⟨by decide +kernel, rfl⟩
theorem d34_4 : De jdk_67_method_93_code 4 (.ireturn) 1 5 := ⟨by decide +kernel, rfl⟩
theorem d35_0 : De jdk_68_method_6_code 0 (.aload_n 0) 1 1 := ⟨by decide +kernel, rfl⟩
theorem d35_1 : De jdk_68_method_6_code 1 (.getfield 79) 3 4 := ⟨by decide +kernel, rfl⟩
theorem d35_4 : De jdk_68_method_6_code 4 (.ireturn) 1 5 := ⟨by decide +kernel, rfl⟩
theorem d36_0 : De jdk_65_method_132_code 0 (.iload_n 1) 1 1 := ⟨by decide +kernel, rfl⟩
theorem d36_1 : De jdk_65_method_132_code 1 (.ifCond .ne 9) 3 4 := ⟨by decide +kernel, rfl⟩
theorem d36_4 : De jdk_65_method_132_code 4 (.iload_n 2) 1 5 := ⟨by decide +kernel, rfl⟩
theorem d36_5 : De jdk_65_method_132_code 5 (.aload_n 0) 1 6 := ⟨by decide +kernel, rfl⟩
theorem d36_6 : De jdk_65_method_132_code 6 (.arraylength) 1 7 := ⟨by decide +kernel, rfl⟩
theorem d36_7 : De jdk_65_method_132_code 7 (.if_icmp .eq 10) 3 10 := ⟨by decide +kernel, rfl⟩
theorem d36_10 : De jdk_65_method_132_code 10 (.aload_n 0) 1 11 := ⟨by decide +kernel, rfl⟩
theorem d36_11 : De jdk_65_method_132_code 11 (.iload_n 1) 1 12 := ⟨by decide +kernel, rfl⟩
theorem d36_12 : De jdk_65_method_132_code 12 (.iload_n 2) 1 13 := ⟨by decide +kernel, rfl⟩
theorem d36_13 : De jdk_65_method_132_code 13 (.invokestatic 339) 3 16 := ⟨by decide +kernel, rfl⟩
theorem d36_16 : De jdk_65_method_132_code 16 (.areturn) 1 17 := ⟨by decide +kernel, rfl⟩
theorem d36_17 : De jdk_65_method_132_code 17 (.aload_n 0) 1 18 := ⟨by decide +kernel, rfl⟩
theorem d36_18 : De jdk_65_method_132_code 18 (.invokevirtual 310) 3 21 := ⟨by decide +kernel, rfl⟩
theorem d36_21 : De jdk_65_method_132_code 21 (.checkcast 311) 3 24 := ⟨by decide +kernel, rfl⟩
theorem d36_24 : De jdk_65_method_132_code 24 (.areturn) 1 25 := ⟨by decide +kernel, rfl⟩
theorem d37_0 : De jdk_65_method_133_code 0 (.iload_n 1) 1 1 := ⟨by decide +kernel, rfl⟩
theorem d37_1 : De jdk_65_method_133_code 1 (.iload_n 2) 1 2 := ⟨by decide +kernel, rfl⟩
theorem d37_2 : De jdk_65_method_133_code 2 (.invokestatic 343) 3 5 := ⟨by decide +kernel, rfl⟩
theorem d37_5 : De jdk_65_method_133_code 5 (.iload_n 2) 1 6 := ⟨by decide +kernel, rfl⟩
theorem d37_6 : De jdk_65_method_133_code 6 (.iload_n 1) 1 7 := ⟨by decide +kernel, rfl⟩
theorem d37_7 : De jdk_65_method_133_code 7 (.isub) 1 8 := ⟨by decide +kernel, rfl⟩
theorem d37_8 : De jdk_65_method_133_code 8 (.istore_n 3) 1 9 := ⟨by decide +kernel, rfl⟩
theorem d37_9 : De jdk_65_method_133_code 9 (.iload_n 3) 1 10 := ⟨by decide +kernel, rfl⟩
theorem d37_10 : De jdk_65_method_133_code 10 (.newarray .byte) 2 12 := ⟨by decide +kernel, rfl⟩
theorem d37_12 : De jdk_65_method_133_code 12 (.astore 4) 2 14 := ⟨by decide +kernel, rfl⟩
theorem d37_14 : De jdk_65_method_133_code 14 (.aload_n 0) 1 15 := ⟨by decide +kernel, rfl⟩
theorem d37_15 : De jdk_65_method_133_code 15 (.iload_n 1) 1 16 := ⟨by decide +kernel, rfl⟩
theorem d37_16 : De jdk_65_method_133_code 16 (.aload 4) 2 18 := ⟨by decide +kernel, rfl⟩
theorem d37_18 : De jdk_65_method_133_code 18 (.iconst 0) 1 19 := ⟨by decide +kernel, rfl⟩
theorem d37_19 : De jdk_65_method_133_code 19 (.aload_n 0) 1 20 := ⟨by decide +kernel, rfl⟩
theorem d37_20 : De jdk_65_method_133_code 20 (.arraylength) 1 21 := ⟨by decide +kernel, rfl⟩
theorem d37_21 : De jdk_65_method_133_code 21 (.iload_n 1) 1 22 := ⟨by decide +kernel, rfl⟩
theorem d37_22 : De jdk_65_method_133_code 22 (.isub) 1 23 := ⟨by decide +kernel, rfl⟩
theorem d37_23 : De jdk_65_method_133_code 23 (.iload_n 3) 1 24 := ⟨by decide +kernel, rfl⟩
theorem d37_24 : De jdk_65_method_133_code 24 (.invokestatic 304) 3 27 := ⟨by decide +kernel, rfl⟩
theorem d37_27 : De jdk_65_method_133_code 27 (.invokestatic 150) 3 30 := ⟨by decide +kernel, rfl⟩
theorem d37_30 : De jdk_65_method_133_code 30 (.aload 4) 2 32 := ⟨by decide +kernel, rfl⟩
theorem d37_32 : De jdk_65_method_133_code 32 (.areturn) 1 33 := ⟨by decide +kernel, rfl⟩
theorem d38_0 : De jdk_65_method_131_code 0 (.iload_n 1) 1 1 := ⟨by decide +kernel, rfl⟩
theorem d38_1 : De jdk_65_method_131_code 1 (.iload_n 0) 1 2 := ⟨by decide +kernel, rfl⟩
theorem d38_2 : De jdk_65_method_131_code 2 (.if_icmp .ge 35) 3 5 := ⟨by decide +kernel, rfl⟩
theorem d38_37 : De jdk_65_method_131_code 37 (.return_) 1 38 := ⟨by decide +kernel, rfl⟩
theorem d39_0 : De method_3_code 0 (.lload_n 0) 1 1 := ⟨by decide +kernel, rfl⟩
theorem d39_1 : De method_3_code 1 (.lload_n 2) 1 2 := ⟨by decide +kernel, rfl⟩
theorem d39_2 : De method_3_code 2 (.lneg) 1 3 := ⟨by decide +kernel, rfl⟩
theorem d39_3 : De method_3_code 3 (.lcmp) 1 4 := ⟨by decide +kernel, rfl⟩
theorem d39_4 : De method_3_code 4 (.ifCond .gt 7) 3 7 := ⟨by decide +kernel, rfl⟩
theorem d39_7 : De method_3_code 7 (.iconst 1) 1 8 := ⟨by decide +kernel, rfl⟩
theorem d39_8 : De method_3_code 8 (.goto 4) 3 11 := ⟨by decide +kernel, rfl⟩
theorem d39_11 : De method_3_code 11 (.iconst 0) 1 12 := ⟨by decide +kernel, rfl⟩
theorem d39_12 : De method_3_code 12 (.ireturn) 1 13 := ⟨by decide +kernel, rfl⟩
theorem d40_0 : De method_5_code 0 (.aload_n 0) 1 1 := ⟨by decide +kernel, rfl⟩
theorem d40_1 : De method_5_code 1 (.iload_n 1) 1 2 := ⟨by decide +kernel, rfl⟩
theorem d40_2 : De method_5_code 2 (.aload_n 2) 1 3 := ⟨by decide +kernel, rfl⟩
theorem d40_3 : De method_5_code 3 (.iload_n 3) 1 4 := ⟨by decide +kernel, rfl⟩
theorem d40_4 : De method_5_code 4 (.invokestatic 83) 3 7 := ⟨by decide +kernel, rfl⟩
theorem d40_7 : De method_5_code 7 (.ifCond .eq 43) 3 10 := ⟨by decide +kernel, rfl⟩
theorem d40_10 : De method_5_code 10 (.aload_n 0) 1 11 := ⟨by decide +kernel, rfl⟩
theorem d40_11 : De method_5_code 11 (.iload_n 1) 1 12 := ⟨by decide +kernel, rfl⟩
theorem d40_12 : De method_5_code 12 (.aload_n 2) 1 13 := ⟨by decide +kernel, rfl⟩
theorem d40_13 : De method_5_code 13 (.iload_n 3) 1 14 := ⟨by decide +kernel, rfl⟩
theorem d40_14 : De method_5_code 14 (.iconst 1) 1 15 := ⟨by decide +kernel, rfl⟩
theorem d40_15 : De method_5_code 15 (.iadd) 1 16 := ⟨by decide +kernel, rfl⟩
theorem d40_16 : De method_5_code 16 (.invokestatic 83) 3 19 := ⟨by decide +kernel, rfl⟩
theorem d40_19 : De method_5_code 19 (.ifCond .eq 31) 3 22 := ⟨by decide +kernel, rfl⟩
theorem d40_22 : De method_5_code 22 (.aload_n 0) 1 23 := ⟨by decide +kernel, rfl⟩
theorem d40_23 : De method_5_code 23 (.iload_n 1) 1 24 := ⟨by decide +kernel, rfl⟩
theorem d40_24 : De method_5_code 24 (.aload_n 2) 1 25 := ⟨by decide +kernel, rfl⟩
theorem d40_25 : De method_5_code 25 (.iload_n 3) 1 26 := ⟨by decide +kernel, rfl⟩
theorem d40_26 : De method_5_code 26 (.iconst 2) 1 27 := ⟨by decide +kernel, rfl⟩
theorem d40_27 : De method_5_code 27 (.iadd) 1 28 := ⟨by decide +kernel, rfl⟩
theorem d40_28 : De method_5_code 28 (.invokestatic 83) 3 31 := ⟨by decide +kernel, rfl⟩
theorem d40_31 : De method_5_code 31 (.ifCond .eq 19) 3 34 := ⟨by decide +kernel, rfl⟩
theorem d40_34 : De method_5_code 34 (.aload_n 0) 1 35 := ⟨by decide +kernel, rfl⟩
theorem d40_35 : De method_5_code 35 (.iload_n 1) 1 36 := ⟨by decide +kernel, rfl⟩
theorem d40_36 : De method_5_code 36 (.aload_n 2) 1 37 := ⟨by decide +kernel, rfl⟩
theorem d40_37 : De method_5_code 37 (.iload_n 3) 1 38 := ⟨by decide +kernel, rfl⟩
theorem d40_38 : De method_5_code 38 (.iconst 3) 1 39 := ⟨by decide +kernel, rfl⟩
theorem d40_39 : De method_5_code 39 (.iadd) 1 40 := ⟨by decide +kernel, rfl⟩
theorem d40_40 : De method_5_code 40 (.invokestatic 83) 3 43 := ⟨by decide +kernel, rfl⟩
theorem d40_43 : De method_5_code 43 (.ifCond .eq 7) 3 46 := ⟨by decide +kernel, rfl⟩
theorem d40_46 : De method_5_code 46 (.iconst 1) 1 47 := ⟨by decide +kernel, rfl⟩
theorem d40_47 : De method_5_code 47 (.goto 4) 3 50 := ⟨by decide +kernel, rfl⟩
theorem d40_51 : De method_5_code 51 (.ireturn) 1 52 := ⟨by decide +kernel, rfl⟩
theorem d41_0 : De method_4_code 0 (.iload_n 3) 1 1 := ⟨by decide +kernel, rfl⟩
theorem d41_1 : De method_4_code 1 (.aload_n 2) 1 2 := ⟨by decide +kernel, rfl⟩
theorem d41_2 : De method_4_code 2 (.invokevirtual 63) 3 5 := ⟨by decide +kernel, rfl⟩
theorem d41_5 : De method_4_code 5 (.if_icmp .ge 18) 3 8 := ⟨by decide +kernel, rfl⟩
theorem d41_8 : De method_4_code 8 (.aload_n 0) 1 9 := ⟨by decide +kernel, rfl⟩
theorem d41_9 : De method_4_code 9 (.iload_n 1) 1 10 := ⟨by decide +kernel, rfl⟩
theorem d41_10 : De method_4_code 10 (.iload_n 3) 1 11 := ⟨by decide +kernel, rfl⟩
theorem d41_11 : De method_4_code 11 (.iadd) 1 12 := ⟨by decide +kernel, rfl⟩
theorem d41_12 : De method_4_code 12 (.invokevirtual 75) 3 15 := ⟨by decide +kernel, rfl⟩
theorem d41_15 : De method_4_code 15 (.aload_n 2) 1 16 := ⟨by decide +kernel, rfl⟩
theorem d41_16 : De method_4_code 16 (.iload_n 3) 1 17 := ⟨by decide +kernel, rfl⟩
theorem d41_17 : De method_4_code 17 (.invokevirtual 75) 3 20 := ⟨by decide +kernel, rfl⟩
theorem d41_20 : De method_4_code 20 (.if_icmp .ne 7) 3 23 := ⟨by decide +kernel, rfl⟩
theorem d41_23 : De method_4_code 23 (.iconst 1) 1 24 := ⟨by decide +kernel, rfl⟩
theorem d41_24 : De method_4_code 24 (.goto 4) 3 27 := ⟨by decide +kernel, rfl⟩
theorem d41_28 : De method_4_code 28 (.ireturn) 1 29 := ⟨by decide +kernel, rfl⟩
theorem d47_0 : De method_6_code 0 (.iload 7) 2 2 := ⟨by decide +kernel, rfl⟩
theorem d47_2 : De method_6_code 2 (.iload_n 2) 1 3 := ⟨by decide +kernel, rfl⟩
theorem d47_3 : De method_6_code 3 (.if_icmp .lt 5) 3 6 := ⟨by decide +kernel, rfl⟩
theorem d47_6 : De method_6_code 6 (.iconst 1) 1 7 := ⟨by decide +kernel, rfl⟩
theorem d47_7 : De method_6_code 7 (.ireturn) 1 8 := ⟨by decide +kernel, rfl⟩
theorem d47_8 : De method_6_code 8 (.aload_n 0) 1 9 := ⟨by decide +kernel, rfl⟩
theorem d47_9 : De method_6_code 9 (.iload_n 1) 1 10 := ⟨by decide +kernel, rfl⟩
theorem d47_10 : De method_6_code 10 (.iconst 1) 1 11 := ⟨by decide +kernel, rfl⟩
theorem d47_11 : De method_6_code 11 (.isub) 1 12 := ⟨by decide +kernel, rfl⟩
theorem d47_12 : De method_6_code 12 (.iload 7) 2 14 := ⟨by decide +kernel, rfl⟩
theorem d47_14 : De method_6_code 14 (.isub) 1 15 := ⟨by decide +kernel, rfl⟩
theorem d47_15 : De method_6_code 15 (.invokevirtual 75) 3 18 := ⟨by decide +kernel, rfl⟩
theorem d47_18 : De method_6_code 18 (.bipush 48) 2 20 := ⟨by decide +kernel, rfl⟩
theorem d47_20 : De method_6_code 20 (.lload_n 3) 1 21 := ⟨by decide +kernel, rfl⟩
theorem d47_21 : De method_6_code 21 (.lload 5) 2 23 := ⟨by decide +kernel, rfl⟩
theorem d47_23 : De method_6_code 23 (.ldiv) 1 24 := ⟨by decide +kernel, rfl⟩
theorem d47_24 : De method_6_code 24 (.ldc2_w 21) 3 27 := ⟨by decide +kernel, rfl⟩
theorem d47_27 : De method_6_code 27 (.lrem) 1 28 := ⟨by decide +kernel, rfl⟩
theorem d47_28 : De method_6_code 28 (.l2i) 1 29 := ⟨by decide +kernel, rfl⟩
theorem d47_29 : De method_6_code 29 (.isub) 1 30 := ⟨by decide +kernel, rfl⟩
theorem d47_30 : De method_6_code 30 (.i2c) 1 31 := ⟨by decide +kernel, rfl⟩
theorem d47_31 : De method_6_code 31 (.if_icmp .ne 7) 3 34 := ⟨by decide +kernel, rfl⟩
theorem d47_34 : De method_6_code 34 (.iconst 1) 1 35 := ⟨by decide +kernel, rfl⟩
theorem d47_35 : De method_6_code 35 (.goto 4) 3 38 := ⟨by decide +kernel, rfl⟩
theorem d47_39 : De method_6_code 39 (.ireturn) 1 40 := ⟨by decide +kernel, rfl⟩
theorem pd0 : parseMethodDescriptor "(II)I" = some ⟨[.int, .int], some .int⟩ := by decide +kernel
theorem pd1 : parseMethodDescriptor "(III)I" = some ⟨[.int, .int, .int], some .int⟩ := by decide +kernel
theorem pd2 : parseMethodDescriptor "(I)I" = some ⟨[.int], some .int⟩ := by decide +kernel
theorem pd3 : parseMethodDescriptor "([BI)[B" = some ⟨[(.array .byte), .int], some (.array .byte)⟩ := by decide +kernel
theorem pd4 : parseMethodDescriptor "()B" = some ⟨[], some .byte⟩ := by decide +kernel
theorem pd5 : parseMethodDescriptor "(Ljava/lang/String;)V" = some ⟨[(.object "java/lang/String")], none⟩ := by decide +kernel
theorem pd6 : parseMethodDescriptor "([BIB)V" = some ⟨[(.array .byte), .int, .byte], none⟩ := by decide +kernel
theorem pd7 : parseMethodDescriptor "()I" = some ⟨[], some .int⟩ := by decide +kernel
theorem pd8 : parseMethodDescriptor "(I)V" = some ⟨[.int], none⟩ := by decide +kernel
theorem pd9 : parseMethodDescriptor "(ILjava/lang/String;)V" = some ⟨[.int, (.object "java/lang/String")], none⟩ := by decide +kernel
theorem pd10 : parseMethodDescriptor "(Ljava/lang/String;)Ljava/lang/AbstractStringBuilder;" = some ⟨[(.object "java/lang/String")], some (.object "java/lang/AbstractStringBuilder")⟩ := by decide +kernel
theorem pd11 : parseMethodDescriptor "(II)V" = some ⟨[.int, .int], none⟩ := by decide +kernel
theorem pd12 : parseMethodDescriptor "([BII)[B" = some ⟨[(.array .byte), .int, .int], some (.array .byte)⟩ := by decide +kernel
theorem pd13 : parseMethodDescriptor "()[B" = some ⟨[], some (.array .byte)⟩ := by decide +kernel
theorem pd14 : parseMethodDescriptor "()Z" = some ⟨[], some .boolean⟩ := by decide +kernel
theorem pd15 : parseMethodDescriptor "(Ljava/lang/AbstractStringBuilder;Ljava/lang/Void;)V" = some ⟨[(.object "java/lang/AbstractStringBuilder"), (.object "java/lang/Void")], none⟩ := by decide +kernel
theorem pd16 : parseMethodDescriptor "(Ljava/lang/StringBuilder;)V" = some ⟨[(.object "java/lang/StringBuilder")], none⟩ := by decide +kernel
theorem pd17 : parseMethodDescriptor "(J)I" = some ⟨[.long], some .int⟩ := by decide +kernel
theorem pd18 : parseMethodDescriptor "(JI[B)I" = some ⟨[.long, .int, (.array .byte)], some .int⟩ := by decide +kernel
theorem pd19 : parseMethodDescriptor "(J)Ljava/lang/AbstractStringBuilder;" = some ⟨[.long], some (.object "java/lang/AbstractStringBuilder")⟩ := by decide +kernel
theorem pd20 : parseMethodDescriptor "()V" = some ⟨[], none⟩ := by decide +kernel
theorem pd21 : parseMethodDescriptor "(I)C" = some ⟨[.int], some .char⟩ := by decide +kernel
theorem pd22 : parseMethodDescriptor "(Ljava/lang/String;ILjava/lang/String;I)Z" = some ⟨[(.object "java/lang/String"), .int, (.object "java/lang/String"), .int], some .boolean⟩ := by decide +kernel
theorem pd23 : parseMethodDescriptor "([CIILjava/lang/Void;)V" = some ⟨[(.array .char), .int, .int, (.object "java/lang/Void")], none⟩ := by decide +kernel
theorem pd24 : parseMethodDescriptor "(Ljava/lang/String;)Ljava/lang/StringBuilder;" = some ⟨[(.object "java/lang/String")], some (.object "java/lang/StringBuilder")⟩ := by decide +kernel
theorem pd25 : parseMethodDescriptor "(J)Ljava/lang/StringBuilder;" = some ⟨[.long], some (.object "java/lang/StringBuilder")⟩ := by decide +kernel
theorem pd26 : parseMethodDescriptor "()Ljava/lang/String;" = some ⟨[], some (.object "java/lang/String")⟩ := by decide +kernel
theorem pd27 : parseMethodDescriptor "(JJ)I" = some ⟨[.long, .long], some .int⟩ := by decide +kernel
theorem pd28 : parseMethodDescriptor "(Ljava/lang/String;IIJJI)Z" = some ⟨[(.object "java/lang/String"), .int, .int, .long, .long, .int], some .boolean⟩ := by decide +kernel
theorem pd29 : parseMethodDescriptor "([C)V" = some ⟨[(.array .char)], none⟩ := by decide +kernel
theorem pd30 : parseMethodDescriptor "(Ljava/lang/String;Ljava/lang/String;J)V" = some ⟨[(.object "java/lang/String"), (.object "java/lang/String"), .long], none⟩ := by decide +kernel
theorem pn0 : plainName "jdk/internal/util/ArraysSupport" = true := by first | (simp [plainName, overriddenIn]; done) | decide +kernel
theorem pn1 : plainName "java/lang/AbstractStringBuilder" = true := by first | (simp [plainName, overriddenIn]; done) | decide +kernel
theorem pn2 : plainName "java/util/Arrays" = true := by first | (simp [plainName, overriddenIn]; done) | decide +kernel
theorem pn3 : plainName "java/lang/String" = true := by first | (simp [plainName, overriddenIn]; done) | decide +kernel
theorem pn4 : plainName "java/lang/StringBuilder" = true := by first | (simp [plainName, overriddenIn]; done) | decide +kernel
theorem pn5 : plainName "java/lang/Record" = true := by first | (simp [plainName, overriddenIn]; done) | decide +kernel
theorem pn6 : plainName "com/example/uketsuke/uketsuke/core/token/PageToken" = true := by first | (simp [plainName, overriddenIn]; done) | decide +kernel
theorem pn7 : plainName "com/example/uketsuke/uketsuke/core/token/PageTokenToStringPinLaw" = true := by first | (simp [plainName, overriddenIn]; done) | decide +kernel
abbrev lo8 := StrChars.lo8
/-- the String at x holds the Latin-1 text cs -/
def SX (Z : State) (h : Heap) (x t : Addr) (k : ClassId) (cs : List Int32) : Prop := Exa Z h x "java/lang/String" ∧ Fld Z h x "java/lang/String" "coder" "B" (.int 0) ∧ Fld Z h x "java/lang/String" "value" "[B" (.ref t) ∧ Arv Z h t k .byte (Int32.ofNat cs.length) ((cs.map lo8).map Value.int) (.int 0) ∧ cs.length ≤ 4000 ∧ ∀ c ∈ cs, ¬ c < 0 ∧ ¬ (255 : Int32) < c
theorem SX.ext {Z : State} {h h' : Heap} {x t : Addr} {k : ClassId} {cs : List Int32} (q : SX Z h x t k cs) (E : Ext h h') : SX Z h' x t k cs := ⟨q.1.ext E, q.2.1.ext E, q.2.2.1.ext E, q.2.2.2.1.ext E, q.2.2.2.2⟩
theorem SX.cod {Z : State} {h : Heap} {x t : Addr} {k : ClassId} {cs : List Int32} (q : SX Z h x t k cs) : StrChars.Road.CodA cs 0 (Int32.ofNat cs.length) ((cs.map lo8).map Value.int) := StrChars.Road.codOf rfl fun c hc => (q.2.2.2.2.2 c hc).2
theorem SX.two {Z : State} {h : Heap} {x t : Addr} {k : ClassId} {cs : List Int32} (q : SX Z h x t k cs) : ∀ c ∈ cs, ¬ c < 0 ∧ ¬ (65535 : Int32) < c := fun c hc => by
  obtain ⟨a, b⟩ := q.2.2.2.2.2 c hc
  refine ⟨a, ?_⟩
  rw [Int32.lt_iff_toInt_lt] at b ⊢
  have q0 : (255 : Int32).toInt = 255 := by decide
  have q1 : (65535 : Int32).toInt = 65535 := by decide
  omega
set_option maxRecDepth 65536 in
theorem own_w1 {Z : State} {a0 : Array Value} (hw : ∀ d ∈ tables_1, d.before a0 Z = true) : ∀ d ∈ StrChars.Road.words, d.before a0 Z = true := fun d hd => hw d ((by decide +kernel : ∀ d ∈ StrChars.Road.words, d ∈ tables_1) d hd)
set_option maxRecDepth 65536 in
theorem own_w2 {Z : State} {a0 : Array Value} (hw : ∀ d ∈ tables_1, d.before a0 Z = true) : ∀ d ∈ StrChars.Road.wordsLen, d.before a0 Z = true := fun d hd => hw d ((by decide +kernel : ∀ d ∈ StrChars.Road.wordsLen, d ∈ tables_1) d hd)
set_option maxRecDepth 65536 in
theorem own_w4 {Z : State} {a0 : Array Value} (hw : ∀ d ∈ tables_1, d.before a0 Z = true) : ∀ d ∈ StrChars.Road.wordsChN, d.before a0 Z = true := fun d hd => hw d ((by decide +kernel : ∀ d ∈ StrChars.Road.wordsChN, d ∈ tables_1) d hd)
set_option maxRecDepth 65536 in
theorem own_wS : ∀ d ∈ Bundle.stringAtoms, d ∈ tables_1 := by decide +kernel
def QStr (Z : State) (x : Addr) (cs : List Int32) (h : Heap) (n0 : Nat) (v : Option Value) (h' : Heap) : Prop := v = none ∧ Keep h h' [x] ∧ ∃ (t : Addr) (k : ClassId), SX Z h' x t k cs
theorem payStr {l : Launch} {Z : State} {a0 : Array Value} {R : Room} {W : Nat} {h : Heap} (hw : ∀ d ∈ tables_1, d.before a0 Z = true) {x b : Addr} {kC : ClassId} {cs : List Int32} {d v0 c0 : Value} {z N : Int32} {n n0 : Nat} (hx0 : n0 ≤ x) (O : Old Z n0 h) (E : Exa Z h x "java/lang/String") (V : Fld Z h x "java/lang/String" "value" "[B" v0) (C : Fld Z h x "java/lang/String" "coder" "B" c0) (K : Arv Z h b kC .char N (cs.map Value.int) d) (S : Sta Z h "java/lang/String" "COMPACT_STRINGS" "Z" (.int z)) (hz : ¬ z = 0)
    (hn : cs.length = n) (hN : N = Int32.ofNat n) (l0 : 0 < n) (l2 : n ≤ 4000) (hp : ∀ c ∈ cs, ¬ c < 0 ∧ ¬ (255 : Int32) < c) (hfr : 4 ≤ R.frames) (hlo : W + 65 ≤ R.locals) :
    Pay l Z R (⟨"java/lang/String", "<init>", "([C)V"⟩ : MethodName) 3 W #[.ref x, .ref b] n0 h 1 n (QStr Z x cs h n0) := by
  intro p e below s args hZ
  have hs : n0 ≤ h.size := by have q1 := O.1; have q2 := O.2.1; omega
  refine Back.mono (StrChars.Road.backV (W := W) hZ (own_w1 hw) (kI := 4) (hw _ tw2) hx0 hs E V C K S hz hn hN l0 l2 hp rfl hfr hlo) (fun P a hp => hp) (fun P a v B hp' hq => ?_)
  obtain ⟨L, ⟨q1, q2, q3, q4, q5, t, kb, q6, q7, q8, q9, q10⟩, r⟩ := hq
  exact ⟨L, ⟨⟨q1, q3, t, kb, q4, q5, q9, by rw [hn, ← hN]; exact q10, by omega, hp⟩, q2, q3.1⟩, r⟩
theorem payLen {l : Launch} {Z : State} {a0 : Array Value} {R : Room} {W n0 : Nat} {h : Heap} (hw : ∀ d ∈ tables_1, d.before a0 Z = true) {x t : Addr} {k : ClassId} {cs : List Int32} {z : Int32} (q : SX Z h x t k cs) (S : Sta Z h "java/lang/String" "COMPACT_STRINGS" "Z" (.int z)) (hz : ¬ z = 0) (hfr : 2 ≤ R.frames) (hlo : W + 25 ≤ R.locals) : Pay l Z R (⟨"java/lang/String", "length", "()I"⟩ : MethodName) 3 W #[.ref x] n0 h 0 0 (QP (some (.int (Int32.ofNat cs.length))) h) := by
  intro p e below s args hZ
  refine Back.mono (StrChars.Road.lenW (W := W) hZ (own_w2 hw) (kI := 4) (hw _ tw2) q.1 q.2.2.1 q.2.1 q.2.2.2.1 q.cod q.two S hz q.2.2.2.2.1 hfr hlo) (fun P a hp => hp) (fun P a v B hp hq => ?_)
  obtain ⟨L, ⟨q1, q2, q3⟩, r⟩ := hq
  subst q2
  exact ⟨[], ⟨⟨q1, q3.symm⟩, Fr.nil _, Nat.le_of_eq (by rw [q3])⟩, r⟩
theorem payCh {l : Launch} {Z : State} {a0 : Array Value} {R : Room} {W n0 : Nat} {h : Heap} (hw : ∀ d ∈ tables_1, d.before a0 Z = true) {x t : Addr} {k : ClassId} {cs : List Int32} {z j : Int32} {fm : Value} {i : Nat} (q : SX Z h x t k cs) (S : Sta Z h "java/lang/String" "COMPACT_STRINGS" "Z" (.int z)) (hz : ¬ z = 0) (F : Sta Z h "jdk/internal/util/Preconditions" "SIOOBE_FORMATTER" "Ljava/util/function/BiFunction;" fm) (rf : fm.isRef = true) (hi : i < cs.length) (hj : j = Int32.ofNat i) (hfr : 4 ≤ R.frames) (hlo : W + 53 ≤ R.locals) : Pay l Z R (⟨"java/lang/String", "charAt", "(I)C"⟩ : MethodName) 3 W #[.ref x, .int j] n0 h 0 0 (QP (some (.int (cs.getD i 0))) h) := by
  intro p e below s args hZ
  refine Back.mono (StrChars.Road.chN (W := W) hZ (own_w4 hw) (kI := 4) (hw _ tw2) q.1 q.2.2.1 q.2.1 q.2.2.2.1 q.cod q.two S hz F rf q.2.2.2.2.1 hi hj hfr hlo) (fun P a hp => hp) (fun P a v B hp hq => ?_)
  obtain ⟨L, ⟨q1, q2, q3⟩, r⟩ := hq
  subst q2
  exact ⟨[], ⟨⟨q1, q3.symm⟩, Fr.nil _, Nat.le_of_eq (by rw [q3])⟩, r⟩
theorem oLen31 {args : Array Value} {s : State} {t : Term} {k : Int32} {a : Addr} {cl : Cell} (q : (Term.length t).eval args s none [] s = some (.int k)) (ev : t.eval args s none [] s = some (.ref a)) (hc : s.heap[a]? = some cl) : cl.slots.size < 2 ^ 31 := by
  simp only [Term.eval, ev, Option.bind_eq_bind, Option.bind_some, Option.bind_eq_some_iff] at q
  obtain ⟨c', e1, e2⟩ := q
  cases hc.symm.trans (State.arrayAt?_spec e1).1
  split at e2
  · assumption
  · cases e2
theorem oCap {n : Nat} {k : Int32} (h : n < 2 ^ 31) (e : n.toInt32 = k) : n = k.toInt.toNat := by
  rw [← e, len_toInt h]; rfl

theorem own_ch (x : Int32) : nar .char ((x &&& 255).toUInt32.toUInt16.toUInt32.toInt32) = x &&& 255 := by
  show ((x &&& 255).toUInt32.toUInt16.toUInt32.toInt32).toUInt32.toUInt16.toUInt32.toInt32 = x &&& 255
  rw [i2c_mask, i2c_mask]
theorem own_lat (x : Int32) : ¬ (x &&& 255) < 0 ∧ ¬ (255 : Int32) < (x &&& 255) := by
  have e1 := c_mask x 255 8 (by decide) (by decide)
  rw [Int32.lt_iff_toInt_lt, Int32.lt_iff_toInt_lt]
  have q0 : (0 : Int32).toInt = 0 := by decide
  have q1 : (255 : Int32).toInt = 255 := by decide
  omega
theorem inS {P : Addr → Prop} {z : Addr} {zs : List Addr} (h : P z) (t : ∀ x ∈ zs, P x) : ∀ x ∈ z :: zs, P x := fun x hx => (List.mem_cons.mp hx).elim (fun e => e ▸ h) (t x)
def SBX (Z : State) (h : Heap) (b v : Addr) (k : ClassId) (cs : List Int32) (cap : Nat) : Prop := Exa Z h b "java/lang/StringBuilder" ∧ Fld Z h b "java/lang/AbstractStringBuilder" "coder" "B" (.int (0 : Int32)) ∧ Fld Z h b "java/lang/AbstractStringBuilder" "value" "[B" (.ref v) ∧ Fld Z h b "java/lang/AbstractStringBuilder" "count" "I" (.int (Int32.ofNat (cs.length))) ∧ Arv Z h v k .byte (Int32.ofNat (cap)) ((cs.map lo8).map Value.int) (.int 0) ∧ Exa Z h v "[B" ∧ (cs.length ≤ cap ∧ cap ≤ 1500) ∧ ∀ c ∈ cs, ¬ c < 0 ∧ ¬ (255 : Int32) < c
theorem own_add (a b : Nat) : Int32.ofNat a + Int32.ofNat b = Int32.ofNat (a + b) := (Int32.ofNat_add a b).symm
theorem own_sub {a b : Nat} (h : b ≤ a) : Int32.ofNat a - Int32.ofNat b = Int32.ofNat (a - b) := by
  have e : Int32.ofNat a = Int32.ofNat (a - b) + Int32.ofNat b := by rw [own_add, Nat.sub_add_cancel h]
  rw [e, Int32.add_sub_cancel]
theorem own_sh0 (x : Int32) : x <<< ((0 : Int32) &&& 31) = x ∧ x >>> ((0 : Int32) &&& 31) = x := by
  constructor
  · rw [show ((0 : Int32) &&& 31) = 0 from by decide]; exact Int32.shiftLeft_zero
  · rw [show ((0 : Int32) &&& 31) = 0 from by decide]; exact Int32.shiftRight_zero
theorem own_lt {i n : Nat} (hi : i ≤ 4000) (hn : n ≤ 4000) : (Int32.ofNat i < Int32.ofNat n) ↔ i < n := by
  rw [Int32.lt_iff_toInt_lt, Int32.toInt_ofNat_of_lt (by omega), Int32.toInt_ofNat_of_lt (by omega)]
  omega
theorem own_eq {i n : Nat} (hi : i ≤ 4000) (hn : n ≤ 4000) : (Int32.ofNat i = Int32.ofNat n) ↔ i = n := by
  rw [← Int32.toInt_inj, Int32.toInt_ofNat_of_lt (by omega), Int32.toInt_ofNat_of_lt (by omega)]
  omega
theorem own_cl {i : Nat} (hi : i ≤ 4000) : (Int32.ofNat i).toNatClampNeg = i := by
  rw [Int32.toNatClampNeg, Int32.toInt_ofNat_of_lt (by omega)]; rfl
theorem own_z : (0 : Int32).toNatClampNeg = 0 := by decide
theorem own_nn {i : Nat} (hi : i ≤ 4000) : ¬ Int32.ofNat i < 0 := by
  rw [Int32.lt_iff_toInt_lt, Int32.toInt_ofNat_of_lt (by omega)]
  have q : (0 : Int32).toInt = 0 := by decide
  omega
theorem own_big {i : Nat} (hi : i ≤ 4000) : ¬ (2147483639 : Int32) < Int32.ofNat i ∧ ¬ Int32.ofNat i = (2147483647 : Int32) := by
  rw [Int32.lt_iff_toInt_lt, ← Int32.toInt_inj, Int32.toInt_ofNat_of_lt (by omega)]
  have q : (2147483639 : Int32).toInt = 2147483639 := by decide
  have q' : (2147483647 : Int32).toInt = 2147483647 := by decide
  omega
/-- what arraycopy of a whole list over a list of zeros leaves -/
theorem own_cp (vs : List Value) (dv : Value) (n : Nat) (hn : vs.length ≤ n) : ∀ i, vs.getD i dv = ((List.range n).map fun i => vs.getD (0 + i) dv).getD i dv := fun i => by
  simp only [List.getD_eq_getElem?_getD, Nat.zero_add]
  by_cases q : i < n
  · simp [q]
  · rw [List.getElem?_eq_none (show vs.length ≤ i by omega), List.getElem?_eq_none (by simp; omega)]

theorem ef_rmmax (m : MethodId) (x0 : Int32) (x1 : Int32) : entryFrame m #[(.int x0), (.int x1)] 2 = mkF m 0 #[(.val (.int x0)), (.val (.int x1))] [] := by first | (simp [entryFrame, mkF, argsToLocals, Value.category]; done) | rfl
set_option maxRecDepth 65536 in
set_option maxHeartbeats 4000000 in
theorem rmmax {l : Launch} {Z : State} {a0 : Array Value} (hw : ∀ d ∈ tables_1, d.before a0 Z = true) {n0 : Nat} {h0 : Heap} {a b : Nat} (ha : a ≤ 4000) (hb : b ≤ 4000) :
    Pays l Z (⟨"java/lang/Math", "max", "(II)I"⟩ : MethodName) jdk_29_method_65_code 2 (some .int) ({ frames := 0, cells := 0, slots := 0, locals := 0 } : Room) #[(.int (Int32.ofNat (a))), (.int (Int32.ofNat (b)))] n0 h0 (QP (some (.int (Int32.ofNat (max a b)))) h0) := by
  refine Pays.of hw (Jvm.Free.JP.mathPlain rfl (by decide +kernel)) (fun m => ef_rmmax m (Int32.ofNat (a)) (Int32.ofNat (b))) fun B C M => ?_
  refine iIloadN C d22_0 rfl ?_
  refine iIloadN C d22_1 rfl ?_
  by_cases hc1 : (Int32.ofNat (a)) < (Int32.ofNat (b))
  · refine iCmpT C (t := 9) d22_2 (tlt hc1).1 ⟨by decide, by decide⟩ ?_
    refine iIloadN C d22_9 rfl ?_
    refine iRetI C M d22_10 ⟨Nat.le_refl _, by decide, by decide⟩ ?_
    refine ⟨?_, rfl⟩
    have q : a < b := (own_lt ha hb).mp hc1
    congr 3
    omega
  · refine iCmpF C d22_2 (flt hc1).1 ?_
    refine iIloadN C d22_5 rfl ?_
    refine iGoto C (t := 10) d22_6 ⟨by decide, by decide⟩ ?_
    refine iRetI C M d22_10 ⟨Nat.le_refl _, by decide, by decide⟩ ?_
    refine ⟨?_, rfl⟩
    have q : ¬ a < b := fun e => hc1 ((own_lt ha hb).mpr e)
    congr 3
    omega
theorem ef_rmmin (m : MethodId) (x0 : Int32) (x1 : Int32) : entryFrame m #[(.int x0), (.int x1)] 2 = mkF m 0 #[(.val (.int x0)), (.val (.int x1))] [] := by first | (simp [entryFrame, mkF, argsToLocals, Value.category]; done) | rfl
set_option maxRecDepth 65536 in
set_option maxHeartbeats 4000000 in
theorem rmmin {l : Launch} {Z : State} {a0 : Array Value} (hw : ∀ d ∈ tables_1, d.before a0 Z = true) {n0 : Nat} {h0 : Heap} {a b : Nat} (ha : a ≤ 4000) (hb : b ≤ 4000) :
    Pays l Z (⟨"java/lang/Math", "min", "(II)I"⟩ : MethodName) jdk_29_method_69_code 2 (some .int) ({ frames := 0, cells := 0, slots := 0, locals := 0 } : Room) #[(.int (Int32.ofNat (a))), (.int (Int32.ofNat (b)))] n0 h0 (QP (some (.int (Int32.ofNat (min a b)))) h0) := by
  refine Pays.of hw (Jvm.Free.JP.mathPlain rfl (by decide +kernel)) (fun m => ef_rmmin m (Int32.ofNat (a)) (Int32.ofNat (b))) fun B C M => ?_
  refine iIloadN C d24_0 rfl ?_
  refine iIloadN C d24_1 rfl ?_
  by_cases hc1 : (Int32.ofNat (b)) < (Int32.ofNat (a))
  · refine iCmpT C (t := 9) d24_2 (tlt hc1).2.2.1 ⟨by decide, by decide⟩ ?_
    refine iIloadN C d24_9 rfl ?_
    refine iRetI C M d24_10 ⟨Nat.le_refl _, by decide, by decide⟩ ?_
    refine ⟨?_, rfl⟩
    have q : b < a := (own_lt hb ha).mp hc1
    congr 3
    omega
  · refine iCmpF C d24_2 (flt hc1).2.2.1 ?_
    refine iIloadN C d24_5 rfl ?_
    refine iGoto C (t := 10) d24_6 ⟨by decide, by decide⟩ ?_
    refine iRetI C M d24_10 ⟨Nat.le_refl _, by decide, by decide⟩ ?_
    refine ⟨?_, rfl⟩
    have q : ¬ b < a := fun e => hc1 ((own_lt hb ha).mpr e)
    congr 3
    omega
theorem ef_rmNL (m : MethodId) (x0 : Int32) (x1 : Int32) (x2 : Int32) : entryFrame m #[(.int x0), (.int x1), (.int x2)] 4 = mkF m 0 #[(.val (.int x0)), (.val (.int x1)), (.val (.int x2)), .unset] [] := by first | (simp [entryFrame, mkF, argsToLocals, Value.category]; done) | rfl
set_option maxRecDepth 65536 in
set_option maxHeartbeats 4000000 in
theorem rmNL {l : Launch} {Z : State} {a0 : Array Value} (hw : ∀ d ∈ tables_1, d.before a0 Z = true) {n0 : Nat} {h0 : Heap} {o g1 g2 : Nat} (ho : o ≤ 1600) (h1 : g1 ≤ 1600) (h2 : g2 ≤ 1600) (h3 : 0 < g2) :
    Pays l Z (⟨"jdk/internal/util/ArraysSupport", "newLength", "(III)I"⟩ : MethodName) jdk_48_method_27_code 4 (some .int) ({ frames := 1, cells := 0, slots := 0, locals := 14 } : Room) #[(.int (Int32.ofNat (o))), (.int (Int32.ofNat (g1))), (.int (Int32.ofNat (g2)))] n0 h0 (QP (some (.int (Int32.ofNat (o + max g1 g2)))) h0) := by
  refine Pays.of hw (plainFor_of_name pn0) (fun m => ef_rmNL m (Int32.ofNat (o)) (Int32.ofNat (g1)) (Int32.ofNat (g2))) fun B C M => ?_
  refine iIloadN C d21_0 rfl ?_
  refine iIloadN C d21_1 rfl ?_
  refine iIloadN C d21_2 rfl ?_
  refine iCallS C (rmmax hw (a := g1) (b := g2) (by omega) (by omega)) tw132 tw133 tw134 tw135 ⟨by decide, by decide⟩ (argsL := [(.int (Int32.ofNat (g1))), (.int (Int32.ofNat (g2)))]) (S' := [(.int (Int32.ofNat (o)))]) (lenOf pd0 rfl) rfl rfl d21_3 rfl (W := 1) rfl ⟨by decide, by decide, rfl, rfl, by decide, by decide⟩ fun v1 h1 q1 => ?_
  obtain ⟨rfl, rfl⟩ := q1
  show Go B n0 _ h0 0 0 6 _ [(.int (Int32.ofNat (max (g1) (g2)))), (.int (Int32.ofNat (o)))]
  refine iIadd C d21_6 (v := (Int32.ofNat (o + (max (g1) (g2))))) (own_add (o) (max (g1) (g2))) ?_
  refine iIstoreN C d21_7 (Ls' := #[(.val (.int (Int32.ofNat (o)))), (.val (.int (Int32.ofNat (g1)))), (.val (.int (Int32.ofNat (g2)))), (.val (.int (Int32.ofNat (o + (max (g1) (g2))))))]) rfl ?_
  refine iIconst C d21_8 (v := (0 : Int32)) (by decide) ?_
  refine iIloadN C d21_9 rfl ?_
  refine iCmpF C d21_10 (tlt ((own_lt (i := 0) (n := o + (max (g1) (g2))) (by omega) (by omega)).mpr (by omega))).2.1 ?_
  refine iIloadN C d21_13 rfl ?_
  refine iLdcI C tw136 d21_14 ?_
  refine iCmpF C d21_16 (flt (own_big (i := o + (max (g1) (g2))) (by omega)).1).2.2.1 ?_
  refine iIloadN C d21_19 rfl ?_
  refine iRetI C M d21_20 ⟨Nat.le_refl _, by decide, by decide⟩ ?_
  exact ⟨rfl, rfl⟩
theorem ef_rmNC (m : MethodId) (x0 : Addr) (x1 : Int32) : entryFrame m #[(.ref x0), (.int x1)] 6 = mkF m 0 #[(.val (.ref x0)), (.val (.int x1)), .unset, .unset, .unset, .unset] [] := by first | (simp [entryFrame, mkF, argsToLocals, Value.category]; done) | rfl
set_option maxRecDepth 65536 in
set_option maxHeartbeats 4000000 in
theorem rmNC {l : Launch} {Z : State} {a0 : Array Value} (hw : ∀ d ∈ tables_1, d.before a0 Z = true) {n0 : Nat} {h0 : Heap} {b v : Addr} {k : ClassId} {cs : List Int32} {cap : Nat} {mn : Nat} (HB : SBX Z h0 b v k cs cap) (h1 : cap < mn) (h2 : mn ≤ 1600) :
    Pays l Z (⟨"java/lang/AbstractStringBuilder", "newCapacity", "(I)I"⟩ : MethodName) jdk_68_method_10_code 6 (some .int) ({ frames := 2, cells := 0, slots := 0, locals := 29 } : Room) #[(.ref b), (.int (Int32.ofNat (mn)))] n0 h0 (QP (some (.int (Int32.ofNat (cap + max (mn - cap) (cap + 2))))) h0) := by
  refine Pays.of hw (plainFor_of_name pn1) (fun m => ef_rmNC m b (Int32.ofNat (mn))) fun B C M => ?_
  have hcap : cap ≤ 1500 := HB.2.2.2.2.2.2.1.2
  have hlen : cs.length ≤ cap := HB.2.2.2.2.2.2.1.1
  refine iAloadN C d20_0 rfl rfl ?_
  refine iGetF C tw70 HB.2.2.1 d20_1 ?_
  obtain ⟨c1, A1, q1, z1, y1, H1, G1⟩ := id HB.2.2.2.2.1
  refine iLen C A1 (len_of z1 y1) d20_4 ?_
  refine iIstoreN C d20_5 (Ls' := #[(.val (.ref b)), (.val (.int (Int32.ofNat (mn)))), (.val (.int (Int32.ofNat (cap)))), .unset, .unset, .unset]) rfl ?_
  refine iIloadN C d20_6 rfl ?_
  refine iAloadN C d20_7 rfl rfl ?_
  refine iGetF C tw72 HB.2.1 d20_8 ?_
  refine iIshl C d20_11 (v := (Int32.ofNat (mn))) (own_sh0 _).1 ?_
  refine iIstoreN C d20_12 (Ls' := #[(.val (.ref b)), (.val (.int (Int32.ofNat (mn)))), (.val (.int (Int32.ofNat (cap)))), (.val (.int (Int32.ofNat (mn)))), .unset, .unset]) rfl ?_
  refine iIloadN C d20_13 rfl ?_
  refine iIloadN C d20_14 rfl ?_
  refine iIsub C d20_15 (v := (Int32.ofNat (mn - cap))) (own_sub (a := mn) (b := cap) (by omega)) ?_
  refine iIstore C d20_16 (Ls' := #[(.val (.ref b)), (.val (.int (Int32.ofNat (mn)))), (.val (.int (Int32.ofNat (cap)))), (.val (.int (Int32.ofNat (mn)))), (.val (.int (Int32.ofNat (mn - cap)))), .unset]) rfl ?_
  refine iIloadN C d20_18 rfl ?_
  refine iIload C d20_19 rfl ?_
  refine iIloadN C d20_21 rfl ?_
  refine iIconst C d20_22 (v := (2 : Int32)) (by decide) ?_
  refine iAloadN C d20_23 rfl rfl ?_
  refine iGetF C tw72 HB.2.1 d20_24 ?_
  refine iIshl C d20_27 (v := (2 : Int32)) (own_sh0 _).1 ?_
  refine iIadd C d20_28 (v := (Int32.ofNat (cap + 2))) (own_add (cap) (2)) ?_
  refine iCallS C (rmNL hw (o := cap) (g1 := mn - cap) (g2 := cap + 2) (by omega) (by omega) (by omega) (by omega)) tw128 tw129 tw130 tw131 ⟨by decide, by decide⟩ (argsL := [(.int (Int32.ofNat (cap))), (.int (Int32.ofNat (mn - cap))), (.int (Int32.ofNat (cap + 2)))]) (S' := []) (lenOf pd1 rfl) rfl rfl d20_29 rfl (W := 0) rfl ⟨by decide, by decide, rfl, rfl, by decide, by decide⟩ fun v2 h2 q2 => ?_
  obtain ⟨rfl, rfl⟩ := q2
  show Go B n0 _ h0 0 0 32 _ [(.int (Int32.ofNat (cap + max (mn - cap) (cap + 2))))]
  refine iIstore C d20_32 (Ls' := #[(.val (.ref b)), (.val (.int (Int32.ofNat (mn)))), (.val (.int (Int32.ofNat (cap)))), (.val (.int (Int32.ofNat (mn)))), (.val (.int (Int32.ofNat (mn - cap)))), (.val (.int (Int32.ofNat (cap + max (mn - cap) (cap + 2)))))]) rfl ?_
  refine iIload C d20_34 rfl ?_
  refine iLdcI C tw137 d20_36 ?_
  refine iCmpT C (t := 51) d20_38 (feq (own_big (i := cap + max (mn - cap) (cap + 2)) (by omega)).2).2 ⟨by decide, by decide⟩ ?_
  refine iIload C d20_51 rfl ?_
  refine iAloadN C d20_53 rfl rfl ?_
  refine iGetF C tw72 HB.2.1 d20_54 ?_
  refine iIshr C d20_57 (v := (Int32.ofNat (cap + max (mn - cap) (cap + 2)))) (own_sh0 _).2 ?_
  refine iRetI C M d20_58 ⟨Nat.le_refl _, by decide, by decide⟩ ?_
  exact ⟨rfl, rfl⟩
def QCp (Z : State) (vs : List Value) (nl : Nat) (h0 : Heap) (v : Option Value) (h : Heap) : Prop := ∃ (a : Addr) (k : ClassId), v = some (.ref a) ∧ h0.size ≤ a ∧ Keep h0 h [] ∧ Arv Z h a k .byte (Int32.ofNat (nl)) vs (.int 0) ∧ Exa Z h a "[B"
theorem ef_rmCO (m : MethodId) (x0 : Addr) (x1 : Int32) : entryFrame m #[(.ref x0), (.int x1)] 3 = mkF m 0 #[(.val (.ref x0)), (.val (.int x1)), .unset] [] := by first | (simp [entryFrame, mkF, argsToLocals, Value.category]; done) | rfl
set_option maxRecDepth 65536 in
set_option maxHeartbeats 4000000 in
theorem rmCO {l : Launch} {Z : State} {a0 : Array Value} (hw : ∀ d ∈ tables_1, d.before a0 Z = true) {n0 : Nat} {h0 : Heap} {v : Addr} {k : ClassId} {vs : List Value} {cap nl : Nat} (O : Old Z n0 h0) (HV : Arv Z h0 v k .byte (Int32.ofNat (cap)) vs (.int 0)) (hvs : vs.length ≤ cap) (h1 : cap < nl) (h2 : nl ≤ 130) :
    Pays l Z (⟨"java/util/Arrays", "copyOf", "([BI)[B"⟩ : MethodName) jdk_65_method_121_code 3 (some (.array .byte)) ({ frames := 1, cells := 1, slots := 130, locals := 40 } : Room) #[(.ref v), (.int (Int32.ofNat (nl)))] n0 h0 (QCp Z vs nl h0) := by
  refine Pays.of hw (plainFor_of_name pn2) (fun m => ef_rmCO m v (Int32.ofNat (nl))) fun B C M => ?_
  refine iIloadN C d23_0 rfl ?_
  refine iAloadN C d23_1 rfl rfl ?_
  obtain ⟨c1, A1, q1, z1, y1, H1, G1⟩ := id HV
  refine iLen C A1 (len_of z1 y1) d23_2 ?_
  refine iCmpT C (t := 14) d23_3 (feq (fun e => absurd ((own_eq (by omega) (by omega)).mp e) (by omega))).2 ⟨by decide, by decide⟩ ?_
  refine iIloadN C d23_14 rfl ?_
  refine iNewPE C (aty := .byte) (ad := "[B") tw15 (by decide) d23_15 (own_nn (i := nl) (by omega)) (cap := 130) (by rw [own_cl (i := nl) (by omega)]; omega) (by decide) ⟨rfl, rfl, by decide, by decide⟩ fun h2 a2 k2 g2 E2 V2 X2 => ?_
  have n_a2 : n0 ≤ a2 := oFresh O g2
  have O2 := O.ext E2
  have V2 : Arv Z h2 a2 k2 .byte (Int32.ofNat (nl)) [] (.int 0) := V2
  refine iAstoreN C d23_17 (Ls' := #[(.val (.ref v)), (.val (.int (Int32.ofNat (nl)))), (.val (.ref a2))]) rfl rfl ?_
  refine iAloadN C d23_18 rfl rfl ?_
  refine iIconst C d23_19 (v := (0 : Int32)) (by decide) ?_
  refine iAloadN C d23_20 rfl rfl ?_
  refine iIconst C d23_21 (v := (0 : Int32)) (by decide) ?_
  refine iAloadN C d23_22 rfl rfl ?_
  obtain ⟨c3, A3, q3, z3, y3, H3, G3⟩ := id (HV.ext E2)
  refine iLen C A3 (len_of z3 y3) d23_23 ?_
  refine iIloadN C d23_24 rfl ?_
  refine iCallS C (rmmin hw (a := cap) (b := nl) (by omega) (by omega)) tw142 tw143 tw134 tw144 ⟨by decide, by decide⟩ (argsL := [(.int (Int32.ofNat (cap))), (.int (Int32.ofNat (nl)))]) (S' := [(.int (0 : Int32)), (.ref a2), (.int (0 : Int32)), (.ref v)]) (lenOf pd0 rfl) rfl rfl d23_25 rfl (W := 4) rfl ⟨by decide, by decide, rfl, rfl, by decide, by decide⟩ fun v4 h4 q4 => ?_
  obtain ⟨rfl, rfl⟩ := q4
  show Go B n0 _ h2 1 130 28 _ [(.int (Int32.ofNat (min (cap) (nl)))), (.int (0 : Int32)), (.ref a2), (.int (0 : Int32)), (.ref v)]
  refine iCpA C (us := ((List.range (min (cap) (nl))).map fun i => vs.getD (0 + i) (.int 0))) tw145 tw121 tw119 tw120 (HV.ext E2) (Arv.pad (vs' := List.replicate (nl) (.int 0)) V2 (pad_rep [] (.int 0) (nl))) (Or.inl ⟨rfl, rfl⟩) (own_nn (i := 0) (by omega)) (own_nn (i := 0) (by omega)) (own_nn (i := min (cap) (nl)) (by omega)) (by rw [own_z, own_cl (i := min (cap) (nl)) (by omega)]; first | omega | (rw [own_cl (by omega)]; omega)) (by rw [own_z, own_cl (i := min (cap) (nl)) (by omega)]; first | omega | (rw [own_cl (by omega)]; omega)) (by rw [own_z, own_cl (i := min (cap) (nl)) (by omega)]) (by rw [own_z, own_cl (i := min (cap) (nl)) (by omega)]; simp; omega) n_a2 d23_28 rfl (by decide) (W := 0) rfl (by decide) fun h5 K5 V5 => ?_
  have O5 := O2.keep K5 (allS n_a2 all0)
  have Vx5 : Arv Z h5 a2 k2 .byte (Int32.ofNat (nl)) vs (.int 0) := by
    refine V5.pad fun i => ?_
    rw [own_z, own_cl (i := min (cap) (nl)) (by omega)]
    simp only [List.take_zero, List.nil_append, List.drop_replicate]
    rw [show nl - (0 + min (cap) (nl)) = nl - cap from by omega, pad_rep, show min (cap) (nl) = cap from by omega]
    exact own_cp vs (.int 0) cap hvs i
  refine iAloadN C d23_31 rfl rfl ?_
  refine iRetA C M d23_32 rfl rfl rfl ⟨Nat.le_refl _, by decide, by decide⟩ ?_
  exact ⟨_, _, rfl, (Nat.le_trans (Nat.le_refl _) (Nat.le_of_eq g2.symm)), ((Keep.refl _ _).ext E2).trans K5 (inS (Or.inr (Nat.le_trans (Nat.le_refl _) (Nat.le_of_eq g2.symm))) (fun x hx => (List.not_mem_nil hx).elim)), Vx5, (X2.keep K5)⟩
def QEC (Z : State) (b v : Addr) (cs : List Int32) (mn : Nat) (h0 : Heap) (r : Option Value) (h : Heap) : Prop := r = none ∧ Keep h0 h [b] ∧ ∃ (v1 : Addr) (k1 : ClassId) (cap1 : Nat), SBX Z h b v1 k1 cs cap1 ∧ mn ≤ cap1 ∧ (v1 = v ∨ h0.size ≤ v1) ∧ cap1 ≤ 120
theorem own_subneg {a b : Nat} (ha : a ≤ b) (hb : b ≤ 4000) : ¬ (0 : Int32) < Int32.ofNat a - Int32.ofNat b := by
  have e : Int32.ofNat a - Int32.ofNat b = -(Int32.ofNat (b - a)) := by rw [← own_sub ha, Int32.neg_sub]
  rw [e, Int32.lt_iff_toInt_lt, Int32.toInt_neg, Int32.toInt_ofNat_of_lt (by omega)]
  have q : (0 : Int32).toInt = 0 := by decide
  rw [q, Int.bmod_eq_of_le (by omega) (by omega)]
  omega
theorem ef_rmEC (m : MethodId) (x0 : Addr) (x1 : Int32) : entryFrame m #[(.ref x0), (.int x1)] 3 = mkF m 0 #[(.val (.ref x0)), (.val (.int x1)), .unset] [] := by first | (simp [entryFrame, mkF, argsToLocals, Value.category]; done) | rfl
set_option maxRecDepth 65536 in
set_option maxHeartbeats 4000000 in
theorem rmEC {l : Launch} {Z : State} {a0 : Array Value} (hw : ∀ d ∈ tables_1, d.before a0 Z = true) {n0 : Nat} {h0 : Heap} {b v : Addr} {k : ClassId} {cs : List Int32} {cap : Nat} {mn : Nat} (O : Old Z n0 h0) (HB : SBX Z h0 b v k cs cap) (nb : n0 ≤ b) (h1 : mn ≤ 60) (h3 : cap ≤ 120) :
    Pays l Z (⟨"java/lang/AbstractStringBuilder", "ensureCapacityInternal", "(I)V"⟩ : MethodName) jdk_68_method_9_code 3 none ({ frames := 3, cells := 1, slots := 130, locals := 55 } : Room) #[(.ref b), (.int (Int32.ofNat (mn)))] n0 h0 (QEC Z b v cs mn h0) := by
  refine Pays.of hw (plainFor_of_name pn1) (fun m => ef_rmEC m b (Int32.ofNat (mn))) fun B C M => ?_
  have hcap : cap ≤ 1500 := HB.2.2.2.2.2.2.1.2
  have hlen : cs.length ≤ cap := HB.2.2.2.2.2.2.1.1
  refine iAloadN C d16_0 rfl rfl ?_
  refine iGetF C tw70 HB.2.2.1 d16_1 ?_
  obtain ⟨c1, A1, q1, z1, y1, H1, G1⟩ := id HB.2.2.2.2.1
  refine iLen C A1 (len_of z1 y1) d16_4 ?_
  refine iAloadN C d16_5 rfl rfl ?_
  refine iGetF C tw72 HB.2.1 d16_6 ?_
  refine iIshr C d16_9 (v := (Int32.ofNat (cap))) (own_sh0 _).2 ?_
  refine iIstoreN C d16_10 (Ls' := #[(.val (.ref b)), (.val (.int (Int32.ofNat (mn)))), (.val (.int (Int32.ofNat (cap))))]) rfl ?_
  by_cases hq : Int32.ofNat cap < Int32.ofNat mn
  · have hgt : cap < mn := (own_lt (by omega) (by omega)).mp hq
    refine iIloadN C d16_11 rfl ?_
    refine iIloadN C d16_12 rfl ?_
    refine iIsub C d16_13 (v := (Int32.ofNat (mn - cap))) (own_sub (a := mn) (b := cap) (by omega)) ?_
    refine iIfF C d16_14 ((if0 _ _).trans (tlt ((own_lt (i := 0) (n := mn - cap) (by omega) (by omega)).mpr (by omega))).2.2.2) ?_
    refine iAloadN C d16_17 rfl rfl ?_
    refine iAloadN C d16_18 rfl rfl ?_
    refine iGetF C tw70 HB.2.2.1 d16_19 ?_
    refine iAloadN C d16_22 rfl rfl ?_
    refine iIloadN C d16_23 rfl ?_
    refine iCallQ C (rmNC hw HB hgt (by omega)) HB.1 tw123 tw124 tw126 tw125 tw66 tw127 ⟨by decide, by decide⟩ (a := b) (argsL := [(.int (Int32.ofNat (mn)))]) (S' := [(.ref v), (.ref b)]) (lenOf pd2 rfl) rfl rfl d16_24 rfl (W := 2) rfl ⟨by decide, by decide, rfl, rfl, by decide, by decide⟩ fun v2 h2 q2 => ?_
    obtain ⟨rfl, rfl⟩ := q2
    show Go B n0 _ h0 0 0 27 _ [(.int (Int32.ofNat (cap + max (mn - cap) (cap + 2)))), (.ref v), (.ref b)]
    refine iAloadN C d16_27 rfl rfl ?_
    refine iGetF C tw72 HB.2.1 d16_28 ?_
    refine iIshl C d16_31 (v := (Int32.ofNat (cap + max (mn - cap) (cap + 2)))) (own_sh0 _).1 ?_
    refine iCallS C (rmCO hw O HB.2.2.2.2.1 (by simp; omega) (nl := cap + max (mn - cap) (cap + 2)) (by omega) (by omega)) tw138 tw139 tw140 tw141 ⟨by decide, by decide⟩ (argsL := [(.ref v), (.int (Int32.ofNat (cap + max (mn - cap) (cap + 2))))]) (S' := [(.ref b)]) (lenOf pd3 rfl) rfl rfl d16_32 rfl (W := 1) rfl ⟨by decide, by decide, rfl, rfl, by decide, by decide⟩ fun v3 h3 q3 => ?_
    obtain ⟨a3, k3, rfl, sb3, K3, V3, X3⟩ := q3
    have O3 := O.keep K3 all0
    have n_a3 : n0 ≤ a3 := Nat.le_trans (oSize O) sb3
    show Go B n0 _ h3 1 130 35 _ [(.ref a3), (.ref b)]
    refine iPutF C (v := (.ref a3)) tw70 (HB.2.2.1.keep K3 nin0) (HB.1.keep K3) (Or.inl tw71) tw57 (ty := (.array .byte)) (by decide) rfl rfl nb d16_35 fun h4 W4 => ?_
    have Fw4 := Fld.same W4 (HB.2.2.1.keep K3 nin0)
    have O4 := O3.wr W4 nb
    refine iRetV C M d16_38 ⟨Nat.le_refl _, by decide, by decide⟩ ?_
    exact ⟨rfl, ((Keep.refl _ _).trans K3 (fun x hx => (List.not_mem_nil hx).elim)).wr W4 (Or.inl (by simp)), a3, k3, cap + max (mn - cap) (cap + 2), ⟨((HB.1.keep K3).wr W4), (Fld.other W4 (HB.2.1.keep K3 nin0) (Or.inr (slot_ne (Or.inl (hw _ tw73)) (Or.inl (hw _ tw71)) (by decide) (t := .byte) (t' := (.array .byte)) (by decide) (by decide)))), Fw4, (Fld.other W4 (HB.2.2.2.1.keep K3 nin0) (Or.inr (slot_ne (Or.inl (hw _ tw96)) (Or.inl (hw _ tw71)) (by decide) (t := .int) (t' := (.array .byte)) (by decide) (by decide)))), (V3.other W4 (ne_exa (X3.wr W4) ((HB.1.keep K3).wr W4) (by decide))), (X3.wr W4), ⟨by omega, by omega⟩, HB.2.2.2.2.2.2.2⟩, by omega, Or.inr (Nat.le_trans (Nat.le_refl _) sb3), by omega⟩
  · have hle : ¬ cap < mn := fun q => hq ((own_lt (by omega) (by omega)).mpr q)
    refine iIloadN C d16_11 rfl ?_
    refine iIloadN C d16_12 rfl ?_
    refine iIsub C d16_13 rfl ?_
    refine iIfT C (t := 38) d16_14 ((if0 _ _).trans (flt (own_subneg (by omega) (by omega))).2.2.2) ⟨by decide, by decide⟩ ?_
    refine iRetV C M d16_38 ⟨Nat.le_refl _, by decide, by decide⟩ ?_
    exact ⟨rfl, Keep.refl _ _, v, k, cap, HB, by omega, Or.inl rfl, h3⟩
theorem ef_rmCd (m : MethodId) (x0 : Addr) : entryFrame m #[(.ref x0)] 1 = mkF m 0 #[(.val (.ref x0))] [] := by first | (simp [entryFrame, mkF, argsToLocals, Value.category]; done) | rfl
set_option maxRecDepth 65536 in
set_option maxHeartbeats 4000000 in
theorem rmCd {l : Launch} {Z : State} {a0 : Array Value} (hw : ∀ d ∈ tables_1, d.before a0 Z = true) {n0 : Nat} {h0 : Heap} {s t : Addr} {k2 : ClassId} {ds : List Int32} (O : Old Z n0 h0) {z0 : Int32} (S0 : Sta Z Z.heap "java/lang/String" "COMPACT_STRINGS" "Z" (.int z0)) (hz0 : ¬ z0 = 0) (HS : SX Z h0 s t k2 ds) :
    Pays l Z (⟨"java/lang/String", "coder", "()B"⟩ : MethodName) jdk_42_method_152_code 1 (some .byte) ({ frames := 0, cells := 0, slots := 0, locals := 0 } : Room) #[(.ref s)] n0 h0 (QP (some (.int 0)) h0) := by
  refine Pays.of hw (plainFor_of_name pn3) (fun m => ef_rmCd m s) fun B C M => ?_
  refine iGetS C tw22 (S0.ext O.2) d15_0 ?_
  refine iIfF C d15_3 ((if0 _ _).trans (feq hz0).1) ?_
  refine iAloadN C d15_6 rfl rfl ?_
  refine iGetF C tw21 HS.2.1 d15_7 ?_
  refine iGoto C (t := 14) d15_10 ⟨by decide, by decide⟩ ?_
  refine iRetZ C M d15_14 (by simp) ⟨Nat.le_refl _, by decide, by decide⟩ ?_
  exact ⟨rfl, rfl⟩
def QGB (Z : State) (v : Addr) (k : ClassId) (cs ds : List Int32) (cap : Nat) (h0 : Heap) (r : Option Value) (h : Heap) : Prop := r = none ∧ Keep h0 h [v] ∧ Arv Z h v k .byte (Int32.ofNat (cap)) (((cs ++ ds).map lo8).map Value.int) (.int 0)
theorem own_cat (as bs : List Value) (dv : Value) (n m : Nat) (hn : as.length = n) (hm : bs.length = m) (e : Nat) : ∀ i, (as ++ bs).getD i dv = (as ++ List.replicate e dv |>.take n |> fun x => x ++ ((List.range m).map fun i => bs.getD (0 + i) dv) ++ (as ++ List.replicate e dv).drop (n + m)).getD i dv := fun i => by
  subst hn hm
  have e1 : (as ++ List.replicate e dv).take as.length = as := by simp
  have e2 : ((List.range bs.length).map fun i => bs.getD (0 + i) dv) = bs := by
    apply List.ext_getElem
    · simp
    · intro j h1 h2; simp [List.getD_eq_getElem?_getD, h2]
  have e3 : (as ++ List.replicate e dv).drop (as.length + bs.length) = List.replicate (e - bs.length) dv := by
    rw [List.drop_append, List.drop_eq_nil_of_le (by omega), List.nil_append, List.drop_replicate]
    congr 1
    omega
  rw [e1, e2, e3, pad_rep]
theorem ef_rmGB (m : MethodId) (x0 : Addr) (x1 : Addr) (x2 : Int32) : entryFrame m #[(.ref x0), (.ref x1), (.int x2), (.int (0 : Int32))] 4 = mkF m 0 #[(.val (.ref x0)), (.val (.ref x1)), (.val (.int x2)), (.val (.int (0 : Int32)))] [] := by first | (simp [entryFrame, mkF, argsToLocals, Value.category]; done) | rfl
set_option maxRecDepth 65536 in
set_option maxHeartbeats 4000000 in
theorem rmGB {l : Launch} {Z : State} {a0 : Array Value} (hw : ∀ d ∈ tables_1, d.before a0 Z = true) {n0 : Nat} {h0 : Heap} {s t : Addr} {k2 : ClassId} {ds : List Int32} {v : Addr} {k : ClassId} {cs : List Int32} {cap : Nat} (O : Old Z n0 h0) {z0 : Int32} (S0 : Sta Z Z.heap "java/lang/String" "COMPACT_STRINGS" "Z" (.int z0)) (hz0 : ¬ z0 = 0) (HS : SX Z h0 s t k2 ds) (HV : Arv Z h0 v k .byte (Int32.ofNat (cap)) ((cs.map lo8).map Value.int) (.int 0)) (nv : n0 ≤ v) (hl0 : cs.length + ds.length ≤ cap) (h2 : cap ≤ 1500) :
    Pays l Z (⟨"java/lang/String", "getBytes", "([BIB)V"⟩ : MethodName) jdk_42_method_147_code 4 none ({ frames := 1, cells := 0, slots := 0, locals := 40 } : Room) #[(.ref s), (.ref v), (.int (Int32.ofNat (cs.length))), (.int (0 : Int32))] n0 h0 (QGB Z v k cs ds cap h0) := by
  refine Pays.of hw (plainFor_of_name pn3) (fun m => ef_rmGB m s v (Int32.ofNat (cs.length))) fun B C M => ?_
  have hl : cs.length + ds.length ≤ cap := hl0
  refine iAloadN C d19_0 rfl rfl ?_
  refine iCallV C (rmCd hw O S0 hz0 ⟨HS.1, HS.2.1, HS.2.2.1, HS.2.2.2.1, HS.2.2.2.2.1, HS.2.2.2.2.2⟩) HS.1 tw90 tw91 (Or.inl rfl) tw93 tw92 tw3 tw94 ⟨by decide, by decide⟩ (argsL := []) (S' := []) (lenOf pd4 rfl) rfl rfl d19_1 rfl (W := 0) rfl ⟨by decide, by decide, rfl, rfl, by decide, by decide⟩ fun v1 h1 q1 => ?_
  obtain ⟨rfl, rfl⟩ := q1
  show Go B n0 _ h0 0 0 4 _ [(.int (0 : Int32))]
  refine iIloadN C d19_4 rfl ?_
  refine iCmpF C d19_5 (by decide) ?_
  refine iAloadN C d19_8 rfl rfl ?_
  refine iGetF C tw20 HS.2.2.1 d19_9 ?_
  refine iIconst C d19_12 (v := (0 : Int32)) (by decide) ?_
  refine iAloadN C d19_13 rfl rfl ?_
  refine iIloadN C d19_14 rfl ?_
  refine iIloadN C d19_15 rfl ?_
  refine iIshl C d19_16 (v := (Int32.ofNat (cs.length))) (own_sh0 _).1 ?_
  refine iAloadN C d19_17 rfl rfl ?_
  refine iGetF C tw20 HS.2.2.1 d19_18 ?_
  obtain ⟨c2, A2, q2, z2, y2, H2, G2⟩ := id HS.2.2.2.1
  refine iLen C A2 (len_of z2 y2) d19_21 ?_
  refine iCpA C (us := ((List.range (ds.length)).map fun i => ((ds.map lo8).map Value.int).getD (0 + i) (.int 0))) tw118 tw121 tw119 tw120 HS.2.2.2.1 (Arv.pad (vs' := ((cs.map lo8).map Value.int) ++ List.replicate cap (.int 0)) HV (pad_rep _ (.int 0) cap)) (Or.inl ⟨rfl, rfl⟩) (own_nn (i := 0) (by omega)) (own_nn (i := cs.length) (by omega)) (own_nn (i := ds.length) (by omega)) (by rw [own_z, own_cl (i := ds.length) (by omega)]; first | omega | (rw [own_cl (by omega)]; omega)) (by rw [own_cl (i := cs.length) (by omega), own_cl (i := ds.length) (by omega)]; first | omega | (rw [own_cl (by omega)]; omega)) (by rw [own_z, own_cl (i := ds.length) (by omega)]) (by rw [own_cl (i := cs.length) (by omega), own_cl (i := ds.length) (by omega)]; simp; omega) nv d19_22 rfl (by decide) (W := 0) rfl (by decide) fun h3 K3 V3 => ?_
  have O3 := O.keep K3 (allS nv all0)
  have Vx3 : Arv Z h3 v k .byte (Int32.ofNat (cap)) (((cs ++ ds).map lo8).map Value.int) (.int 0) := by
    refine V3.pad fun i => ?_
    rw [own_cl (i := cs.length) (by omega), own_cl (i := ds.length) (by omega), List.map_append, List.map_append]
    exact own_cat _ _ _ _ _ (by simp) (by simp) cap i
  refine iGoto C (t := 43) d19_25 ⟨by decide, by decide⟩ ?_
  refine iRetV C M d19_43 ⟨Nat.le_refl _, by decide, by decide⟩ ?_
  exact ⟨rfl, (Keep.refl _ _).trans K3 (inS (Or.inl (by simp)) (fun x hx => (List.not_mem_nil hx).elim)), Vx3⟩
theorem ef_rmIF (m : MethodId) (x0 : Addr) (x1 : Addr) : entryFrame m #[(.ref x0), (.ref x1)] 2 = mkF m 0 #[(.val (.ref x0)), (.val (.ref x1))] [] := by first | (simp [entryFrame, mkF, argsToLocals, Value.category]; done) | rfl
set_option maxRecDepth 65536 in
set_option maxHeartbeats 4000000 in
theorem rmIF {l : Launch} {Z : State} {a0 : Array Value} (hw : ∀ d ∈ tables_1, d.before a0 Z = true) {n0 : Nat} {h0 : Heap} {b v : Addr} {k : ClassId} {cs : List Int32} {cap : Nat} {s t : Addr} {k2 : ClassId} {ds : List Int32} (O : Old Z n0 h0) {z0 : Int32} (S0 : Sta Z Z.heap "java/lang/String" "COMPACT_STRINGS" "Z" (.int z0)) (hz0 : ¬ z0 = 0) (HB : SBX Z h0 b v k cs cap) (HS : SX Z h0 s t k2 ds) :
    Pays l Z (⟨"java/lang/AbstractStringBuilder", "inflateIfNeededFor", "(Ljava/lang/String;)V"⟩ : MethodName) jdk_68_method_71_code 2 none ({ frames := 1, cells := 0, slots := 0, locals := 13 } : Room) #[(.ref b), (.ref s)] n0 h0 (QP none h0) := by
  refine Pays.of hw (plainFor_of_name pn1) (fun m => ef_rmIF m b s) fun B C M => ?_
  have hcap : cap ≤ 1500 := HB.2.2.2.2.2.2.1.2
  have hlen : cs.length ≤ cap := HB.2.2.2.2.2.2.1.1
  refine iGetS C tw69 (S0.ext O.2) d18_0 ?_
  refine iIfF C d18_3 ((if0 _ _).trans (feq hz0).1) ?_
  refine iAloadN C d18_6 rfl rfl ?_
  refine iGetF C tw72 HB.2.1 d18_7 ?_
  refine iAloadN C d18_10 rfl rfl ?_
  refine iCallV C (rmCd hw O S0 hz0 ⟨HS.1, HS.2.1, HS.2.2.1, HS.2.2.2.1, HS.2.2.2.2.1, HS.2.2.2.2.2⟩) HS.1 tw112 tw91 (Or.inl rfl) tw93 tw92 tw3 tw94 ⟨by decide, by decide⟩ (argsL := []) (S' := [(.int (0 : Int32))]) (lenOf pd4 rfl) rfl rfl d18_11 rfl (W := 1) rfl ⟨by decide, by decide, rfl, rfl, by decide, by decide⟩ fun v1 h1 q1 => ?_
  obtain ⟨rfl, rfl⟩ := q1
  show Go B n0 _ h0 0 0 14 _ [(.int (0 : Int32)), (.int (0 : Int32))]
  refine iCmpT C (t := 21) d18_14 (by decide) ⟨by decide, by decide⟩ ?_
  refine iRetV C M d18_21 ⟨Nat.le_refl _, by decide, by decide⟩ ?_
  exact ⟨rfl, rfl⟩
def QPS (Z : State) (v : Addr) (k : ClassId) (cs ds : List Int32) (cap : Nat) (h0 : Heap) (r : Option Value) (h : Heap) : Prop := QGB Z v k cs ds cap h0 r h
theorem ef_rmPS (m : MethodId) (x0 : Addr) (x1 : Int32) (x2 : Addr) : entryFrame m #[(.ref x0), (.int x1), (.ref x2)] 3 = mkF m 0 #[(.val (.ref x0)), (.val (.int x1)), (.val (.ref x2))] [] := by first | (simp [entryFrame, mkF, argsToLocals, Value.category]; done) | rfl
set_option maxRecDepth 65536 in
set_option maxHeartbeats 4000000 in
theorem rmPS {l : Launch} {Z : State} {a0 : Array Value} (hw : ∀ d ∈ tables_1, d.before a0 Z = true) {n0 : Nat} {h0 : Heap} {b v : Addr} {k : ClassId} {cs : List Int32} {cap : Nat} {s t : Addr} {k2 : ClassId} {ds : List Int32} (O : Old Z n0 h0) {z0 : Int32} (S0 : Sta Z Z.heap "java/lang/String" "COMPACT_STRINGS" "Z" (.int z0)) (hz0 : ¬ z0 = 0) (HB : SBX Z h0 b v k cs cap) (HS : SX Z h0 s t k2 ds) (nv : n0 ≤ v) (hl0 : cs.length + ds.length ≤ cap) :
    Pays l Z (⟨"java/lang/AbstractStringBuilder", "putStringAt", "(ILjava/lang/String;)V"⟩ : MethodName) jdk_68_method_73_code 3 none ({ frames := 2, cells := 0, slots := 0, locals := 55 } : Room) #[(.ref b), (.int (Int32.ofNat (cs.length))), (.ref s)] n0 h0 (QPS Z v k cs ds cap h0) := by
  refine Pays.of hw (plainFor_of_name pn1) (fun m => ef_rmPS m b (Int32.ofNat (cs.length)) s) fun B C M => ?_
  have hcap : cap ≤ 1500 := HB.2.2.2.2.2.2.1.2
  have hlen : cs.length ≤ cap := HB.2.2.2.2.2.2.1.1
  refine iAloadN C d17_0 rfl rfl ?_
  refine iAloadN C d17_1 rfl rfl ?_
  refine iCallQ C (rmIF hw O S0 hz0 HB HS) HB.1 tw107 tw108 tw110 tw109 tw66 tw111 ⟨by decide, by decide⟩ (a := b) (argsL := [(.ref s)]) (S' := []) (lenOf pd5 rfl) rfl rfl d17_2 rfl (W := 0) rfl ⟨by decide, by decide, rfl, rfl, by decide, by decide⟩ fun v1 h1 q1 => ?_
  obtain ⟨rfl, rfl⟩ := q1
  show Go B n0 _ h0 0 0 5 _ []
  refine iAloadN C d17_5 rfl rfl ?_
  refine iAloadN C d17_6 rfl rfl ?_
  refine iGetF C tw70 HB.2.2.1 d17_7 ?_
  refine iIloadN C d17_10 rfl ?_
  refine iAloadN C d17_11 rfl rfl ?_
  refine iGetF C tw72 HB.2.1 d17_12 ?_
  refine iCallV C (rmGB hw O S0 hz0 HS HB.2.2.2.2.1 nv hl0 hcap) HS.1 tw113 tw114 (Or.inl rfl) tw116 tw115 tw3 tw117 ⟨by decide, by decide⟩ (argsL := [(.ref v), (.int (Int32.ofNat (cs.length))), (.int (0 : Int32))]) (S' := []) (lenOf pd6 rfl) rfl rfl d17_15 rfl (W := 0) rfl ⟨by decide, by decide, rfl, rfl, by decide, by decide⟩ fun v2 h2 q2 => ?_
  obtain ⟨rfl, K2, V2⟩ := q2
  have O2 := O.keep K2 (allS nv all0)
  show Go B n0 _ h2 0 0 18 _ []
  refine iRetV C M d17_18 ⟨Nat.le_refl _, by decide, by decide⟩ ?_
  exact ⟨rfl, (Keep.refl _ _).trans K2 (inS (Or.inl (by simp)) (fun x hx => (List.not_mem_nil hx).elim)), V2⟩
def QAp (Z : State) (b v : Addr) (cs : List Int32) (h0 : Heap) (r : Option Value) (h : Heap) : Prop := r = some (.ref b) ∧ Keep h0 h [b, v] ∧ ∃ (v1 : Addr) (k1 : ClassId) (cap1 : Nat), SBX Z h b v1 k1 cs cap1 ∧ (v1 = v ∨ h0.size ≤ v1) ∧ cap1 ≤ 120
theorem altIn {x b v : Addr} {n : Nat} (h : x = v ∨ n ≤ x) : x ∈ [b, v] ∨ n ≤ x := h.elim (fun e => Or.inl (by simp [e])) Or.inr
theorem ef_rmAp (m : MethodId) (x0 : Addr) (x1 : Addr) : entryFrame m #[(.ref x0), (.ref x1)] 3 = mkF m 0 #[(.val (.ref x0)), (.val (.ref x1)), .unset] [] := by first | (simp [entryFrame, mkF, argsToLocals, Value.category]; done) | rfl
set_option maxRecDepth 65536 in
set_option maxHeartbeats 4000000 in
theorem rmAp {l : Launch} {Z : State} {a0 : Array Value} (hw : ∀ d ∈ tables_1, d.before a0 Z = true) {n0 : Nat} {h0 : Heap} {b v : Addr} {k : ClassId} {cs : List Int32} {cap : Nat} {s t : Addr} {k2 : ClassId} {ds : List Int32} (O : Old Z n0 h0) {z0 : Int32} (S0 : Sta Z Z.heap "java/lang/String" "COMPACT_STRINGS" "Z" (.int z0)) (hz0 : ¬ z0 = 0) (HB : SBX Z h0 b v k cs cap) (HS : SX Z h0 s t k2 ds) (nb : n0 ≤ b) (nv : n0 ≤ v) (h3 : cap ≤ 120) (hl0 : cs.length + ds.length ≤ 60) :
    Pays l Z (⟨"java/lang/AbstractStringBuilder", "append", "(Ljava/lang/String;)Ljava/lang/AbstractStringBuilder;"⟩ : MethodName) jdk_68_method_22_code 3 (some (.object "java/lang/AbstractStringBuilder")) ({ frames := 4, cells := 1, slots := 130, locals := 69 } : Room) #[(.ref b), (.ref s)] n0 h0 (QAp Z b v (cs ++ ds) h0) := by
  refine Pays.of hw (plainFor_of_name pn1) (fun m => ef_rmAp m b s) fun B C M => ?_
  have hcap : cap ≤ 1500 := HB.2.2.2.2.2.2.1.2
  have hlen : cs.length ≤ cap := HB.2.2.2.2.2.2.1.1
  have hds : ds.length ≤ 4000 := HS.2.2.2.2.1
  refine iAloadN C d13_0 rfl rfl ?_
  refine iNonnullT C (t := 9) d13_1 ⟨by decide, by decide⟩ ?_
  refine iAloadN C d13_9 rfl rfl ?_
  refine iCallVB C (payLen hw HS (S0.ext O.2) hz0 (by decide) (by decide)) HS.1 tw85 tw86 (Or.inl rfl) tw88 tw87 ⟨by decide, by decide⟩ (argsL := []) (S' := []) (lenOf pd7 rfl) rfl rfl d13_10 rfl (W := 0) rfl ⟨rfl, rfl, by decide, by decide⟩ fun v1 h1 q1 => ?_
  obtain ⟨rfl, rfl⟩ := q1
  show Go B n0 _ h0 0 0 13 _ [(.int (Int32.ofNat (ds.length)))]
  refine iIstoreN C d13_13 (Ls' := #[(.val (.ref b)), (.val (.ref s)), (.val (.int (Int32.ofNat (ds.length))))]) rfl ?_
  refine iAloadN C d13_14 rfl rfl ?_
  refine iAloadN C d13_15 rfl rfl ?_
  refine iGetF C tw95 HB.2.2.2.1 d13_16 ?_
  refine iIloadN C d13_19 rfl ?_
  refine iIadd C d13_20 (v := (Int32.ofNat (cs.length + (ds.length)))) (own_add (cs.length) (ds.length)) ?_
  refine iCallQ C (rmEC hw O HB nb (by omega) h3) HB.1 tw97 tw98 tw100 tw99 tw66 tw101 ⟨by decide, by decide⟩ (a := b) (argsL := [(.int (Int32.ofNat (cs.length + (ds.length))))]) (S' := []) (lenOf pd8 rfl) rfl rfl d13_21 rfl (W := 0) rfl ⟨by decide, by decide, rfl, rfl, by decide, by decide⟩ fun v2 h2 q2 => ?_
  obtain ⟨rfl, K2, v1_2, k1_2, cap1_2, SB2, mnl2, alt2, cb2⟩ := q2
  have O2 := O.keep K2 (allS nb all0)
  have hc1_2 : cap1_2 ≤ 1500 := SB2.2.2.2.2.2.2.1.2
  have nv_v1_2 : n0 ≤ v1_2 := alt2.elim (fun q => by rw [q]; exact nv) (Nat.le_trans (oSize O))
  show Go B n0 _ h2 1 130 24 _ []
  refine iAloadN C d13_24 rfl rfl ?_
  refine iAloadN C d13_25 rfl rfl ?_
  refine iGetF C tw95 SB2.2.2.2.1 d13_26 ?_
  refine iAloadN C d13_29 rfl rfl ?_
  refine iCallQ C (rmPS hw O2 S0 hz0 SB2 ⟨(HS.1.keep K2), (HS.2.1.keep K2 (ninS (ne_exa HS.1 HB.1 (by decide)) nin0)), (HS.2.2.1.keep K2 (ninS (ne_exa HS.1 HB.1 (by decide)) nin0)), (HS.2.2.2.1.keep K2 (ninS (Ne.symm (Exa.neArv HB.1 HS.2.2.2.1 (hw _ tw57))) nin0)), HS.2.2.2.2.1, HS.2.2.2.2.2⟩ nv_v1_2 (by omega)) SB2.1 tw102 tw103 tw105 tw104 tw66 tw106 ⟨by decide, by decide⟩ (a := b) (argsL := [(.int (Int32.ofNat (cs.length))), (.ref s)]) (S' := []) (lenOf pd9 rfl) rfl rfl d13_30 rfl (W := 0) rfl ⟨by decide, by decide, rfl, rfl, by decide, by decide⟩ fun v3 h3 q3 => ?_
  obtain ⟨rfl, K3, V3⟩ := q3
  have O3 := O2.keep K3 (allS nv_v1_2 all0)
  show Go B n0 _ h3 1 130 33 _ []
  refine iAloadN C d13_33 rfl rfl ?_
  refine iDup C d13_34 rfl ?_
  refine iGetF C tw95 (SB2.2.2.2.1.keep K3 (ninS (ne_exa SB2.1 SB2.2.2.2.2.2.1 (by decide)) nin0)) d13_35 ?_
  refine iIloadN C d13_38 rfl ?_
  refine iIadd C d13_39 (v := (Int32.ofNat (cs.length + (ds.length)))) (own_add (cs.length) (ds.length)) ?_
  refine iPutF C (v := (.int (Int32.ofNat (cs.length + (ds.length))))) tw95 (SB2.2.2.2.1.keep K3 (ninS (ne_exa SB2.1 SB2.2.2.2.2.2.1 (by decide)) nin0)) (SB2.1.keep K3) (Or.inl tw96) tw57 (ty := .int) (by decide) rfl rfl nb d13_40 fun h4 W4 => ?_
  have Fw4 := Fld.same W4 (SB2.2.2.2.1.keep K3 (ninS (ne_exa SB2.1 SB2.2.2.2.2.2.1 (by decide)) nin0))
  have O4 := O3.wr W4 nb
  refine iAloadN C d13_43 rfl rfl ?_
  refine iRetA C M d13_44 rfl rfl rfl ⟨Nat.le_refl _, by decide, by decide⟩ ?_
  have hsz : (cs ++ ds).length = cs.length + ds.length := List.length_append
  exact ⟨rfl, (((Keep.refl _ _).trans K2 (inS (Or.inl (by simp)) (fun x hx => (List.not_mem_nil hx).elim))).trans K3 (inS (altIn alt2) (fun x hx => (List.not_mem_nil hx).elim))).wr W4 (Or.inl (by simp)), v1_2, k1_2, cap1_2, ⟨((SB2.1.keep K3).wr W4), (Fld.other W4 (SB2.2.1.keep K3 (ninS (ne_exa SB2.1 SB2.2.2.2.2.2.1 (by decide)) nin0)) (Or.inr (slot_ne (Or.inl (hw _ tw73)) (Or.inl (hw _ tw96)) (by decide) (t := .byte) (t' := .int) (by decide) (by decide)))), (Fld.other W4 (SB2.2.2.1.keep K3 (ninS (ne_exa SB2.1 SB2.2.2.2.2.2.1 (by decide)) nin0)) (Or.inr (slot_ne (Or.inl (hw _ tw71)) (Or.inl (hw _ tw96)) (by decide) (t := (.array .byte)) (t' := .int) (by decide) (by decide)))), by rw [hsz]; exact Fw4, (V3.other W4 (Ne.symm (ne_exa SB2.1 SB2.2.2.2.2.2.1 (by decide)))), ((SB2.2.2.2.2.2.1.keep K3).wr W4), ⟨by omega, by omega⟩, fun c hc => (List.mem_append.mp hc).elim (HB.2.2.2.2.2.2.2 c) (HS.2.2.2.2.2 c)⟩, alt2, cb2⟩
theorem ef_rmSAp (m : MethodId) (x0 : Addr) (x1 : Addr) : entryFrame m #[(.ref x0), (.ref x1)] 2 = mkF m 0 #[(.val (.ref x0)), (.val (.ref x1))] [] := by first | (simp [entryFrame, mkF, argsToLocals, Value.category]; done) | rfl
set_option maxRecDepth 65536 in
set_option maxHeartbeats 4000000 in
theorem rmSAp {l : Launch} {Z : State} {a0 : Array Value} (hw : ∀ d ∈ tables_1, d.before a0 Z = true) {n0 : Nat} {h0 : Heap} {b v : Addr} {k : ClassId} {cs : List Int32} {cap : Nat} {s t : Addr} {k2 : ClassId} {ds : List Int32} (O : Old Z n0 h0) {z0 : Int32} (S0 : Sta Z Z.heap "java/lang/String" "COMPACT_STRINGS" "Z" (.int z0)) (hz0 : ¬ z0 = 0) (HB : SBX Z h0 b v k cs cap) (HS : SX Z h0 s t k2 ds) (nb : n0 ≤ b) (nv : n0 ≤ v) (h3 : cap ≤ 120) (hl0 : cs.length + ds.length ≤ 60) :
    Pays l Z (⟨"java/lang/StringBuilder", "append", "(Ljava/lang/String;)Ljava/lang/StringBuilder;"⟩ : MethodName) jdk_67_method_7_code 2 (some (.object "java/lang/StringBuilder")) ({ frames := 5, cells := 1, slots := 130, locals := 83 } : Room) #[(.ref b), (.ref s)] n0 h0 (QAp Z b v (cs ++ ds) h0) := by
  refine Pays.of hw (plainFor_of_name pn4) (fun m => ef_rmSAp m b s) fun B C M => ?_
  have hcap : cap ≤ 1500 := HB.2.2.2.2.2.2.1.2
  have hlen : cs.length ≤ cap := HB.2.2.2.2.2.2.1.1
  refine iAloadN C d12_0 rfl rfl ?_
  refine iAloadN C d12_1 rfl rfl ?_
  refine iCallU C (rmAp hw O S0 hz0 HB HS nb nv h3 hl0) (Ins.self HB.1) (by decide) tw80 (own_same (yd := (⟨"java/lang/AbstractStringBuilder", "isLatin1", "()Z"⟩ : MethodName)) rfl ⟨by decide, by decide⟩ (hw _ tw81) (hw _ tw163) (hw _ tw164)) tw81 tw82 tw66 tw84 (a := b) (argsL := [(.ref s)]) (S' := []) (lenOf pd10 rfl) rfl rfl d12_2 rfl (W := 0) rfl ⟨by decide, by decide, rfl, rfl, by decide, by decide⟩ fun v1 h1 q1 => ?_
  obtain ⟨rfl, K1, rest1⟩ := q1
  have O1 := O.keep K1 (allS nb (allS nv all0))
  show Go B n0 _ h1 1 130 5 _ [(.ref b)]
  refine iPop C d12_5 rfl ?_
  refine iAloadN C d12_6 rfl rfl ?_
  refine iRetA C M d12_7 rfl rfl rfl ⟨Nat.le_refl _, by decide, by decide⟩ ?_
  exact ⟨rfl, K1, rest1⟩
theorem ef_rmIL (m : MethodId) (x0 : Addr) : entryFrame m #[(.ref x0)] 1 = mkF m 0 #[(.val (.ref x0))] [] := by first | (simp [entryFrame, mkF, argsToLocals, Value.category]; done) | rfl
set_option maxRecDepth 65536 in
set_option maxHeartbeats 4000000 in
theorem rmIL {l : Launch} {Z : State} {a0 : Array Value} (hw : ∀ d ∈ tables_1, d.before a0 Z = true) {n0 : Nat} {h0 : Heap} {b v : Addr} {k : ClassId} {cs : List Int32} {cap : Nat} (O : Old Z n0 h0) {z0 : Int32} (S0 : Sta Z Z.heap "java/lang/String" "COMPACT_STRINGS" "Z" (.int z0)) (hz0 : ¬ z0 = 0) (HB : SBX Z h0 b v k cs cap) :
    Pays l Z (⟨"java/lang/AbstractStringBuilder", "isLatin1", "()Z"⟩ : MethodName) jdk_68_method_68_code 1 (some .boolean) ({ frames := 0, cells := 0, slots := 0, locals := 0 } : Room) #[(.ref b)] n0 h0 (QP (some (.int 1)) h0) := by
  refine Pays.of hw (plainFor_of_name pn1) (fun m => ef_rmIL m b) fun B C M => ?_
  have hcap : cap ≤ 1500 := HB.2.2.2.2.2.2.1.2
  have hlen : cs.length ≤ cap := HB.2.2.2.2.2.2.1.1
  refine iGetS C tw69 (S0.ext O.2) d28_0 ?_
  refine iIfF C d28_3 ((if0 _ _).trans (feq hz0).1) ?_
  refine iAloadN C d28_6 rfl rfl ?_
  refine iGetF C tw72 HB.2.1 d28_7 ?_
  refine iIfF C d28_10 (by decide) ?_
  refine iIconst C d28_13 (v := (1 : Int32)) (by decide) ?_
  refine iGoto C (t := 18) d28_14 ⟨by decide, by decide⟩ ?_
  refine iRetZ C M d28_18 (by simp) ⟨Nat.le_refl _, by decide, by decide⟩ ?_
  exact ⟨rfl, rfl⟩
theorem ef_rmGV (m : MethodId) (x0 : Addr) : entryFrame m #[(.ref x0)] 1 = mkF m 0 #[(.val (.ref x0))] [] := by first | (simp [entryFrame, mkF, argsToLocals, Value.category]; done) | rfl
set_option maxRecDepth 65536 in
set_option maxHeartbeats 4000000 in
theorem rmGV {l : Launch} {Z : State} {a0 : Array Value} (hw : ∀ d ∈ tables_1, d.before a0 Z = true) {n0 : Nat} {h0 : Heap} {b v : Addr} {k : ClassId} {cs : List Int32} {cap : Nat} (HB : SBX Z h0 b v k cs cap) :
    Pays l Z (⟨"java/lang/AbstractStringBuilder", "getValue", "()[B"⟩ : MethodName) jdk_68_method_64_code 1 (some (.array .byte)) ({ frames := 0, cells := 0, slots := 0, locals := 0 } : Room) #[(.ref b)] n0 h0 (QP (some (.ref v)) h0) := by
  refine Pays.of hw (plainFor_of_name pn1) (fun m => ef_rmGV m b) fun B C M => ?_
  have hcap : cap ≤ 1500 := HB.2.2.2.2.2.2.1.2
  have hlen : cs.length ≤ cap := HB.2.2.2.2.2.2.1.1
  refine iAloadN C d33_0 rfl rfl ?_
  refine iGetF C tw70 HB.2.2.1 d33_1 ?_
  refine iRetA C M d33_4 rfl rfl rfl ⟨Nat.le_refl _, by decide, by decide⟩ ?_
  exact ⟨rfl, rfl⟩
theorem ef_rmAL (m : MethodId) (x0 : Addr) : entryFrame m #[(.ref x0)] 1 = mkF m 0 #[(.val (.ref x0))] [] := by first | (simp [entryFrame, mkF, argsToLocals, Value.category]; done) | rfl
set_option maxRecDepth 65536 in
set_option maxHeartbeats 4000000 in
theorem rmAL {l : Launch} {Z : State} {a0 : Array Value} (hw : ∀ d ∈ tables_1, d.before a0 Z = true) {n0 : Nat} {h0 : Heap} {b v : Addr} {k : ClassId} {cs : List Int32} {cap : Nat} (HB : SBX Z h0 b v k cs cap) :
    Pays l Z (⟨"java/lang/AbstractStringBuilder", "length", "()I"⟩ : MethodName) jdk_68_method_6_code 1 (some .int) ({ frames := 0, cells := 0, slots := 0, locals := 0 } : Room) #[(.ref b)] n0 h0 (QP (some (.int (Int32.ofNat (cs.length)))) h0) := by
  refine Pays.of hw (plainFor_of_name pn1) (fun m => ef_rmAL m b) fun B C M => ?_
  have hcap : cap ≤ 1500 := HB.2.2.2.2.2.2.1.2
  have hlen : cs.length ≤ cap := HB.2.2.2.2.2.2.1.1
  refine iAloadN C d35_0 rfl rfl ?_
  refine iGetF C tw95 HB.2.2.2.1 d35_1 ?_
  refine iRetI C M d35_4 ⟨Nat.le_refl _, by decide, by decide⟩ ?_
  exact ⟨rfl, rfl⟩
theorem ef_rmSL (m : MethodId) (x0 : Addr) : entryFrame m #[(.ref x0)] 1 = mkF m 0 #[(.val (.ref x0))] [] := by first | (simp [entryFrame, mkF, argsToLocals, Value.category]; done) | rfl
set_option maxRecDepth 65536 in
set_option maxHeartbeats 4000000 in
theorem rmSL {l : Launch} {Z : State} {a0 : Array Value} (hw : ∀ d ∈ tables_1, d.before a0 Z = true) {n0 : Nat} {h0 : Heap} {b v : Addr} {k : ClassId} {cs : List Int32} {cap : Nat} (HB : SBX Z h0 b v k cs cap) :
    Pays l Z (⟨"java/lang/StringBuilder", "length", "()I"⟩ : MethodName) jdk_67_method_93_code 1 (some .int) ({ frames := 1, cells := 0, slots := 0, locals := 12 } : Room) #[(.ref b)] n0 h0 (QP (some (.int (Int32.ofNat (cs.length)))) h0) := by
  refine Pays.of hw (plainFor_of_name pn4) (fun m => ef_rmSL m b) fun B C M => ?_
  have hcap : cap ≤ 1500 := HB.2.2.2.2.2.2.1.2
  have hlen : cs.length ≤ cap := HB.2.2.2.2.2.2.1.1
  refine iAloadN C d34_0 rfl rfl ?_
  refine iCallU C (rmAL hw HB) (Ins.self HB.1) (by decide) tw198 (own_same (yd := (⟨"java/lang/AbstractStringBuilder", "isLatin1", "()Z"⟩ : MethodName)) rfl ⟨by decide, by decide⟩ (hw _ tw194) (hw _ tw163) (hw _ tw164)) tw194 tw82 tw66 tw199 (a := b) (argsL := []) (S' := []) (lenOf pd7 rfl) rfl rfl d34_1 rfl (W := 0) rfl ⟨by decide, by decide, rfl, rfl, by decide, by decide⟩ fun v1 h1 q1 => ?_
  obtain ⟨rfl, rfl⟩ := q1
  show Go B n0 _ h0 0 0 4 _ [(.int (Int32.ofNat (cs.length)))]
  refine iRetI C M d34_4 ⟨Nat.le_refl _, by decide, by decide⟩ ?_
  exact ⟨rfl, rfl⟩
def QI (Z : State) (b : Addr) (h0 : Heap) (r : Option Value) (h : Heap) : Prop := r = none ∧ Keep h0 h [b] ∧ ∃ (v1 : Addr) (k1 : ClassId), SBX Z h b v1 k1 [] 16 ∧ h0.size ≤ v1
theorem ef_rmBI (m : MethodId) (x0 : Addr) (x1 : Int32) : entryFrame m #[(.ref x0), (.int x1)] 2 = mkF m 0 #[(.val (.ref x0)), (.val (.int x1))] [] := by first | (simp [entryFrame, mkF, argsToLocals, Value.category]; done) | rfl
set_option maxRecDepth 65536 in
set_option maxHeartbeats 4000000 in
theorem rmBI {l : Launch} {Z : State} {a0 : Array Value} (hw : ∀ d ∈ tables_1, d.before a0 Z = true) {n0 : Nat} {h0 : Heap} {b : Addr} (O : Old Z n0 h0) {z0 : Int32} (S0 : Sta Z Z.heap "java/lang/String" "COMPACT_STRINGS" "Z" (.int z0)) (hz0 : ¬ z0 = 0) (EB : Exa Z h0 b "java/lang/StringBuilder") (F1 : Fld Z h0 b "java/lang/AbstractStringBuilder" "value" "[B" .null) (F2 : Fld Z h0 b "java/lang/AbstractStringBuilder" "coder" "B" (.int (0 : Int32))) (F3 : Fld Z h0 b "java/lang/AbstractStringBuilder" "count" "I" (.int (0 : Int32))) (nb : n0 ≤ b) :
    Pays l Z (⟨"java/lang/AbstractStringBuilder", "<init>", "(I)V"⟩ : MethodName) jdk_68_method_2_code 2 none ({ frames := 1, cells := 1, slots := 16, locals := 12 } : Room) #[(.ref b), (.int (Int32.ofNat (16)))] n0 h0 (QI Z b h0) := by
  refine Pays.of hw (plainFor_of_name pn1) (fun m => ef_rmBI m b (Int32.ofNat (16))) fun B C M => ?_
  refine iAloadN C d11_0 rfl rfl ?_
  refine iInitO C tw68 tw12 tw13 d11_1 rfl (by decide) (W := 0) rfl (by decide) ?_
  refine iGetS C tw69 (S0.ext O.2) d11_4 ?_
  refine iIfF C d11_7 ((if0 _ _).trans (feq hz0).1) ?_
  refine iAloadN C d11_10 rfl rfl ?_
  refine iIloadN C d11_11 rfl ?_
  refine iNewPE C (aty := .byte) (ad := "[B") tw15 (by decide) d11_12 (own_nn (i := 16) (by omega)) (cap := 16) (by rw [own_cl (i := 16) (by omega)]; omega) (by decide) ⟨rfl, rfl, by decide, by decide⟩ fun h1 a1 k1 g1 E1 V1 X1 => ?_
  have n_a1 : n0 ≤ a1 := oFresh O g1
  have O1 := O.ext E1
  have V1 : Arv Z h1 a1 k1 .byte (Int32.ofNat (16)) [] (.int 0) := V1
  refine iPutF C (v := (.ref a1)) tw70 (F1.ext E1) (EB.ext E1) (Or.inl tw71) tw57 (ty := (.array .byte)) (by decide) rfl rfl nb d11_14 fun h2 W2 => ?_
  have Fw2 := Fld.same W2 (F1.ext E1)
  have O2 := O1.wr W2 nb
  refine iAloadN C d11_17 rfl rfl ?_
  refine iIconst C d11_18 (v := (0 : Int32)) (by decide) ?_
  refine iPutF C (v := (.int (0 : Int32))) tw72 (Fld.other W2 (F2.ext E1) (Or.inr (slot_ne (Or.inl (hw _ tw73)) (Or.inl (hw _ tw71)) (by decide) (t := .byte) (t' := (.array .byte)) (by decide) (by decide)))) ((EB.ext E1).wr W2) (Or.inl tw73) tw57 (ty := .byte) (by decide) rfl rfl nb d11_19 fun h3 W3 => ?_
  have Fw3 := Fld.same W3 (Fld.other W2 (F2.ext E1) (Or.inr (slot_ne (Or.inl (hw _ tw73)) (Or.inl (hw _ tw71)) (by decide) (t := .byte) (t' := (.array .byte)) (by decide) (by decide))))
  have O3 := O2.wr W3 nb
  refine iGoto C (t := 38) d11_22 ⟨by decide, by decide⟩ ?_
  refine iRetV C M d11_38 ⟨Nat.le_refl _, by decide, by decide⟩ ?_
  exact ⟨rfl, (((Keep.refl _ _).ext E1).wr W2 (Or.inl (by simp))).wr W3 (Or.inl (by simp)), a1, k1, ⟨(((EB.ext E1).wr W2).wr W3), Fw3, (Fld.other W3 Fw2 (Or.inr (slot_ne (Or.inl (hw _ tw71)) (Or.inl (hw _ tw73)) (by decide) (t := (.array .byte)) (t' := .byte) (by decide) (by decide)))), (Fld.other W3 (Fld.other W2 (F3.ext E1) (Or.inr (slot_ne (Or.inl (hw _ tw96)) (Or.inl (hw _ tw71)) (by decide) (t := .int) (t' := (.array .byte)) (by decide) (by decide)))) (Or.inr (slot_ne (Or.inl (hw _ tw96)) (Or.inl (hw _ tw73)) (by decide) (t := .int) (t' := .byte) (by decide) (by decide)))), ((V1.other W2 (ne_exa ((X1.wr W2).wr W3) (((EB.ext E1).wr W2).wr W3) (by decide))).other W3 (ne_exa ((X1.wr W2).wr W3) (((EB.ext E1).wr W2).wr W3) (by decide))), ((X1.wr W2).wr W3), ⟨by decide, by decide⟩, fun c hc => (List.not_mem_nil hc).elim⟩, (Nat.le_trans (Nat.le_refl _) (Nat.le_of_eq g1.symm))⟩
theorem ef_rmSBI (m : MethodId) (x0 : Addr) : entryFrame m #[(.ref x0)] 1 = mkF m 0 #[(.val (.ref x0))] [] := by first | (simp [entryFrame, mkF, argsToLocals, Value.category]; done) | rfl
set_option maxRecDepth 65536 in
set_option maxHeartbeats 4000000 in
theorem rmSBI {l : Launch} {Z : State} {a0 : Array Value} (hw : ∀ d ∈ tables_1, d.before a0 Z = true) {n0 : Nat} {h0 : Heap} {b : Addr} (O : Old Z n0 h0) {z0 : Int32} (S0 : Sta Z Z.heap "java/lang/String" "COMPACT_STRINGS" "Z" (.int z0)) (hz0 : ¬ z0 = 0) (EB : Exa Z h0 b "java/lang/StringBuilder") (F1 : Fld Z h0 b "java/lang/AbstractStringBuilder" "value" "[B" .null) (F2 : Fld Z h0 b "java/lang/AbstractStringBuilder" "coder" "B" (.int (0 : Int32))) (F3 : Fld Z h0 b "java/lang/AbstractStringBuilder" "count" "I" (.int (0 : Int32))) (nb : n0 ≤ b) :
    Pays l Z (⟨"java/lang/StringBuilder", "<init>", "()V"⟩ : MethodName) jdk_67_method_1_code 1 none ({ frames := 2, cells := 1, slots := 16, locals := 25 } : Room) #[(.ref b)] n0 h0 (QI Z b h0) := by
  refine Pays.of hw (plainFor_of_name pn4) (fun m => ef_rmSBI m b) fun B C M => ?_
  refine iAloadN C d10_0 rfl rfl ?_
  refine iBipush C d10_1 (v := (16 : Int32)) (by decide) ?_
  refine iCallI C (rmBI hw O S0 hz0 EB F1 F2 F3 nb) rfl tw62 tw63 tw66 tw67 ⟨by decide, by decide⟩ (a := b) (argsL := [(.int (16 : Int32))]) (S' := []) (lenOf pd8 rfl) rfl rfl d10_3 rfl (W := 0) rfl ⟨by decide, by decide, rfl, rfl, by decide, by decide⟩ fun v1 h1 q1 => ?_
  obtain ⟨rfl, K1, rest1⟩ := q1
  have O1 := O.keep K1 (allS nb all0)
  show Go B n0 _ h1 1 16 6 _ []
  refine iRetV C M d10_6 ⟨Nat.le_refl _, by decide, by decide⟩ ?_
  exact ⟨rfl, K1, rest1⟩
theorem ef_rmCL (m : MethodId) (x1 : Int32) : entryFrame m #[(.int (0 : Int32)), (.int x1)] 2 = mkF m 0 #[(.val (.int (0 : Int32))), (.val (.int x1))] [] := by first | (simp [entryFrame, mkF, argsToLocals, Value.category]; done) | rfl
set_option maxRecDepth 65536 in
set_option maxHeartbeats 4000000 in
theorem rmCL {l : Launch} {Z : State} {a0 : Array Value} (hw : ∀ d ∈ tables_1, d.before a0 Z = true) {n0 : Nat} {h0 : Heap} {n : Nat} (hn : n ≤ 4000) :
    Pays l Z (⟨"java/util/Arrays", "checkLength", "(II)V"⟩ : MethodName) jdk_65_method_131_code 2 none ({ frames := 0, cells := 0, slots := 0, locals := 0 } : Room) #[(.int (0 : Int32)), (.int (Int32.ofNat (n)))] n0 h0 (QP none h0) := by
  refine Pays.of hw (plainFor_of_name pn2) (fun m => ef_rmCL m (Int32.ofNat (n))) fun B C M => ?_
  refine iIloadN C d38_0 rfl ?_
  refine iIloadN C d38_1 rfl ?_
  refine iCmpT C (t := 37) d38_2 (flt (own_nn (i := n) hn)).2.1 ⟨by decide, by decide⟩ ?_
  refine iRetV C M d38_37 ⟨Nat.le_refl _, by decide, by decide⟩ ?_
  exact ⟨rfl, rfl⟩
theorem ef_rmRB (m : MethodId) (x0 : Addr) (x2 : Int32) : entryFrame m #[(.ref x0), (.int (0 : Int32)), (.int x2)] 5 = mkF m 0 #[(.val (.ref x0)), (.val (.int (0 : Int32))), (.val (.int x2)), .unset, .unset] [] := by first | (simp [entryFrame, mkF, argsToLocals, Value.category]; done) | rfl
set_option maxRecDepth 65536 in
set_option maxHeartbeats 4000000 in
theorem rmRB {l : Launch} {Z : State} {a0 : Array Value} (hw : ∀ d ∈ tables_1, d.before a0 Z = true) {n0 : Nat} {h0 : Heap} {v : Addr} {k : ClassId} {vs : List Value} {cap len : Nat} (O : Old Z n0 h0) (HV : Arv Z h0 v k .byte (Int32.ofNat (cap)) vs (.int 0)) (HE : Exa Z h0 v "[B") (hvs : vs.length ≤ len) (h1 : len ≤ cap) (h2 : cap ≤ 130) :
    Pays l Z (⟨"java/util/Arrays", "copyOfRangeByte", "([BII)[B"⟩ : MethodName) jdk_65_method_133_code 5 (some (.array .byte)) ({ frames := 1, cells := 1, slots := 130, locals := 40 } : Room) #[(.ref v), (.int (0 : Int32)), (.int (Int32.ofNat (len)))] n0 h0 (QCp Z vs len h0) := by
  refine Pays.of hw (plainFor_of_name pn2) (fun m => ef_rmRB m v (Int32.ofNat (len))) fun B C M => ?_
  refine iIloadN C d37_0 rfl ?_
  refine iIloadN C d37_1 rfl ?_
  refine iCallS C (rmCL hw (n := len) (by omega)) tw207 tw208 tw140 tw209 ⟨by decide, by decide⟩ (argsL := [(.int (0 : Int32)), (.int (Int32.ofNat (len)))]) (S' := []) (lenOf pd11 rfl) rfl rfl d37_2 rfl (W := 0) rfl ⟨by decide, by decide, rfl, rfl, by decide, by decide⟩ fun v1 h1 q1 => ?_
  obtain ⟨rfl, rfl⟩ := q1
  show Go B n0 _ h0 0 0 5 _ []
  refine iIloadN C d37_5 rfl ?_
  refine iIloadN C d37_6 rfl ?_
  refine iIsub C d37_7 (v := (Int32.ofNat (len - 0))) (own_sub (a := len) (b := 0) (by omega)) ?_
  refine iIstoreN C d37_8 (Ls' := #[(.val (.ref v)), (.val (.int (0 : Int32))), (.val (.int (Int32.ofNat (len)))), (.val (.int (Int32.ofNat (len - 0)))), .unset]) rfl ?_
  refine iIloadN C d37_9 rfl ?_
  refine iNewPE C (aty := .byte) (ad := "[B") tw15 (by decide) d37_10 (own_nn (i := len - 0) (by omega)) (cap := 130) (by rw [own_cl (i := len - 0) (by omega)]; omega) (by decide) ⟨rfl, rfl, by decide, by decide⟩ fun h2 a2 k2 g2 E2 V2 X2 => ?_
  have n_a2 : n0 ≤ a2 := oFresh O g2
  have O2 := O.ext E2
  have V2 : Arv Z h2 a2 k2 .byte (Int32.ofNat (len - 0)) [] (.int 0) := V2
  refine iAstore C d37_12 (Ls' := #[(.val (.ref v)), (.val (.int (0 : Int32))), (.val (.int (Int32.ofNat (len)))), (.val (.int (Int32.ofNat (len - 0)))), (.val (.ref a2))]) rfl rfl ?_
  refine iAloadN C d37_14 rfl rfl ?_
  refine iIloadN C d37_15 rfl ?_
  refine iAload C d37_16 rfl rfl ?_
  refine iIconst C d37_18 (v := (0 : Int32)) (by decide) ?_
  refine iAloadN C d37_19 rfl rfl ?_
  obtain ⟨c3, A3, q3, z3, y3, H3, G3⟩ := id (HV.ext E2)
  refine iLen C A3 (len_of z3 y3) d37_20 ?_
  refine iIloadN C d37_21 rfl ?_
  refine iIsub C d37_22 (v := (Int32.ofNat (cap - 0))) (own_sub (a := cap) (b := 0) (by omega)) ?_
  refine iIloadN C d37_23 rfl ?_
  refine iCallS C (rmmin hw (a := cap - 0) (b := len - 0) (by omega) (by omega)) tw142 tw143 tw134 tw144 ⟨by decide, by decide⟩ (argsL := [(.int (Int32.ofNat (cap - 0))), (.int (Int32.ofNat (len - 0)))]) (S' := [(.int (0 : Int32)), (.ref a2), (.int (0 : Int32)), (.ref v)]) (lenOf pd0 rfl) rfl rfl d37_24 rfl (W := 4) rfl ⟨by decide, by decide, rfl, rfl, by decide, by decide⟩ fun v4 h4 q4 => ?_
  obtain ⟨rfl, rfl⟩ := q4
  show Go B n0 _ h2 1 130 27 _ [(.int (Int32.ofNat (min (cap - 0) (len - 0)))), (.int (0 : Int32)), (.ref a2), (.int (0 : Int32)), (.ref v)]
  refine iCpA C (us := ((List.range (min (cap - 0) (len - 0))).map fun i => vs.getD (0 + i) (.int 0))) tw145 tw121 tw119 tw120 (HV.ext E2) (Arv.pad (vs' := List.replicate (len - 0) (.int 0)) V2 (pad_rep [] (.int 0) (len - 0))) (Or.inl ⟨rfl, rfl⟩) (own_nn (i := 0) (by omega)) (own_nn (i := 0) (by omega)) (own_nn (i := min (cap - 0) (len - 0)) (by omega)) (by rw [own_z, own_cl (i := min (cap - 0) (len - 0)) (by omega)]; first | omega | (rw [own_cl (by omega)]; omega)) (by rw [own_z, own_cl (i := min (cap - 0) (len - 0)) (by omega)]; first | omega | (rw [own_cl (by omega)]; omega)) (by rw [own_z, own_cl (i := min (cap - 0) (len - 0)) (by omega)]) (by rw [own_z, own_cl (i := min (cap - 0) (len - 0)) (by omega)]; simp; omega) n_a2 d37_27 rfl (by decide) (W := 0) rfl (by decide) fun h5 K5 V5 => ?_
  have O5 := O2.keep K5 (allS n_a2 all0)
  have Vx5 : Arv Z h5 a2 k2 .byte (Int32.ofNat (len)) vs (.int 0) := by
    refine V5.pad fun i => ?_
    rw [own_z, own_cl (i := min (cap - 0) (len - 0)) (by omega)]
    simp only [List.take_zero, List.nil_append, List.drop_replicate]
    rw [pad_rep, show min (cap - 0) (len - 0) = len from by omega]
    exact own_cp vs (.int 0) len hvs i
  refine iAload C d37_30 rfl rfl ?_
  refine iRetA C M d37_32 rfl rfl rfl ⟨Nat.le_refl _, by decide, by decide⟩ ?_
  exact ⟨_, _, rfl, (Nat.le_trans (Nat.le_refl _) (Nat.le_of_eq g2.symm)), ((Keep.refl _ _).ext E2).trans K5 (inS (Or.inr (Nat.le_trans (Nat.le_refl _) (Nat.le_of_eq g2.symm))) (fun x hx => (List.not_mem_nil hx).elim)), Vx5, (X2.keep K5)⟩
theorem ef_rmCR (m : MethodId) (x0 : Addr) (x2 : Int32) : entryFrame m #[(.ref x0), (.int (0 : Int32)), (.int x2)] 3 = mkF m 0 #[(.val (.ref x0)), (.val (.int (0 : Int32))), (.val (.int x2))] [] := by first | (simp [entryFrame, mkF, argsToLocals, Value.category]; done) | rfl
set_option maxRecDepth 65536 in
set_option maxHeartbeats 4000000 in
theorem rmCR {l : Launch} {Z : State} {a0 : Array Value} (hw : ∀ d ∈ tables_1, d.before a0 Z = true) {n0 : Nat} {h0 : Heap} {v : Addr} {k : ClassId} {vs : List Value} {cap len : Nat} (O : Old Z n0 h0) (HV : Arv Z h0 v k .byte (Int32.ofNat (cap)) vs (.int 0)) (HE : Exa Z h0 v "[B") (hvs : vs.length ≤ len) (h1 : len ≤ cap) (h2 : cap ≤ 130) :
    Pays l Z (⟨"java/util/Arrays", "copyOfRange", "([BII)[B"⟩ : MethodName) jdk_65_method_132_code 3 (some (.array .byte)) ({ frames := 2, cells := 1, slots := 130, locals := 56 } : Room) #[(.ref v), (.int (0 : Int32)), (.int (Int32.ofNat (len)))] n0 h0 (QCp Z vs len h0) := by
  refine Pays.of hw (plainFor_of_name pn2) (fun m => ef_rmCR m v (Int32.ofNat (len))) fun B C M => ?_
  refine iIloadN C d36_0 rfl ?_
  refine iIfF C d36_1 (by decide) ?_
  refine iIloadN C d36_4 rfl ?_
  refine iAloadN C d36_5 rfl rfl ?_
  obtain ⟨c1, A1, q1, z1, y1, H1, G1⟩ := id HV
  refine iLen C A1 (len_of z1 y1) d36_6 ?_
  by_cases hc2 : (Int32.ofNat (len)) = (Int32.ofNat (cap))
  · refine iCmpT C (t := 17) d36_7 (teq hc2).1 ⟨by decide, by decide⟩ ?_
    have he : len = cap := (own_eq (by omega) (by omega)).mp hc2
    refine iAloadN C d36_17 rfl rfl ?_
    refine iCloneV C tw267 tw268 tw272 tw270 tw271 tw273 HV HE (cap := 130) (by rw [own_cl (i := cap) (by omega)]; omega) d36_18 rfl (by decide) (W := 0) rfl (by decide) ⟨rfl, rfl, by decide, by decide⟩ fun h3 a3 g3 E3 V3 X3 => ?_
    have n_a3 : n0 ≤ a3 := oFresh O g3
    have O3 := O.ext E3
    refine iCast C tw274 (Ins.self X3) d36_21 ?_
    refine iRetA C M d36_24 rfl rfl rfl ⟨Nat.le_refl _, by decide, by decide⟩ ?_
    refine ⟨_, k, rfl, (Nat.le_trans (Nat.le_refl _) (Nat.le_of_eq g3.symm)), (Keep.refl _ _).ext E3, ?_, X3⟩
    rw [he]
    exact V3
  · refine iCmpF C d36_7 (feq hc2).1 ?_
    have he : ¬ len = cap := fun q => hc2 ((own_eq (by omega) (by omega)).mpr q)
    refine iAloadN C d36_10 rfl rfl ?_
    refine iIloadN C d36_11 rfl ?_
    refine iIloadN C d36_12 rfl ?_
    refine iCallS C (rmRB hw O HV HE hvs h1 h2) tw204 tw205 tw140 tw206 ⟨by decide, by decide⟩ (argsL := [(.ref v), (.int (0 : Int32)), (.int (Int32.ofNat (len)))]) (S' := []) (lenOf pd12 rfl) rfl rfl d36_13 rfl (W := 0) rfl ⟨by decide, by decide, rfl, rfl, by decide, by decide⟩ fun v4 h4 q4 => ?_
    obtain ⟨a4, k4, rfl, sb4, K4, V4, X4⟩ := q4
    have O4 := O.keep K4 all0
    show Go B n0 _ h4 1 130 16 _ [(.ref a4)]
    refine iRetA C M d36_16 rfl rfl rfl ⟨Nat.le_refl _, by decide, by decide⟩ ?_
    exact ⟨_, _, rfl, sb4, K4, V4, X4⟩
theorem ef_rmS2 (m : MethodId) (x0 : Addr) (x1 : Addr) : entryFrame m #[(.ref x0), (.ref x1), .null] 5 = mkF m 0 #[(.val (.ref x0)), (.val (.ref x1)), (.val .null), .unset, .unset] [] := by first | (simp [entryFrame, mkF, argsToLocals, Value.category]; done) | rfl
set_option maxRecDepth 65536 in
set_option maxHeartbeats 4000000 in
theorem rmS2 {l : Launch} {Z : State} {a0 : Array Value} (hw : ∀ d ∈ tables_1, d.before a0 Z = true) {n0 : Nat} {h0 : Heap} {x : Addr} {b v : Addr} {k : ClassId} {cs : List Int32} {cap : Nat} (O : Old Z n0 h0) {z0 : Int32} (S0 : Sta Z Z.heap "java/lang/String" "COMPACT_STRINGS" "Z" (.int z0)) (hz0 : ¬ z0 = 0) (HB : SBX Z h0 b v k cs cap) (h3 : cap ≤ 120) (nx : n0 ≤ x) (EX : Exa Z h0 x "java/lang/String") (X1 : Fld Z h0 x "java/lang/String" "value" "[B" .null) (X2 : Fld Z h0 x "java/lang/String" "coder" "B" (.int (0 : Int32))) :
    Pays l Z (⟨"java/lang/String", "<init>", "(Ljava/lang/AbstractStringBuilder;Ljava/lang/Void;)V"⟩ : MethodName) jdk_42_method_150_code 5 none ({ frames := 3, cells := 1, slots := 130, locals := 71 } : Room) #[(.ref x), (.ref b), .null] n0 h0 (QStr Z x cs h0 n0) := by
  refine Pays.of hw (plainFor_of_name pn3) (fun m => ef_rmS2 m x b) fun B C M => ?_
  have hcap : cap ≤ 1500 := HB.2.2.2.2.2.2.1.2
  have hlen : cs.length ≤ cap := HB.2.2.2.2.2.2.1.1
  refine iAloadN C d32_0 rfl rfl ?_
  refine iInitO C tw11 tw12 tw13 d32_1 rfl (by decide) (W := 0) rfl (by decide) ?_
  refine iAloadN C d32_4 rfl rfl ?_
  refine iCallV C (rmGV hw HB) HB.1 tw187 tw188 (Or.inl rfl) tw190 tw189 tw66 tw191 ⟨by decide, by decide⟩ (argsL := []) (S' := []) (lenOf pd13 rfl) rfl rfl d32_5 rfl (W := 0) rfl ⟨by decide, by decide, rfl, rfl, by decide, by decide⟩ fun v1 h1 q1 => ?_
  obtain ⟨rfl, rfl⟩ := q1
  show Go B n0 _ h0 0 0 8 _ [(.ref v)]
  refine iAstoreN C d32_8 (Ls' := #[(.val (.ref x)), (.val (.ref b)), (.val .null), (.val (.ref v)), .unset]) rfl rfl ?_
  refine iAloadN C d32_9 rfl rfl ?_
  refine iCallX C (rmSL hw HB) HB.1 tw192 tw193 (ye := (⟨"java/lang/AbstractStringBuilder", "isLatin1", "()Z"⟩ : MethodName)) ⟨rfl, tw163, tw164⟩ tw195 tw196 tw58 tw197 ⟨by decide, by decide⟩ (argsL := []) (S' := []) (lenOf pd7 rfl) rfl rfl d32_10 rfl (W := 0) rfl ⟨by decide, by decide, rfl, rfl, by decide, by decide⟩ fun v2 h2 q2 => ?_
  obtain ⟨rfl, rfl⟩ := q2
  show Go B n0 _ h0 0 0 13 _ [(.int (Int32.ofNat (cs.length)))]
  refine iIstore C d32_13 (Ls' := #[(.val (.ref x)), (.val (.ref b)), (.val .null), (.val (.ref v)), (.val (.int (Int32.ofNat (cs.length))))]) rfl ?_
  refine iAloadN C d32_15 rfl rfl ?_
  refine iCallV C (rmIL hw O S0 hz0 HB) HB.1 tw200 tw162 (Or.inl rfl) tw164 tw163 tw66 tw165 ⟨by decide, by decide⟩ (argsL := []) (S' := []) (lenOf pd14 rfl) rfl rfl d32_16 rfl (W := 0) rfl ⟨by decide, by decide, rfl, rfl, by decide, by decide⟩ fun v3 h3 q3 => ?_
  obtain ⟨rfl, rfl⟩ := q3
  show Go B n0 _ h0 0 0 19 _ [(.int (1 : Int32))]
  refine iIfF C d32_19 (by decide) ?_
  refine iAloadN C d32_22 rfl rfl ?_
  refine iIconst C d32_23 (v := (0 : Int32)) (by decide) ?_
  refine iPutF C (v := (.int (0 : Int32))) tw21 X2 EX (Or.inr ⟨tw17, rfl, rfl⟩) tw2 (ty := .byte) (by decide) rfl rfl nx d32_24 fun h4 W4 => ?_
  have Fw4 := Fld.same W4 X2
  have O4 := O.wr W4 nx
  refine iAloadN C d32_27 rfl rfl ?_
  refine iAloadN C d32_28 rfl rfl ?_
  refine iIconst C d32_29 (v := (0 : Int32)) (by decide) ?_
  refine iIload C d32_30 rfl ?_
  refine iCallS C (rmCR hw O4 (HB.2.2.2.2.1.other W4 (ne_exa HB.2.2.2.2.2.1 EX (by decide))) (HB.2.2.2.2.2.1.wr W4) (by simp) (by omega) (by omega)) tw201 tw202 tw140 tw203 ⟨by decide, by decide⟩ (argsL := [(.ref v), (.int (0 : Int32)), (.int (Int32.ofNat (cs.length)))]) (S' := [(.ref x)]) (lenOf pd12 rfl) rfl rfl d32_32 rfl (W := 1) rfl ⟨by decide, by decide, rfl, rfl, by decide, by decide⟩ fun v5 h5 q5 => ?_
  obtain ⟨a5, k5, rfl, sb5, K5, V5, X5⟩ := q5
  have O5 := O4.keep K5 all0
  have n_a5 : n0 ≤ a5 := Nat.le_trans (oSize O4) sb5
  show Go B n0 _ h5 1 130 35 _ [(.ref a5), (.ref x)]
  refine iPutF C (v := (.ref a5)) tw20 ((Fld.other W4 X1 (Or.inr (slot_ne (Or.inr (hw _ tw16)) (Or.inr (hw _ tw17)) (by decide) (t := (.array .byte)) (t' := .byte) (by decide) (by decide)))).keep K5 nin0) ((EX.wr W4).keep K5) (Or.inr ⟨tw16, rfl, rfl⟩) tw2 (ty := (.array .byte)) (by decide) rfl rfl nx d32_35 fun h6 W6 => ?_
  have Fw6 := Fld.same W6 ((Fld.other W4 X1 (Or.inr (slot_ne (Or.inr (hw _ tw16)) (Or.inr (hw _ tw17)) (by decide) (t := (.array .byte)) (t' := .byte) (by decide) (by decide)))).keep K5 nin0)
  have O6 := O5.wr W6 nx
  refine iGoto C (t := 97) d32_38 ⟨by decide, by decide⟩ ?_
  refine iRetV C M d32_97 ⟨Nat.le_refl _, by decide, by decide⟩ ?_
  exact ⟨rfl, (((Keep.refl _ _).wr W4 (Or.inl (by simp))).trans K5 (fun x hx => (List.not_mem_nil hx).elim)).wr W6 (Or.inl (by simp)), a5, k5, (((EX.wr W4).keep K5).wr W6), (Fld.other W6 (Fw4.keep K5 nin0) (Or.inr (slot_ne (Or.inr (hw _ tw17)) (Or.inr (hw _ tw16)) (by decide) (t := .byte) (t' := (.array .byte)) (by decide) (by decide)))), Fw6, (V5.other W6 (Ne.symm (ne_exa ((EX.wr W4).keep K5) X5 (by decide)))), by omega, HB.2.2.2.2.2.2.2⟩
theorem ef_rmS1 (m : MethodId) (x0 : Addr) (x1 : Addr) : entryFrame m #[(.ref x0), (.ref x1)] 2 = mkF m 0 #[(.val (.ref x0)), (.val (.ref x1))] [] := by first | (simp [entryFrame, mkF, argsToLocals, Value.category]; done) | rfl
set_option maxRecDepth 65536 in
set_option maxHeartbeats 4000000 in
theorem rmS1 {l : Launch} {Z : State} {a0 : Array Value} (hw : ∀ d ∈ tables_1, d.before a0 Z = true) {n0 : Nat} {h0 : Heap} {x : Addr} {b v : Addr} {k : ClassId} {cs : List Int32} {cap : Nat} (O : Old Z n0 h0) {z0 : Int32} (S0 : Sta Z Z.heap "java/lang/String" "COMPACT_STRINGS" "Z" (.int z0)) (hz0 : ¬ z0 = 0) (HB : SBX Z h0 b v k cs cap) (h3 : cap ≤ 120) (nx : n0 ≤ x) (EX : Exa Z h0 x "java/lang/String") (X1 : Fld Z h0 x "java/lang/String" "value" "[B" .null) (X2 : Fld Z h0 x "java/lang/String" "coder" "B" (.int (0 : Int32))) :
    Pays l Z (⟨"java/lang/String", "<init>", "(Ljava/lang/StringBuilder;)V"⟩ : MethodName) jdk_42_method_53_code 2 none ({ frames := 4, cells := 1, slots := 130, locals := 87 } : Room) #[(.ref x), (.ref b)] n0 h0 (QStr Z x cs h0 n0) := by
  refine Pays.of hw (plainFor_of_name pn3) (fun m => ef_rmS1 m x b) fun B C M => ?_
  have hcap : cap ≤ 1500 := HB.2.2.2.2.2.2.1.2
  have hlen : cs.length ≤ cap := HB.2.2.2.2.2.2.1.1
  refine iAloadN C d31_0 rfl rfl ?_
  refine iAloadN C d31_1 rfl rfl ?_
  refine iNull C d31_2 ?_
  refine iCallI C (rmS2 hw O S0 hz0 HB h3 nx EX X1 X2) rfl tw184 tw185 tw3 tw186 ⟨by decide, by decide⟩ (a := x) (argsL := [(.ref b), .null]) (S' := []) (lenOf pd15 rfl) rfl rfl d31_3 rfl (W := 0) rfl ⟨by decide, by decide, rfl, rfl, by decide, by decide⟩ fun v1 h1 q1 => ?_
  obtain ⟨rfl, K1, rest1⟩ := q1
  have O1 := O.keep K1 (allS nx all0)
  show Go B n0 _ h1 1 130 6 _ []
  refine iRetV C M d31_6 ⟨Nat.le_refl _, by decide, by decide⟩ ?_
  exact ⟨rfl, K1, rest1⟩
def QTS (Z : State) (cs : List Int32) (h0 : Heap) (r : Option Value) (h : Heap) : Prop := ∃ (x t : Addr) (k : ClassId), r = some (.ref x) ∧ Keep h0 h [] ∧ h0.size ≤ x ∧ SX Z h x t k cs
theorem SBX.ext {Z : State} {h h2 : Heap} {b v : Addr} {k : ClassId} {cs : List Int32} {cap : Nat} (q : SBX Z h b v k cs cap) (E : Ext h h2) : SBX Z h2 b v k cs cap := ⟨q.1.ext E, q.2.1.ext E, q.2.2.1.ext E, q.2.2.2.1.ext E, q.2.2.2.2.1.ext E, q.2.2.2.2.2.1.ext E, q.2.2.2.2.2.2⟩
theorem ef_rmTS (m : MethodId) (x0 : Addr) : entryFrame m #[(.ref x0)] 1 = mkF m 0 #[(.val (.ref x0))] [] := by first | (simp [entryFrame, mkF, argsToLocals, Value.category]; done) | rfl
set_option maxRecDepth 65536 in
set_option maxHeartbeats 4000000 in
theorem rmTS {l : Launch} {Z : State} {a0 : Array Value} (hw : ∀ d ∈ tables_1, d.before a0 Z = true) {n0 : Nat} {h0 : Heap} {b v : Addr} {k : ClassId} {cs : List Int32} {cap : Nat} (O : Old Z n0 h0) {z0 : Int32} (S0 : Sta Z Z.heap "java/lang/String" "COMPACT_STRINGS" "Z" (.int z0)) (hz0 : ¬ z0 = 0) (HB : SBX Z h0 b v k cs cap) (h3 : cap ≤ 120) :
    Pays l Z (⟨"java/lang/StringBuilder", "toString", "()Ljava/lang/String;"⟩ : MethodName) jdk_67_method_42_code 1 (some (.object "java/lang/String")) ({ frames := 5, cells := 2, slots := 134, locals := 101 } : Room) #[(.ref b)] n0 h0 (QTS Z cs h0) := by
  refine Pays.of hw (plainFor_of_name pn4) (fun m => ef_rmTS m b) fun B C M => ?_
  have hcap : cap ≤ 1500 := HB.2.2.2.2.2.2.1.2
  have hlen : cs.length ≤ cap := HB.2.2.2.2.2.2.1.1
  refine iNew C tw180 tw2 tw3 d30_0 ⟨rfl, rfl, by decide, by decide⟩ fun h1 a1 g1 E1 A1 D1 => ?_
  have n_a1 : n0 ≤ a1 := oFresh O g1
  have O1 := O.ext E1
  have F1_value : Fld Z h1 a1 "java/lang/String" "value" "[B" .null := D1 (Or.inr (hw _ tw16)) (ty := (.array .byte)) (by decide)
  have F1_coder : Fld Z h1 a1 "java/lang/String" "coder" "B" (.int (0 : Int32)) := D1 (Or.inr (hw _ tw17)) (ty := .byte) (by decide)
  refine iDup C d30_3 rfl ?_
  refine iAloadN C d30_4 rfl rfl ?_
  refine iCallI C (rmS1 hw O1 S0 hz0 (SBX.ext HB E1) h3 n_a1 A1 F1_value F1_coder) rfl tw181 tw182 tw3 tw183 ⟨by decide, by decide⟩ (a := a1) (argsL := [(.ref b)]) (S' := [(.ref a1)]) (lenOf pd16 rfl) rfl rfl d30_5 rfl (W := 1) rfl ⟨by decide, by decide, rfl, rfl, by decide, by decide⟩ fun v2 h2 q2 => ?_
  obtain ⟨rfl, K2, t2, k2, sx2⟩ := q2
  have O2 := O1.keep K2 (allS n_a1 all0)
  show Go B n0 _ h2 2 134 8 _ [(.ref a1)]
  refine iRetA C M d30_8 rfl rfl rfl ⟨Nat.le_refl _, by decide, by decide⟩ ?_
  exact ⟨_, t2, k2, rfl, ((Keep.refl _ _).ext E1).trans K2 (inS (Or.inr (Nat.le_trans (Nat.le_refl _) (Nat.le_of_eq g1.symm))) (fun x hx => (List.not_mem_nil hx).elim)), (Nat.le_trans (Nat.le_refl _) (Nat.le_of_eq g1.symm)), sx2⟩
open Jvm.Free.SBG in
/-- the text of x, n = |x| -/
def txtL (x : Int64) (n : Nat) : List Int32 := (if x < 0 then [45] else []) ++ (List.range (digitsL n)).map fun t => Int32.ofNat (48 + n / 10 ^ (digitsL n - 1 - t) % 10)
theorem txtL_len (x : Int64) (n : Nat) : (txtL x n).length = Jvm.Free.SBG.digitsL n + Jvm.Free.SBG.GetCharsL.sgnL x := by
  unfold txtL Jvm.Free.SBG.GetCharsL.sgnL
  split <;> simp [Nat.add_comm]
theorem own_dn (x : Int64) (n : Nat) : Jvm.Free.SBG.digitsL n + Jvm.Free.SBG.GetCharsL.sgnL x ≤ 21 := by
  have q := Jvm.Free.SBG.digitsL_pos n
  have q2 : Jvm.Free.SBG.GetCharsL.sgnL x ≤ 1 := by unfold Jvm.Free.SBG.GetCharsL.sgnL; split <;> decide
  omega
theorem txtL_rng (x : Int64) (n : Nat) : ∀ c ∈ txtL x n, ¬ c < 0 ∧ ¬ (255 : Int32) < c := by
  have key : ∀ d, d < 10 → ¬ Int32.ofNat (48 + d) < 0 ∧ ¬ (255 : Int32) < Int32.ofNat (48 + d) := by decide
  intro c hc
  unfold txtL at hc
  rcases List.mem_append.mp hc with q | q
  · split at q
    · simp only [List.mem_singleton] at q; subst q; decide
    · cases q
  · obtain ⟨t, -, rfl⟩ := List.mem_map.mp q
    exact key _ (Nat.mod_lt _ (by decide))
theorem own_lo8 : ∀ d, d < 10 → lo8 (Int32.ofNat (48 + d)) = Int32.ofNat (48 + d) := by decide
theorem own_at3 {α : Type} (as bs ds : List α) (j : Nat) : (as ++ (bs ++ ds))[j]? = if j < as.length then as[j]? else if j < as.length + bs.length then bs[j - as.length]? else ds[j - as.length - bs.length]? := by
  rw [List.getElem?_append]
  split
  · rfl
  · rw [List.getElem?_append]
    split
    · rw [if_pos (by omega)]
    · rw [if_neg (by omega)]
set_option maxRecDepth 65536 in
theorem own_wL : ∀ d ∈ [Jvm.Cond.code Jvm.Free.SBG.StrSizeL.ssN Jvm.Free.SBG.StrSizeL.ssB 6 (some .int), .constantLong Jvm.Free.SBG.LNG 140 (-10), .constantLong Jvm.Free.SBG.LNG 53 10, .initialized Jvm.Free.SBG.LNG, .code Jvm.Free.SBG.GetCharsL.gcN Jvm.Free.SBG.GetCharsL.gcB 11 (some .int), .fieldLink Jvm.Free.SBG.LNG 133 Jvm.Free.SBG.INT "DigitOnes" "[B", .fieldLink Jvm.Free.SBG.LNG 137 Jvm.Free.SBG.INT "DigitTens" "[B", .constantLong Jvm.Free.SBG.LNG 129 (-2147483648), .constantLong Jvm.Free.SBG.LNG 131 100], d ∈ tables_1 := by decide +kernel
theorem paySS {l : Launch} {Z : State} {a0 : Array Value} {R : Room} {W n0 : Nat} {h : Heap} (hw : ∀ d ∈ tables_1, d.before a0 Z = true) {x : Int64} {n : Nat} (hn : n ≤ 2 ^ 63) (hx : (if x < 0 then x else -x) = Jvm.Free.SBG.negL n) (hfr : 2 ≤ R.frames) (hlo : W + 57 ≤ R.locals) : Pay l Z R (⟨"java/lang/Long", "stringSize", "(J)I"⟩ : MethodName) 3 W #[.long x] n0 h 0 0 (QP (some (.int (Int32.ofNat (Jvm.Free.SBG.digitsL n + Jvm.Free.SBG.GetCharsL.sgnL x)))) h) := by
  intro p e below s args hZ
  intro m meth c P g ig mk a X hg hsize hdg hW hnm hp
  obtain ⟨rfl, rfl, r1, r2⟩ := hp
  have t : Jvm.Free.SBG.StrSizeL.tab.before args s = true := by
    simp only [Jvm.Free.SBG.StrSizeL.tab, Cond.before_and, Bool.and_eq_true]
    exact ⟨mvT hZ (hw _ (own_wL _ (by simp))), mvT hZ (hw _ (own_wL _ (by simp))), mvT hZ (hw _ (own_wL _ (by simp)))⟩
  obtain ⟨v, B, X', ⟨⟨q1, q2, q3, q4⟩, q5⟩, st⟩ := Jvm.Free.SBG.StrSizeL.pays (W := W) hfr hlo t (mvT hZ (hw _ (own_wL _ (by simp)))) m meth c P g ig mk _ X hg hsize hdg hW hnm ⟨by omega, by omega, x, rfl⟩
  refine ⟨v, B, X', ⟨[], ⟨⟨?_, q1.symm⟩, Fr.nil _, Nat.le_of_eq (by rw [q1])⟩, by rw [q2, List.append_nil], q3, q4⟩, st⟩
  rw [q5 x rfl, Jvm.Free.SBG.strSizeOfL_eq hn hx]
def QGC (Z : State) (v : Addr) (k : ClassId) (cs : List Int32) (cap : Nat) (h0 : Heap) (r : Option Value) (h : Heap) : Prop := (∃ i : Int32, r = some (.int i)) ∧ Keep h0 h [v] ∧ Arv Z h v k .byte (Int32.ofNat (cap)) ((cs.map lo8).map Value.int) (.int 0)
open Jvm.Free.SBG in
theorem own_out (g : GetCharsL.G) (U1 : Ones g.D1) (U2 : Tens g.D2) (hn : g.n ≤ 2 ^ 63) {cs : List Int32} (hk : g.idx = cs.length + (digitsL g.n + GetCharsL.sgnL g.x)) (hidx : g.idx ≤ g.A.slots.size) (H : Has g.A ((cs.map lo8).map Value.int) (.int 0)) : Has (GetCharsL.outCell g) (((cs ++ txtL g.x g.n).map lo8).map Value.int) (.int 0) := by
  intro j hj
  obtain ⟨f1, f2, f3⟩ := outCellL_fwd g U1 U2 hn hk hidx
  obtain ⟨-, -, f4⟩ := outCellL_at g U1 U2 hn (by omega) hidx
  have hsz := outCellL_size g
  rw [hsz] at hj
  have eR : (((cs ++ txtL g.x g.n).map lo8).map Value.int) = ((cs.map lo8).map Value.int) ++ ((((if g.x < 0 then [45] else []) : List Int32).map lo8).map Value.int ++ (((List.range (digitsL g.n)).map fun t => Int32.ofNat (48 + g.n / 10 ^ (digitsL g.n - 1 - t) % 10)).map lo8).map Value.int) := by simp [txtL, List.map_append]
  rw [eR, List.getD_eq_getElem?_getD, own_at3]
  simp only [List.length_map]
  by_cases c1 : j < cs.length
  · rw [if_pos c1, f3 j c1, H j hj, List.getD_eq_getElem?_getD]
  · rw [if_neg c1]
    by_cases c2 : g.idx ≤ j
    · have hs : ((if g.x < 0 then [45] else []) : List Int32).length = GetCharsL.sgnL g.x := by unfold GetCharsL.sgnL; split <;> rfl
      rw [f4 j (Or.inr c2), H j hj, List.getD_eq_getElem?_getD, List.getElem?_eq_none (by simp; omega), if_neg (by rw [hs]; omega), List.getElem?_eq_none (by simp [hs]; omega)]
    · by_cases hx : g.x < 0
      · have hs : GetCharsL.sgnL g.x = 1 := by simp [GetCharsL.sgnL, hx]
        simp only [if_pos hx, List.length_singleton]
        by_cases c3 : j < cs.length + 1
        · have e : j = cs.length := by omega
          rw [if_pos c3, e, f1 hx, Nat.sub_self]; decide
        · rw [if_neg c3]
          have := f2 (j - cs.length - 1) (by omega)
          rw [hs, show cs.length + 1 + (j - cs.length - 1) = j from by omega] at this
          rw [this, List.getElem?_map, List.getElem?_map, List.getElem?_map, List.getElem?_range (show j - cs.length - 1 < digitsL g.n by omega)]
          simp only [Option.map_some, Option.getD_some]
          rw [own_lo8 _ (Nat.mod_lt _ (by decide))]
      · have hs : GetCharsL.sgnL g.x = 0 := by simp [GetCharsL.sgnL, hx]
        simp only [if_neg hx, List.length_nil, Nat.add_zero, if_neg c1, Nat.sub_zero]
        have := f2 (j - cs.length) (by omega)
        rw [hs, show cs.length + 0 + (j - cs.length) = j from by omega] at this
        rw [this, List.getElem?_map, List.getElem?_map, List.getElem?_map, List.getElem?_range (show j - cs.length < digitsL g.n by omega)]
        simp only [Option.map_some, Option.getD_some]
        rw [own_lo8 _ (Nat.mod_lt _ (by decide))]
open Jvm.Free.SBG in
theorem payGC {l : Launch} {Z : State} {a0 : Array Value} {R : Room} {W n0 : Nat} {h : Heap} (hw : ∀ d ∈ tables_1, d.before a0 Z = true) {ist d1 d2 : Addr} {D1 D2 : Cell} (T1 : Tbl Z "DigitOnes" ist d1 D1) (T2 : Tbl Z "DigitTens" ist d2 D2) (U1 : Ones D1) (U2 : Tens D2) {v : Addr} {k : ClassId} {cs : List Int32} {cap : Nat} {x : Int64} {n : Nat} (O : Old Z n0 h) (nv : n0 ≤ v) (HV : Arv Z h v k .byte (Int32.ofNat (cap)) ((cs.map lo8).map Value.int) (.int 0)) (hcap : cap ≤ 1500) (hn : n ≤ 2 ^ 63) (hx : (if x < 0 then x else -x) = negL n) (hroom : cs.length + (digitsL n + GetCharsL.sgnL x) ≤ cap) (hfr : 2 ≤ R.frames) (hlo : W + 102 ≤ R.locals) : Pay l Z R (⟨"java/lang/Long", "getChars", "(JI[B)I"⟩ : MethodName) 3 W #[.long x, .int (Int32.ofNat (cs.length + (digitsL n + GetCharsL.sgnL x))), .ref v] n0 h 0 0 (QGC Z v k (cs ++ txtL x n) cap h) := by
  intro p e below s args hZ
  intro m meth c P g ig mk a X hg hsize hdg hW hnm hp
  obtain ⟨rfl, rfl, r1, r2⟩ := hp
  have al : Z.vm.Alike P.U.vm := hZ.alike.trans X.warmed.alike
  obtain ⟨A, A1, A2, A3, A4, HH, GG⟩ := HV
  rw [own_cl (by omega)] at A3
  have t : GetCharsL.tab.before args s = true := by
    simp only [GetCharsL.tab, Cond.before_and, Bool.and_eq_true]
    exact ⟨mvT hZ (hw _ (own_wL _ (by simp))), mvT hZ (hw _ (own_wL _ (by simp))), mvT hZ (hw _ (own_wL _ (by simp))), mvT hZ (hw _ (own_wL _ (by simp))), mvT hZ (hw _ (own_wL _ (by simp)))⟩
  obtain ⟨_, _, _, _, cS, -, -, -, -, e5, -, -, e8, -⟩ := id T1
  obtain ⟨_, _, _, _, _, -, -, -, -, -, -, -, e9, -⟩ := id T2
  have lt : ∀ {y : Addr} {cy : Cell}, Z.heap[y]? = some cy → y < Z.heap.size := fun q => (Array.getElem?_eq_some_iff.mp q).1
  let gg : GetCharsL.G := ⟨x, n, cs.length + (digitsL n + GetCharsL.sgnL x), v, A, ist, d1, D1, d2, D2⟩
  have hI : cs.length + (digitsL n + GetCharsL.sgnL x) ≤ A.slots.size := by omega
  have hJ : digitsL n + GetCharsL.sgnL x ≤ cs.length + (digitsL n + GetCharsL.sgnL x) := by omega
  have hP : GetCharsL.P gg #[.long x, .int (Int32.ofNat (cs.length + (digitsL n + GetCharsL.sgnL x))), .ref v] P.U := ⟨rfl, A1.1, State.isArrayOf_alike al A1.2.1, A1.2.2, by show A.slots.size < 2 ^ 31; omega, hI, hJ, hn, hx, T1.move al (fun c q => O.2.2 _ _ q) (O.2.2 _ _ e8), T2.move al (fun c q => O.2.2 _ _ q) (O.2.2 _ _ e9), Ne.symm (oOld O (lt e5) nv), Ne.symm (oOld O (lt e8) nv), Ne.symm (oOld O (lt e9) nv)⟩
  obtain ⟨r, B, X', ⟨hv, hheap, hc1, hc2, hsz, hoth, L, hL1, hL2⟩, st⟩ := GetCharsL.pays gg W t (mvT hZ (hw _ (own_wL _ (by simp)))) hfr hlo m meth c P g ig mk _ X hg hsize hdg hW hnm ⟨rfl, by omega, by omega, hP⟩
  have hby : ∀ i, i < gg.A.slots.size → fits .byte (gg.A.slots.getD i .null) = true := fun i hi => by
    have q := GG i hi
    rw [getD_of (HH i hi)]; exact q
  obtain ⟨o1, o2, o3, o4, -⟩ := GetCharsL.outCell_facts gg hn hJ hby
  have hHas := own_out gg U1 U2 hn (cs := cs) rfl hI HH
  have hA : Arv Z B.U.heap v k .byte (Int32.ofNat (cap)) (((cs ++ txtL x n).map lo8).map Value.int) (.int 0) := by
    refine ⟨GetCharsL.outCell gg, ⟨hheap, ?_, by rw [o2]; exact A1.2.2⟩, by rw [o1]; exact A2, by rw [o3, own_cl (by omega)]; exact A3, A4, hHas, fun i hi => ?_⟩
    · obtain ⟨i1, i2⟩ := A1.2.1
      exact ⟨fun q => by rw [o2]; exact i1 q, by rw [o1]; exact i2⟩
    · have q := o4 i hi
      rw [getD_of (hHas i hi)] at q; exact q
  refine ⟨r, B, X', ⟨L, ⟨⟨⟨_, hv⟩, ⟨Nat.le_of_eq hsz.symm, fun y cy q hne => hoth y cy (fun e => hne (by rw [e]; exact List.mem_singleton.mpr rfl)) q, fun y cy q => ?_⟩, hA⟩, fun y hy => by rw [hL2 y hy]; exact nv, Nat.le_of_eq hsz.symm⟩, hL1, by rw [hc1]; rfl, by rw [hc2]; rfl⟩, st⟩
  by_cases e : y = v
  · subst e
    cases q.symm.trans A1.1
    exact ⟨GetCharsL.outCell gg, hheap, o1, o2, o3⟩
  · exact ⟨cy, hoth y cy e q, rfl, rfl, rfl⟩

theorem ef_rmAJ (m : MethodId) (x0 : Addr) (x1 : Int64) : entryFrame m #[(.ref x0), (.long x1)] 5 = mkF m 0 #[(.val (.ref x0)), (.val (.long x1)), .second, .unset, .unset] [] := by first | (simp [entryFrame, mkF, argsToLocals, Value.category]; done) | rfl
set_option maxRecDepth 65536 in
set_option maxHeartbeats 4000000 in
theorem rmAJ {l : Launch} {Z : State} {a0 : Array Value} (hw : ∀ d ∈ tables_1, d.before a0 Z = true) {n0 : Nat} {h0 : Heap} {b v : Addr} {k : ClassId} {cs : List Int32} {cap : Nat} (O : Old Z n0 h0) {z0 : Int32} (S0 : Sta Z Z.heap "java/lang/String" "COMPACT_STRINGS" "Z" (.int z0)) (hz0 : ¬ z0 = 0) {ist d1 d2 : Addr} {D1 D2 : Cell} (T1 : Jvm.Free.SBG.Tbl Z "DigitOnes" ist d1 D1) (T2 : Jvm.Free.SBG.Tbl Z "DigitTens" ist d2 D2) (U1 : Jvm.Free.SBG.Ones D1) (U2 : Jvm.Free.SBG.Tens D2) (HB : SBX Z h0 b v k cs cap) {x : Int64} {n : Nat} (hn : n ≤ 2 ^ 63) (hx : (if x < 0 then x else -x) = Jvm.Free.SBG.negL n) (nb : n0 ≤ b) (nv : n0 ≤ v) (h3 : cap ≤ 120) (hl0 : cs.length ≤ 38) :
    Pays l Z (⟨"java/lang/AbstractStringBuilder", "append", "(J)Ljava/lang/AbstractStringBuilder;"⟩ : MethodName) jdk_68_method_33_code 5 (some (.object "java/lang/AbstractStringBuilder")) ({ frames := 4, cells := 1, slots := 130, locals := 102 } : Room) #[(.ref b), (.long x)] n0 h0 (QAp Z b v (cs ++ txtL x n) h0) := by
  refine Pays.of hw (plainFor_of_name pn1) (fun m => ef_rmAJ m b x) fun B C M => ?_
  have hcap : cap ≤ 1500 := HB.2.2.2.2.2.2.1.2
  have hlen : cs.length ≤ cap := HB.2.2.2.2.2.2.1.1
  have hdn := own_dn x n
  refine iAloadN C d26_0 rfl rfl ?_
  refine iGetF C tw95 HB.2.2.2.1 d26_1 ?_
  refine iIstoreN C d26_4 (Ls' := #[(.val (.ref b)), (.val (.long x)), .second, (.val (.int (Int32.ofNat (cs.length)))), .unset]) rfl ?_
  refine iIloadN C d26_5 rfl ?_
  refine iLloadN C d26_6 rfl ?_
  refine iCallSB C (paySS hw hn hx (by decide) (by decide)) tw155 tw156 tw157 tw158 ⟨by decide, by decide⟩ (argsL := [(.long x)]) (S' := [(.int (Int32.ofNat (cs.length)))]) (lenOf pd17 rfl) rfl rfl d26_7 rfl (W := 1) rfl ⟨rfl, rfl, by decide, by decide⟩ fun v1 h1 q1 => ?_
  obtain ⟨rfl, rfl⟩ := q1
  show Go B n0 _ h0 0 0 10 _ [(.int (Int32.ofNat (Jvm.Free.SBG.digitsL n + Jvm.Free.SBG.GetCharsL.sgnL x))), (.int (Int32.ofNat (cs.length)))]
  refine iIadd C d26_10 (v := (Int32.ofNat (cs.length + (Jvm.Free.SBG.digitsL n + Jvm.Free.SBG.GetCharsL.sgnL x)))) (own_add (cs.length) (Jvm.Free.SBG.digitsL n + Jvm.Free.SBG.GetCharsL.sgnL x)) ?_
  refine iIstore C d26_11 (Ls' := #[(.val (.ref b)), (.val (.long x)), .second, (.val (.int (Int32.ofNat (cs.length)))), (.val (.int (Int32.ofNat (cs.length + (Jvm.Free.SBG.digitsL n + Jvm.Free.SBG.GetCharsL.sgnL x)))))]) rfl ?_
  refine iAloadN C d26_13 rfl rfl ?_
  refine iIload C d26_14 rfl ?_
  refine iCallQ C (rmEC hw O HB nb (by omega) h3) HB.1 tw97 tw98 tw100 tw99 tw66 tw101 ⟨by decide, by decide⟩ (a := b) (argsL := [(.int (Int32.ofNat (cs.length + (Jvm.Free.SBG.digitsL n + Jvm.Free.SBG.GetCharsL.sgnL x))))]) (S' := []) (lenOf pd8 rfl) rfl rfl d26_16 rfl (W := 0) rfl ⟨by decide, by decide, rfl, rfl, by decide, by decide⟩ fun v2 h2 q2 => ?_
  obtain ⟨rfl, K2, v1_2, k1_2, cap1_2, SB2, mnl2, alt2, cb2⟩ := q2
  have O2 := O.keep K2 (allS nb all0)
  have hc1_2 : cap1_2 ≤ 1500 := SB2.2.2.2.2.2.2.1.2
  have nv_v1_2 : n0 ≤ v1_2 := alt2.elim (fun q => by rw [q]; exact nv) (Nat.le_trans (oSize O))
  show Go B n0 _ h2 1 130 19 _ []
  refine iAloadN C d26_19 rfl rfl ?_
  refine iCallV C (rmIL hw O2 S0 hz0 SB2) SB2.1 tw161 tw162 (Or.inl rfl) tw164 tw163 tw66 tw165 ⟨by decide, by decide⟩ (argsL := []) (S' := []) (lenOf pd14 rfl) rfl rfl d26_20 rfl (W := 0) rfl ⟨by decide, by decide, rfl, rfl, by decide, by decide⟩ fun v3 h3 q3 => ?_
  obtain ⟨rfl, rfl⟩ := q3
  show Go B n0 _ h2 1 130 23 _ [(.int (1 : Int32))]
  refine iIfF C d26_23 (by decide) ?_
  refine iLloadN C d26_26 rfl ?_
  refine iIload C d26_27 rfl ?_
  refine iAloadN C d26_29 rfl rfl ?_
  refine iGetF C tw70 SB2.2.2.1 d26_30 ?_
  refine iCallSB C (payGC hw T1 T2 U1 U2 O2 nv_v1_2 SB2.2.2.2.2.1 hc1_2 hn hx (by omega) (by decide) (by decide)) tw166 tw167 tw157 tw168 ⟨by decide, by decide⟩ (argsL := [(.long x), (.int (Int32.ofNat (cs.length + (Jvm.Free.SBG.digitsL n + Jvm.Free.SBG.GetCharsL.sgnL x)))), (.ref v1_2)]) (S' := []) (lenOf pd18 rfl) rfl rfl d26_33 rfl (W := 0) rfl ⟨rfl, rfl, by decide, by decide⟩ fun v4 h4 q4 => ?_
  obtain ⟨⟨i4, rfl⟩, K4, V4⟩ := q4
  have O4 := O2.keep K4 (allS nv_v1_2 all0)
  show Go B n0 _ h4 1 130 36 _ [(.int i4)]
  refine iPop C d26_36 rfl ?_
  refine iGoto C (t := 52) d26_37 ⟨by decide, by decide⟩ ?_
  refine iAloadN C d26_52 rfl rfl ?_
  refine iIload C d26_53 rfl ?_
  refine iPutF C (v := (.int (Int32.ofNat (cs.length + (Jvm.Free.SBG.digitsL n + Jvm.Free.SBG.GetCharsL.sgnL x))))) tw95 (SB2.2.2.2.1.keep K4 (ninS (ne_exa SB2.1 SB2.2.2.2.2.2.1 (by decide)) nin0)) (SB2.1.keep K4) (Or.inl tw96) tw57 (ty := .int) (by decide) rfl rfl nb d26_55 fun h5 W5 => ?_
  have Fw5 := Fld.same W5 (SB2.2.2.2.1.keep K4 (ninS (ne_exa SB2.1 SB2.2.2.2.2.2.1 (by decide)) nin0))
  have O5 := O4.wr W5 nb
  refine iAloadN C d26_58 rfl rfl ?_
  refine iRetA C M d26_59 rfl rfl rfl ⟨Nat.le_refl _, by decide, by decide⟩ ?_
  have hsz : (cs ++ txtL x n).length = cs.length + (Jvm.Free.SBG.digitsL n + Jvm.Free.SBG.GetCharsL.sgnL x) := by rw [List.length_append, txtL_len]
  exact ⟨rfl, (((Keep.refl _ _).trans K2 (inS (Or.inl (by simp)) (fun x hx => (List.not_mem_nil hx).elim))).trans K4 (inS (altIn alt2) (fun x hx => (List.not_mem_nil hx).elim))).wr W5 (Or.inl (by simp)), v1_2, k1_2, cap1_2, ⟨((SB2.1.keep K4).wr W5), (Fld.other W5 (SB2.2.1.keep K4 (ninS (ne_exa SB2.1 SB2.2.2.2.2.2.1 (by decide)) nin0)) (Or.inr (slot_ne (Or.inl (hw _ tw73)) (Or.inl (hw _ tw96)) (by decide) (t := .byte) (t' := .int) (by decide) (by decide)))), (Fld.other W5 (SB2.2.2.1.keep K4 (ninS (ne_exa SB2.1 SB2.2.2.2.2.2.1 (by decide)) nin0)) (Or.inr (slot_ne (Or.inl (hw _ tw71)) (Or.inl (hw _ tw96)) (by decide) (t := (.array .byte)) (t' := .int) (by decide) (by decide)))), by rw [hsz]; exact Fw5, (V4.other W5 (Ne.symm (ne_exa SB2.1 SB2.2.2.2.2.2.1 (by decide)))), ((SB2.2.2.2.2.2.1.keep K4).wr W5), ⟨by omega, by omega⟩, fun c hc => (List.mem_append.mp hc).elim (HB.2.2.2.2.2.2.2 c) (txtL_rng x n c)⟩, alt2, cb2⟩
theorem ef_rmSAJ (m : MethodId) (x0 : Addr) (x1 : Int64) : entryFrame m #[(.ref x0), (.long x1)] 3 = mkF m 0 #[(.val (.ref x0)), (.val (.long x1)), .second] [] := by first | (simp [entryFrame, mkF, argsToLocals, Value.category]; done) | rfl
set_option maxRecDepth 65536 in
set_option maxHeartbeats 4000000 in
theorem rmSAJ {l : Launch} {Z : State} {a0 : Array Value} (hw : ∀ d ∈ tables_1, d.before a0 Z = true) {n0 : Nat} {h0 : Heap} {b v : Addr} {k : ClassId} {cs : List Int32} {cap : Nat} (O : Old Z n0 h0) {z0 : Int32} (S0 : Sta Z Z.heap "java/lang/String" "COMPACT_STRINGS" "Z" (.int z0)) (hz0 : ¬ z0 = 0) {ist d1 d2 : Addr} {D1 D2 : Cell} (T1 : Jvm.Free.SBG.Tbl Z "DigitOnes" ist d1 D1) (T2 : Jvm.Free.SBG.Tbl Z "DigitTens" ist d2 D2) (U1 : Jvm.Free.SBG.Ones D1) (U2 : Jvm.Free.SBG.Tens D2) (HB : SBX Z h0 b v k cs cap) {x : Int64} {n : Nat} (hn : n ≤ 2 ^ 63) (hx : (if x < 0 then x else -x) = Jvm.Free.SBG.negL n) (nb : n0 ≤ b) (nv : n0 ≤ v) (h3 : cap ≤ 120) (hl0 : cs.length ≤ 38) :
    Pays l Z (⟨"java/lang/StringBuilder", "append", "(J)Ljava/lang/StringBuilder;"⟩ : MethodName) jdk_67_method_16_code 3 (some (.object "java/lang/StringBuilder")) ({ frames := 5, cells := 1, slots := 130, locals := 118 } : Room) #[(.ref b), (.long x)] n0 h0 (QAp Z b v (cs ++ txtL x n) h0) := by
  refine Pays.of hw (plainFor_of_name pn4) (fun m => ef_rmSAJ m b x) fun B C M => ?_
  have hcap : cap ≤ 1500 := HB.2.2.2.2.2.2.1.2
  have hlen : cs.length ≤ cap := HB.2.2.2.2.2.2.1.1
  refine iAloadN C d25_0 rfl rfl ?_
  refine iLloadN C d25_1 rfl ?_
  refine iCallU C (rmAJ hw O S0 hz0 T1 T2 U1 U2 HB hn hx nb nv h3 hl0) (Ins.self HB.1) (by decide) tw151 (own_same (yd := (⟨"java/lang/AbstractStringBuilder", "isLatin1", "()Z"⟩ : MethodName)) rfl ⟨by decide, by decide⟩ (hw _ tw152) (hw _ tw163) (hw _ tw164)) tw152 tw82 tw66 tw154 (a := b) (argsL := [(.long x)]) (S' := []) (lenOf pd19 rfl) rfl rfl d25_2 rfl (W := 0) rfl ⟨by decide, by decide, rfl, rfl, by decide, by decide⟩ fun v1 h1 q1 => ?_
  obtain ⟨rfl, K1, rest1⟩ := q1
  have O1 := O.keep K1 (allS nb (allS nv all0))
  show Go B n0 _ h1 1 130 5 _ [(.ref b)]
  refine iPop C d25_5 rfl ?_
  refine iAloadN C d25_6 rfl rfl ?_
  refine iRetA C M d25_7 rfl rfl rfl ⟨Nat.le_refl _, by decide, by decide⟩ ?_
  exact ⟨rfl, K1, rest1⟩
theorem ef_rmRec (m : MethodId) (x0 : Addr) : entryFrame m #[(.ref x0)] 1 = mkF m 0 #[(.val (.ref x0))] [] := by first | (simp [entryFrame, mkF, argsToLocals, Value.category]; done) | rfl
set_option maxRecDepth 65536 in
set_option maxHeartbeats 4000000 in
theorem rmRec {l : Launch} {Z : State} {a0 : Array Value} (hw : ∀ d ∈ tables_1, d.before a0 Z = true) {n0 : Nat} {h0 : Heap} {a : Addr}  :
    Pays l Z (⟨"java/lang/Record", "<init>", "()V"⟩ : MethodName) jdk_30_method_1_code 1 none ({ frames := 1, cells := 0, slots := 0, locals := 12 } : Room) #[(.ref a)] n0 h0 (QP none h0) := by
  refine Pays.of hw (plainFor_of_name pn5) (fun m => ef_rmRec m a) fun B C M => ?_
  refine iAloadN C d8_0 rfl rfl ?_
  refine iInitO C tw44 tw12 tw13 d8_1 rfl (by decide) (W := 0) rfl (by decide) ?_
  refine iRetV C M d8_4 ⟨Nat.le_refl _, by decide, by decide⟩ ?_
  exact ⟨rfl, rfl⟩
def QPT (Z : State) (a s : Addr) (x : Int64) (h0 : Heap) (r : Option Value) (h : Heap) : Prop := r = none ∧ Keep h0 h [a] ∧ Fld Z h a "com/example/uketsuke/uketsuke/core/token/PageToken" "nonce" "Ljava/lang/String;" (.ref s) ∧ Fld Z h a "com/example/uketsuke/uketsuke/core/token/PageToken" "expiresAt" "J" (.long x)
theorem ef_rmPT (m : MethodId) (x0 : Addr) (x1 : Addr) (x2 : Addr) (x3 : Int64) : entryFrame m #[(.ref x0), (.ref x1), (.ref x2), (.long x3)] 5 = mkF m 0 #[(.val (.ref x0)), (.val (.ref x1)), (.val (.ref x2)), (.val (.long x3)), .second] [] := by first | (simp [entryFrame, mkF, argsToLocals, Value.category]; done) | rfl
set_option maxRecDepth 65536 in
set_option maxHeartbeats 4000000 in
theorem rmPT {l : Launch} {Z : State} {a0 : Array Value} (hw : ∀ d ∈ tables_1, d.before a0 Z = true) {n0 : Nat} {h0 : Heap} {a s0 s : Addr} {x : Int64} (O : Old Z n0 h0) (EA : Exa Z h0 a "com/example/uketsuke/uketsuke/core/token/PageToken") (P1 : Fld Z h0 a "com/example/uketsuke/uketsuke/core/token/PageToken" "text" "Ljava/lang/String;" .null) (P2 : Fld Z h0 a "com/example/uketsuke/uketsuke/core/token/PageToken" "nonce" "Ljava/lang/String;" .null) (P3 : Fld Z h0 a "com/example/uketsuke/uketsuke/core/token/PageToken" "expiresAt" "J" (.long (0 : Int64))) (na : n0 ≤ a) :
    Pays l Z (⟨"com/example/uketsuke/uketsuke/core/token/PageToken", "<init>", "(Ljava/lang/String;Ljava/lang/String;J)V"⟩ : MethodName) prog_55_method_1_code 5 none ({ frames := 2, cells := 0, slots := 0, locals := 24 } : Room) #[(.ref a), (.ref s0), (.ref s), (.long x)] n0 h0 (QPT Z a s x h0) := by
  refine Pays.of hw (plainFor_of_name pn6) (fun m => ef_rmPT m a s0 s x) fun B C M => ?_
  refine iAloadN C d7_0 rfl rfl ?_
  refine iCallI C (rmRec hw) rfl tw39 tw40 tw42 tw43 ⟨by decide, by decide⟩ (a := a) (argsL := []) (S' := []) (lenOf pd20 rfl) rfl rfl d7_1 rfl (W := 0) rfl ⟨by decide, by decide, rfl, rfl, by decide, by decide⟩ fun v1 h1 q1 => ?_
  obtain ⟨rfl, rfl⟩ := q1
  show Go B n0 _ h0 0 0 4 _ []
  refine iAloadN C d7_4 rfl rfl ?_
  refine iAloadN C d7_5 rfl rfl ?_
  refine iPutF C (v := (.ref s0)) tw45 P1 EA (Or.inr ⟨tw46, rfl, rfl⟩) tw34 (ty := (.object "java/lang/String")) (by decide) rfl rfl na d7_6 fun h2 W2 => ?_
  have Fw2 := Fld.same W2 P1
  have O2 := O.wr W2 na
  refine iAloadN C d7_9 rfl rfl ?_
  refine iAloadN C d7_10 rfl rfl ?_
  refine iPutF C (v := (.ref s)) tw47 (Fld.other W2 P2 (Or.inr (slot_ne (Or.inr (hw _ tw48)) (Or.inr (hw _ tw46)) (by decide) (t := (.object "java/lang/String")) (t' := (.object "java/lang/String")) (by decide) (by decide)))) (EA.wr W2) (Or.inr ⟨tw48, rfl, rfl⟩) tw34 (ty := (.object "java/lang/String")) (by decide) rfl rfl na d7_11 fun h3 W3 => ?_
  have Fw3 := Fld.same W3 (Fld.other W2 P2 (Or.inr (slot_ne (Or.inr (hw _ tw48)) (Or.inr (hw _ tw46)) (by decide) (t := (.object "java/lang/String")) (t' := (.object "java/lang/String")) (by decide) (by decide))))
  have O3 := O2.wr W3 na
  refine iAloadN C d7_14 rfl rfl ?_
  refine iLloadN C d7_15 rfl ?_
  refine iPutF C (v := (.long x)) tw49 (Fld.other W3 (Fld.other W2 P3 (Or.inr (slot_ne (Or.inr (hw _ tw50)) (Or.inr (hw _ tw46)) (by decide) (t := .long) (t' := (.object "java/lang/String")) (by decide) (by decide)))) (Or.inr (slot_ne (Or.inr (hw _ tw50)) (Or.inr (hw _ tw48)) (by decide) (t := .long) (t' := (.object "java/lang/String")) (by decide) (by decide)))) ((EA.wr W2).wr W3) (Or.inr ⟨tw50, rfl, rfl⟩) tw34 (ty := .long) (by decide) rfl rfl na d7_16 fun h4 W4 => ?_
  have Fw4 := Fld.same W4 (Fld.other W3 (Fld.other W2 P3 (Or.inr (slot_ne (Or.inr (hw _ tw50)) (Or.inr (hw _ tw46)) (by decide) (t := .long) (t' := (.object "java/lang/String")) (by decide) (by decide)))) (Or.inr (slot_ne (Or.inr (hw _ tw50)) (Or.inr (hw _ tw48)) (by decide) (t := .long) (t' := (.object "java/lang/String")) (by decide) (by decide))))
  have O4 := O3.wr W4 na
  refine iRetV C M d7_19 ⟨Nat.le_refl _, by decide, by decide⟩ ?_
  exact ⟨rfl, (((Keep.refl _ _).wr W2 (Or.inl (by simp))).wr W3 (Or.inl (by simp))).wr W4 (Or.inl (by simp)), (Fld.other W4 Fw3 (Or.inr (slot_ne (Or.inr (hw _ tw48)) (Or.inr (hw _ tw50)) (by decide) (t := (.object "java/lang/String")) (t' := .long) (by decide) (by decide)))), Fw4⟩
theorem own_lc1 {x z : Int64} (h : z < x) : Jvm.Free.XT.cmpL x z = 1 := by unfold Jvm.Free.XT.cmpL; rw [if_pos h]
theorem own_lc0 {x z : Int64} (h : ¬ z < x) (e : x = z) : Jvm.Free.XT.cmpL x z = 0 := by unfold Jvm.Free.XT.cmpL; rw [if_neg h, if_pos e]
theorem own_lcm {x z : Int64} (h : ¬ z < x) (e : ¬ x = z) : Jvm.Free.XT.cmpL x z = -1 := by unfold Jvm.Free.XT.cmpL; rw [if_neg h, if_neg e]
theorem ef_rmGe (m : MethodId) (x0 : Int64) (x1 : Int64) : entryFrame m #[(.long x0), (.long x1)] 4 = mkF m 0 #[(.val (.long x0)), .second, (.val (.long x1)), .second] [] := by first | (simp [entryFrame, mkF, argsToLocals, Value.category]; done) | rfl
set_option maxRecDepth 65536 in
set_option maxHeartbeats 4000000 in
theorem rmGe {l : Launch} {Z : State} {a0 : Array Value} (hw : ∀ d ∈ tables_1, d.before a0 Z = true) {n0 : Nat} {h0 : Heap} {mm p : Int64}  :
    Pays l Z (⟨"com/example/uketsuke/uketsuke/core/token/PageTokenToStringPinLaw", "ge", "(JJ)I"⟩ : MethodName) method_3_code 4 (some .int) ({ frames := 0, cells := 0, slots := 0, locals := 0 } : Room) #[(.long mm), (.long p)] n0 h0 (QP (some (.int (if mm ≤ -p then 1 else 0))) h0) := by
  refine Pays.of hw (plainFor_of_name pn7) (fun m => ef_rmGe m mm p) fun B C M => ?_
  refine iLloadN C d39_0 rfl ?_
  refine iLloadN C d39_1 rfl ?_
  refine iLneg C d39_2 rfl ?_
  by_cases q1 : (-p) < mm
  · refine iLcmp C d39_3 (v := (1 : Int32)) (own_lc1 q1) ?_
    refine iIfT C (t := 11) d39_4 (by decide) ⟨by decide, by decide⟩ ?_
    refine iIconst C d39_11 (v := (0 : Int32)) (by decide) ?_
    refine iRetI C M d39_12 ⟨Nat.le_refl _, by decide, by decide⟩ ?_
    refine ⟨?_, rfl⟩
    rw [if_neg (Int64.not_le.mpr q1)]
  · by_cases q2 : mm = (-p)
    · refine iLcmp C d39_3 (v := (0 : Int32)) (own_lc0 q1 q2) ?_
      refine iIfF C d39_4 (by decide) ?_
      refine iIconst C d39_7 (v := (1 : Int32)) (by decide) ?_
      refine iGoto C (t := 12) d39_8 ⟨by decide, by decide⟩ ?_
      refine iRetI C M d39_12 ⟨Nat.le_refl _, by decide, by decide⟩ ?_
      refine ⟨?_, rfl⟩
      rw [if_pos (Int64.not_lt.mp q1)]
    · refine iLcmp C d39_3 (v := (-1 : Int32)) (own_lcm q1 q2) ?_
      refine iIfF C d39_4 (by decide) ?_
      refine iIconst C d39_7 (v := (1 : Int32)) (by decide) ?_
      refine iGoto C (t := 12) d39_8 ⟨by decide, by decide⟩ ?_
      refine iRetI C M d39_12 ⟨Nat.le_refl _, by decide, by decide⟩ ?_
      refine ⟨?_, rfl⟩
      rw [if_pos (Int64.not_lt.mp q1)]
theorem ef_rmE1 (m : MethodId) (x0 : Addr) (x1 : Int32) (x2 : Addr) (x3 : Int32) : entryFrame m #[(.ref x0), (.int x1), (.ref x2), (.int x3)] 4 = mkF m 0 #[(.val (.ref x0)), (.val (.int x1)), (.val (.ref x2)), (.val (.int x3))] [] := by first | (simp [entryFrame, mkF, argsToLocals, Value.category]; done) | rfl
set_option maxRecDepth 65536 in
set_option maxHeartbeats 4000000 in
theorem rmE1 {l : Launch} {Z : State} {a0 : Array Value} (hw : ∀ d ∈ tables_1, d.before a0 Z = true) {n0 : Nat} {h0 : Heap} {s t s2 t2 : Addr} {k2 k3 : ClassId} {ds ls : List Int32} {o j : Nat} (O : Old Z n0 h0) {z0 : Int32} (S0 : Sta Z Z.heap "java/lang/String" "COMPACT_STRINGS" "Z" (.int z0)) (hz0 : ¬ z0 = 0) {fm : Value} (S1 : Sta Z Z.heap "jdk/internal/util/Preconditions" "SIOOBE_FORMATTER" "Ljava/util/function/BiFunction;" fm) (rf : fm.isRef = true) (HS : SX Z h0 s t k2 ds) (HL : SX Z h0 s2 t2 k3 ls) (hj0 : j ≤ 100) (ho : o ≤ 100) (he : ∀ i, i < ls.length → o + i < ds.length ∧ ds.getD (o + i) 0 = ls.getD i 0) :
    Pays l Z (⟨"com/example/uketsuke/uketsuke/core/token/PageTokenToStringPinLaw", "eq1", "(Ljava/lang/String;ILjava/lang/String;I)Z"⟩ : MethodName) method_4_code 4 (some .boolean) ({ frames := 4, cells := 0, slots := 0, locals := 54 } : Room) #[(.ref s), (.int (Int32.ofNat (o))), (.ref s2), (.int (Int32.ofNat (j)))] n0 h0 (QP (some (.int 1)) h0) := by
  refine Pays.of hw (plainFor_of_name pn7) (fun m => ef_rmE1 m s (Int32.ofNat (o)) s2 (Int32.ofNat (j))) fun B C M => ?_
  have hl2 : ls.length ≤ 4000 := HL.2.2.2.2.1
  have hl1 : ds.length ≤ 4000 := HS.2.2.2.2.1
  refine iIloadN C d41_0 rfl ?_
  refine iAloadN C d41_1 rfl rfl ?_
  refine iCallVB C (payLen hw HL (S0.ext O.2) hz0 (by decide) (by decide)) HL.1 tw233 tw86 (Or.inl rfl) tw88 tw87 ⟨by decide, by decide⟩ (argsL := []) (S' := [(.int (Int32.ofNat (j)))]) (lenOf pd7 rfl) rfl rfl d41_2 rfl (W := 1) rfl ⟨rfl, rfl, by decide, by decide⟩ fun v1 h1 q1 => ?_
  obtain ⟨rfl, rfl⟩ := q1
  show Go B n0 _ h0 0 0 5 _ [(.int (Int32.ofNat (ls.length))), (.int (Int32.ofNat (j)))]
  by_cases hc2 : (Int32.ofNat (j)) < (Int32.ofNat (ls.length))
  · refine iCmpF C d41_5 (tlt hc2).2.1 ?_
    have hj : j < ls.length := (own_lt (by omega) (by omega)).mp hc2
    have hq := he j hj
    refine iAloadN C d41_8 rfl rfl ?_
    refine iIloadN C d41_9 rfl ?_
    refine iIloadN C d41_10 rfl ?_
    refine iIadd C d41_11 (v := (Int32.ofNat (o + j))) (own_add (o) (j)) ?_
    refine iCallVB C (payCh hw HS (S0.ext O.2) hz0 (S1.ext O.2) rf (i := o + j) hq.1 rfl (by decide) (by decide)) HS.1 tw242 tw243 (Or.inl rfl) tw245 tw244 ⟨by decide, by decide⟩ (argsL := [(.int (Int32.ofNat (o + j)))]) (S' := []) (lenOf pd21 rfl) rfl rfl d41_12 rfl (W := 0) rfl ⟨rfl, rfl, by decide, by decide⟩ fun v3 h3 q3 => ?_
    obtain ⟨rfl, rfl⟩ := q3
    show Go B n0 _ h0 0 0 15 _ [(.int (ds.getD (o + j) 0))]
    refine iAloadN C d41_15 rfl rfl ?_
    refine iIloadN C d41_16 rfl ?_
    refine iCallVB C (payCh hw HL (S0.ext O.2) hz0 (S1.ext O.2) rf (i := j) hj rfl (by decide) (by decide)) HL.1 tw242 tw243 (Or.inl rfl) tw245 tw244 ⟨by decide, by decide⟩ (argsL := [(.int (Int32.ofNat (j)))]) (S' := [(.int (ds.getD (o + j) 0))]) (lenOf pd21 rfl) rfl rfl d41_17 rfl (W := 1) rfl ⟨rfl, rfl, by decide, by decide⟩ fun v4 h4 q4 => ?_
    obtain ⟨rfl, rfl⟩ := q4
    show Go B n0 _ h0 0 0 20 _ [(.int (ls.getD j 0)), (.int (ds.getD (o + j) 0))]
    refine iCmpF C d41_20 (teq hq.2).2 ?_
    refine iIconst C d41_23 (v := (1 : Int32)) (by decide) ?_
    refine iGoto C (t := 28) d41_24 ⟨by decide, by decide⟩ ?_
    refine iRetZ C M d41_28 (by simp) ⟨Nat.le_refl _, by decide, by decide⟩ ?_
    exact ⟨rfl, rfl⟩
  · refine iCmpT C (t := 23) d41_5 (flt hc2).2.1 ⟨by decide, by decide⟩ ?_
    have hj : ¬ j < ls.length := fun q => hc2 ((own_lt (by omega) (by omega)).mpr q)
    refine iIconst C d41_23 (v := (1 : Int32)) (by decide) ?_
    refine iGoto C (t := 28) d41_24 ⟨by decide, by decide⟩ ?_
    refine iRetZ C M d41_28 (by simp) ⟨Nat.le_refl _, by decide, by decide⟩ ?_
    exact ⟨rfl, rfl⟩
theorem ef_rmE4 (m : MethodId) (x0 : Addr) (x1 : Int32) (x2 : Addr) (x3 : Int32) : entryFrame m #[(.ref x0), (.int x1), (.ref x2), (.int x3)] 4 = mkF m 0 #[(.val (.ref x0)), (.val (.int x1)), (.val (.ref x2)), (.val (.int x3))] [] := by first | (simp [entryFrame, mkF, argsToLocals, Value.category]; done) | rfl
set_option maxRecDepth 65536 in
set_option maxHeartbeats 4000000 in
theorem rmE4 {l : Launch} {Z : State} {a0 : Array Value} (hw : ∀ d ∈ tables_1, d.before a0 Z = true) {n0 : Nat} {h0 : Heap} {s t s2 t2 : Addr} {k2 k3 : ClassId} {ds ls : List Int32} {o j : Nat} (O : Old Z n0 h0) {z0 : Int32} (S0 : Sta Z Z.heap "java/lang/String" "COMPACT_STRINGS" "Z" (.int z0)) (hz0 : ¬ z0 = 0) {fm : Value} (S1 : Sta Z Z.heap "jdk/internal/util/Preconditions" "SIOOBE_FORMATTER" "Ljava/util/function/BiFunction;" fm) (rf : fm.isRef = true) (HS : SX Z h0 s t k2 ds) (HL : SX Z h0 s2 t2 k3 ls) (hj0 : j ≤ 90) (ho : o ≤ 100) (he : ∀ i, i < ls.length → o + i < ds.length ∧ ds.getD (o + i) 0 = ls.getD i 0) :
    Pays l Z (⟨"com/example/uketsuke/uketsuke/core/token/PageTokenToStringPinLaw", "eq4", "(Ljava/lang/String;ILjava/lang/String;I)Z"⟩ : MethodName) method_5_code 4 (some .boolean) ({ frames := 5, cells := 0, slots := 0, locals := 69 } : Room) #[(.ref s), (.int (Int32.ofNat (o))), (.ref s2), (.int (Int32.ofNat (j)))] n0 h0 (QP (some (.int 1)) h0) := by
  refine Pays.of hw (plainFor_of_name pn7) (fun m => ef_rmE4 m s (Int32.ofNat (o)) s2 (Int32.ofNat (j))) fun B C M => ?_
  refine iAloadN C d40_0 rfl rfl ?_
  refine iIloadN C d40_1 rfl ?_
  refine iAloadN C d40_2 rfl rfl ?_
  refine iIloadN C d40_3 rfl ?_
  refine iCallS C (rmE1 hw O S0 hz0 S1 rf HS HL (j := j) (by omega) ho he) tw239 tw240 tw231 tw241 ⟨by decide, by decide⟩ (argsL := [(.ref s), (.int (Int32.ofNat (o))), (.ref s2), (.int (Int32.ofNat (j)))]) (S' := []) (lenOf pd22 rfl) rfl rfl d40_4 rfl (W := 0) rfl ⟨by decide, by decide, rfl, rfl, by decide, by decide⟩ fun v1 h1 q1 => ?_
  obtain ⟨rfl, rfl⟩ := q1
  show Go B n0 _ h0 0 0 7 _ [(.int (1 : Int32))]
  refine iIfF C d40_7 (by decide) ?_
  refine iAloadN C d40_10 rfl rfl ?_
  refine iIloadN C d40_11 rfl ?_
  refine iAloadN C d40_12 rfl rfl ?_
  refine iIloadN C d40_13 rfl ?_
  refine iIconst C d40_14 (v := (1 : Int32)) (by decide) ?_
  refine iIadd C d40_15 (v := (Int32.ofNat (j + 1))) (own_add (j) (1)) ?_
  refine iCallS C (rmE1 hw O S0 hz0 S1 rf HS HL (j := j + 1) (by omega) ho he) tw239 tw240 tw231 tw241 ⟨by decide, by decide⟩ (argsL := [(.ref s), (.int (Int32.ofNat (o))), (.ref s2), (.int (Int32.ofNat (j + 1)))]) (S' := []) (lenOf pd22 rfl) rfl rfl d40_16 rfl (W := 0) rfl ⟨by decide, by decide, rfl, rfl, by decide, by decide⟩ fun v2 h2 q2 => ?_
  obtain ⟨rfl, rfl⟩ := q2
  show Go B n0 _ h0 0 0 19 _ [(.int (1 : Int32))]
  refine iIfF C d40_19 (by decide) ?_
  refine iAloadN C d40_22 rfl rfl ?_
  refine iIloadN C d40_23 rfl ?_
  refine iAloadN C d40_24 rfl rfl ?_
  refine iIloadN C d40_25 rfl ?_
  refine iIconst C d40_26 (v := (2 : Int32)) (by decide) ?_
  refine iIadd C d40_27 (v := (Int32.ofNat (j + 2))) (own_add (j) (2)) ?_
  refine iCallS C (rmE1 hw O S0 hz0 S1 rf HS HL (j := j + 2) (by omega) ho he) tw239 tw240 tw231 tw241 ⟨by decide, by decide⟩ (argsL := [(.ref s), (.int (Int32.ofNat (o))), (.ref s2), (.int (Int32.ofNat (j + 2)))]) (S' := []) (lenOf pd22 rfl) rfl rfl d40_28 rfl (W := 0) rfl ⟨by decide, by decide, rfl, rfl, by decide, by decide⟩ fun v3 h3 q3 => ?_
  obtain ⟨rfl, rfl⟩ := q3
  show Go B n0 _ h0 0 0 31 _ [(.int (1 : Int32))]
  refine iIfF C d40_31 (by decide) ?_
  refine iAloadN C d40_34 rfl rfl ?_
  refine iIloadN C d40_35 rfl ?_
  refine iAloadN C d40_36 rfl rfl ?_
  refine iIloadN C d40_37 rfl ?_
  refine iIconst C d40_38 (v := (3 : Int32)) (by decide) ?_
  refine iIadd C d40_39 (v := (Int32.ofNat (j + 3))) (own_add (j) (3)) ?_
  refine iCallS C (rmE1 hw O S0 hz0 S1 rf HS HL (j := j + 3) (by omega) ho he) tw239 tw240 tw231 tw241 ⟨by decide, by decide⟩ (argsL := [(.ref s), (.int (Int32.ofNat (o))), (.ref s2), (.int (Int32.ofNat (j + 3)))]) (S' := []) (lenOf pd22 rfl) rfl rfl d40_40 rfl (W := 0) rfl ⟨by decide, by decide, rfl, rfl, by decide, by decide⟩ fun v4 h4 q4 => ?_
  obtain ⟨rfl, rfl⟩ := q4
  show Go B n0 _ h0 0 0 43 _ [(.int (1 : Int32))]
  refine iIfF C d40_43 (by decide) ?_
  refine iIconst C d40_46 (v := (1 : Int32)) (by decide) ?_
  refine iGoto C (t := 51) d40_47 ⟨by decide, by decide⟩ ?_
  refine iRetZ C M d40_51 (by simp) ⟨Nat.le_refl _, by decide, by decide⟩ ?_
  exact ⟨rfl, rfl⟩
theorem ef_rmDg (m : MethodId) (x0 : Addr) (x1 : Int32) (x2 : Int32) (x3 : Int64) (x4 : Int64) (x5 : Int32) : entryFrame m #[(.ref x0), (.int x1), (.int x2), (.long x3), (.long x4), (.int x5)] 8 = mkF m 0 #[(.val (.ref x0)), (.val (.int x1)), (.val (.int x2)), (.val (.long x3)), .second, (.val (.long x4)), .second, (.val (.int x5))] [] := by first | (simp [entryFrame, mkF, argsToLocals, Value.category]; done) | rfl
set_option maxRecDepth 65536 in
set_option maxHeartbeats 4000000 in
theorem rmDg {l : Launch} {Z : State} {a0 : Array Value} (hw : ∀ d ∈ tables_1, d.before a0 Z = true) {n0 : Nat} {h0 : Heap} {s t : Addr} {k2 : ClassId} {ds : List Int32} {e nn j : Nat} {mm p : Int64} (O : Old Z n0 h0) {z0 : Int32} (S0 : Sta Z Z.heap "java/lang/String" "COMPACT_STRINGS" "Z" (.int z0)) (hz0 : ¬ z0 = 0) {fm : Value} (S1 : Sta Z Z.heap "jdk/internal/util/Preconditions" "SIOOBE_FORMATTER" "Ljava/util/function/BiFunction;" fm) (rf : fm.isRef = true) (HS : SX Z h0 s t k2 ds) (hp : p ≠ 0) (h1 : e ≤ 100) (h2 : nn ≤ e) (h4 : j ≤ 18) (he : j < nn → e - 1 - j < ds.length ∧ ds.getD (e - 1 - j) 0 = ((48 : Int32) - ((mm / p) - ((mm / p) / (10 : Int64)) * (10 : Int64)).toInt32).toUInt32.toUInt16.toUInt32.toInt32) :
    Pays l Z (⟨"com/example/uketsuke/uketsuke/core/token/PageTokenToStringPinLaw", "dig", "(Ljava/lang/String;IIJJI)Z"⟩ : MethodName) method_6_code 8 (some .boolean) ({ frames := 4, cells := 0, slots := 0, locals := 53 } : Room) #[(.ref s), (.int (Int32.ofNat (e))), (.int (Int32.ofNat (nn))), (.long mm), (.long p), (.int (Int32.ofNat (j)))] n0 h0 (QP (some (.int 1)) h0) := by
  refine Pays.of hw (plainFor_of_name pn7) (fun m => ef_rmDg m s (Int32.ofNat (e)) (Int32.ofNat (nn)) mm p (Int32.ofNat (j))) fun B C M => ?_
  refine iIload C d47_0 rfl ?_
  refine iIloadN C d47_2 rfl ?_
  by_cases hc1 : (Int32.ofNat (j)) < (Int32.ofNat (nn))
  · refine iCmpT C (t := 8) d47_3 (tlt hc1).1 ⟨by decide, by decide⟩ ?_
    have hj : j < nn := (own_lt (by omega) (by omega)).mp hc1
    have hq := he hj
    refine iAloadN C d47_8 rfl rfl ?_
    refine iIloadN C d47_9 rfl ?_
    refine iIconst C d47_10 (v := (1 : Int32)) (by decide) ?_
    refine iIsub C d47_11 (v := (Int32.ofNat (e - 1))) (own_sub (a := e) (b := 1) (by omega)) ?_
    refine iIload C d47_12 rfl ?_
    refine iIsub C d47_14 (v := (Int32.ofNat (e - 1 - j))) (own_sub (a := e - 1) (b := j) (by omega)) ?_
    refine iCallVB C (payCh hw HS (S0.ext O.2) hz0 (S1.ext O.2) rf (i := e - 1 - j) hq.1 rfl (by decide) (by decide)) HS.1 tw242 tw243 (Or.inl rfl) tw245 tw244 ⟨by decide, by decide⟩ (argsL := [(.int (Int32.ofNat (e - 1 - j)))]) (S' := []) (lenOf pd21 rfl) rfl rfl d47_15 rfl (W := 0) rfl ⟨rfl, rfl, by decide, by decide⟩ fun v2 h2 q2 => ?_
    obtain ⟨rfl, rfl⟩ := q2
    show Go B n0 _ h0 0 0 18 _ [(.int (ds.getD (e - 1 - j) 0))]
    refine iBipush C d47_18 (v := (48 : Int32)) (by decide) ?_
    refine iLloadN C d47_20 rfl ?_
    refine iLload C d47_21 rfl ?_
    refine iLdiv C d47_23 hp rfl ?_
    refine iLdc2 C tw211 d47_24 ?_
    refine iLrem C d47_27 (by decide) rfl ?_
    refine iL2i C d47_28 rfl ?_
    refine iIsub C d47_29 rfl ?_
    refine iI2c C d47_30 rfl ?_
    refine iCmpF C d47_31 (teq hq.2).2 ?_
    refine iIconst C d47_34 (v := (1 : Int32)) (by decide) ?_
    refine iGoto C (t := 39) d47_35 ⟨by decide, by decide⟩ ?_
    refine iRetZ C M d47_39 (by simp) ⟨Nat.le_refl _, by decide, by decide⟩ ?_
    exact ⟨rfl, rfl⟩
  · refine iCmpF C d47_3 (flt hc1).1 ?_
    have hj : ¬ j < nn := fun q => hc1 ((own_lt (by omega) (by omega)).mpr q)
    refine iIconst C d47_6 (v := (1 : Int32)) (by decide) ?_
    refine iRetZ C M d47_7 (by simp) ⟨Nat.le_refl _, by decide, by decide⟩ ?_
    exact ⟨rfl, rfl⟩
def SPRE : List Int32 := [80, 97, 103, 101, 84, 111, 107, 101, 110, 91, 110, 111, 110, 99, 101, 61]
def SMID : List Int32 := [44, 32, 101, 120, 112, 105, 114, 101, 115, 65, 116, 61]
def SRB : List Int32 := [93]
def SEMP : List Int32 := []
def EL : List (String × Nat) := [("com/example/uketsuke/uketsuke/core/token/PageToken", 23), ("com/example/uketsuke/uketsuke/core/token/PageToken", 29), ("com/example/uketsuke/uketsuke/core/token/PageToken", 34), ("com/example/uketsuke/uketsuke/core/token/PageTokenToStringPinLaw", 67), ("com/example/uketsuke/uketsuke/core/token/PageTokenToStringPinLaw", 69), ("java/lang/String", 7)]
theorem ef_rmC4 (m : MethodId) (x0 : Addr) (x1 : Addr) : entryFrame m #[(.ref x0), (.ref x1), (.int (0 : Int32)), (.int (0 : Int32)), .null] 6 = mkF m 0 #[(.val (.ref x0)), (.val (.ref x1)), (.val (.int (0 : Int32))), (.val (.int (0 : Int32))), (.val .null), .unset] [] := by first | (simp [entryFrame, mkF, argsToLocals, Value.category]; done) | rfl
set_option maxRecDepth 65536 in
set_option maxHeartbeats 4000000 in
theorem rmC4 {l : Launch} {Z : State} {a0 : Array Value} (hw : ∀ d ∈ tables_1, d.before a0 Z = true) (hEW : EW Z a0 EL) {n0 : Nat} {h0 : Heap} {x b : Addr} (O : Old Z n0 h0) (nx : n0 ≤ x) (EX : Exa Z h0 x "java/lang/String") (F1 : Fld Z h0 x "java/lang/String" "value" "[B" .null) (F2 : Fld Z h0 x "java/lang/String" "coder" "B" (.int (0 : Int32))) :
    PaysC l Z EL [x] (⟨"java/lang/String", "<init>", "([CIILjava/lang/Void;)V"⟩ : MethodName) jdk_42_method_149_code 6 none ({ frames := 1, cells := 2, slots := 4, locals := 12 } : Room) #[(.ref x), (.ref b), (.int (0 : Int32)), (.int (0 : Int32)), .null] n0 h0 (QStr Z x SEMP h0 n0) := by
  refine PaysC.of hw (plainFor_of_name pn3) hEW (fun m => ef_rmC4 m x b) fun B vmS C D HC HSs => ?_
  have sfx0 := HSs x (List.mem_singleton.mpr rfl)
  refine iAloadN C d2_0 rfl rfl ?_
  refine iInitO C tw11 tw12 tw13 d2_1 rfl (by decide) (W := 0) rfl (by decide) ?_
  refine iIloadN C d2_4 rfl ?_
  refine iIfF C d2_5 (by decide) ?_
  refine iAloadN C d2_8 rfl rfl ?_
  refine iLdcC C D HC (z := Int32.ofNat SEMP.length) (vs := (SEMP.map lo8).map Value.int) (nn := 0) tw14 own_wS (List.mem_of_getElem? (i := 5) rfl) ⟨by decide, by decide⟩ (by decide) (by decide) d2_9 (by decide) (by decide) ⟨rfl, rfl, by decide, by decide⟩ fun B h1 a1 t1 k1 C D HC1 Bk1 E1 sm1 ne1 A1 Fc1 Fv1 V1 => ?_
  have sf1_x := sm1 _ EX.lt sfx0
  have O1 := O.ext E1
  refine iGetF C tw20 Fv1 d2_11 ?_
  refine iPutF C (v := (.ref t1)) tw20 (F1.ext E1) (EX.ext E1) (Or.inr ⟨tw16, rfl, rfl⟩) tw2 (ty := (.array .byte)) (by decide) rfl rfl nx d2_14 fun h2 W2 => ?_
  have Fw2 := Fld.same W2 (F1.ext E1)
  have O2 := O1.wr W2 nx
  have sf_3_x := Sfx.wr sf1_x W2 sf1_x HC1
  have HC_3 := Chx.wr HC1 W2 sf1_x
  refine iAloadN C d2_17 rfl rfl ?_
  refine iLdcAgain C tw14 Bk1 d2_18 ?_
  refine iGetF C tw21 (Fld.other W2 Fc1 (Or.inr (slot_ne (Or.inr (hw _ tw17)) (Or.inr (hw _ tw16)) (by decide) (t := .byte) (t' := (.array .byte)) (by decide) (by decide)))) d2_20 ?_
  refine iPutF C (v := (.int (0 : Int32))) tw21 (Fld.other W2 (F2.ext E1) (Or.inr (slot_ne (Or.inr (hw _ tw17)) (Or.inr (hw _ tw16)) (by decide) (t := .byte) (t' := (.array .byte)) (by decide) (by decide)))) ((EX.ext E1).wr W2) (Or.inr ⟨tw17, rfl, rfl⟩) tw2 (ty := .byte) (by decide) rfl rfl nx d2_23 fun h4 W4 => ?_
  have Fw4 := Fld.same W4 (Fld.other W2 (F2.ext E1) (Or.inr (slot_ne (Or.inr (hw _ tw17)) (Or.inr (hw _ tw16)) (by decide) (t := .byte) (t' := (.array .byte)) (by decide) (by decide))))
  have O4 := O2.wr W4 nx
  have sf_5_x := Sfx.wr sf_3_x W4 sf_3_x HC_3
  have HC_5 := Chx.wr HC_3 W4 sf_3_x
  refine iRetVC C D HC_5 d2_26 ⟨Nat.le_refl _, by decide, by decide⟩ ?_
  exact ⟨rfl, (((Keep.refl _ _).ext E1).wr W2 (Or.inl (by simp))).wr W4 (Or.inl (by simp)), t1, k1, (((EX.ext E1).wr W2).wr W4), Fw4, (Fld.other W4 Fw2 (Or.inr (slot_ne (Or.inr (hw _ tw16)) (Or.inr (hw _ tw17)) (by decide) (t := (.array .byte)) (t' := .byte) (by decide) (by decide)))), ((V1.other W2 (Ne.symm (ne1 _ sf1_x).2)).other W4 (Ne.symm (ne1 _ sf1_x).2)), by decide, by decide⟩
theorem ef_rmC1 (m : MethodId) (x0 : Addr) (x1 : Addr) : entryFrame m #[(.ref x0), (.ref x1)] 2 = mkF m 0 #[(.val (.ref x0)), (.val (.ref x1))] [] := by first | (simp [entryFrame, mkF, argsToLocals, Value.category]; done) | rfl
set_option maxRecDepth 65536 in
set_option maxHeartbeats 4000000 in
theorem rmC1 {l : Launch} {Z : State} {a0 : Array Value} (hw : ∀ d ∈ tables_1, d.before a0 Z = true) (hEW : EW Z a0 EL) {n0 : Nat} {h0 : Heap} {x b : Addr} {kC : ClassId} (O : Old Z n0 h0) (nx : n0 ≤ x) (EX : Exa Z h0 x "java/lang/String") (F1 : Fld Z h0 x "java/lang/String" "value" "[B" .null) (F2 : Fld Z h0 x "java/lang/String" "coder" "B" (.int (0 : Int32))) (KB : Arv Z h0 b kC .char (0 : Int32) [] (.int 0)) :
    PaysC l Z EL [x] (⟨"java/lang/String", "<init>", "([C)V"⟩ : MethodName) jdk_42_method_3_code 2 none ({ frames := 2, cells := 2, slots := 4, locals := 29 } : Room) #[(.ref x), (.ref b)] n0 h0 (QStr Z x SEMP h0 n0) := by
  refine PaysC.of hw (plainFor_of_name pn3) hEW (fun m => ef_rmC1 m x b) fun B vmS C D HC HSs => ?_
  have sfx0 := HSs x (List.mem_singleton.mpr rfl)
  refine iAloadN C d1_0 rfl rfl ?_
  refine iAloadN C d1_1 rfl rfl ?_
  refine iIconst C d1_2 (v := (0 : Int32)) (by decide) ?_
  refine iAloadN C d1_3 rfl rfl ?_
  obtain ⟨c1, A1, q1, z1, y1, H1, G1⟩ := id KB
  refine iLen C A1 (len_of z1 y1) d1_4 ?_
  refine iNull C d1_5 ?_
  refine iCallIC C D HC (sa := [x]) (inS (P := fun x => x < _ ∧ Sfx B Z EL _ x) ⟨EX.lt, sfx0⟩ (fun x hx => (List.not_mem_nil hx).elim)) (rmC4 hw hEW O nx EX F1 F2) rfl tw7 tw8 tw3 tw10 ⟨by decide, by decide⟩ (a := x) (argsL := [(.ref b), (.int (0 : Int32)), (.int (0 : Int32)), .null]) (S' := []) (lenOf pd23 rfl) rfl rfl d1_6 rfl (W := 0) rfl ⟨by decide, by decide, rfl, rfl, by decide, by decide⟩ fun B v2 h2 C D HC2 sm2 q2 => ?_
  have sf2_x := sm2 _ EX.lt sfx0
  obtain ⟨rfl, K2, t2, k2, sx2⟩ := q2
  show Go B n0 _ h2 2 4 9 _ []
  refine iRetVC C D HC2 d1_9 ⟨Nat.le_refl _, by decide, by decide⟩ ?_
  exact ⟨rfl, K2, t2, k2, sx2⟩
theorem SX.kp {Z : State} {h h2 : Heap} {x t : Addr} {k : ClassId} {cs : List Int32} {ws : List Addr} {n : Nat} (q : SX Z h x t k cs) (K : Keep h h2 ws) (hx : x < n) (ht : t < n) (hws : ∀ w ∈ ws, n ≤ w) : SX Z h2 x t k cs := ⟨q.1.keep K, q.2.1.keep K (fun hm => absurd (hws x hm) (Nat.not_le_of_lt hx)), q.2.2.1.keep K (fun hm => absurd (hws x hm) (Nat.not_le_of_lt hx)), q.2.2.2.1.keep K (fun hm => absurd (hws t hm) (Nat.not_le_of_lt ht)), q.2.2.2.2⟩
def QTO (Z : State) (cs : List Int32) (h0 : Heap) (r : Option Value) (h : Heap) : Prop := ∃ (x t : Addr) (k : ClassId), r = some (.ref x) ∧ Keep h0 h [] ∧ h0.size ≤ x ∧ SX Z h x t k cs
def TXT (ds : List Int32) (x : Int64) (n : Nat) : List Int32 := ((((([] ++ SPRE) ++ ds) ++ SMID) ++ txtL x n) ++ SRB)
theorem ef_rmTO (m : MethodId) (x0 : Addr) : entryFrame m #[(.ref x0)] 1 = mkF m 0 #[(.val (.ref x0))] [] := by first | (simp [entryFrame, mkF, argsToLocals, Value.category]; done) | rfl
set_option maxRecDepth 65536 in
set_option maxHeartbeats 4000000 in
theorem rmTO {l : Launch} {Z : State} {a0 : Array Value} (hw : ∀ d ∈ tables_1, d.before a0 Z = true) (hEW : EW Z a0 EL) {n0 : Nat} {h0 : Heap} {pt s t : Addr} {k2 : ClassId} {ds : List Int32} (O : Old Z n0 h0) {z0 : Int32} (S0 : Sta Z Z.heap "java/lang/String" "COMPACT_STRINGS" "Z" (.int z0)) (hz0 : ¬ z0 = 0) {ist d1 d2 : Addr} {D1 D2 : Cell} (T1 : Jvm.Free.SBG.Tbl Z "DigitOnes" ist d1 D1) (T2 : Jvm.Free.SBG.Tbl Z "DigitTens" ist d2 D2) (U1 : Jvm.Free.SBG.Ones D1) (U2 : Jvm.Free.SBG.Tens D2) {x : Int64} {n : Nat} (hn : n ≤ 2 ^ 63) (hx : (if x < 0 then x else -x) = Jvm.Free.SBG.negL n) (EA : Exa Z h0 pt "com/example/uketsuke/uketsuke/core/token/PageToken") (Pn : Fld Z h0 pt "com/example/uketsuke/uketsuke/core/token/PageToken" "nonce" "Ljava/lang/String;" (.ref s)) (Pe : Fld Z h0 pt "com/example/uketsuke/uketsuke/core/token/PageToken" "expiresAt" "J" (.long x)) (HS : SX Z h0 s t k2 ds) (hds : ds.length ≤ 3) :
    PaysC l Z EL [] (⟨"com/example/uketsuke/uketsuke/core/token/PageToken", "toString", "()Ljava/lang/String;"⟩ : MethodName) prog_55_method_2_code 1 (some (.object "java/lang/String")) ({ frames := 6, cells := 15, slots := 932, locals := 132 } : Room) #[(.ref pt)] n0 h0 (QTO Z (TXT ds x n) h0) := by
  refine PaysC.of hw (plainFor_of_name pn6) hEW (fun m => ef_rmTO m pt) fun B vmS C D HC HSs => ?_
  have e1 : SPRE.length = 16 := rfl
  have e2 : SMID.length = 12 := rfl
  have e3 : SRB.length = 1 := rfl
  have e4 := own_dn x n
  have e5 := txtL_len x n
  refine iNew C tw56 tw57 tw58 d9_0 ⟨rfl, rfl, by decide, by decide⟩ fun h1 a1 g1 E1 A1 D1 => ?_
  have n_a1 : n0 ≤ a1 := oFresh O g1
  have O1 := O.ext E1
  have HC_2 := Chx.ext HC E1
  have F1_value : Fld Z h1 a1 "java/lang/AbstractStringBuilder" "value" "[B" .null := D1 (Or.inl (hw _ tw71)) (ty := (.array .byte)) (by decide)
  have F1_coder : Fld Z h1 a1 "java/lang/AbstractStringBuilder" "coder" "B" (.int (0 : Int32)) := D1 (Or.inl (hw _ tw73)) (ty := .byte) (by decide)
  have F1_count : Fld Z h1 a1 "java/lang/AbstractStringBuilder" "count" "I" (.int (0 : Int32)) := D1 (Or.inl (hw _ tw96)) (ty := .int) (by decide)
  refine iDup C d9_3 rfl ?_
  refine iCallI C (rmSBI hw O1 S0 hz0 A1 F1_value F1_coder F1_count n_a1) rfl tw59 tw60 tw58 tw61 ⟨by decide, by decide⟩ (a := a1) (argsL := []) (S' := [(.ref a1)]) (lenOf pd20 rfl) rfl rfl d9_4 rfl (W := 1) rfl ⟨by decide, by decide, rfl, rfl, by decide, by decide⟩ fun v3 h3 q3 => ?_
  obtain ⟨rfl, K3, v3, k3, SB3, ge3⟩ := q3
  have al_4 : ∀ x ∈ [a1], Sfx B Z EL h1 x := (inS (P := Sfx B Z EL _) (Sfx.exa C A1 (by decide) (by decide)) (fun x hx => (List.not_mem_nil hx).elim))
  have HC_4 := Chx.keep HC_2 K3 al_4
  have O3 := O1.keep K3 (allS n_a1 all0)
  have ge_v3 : Array.size h0 ≤ v3 := Nat.le_trans (Nat.le_trans (Nat.le_refl _) E1.1) ge3
  have sp_v3 : Sfx B Z EL h1 v3 := Sfx.new ge3
  have ss_v3 := Sfx.keep sp_v3 K3 al_4 HC_2
  have nv_v3 : n0 ≤ v3 := Nat.le_trans (oSize O) ge_v3
  show Go B n0 _ h3 2 20 7 _ [(.ref a1)]
  refine iLdcC C D HC_4 (z := Int32.ofNat SPRE.length) (vs := (SPRE.map lo8).map Value.int) (nn := 64) tw74 own_wS (List.mem_of_getElem? (i := 0) rfl) ⟨by decide, by decide⟩ (by decide) (by decide) d9_7 (by decide) (by decide) ⟨rfl, rfl, by decide, by decide⟩ fun B h5 a5 t5 k5 C D HC5 Bk5 E5 sm5 ne5 A5 Fc5 Fv5 V5 => ?_
  have sf5_v3 := sm5 _ SB3.2.2.2.2.2.1.lt ss_v3
  have O5 := O3.ext E5
  refine iCallV C (rmSAp hw (cs := []) (ds := SPRE) O5 S0 hz0 (SBX.ext SB3 E5) ⟨A5, Fc5, Fv5, V5, (by decide), (by decide)⟩ n_a1 nv_v3 (by decide) (by simp only [List.length_append, List.length_nil]; omega)) (SB3.1.ext E5) tw75 tw76 (Or.inl rfl) tw78 tw77 tw58 tw79 ⟨by decide, by decide⟩ (argsL := [(.ref a5)]) (S' := []) (lenOf pd24 rfl) rfl rfl d9_9 rfl (W := 0) rfl ⟨by decide, by decide, rfl, rfl, by decide, by decide⟩ fun v6 h6 q6 => ?_
  obtain ⟨rfl, K6, v1_6, k1_6, c1_6, SB6, alt6, cb6⟩ := q6
  have al_7 : ∀ x ∈ [a1, v3], Sfx B Z EL h5 x := (inS (P := Sfx B Z EL _) (Sfx.exa C (SB3.1.ext E5) (by decide) (by decide)) (inS (P := Sfx B Z EL _) sf5_v3 (fun x hx => (List.not_mem_nil hx).elim)))
  have sf_7_v3 := Sfx.keep sf5_v3 K6 al_7 HC5
  have HC_7 := Chx.keep HC5 K6 al_7
  have O6 := O5.keep K6 (allS n_a1 (allS nv_v3 all0))
  have ge_v1_6 : Array.size h0 ≤ v1_6 := alt6.elim (fun q => by rw [q]; exact ge_v3) (fun q => Nat.le_trans (Nat.le_trans (Nat.le_trans (Nat.le_trans (Nat.le_refl _) E1.1) K3.1) E5.1) q)
  have sp_v1_6 : Sfx B Z EL h5 v1_6 := alt6.elim (fun q => by rw [q]; exact sf5_v3) (fun q => Sfx.new q)
  have ss_v1_6 := Sfx.keep sp_v1_6 K6 al_7 HC5
  have nv_v1_6 : n0 ≤ v1_6 := Nat.le_trans (oSize O) ge_v1_6
  show Go B n0 _ h6 5 218 12 _ [(.ref a1)]
  refine iAloadN C d9_12 rfl rfl ?_
  refine iGetF C tw47 ((((Pn.ext E1).keep K3 (ninS (oNe EA.lt (Nat.le_trans (Nat.le_refl _) (Nat.le_of_eq g1.symm))) nin0)).ext E5).keep K6 (ninS (oNe EA.lt (Nat.le_trans (Nat.le_refl _) (Nat.le_of_eq g1.symm))) (ninS (oNe EA.lt ge_v3) nin0))) d9_13 ?_
  refine iCallV C (rmSAp hw (cs := ([] ++ SPRE)) (ds := ds) O6 S0 hz0 SB6 (SX.kp (SX.ext (SX.kp (SX.ext HS E1) K3 HS.1.lt HS.2.2.2.1.lt (inS (P := fun w => Array.size h0 ≤ w) (Nat.le_trans (Nat.le_refl _) (Nat.le_of_eq g1.symm)) (fun x hx => (List.not_mem_nil hx).elim))) E5) K6 HS.1.lt HS.2.2.2.1.lt (inS (P := fun w => Array.size h0 ≤ w) (Nat.le_trans (Nat.le_refl _) (Nat.le_of_eq g1.symm)) (inS (P := fun w => Array.size h0 ≤ w) ge_v3 (fun x hx => (List.not_mem_nil hx).elim)))) n_a1 nv_v1_6 cb6 (by simp only [List.length_append, List.length_nil]; omega)) SB6.1 tw75 tw76 (Or.inl rfl) tw78 tw77 tw58 tw79 ⟨by decide, by decide⟩ (argsL := [(.ref s)]) (S' := []) (lenOf pd24 rfl) rfl rfl d9_16 rfl (W := 0) rfl ⟨by decide, by decide, rfl, rfl, by decide, by decide⟩ fun v8 h8 q8 => ?_
  obtain ⟨rfl, K8, v1_8, k1_8, c1_8, SB8, alt8, cb8⟩ := q8
  have al_9 : ∀ x ∈ [a1, v1_6], Sfx B Z EL h6 x := (inS (P := Sfx B Z EL _) (Sfx.exa C SB6.1 (by decide) (by decide)) (inS (P := Sfx B Z EL _) ss_v1_6 (fun x hx => (List.not_mem_nil hx).elim)))
  have sf_9_v1_6 := Sfx.keep ss_v1_6 K8 al_9 HC_7
  have HC_9 := Chx.keep HC_7 K8 al_9
  have O8 := O6.keep K8 (allS n_a1 (allS nv_v1_6 all0))
  have ge_v1_8 : Array.size h0 ≤ v1_8 := alt8.elim (fun q => by rw [q]; exact ge_v1_6) (fun q => Nat.le_trans (Nat.le_trans (Nat.le_trans (Nat.le_trans (Nat.le_trans (Nat.le_refl _) E1.1) K3.1) E5.1) K6.1) q)
  have sp_v1_8 : Sfx B Z EL h6 v1_8 := alt8.elim (fun q => by rw [q]; exact ss_v1_6) (fun q => Sfx.new q)
  have ss_v1_8 := Sfx.keep sp_v1_8 K8 al_9 HC_7
  have nv_v1_8 : n0 ≤ v1_8 := Nat.le_trans (oSize O) ge_v1_8
  show Go B n0 _ h8 6 348 19 _ [(.ref a1)]
  refine iLdcC C D HC_9 (z := Int32.ofNat SMID.length) (vs := (SMID.map lo8).map Value.int) (nn := 48) tw122 own_wS (List.mem_of_getElem? (i := 1) rfl) ⟨by decide, by decide⟩ (by decide) (by decide) d9_19 (by decide) (by decide) ⟨rfl, rfl, by decide, by decide⟩ fun B h10 a10 t10 k10 C D HC10 Bk10 E10 sm10 ne10 A10 Fc10 Fv10 V10 => ?_
  have sf10_v1_8 := sm10 _ SB8.2.2.2.2.2.1.lt ss_v1_8
  have O10 := O8.ext E10
  refine iCallV C (rmSAp hw (cs := (([] ++ SPRE) ++ ds)) (ds := SMID) O10 S0 hz0 (SBX.ext SB8 E10) ⟨A10, Fc10, Fv10, V10, (by decide), (by decide)⟩ n_a1 nv_v1_8 cb8 (by simp only [List.length_append, List.length_nil]; omega)) (SB8.1.ext E10) tw75 tw76 (Or.inl rfl) tw78 tw77 tw58 tw79 ⟨by decide, by decide⟩ (argsL := [(.ref a10)]) (S' := []) (lenOf pd24 rfl) rfl rfl d9_21 rfl (W := 0) rfl ⟨by decide, by decide, rfl, rfl, by decide, by decide⟩ fun v11 h11 q11 => ?_
  obtain ⟨rfl, K11, v1_11, k1_11, c1_11, SB11, alt11, cb11⟩ := q11
  have al_12 : ∀ x ∈ [a1, v1_8], Sfx B Z EL h10 x := (inS (P := Sfx B Z EL _) (Sfx.exa C (SB8.1.ext E10) (by decide) (by decide)) (inS (P := Sfx B Z EL _) sf10_v1_8 (fun x hx => (List.not_mem_nil hx).elim)))
  have sf_12_v1_8 := Sfx.keep sf10_v1_8 K11 al_12 HC10
  have HC_12 := Chx.keep HC10 K11 al_12
  have O11 := O10.keep K11 (allS n_a1 (allS nv_v1_8 all0))
  have ge_v1_11 : Array.size h0 ≤ v1_11 := alt11.elim (fun q => by rw [q]; exact ge_v1_8) (fun q => Nat.le_trans (Nat.le_trans (Nat.le_trans (Nat.le_trans (Nat.le_trans (Nat.le_trans (Nat.le_trans (Nat.le_refl _) E1.1) K3.1) E5.1) K6.1) K8.1) E10.1) q)
  have sp_v1_11 : Sfx B Z EL h10 v1_11 := alt11.elim (fun q => by rw [q]; exact sf10_v1_8) (fun q => Sfx.new q)
  have ss_v1_11 := Sfx.keep sp_v1_11 K11 al_12 HC10
  have nv_v1_11 : n0 ≤ v1_11 := Nat.le_trans (oSize O) ge_v1_11
  show Go B n0 _ h11 9 530 24 _ [(.ref a1)]
  refine iAloadN C d9_24 rfl rfl ?_
  refine iGetF C tw49 (((((((Pe.ext E1).keep K3 (ninS (oNe EA.lt (Nat.le_trans (Nat.le_refl _) (Nat.le_of_eq g1.symm))) nin0)).ext E5).keep K6 (ninS (oNe EA.lt (Nat.le_trans (Nat.le_refl _) (Nat.le_of_eq g1.symm))) (ninS (oNe EA.lt ge_v3) nin0))).keep K8 (ninS (oNe EA.lt (Nat.le_trans (Nat.le_refl _) (Nat.le_of_eq g1.symm))) (ninS (oNe EA.lt ge_v1_6) nin0))).ext E10).keep K11 (ninS (oNe EA.lt (Nat.le_trans (Nat.le_refl _) (Nat.le_of_eq g1.symm))) (ninS (oNe EA.lt ge_v1_8) nin0))) d9_25 ?_
  refine iCallV C (rmSAJ hw (cs := ((([] ++ SPRE) ++ ds) ++ SMID)) O11 S0 hz0 T1 T2 U1 U2 SB11 hn hx n_a1 nv_v1_11 cb11 (by simp only [List.length_append, List.length_nil]; omega)) SB11.1 tw146 tw147 (Or.inl rfl) tw149 tw148 tw58 tw150 ⟨by decide, by decide⟩ (argsL := [(.long x)]) (S' := []) (lenOf pd25 rfl) rfl rfl d9_28 rfl (W := 0) rfl ⟨by decide, by decide, rfl, rfl, by decide, by decide⟩ fun v13 h13 q13 => ?_
  obtain ⟨rfl, K13, v1_13, k1_13, c1_13, SB13, alt13, cb13⟩ := q13
  have al_14 : ∀ x ∈ [a1, v1_11], Sfx B Z EL h11 x := (inS (P := Sfx B Z EL _) (Sfx.exa C SB11.1 (by decide) (by decide)) (inS (P := Sfx B Z EL _) ss_v1_11 (fun x hx => (List.not_mem_nil hx).elim)))
  have sf_14_v1_11 := Sfx.keep ss_v1_11 K13 al_14 HC_12
  have HC_14 := Chx.keep HC_12 K13 al_14
  have O13 := O11.keep K13 (allS n_a1 (allS nv_v1_11 all0))
  have ge_v1_13 : Array.size h0 ≤ v1_13 := alt13.elim (fun q => by rw [q]; exact ge_v1_11) (fun q => Nat.le_trans (Nat.le_trans (Nat.le_trans (Nat.le_trans (Nat.le_trans (Nat.le_trans (Nat.le_trans (Nat.le_trans (Nat.le_refl _) E1.1) K3.1) E5.1) K6.1) K8.1) E10.1) K11.1) q)
  have sp_v1_13 : Sfx B Z EL h11 v1_13 := alt13.elim (fun q => by rw [q]; exact ss_v1_11) (fun q => Sfx.new q)
  have ss_v1_13 := Sfx.keep sp_v1_13 K13 al_14 HC_12
  have nv_v1_13 : n0 ≤ v1_13 := Nat.le_trans (oSize O) ge_v1_13
  show Go B n0 _ h13 10 660 31 _ [(.ref a1)]
  refine iLdcC C D HC_14 (z := Int32.ofNat SRB.length) (vs := (SRB.map lo8).map Value.int) (nn := 4) tw174 own_wS (List.mem_of_getElem? (i := 2) rfl) ⟨by decide, by decide⟩ (by decide) (by decide) d9_31 (by decide) (by decide) ⟨rfl, rfl, by decide, by decide⟩ fun B h15 a15 t15 k15 C D HC15 Bk15 E15 sm15 ne15 A15 Fc15 Fv15 V15 => ?_
  have sf15_v1_13 := sm15 _ SB13.2.2.2.2.2.1.lt ss_v1_13
  have O15 := O13.ext E15
  refine iCallV C (rmSAp hw (cs := (((([] ++ SPRE) ++ ds) ++ SMID) ++ txtL x n)) (ds := SRB) O15 S0 hz0 (SBX.ext SB13 E15) ⟨A15, Fc15, Fv15, V15, (by decide), (by decide)⟩ n_a1 nv_v1_13 cb13 (by simp only [List.length_append, List.length_nil]; omega)) (SB13.1.ext E15) tw75 tw76 (Or.inl rfl) tw78 tw77 tw58 tw79 ⟨by decide, by decide⟩ (argsL := [(.ref a15)]) (S' := []) (lenOf pd24 rfl) rfl rfl d9_33 rfl (W := 0) rfl ⟨by decide, by decide, rfl, rfl, by decide, by decide⟩ fun v16 h16 q16 => ?_
  obtain ⟨rfl, K16, v1_16, k1_16, c1_16, SB16, alt16, cb16⟩ := q16
  have al_17 : ∀ x ∈ [a1, v1_13], Sfx B Z EL h15 x := (inS (P := Sfx B Z EL _) (Sfx.exa C (SB13.1.ext E15) (by decide) (by decide)) (inS (P := Sfx B Z EL _) sf15_v1_13 (fun x hx => (List.not_mem_nil hx).elim)))
  have sf_17_v1_13 := Sfx.keep sf15_v1_13 K16 al_17 HC15
  have HC_17 := Chx.keep HC15 K16 al_17
  have O16 := O15.keep K16 (allS n_a1 (allS nv_v1_13 all0))
  have ge_v1_16 : Array.size h0 ≤ v1_16 := alt16.elim (fun q => by rw [q]; exact ge_v1_13) (fun q => Nat.le_trans (Nat.le_trans (Nat.le_trans (Nat.le_trans (Nat.le_trans (Nat.le_trans (Nat.le_trans (Nat.le_trans (Nat.le_trans (Nat.le_trans (Nat.le_refl _) E1.1) K3.1) E5.1) K6.1) K8.1) E10.1) K11.1) K13.1) E15.1) q)
  have sp_v1_16 : Sfx B Z EL h15 v1_16 := alt16.elim (fun q => by rw [q]; exact sf15_v1_13) (fun q => Sfx.new q)
  have ss_v1_16 := Sfx.keep sp_v1_16 K16 al_17 HC15
  have nv_v1_16 : n0 ≤ v1_16 := Nat.le_trans (oSize O) ge_v1_16
  show Go B n0 _ h16 13 798 36 _ [(.ref a1)]
  refine iCallV C (rmTS hw O16 S0 hz0 SB16 cb16) SB16.1 tw175 tw176 (Or.inl rfl) tw178 tw177 tw58 tw179 ⟨by decide, by decide⟩ (argsL := []) (S' := []) (lenOf pd26 rfl) rfl rfl d9_36 rfl (W := 0) rfl ⟨by decide, by decide, rfl, rfl, by decide, by decide⟩ fun v18 h18 q18 => ?_
  obtain ⟨x18, t18, k18, rfl, K18, gx18, sx18⟩ := q18
  have al_19 : ∀ x ∈ [], Sfx B Z EL h16 x := (fun x hx => (List.not_mem_nil hx).elim)
  have sf_19_v1_16 := Sfx.keep ss_v1_16 K18 al_19 HC_17
  have HC_19 := Chx.keep HC_17 K18 al_19
  have O18 := O16.keep K18 all0
  show Go B n0 _ h18 15 932 39 _ [(.ref x18)]
  refine iRetAC C D HC_19 d9_39 rfl rfl rfl ⟨Nat.le_refl _, by decide, by decide⟩ ?_
  exact ⟨x18, t18, k18, rfl, (((((((((((Keep.refl _ _).ext E1).trans K3 (inS (Or.inr (Nat.le_trans (Nat.le_refl _) (Nat.le_of_eq g1.symm))) (fun x hx => (List.not_mem_nil hx).elim))).ext E5).trans K6 (inS (Or.inr (Nat.le_trans (Nat.le_refl _) (Nat.le_of_eq g1.symm))) (inS (Or.inr ge_v3) (fun x hx => (List.not_mem_nil hx).elim)))).trans K8 (inS (Or.inr (Nat.le_trans (Nat.le_refl _) (Nat.le_of_eq g1.symm))) (inS (Or.inr ge_v1_6) (fun x hx => (List.not_mem_nil hx).elim)))).ext E10).trans K11 (inS (Or.inr (Nat.le_trans (Nat.le_refl _) (Nat.le_of_eq g1.symm))) (inS (Or.inr ge_v1_8) (fun x hx => (List.not_mem_nil hx).elim)))).trans K13 (inS (Or.inr (Nat.le_trans (Nat.le_refl _) (Nat.le_of_eq g1.symm))) (inS (Or.inr ge_v1_11) (fun x hx => (List.not_mem_nil hx).elim)))).ext E15).trans K16 (inS (Or.inr (Nat.le_trans (Nat.le_refl _) (Nat.le_of_eq g1.symm))) (inS (Or.inr ge_v1_13) (fun x hx => (List.not_mem_nil hx).elim)))).trans K18 (fun x hx => (List.not_mem_nil hx).elim), Nat.le_trans (Nat.le_trans (Nat.le_trans (Nat.le_trans (Nat.le_trans (Nat.le_trans (Nat.le_trans (Nat.le_trans (Nat.le_trans (Nat.le_trans (Nat.le_trans (Nat.le_refl _) E1.1) K3.1) E5.1) K6.1) K8.1) E10.1) K11.1) K13.1) E15.1) K16.1) gx18, sx18⟩
def gg (n p : Nat) : Nat := if p ≤ n then 1 else 0
set_option maxHeartbeats 4000000 in
theorem own_dsum {n : Nat} (h : n ≤ 2 ^ 63) : 1 + (gg n 10) + (gg n 100) + (gg n 1000) + (gg n 10000) + (gg n 100000) + (gg n 1000000) + (gg n 10000000) + (gg n 100000000) + (gg n 1000000000) + (gg n 10000000000) + (gg n 100000000000) + (gg n 1000000000000) + (gg n 10000000000000) + (gg n 100000000000000) + (gg n 1000000000000000) + (gg n 10000000000000000) + (gg n 100000000000000000) + (gg n 1000000000000000000) = Jvm.Free.SBG.digitsL n := by
  by_cases c1 : n < 10
  · have g : 1 + (gg n 10) + (gg n 100) + (gg n 1000) + (gg n 10000) + (gg n 100000) + (gg n 1000000) + (gg n 10000000) + (gg n 100000000) + (gg n 1000000000) + (gg n 10000000000) + (gg n 100000000000) + (gg n 1000000000000) + (gg n 10000000000000) + (gg n 100000000000000) + (gg n 1000000000000000) + (gg n 10000000000000000) + (gg n 100000000000000000) + (gg n 1000000000000000000) = 1 := by
      rw [show gg n 10 = 0 from if_neg (by omega), show gg n 100 = 0 from if_neg (by omega), show gg n 1000 = 0 from if_neg (by omega), show gg n 10000 = 0 from if_neg (by omega), show gg n 100000 = 0 from if_neg (by omega), show gg n 1000000 = 0 from if_neg (by omega), show gg n 10000000 = 0 from if_neg (by omega), show gg n 100000000 = 0 from if_neg (by omega), show gg n 1000000000 = 0 from if_neg (by omega), show gg n 10000000000 = 0 from if_neg (by omega), show gg n 100000000000 = 0 from if_neg (by omega), show gg n 1000000000000 = 0 from if_neg (by omega), show gg n 10000000000000 = 0 from if_neg (by omega), show gg n 100000000000000 = 0 from if_neg (by omega), show gg n 1000000000000000 = 0 from if_neg (by omega), show gg n 10000000000000000 = 0 from if_neg (by omega), show gg n 100000000000000000 = 0 from if_neg (by omega), show gg n 1000000000000000000 = 0 from if_neg (by omega)]
    rw [g]
    unfold Jvm.Free.SBG.digitsL
    simp only [Jvm.Free.SBG.wN]
    rw [if_neg (show ¬ 100 ≤ n from by omega), if_neg (show ¬ 9 < n from by omega)]
  by_cases c2 : n < 100
  · have g : 1 + (gg n 10) + (gg n 100) + (gg n 1000) + (gg n 10000) + (gg n 100000) + (gg n 1000000) + (gg n 10000000) + (gg n 100000000) + (gg n 1000000000) + (gg n 10000000000) + (gg n 100000000000) + (gg n 1000000000000) + (gg n 10000000000000) + (gg n 100000000000000) + (gg n 1000000000000000) + (gg n 10000000000000000) + (gg n 100000000000000000) + (gg n 1000000000000000000) = 2 := by
      rw [show gg n 10 = 1 from if_pos (by omega), show gg n 100 = 0 from if_neg (by omega), show gg n 1000 = 0 from if_neg (by omega), show gg n 10000 = 0 from if_neg (by omega), show gg n 100000 = 0 from if_neg (by omega), show gg n 1000000 = 0 from if_neg (by omega), show gg n 10000000 = 0 from if_neg (by omega), show gg n 100000000 = 0 from if_neg (by omega), show gg n 1000000000 = 0 from if_neg (by omega), show gg n 10000000000 = 0 from if_neg (by omega), show gg n 100000000000 = 0 from if_neg (by omega), show gg n 1000000000000 = 0 from if_neg (by omega), show gg n 10000000000000 = 0 from if_neg (by omega), show gg n 100000000000000 = 0 from if_neg (by omega), show gg n 1000000000000000 = 0 from if_neg (by omega), show gg n 10000000000000000 = 0 from if_neg (by omega), show gg n 100000000000000000 = 0 from if_neg (by omega), show gg n 1000000000000000000 = 0 from if_neg (by omega)]
    rw [g]
    unfold Jvm.Free.SBG.digitsL
    simp only [Jvm.Free.SBG.wN]
    rw [if_neg (show ¬ 100 ≤ n from by omega), if_pos (show 9 < n from by omega)]
  by_cases c3 : n < 1000
  · have g : 1 + (gg n 10) + (gg n 100) + (gg n 1000) + (gg n 10000) + (gg n 100000) + (gg n 1000000) + (gg n 10000000) + (gg n 100000000) + (gg n 1000000000) + (gg n 10000000000) + (gg n 100000000000) + (gg n 1000000000000) + (gg n 10000000000000) + (gg n 100000000000000) + (gg n 1000000000000000) + (gg n 10000000000000000) + (gg n 100000000000000000) + (gg n 1000000000000000000) = 3 := by
      rw [show gg n 10 = 1 from if_pos (by omega), show gg n 100 = 1 from if_pos (by omega), show gg n 1000 = 0 from if_neg (by omega), show gg n 10000 = 0 from if_neg (by omega), show gg n 100000 = 0 from if_neg (by omega), show gg n 1000000 = 0 from if_neg (by omega), show gg n 10000000 = 0 from if_neg (by omega), show gg n 100000000 = 0 from if_neg (by omega), show gg n 1000000000 = 0 from if_neg (by omega), show gg n 10000000000 = 0 from if_neg (by omega), show gg n 100000000000 = 0 from if_neg (by omega), show gg n 1000000000000 = 0 from if_neg (by omega), show gg n 10000000000000 = 0 from if_neg (by omega), show gg n 100000000000000 = 0 from if_neg (by omega), show gg n 1000000000000000 = 0 from if_neg (by omega), show gg n 10000000000000000 = 0 from if_neg (by omega), show gg n 100000000000000000 = 0 from if_neg (by omega), show gg n 1000000000000000000 = 0 from if_neg (by omega)]
    rw [g]
    unfold Jvm.Free.SBG.digitsL
    simp only [Jvm.Free.SBG.wN]
    rw [if_pos (show 100 ≤ n from by omega), if_neg (show ¬ 100 ≤ n / 100 from by omega), if_neg (show ¬ 9 < n / 100 from by omega)]
  by_cases c4 : n < 10000
  · have g : 1 + (gg n 10) + (gg n 100) + (gg n 1000) + (gg n 10000) + (gg n 100000) + (gg n 1000000) + (gg n 10000000) + (gg n 100000000) + (gg n 1000000000) + (gg n 10000000000) + (gg n 100000000000) + (gg n 1000000000000) + (gg n 10000000000000) + (gg n 100000000000000) + (gg n 1000000000000000) + (gg n 10000000000000000) + (gg n 100000000000000000) + (gg n 1000000000000000000) = 4 := by
      rw [show gg n 10 = 1 from if_pos (by omega), show gg n 100 = 1 from if_pos (by omega), show gg n 1000 = 1 from if_pos (by omega), show gg n 10000 = 0 from if_neg (by omega), show gg n 100000 = 0 from if_neg (by omega), show gg n 1000000 = 0 from if_neg (by omega), show gg n 10000000 = 0 from if_neg (by omega), show gg n 100000000 = 0 from if_neg (by omega), show gg n 1000000000 = 0 from if_neg (by omega), show gg n 10000000000 = 0 from if_neg (by omega), show gg n 100000000000 = 0 from if_neg (by omega), show gg n 1000000000000 = 0 from if_neg (by omega), show gg n 10000000000000 = 0 from if_neg (by omega), show gg n 100000000000000 = 0 from if_neg (by omega), show gg n 1000000000000000 = 0 from if_neg (by omega), show gg n 10000000000000000 = 0 from if_neg (by omega), show gg n 100000000000000000 = 0 from if_neg (by omega), show gg n 1000000000000000000 = 0 from if_neg (by omega)]
    rw [g]
    unfold Jvm.Free.SBG.digitsL
    simp only [Jvm.Free.SBG.wN]
    rw [if_pos (show 100 ≤ n from by omega), if_neg (show ¬ 100 ≤ n / 100 from by omega), if_pos (show 9 < n / 100 from by omega)]
  by_cases c5 : n < 100000
  · have g : 1 + (gg n 10) + (gg n 100) + (gg n 1000) + (gg n 10000) + (gg n 100000) + (gg n 1000000) + (gg n 10000000) + (gg n 100000000) + (gg n 1000000000) + (gg n 10000000000) + (gg n 100000000000) + (gg n 1000000000000) + (gg n 10000000000000) + (gg n 100000000000000) + (gg n 1000000000000000) + (gg n 10000000000000000) + (gg n 100000000000000000) + (gg n 1000000000000000000) = 5 := by
      rw [show gg n 10 = 1 from if_pos (by omega), show gg n 100 = 1 from if_pos (by omega), show gg n 1000 = 1 from if_pos (by omega), show gg n 10000 = 1 from if_pos (by omega), show gg n 100000 = 0 from if_neg (by omega), show gg n 1000000 = 0 from if_neg (by omega), show gg n 10000000 = 0 from if_neg (by omega), show gg n 100000000 = 0 from if_neg (by omega), show gg n 1000000000 = 0 from if_neg (by omega), show gg n 10000000000 = 0 from if_neg (by omega), show gg n 100000000000 = 0 from if_neg (by omega), show gg n 1000000000000 = 0 from if_neg (by omega), show gg n 10000000000000 = 0 from if_neg (by omega), show gg n 100000000000000 = 0 from if_neg (by omega), show gg n 1000000000000000 = 0 from if_neg (by omega), show gg n 10000000000000000 = 0 from if_neg (by omega), show gg n 100000000000000000 = 0 from if_neg (by omega), show gg n 1000000000000000000 = 0 from if_neg (by omega)]
    rw [g]
    unfold Jvm.Free.SBG.digitsL
    simp only [Jvm.Free.SBG.wN]
    rw [if_pos (show 100 ≤ n from by omega), if_pos (show 100 ≤ n / 100 from by omega), if_neg (show ¬ 100 ≤ n / 100 / 100 from by omega), if_neg (show ¬ 9 < n / 100 / 100 from by omega)]
  by_cases c6 : n < 1000000
  · have g : 1 + (gg n 10) + (gg n 100) + (gg n 1000) + (gg n 10000) + (gg n 100000) + (gg n 1000000) + (gg n 10000000) + (gg n 100000000) + (gg n 1000000000) + (gg n 10000000000) + (gg n 100000000000) + (gg n 1000000000000) + (gg n 10000000000000) + (gg n 100000000000000) + (gg n 1000000000000000) + (gg n 10000000000000000) + (gg n 100000000000000000) + (gg n 1000000000000000000) = 6 := by
      rw [show gg n 10 = 1 from if_pos (by omega), show gg n 100 = 1 from if_pos (by omega), show gg n 1000 = 1 from if_pos (by omega), show gg n 10000 = 1 from if_pos (by omega), show gg n 100000 = 1 from if_pos (by omega), show gg n 1000000 = 0 from if_neg (by omega), show gg n 10000000 = 0 from if_neg (by omega), show gg n 100000000 = 0 from if_neg (by omega), show gg n 1000000000 = 0 from if_neg (by omega), show gg n 10000000000 = 0 from if_neg (by omega), show gg n 100000000000 = 0 from if_neg (by omega), show gg n 1000000000000 = 0 from if_neg (by omega), show gg n 10000000000000 = 0 from if_neg (by omega), show gg n 100000000000000 = 0 from if_neg (by omega), show gg n 1000000000000000 = 0 from if_neg (by omega), show gg n 10000000000000000 = 0 from if_neg (by omega), show gg n 100000000000000000 = 0 from if_neg (by omega), show gg n 1000000000000000000 = 0 from if_neg (by omega)]
    rw [g]
    unfold Jvm.Free.SBG.digitsL
    simp only [Jvm.Free.SBG.wN]
    rw [if_pos (show 100 ≤ n from by omega), if_pos (show 100 ≤ n / 100 from by omega), if_neg (show ¬ 100 ≤ n / 100 / 100 from by omega), if_pos (show 9 < n / 100 / 100 from by omega)]
  by_cases c7 : n < 10000000
  · have g : 1 + (gg n 10) + (gg n 100) + (gg n 1000) + (gg n 10000) + (gg n 100000) + (gg n 1000000) + (gg n 10000000) + (gg n 100000000) + (gg n 1000000000) + (gg n 10000000000) + (gg n 100000000000) + (gg n 1000000000000) + (gg n 10000000000000) + (gg n 100000000000000) + (gg n 1000000000000000) + (gg n 10000000000000000) + (gg n 100000000000000000) + (gg n 1000000000000000000) = 7 := by
      rw [show gg n 10 = 1 from if_pos (by omega), show gg n 100 = 1 from if_pos (by omega), show gg n 1000 = 1 from if_pos (by omega), show gg n 10000 = 1 from if_pos (by omega), show gg n 100000 = 1 from if_pos (by omega), show gg n 1000000 = 1 from if_pos (by omega), show gg n 10000000 = 0 from if_neg (by omega), show gg n 100000000 = 0 from if_neg (by omega), show gg n 1000000000 = 0 from if_neg (by omega), show gg n 10000000000 = 0 from if_neg (by omega), show gg n 100000000000 = 0 from if_neg (by omega), show gg n 1000000000000 = 0 from if_neg (by omega), show gg n 10000000000000 = 0 from if_neg (by omega), show gg n 100000000000000 = 0 from if_neg (by omega), show gg n 1000000000000000 = 0 from if_neg (by omega), show gg n 10000000000000000 = 0 from if_neg (by omega), show gg n 100000000000000000 = 0 from if_neg (by omega), show gg n 1000000000000000000 = 0 from if_neg (by omega)]
    rw [g]
    unfold Jvm.Free.SBG.digitsL
    simp only [Jvm.Free.SBG.wN]
    rw [if_pos (show 100 ≤ n from by omega), if_pos (show 100 ≤ n / 100 from by omega), if_pos (show 100 ≤ n / 100 / 100 from by omega), if_neg (show ¬ 100 ≤ n / 100 / 100 / 100 from by omega), if_neg (show ¬ 9 < n / 100 / 100 / 100 from by omega)]
  by_cases c8 : n < 100000000
  · have g : 1 + (gg n 10) + (gg n 100) + (gg n 1000) + (gg n 10000) + (gg n 100000) + (gg n 1000000) + (gg n 10000000) + (gg n 100000000) + (gg n 1000000000) + (gg n 10000000000) + (gg n 100000000000) + (gg n 1000000000000) + (gg n 10000000000000) + (gg n 100000000000000) + (gg n 1000000000000000) + (gg n 10000000000000000) + (gg n 100000000000000000) + (gg n 1000000000000000000) = 8 := by
      rw [show gg n 10 = 1 from if_pos (by omega), show gg n 100 = 1 from if_pos (by omega), show gg n 1000 = 1 from if_pos (by omega), show gg n 10000 = 1 from if_pos (by omega), show gg n 100000 = 1 from if_pos (by omega), show gg n 1000000 = 1 from if_pos (by omega), show gg n 10000000 = 1 from if_pos (by omega), show gg n 100000000 = 0 from if_neg (by omega), show gg n 1000000000 = 0 from if_neg (by omega), show gg n 10000000000 = 0 from if_neg (by omega), show gg n 100000000000 = 0 from if_neg (by omega), show gg n 1000000000000 = 0 from if_neg (by omega), show gg n 10000000000000 = 0 from if_neg (by omega), show gg n 100000000000000 = 0 from if_neg (by omega), show gg n 1000000000000000 = 0 from if_neg (by omega), show gg n 10000000000000000 = 0 from if_neg (by omega), show gg n 100000000000000000 = 0 from if_neg (by omega), show gg n 1000000000000000000 = 0 from if_neg (by omega)]
    rw [g]
    unfold Jvm.Free.SBG.digitsL
    simp only [Jvm.Free.SBG.wN]
    rw [if_pos (show 100 ≤ n from by omega), if_pos (show 100 ≤ n / 100 from by omega), if_pos (show 100 ≤ n / 100 / 100 from by omega), if_neg (show ¬ 100 ≤ n / 100 / 100 / 100 from by omega), if_pos (show 9 < n / 100 / 100 / 100 from by omega)]
  by_cases c9 : n < 1000000000
  · have g : 1 + (gg n 10) + (gg n 100) + (gg n 1000) + (gg n 10000) + (gg n 100000) + (gg n 1000000) + (gg n 10000000) + (gg n 100000000) + (gg n 1000000000) + (gg n 10000000000) + (gg n 100000000000) + (gg n 1000000000000) + (gg n 10000000000000) + (gg n 100000000000000) + (gg n 1000000000000000) + (gg n 10000000000000000) + (gg n 100000000000000000) + (gg n 1000000000000000000) = 9 := by
      rw [show gg n 10 = 1 from if_pos (by omega), show gg n 100 = 1 from if_pos (by omega), show gg n 1000 = 1 from if_pos (by omega), show gg n 10000 = 1 from if_pos (by omega), show gg n 100000 = 1 from if_pos (by omega), show gg n 1000000 = 1 from if_pos (by omega), show gg n 10000000 = 1 from if_pos (by omega), show gg n 100000000 = 1 from if_pos (by omega), show gg n 1000000000 = 0 from if_neg (by omega), show gg n 10000000000 = 0 from if_neg (by omega), show gg n 100000000000 = 0 from if_neg (by omega), show gg n 1000000000000 = 0 from if_neg (by omega), show gg n 10000000000000 = 0 from if_neg (by omega), show gg n 100000000000000 = 0 from if_neg (by omega), show gg n 1000000000000000 = 0 from if_neg (by omega), show gg n 10000000000000000 = 0 from if_neg (by omega), show gg n 100000000000000000 = 0 from if_neg (by omega), show gg n 1000000000000000000 = 0 from if_neg (by omega)]
    rw [g]
    unfold Jvm.Free.SBG.digitsL
    simp only [Jvm.Free.SBG.wN]
    rw [if_pos (show 100 ≤ n from by omega), if_pos (show 100 ≤ n / 100 from by omega), if_pos (show 100 ≤ n / 100 / 100 from by omega), if_pos (show 100 ≤ n / 100 / 100 / 100 from by omega), if_neg (show ¬ 100 ≤ n / 100 / 100 / 100 / 100 from by omega), if_neg (show ¬ 9 < n / 100 / 100 / 100 / 100 from by omega)]
  by_cases c10 : n < 10000000000
  · have g : 1 + (gg n 10) + (gg n 100) + (gg n 1000) + (gg n 10000) + (gg n 100000) + (gg n 1000000) + (gg n 10000000) + (gg n 100000000) + (gg n 1000000000) + (gg n 10000000000) + (gg n 100000000000) + (gg n 1000000000000) + (gg n 10000000000000) + (gg n 100000000000000) + (gg n 1000000000000000) + (gg n 10000000000000000) + (gg n 100000000000000000) + (gg n 1000000000000000000) = 10 := by
      rw [show gg n 10 = 1 from if_pos (by omega), show gg n 100 = 1 from if_pos (by omega), show gg n 1000 = 1 from if_pos (by omega), show gg n 10000 = 1 from if_pos (by omega), show gg n 100000 = 1 from if_pos (by omega), show gg n 1000000 = 1 from if_pos (by omega), show gg n 10000000 = 1 from if_pos (by omega), show gg n 100000000 = 1 from if_pos (by omega), show gg n 1000000000 = 1 from if_pos (by omega), show gg n 10000000000 = 0 from if_neg (by omega), show gg n 100000000000 = 0 from if_neg (by omega), show gg n 1000000000000 = 0 from if_neg (by omega), show gg n 10000000000000 = 0 from if_neg (by omega), show gg n 100000000000000 = 0 from if_neg (by omega), show gg n 1000000000000000 = 0 from if_neg (by omega), show gg n 10000000000000000 = 0 from if_neg (by omega), show gg n 100000000000000000 = 0 from if_neg (by omega), show gg n 1000000000000000000 = 0 from if_neg (by omega)]
    rw [g]
    unfold Jvm.Free.SBG.digitsL
    simp only [Jvm.Free.SBG.wN]
    rw [if_pos (show 100 ≤ n from by omega), if_pos (show 100 ≤ n / 100 from by omega), if_pos (show 100 ≤ n / 100 / 100 from by omega), if_pos (show 100 ≤ n / 100 / 100 / 100 from by omega), if_neg (show ¬ 100 ≤ n / 100 / 100 / 100 / 100 from by omega), if_pos (show 9 < n / 100 / 100 / 100 / 100 from by omega)]
  by_cases c11 : n < 100000000000
  · have g : 1 + (gg n 10) + (gg n 100) + (gg n 1000) + (gg n 10000) + (gg n 100000) + (gg n 1000000) + (gg n 10000000) + (gg n 100000000) + (gg n 1000000000) + (gg n 10000000000) + (gg n 100000000000) + (gg n 1000000000000) + (gg n 10000000000000) + (gg n 100000000000000) + (gg n 1000000000000000) + (gg n 10000000000000000) + (gg n 100000000000000000) + (gg n 1000000000000000000) = 11 := by
      rw [show gg n 10 = 1 from if_pos (by omega), show gg n 100 = 1 from if_pos (by omega), show gg n 1000 = 1 from if_pos (by omega), show gg n 10000 = 1 from if_pos (by omega), show gg n 100000 = 1 from if_pos (by omega), show gg n 1000000 = 1 from if_pos (by omega), show gg n 10000000 = 1 from if_pos (by omega), show gg n 100000000 = 1 from if_pos (by omega), show gg n 1000000000 = 1 from if_pos (by omega), show gg n 10000000000 = 1 from if_pos (by omega), show gg n 100000000000 = 0 from if_neg (by omega), show gg n 1000000000000 = 0 from if_neg (by omega), show gg n 10000000000000 = 0 from if_neg (by omega), show gg n 100000000000000 = 0 from if_neg (by omega), show gg n 1000000000000000 = 0 from if_neg (by omega), show gg n 10000000000000000 = 0 from if_neg (by omega), show gg n 100000000000000000 = 0 from if_neg (by omega), show gg n 1000000000000000000 = 0 from if_neg (by omega)]
    rw [g]
    unfold Jvm.Free.SBG.digitsL
    simp only [Jvm.Free.SBG.wN]
    rw [if_pos (show 100 ≤ n from by omega), if_pos (show 100 ≤ n / 100 from by omega), if_pos (show 100 ≤ n / 100 / 100 from by omega), if_pos (show 100 ≤ n / 100 / 100 / 100 from by omega), if_pos (show 100 ≤ n / 100 / 100 / 100 / 100 from by omega), if_neg (show ¬ 100 ≤ n / 100 / 100 / 100 / 100 / 100 from by omega), if_neg (show ¬ 9 < n / 100 / 100 / 100 / 100 / 100 from by omega)]
  by_cases c12 : n < 1000000000000
  · have g : 1 + (gg n 10) + (gg n 100) + (gg n 1000) + (gg n 10000) + (gg n 100000) + (gg n 1000000) + (gg n 10000000) + (gg n 100000000) + (gg n 1000000000) + (gg n 10000000000) + (gg n 100000000000) + (gg n 1000000000000) + (gg n 10000000000000) + (gg n 100000000000000) + (gg n 1000000000000000) + (gg n 10000000000000000) + (gg n 100000000000000000) + (gg n 1000000000000000000) = 12 := by
      rw [show gg n 10 = 1 from if_pos (by omega), show gg n 100 = 1 from if_pos (by omega), show gg n 1000 = 1 from if_pos (by omega), show gg n 10000 = 1 from if_pos (by omega), show gg n 100000 = 1 from if_pos (by omega), show gg n 1000000 = 1 from if_pos (by omega), show gg n 10000000 = 1 from if_pos (by omega), show gg n 100000000 = 1 from if_pos (by omega), show gg n 1000000000 = 1 from if_pos (by omega), show gg n 10000000000 = 1 from if_pos (by omega), show gg n 100000000000 = 1 from if_pos (by omega), show gg n 1000000000000 = 0 from if_neg (by omega), show gg n 10000000000000 = 0 from if_neg (by omega), show gg n 100000000000000 = 0 from if_neg (by omega), show gg n 1000000000000000 = 0 from if_neg (by omega), show gg n 10000000000000000 = 0 from if_neg (by omega), show gg n 100000000000000000 = 0 from if_neg (by omega), show gg n 1000000000000000000 = 0 from if_neg (by omega)]
    rw [g]
    unfold Jvm.Free.SBG.digitsL
    simp only [Jvm.Free.SBG.wN]
    rw [if_pos (show 100 ≤ n from by omega), if_pos (show 100 ≤ n / 100 from by omega), if_pos (show 100 ≤ n / 100 / 100 from by omega), if_pos (show 100 ≤ n / 100 / 100 / 100 from by omega), if_pos (show 100 ≤ n / 100 / 100 / 100 / 100 from by omega), if_neg (show ¬ 100 ≤ n / 100 / 100 / 100 / 100 / 100 from by omega), if_pos (show 9 < n / 100 / 100 / 100 / 100 / 100 from by omega)]
  by_cases c13 : n < 10000000000000
  · have g : 1 + (gg n 10) + (gg n 100) + (gg n 1000) + (gg n 10000) + (gg n 100000) + (gg n 1000000) + (gg n 10000000) + (gg n 100000000) + (gg n 1000000000) + (gg n 10000000000) + (gg n 100000000000) + (gg n 1000000000000) + (gg n 10000000000000) + (gg n 100000000000000) + (gg n 1000000000000000) + (gg n 10000000000000000) + (gg n 100000000000000000) + (gg n 1000000000000000000) = 13 := by
      rw [show gg n 10 = 1 from if_pos (by omega), show gg n 100 = 1 from if_pos (by omega), show gg n 1000 = 1 from if_pos (by omega), show gg n 10000 = 1 from if_pos (by omega), show gg n 100000 = 1 from if_pos (by omega), show gg n 1000000 = 1 from if_pos (by omega), show gg n 10000000 = 1 from if_pos (by omega), show gg n 100000000 = 1 from if_pos (by omega), show gg n 1000000000 = 1 from if_pos (by omega), show gg n 10000000000 = 1 from if_pos (by omega), show gg n 100000000000 = 1 from if_pos (by omega), show gg n 1000000000000 = 1 from if_pos (by omega), show gg n 10000000000000 = 0 from if_neg (by omega), show gg n 100000000000000 = 0 from if_neg (by omega), show gg n 1000000000000000 = 0 from if_neg (by omega), show gg n 10000000000000000 = 0 from if_neg (by omega), show gg n 100000000000000000 = 0 from if_neg (by omega), show gg n 1000000000000000000 = 0 from if_neg (by omega)]
    rw [g]
    unfold Jvm.Free.SBG.digitsL
    simp only [Jvm.Free.SBG.wN]
    rw [if_pos (show 100 ≤ n from by omega), if_pos (show 100 ≤ n / 100 from by omega), if_pos (show 100 ≤ n / 100 / 100 from by omega), if_pos (show 100 ≤ n / 100 / 100 / 100 from by omega), if_pos (show 100 ≤ n / 100 / 100 / 100 / 100 from by omega), if_pos (show 100 ≤ n / 100 / 100 / 100 / 100 / 100 from by omega), if_neg (show ¬ 100 ≤ n / 100 / 100 / 100 / 100 / 100 / 100 from by omega), if_neg (show ¬ 9 < n / 100 / 100 / 100 / 100 / 100 / 100 from by omega)]
  by_cases c14 : n < 100000000000000
  · have g : 1 + (gg n 10) + (gg n 100) + (gg n 1000) + (gg n 10000) + (gg n 100000) + (gg n 1000000) + (gg n 10000000) + (gg n 100000000) + (gg n 1000000000) + (gg n 10000000000) + (gg n 100000000000) + (gg n 1000000000000) + (gg n 10000000000000) + (gg n 100000000000000) + (gg n 1000000000000000) + (gg n 10000000000000000) + (gg n 100000000000000000) + (gg n 1000000000000000000) = 14 := by
      rw [show gg n 10 = 1 from if_pos (by omega), show gg n 100 = 1 from if_pos (by omega), show gg n 1000 = 1 from if_pos (by omega), show gg n 10000 = 1 from if_pos (by omega), show gg n 100000 = 1 from if_pos (by omega), show gg n 1000000 = 1 from if_pos (by omega), show gg n 10000000 = 1 from if_pos (by omega), show gg n 100000000 = 1 from if_pos (by omega), show gg n 1000000000 = 1 from if_pos (by omega), show gg n 10000000000 = 1 from if_pos (by omega), show gg n 100000000000 = 1 from if_pos (by omega), show gg n 1000000000000 = 1 from if_pos (by omega), show gg n 10000000000000 = 1 from if_pos (by omega), show gg n 100000000000000 = 0 from if_neg (by omega), show gg n 1000000000000000 = 0 from if_neg (by omega), show gg n 10000000000000000 = 0 from if_neg (by omega), show gg n 100000000000000000 = 0 from if_neg (by omega), show gg n 1000000000000000000 = 0 from if_neg (by omega)]
    rw [g]
    unfold Jvm.Free.SBG.digitsL
    simp only [Jvm.Free.SBG.wN]
    rw [if_pos (show 100 ≤ n from by omega), if_pos (show 100 ≤ n / 100 from by omega), if_pos (show 100 ≤ n / 100 / 100 from by omega), if_pos (show 100 ≤ n / 100 / 100 / 100 from by omega), if_pos (show 100 ≤ n / 100 / 100 / 100 / 100 from by omega), if_pos (show 100 ≤ n / 100 / 100 / 100 / 100 / 100 from by omega), if_neg (show ¬ 100 ≤ n / 100 / 100 / 100 / 100 / 100 / 100 from by omega), if_pos (show 9 < n / 100 / 100 / 100 / 100 / 100 / 100 from by omega)]
  by_cases c15 : n < 1000000000000000
  · have g : 1 + (gg n 10) + (gg n 100) + (gg n 1000) + (gg n 10000) + (gg n 100000) + (gg n 1000000) + (gg n 10000000) + (gg n 100000000) + (gg n 1000000000) + (gg n 10000000000) + (gg n 100000000000) + (gg n 1000000000000) + (gg n 10000000000000) + (gg n 100000000000000) + (gg n 1000000000000000) + (gg n 10000000000000000) + (gg n 100000000000000000) + (gg n 1000000000000000000) = 15 := by
      rw [show gg n 10 = 1 from if_pos (by omega), show gg n 100 = 1 from if_pos (by omega), show gg n 1000 = 1 from if_pos (by omega), show gg n 10000 = 1 from if_pos (by omega), show gg n 100000 = 1 from if_pos (by omega), show gg n 1000000 = 1 from if_pos (by omega), show gg n 10000000 = 1 from if_pos (by omega), show gg n 100000000 = 1 from if_pos (by omega), show gg n 1000000000 = 1 from if_pos (by omega), show gg n 10000000000 = 1 from if_pos (by omega), show gg n 100000000000 = 1 from if_pos (by omega), show gg n 1000000000000 = 1 from if_pos (by omega), show gg n 10000000000000 = 1 from if_pos (by omega), show gg n 100000000000000 = 1 from if_pos (by omega), show gg n 1000000000000000 = 0 from if_neg (by omega), show gg n 10000000000000000 = 0 from if_neg (by omega), show gg n 100000000000000000 = 0 from if_neg (by omega), show gg n 1000000000000000000 = 0 from if_neg (by omega)]
    rw [g]
    unfold Jvm.Free.SBG.digitsL
    simp only [Jvm.Free.SBG.wN]
    rw [if_pos (show 100 ≤ n from by omega), if_pos (show 100 ≤ n / 100 from by omega), if_pos (show 100 ≤ n / 100 / 100 from by omega), if_pos (show 100 ≤ n / 100 / 100 / 100 from by omega), if_pos (show 100 ≤ n / 100 / 100 / 100 / 100 from by omega), if_pos (show 100 ≤ n / 100 / 100 / 100 / 100 / 100 from by omega), if_pos (show 100 ≤ n / 100 / 100 / 100 / 100 / 100 / 100 from by omega), if_neg (show ¬ 100 ≤ n / 100 / 100 / 100 / 100 / 100 / 100 / 100 from by omega), if_neg (show ¬ 9 < n / 100 / 100 / 100 / 100 / 100 / 100 / 100 from by omega)]
  by_cases c16 : n < 10000000000000000
  · have g : 1 + (gg n 10) + (gg n 100) + (gg n 1000) + (gg n 10000) + (gg n 100000) + (gg n 1000000) + (gg n 10000000) + (gg n 100000000) + (gg n 1000000000) + (gg n 10000000000) + (gg n 100000000000) + (gg n 1000000000000) + (gg n 10000000000000) + (gg n 100000000000000) + (gg n 1000000000000000) + (gg n 10000000000000000) + (gg n 100000000000000000) + (gg n 1000000000000000000) = 16 := by
      rw [show gg n 10 = 1 from if_pos (by omega), show gg n 100 = 1 from if_pos (by omega), show gg n 1000 = 1 from if_pos (by omega), show gg n 10000 = 1 from if_pos (by omega), show gg n 100000 = 1 from if_pos (by omega), show gg n 1000000 = 1 from if_pos (by omega), show gg n 10000000 = 1 from if_pos (by omega), show gg n 100000000 = 1 from if_pos (by omega), show gg n 1000000000 = 1 from if_pos (by omega), show gg n 10000000000 = 1 from if_pos (by omega), show gg n 100000000000 = 1 from if_pos (by omega), show gg n 1000000000000 = 1 from if_pos (by omega), show gg n 10000000000000 = 1 from if_pos (by omega), show gg n 100000000000000 = 1 from if_pos (by omega), show gg n 1000000000000000 = 1 from if_pos (by omega), show gg n 10000000000000000 = 0 from if_neg (by omega), show gg n 100000000000000000 = 0 from if_neg (by omega), show gg n 1000000000000000000 = 0 from if_neg (by omega)]
    rw [g]
    unfold Jvm.Free.SBG.digitsL
    simp only [Jvm.Free.SBG.wN]
    rw [if_pos (show 100 ≤ n from by omega), if_pos (show 100 ≤ n / 100 from by omega), if_pos (show 100 ≤ n / 100 / 100 from by omega), if_pos (show 100 ≤ n / 100 / 100 / 100 from by omega), if_pos (show 100 ≤ n / 100 / 100 / 100 / 100 from by omega), if_pos (show 100 ≤ n / 100 / 100 / 100 / 100 / 100 from by omega), if_pos (show 100 ≤ n / 100 / 100 / 100 / 100 / 100 / 100 from by omega), if_neg (show ¬ 100 ≤ n / 100 / 100 / 100 / 100 / 100 / 100 / 100 from by omega), if_pos (show 9 < n / 100 / 100 / 100 / 100 / 100 / 100 / 100 from by omega)]
  by_cases c17 : n < 100000000000000000
  · have g : 1 + (gg n 10) + (gg n 100) + (gg n 1000) + (gg n 10000) + (gg n 100000) + (gg n 1000000) + (gg n 10000000) + (gg n 100000000) + (gg n 1000000000) + (gg n 10000000000) + (gg n 100000000000) + (gg n 1000000000000) + (gg n 10000000000000) + (gg n 100000000000000) + (gg n 1000000000000000) + (gg n 10000000000000000) + (gg n 100000000000000000) + (gg n 1000000000000000000) = 17 := by
      rw [show gg n 10 = 1 from if_pos (by omega), show gg n 100 = 1 from if_pos (by omega), show gg n 1000 = 1 from if_pos (by omega), show gg n 10000 = 1 from if_pos (by omega), show gg n 100000 = 1 from if_pos (by omega), show gg n 1000000 = 1 from if_pos (by omega), show gg n 10000000 = 1 from if_pos (by omega), show gg n 100000000 = 1 from if_pos (by omega), show gg n 1000000000 = 1 from if_pos (by omega), show gg n 10000000000 = 1 from if_pos (by omega), show gg n 100000000000 = 1 from if_pos (by omega), show gg n 1000000000000 = 1 from if_pos (by omega), show gg n 10000000000000 = 1 from if_pos (by omega), show gg n 100000000000000 = 1 from if_pos (by omega), show gg n 1000000000000000 = 1 from if_pos (by omega), show gg n 10000000000000000 = 1 from if_pos (by omega), show gg n 100000000000000000 = 0 from if_neg (by omega), show gg n 1000000000000000000 = 0 from if_neg (by omega)]
    rw [g]
    unfold Jvm.Free.SBG.digitsL
    simp only [Jvm.Free.SBG.wN]
    rw [if_pos (show 100 ≤ n from by omega), if_pos (show 100 ≤ n / 100 from by omega), if_pos (show 100 ≤ n / 100 / 100 from by omega), if_pos (show 100 ≤ n / 100 / 100 / 100 from by omega), if_pos (show 100 ≤ n / 100 / 100 / 100 / 100 from by omega), if_pos (show 100 ≤ n / 100 / 100 / 100 / 100 / 100 from by omega), if_pos (show 100 ≤ n / 100 / 100 / 100 / 100 / 100 / 100 from by omega), if_pos (show 100 ≤ n / 100 / 100 / 100 / 100 / 100 / 100 / 100 from by omega), if_neg (show ¬ 100 ≤ n / 100 / 100 / 100 / 100 / 100 / 100 / 100 / 100 from by omega), if_neg (show ¬ 9 < n / 100 / 100 / 100 / 100 / 100 / 100 / 100 / 100 from by omega)]
  by_cases c18 : n < 1000000000000000000
  · have g : 1 + (gg n 10) + (gg n 100) + (gg n 1000) + (gg n 10000) + (gg n 100000) + (gg n 1000000) + (gg n 10000000) + (gg n 100000000) + (gg n 1000000000) + (gg n 10000000000) + (gg n 100000000000) + (gg n 1000000000000) + (gg n 10000000000000) + (gg n 100000000000000) + (gg n 1000000000000000) + (gg n 10000000000000000) + (gg n 100000000000000000) + (gg n 1000000000000000000) = 18 := by
      rw [show gg n 10 = 1 from if_pos (by omega), show gg n 100 = 1 from if_pos (by omega), show gg n 1000 = 1 from if_pos (by omega), show gg n 10000 = 1 from if_pos (by omega), show gg n 100000 = 1 from if_pos (by omega), show gg n 1000000 = 1 from if_pos (by omega), show gg n 10000000 = 1 from if_pos (by omega), show gg n 100000000 = 1 from if_pos (by omega), show gg n 1000000000 = 1 from if_pos (by omega), show gg n 10000000000 = 1 from if_pos (by omega), show gg n 100000000000 = 1 from if_pos (by omega), show gg n 1000000000000 = 1 from if_pos (by omega), show gg n 10000000000000 = 1 from if_pos (by omega), show gg n 100000000000000 = 1 from if_pos (by omega), show gg n 1000000000000000 = 1 from if_pos (by omega), show gg n 10000000000000000 = 1 from if_pos (by omega), show gg n 100000000000000000 = 1 from if_pos (by omega), show gg n 1000000000000000000 = 0 from if_neg (by omega)]
    rw [g]
    unfold Jvm.Free.SBG.digitsL
    simp only [Jvm.Free.SBG.wN]
    rw [if_pos (show 100 ≤ n from by omega), if_pos (show 100 ≤ n / 100 from by omega), if_pos (show 100 ≤ n / 100 / 100 from by omega), if_pos (show 100 ≤ n / 100 / 100 / 100 from by omega), if_pos (show 100 ≤ n / 100 / 100 / 100 / 100 from by omega), if_pos (show 100 ≤ n / 100 / 100 / 100 / 100 / 100 from by omega), if_pos (show 100 ≤ n / 100 / 100 / 100 / 100 / 100 / 100 from by omega), if_pos (show 100 ≤ n / 100 / 100 / 100 / 100 / 100 / 100 / 100 from by omega), if_neg (show ¬ 100 ≤ n / 100 / 100 / 100 / 100 / 100 / 100 / 100 / 100 from by omega), if_pos (show 9 < n / 100 / 100 / 100 / 100 / 100 / 100 / 100 / 100 from by omega)]
  have g : 1 + (gg n 10) + (gg n 100) + (gg n 1000) + (gg n 10000) + (gg n 100000) + (gg n 1000000) + (gg n 10000000) + (gg n 100000000) + (gg n 1000000000) + (gg n 10000000000) + (gg n 100000000000) + (gg n 1000000000000) + (gg n 10000000000000) + (gg n 100000000000000) + (gg n 1000000000000000) + (gg n 10000000000000000) + (gg n 100000000000000000) + (gg n 1000000000000000000) = 19 := by
    rw [show gg n 10 = 1 from if_pos (by omega), show gg n 100 = 1 from if_pos (by omega), show gg n 1000 = 1 from if_pos (by omega), show gg n 10000 = 1 from if_pos (by omega), show gg n 100000 = 1 from if_pos (by omega), show gg n 1000000 = 1 from if_pos (by omega), show gg n 10000000 = 1 from if_pos (by omega), show gg n 100000000 = 1 from if_pos (by omega), show gg n 1000000000 = 1 from if_pos (by omega), show gg n 10000000000 = 1 from if_pos (by omega), show gg n 100000000000 = 1 from if_pos (by omega), show gg n 1000000000000 = 1 from if_pos (by omega), show gg n 10000000000000 = 1 from if_pos (by omega), show gg n 100000000000000 = 1 from if_pos (by omega), show gg n 1000000000000000 = 1 from if_pos (by omega), show gg n 10000000000000000 = 1 from if_pos (by omega), show gg n 100000000000000000 = 1 from if_pos (by omega), show gg n 1000000000000000000 = 1 from if_pos (by omega)]
  rw [g]
  unfold Jvm.Free.SBG.digitsL
  simp only [Jvm.Free.SBG.wN]
  rw [if_pos (show 100 ≤ n from by omega), if_pos (show 100 ≤ n / 100 from by omega), if_pos (show 100 ≤ n / 100 / 100 from by omega), if_pos (show 100 ≤ n / 100 / 100 / 100 from by omega), if_pos (show 100 ≤ n / 100 / 100 / 100 / 100 from by omega), if_pos (show 100 ≤ n / 100 / 100 / 100 / 100 / 100 from by omega), if_pos (show 100 ≤ n / 100 / 100 / 100 / 100 / 100 / 100 from by omega), if_pos (show 100 ≤ n / 100 / 100 / 100 / 100 / 100 / 100 / 100 from by omega), if_pos (show 100 ≤ n / 100 / 100 / 100 / 100 / 100 / 100 / 100 / 100 from by omega), if_neg (show ¬ 100 ≤ n / 100 / 100 / 100 / 100 / 100 / 100 / 100 / 100 / 100 from by omega), if_neg (show ¬ 9 < n / 100 / 100 / 100 / 100 / 100 / 100 / 100 / 100 / 100 from by omega)]
theorem own_ge {n : Nat} (hn : n ≤ 2 ^ 63) {p : Int64} {P : Nat} (hp : (-p).toInt = -(P : Int)) : (if Jvm.Free.SBG.negL n ≤ -p then (1 : Int32) else 0) = Int32.ofNat (gg n P) := by
  have e : (Jvm.Free.SBG.negL n ≤ -p) ↔ P ≤ n := by
    rw [Int64.le_iff_toInt_le, Jvm.Free.SBG.negL_toInt hn, hp]; omega
  unfold gg
  by_cases q : P ≤ n
  · rw [if_pos (e.mpr q), if_pos q]; rfl
  · rw [if_neg (fun r => q (e.mp r)), if_neg q]; rfl
theorem own_place (A M Y : List Int32) : ∀ i, i < M.length → A.length + i < (A ++ (M ++ Y)).length ∧ (A ++ (M ++ Y)).getD (A.length + i) 0 = M.getD i 0 := fun i hi => by
  refine ⟨by simp; omega, ?_⟩
  rw [List.getD_eq_getElem?_getD, List.getElem?_append_right (by omega), Nat.add_sub_cancel_left, List.getElem?_append_left hi, ← List.getD_eq_getElem?_getD]
theorem TXT_len (ds : List Int32) (x : Int64) (n : Nat) : (TXT ds x n).length = 16 + ds.length + 12 + Jvm.Free.SBG.GetCharsL.sgnL x + Jvm.Free.SBG.digitsL n + 1 := by
  have e1 : SPRE.length = 16 := rfl
  have e2 : SMID.length = 12 := rfl
  have e3 : SRB.length = 1 := rfl
  have e5 := txtL_len x n
  unfold TXT
  simp only [List.length_append, List.length_nil]
  omega
theorem TXT_pre (ds : List Int32) (x : Int64) (n : Nat) : ∀ i, i < SPRE.length → 0 + i < (TXT ds x n).length ∧ (TXT ds x n).getD (0 + i) 0 = SPRE.getD i 0 := by
  have e : TXT ds x n = [] ++ (SPRE ++ (ds ++ (SMID ++ (txtL x n ++ SRB)))) := by simp [TXT, List.append_assoc]
  rw [e]; exact own_place [] SPRE _
theorem TXT_non (ds : List Int32) (x : Int64) (n : Nat) : ∀ i, i < ds.length → 16 + i < (TXT ds x n).length ∧ (TXT ds x n).getD (16 + i) 0 = ds.getD i 0 := by
  have e : TXT ds x n = SPRE ++ (ds ++ (SMID ++ (txtL x n ++ SRB))) := by simp [TXT, List.append_assoc]
  rw [e]; exact own_place SPRE ds _
theorem TXT_mid (ds : List Int32) (x : Int64) (n : Nat) : ∀ i, i < SMID.length → (16 + ds.length) + i < (TXT ds x n).length ∧ (TXT ds x n).getD ((16 + ds.length) + i) 0 = SMID.getD i 0 := by
  have e : TXT ds x n = (SPRE ++ ds) ++ (SMID ++ (txtL x n ++ SRB)) := by simp [TXT, List.append_assoc]
  have q := own_place (SPRE ++ ds) SMID (txtL x n ++ SRB)
  rw [← e, List.length_append, show SPRE.length = 16 from rfl] at q; exact q
theorem TXT_num (ds : List Int32) (x : Int64) (n : Nat) : ∀ i, i < (txtL x n).length → (16 + ds.length + 12) + i < (TXT ds x n).length ∧ (TXT ds x n).getD ((16 + ds.length + 12) + i) 0 = (txtL x n).getD i 0 := by
  have e : TXT ds x n = (SPRE ++ ds ++ SMID) ++ (txtL x n ++ SRB) := by simp [TXT, List.append_assoc]
  have q := own_place (SPRE ++ ds ++ SMID) (txtL x n) SRB
  rw [← e, List.length_append, List.length_append, show SPRE.length = 16 from rfl, show SMID.length = 12 from rfl] at q; exact q
theorem TXT_end (ds : List Int32) (x : Int64) (n : Nat) : (16 + ds.length + 12 + Jvm.Free.SBG.GetCharsL.sgnL x + Jvm.Free.SBG.digitsL n) < (TXT ds x n).length ∧ (TXT ds x n).getD (16 + ds.length + 12 + Jvm.Free.SBG.GetCharsL.sgnL x + Jvm.Free.SBG.digitsL n) 0 = 93 := by
  have e : TXT ds x n = (SPRE ++ ds ++ SMID ++ txtL x n) ++ (SRB ++ []) := by simp [TXT, List.append_assoc]
  have q := own_place (SPRE ++ ds ++ SMID ++ txtL x n) SRB [] 0 (by decide)
  rw [← e, List.length_append, List.length_append, List.length_append, show SPRE.length = 16 from rfl, show SMID.length = 12 from rfl, txtL_len, Nat.add_zero, show SRB.getD 0 0 = 93 from rfl, Nat.add_comm (Jvm.Free.SBG.digitsL n), ← Nat.add_assoc] at q
  exact q
theorem TXT_sign (ds : List Int32) (x : Int64) (n : Nat) (hx : x < 0) : (16 + ds.length + 12) < (TXT ds x n).length ∧ (TXT ds x n).getD (16 + ds.length + 12) 0 = 45 := by
  have q := TXT_num ds x n 0 (by rw [txtL_len]; have := Jvm.Free.SBG.digitsL_pos n; omega)
  rw [Nat.add_zero] at q
  refine ⟨q.1, q.2.trans ?_⟩
  unfold txtL; rw [if_pos hx]; rfl
/-- the digit at place j from the right -/
theorem TXT_dig (ds : List Int32) (x : Int64) (n j : Nat) (hj : j < Jvm.Free.SBG.digitsL n) : (16 + ds.length + 12 + Jvm.Free.SBG.GetCharsL.sgnL x + Jvm.Free.SBG.digitsL n) - 1 - j < (TXT ds x n).length ∧ (TXT ds x n).getD ((16 + ds.length + 12 + Jvm.Free.SBG.GetCharsL.sgnL x + Jvm.Free.SBG.digitsL n) - 1 - j) 0 = Int32.ofNat (48 + n / 10 ^ j % 10) := by
  have q := TXT_num ds x n (Jvm.Free.SBG.GetCharsL.sgnL x + (Jvm.Free.SBG.digitsL n - 1 - j)) (by rw [txtL_len]; omega)
  rw [show 16 + ds.length + 12 + (Jvm.Free.SBG.GetCharsL.sgnL x + (Jvm.Free.SBG.digitsL n - 1 - j)) = (16 + ds.length + 12 + Jvm.Free.SBG.GetCharsL.sgnL x + Jvm.Free.SBG.digitsL n) - 1 - j from by omega] at q
  refine ⟨q.1, q.2.trans ?_⟩
  have hs : ((if x < 0 then [45] else []) : List Int32).length = Jvm.Free.SBG.GetCharsL.sgnL x := by unfold Jvm.Free.SBG.GetCharsL.sgnL; split <;> rfl
  unfold txtL
  rw [List.getD_eq_getElem?_getD, ← hs, List.getElem?_append_right (by omega), Nat.add_sub_cancel_left, List.getElem?_map, List.getElem?_range (by omega)]
  simp only [Option.map_some, Option.getD_some]
  rw [show Jvm.Free.SBG.digitsL n - 1 - (Jvm.Free.SBG.digitsL n - 1 - j) = j from by omega]
theorem own_dg : ∀ d, d < 10 → ((48 : Int32) - (-(Int64.ofNat d)).toInt32).toUInt32.toUInt16.toUInt32.toInt32 = Int32.ofNat (48 + d) := by decide
theorem own_div {n P : Nat} (hn : n ≤ 2 ^ 63) (hP : 0 < P) {p : Int64} (hp : p.toInt = (P : Int)) : (Jvm.Free.SBG.negL n / p).toInt = -((n / P : Nat) : Int) := by
  have h2 : (Jvm.Free.SBG.negL n).toInt = -(n : Int) := Jvm.Free.SBG.negL_toInt hn
  have h3 : (n / P : Nat) ≤ n := Nat.div_le_self _ _
  have e : (n : Int).tdiv (P : Int) = ((n / P : Nat) : Int) := (Int.ofNat_tdiv n P).symm
  rw [Int64.toInt_div, h2, hp, Int.neg_tdiv, e]
  generalize n / P = q at h3 ⊢
  rw [Int.bmod_eq_of_le (by omega) (by omega)]
theorem own_mod {q : Nat} (h4 : q ≤ 2 ^ 63) : (Jvm.Free.SBG.negL q) - ((Jvm.Free.SBG.negL q) / (10 : Int64)) * (10 : Int64) = -(Int64.ofNat (q % 10)) := by
  have hr := own_div (P := 10) h4 (by decide) (p := 10) (by decide)
  have hm : q % 10 < 10 := Nat.mod_lt _ (by decide)
  apply Int64.toInt_inj.mp
  have a1 : ((Jvm.Free.SBG.negL q / (10 : Int64)) * (10 : Int64)).toInt = -((q / 10 * 10 : Nat) : Int) := by
    rw [Int64.toInt_mul, hr, show (10 : Int64).toInt = 10 from by decide, Int.bmod_eq_of_le (by omega) (by omega)]; omega
  rw [Int64.toInt_sub, a1, Jvm.Free.SBG.negL_toInt h4, Int64.toInt_neg, Int64.toInt_ofNat_of_lt (by omega), Int.bmod_eq_of_le (by omega) (by omega), Int.bmod_eq_of_le (by omega) (by omega)]
  omega
theorem own_digx {n P : Nat} (hn : n ≤ 2 ^ 63) (hP : 0 < P) {p : Int64} (hp : p.toInt = (P : Int)) : ((48 : Int32) - ((Jvm.Free.SBG.negL n / p) - ((Jvm.Free.SBG.negL n / p) / (10 : Int64)) * (10 : Int64)).toInt32).toUInt32.toUInt16.toUInt32.toInt32 = Int32.ofNat (48 + n / P % 10) := by
  have hq := own_div hn hP hp
  have h4 : (n / P : Nat) ≤ 2 ^ 63 := Nat.le_trans (Nat.div_le_self _ _) hn
  have e1 : Jvm.Free.SBG.negL n / p = Jvm.Free.SBG.negL (n / P) := by
    apply Int64.toInt_inj.mp; rw [hq, Jvm.Free.SBG.negL_toInt h4]
  rw [e1, own_mod h4]
  exact own_dg _ (Nat.mod_lt _ (by decide))

set_option maxRecDepth 65536 in
set_option maxHeartbeats 4000000 in
theorem TC0 {l : Launch} {Z : State} {a0 : Array Value} (hw : ∀ d ∈ tables_1, d.before a0 Z = true) {n0 : Nat} {h0 hS : Heap} {vmS : Vm} {i0 i1 i2 cc0 cc1 cc2 : Int32} {xl xx : Int64} {n : Nat} {na s tx r pa t t2 : Addr} {k k2 kp : ClassId} {ds : List Int32} (O : Old Z n0 h0) {z0 : Int32} (S0 : Sta Z Z.heap "java/lang/String" "COMPACT_STRINGS" "Z" (.int z0)) (hz0 : ¬ z0 = 0) {fm : Value} (S1 : Sta Z Z.heap "jdk/internal/util/Preconditions" "SIOOBE_FORMATTER" "Ljava/util/function/BiFunction;" fm) (rf : fm.isRef = true) (HR : SX Z h0 r t k (TXT ds xx n)) (HN : SX Z h0 s t2 k2 ds) (hds : ds.length ≤ 3) (hn : n ≤ 2 ^ 63) (HP : Arv Z h0 pa kp .long (19 : Int32) [(.long (1 : Int64)), (.long (10 : Int64)), (.long (100 : Int64)), (.long (1000 : Int64)), (.long (10000 : Int64)), (.long (100000 : Int64)), (.long (1000000 : Int64)), (.long (10000000 : Int64)), (.long (100000000 : Int64)), (.long (1000000000 : Int64)), (.long (10000000000 : Int64)), (.long (100000000000 : Int64)), (.long (1000000000000 : Int64)), (.long (10000000000000 : Int64)), (.long (100000000000000 : Int64)), (.long (1000000000000000 : Int64)), (.long (10000000000000000 : Int64)), (.long (100000000000000000 : Int64)), (.long (1000000000000000000 : Int64))] (.long 0)) (hsg : Jvm.Free.SBG.GetCharsL.sgnL xx = 0) {B : Bx} (C : Cx B l Z a0 room_1 x code maxLocals ret n0) (D : Wc B Z a0 EL vmS hS n0) (HC : Chx B Z EL vmS hS h0) :
    Go B n0 (fun v _ => v = some (.int 1)) h0 40 4000 330 #[(.val (.int i0)), (.val (.int i1)), (.val (.int i2)), (.val (.long xl)), .second, (.val (.int (Int32.ofNat (ds.length)))), (.val (.int cc0)), (.val (.int cc1)), (.val (.int cc2)), (.val (.ref na)), (.val (.ref s)), (.val (.ref tx)), (.val (.ref r)), (.val (.ref pa)), (.val (.int (0 : Int32))), (.val (.long (Jvm.Free.SBG.negL n))), .second, .unset, .unset, .unset, .unset, .unset, .unset, .unset] [] := by
  have hTL := TXT_len ds xx n
  have hEn := TXT_end ds xx n
  have hD := TXT_dig ds xx n
  rw [hsg] at hTL hEn
  rw [hsg] at hD
  have hdp := Jvm.Free.SBG.digitsL_pos n
  refine iIconst C d0_330 (v := (1 : Int32)) (by decide) ?_
  refine iLload C d0_331 rfl ?_
  refine iAload C d0_333 rfl rfl ?_
  refine iIconst C d0_335 (v := (1 : Int32)) (by decide) ?_
  obtain ⟨c1, A1, q1, z1, y1, H1, G1⟩ := id HP
  refine iLaload C A1 (inb_of z1 ⟨by decide, by decide⟩) (H1.at (inb_of z1 ⟨by decide, by decide⟩) (by rfl)) d0_336 ?_
  refine iCallS C (rmGe hw) tw229 tw230 tw231 tw232 ⟨by decide, by decide⟩ (argsL := [(.long (Jvm.Free.SBG.negL n)), (.long (10 : Int64))]) (S' := [(.int (1 : Int32))]) (lenOf pd27 rfl) rfl rfl d0_337 rfl (W := 1) rfl ⟨by decide, by decide, rfl, rfl, by decide, by decide⟩ fun v2 h2 q2 => ?_
  obtain ⟨rfl, rfl⟩ := q2
  rw [own_ge hn (p := (10 : Int64)) (P := 10) (by decide)]
  show Go B n0 _ h0 40 4000 340 _ [(.int (Int32.ofNat (gg n 10))), (.int (1 : Int32))]
  refine iIadd C d0_340 (v := (Int32.ofNat (1 + (gg n 10)))) (own_add (1) (gg n 10)) ?_
  refine iLload C d0_341 rfl ?_
  refine iAload C d0_343 rfl rfl ?_
  refine iIconst C d0_345 (v := (2 : Int32)) (by decide) ?_
  obtain ⟨c3, A3, q3, z3, y3, H3, G3⟩ := id HP
  refine iLaload C A3 (inb_of z3 ⟨by decide, by decide⟩) (H3.at (inb_of z3 ⟨by decide, by decide⟩) (by rfl)) d0_346 ?_
  refine iCallS C (rmGe hw) tw229 tw230 tw231 tw232 ⟨by decide, by decide⟩ (argsL := [(.long (Jvm.Free.SBG.negL n)), (.long (100 : Int64))]) (S' := [(.int (Int32.ofNat (1 + (gg n 10))))]) (lenOf pd27 rfl) rfl rfl d0_347 rfl (W := 1) rfl ⟨by decide, by decide, rfl, rfl, by decide, by decide⟩ fun v4 h4 q4 => ?_
  obtain ⟨rfl, rfl⟩ := q4
  rw [own_ge hn (p := (100 : Int64)) (P := 100) (by decide)]
  show Go B n0 _ h0 40 4000 350 _ [(.int (Int32.ofNat (gg n 100))), (.int (Int32.ofNat (1 + (gg n 10))))]
  refine iIadd C d0_350 (v := (Int32.ofNat (1 + (gg n 10) + (gg n 100)))) (own_add (1 + (gg n 10)) (gg n 100)) ?_
  refine iLload C d0_351 rfl ?_
  refine iAload C d0_353 rfl rfl ?_
  refine iIconst C d0_355 (v := (3 : Int32)) (by decide) ?_
  obtain ⟨c5, A5, q5, z5, y5, H5, G5⟩ := id HP
  refine iLaload C A5 (inb_of z5 ⟨by decide, by decide⟩) (H5.at (inb_of z5 ⟨by decide, by decide⟩) (by rfl)) d0_356 ?_
  refine iCallS C (rmGe hw) tw229 tw230 tw231 tw232 ⟨by decide, by decide⟩ (argsL := [(.long (Jvm.Free.SBG.negL n)), (.long (1000 : Int64))]) (S' := [(.int (Int32.ofNat (1 + (gg n 10) + (gg n 100))))]) (lenOf pd27 rfl) rfl rfl d0_357 rfl (W := 1) rfl ⟨by decide, by decide, rfl, rfl, by decide, by decide⟩ fun v6 h6 q6 => ?_
  obtain ⟨rfl, rfl⟩ := q6
  rw [own_ge hn (p := (1000 : Int64)) (P := 1000) (by decide)]
  show Go B n0 _ h0 40 4000 360 _ [(.int (Int32.ofNat (gg n 1000))), (.int (Int32.ofNat (1 + (gg n 10) + (gg n 100))))]
  refine iIadd C d0_360 (v := (Int32.ofNat (1 + (gg n 10) + (gg n 100) + (gg n 1000)))) (own_add (1 + (gg n 10) + (gg n 100)) (gg n 1000)) ?_
  refine iLload C d0_361 rfl ?_
  refine iAload C d0_363 rfl rfl ?_
  refine iIconst C d0_365 (v := (4 : Int32)) (by decide) ?_
  obtain ⟨c7, A7, q7, z7, y7, H7, G7⟩ := id HP
  refine iLaload C A7 (inb_of z7 ⟨by decide, by decide⟩) (H7.at (inb_of z7 ⟨by decide, by decide⟩) (by rfl)) d0_366 ?_
  refine iCallS C (rmGe hw) tw229 tw230 tw231 tw232 ⟨by decide, by decide⟩ (argsL := [(.long (Jvm.Free.SBG.negL n)), (.long (10000 : Int64))]) (S' := [(.int (Int32.ofNat (1 + (gg n 10) + (gg n 100) + (gg n 1000))))]) (lenOf pd27 rfl) rfl rfl d0_367 rfl (W := 1) rfl ⟨by decide, by decide, rfl, rfl, by decide, by decide⟩ fun v8 h8 q8 => ?_
  obtain ⟨rfl, rfl⟩ := q8
  rw [own_ge hn (p := (10000 : Int64)) (P := 10000) (by decide)]
  show Go B n0 _ h0 40 4000 370 _ [(.int (Int32.ofNat (gg n 10000))), (.int (Int32.ofNat (1 + (gg n 10) + (gg n 100) + (gg n 1000))))]
  refine iIadd C d0_370 (v := (Int32.ofNat (1 + (gg n 10) + (gg n 100) + (gg n 1000) + (gg n 10000)))) (own_add (1 + (gg n 10) + (gg n 100) + (gg n 1000)) (gg n 10000)) ?_
  refine iLload C d0_371 rfl ?_
  refine iAload C d0_373 rfl rfl ?_
  refine iIconst C d0_375 (v := (5 : Int32)) (by decide) ?_
  obtain ⟨c9, A9, q9, z9, y9, H9, G9⟩ := id HP
  refine iLaload C A9 (inb_of z9 ⟨by decide, by decide⟩) (H9.at (inb_of z9 ⟨by decide, by decide⟩) (by rfl)) d0_376 ?_
  refine iCallS C (rmGe hw) tw229 tw230 tw231 tw232 ⟨by decide, by decide⟩ (argsL := [(.long (Jvm.Free.SBG.negL n)), (.long (100000 : Int64))]) (S' := [(.int (Int32.ofNat (1 + (gg n 10) + (gg n 100) + (gg n 1000) + (gg n 10000))))]) (lenOf pd27 rfl) rfl rfl d0_377 rfl (W := 1) rfl ⟨by decide, by decide, rfl, rfl, by decide, by decide⟩ fun v10 h10 q10 => ?_
  obtain ⟨rfl, rfl⟩ := q10
  rw [own_ge hn (p := (100000 : Int64)) (P := 100000) (by decide)]
  show Go B n0 _ h0 40 4000 380 _ [(.int (Int32.ofNat (gg n 100000))), (.int (Int32.ofNat (1 + (gg n 10) + (gg n 100) + (gg n 1000) + (gg n 10000))))]
  refine iIadd C d0_380 (v := (Int32.ofNat (1 + (gg n 10) + (gg n 100) + (gg n 1000) + (gg n 10000) + (gg n 100000)))) (own_add (1 + (gg n 10) + (gg n 100) + (gg n 1000) + (gg n 10000)) (gg n 100000)) ?_
  refine iLload C d0_381 rfl ?_
  refine iAload C d0_383 rfl rfl ?_
  refine iBipush C d0_385 (v := (6 : Int32)) (by decide) ?_
  obtain ⟨c11, A11, q11, z11, y11, H11, G11⟩ := id HP
  refine iLaload C A11 (inb_of z11 ⟨by decide, by decide⟩) (H11.at (inb_of z11 ⟨by decide, by decide⟩) (by rfl)) d0_387 ?_
  refine iCallS C (rmGe hw) tw229 tw230 tw231 tw232 ⟨by decide, by decide⟩ (argsL := [(.long (Jvm.Free.SBG.negL n)), (.long (1000000 : Int64))]) (S' := [(.int (Int32.ofNat (1 + (gg n 10) + (gg n 100) + (gg n 1000) + (gg n 10000) + (gg n 100000))))]) (lenOf pd27 rfl) rfl rfl d0_388 rfl (W := 1) rfl ⟨by decide, by decide, rfl, rfl, by decide, by decide⟩ fun v12 h12 q12 => ?_
  obtain ⟨rfl, rfl⟩ := q12
  rw [own_ge hn (p := (1000000 : Int64)) (P := 1000000) (by decide)]
  show Go B n0 _ h0 40 4000 391 _ [(.int (Int32.ofNat (gg n 1000000))), (.int (Int32.ofNat (1 + (gg n 10) + (gg n 100) + (gg n 1000) + (gg n 10000) + (gg n 100000))))]
  refine iIadd C d0_391 (v := (Int32.ofNat (1 + (gg n 10) + (gg n 100) + (gg n 1000) + (gg n 10000) + (gg n 100000) + (gg n 1000000)))) (own_add (1 + (gg n 10) + (gg n 100) + (gg n 1000) + (gg n 10000) + (gg n 100000)) (gg n 1000000)) ?_
  refine iLload C d0_392 rfl ?_
  refine iAload C d0_394 rfl rfl ?_
  refine iBipush C d0_396 (v := (7 : Int32)) (by decide) ?_
  obtain ⟨c13, A13, q13, z13, y13, H13, G13⟩ := id HP
  refine iLaload C A13 (inb_of z13 ⟨by decide, by decide⟩) (H13.at (inb_of z13 ⟨by decide, by decide⟩) (by rfl)) d0_398 ?_
  refine iCallS C (rmGe hw) tw229 tw230 tw231 tw232 ⟨by decide, by decide⟩ (argsL := [(.long (Jvm.Free.SBG.negL n)), (.long (10000000 : Int64))]) (S' := [(.int (Int32.ofNat (1 + (gg n 10) + (gg n 100) + (gg n 1000) + (gg n 10000) + (gg n 100000) + (gg n 1000000))))]) (lenOf pd27 rfl) rfl rfl d0_399 rfl (W := 1) rfl ⟨by decide, by decide, rfl, rfl, by decide, by decide⟩ fun v14 h14 q14 => ?_
  obtain ⟨rfl, rfl⟩ := q14
  rw [own_ge hn (p := (10000000 : Int64)) (P := 10000000) (by decide)]
  show Go B n0 _ h0 40 4000 402 _ [(.int (Int32.ofNat (gg n 10000000))), (.int (Int32.ofNat (1 + (gg n 10) + (gg n 100) + (gg n 1000) + (gg n 10000) + (gg n 100000) + (gg n 1000000))))]
  refine iIadd C d0_402 (v := (Int32.ofNat (1 + (gg n 10) + (gg n 100) + (gg n 1000) + (gg n 10000) + (gg n 100000) + (gg n 1000000) + (gg n 10000000)))) (own_add (1 + (gg n 10) + (gg n 100) + (gg n 1000) + (gg n 10000) + (gg n 100000) + (gg n 1000000)) (gg n 10000000)) ?_
  refine iLload C d0_403 rfl ?_
  refine iAload C d0_405 rfl rfl ?_
  refine iBipush C d0_407 (v := (8 : Int32)) (by decide) ?_
  obtain ⟨c15, A15, q15, z15, y15, H15, G15⟩ := id HP
  refine iLaload C A15 (inb_of z15 ⟨by decide, by decide⟩) (H15.at (inb_of z15 ⟨by decide, by decide⟩) (by rfl)) d0_409 ?_
  refine iCallS C (rmGe hw) tw229 tw230 tw231 tw232 ⟨by decide, by decide⟩ (argsL := [(.long (Jvm.Free.SBG.negL n)), (.long (100000000 : Int64))]) (S' := [(.int (Int32.ofNat (1 + (gg n 10) + (gg n 100) + (gg n 1000) + (gg n 10000) + (gg n 100000) + (gg n 1000000) + (gg n 10000000))))]) (lenOf pd27 rfl) rfl rfl d0_410 rfl (W := 1) rfl ⟨by decide, by decide, rfl, rfl, by decide, by decide⟩ fun v16 h16 q16 => ?_
  obtain ⟨rfl, rfl⟩ := q16
  rw [own_ge hn (p := (100000000 : Int64)) (P := 100000000) (by decide)]
  show Go B n0 _ h0 40 4000 413 _ [(.int (Int32.ofNat (gg n 100000000))), (.int (Int32.ofNat (1 + (gg n 10) + (gg n 100) + (gg n 1000) + (gg n 10000) + (gg n 100000) + (gg n 1000000) + (gg n 10000000))))]
  refine iIadd C d0_413 (v := (Int32.ofNat (1 + (gg n 10) + (gg n 100) + (gg n 1000) + (gg n 10000) + (gg n 100000) + (gg n 1000000) + (gg n 10000000) + (gg n 100000000)))) (own_add (1 + (gg n 10) + (gg n 100) + (gg n 1000) + (gg n 10000) + (gg n 100000) + (gg n 1000000) + (gg n 10000000)) (gg n 100000000)) ?_
  refine iLload C d0_414 rfl ?_
  refine iAload C d0_416 rfl rfl ?_
  refine iBipush C d0_418 (v := (9 : Int32)) (by decide) ?_
  obtain ⟨c17, A17, q17, z17, y17, H17, G17⟩ := id HP
  refine iLaload C A17 (inb_of z17 ⟨by decide, by decide⟩) (H17.at (inb_of z17 ⟨by decide, by decide⟩) (by rfl)) d0_420 ?_
  refine iCallS C (rmGe hw) tw229 tw230 tw231 tw232 ⟨by decide, by decide⟩ (argsL := [(.long (Jvm.Free.SBG.negL n)), (.long (1000000000 : Int64))]) (S' := [(.int (Int32.ofNat (1 + (gg n 10) + (gg n 100) + (gg n 1000) + (gg n 10000) + (gg n 100000) + (gg n 1000000) + (gg n 10000000) + (gg n 100000000))))]) (lenOf pd27 rfl) rfl rfl d0_421 rfl (W := 1) rfl ⟨by decide, by decide, rfl, rfl, by decide, by decide⟩ fun v18 h18 q18 => ?_
  obtain ⟨rfl, rfl⟩ := q18
  rw [own_ge hn (p := (1000000000 : Int64)) (P := 1000000000) (by decide)]
  show Go B n0 _ h0 40 4000 424 _ [(.int (Int32.ofNat (gg n 1000000000))), (.int (Int32.ofNat (1 + (gg n 10) + (gg n 100) + (gg n 1000) + (gg n 10000) + (gg n 100000) + (gg n 1000000) + (gg n 10000000) + (gg n 100000000))))]
  refine iIadd C d0_424 (v := (Int32.ofNat (1 + (gg n 10) + (gg n 100) + (gg n 1000) + (gg n 10000) + (gg n 100000) + (gg n 1000000) + (gg n 10000000) + (gg n 100000000) + (gg n 1000000000)))) (own_add (1 + (gg n 10) + (gg n 100) + (gg n 1000) + (gg n 10000) + (gg n 100000) + (gg n 1000000) + (gg n 10000000) + (gg n 100000000)) (gg n 1000000000)) ?_
  refine iLload C d0_425 rfl ?_
  refine iAload C d0_427 rfl rfl ?_
  refine iBipush C d0_429 (v := (10 : Int32)) (by decide) ?_
  obtain ⟨c19, A19, q19, z19, y19, H19, G19⟩ := id HP
  refine iLaload C A19 (inb_of z19 ⟨by decide, by decide⟩) (H19.at (inb_of z19 ⟨by decide, by decide⟩) (by rfl)) d0_431 ?_
  refine iCallS C (rmGe hw) tw229 tw230 tw231 tw232 ⟨by decide, by decide⟩ (argsL := [(.long (Jvm.Free.SBG.negL n)), (.long (10000000000 : Int64))]) (S' := [(.int (Int32.ofNat (1 + (gg n 10) + (gg n 100) + (gg n 1000) + (gg n 10000) + (gg n 100000) + (gg n 1000000) + (gg n 10000000) + (gg n 100000000) + (gg n 1000000000))))]) (lenOf pd27 rfl) rfl rfl d0_432 rfl (W := 1) rfl ⟨by decide, by decide, rfl, rfl, by decide, by decide⟩ fun v20 h20 q20 => ?_
  obtain ⟨rfl, rfl⟩ := q20
  rw [own_ge hn (p := (10000000000 : Int64)) (P := 10000000000) (by decide)]
  show Go B n0 _ h0 40 4000 435 _ [(.int (Int32.ofNat (gg n 10000000000))), (.int (Int32.ofNat (1 + (gg n 10) + (gg n 100) + (gg n 1000) + (gg n 10000) + (gg n 100000) + (gg n 1000000) + (gg n 10000000) + (gg n 100000000) + (gg n 1000000000))))]
  refine iIadd C d0_435 (v := (Int32.ofNat (1 + (gg n 10) + (gg n 100) + (gg n 1000) + (gg n 10000) + (gg n 100000) + (gg n 1000000) + (gg n 10000000) + (gg n 100000000) + (gg n 1000000000) + (gg n 10000000000)))) (own_add (1 + (gg n 10) + (gg n 100) + (gg n 1000) + (gg n 10000) + (gg n 100000) + (gg n 1000000) + (gg n 10000000) + (gg n 100000000) + (gg n 1000000000)) (gg n 10000000000)) ?_
  refine iLload C d0_436 rfl ?_
  refine iAload C d0_438 rfl rfl ?_
  refine iBipush C d0_440 (v := (11 : Int32)) (by decide) ?_
  obtain ⟨c21, A21, q21, z21, y21, H21, G21⟩ := id HP
  refine iLaload C A21 (inb_of z21 ⟨by decide, by decide⟩) (H21.at (inb_of z21 ⟨by decide, by decide⟩) (by rfl)) d0_442 ?_
  refine iCallS C (rmGe hw) tw229 tw230 tw231 tw232 ⟨by decide, by decide⟩ (argsL := [(.long (Jvm.Free.SBG.negL n)), (.long (100000000000 : Int64))]) (S' := [(.int (Int32.ofNat (1 + (gg n 10) + (gg n 100) + (gg n 1000) + (gg n 10000) + (gg n 100000) + (gg n 1000000) + (gg n 10000000) + (gg n 100000000) + (gg n 1000000000) + (gg n 10000000000))))]) (lenOf pd27 rfl) rfl rfl d0_443 rfl (W := 1) rfl ⟨by decide, by decide, rfl, rfl, by decide, by decide⟩ fun v22 h22 q22 => ?_
  obtain ⟨rfl, rfl⟩ := q22
  rw [own_ge hn (p := (100000000000 : Int64)) (P := 100000000000) (by decide)]
  show Go B n0 _ h0 40 4000 446 _ [(.int (Int32.ofNat (gg n 100000000000))), (.int (Int32.ofNat (1 + (gg n 10) + (gg n 100) + (gg n 1000) + (gg n 10000) + (gg n 100000) + (gg n 1000000) + (gg n 10000000) + (gg n 100000000) + (gg n 1000000000) + (gg n 10000000000))))]
  refine iIadd C d0_446 (v := (Int32.ofNat (1 + (gg n 10) + (gg n 100) + (gg n 1000) + (gg n 10000) + (gg n 100000) + (gg n 1000000) + (gg n 10000000) + (gg n 100000000) + (gg n 1000000000) + (gg n 10000000000) + (gg n 100000000000)))) (own_add (1 + (gg n 10) + (gg n 100) + (gg n 1000) + (gg n 10000) + (gg n 100000) + (gg n 1000000) + (gg n 10000000) + (gg n 100000000) + (gg n 1000000000) + (gg n 10000000000)) (gg n 100000000000)) ?_
  refine iLload C d0_447 rfl ?_
  refine iAload C d0_449 rfl rfl ?_
  refine iBipush C d0_451 (v := (12 : Int32)) (by decide) ?_
  obtain ⟨c23, A23, q23, z23, y23, H23, G23⟩ := id HP
  refine iLaload C A23 (inb_of z23 ⟨by decide, by decide⟩) (H23.at (inb_of z23 ⟨by decide, by decide⟩) (by rfl)) d0_453 ?_
  refine iCallS C (rmGe hw) tw229 tw230 tw231 tw232 ⟨by decide, by decide⟩ (argsL := [(.long (Jvm.Free.SBG.negL n)), (.long (1000000000000 : Int64))]) (S' := [(.int (Int32.ofNat (1 + (gg n 10) + (gg n 100) + (gg n 1000) + (gg n 10000) + (gg n 100000) + (gg n 1000000) + (gg n 10000000) + (gg n 100000000) + (gg n 1000000000) + (gg n 10000000000) + (gg n 100000000000))))]) (lenOf pd27 rfl) rfl rfl d0_454 rfl (W := 1) rfl ⟨by decide, by decide, rfl, rfl, by decide, by decide⟩ fun v24 h24 q24 => ?_
  obtain ⟨rfl, rfl⟩ := q24
  rw [own_ge hn (p := (1000000000000 : Int64)) (P := 1000000000000) (by decide)]
  show Go B n0 _ h0 40 4000 457 _ [(.int (Int32.ofNat (gg n 1000000000000))), (.int (Int32.ofNat (1 + (gg n 10) + (gg n 100) + (gg n 1000) + (gg n 10000) + (gg n 100000) + (gg n 1000000) + (gg n 10000000) + (gg n 100000000) + (gg n 1000000000) + (gg n 10000000000) + (gg n 100000000000))))]
  refine iIadd C d0_457 (v := (Int32.ofNat (1 + (gg n 10) + (gg n 100) + (gg n 1000) + (gg n 10000) + (gg n 100000) + (gg n 1000000) + (gg n 10000000) + (gg n 100000000) + (gg n 1000000000) + (gg n 10000000000) + (gg n 100000000000) + (gg n 1000000000000)))) (own_add (1 + (gg n 10) + (gg n 100) + (gg n 1000) + (gg n 10000) + (gg n 100000) + (gg n 1000000) + (gg n 10000000) + (gg n 100000000) + (gg n 1000000000) + (gg n 10000000000) + (gg n 100000000000)) (gg n 1000000000000)) ?_
  refine iLload C d0_458 rfl ?_
  refine iAload C d0_460 rfl rfl ?_
  refine iBipush C d0_462 (v := (13 : Int32)) (by decide) ?_
  obtain ⟨c25, A25, q25, z25, y25, H25, G25⟩ := id HP
  refine iLaload C A25 (inb_of z25 ⟨by decide, by decide⟩) (H25.at (inb_of z25 ⟨by decide, by decide⟩) (by rfl)) d0_464 ?_
  refine iCallS C (rmGe hw) tw229 tw230 tw231 tw232 ⟨by decide, by decide⟩ (argsL := [(.long (Jvm.Free.SBG.negL n)), (.long (10000000000000 : Int64))]) (S' := [(.int (Int32.ofNat (1 + (gg n 10) + (gg n 100) + (gg n 1000) + (gg n 10000) + (gg n 100000) + (gg n 1000000) + (gg n 10000000) + (gg n 100000000) + (gg n 1000000000) + (gg n 10000000000) + (gg n 100000000000) + (gg n 1000000000000))))]) (lenOf pd27 rfl) rfl rfl d0_465 rfl (W := 1) rfl ⟨by decide, by decide, rfl, rfl, by decide, by decide⟩ fun v26 h26 q26 => ?_
  obtain ⟨rfl, rfl⟩ := q26
  rw [own_ge hn (p := (10000000000000 : Int64)) (P := 10000000000000) (by decide)]
  show Go B n0 _ h0 40 4000 468 _ [(.int (Int32.ofNat (gg n 10000000000000))), (.int (Int32.ofNat (1 + (gg n 10) + (gg n 100) + (gg n 1000) + (gg n 10000) + (gg n 100000) + (gg n 1000000) + (gg n 10000000) + (gg n 100000000) + (gg n 1000000000) + (gg n 10000000000) + (gg n 100000000000) + (gg n 1000000000000))))]
  refine iIadd C d0_468 (v := (Int32.ofNat (1 + (gg n 10) + (gg n 100) + (gg n 1000) + (gg n 10000) + (gg n 100000) + (gg n 1000000) + (gg n 10000000) + (gg n 100000000) + (gg n 1000000000) + (gg n 10000000000) + (gg n 100000000000) + (gg n 1000000000000) + (gg n 10000000000000)))) (own_add (1 + (gg n 10) + (gg n 100) + (gg n 1000) + (gg n 10000) + (gg n 100000) + (gg n 1000000) + (gg n 10000000) + (gg n 100000000) + (gg n 1000000000) + (gg n 10000000000) + (gg n 100000000000) + (gg n 1000000000000)) (gg n 10000000000000)) ?_
  refine iLload C d0_469 rfl ?_
  refine iAload C d0_471 rfl rfl ?_
  refine iBipush C d0_473 (v := (14 : Int32)) (by decide) ?_
  obtain ⟨c27, A27, q27, z27, y27, H27, G27⟩ := id HP
  refine iLaload C A27 (inb_of z27 ⟨by decide, by decide⟩) (H27.at (inb_of z27 ⟨by decide, by decide⟩) (by rfl)) d0_475 ?_
  refine iCallS C (rmGe hw) tw229 tw230 tw231 tw232 ⟨by decide, by decide⟩ (argsL := [(.long (Jvm.Free.SBG.negL n)), (.long (100000000000000 : Int64))]) (S' := [(.int (Int32.ofNat (1 + (gg n 10) + (gg n 100) + (gg n 1000) + (gg n 10000) + (gg n 100000) + (gg n 1000000) + (gg n 10000000) + (gg n 100000000) + (gg n 1000000000) + (gg n 10000000000) + (gg n 100000000000) + (gg n 1000000000000) + (gg n 10000000000000))))]) (lenOf pd27 rfl) rfl rfl d0_476 rfl (W := 1) rfl ⟨by decide, by decide, rfl, rfl, by decide, by decide⟩ fun v28 h28 q28 => ?_
  obtain ⟨rfl, rfl⟩ := q28
  rw [own_ge hn (p := (100000000000000 : Int64)) (P := 100000000000000) (by decide)]
  show Go B n0 _ h0 40 4000 479 _ [(.int (Int32.ofNat (gg n 100000000000000))), (.int (Int32.ofNat (1 + (gg n 10) + (gg n 100) + (gg n 1000) + (gg n 10000) + (gg n 100000) + (gg n 1000000) + (gg n 10000000) + (gg n 100000000) + (gg n 1000000000) + (gg n 10000000000) + (gg n 100000000000) + (gg n 1000000000000) + (gg n 10000000000000))))]
  refine iIadd C d0_479 (v := (Int32.ofNat (1 + (gg n 10) + (gg n 100) + (gg n 1000) + (gg n 10000) + (gg n 100000) + (gg n 1000000) + (gg n 10000000) + (gg n 100000000) + (gg n 1000000000) + (gg n 10000000000) + (gg n 100000000000) + (gg n 1000000000000) + (gg n 10000000000000) + (gg n 100000000000000)))) (own_add (1 + (gg n 10) + (gg n 100) + (gg n 1000) + (gg n 10000) + (gg n 100000) + (gg n 1000000) + (gg n 10000000) + (gg n 100000000) + (gg n 1000000000) + (gg n 10000000000) + (gg n 100000000000) + (gg n 1000000000000) + (gg n 10000000000000)) (gg n 100000000000000)) ?_
  refine iLload C d0_480 rfl ?_
  refine iAload C d0_482 rfl rfl ?_
  refine iBipush C d0_484 (v := (15 : Int32)) (by decide) ?_
  obtain ⟨c29, A29, q29, z29, y29, H29, G29⟩ := id HP
  refine iLaload C A29 (inb_of z29 ⟨by decide, by decide⟩) (H29.at (inb_of z29 ⟨by decide, by decide⟩) (by rfl)) d0_486 ?_
  refine iCallS C (rmGe hw) tw229 tw230 tw231 tw232 ⟨by decide, by decide⟩ (argsL := [(.long (Jvm.Free.SBG.negL n)), (.long (1000000000000000 : Int64))]) (S' := [(.int (Int32.ofNat (1 + (gg n 10) + (gg n 100) + (gg n 1000) + (gg n 10000) + (gg n 100000) + (gg n 1000000) + (gg n 10000000) + (gg n 100000000) + (gg n 1000000000) + (gg n 10000000000) + (gg n 100000000000) + (gg n 1000000000000) + (gg n 10000000000000) + (gg n 100000000000000))))]) (lenOf pd27 rfl) rfl rfl d0_487 rfl (W := 1) rfl ⟨by decide, by decide, rfl, rfl, by decide, by decide⟩ fun v30 h30 q30 => ?_
  obtain ⟨rfl, rfl⟩ := q30
  rw [own_ge hn (p := (1000000000000000 : Int64)) (P := 1000000000000000) (by decide)]
  show Go B n0 _ h0 40 4000 490 _ [(.int (Int32.ofNat (gg n 1000000000000000))), (.int (Int32.ofNat (1 + (gg n 10) + (gg n 100) + (gg n 1000) + (gg n 10000) + (gg n 100000) + (gg n 1000000) + (gg n 10000000) + (gg n 100000000) + (gg n 1000000000) + (gg n 10000000000) + (gg n 100000000000) + (gg n 1000000000000) + (gg n 10000000000000) + (gg n 100000000000000))))]
  refine iIadd C d0_490 (v := (Int32.ofNat (1 + (gg n 10) + (gg n 100) + (gg n 1000) + (gg n 10000) + (gg n 100000) + (gg n 1000000) + (gg n 10000000) + (gg n 100000000) + (gg n 1000000000) + (gg n 10000000000) + (gg n 100000000000) + (gg n 1000000000000) + (gg n 10000000000000) + (gg n 100000000000000) + (gg n 1000000000000000)))) (own_add (1 + (gg n 10) + (gg n 100) + (gg n 1000) + (gg n 10000) + (gg n 100000) + (gg n 1000000) + (gg n 10000000) + (gg n 100000000) + (gg n 1000000000) + (gg n 10000000000) + (gg n 100000000000) + (gg n 1000000000000) + (gg n 10000000000000) + (gg n 100000000000000)) (gg n 1000000000000000)) ?_
  refine iLload C d0_491 rfl ?_
  refine iAload C d0_493 rfl rfl ?_
  refine iBipush C d0_495 (v := (16 : Int32)) (by decide) ?_
  obtain ⟨c31, A31, q31, z31, y31, H31, G31⟩ := id HP
  refine iLaload C A31 (inb_of z31 ⟨by decide, by decide⟩) (H31.at (inb_of z31 ⟨by decide, by decide⟩) (by rfl)) d0_497 ?_
  refine iCallS C (rmGe hw) tw229 tw230 tw231 tw232 ⟨by decide, by decide⟩ (argsL := [(.long (Jvm.Free.SBG.negL n)), (.long (10000000000000000 : Int64))]) (S' := [(.int (Int32.ofNat (1 + (gg n 10) + (gg n 100) + (gg n 1000) + (gg n 10000) + (gg n 100000) + (gg n 1000000) + (gg n 10000000) + (gg n 100000000) + (gg n 1000000000) + (gg n 10000000000) + (gg n 100000000000) + (gg n 1000000000000) + (gg n 10000000000000) + (gg n 100000000000000) + (gg n 1000000000000000))))]) (lenOf pd27 rfl) rfl rfl d0_498 rfl (W := 1) rfl ⟨by decide, by decide, rfl, rfl, by decide, by decide⟩ fun v32 h32 q32 => ?_
  obtain ⟨rfl, rfl⟩ := q32
  rw [own_ge hn (p := (10000000000000000 : Int64)) (P := 10000000000000000) (by decide)]
  show Go B n0 _ h0 40 4000 501 _ [(.int (Int32.ofNat (gg n 10000000000000000))), (.int (Int32.ofNat (1 + (gg n 10) + (gg n 100) + (gg n 1000) + (gg n 10000) + (gg n 100000) + (gg n 1000000) + (gg n 10000000) + (gg n 100000000) + (gg n 1000000000) + (gg n 10000000000) + (gg n 100000000000) + (gg n 1000000000000) + (gg n 10000000000000) + (gg n 100000000000000) + (gg n 1000000000000000))))]
  refine iIadd C d0_501 (v := (Int32.ofNat (1 + (gg n 10) + (gg n 100) + (gg n 1000) + (gg n 10000) + (gg n 100000) + (gg n 1000000) + (gg n 10000000) + (gg n 100000000) + (gg n 1000000000) + (gg n 10000000000) + (gg n 100000000000) + (gg n 1000000000000) + (gg n 10000000000000) + (gg n 100000000000000) + (gg n 1000000000000000) + (gg n 10000000000000000)))) (own_add (1 + (gg n 10) + (gg n 100) + (gg n 1000) + (gg n 10000) + (gg n 100000) + (gg n 1000000) + (gg n 10000000) + (gg n 100000000) + (gg n 1000000000) + (gg n 10000000000) + (gg n 100000000000) + (gg n 1000000000000) + (gg n 10000000000000) + (gg n 100000000000000) + (gg n 1000000000000000)) (gg n 10000000000000000)) ?_
  refine iLload C d0_502 rfl ?_
  refine iAload C d0_504 rfl rfl ?_
  refine iBipush C d0_506 (v := (17 : Int32)) (by decide) ?_
  obtain ⟨c33, A33, q33, z33, y33, H33, G33⟩ := id HP
  refine iLaload C A33 (inb_of z33 ⟨by decide, by decide⟩) (H33.at (inb_of z33 ⟨by decide, by decide⟩) (by rfl)) d0_508 ?_
  refine iCallS C (rmGe hw) tw229 tw230 tw231 tw232 ⟨by decide, by decide⟩ (argsL := [(.long (Jvm.Free.SBG.negL n)), (.long (100000000000000000 : Int64))]) (S' := [(.int (Int32.ofNat (1 + (gg n 10) + (gg n 100) + (gg n 1000) + (gg n 10000) + (gg n 100000) + (gg n 1000000) + (gg n 10000000) + (gg n 100000000) + (gg n 1000000000) + (gg n 10000000000) + (gg n 100000000000) + (gg n 1000000000000) + (gg n 10000000000000) + (gg n 100000000000000) + (gg n 1000000000000000) + (gg n 10000000000000000))))]) (lenOf pd27 rfl) rfl rfl d0_509 rfl (W := 1) rfl ⟨by decide, by decide, rfl, rfl, by decide, by decide⟩ fun v34 h34 q34 => ?_
  obtain ⟨rfl, rfl⟩ := q34
  rw [own_ge hn (p := (100000000000000000 : Int64)) (P := 100000000000000000) (by decide)]
  show Go B n0 _ h0 40 4000 512 _ [(.int (Int32.ofNat (gg n 100000000000000000))), (.int (Int32.ofNat (1 + (gg n 10) + (gg n 100) + (gg n 1000) + (gg n 10000) + (gg n 100000) + (gg n 1000000) + (gg n 10000000) + (gg n 100000000) + (gg n 1000000000) + (gg n 10000000000) + (gg n 100000000000) + (gg n 1000000000000) + (gg n 10000000000000) + (gg n 100000000000000) + (gg n 1000000000000000) + (gg n 10000000000000000))))]
  refine iIadd C d0_512 (v := (Int32.ofNat (1 + (gg n 10) + (gg n 100) + (gg n 1000) + (gg n 10000) + (gg n 100000) + (gg n 1000000) + (gg n 10000000) + (gg n 100000000) + (gg n 1000000000) + (gg n 10000000000) + (gg n 100000000000) + (gg n 1000000000000) + (gg n 10000000000000) + (gg n 100000000000000) + (gg n 1000000000000000) + (gg n 10000000000000000) + (gg n 100000000000000000)))) (own_add (1 + (gg n 10) + (gg n 100) + (gg n 1000) + (gg n 10000) + (gg n 100000) + (gg n 1000000) + (gg n 10000000) + (gg n 100000000) + (gg n 1000000000) + (gg n 10000000000) + (gg n 100000000000) + (gg n 1000000000000) + (gg n 10000000000000) + (gg n 100000000000000) + (gg n 1000000000000000) + (gg n 10000000000000000)) (gg n 100000000000000000)) ?_
  refine iLload C d0_513 rfl ?_
  refine iAload C d0_515 rfl rfl ?_
  refine iBipush C d0_517 (v := (18 : Int32)) (by decide) ?_
  obtain ⟨c35, A35, q35, z35, y35, H35, G35⟩ := id HP
  refine iLaload C A35 (inb_of z35 ⟨by decide, by decide⟩) (H35.at (inb_of z35 ⟨by decide, by decide⟩) (by rfl)) d0_519 ?_
  refine iCallS C (rmGe hw) tw229 tw230 tw231 tw232 ⟨by decide, by decide⟩ (argsL := [(.long (Jvm.Free.SBG.negL n)), (.long (1000000000000000000 : Int64))]) (S' := [(.int (Int32.ofNat (1 + (gg n 10) + (gg n 100) + (gg n 1000) + (gg n 10000) + (gg n 100000) + (gg n 1000000) + (gg n 10000000) + (gg n 100000000) + (gg n 1000000000) + (gg n 10000000000) + (gg n 100000000000) + (gg n 1000000000000) + (gg n 10000000000000) + (gg n 100000000000000) + (gg n 1000000000000000) + (gg n 10000000000000000) + (gg n 100000000000000000))))]) (lenOf pd27 rfl) rfl rfl d0_520 rfl (W := 1) rfl ⟨by decide, by decide, rfl, rfl, by decide, by decide⟩ fun v36 h36 q36 => ?_
  obtain ⟨rfl, rfl⟩ := q36
  rw [own_ge hn (p := (1000000000000000000 : Int64)) (P := 1000000000000000000) (by decide)]
  show Go B n0 _ h0 40 4000 523 _ [(.int (Int32.ofNat (gg n 1000000000000000000))), (.int (Int32.ofNat (1 + (gg n 10) + (gg n 100) + (gg n 1000) + (gg n 10000) + (gg n 100000) + (gg n 1000000) + (gg n 10000000) + (gg n 100000000) + (gg n 1000000000) + (gg n 10000000000) + (gg n 100000000000) + (gg n 1000000000000) + (gg n 10000000000000) + (gg n 100000000000000) + (gg n 1000000000000000) + (gg n 10000000000000000) + (gg n 100000000000000000))))]
  refine iIadd C d0_523 (v := (Int32.ofNat (1 + (gg n 10) + (gg n 100) + (gg n 1000) + (gg n 10000) + (gg n 100000) + (gg n 1000000) + (gg n 10000000) + (gg n 100000000) + (gg n 1000000000) + (gg n 10000000000) + (gg n 100000000000) + (gg n 1000000000000) + (gg n 10000000000000) + (gg n 100000000000000) + (gg n 1000000000000000) + (gg n 10000000000000000) + (gg n 100000000000000000) + (gg n 1000000000000000000)))) (own_add (1 + (gg n 10) + (gg n 100) + (gg n 1000) + (gg n 10000) + (gg n 100000) + (gg n 1000000) + (gg n 10000000) + (gg n 100000000) + (gg n 1000000000) + (gg n 10000000000) + (gg n 100000000000) + (gg n 1000000000000) + (gg n 10000000000000) + (gg n 100000000000000) + (gg n 1000000000000000) + (gg n 10000000000000000) + (gg n 100000000000000000)) (gg n 1000000000000000000)) ?_
  rw [show 1 + (gg n 10) + (gg n 100) + (gg n 1000) + (gg n 10000) + (gg n 100000) + (gg n 1000000) + (gg n 10000000) + (gg n 100000000) + (gg n 1000000000) + (gg n 10000000000) + (gg n 100000000000) + (gg n 1000000000000) + (gg n 10000000000000) + (gg n 100000000000000) + (gg n 1000000000000000) + (gg n 10000000000000000) + (gg n 100000000000000000) + (gg n 1000000000000000000) = Jvm.Free.SBG.digitsL n from own_dsum hn]
  refine iIstore C d0_524 (Ls' := #[(.val (.int i0)), (.val (.int i1)), (.val (.int i2)), (.val (.long xl)), .second, (.val (.int (Int32.ofNat (ds.length)))), (.val (.int cc0)), (.val (.int cc1)), (.val (.int cc2)), (.val (.ref na)), (.val (.ref s)), (.val (.ref tx)), (.val (.ref r)), (.val (.ref pa)), (.val (.int (0 : Int32))), (.val (.long (Jvm.Free.SBG.negL n))), .second, (.val (.int (Int32.ofNat (Jvm.Free.SBG.digitsL n)))), .unset, .unset, .unset, .unset, .unset, .unset]) rfl ?_
  refine iIload C d0_526 rfl ?_
  refine iIfT C (t := 535) d0_528 (by decide) ⟨by decide, by decide⟩ ?_
  refine iIconst C d0_535 (v := (0 : Int32)) (by decide) ?_
  refine iIstore C d0_536 (Ls' := #[(.val (.int i0)), (.val (.int i1)), (.val (.int i2)), (.val (.long xl)), .second, (.val (.int (Int32.ofNat (ds.length)))), (.val (.int cc0)), (.val (.int cc1)), (.val (.int cc2)), (.val (.ref na)), (.val (.ref s)), (.val (.ref tx)), (.val (.ref r)), (.val (.ref pa)), (.val (.int (0 : Int32))), (.val (.long (Jvm.Free.SBG.negL n))), .second, (.val (.int (Int32.ofNat (Jvm.Free.SBG.digitsL n)))), (.val (.int (0 : Int32))), .unset, .unset, .unset, .unset, .unset]) rfl ?_
  refine iBipush C d0_538 (v := (16 : Int32)) (by decide) ?_
  refine iIload C d0_540 rfl ?_
  refine iIadd C d0_542 (v := (Int32.ofNat (16 + (ds.length)))) (own_add (16) (ds.length)) ?_
  refine iBipush C d0_543 (v := (12 : Int32)) (by decide) ?_
  refine iIadd C d0_545 (v := (Int32.ofNat (16 + (ds.length) + 12))) (own_add (16 + (ds.length)) (12)) ?_
  refine iIstore C d0_546 (Ls' := #[(.val (.int i0)), (.val (.int i1)), (.val (.int i2)), (.val (.long xl)), .second, (.val (.int (Int32.ofNat (ds.length)))), (.val (.int cc0)), (.val (.int cc1)), (.val (.int cc2)), (.val (.ref na)), (.val (.ref s)), (.val (.ref tx)), (.val (.ref r)), (.val (.ref pa)), (.val (.int (0 : Int32))), (.val (.long (Jvm.Free.SBG.negL n))), .second, (.val (.int (Int32.ofNat (Jvm.Free.SBG.digitsL n)))), (.val (.int (0 : Int32))), (.val (.int (Int32.ofNat (16 + (ds.length) + 12)))), .unset, .unset, .unset, .unset]) rfl ?_
  refine iIload C d0_548 rfl ?_
  refine iIload C d0_550 rfl ?_
  refine iIadd C d0_552 (v := (Int32.ofNat (16 + (ds.length) + 12 + 0))) (own_add (16 + (ds.length) + 12) (0)) ?_
  refine iIload C d0_553 rfl ?_
  refine iIadd C d0_555 (v := (Int32.ofNat (16 + (ds.length) + 12 + 0 + (Jvm.Free.SBG.digitsL n)))) (own_add (16 + (ds.length) + 12 + 0) (Jvm.Free.SBG.digitsL n)) ?_
  refine iIstore C d0_556 (Ls' := #[(.val (.int i0)), (.val (.int i1)), (.val (.int i2)), (.val (.long xl)), .second, (.val (.int (Int32.ofNat (ds.length)))), (.val (.int cc0)), (.val (.int cc1)), (.val (.int cc2)), (.val (.ref na)), (.val (.ref s)), (.val (.ref tx)), (.val (.ref r)), (.val (.ref pa)), (.val (.int (0 : Int32))), (.val (.long (Jvm.Free.SBG.negL n))), .second, (.val (.int (Int32.ofNat (Jvm.Free.SBG.digitsL n)))), (.val (.int (0 : Int32))), (.val (.int (Int32.ofNat (16 + (ds.length) + 12)))), (.val (.int (Int32.ofNat (16 + (ds.length) + 12 + 0 + (Jvm.Free.SBG.digitsL n))))), .unset, .unset, .unset]) rfl ?_
  refine iAload C d0_558 rfl rfl ?_
  refine iNullF C d0_560 ?_
  refine iAload C d0_563 rfl rfl ?_
  refine iCallVB C (payLen hw HR (S0.ext O.2) hz0 (by decide) (by decide)) HR.1 tw233 tw86 (Or.inl rfl) tw88 tw87 ⟨by decide, by decide⟩ (argsL := []) (S' := []) (lenOf pd7 rfl) rfl rfl d0_565 rfl (W := 0) rfl ⟨rfl, rfl, by decide, by decide⟩ fun v37 h37 q37 => ?_
  obtain ⟨rfl, rfl⟩ := q37
  show Go B n0 _ h0 40 4000 568 _ [(.int (Int32.ofNat ((TXT ds xx n).length)))]
  refine iIload C d0_568 rfl ?_
  refine iIconst C d0_570 (v := (1 : Int32)) (by decide) ?_
  refine iIadd C d0_571 (v := (Int32.ofNat (16 + (ds.length) + 12 + 0 + (Jvm.Free.SBG.digitsL n) + 1))) (own_add (16 + (ds.length) + 12 + 0 + (Jvm.Free.SBG.digitsL n)) (1)) ?_
  refine iCmpT C (t := 577) d0_572 (teq (by rw [hTL])).1 ⟨by decide, by decide⟩ ?_
  refine iLdcC C D HC (z := Int32.ofNat SPRE.length) (vs := (SPRE.map lo8).map Value.int) (nn := 64) tw234 own_wS (List.mem_of_getElem? (i := 3) rfl) ⟨by decide, by decide⟩ (by decide) (by decide) d0_577 (by decide) (by decide) ⟨rfl, rfl, by decide, by decide⟩ fun B h38 a38 t38 k38 C D HC38 Bk38 E38 sm38 ne38 A38 Fc38 Fv38 V38 => ?_
  have O38 := O.ext E38
  refine iAstore C d0_579 (Ls' := #[(.val (.int i0)), (.val (.int i1)), (.val (.int i2)), (.val (.long xl)), .second, (.val (.int (Int32.ofNat (ds.length)))), (.val (.int cc0)), (.val (.int cc1)), (.val (.int cc2)), (.val (.ref na)), (.val (.ref s)), (.val (.ref tx)), (.val (.ref r)), (.val (.ref pa)), (.val (.int (0 : Int32))), (.val (.long (Jvm.Free.SBG.negL n))), .second, (.val (.int (Int32.ofNat (Jvm.Free.SBG.digitsL n)))), (.val (.int (0 : Int32))), (.val (.int (Int32.ofNat (16 + (ds.length) + 12)))), (.val (.int (Int32.ofNat (16 + (ds.length) + 12 + 0 + (Jvm.Free.SBG.digitsL n))))), (.val (.ref a38)), .unset, .unset]) rfl rfl ?_
  refine iLdcC C D HC38 (z := Int32.ofNat SMID.length) (vs := (SMID.map lo8).map Value.int) (nn := 48) tw235 own_wS (List.mem_of_getElem? (i := 4) rfl) ⟨by decide, by decide⟩ (by decide) (by decide) d0_581 (by decide) (by decide) ⟨rfl, rfl, by decide, by decide⟩ fun B h39 a39 t39 k39 C D HC39 Bk39 E39 sm39 ne39 A39 Fc39 Fv39 V39 => ?_
  have O39 := O38.ext E39
  refine iAstore C d0_583 (Ls' := #[(.val (.int i0)), (.val (.int i1)), (.val (.int i2)), (.val (.long xl)), .second, (.val (.int (Int32.ofNat (ds.length)))), (.val (.int cc0)), (.val (.int cc1)), (.val (.int cc2)), (.val (.ref na)), (.val (.ref s)), (.val (.ref tx)), (.val (.ref r)), (.val (.ref pa)), (.val (.int (0 : Int32))), (.val (.long (Jvm.Free.SBG.negL n))), .second, (.val (.int (Int32.ofNat (Jvm.Free.SBG.digitsL n)))), (.val (.int (0 : Int32))), (.val (.int (Int32.ofNat (16 + (ds.length) + 12)))), (.val (.int (Int32.ofNat (16 + (ds.length) + 12 + 0 + (Jvm.Free.SBG.digitsL n))))), (.val (.ref a38)), (.val (.ref a39)), .unset]) rfl rfl ?_
  refine iAload C d0_585 rfl rfl ?_
  refine iIconst C d0_587 (v := (0 : Int32)) (by decide) ?_
  refine iAload C d0_588 rfl rfl ?_
  refine iIconst C d0_590 (v := (0 : Int32)) (by decide) ?_
  refine iCallS C (rmE4 hw O39 S0 hz0 S1 rf (SX.ext (SX.ext HR E38) E39) ⟨(A38.ext E39), (Fc38.ext E39), (Fv38.ext E39), (V38.ext E39), (by decide), (by decide)⟩ (o := 0) (j := 0) (by omega) (by omega) (TXT_pre ds xx n)) tw236 tw237 tw231 tw238 ⟨by decide, by decide⟩ (argsL := [(.ref r), (.int (0 : Int32)), (.ref a38), (.int (0 : Int32))]) (S' := []) (lenOf pd22 rfl) rfl rfl d0_591 rfl (W := 0) rfl ⟨by decide, by decide, rfl, rfl, by decide, by decide⟩ fun v40 h40 q40 => ?_
  obtain ⟨rfl, rfl⟩ := q40
  show Go B n0 _ h39 44 4120 594 _ [(.int (1 : Int32))]
  refine iIfF C d0_594 (by decide) ?_
  refine iAload C d0_597 rfl rfl ?_
  refine iIconst C d0_599 (v := (0 : Int32)) (by decide) ?_
  refine iAload C d0_600 rfl rfl ?_
  refine iIconst C d0_602 (v := (4 : Int32)) (by decide) ?_
  refine iCallS C (rmE4 hw O39 S0 hz0 S1 rf (SX.ext (SX.ext HR E38) E39) ⟨(A38.ext E39), (Fc38.ext E39), (Fv38.ext E39), (V38.ext E39), (by decide), (by decide)⟩ (o := 0) (j := 4) (by omega) (by omega) (TXT_pre ds xx n)) tw236 tw237 tw231 tw238 ⟨by decide, by decide⟩ (argsL := [(.ref r), (.int (0 : Int32)), (.ref a38), (.int (4 : Int32))]) (S' := []) (lenOf pd22 rfl) rfl rfl d0_603 rfl (W := 0) rfl ⟨by decide, by decide, rfl, rfl, by decide, by decide⟩ fun v41 h41 q41 => ?_
  obtain ⟨rfl, rfl⟩ := q41
  show Go B n0 _ h39 44 4120 606 _ [(.int (1 : Int32))]
  refine iIfF C d0_606 (by decide) ?_
  refine iAload C d0_609 rfl rfl ?_
  refine iIconst C d0_611 (v := (0 : Int32)) (by decide) ?_
  refine iAload C d0_612 rfl rfl ?_
  refine iBipush C d0_614 (v := (8 : Int32)) (by decide) ?_
  refine iCallS C (rmE4 hw O39 S0 hz0 S1 rf (SX.ext (SX.ext HR E38) E39) ⟨(A38.ext E39), (Fc38.ext E39), (Fv38.ext E39), (V38.ext E39), (by decide), (by decide)⟩ (o := 0) (j := 8) (by omega) (by omega) (TXT_pre ds xx n)) tw236 tw237 tw231 tw238 ⟨by decide, by decide⟩ (argsL := [(.ref r), (.int (0 : Int32)), (.ref a38), (.int (8 : Int32))]) (S' := []) (lenOf pd22 rfl) rfl rfl d0_616 rfl (W := 0) rfl ⟨by decide, by decide, rfl, rfl, by decide, by decide⟩ fun v42 h42 q42 => ?_
  obtain ⟨rfl, rfl⟩ := q42
  show Go B n0 _ h39 44 4120 619 _ [(.int (1 : Int32))]
  refine iIfF C d0_619 (by decide) ?_
  refine iAload C d0_622 rfl rfl ?_
  refine iIconst C d0_624 (v := (0 : Int32)) (by decide) ?_
  refine iAload C d0_625 rfl rfl ?_
  refine iBipush C d0_627 (v := (12 : Int32)) (by decide) ?_
  refine iCallS C (rmE4 hw O39 S0 hz0 S1 rf (SX.ext (SX.ext HR E38) E39) ⟨(A38.ext E39), (Fc38.ext E39), (Fv38.ext E39), (V38.ext E39), (by decide), (by decide)⟩ (o := 0) (j := 12) (by omega) (by omega) (TXT_pre ds xx n)) tw236 tw237 tw231 tw238 ⟨by decide, by decide⟩ (argsL := [(.ref r), (.int (0 : Int32)), (.ref a38), (.int (12 : Int32))]) (S' := []) (lenOf pd22 rfl) rfl rfl d0_629 rfl (W := 0) rfl ⟨by decide, by decide, rfl, rfl, by decide, by decide⟩ fun v43 h43 q43 => ?_
  obtain ⟨rfl, rfl⟩ := q43
  show Go B n0 _ h39 44 4120 632 _ [(.int (1 : Int32))]
  refine iIfF C d0_632 (by decide) ?_
  refine iIconst C d0_635 (v := (1 : Int32)) (by decide) ?_
  refine iGoto C (t := 640) d0_636 ⟨by decide, by decide⟩ ?_
  refine iIstore C d0_640 (Ls' := #[(.val (.int i0)), (.val (.int i1)), (.val (.int i2)), (.val (.long xl)), .second, (.val (.int (Int32.ofNat (ds.length)))), (.val (.int cc0)), (.val (.int cc1)), (.val (.int cc2)), (.val (.ref na)), (.val (.ref s)), (.val (.ref tx)), (.val (.ref r)), (.val (.ref pa)), (.val (.int (0 : Int32))), (.val (.long (Jvm.Free.SBG.negL n))), .second, (.val (.int (Int32.ofNat (Jvm.Free.SBG.digitsL n)))), (.val (.int (0 : Int32))), (.val (.int (Int32.ofNat (16 + (ds.length) + 12)))), (.val (.int (Int32.ofNat (16 + (ds.length) + 12 + 0 + (Jvm.Free.SBG.digitsL n))))), (.val (.ref a38)), (.val (.ref a39)), (.val (.int (1 : Int32)))]) rfl ?_
  refine iIload C d0_642 rfl ?_
  refine iIfF C d0_644 (by decide) ?_
  refine iAload C d0_647 rfl rfl ?_
  refine iBipush C d0_649 (v := (16 : Int32)) (by decide) ?_
  refine iAload C d0_651 rfl rfl ?_
  refine iIconst C d0_653 (v := (0 : Int32)) (by decide) ?_
  refine iCallS C (rmE4 hw O39 S0 hz0 S1 rf (SX.ext (SX.ext HR E38) E39) (SX.ext (SX.ext HN E38) E39) (o := 16) (j := 0) (by omega) (by omega) (TXT_non ds xx n)) tw236 tw237 tw231 tw238 ⟨by decide, by decide⟩ (argsL := [(.ref r), (.int (16 : Int32)), (.ref s), (.int (0 : Int32))]) (S' := []) (lenOf pd22 rfl) rfl rfl d0_654 rfl (W := 0) rfl ⟨by decide, by decide, rfl, rfl, by decide, by decide⟩ fun v44 h44 q44 => ?_
  obtain ⟨rfl, rfl⟩ := q44
  show Go B n0 _ h39 44 4120 657 _ [(.int (1 : Int32))]
  refine iIfF C d0_657 (by decide) ?_
  refine iIconst C d0_660 (v := (1 : Int32)) (by decide) ?_
  refine iGoto C (t := 665) d0_661 ⟨by decide, by decide⟩ ?_
  refine iIstore C d0_665 (Ls' := #[(.val (.int i0)), (.val (.int i1)), (.val (.int i2)), (.val (.long xl)), .second, (.val (.int (Int32.ofNat (ds.length)))), (.val (.int cc0)), (.val (.int cc1)), (.val (.int cc2)), (.val (.ref na)), (.val (.ref s)), (.val (.ref tx)), (.val (.ref r)), (.val (.ref pa)), (.val (.int (0 : Int32))), (.val (.long (Jvm.Free.SBG.negL n))), .second, (.val (.int (Int32.ofNat (Jvm.Free.SBG.digitsL n)))), (.val (.int (0 : Int32))), (.val (.int (Int32.ofNat (16 + (ds.length) + 12)))), (.val (.int (Int32.ofNat (16 + (ds.length) + 12 + 0 + (Jvm.Free.SBG.digitsL n))))), (.val (.ref a38)), (.val (.ref a39)), (.val (.int (1 : Int32)))]) rfl ?_
  refine iIload C d0_667 rfl ?_
  refine iIfF C d0_669 (by decide) ?_
  refine iAload C d0_672 rfl rfl ?_
  refine iBipush C d0_674 (v := (16 : Int32)) (by decide) ?_
  refine iIload C d0_676 rfl ?_
  refine iIadd C d0_678 (v := (Int32.ofNat (16 + (ds.length)))) (own_add (16) (ds.length)) ?_
  refine iAload C d0_679 rfl rfl ?_
  refine iIconst C d0_681 (v := (0 : Int32)) (by decide) ?_
  refine iCallS C (rmE4 hw O39 S0 hz0 S1 rf (SX.ext (SX.ext HR E38) E39) ⟨A39, Fc39, Fv39, V39, (by decide), (by decide)⟩ (o := 16 + (ds.length)) (j := 0) (by omega) (by omega) (TXT_mid ds xx n)) tw236 tw237 tw231 tw238 ⟨by decide, by decide⟩ (argsL := [(.ref r), (.int (Int32.ofNat (16 + (ds.length)))), (.ref a39), (.int (0 : Int32))]) (S' := []) (lenOf pd22 rfl) rfl rfl d0_682 rfl (W := 0) rfl ⟨by decide, by decide, rfl, rfl, by decide, by decide⟩ fun v45 h45 q45 => ?_
  obtain ⟨rfl, rfl⟩ := q45
  show Go B n0 _ h39 44 4120 685 _ [(.int (1 : Int32))]
  refine iIfF C d0_685 (by decide) ?_
  refine iAload C d0_688 rfl rfl ?_
  refine iBipush C d0_690 (v := (16 : Int32)) (by decide) ?_
  refine iIload C d0_692 rfl ?_
  refine iIadd C d0_694 (v := (Int32.ofNat (16 + (ds.length)))) (own_add (16) (ds.length)) ?_
  refine iAload C d0_695 rfl rfl ?_
  refine iIconst C d0_697 (v := (4 : Int32)) (by decide) ?_
  refine iCallS C (rmE4 hw O39 S0 hz0 S1 rf (SX.ext (SX.ext HR E38) E39) ⟨A39, Fc39, Fv39, V39, (by decide), (by decide)⟩ (o := 16 + (ds.length)) (j := 4) (by omega) (by omega) (TXT_mid ds xx n)) tw236 tw237 tw231 tw238 ⟨by decide, by decide⟩ (argsL := [(.ref r), (.int (Int32.ofNat (16 + (ds.length)))), (.ref a39), (.int (4 : Int32))]) (S' := []) (lenOf pd22 rfl) rfl rfl d0_698 rfl (W := 0) rfl ⟨by decide, by decide, rfl, rfl, by decide, by decide⟩ fun v46 h46 q46 => ?_
  obtain ⟨rfl, rfl⟩ := q46
  show Go B n0 _ h39 44 4120 701 _ [(.int (1 : Int32))]
  refine iIfF C d0_701 (by decide) ?_
  refine iAload C d0_704 rfl rfl ?_
  refine iBipush C d0_706 (v := (16 : Int32)) (by decide) ?_
  refine iIload C d0_708 rfl ?_
  refine iIadd C d0_710 (v := (Int32.ofNat (16 + (ds.length)))) (own_add (16) (ds.length)) ?_
  refine iAload C d0_711 rfl rfl ?_
  refine iBipush C d0_713 (v := (8 : Int32)) (by decide) ?_
  refine iCallS C (rmE4 hw O39 S0 hz0 S1 rf (SX.ext (SX.ext HR E38) E39) ⟨A39, Fc39, Fv39, V39, (by decide), (by decide)⟩ (o := 16 + (ds.length)) (j := 8) (by omega) (by omega) (TXT_mid ds xx n)) tw236 tw237 tw231 tw238 ⟨by decide, by decide⟩ (argsL := [(.ref r), (.int (Int32.ofNat (16 + (ds.length)))), (.ref a39), (.int (8 : Int32))]) (S' := []) (lenOf pd22 rfl) rfl rfl d0_715 rfl (W := 0) rfl ⟨by decide, by decide, rfl, rfl, by decide, by decide⟩ fun v47 h47 q47 => ?_
  obtain ⟨rfl, rfl⟩ := q47
  show Go B n0 _ h39 44 4120 718 _ [(.int (1 : Int32))]
  refine iIfF C d0_718 (by decide) ?_
  refine iIconst C d0_721 (v := (1 : Int32)) (by decide) ?_
  refine iGoto C (t := 726) d0_722 ⟨by decide, by decide⟩ ?_
  refine iIstore C d0_726 (Ls' := #[(.val (.int i0)), (.val (.int i1)), (.val (.int i2)), (.val (.long xl)), .second, (.val (.int (Int32.ofNat (ds.length)))), (.val (.int cc0)), (.val (.int cc1)), (.val (.int cc2)), (.val (.ref na)), (.val (.ref s)), (.val (.ref tx)), (.val (.ref r)), (.val (.ref pa)), (.val (.int (0 : Int32))), (.val (.long (Jvm.Free.SBG.negL n))), .second, (.val (.int (Int32.ofNat (Jvm.Free.SBG.digitsL n)))), (.val (.int (0 : Int32))), (.val (.int (Int32.ofNat (16 + (ds.length) + 12)))), (.val (.int (Int32.ofNat (16 + (ds.length) + 12 + 0 + (Jvm.Free.SBG.digitsL n))))), (.val (.ref a38)), (.val (.ref a39)), (.val (.int (1 : Int32)))]) rfl ?_
  refine iIload C d0_728 rfl ?_
  refine iIfF C d0_730 (by decide) ?_
  refine iIload C d0_733 rfl ?_
  refine iIfT C (t := 750) d0_735 (by decide) ⟨by decide, by decide⟩ ?_
  refine iIconst C d0_750 (v := (1 : Int32)) (by decide) ?_
  refine iGoto C (t := 755) d0_751 ⟨by decide, by decide⟩ ?_
  refine iIstore C d0_755 (Ls' := #[(.val (.int i0)), (.val (.int i1)), (.val (.int i2)), (.val (.long xl)), .second, (.val (.int (Int32.ofNat (ds.length)))), (.val (.int cc0)), (.val (.int cc1)), (.val (.int cc2)), (.val (.ref na)), (.val (.ref s)), (.val (.ref tx)), (.val (.ref r)), (.val (.ref pa)), (.val (.int (0 : Int32))), (.val (.long (Jvm.Free.SBG.negL n))), .second, (.val (.int (Int32.ofNat (Jvm.Free.SBG.digitsL n)))), (.val (.int (0 : Int32))), (.val (.int (Int32.ofNat (16 + (ds.length) + 12)))), (.val (.int (Int32.ofNat (16 + (ds.length) + 12 + 0 + (Jvm.Free.SBG.digitsL n))))), (.val (.ref a38)), (.val (.ref a39)), (.val (.int (1 : Int32)))]) rfl ?_
  refine iIload C d0_757 rfl ?_
  refine iIfF C d0_759 (by decide) ?_
  refine iAload C d0_762 rfl rfl ?_
  refine iIload C d0_764 rfl ?_
  refine iCallVB C (payCh hw (SX.ext (SX.ext HR E38) E39) (S0.ext O39.2) hz0 (S1.ext O39.2) rf (i := 16 + (ds.length) + 12 + 0 + (Jvm.Free.SBG.digitsL n)) hEn.1 rfl (by decide) (by decide)) ((HR.1.ext E38).ext E39) tw242 tw243 (Or.inl rfl) tw245 tw244 ⟨by decide, by decide⟩ (argsL := [(.int (Int32.ofNat (16 + (ds.length) + 12 + 0 + (Jvm.Free.SBG.digitsL n))))]) (S' := []) (lenOf pd21 rfl) rfl rfl d0_766 rfl (W := 0) rfl ⟨rfl, rfl, by decide, by decide⟩ fun v48 h48 q48 => ?_
  obtain ⟨rfl, rfl⟩ := q48
  show Go B n0 _ h39 44 4120 769 _ [(.int ((TXT ds xx n).getD (16 + (ds.length) + 12 + 0 + (Jvm.Free.SBG.digitsL n)) 0))]
  refine iBipush C d0_769 (v := (93 : Int32)) (by decide) ?_
  refine iCmpF C d0_771 (teq hEn.2).2 ?_
  refine iIconst C d0_774 (v := (1 : Int32)) (by decide) ?_
  refine iGoto C (t := 779) d0_775 ⟨by decide, by decide⟩ ?_
  refine iIstore C d0_779 (Ls' := #[(.val (.int i0)), (.val (.int i1)), (.val (.int i2)), (.val (.long xl)), .second, (.val (.int (Int32.ofNat (ds.length)))), (.val (.int cc0)), (.val (.int cc1)), (.val (.int cc2)), (.val (.ref na)), (.val (.ref s)), (.val (.ref tx)), (.val (.ref r)), (.val (.ref pa)), (.val (.int (0 : Int32))), (.val (.long (Jvm.Free.SBG.negL n))), .second, (.val (.int (Int32.ofNat (Jvm.Free.SBG.digitsL n)))), (.val (.int (0 : Int32))), (.val (.int (Int32.ofNat (16 + (ds.length) + 12)))), (.val (.int (Int32.ofNat (16 + (ds.length) + 12 + 0 + (Jvm.Free.SBG.digitsL n))))), (.val (.ref a38)), (.val (.ref a39)), (.val (.int (1 : Int32)))]) rfl ?_
  refine iIload C d0_781 rfl ?_
  refine iIfF C d0_783 (by decide) ?_
  refine iAload C d0_786 rfl rfl ?_
  refine iIload C d0_788 rfl ?_
  refine iIload C d0_790 rfl ?_
  refine iLload C d0_792 rfl ?_
  refine iAload C d0_794 rfl rfl ?_
  refine iIconst C d0_796 (v := (0 : Int32)) (by decide) ?_
  obtain ⟨c49, A49, q49, z49, y49, H49, G49⟩ := id ((HP.ext E38).ext E39)
  refine iLaload C A49 (inb_of z49 ⟨by decide, by decide⟩) (H49.at (inb_of z49 ⟨by decide, by decide⟩) (by rfl)) d0_797 ?_
  refine iIconst C d0_798 (v := (0 : Int32)) (by decide) ?_
  refine iCallS C (rmDg hw O39 S0 hz0 S1 rf (SX.ext (SX.ext HR E38) E39) (by decide) (by omega) (by omega) (by omega) (fun hj => ⟨(hD 0 hj).1, (hD 0 hj).2.trans (own_digx hn (P := 10 ^ 0) (by decide) (p := (1 : Int64)) (by decide)).symm⟩)) tw264 tw265 tw231 tw266 ⟨by decide, by decide⟩ (argsL := [(.ref r), (.int (Int32.ofNat (16 + (ds.length) + 12 + 0 + (Jvm.Free.SBG.digitsL n)))), (.int (Int32.ofNat (Jvm.Free.SBG.digitsL n))), (.long (Jvm.Free.SBG.negL n)), (.long (1 : Int64)), (.int (0 : Int32))]) (S' := []) (lenOf pd28 rfl) rfl rfl d0_799 rfl (W := 0) rfl ⟨by decide, by decide, rfl, rfl, by decide, by decide⟩ fun v50 h50 q50 => ?_
  obtain ⟨rfl, rfl⟩ := q50
  show Go B n0 _ h39 44 4120 802 _ [(.int (1 : Int32))]
  refine iIfF C d0_802 (by decide) ?_
  refine iAload C d0_805 rfl rfl ?_
  refine iIload C d0_807 rfl ?_
  refine iIload C d0_809 rfl ?_
  refine iLload C d0_811 rfl ?_
  refine iAload C d0_813 rfl rfl ?_
  refine iIconst C d0_815 (v := (1 : Int32)) (by decide) ?_
  obtain ⟨c51, A51, q51, z51, y51, H51, G51⟩ := id ((HP.ext E38).ext E39)
  refine iLaload C A51 (inb_of z51 ⟨by decide, by decide⟩) (H51.at (inb_of z51 ⟨by decide, by decide⟩) (by rfl)) d0_816 ?_
  refine iIconst C d0_817 (v := (1 : Int32)) (by decide) ?_
  refine iCallS C (rmDg hw O39 S0 hz0 S1 rf (SX.ext (SX.ext HR E38) E39) (by decide) (by omega) (by omega) (by omega) (fun hj => ⟨(hD 1 hj).1, (hD 1 hj).2.trans (own_digx hn (P := 10 ^ 1) (by decide) (p := (10 : Int64)) (by decide)).symm⟩)) tw264 tw265 tw231 tw266 ⟨by decide, by decide⟩ (argsL := [(.ref r), (.int (Int32.ofNat (16 + (ds.length) + 12 + 0 + (Jvm.Free.SBG.digitsL n)))), (.int (Int32.ofNat (Jvm.Free.SBG.digitsL n))), (.long (Jvm.Free.SBG.negL n)), (.long (10 : Int64)), (.int (1 : Int32))]) (S' := []) (lenOf pd28 rfl) rfl rfl d0_818 rfl (W := 0) rfl ⟨by decide, by decide, rfl, rfl, by decide, by decide⟩ fun v52 h52 q52 => ?_
  obtain ⟨rfl, rfl⟩ := q52
  show Go B n0 _ h39 44 4120 821 _ [(.int (1 : Int32))]
  refine iIfF C d0_821 (by decide) ?_
  refine iAload C d0_824 rfl rfl ?_
  refine iIload C d0_826 rfl ?_
  refine iIload C d0_828 rfl ?_
  refine iLload C d0_830 rfl ?_
  refine iAload C d0_832 rfl rfl ?_
  refine iIconst C d0_834 (v := (2 : Int32)) (by decide) ?_
  obtain ⟨c53, A53, q53, z53, y53, H53, G53⟩ := id ((HP.ext E38).ext E39)
  refine iLaload C A53 (inb_of z53 ⟨by decide, by decide⟩) (H53.at (inb_of z53 ⟨by decide, by decide⟩) (by rfl)) d0_835 ?_
  refine iIconst C d0_836 (v := (2 : Int32)) (by decide) ?_
  refine iCallS C (rmDg hw O39 S0 hz0 S1 rf (SX.ext (SX.ext HR E38) E39) (by decide) (by omega) (by omega) (by omega) (fun hj => ⟨(hD 2 hj).1, (hD 2 hj).2.trans (own_digx hn (P := 10 ^ 2) (by decide) (p := (100 : Int64)) (by decide)).symm⟩)) tw264 tw265 tw231 tw266 ⟨by decide, by decide⟩ (argsL := [(.ref r), (.int (Int32.ofNat (16 + (ds.length) + 12 + 0 + (Jvm.Free.SBG.digitsL n)))), (.int (Int32.ofNat (Jvm.Free.SBG.digitsL n))), (.long (Jvm.Free.SBG.negL n)), (.long (100 : Int64)), (.int (2 : Int32))]) (S' := []) (lenOf pd28 rfl) rfl rfl d0_837 rfl (W := 0) rfl ⟨by decide, by decide, rfl, rfl, by decide, by decide⟩ fun v54 h54 q54 => ?_
  obtain ⟨rfl, rfl⟩ := q54
  show Go B n0 _ h39 44 4120 840 _ [(.int (1 : Int32))]
  refine iIfF C d0_840 (by decide) ?_
  refine iAload C d0_843 rfl rfl ?_
  refine iIload C d0_845 rfl ?_
  refine iIload C d0_847 rfl ?_
  refine iLload C d0_849 rfl ?_
  refine iAload C d0_851 rfl rfl ?_
  refine iIconst C d0_853 (v := (3 : Int32)) (by decide) ?_
  obtain ⟨c55, A55, q55, z55, y55, H55, G55⟩ := id ((HP.ext E38).ext E39)
  refine iLaload C A55 (inb_of z55 ⟨by decide, by decide⟩) (H55.at (inb_of z55 ⟨by decide, by decide⟩) (by rfl)) d0_854 ?_
  refine iIconst C d0_855 (v := (3 : Int32)) (by decide) ?_
  refine iCallS C (rmDg hw O39 S0 hz0 S1 rf (SX.ext (SX.ext HR E38) E39) (by decide) (by omega) (by omega) (by omega) (fun hj => ⟨(hD 3 hj).1, (hD 3 hj).2.trans (own_digx hn (P := 10 ^ 3) (by decide) (p := (1000 : Int64)) (by decide)).symm⟩)) tw264 tw265 tw231 tw266 ⟨by decide, by decide⟩ (argsL := [(.ref r), (.int (Int32.ofNat (16 + (ds.length) + 12 + 0 + (Jvm.Free.SBG.digitsL n)))), (.int (Int32.ofNat (Jvm.Free.SBG.digitsL n))), (.long (Jvm.Free.SBG.negL n)), (.long (1000 : Int64)), (.int (3 : Int32))]) (S' := []) (lenOf pd28 rfl) rfl rfl d0_856 rfl (W := 0) rfl ⟨by decide, by decide, rfl, rfl, by decide, by decide⟩ fun v56 h56 q56 => ?_
  obtain ⟨rfl, rfl⟩ := q56
  show Go B n0 _ h39 44 4120 859 _ [(.int (1 : Int32))]
  refine iIfF C d0_859 (by decide) ?_
  refine iAload C d0_862 rfl rfl ?_
  refine iIload C d0_864 rfl ?_
  refine iIload C d0_866 rfl ?_
  refine iLload C d0_868 rfl ?_
  refine iAload C d0_870 rfl rfl ?_
  refine iIconst C d0_872 (v := (4 : Int32)) (by decide) ?_
  obtain ⟨c57, A57, q57, z57, y57, H57, G57⟩ := id ((HP.ext E38).ext E39)
  refine iLaload C A57 (inb_of z57 ⟨by decide, by decide⟩) (H57.at (inb_of z57 ⟨by decide, by decide⟩) (by rfl)) d0_873 ?_
  refine iIconst C d0_874 (v := (4 : Int32)) (by decide) ?_
  refine iCallS C (rmDg hw O39 S0 hz0 S1 rf (SX.ext (SX.ext HR E38) E39) (by decide) (by omega) (by omega) (by omega) (fun hj => ⟨(hD 4 hj).1, (hD 4 hj).2.trans (own_digx hn (P := 10 ^ 4) (by decide) (p := (10000 : Int64)) (by decide)).symm⟩)) tw264 tw265 tw231 tw266 ⟨by decide, by decide⟩ (argsL := [(.ref r), (.int (Int32.ofNat (16 + (ds.length) + 12 + 0 + (Jvm.Free.SBG.digitsL n)))), (.int (Int32.ofNat (Jvm.Free.SBG.digitsL n))), (.long (Jvm.Free.SBG.negL n)), (.long (10000 : Int64)), (.int (4 : Int32))]) (S' := []) (lenOf pd28 rfl) rfl rfl d0_875 rfl (W := 0) rfl ⟨by decide, by decide, rfl, rfl, by decide, by decide⟩ fun v58 h58 q58 => ?_
  obtain ⟨rfl, rfl⟩ := q58
  show Go B n0 _ h39 44 4120 878 _ [(.int (1 : Int32))]
  refine iIfF C d0_878 (by decide) ?_
  refine iAload C d0_881 rfl rfl ?_
  refine iIload C d0_883 rfl ?_
  refine iIload C d0_885 rfl ?_
  refine iLload C d0_887 rfl ?_
  refine iAload C d0_889 rfl rfl ?_
  refine iIconst C d0_891 (v := (5 : Int32)) (by decide) ?_
  obtain ⟨c59, A59, q59, z59, y59, H59, G59⟩ := id ((HP.ext E38).ext E39)
  refine iLaload C A59 (inb_of z59 ⟨by decide, by decide⟩) (H59.at (inb_of z59 ⟨by decide, by decide⟩) (by rfl)) d0_892 ?_
  refine iIconst C d0_893 (v := (5 : Int32)) (by decide) ?_
  refine iCallS C (rmDg hw O39 S0 hz0 S1 rf (SX.ext (SX.ext HR E38) E39) (by decide) (by omega) (by omega) (by omega) (fun hj => ⟨(hD 5 hj).1, (hD 5 hj).2.trans (own_digx hn (P := 10 ^ 5) (by decide) (p := (100000 : Int64)) (by decide)).symm⟩)) tw264 tw265 tw231 tw266 ⟨by decide, by decide⟩ (argsL := [(.ref r), (.int (Int32.ofNat (16 + (ds.length) + 12 + 0 + (Jvm.Free.SBG.digitsL n)))), (.int (Int32.ofNat (Jvm.Free.SBG.digitsL n))), (.long (Jvm.Free.SBG.negL n)), (.long (100000 : Int64)), (.int (5 : Int32))]) (S' := []) (lenOf pd28 rfl) rfl rfl d0_894 rfl (W := 0) rfl ⟨by decide, by decide, rfl, rfl, by decide, by decide⟩ fun v60 h60 q60 => ?_
  obtain ⟨rfl, rfl⟩ := q60
  show Go B n0 _ h39 44 4120 897 _ [(.int (1 : Int32))]
  refine iIfF C d0_897 (by decide) ?_
  refine iAload C d0_900 rfl rfl ?_
  refine iIload C d0_902 rfl ?_
  refine iIload C d0_904 rfl ?_
  refine iLload C d0_906 rfl ?_
  refine iAload C d0_908 rfl rfl ?_
  refine iBipush C d0_910 (v := (6 : Int32)) (by decide) ?_
  obtain ⟨c61, A61, q61, z61, y61, H61, G61⟩ := id ((HP.ext E38).ext E39)
  refine iLaload C A61 (inb_of z61 ⟨by decide, by decide⟩) (H61.at (inb_of z61 ⟨by decide, by decide⟩) (by rfl)) d0_912 ?_
  refine iBipush C d0_913 (v := (6 : Int32)) (by decide) ?_
  refine iCallS C (rmDg hw O39 S0 hz0 S1 rf (SX.ext (SX.ext HR E38) E39) (by decide) (by omega) (by omega) (by omega) (fun hj => ⟨(hD 6 hj).1, (hD 6 hj).2.trans (own_digx hn (P := 10 ^ 6) (by decide) (p := (1000000 : Int64)) (by decide)).symm⟩)) tw264 tw265 tw231 tw266 ⟨by decide, by decide⟩ (argsL := [(.ref r), (.int (Int32.ofNat (16 + (ds.length) + 12 + 0 + (Jvm.Free.SBG.digitsL n)))), (.int (Int32.ofNat (Jvm.Free.SBG.digitsL n))), (.long (Jvm.Free.SBG.negL n)), (.long (1000000 : Int64)), (.int (6 : Int32))]) (S' := []) (lenOf pd28 rfl) rfl rfl d0_915 rfl (W := 0) rfl ⟨by decide, by decide, rfl, rfl, by decide, by decide⟩ fun v62 h62 q62 => ?_
  obtain ⟨rfl, rfl⟩ := q62
  show Go B n0 _ h39 44 4120 918 _ [(.int (1 : Int32))]
  refine iIfF C d0_918 (by decide) ?_
  refine iAload C d0_921 rfl rfl ?_
  refine iIload C d0_923 rfl ?_
  refine iIload C d0_925 rfl ?_
  refine iLload C d0_927 rfl ?_
  refine iAload C d0_929 rfl rfl ?_
  refine iBipush C d0_931 (v := (7 : Int32)) (by decide) ?_
  obtain ⟨c63, A63, q63, z63, y63, H63, G63⟩ := id ((HP.ext E38).ext E39)
  refine iLaload C A63 (inb_of z63 ⟨by decide, by decide⟩) (H63.at (inb_of z63 ⟨by decide, by decide⟩) (by rfl)) d0_933 ?_
  refine iBipush C d0_934 (v := (7 : Int32)) (by decide) ?_
  refine iCallS C (rmDg hw O39 S0 hz0 S1 rf (SX.ext (SX.ext HR E38) E39) (by decide) (by omega) (by omega) (by omega) (fun hj => ⟨(hD 7 hj).1, (hD 7 hj).2.trans (own_digx hn (P := 10 ^ 7) (by decide) (p := (10000000 : Int64)) (by decide)).symm⟩)) tw264 tw265 tw231 tw266 ⟨by decide, by decide⟩ (argsL := [(.ref r), (.int (Int32.ofNat (16 + (ds.length) + 12 + 0 + (Jvm.Free.SBG.digitsL n)))), (.int (Int32.ofNat (Jvm.Free.SBG.digitsL n))), (.long (Jvm.Free.SBG.negL n)), (.long (10000000 : Int64)), (.int (7 : Int32))]) (S' := []) (lenOf pd28 rfl) rfl rfl d0_936 rfl (W := 0) rfl ⟨by decide, by decide, rfl, rfl, by decide, by decide⟩ fun v64 h64 q64 => ?_
  obtain ⟨rfl, rfl⟩ := q64
  show Go B n0 _ h39 44 4120 939 _ [(.int (1 : Int32))]
  refine iIfF C d0_939 (by decide) ?_
  refine iAload C d0_942 rfl rfl ?_
  refine iIload C d0_944 rfl ?_
  refine iIload C d0_946 rfl ?_
  refine iLload C d0_948 rfl ?_
  refine iAload C d0_950 rfl rfl ?_
  refine iBipush C d0_952 (v := (8 : Int32)) (by decide) ?_
  obtain ⟨c65, A65, q65, z65, y65, H65, G65⟩ := id ((HP.ext E38).ext E39)
  refine iLaload C A65 (inb_of z65 ⟨by decide, by decide⟩) (H65.at (inb_of z65 ⟨by decide, by decide⟩) (by rfl)) d0_954 ?_
  refine iBipush C d0_955 (v := (8 : Int32)) (by decide) ?_
  refine iCallS C (rmDg hw O39 S0 hz0 S1 rf (SX.ext (SX.ext HR E38) E39) (by decide) (by omega) (by omega) (by omega) (fun hj => ⟨(hD 8 hj).1, (hD 8 hj).2.trans (own_digx hn (P := 10 ^ 8) (by decide) (p := (100000000 : Int64)) (by decide)).symm⟩)) tw264 tw265 tw231 tw266 ⟨by decide, by decide⟩ (argsL := [(.ref r), (.int (Int32.ofNat (16 + (ds.length) + 12 + 0 + (Jvm.Free.SBG.digitsL n)))), (.int (Int32.ofNat (Jvm.Free.SBG.digitsL n))), (.long (Jvm.Free.SBG.negL n)), (.long (100000000 : Int64)), (.int (8 : Int32))]) (S' := []) (lenOf pd28 rfl) rfl rfl d0_957 rfl (W := 0) rfl ⟨by decide, by decide, rfl, rfl, by decide, by decide⟩ fun v66 h66 q66 => ?_
  obtain ⟨rfl, rfl⟩ := q66
  show Go B n0 _ h39 44 4120 960 _ [(.int (1 : Int32))]
  refine iIfF C d0_960 (by decide) ?_
  refine iAload C d0_963 rfl rfl ?_
  refine iIload C d0_965 rfl ?_
  refine iIload C d0_967 rfl ?_
  refine iLload C d0_969 rfl ?_
  refine iAload C d0_971 rfl rfl ?_
  refine iBipush C d0_973 (v := (9 : Int32)) (by decide) ?_
  obtain ⟨c67, A67, q67, z67, y67, H67, G67⟩ := id ((HP.ext E38).ext E39)
  refine iLaload C A67 (inb_of z67 ⟨by decide, by decide⟩) (H67.at (inb_of z67 ⟨by decide, by decide⟩) (by rfl)) d0_975 ?_
  refine iBipush C d0_976 (v := (9 : Int32)) (by decide) ?_
  refine iCallS C (rmDg hw O39 S0 hz0 S1 rf (SX.ext (SX.ext HR E38) E39) (by decide) (by omega) (by omega) (by omega) (fun hj => ⟨(hD 9 hj).1, (hD 9 hj).2.trans (own_digx hn (P := 10 ^ 9) (by decide) (p := (1000000000 : Int64)) (by decide)).symm⟩)) tw264 tw265 tw231 tw266 ⟨by decide, by decide⟩ (argsL := [(.ref r), (.int (Int32.ofNat (16 + (ds.length) + 12 + 0 + (Jvm.Free.SBG.digitsL n)))), (.int (Int32.ofNat (Jvm.Free.SBG.digitsL n))), (.long (Jvm.Free.SBG.negL n)), (.long (1000000000 : Int64)), (.int (9 : Int32))]) (S' := []) (lenOf pd28 rfl) rfl rfl d0_978 rfl (W := 0) rfl ⟨by decide, by decide, rfl, rfl, by decide, by decide⟩ fun v68 h68 q68 => ?_
  obtain ⟨rfl, rfl⟩ := q68
  show Go B n0 _ h39 44 4120 981 _ [(.int (1 : Int32))]
  refine iIfF C d0_981 (by decide) ?_
  refine iAload C d0_984 rfl rfl ?_
  refine iIload C d0_986 rfl ?_
  refine iIload C d0_988 rfl ?_
  refine iLload C d0_990 rfl ?_
  refine iAload C d0_992 rfl rfl ?_
  refine iBipush C d0_994 (v := (10 : Int32)) (by decide) ?_
  obtain ⟨c69, A69, q69, z69, y69, H69, G69⟩ := id ((HP.ext E38).ext E39)
  refine iLaload C A69 (inb_of z69 ⟨by decide, by decide⟩) (H69.at (inb_of z69 ⟨by decide, by decide⟩) (by rfl)) d0_996 ?_
  refine iBipush C d0_997 (v := (10 : Int32)) (by decide) ?_
  refine iCallS C (rmDg hw O39 S0 hz0 S1 rf (SX.ext (SX.ext HR E38) E39) (by decide) (by omega) (by omega) (by omega) (fun hj => ⟨(hD 10 hj).1, (hD 10 hj).2.trans (own_digx hn (P := 10 ^ 10) (by decide) (p := (10000000000 : Int64)) (by decide)).symm⟩)) tw264 tw265 tw231 tw266 ⟨by decide, by decide⟩ (argsL := [(.ref r), (.int (Int32.ofNat (16 + (ds.length) + 12 + 0 + (Jvm.Free.SBG.digitsL n)))), (.int (Int32.ofNat (Jvm.Free.SBG.digitsL n))), (.long (Jvm.Free.SBG.negL n)), (.long (10000000000 : Int64)), (.int (10 : Int32))]) (S' := []) (lenOf pd28 rfl) rfl rfl d0_999 rfl (W := 0) rfl ⟨by decide, by decide, rfl, rfl, by decide, by decide⟩ fun v70 h70 q70 => ?_
  obtain ⟨rfl, rfl⟩ := q70
  show Go B n0 _ h39 44 4120 1002 _ [(.int (1 : Int32))]
  refine iIfF C d0_1002 (by decide) ?_
  refine iAload C d0_1005 rfl rfl ?_
  refine iIload C d0_1007 rfl ?_
  refine iIload C d0_1009 rfl ?_
  refine iLload C d0_1011 rfl ?_
  refine iAload C d0_1013 rfl rfl ?_
  refine iBipush C d0_1015 (v := (11 : Int32)) (by decide) ?_
  obtain ⟨c71, A71, q71, z71, y71, H71, G71⟩ := id ((HP.ext E38).ext E39)
  refine iLaload C A71 (inb_of z71 ⟨by decide, by decide⟩) (H71.at (inb_of z71 ⟨by decide, by decide⟩) (by rfl)) d0_1017 ?_
  refine iBipush C d0_1018 (v := (11 : Int32)) (by decide) ?_
  refine iCallS C (rmDg hw O39 S0 hz0 S1 rf (SX.ext (SX.ext HR E38) E39) (by decide) (by omega) (by omega) (by omega) (fun hj => ⟨(hD 11 hj).1, (hD 11 hj).2.trans (own_digx hn (P := 10 ^ 11) (by decide) (p := (100000000000 : Int64)) (by decide)).symm⟩)) tw264 tw265 tw231 tw266 ⟨by decide, by decide⟩ (argsL := [(.ref r), (.int (Int32.ofNat (16 + (ds.length) + 12 + 0 + (Jvm.Free.SBG.digitsL n)))), (.int (Int32.ofNat (Jvm.Free.SBG.digitsL n))), (.long (Jvm.Free.SBG.negL n)), (.long (100000000000 : Int64)), (.int (11 : Int32))]) (S' := []) (lenOf pd28 rfl) rfl rfl d0_1020 rfl (W := 0) rfl ⟨by decide, by decide, rfl, rfl, by decide, by decide⟩ fun v72 h72 q72 => ?_
  obtain ⟨rfl, rfl⟩ := q72
  show Go B n0 _ h39 44 4120 1023 _ [(.int (1 : Int32))]
  refine iIfF C d0_1023 (by decide) ?_
  refine iAload C d0_1026 rfl rfl ?_
  refine iIload C d0_1028 rfl ?_
  refine iIload C d0_1030 rfl ?_
  refine iLload C d0_1032 rfl ?_
  refine iAload C d0_1034 rfl rfl ?_
  refine iBipush C d0_1036 (v := (12 : Int32)) (by decide) ?_
  obtain ⟨c73, A73, q73, z73, y73, H73, G73⟩ := id ((HP.ext E38).ext E39)
  refine iLaload C A73 (inb_of z73 ⟨by decide, by decide⟩) (H73.at (inb_of z73 ⟨by decide, by decide⟩) (by rfl)) d0_1038 ?_
  refine iBipush C d0_1039 (v := (12 : Int32)) (by decide) ?_
  refine iCallS C (rmDg hw O39 S0 hz0 S1 rf (SX.ext (SX.ext HR E38) E39) (by decide) (by omega) (by omega) (by omega) (fun hj => ⟨(hD 12 hj).1, (hD 12 hj).2.trans (own_digx hn (P := 10 ^ 12) (by decide) (p := (1000000000000 : Int64)) (by decide)).symm⟩)) tw264 tw265 tw231 tw266 ⟨by decide, by decide⟩ (argsL := [(.ref r), (.int (Int32.ofNat (16 + (ds.length) + 12 + 0 + (Jvm.Free.SBG.digitsL n)))), (.int (Int32.ofNat (Jvm.Free.SBG.digitsL n))), (.long (Jvm.Free.SBG.negL n)), (.long (1000000000000 : Int64)), (.int (12 : Int32))]) (S' := []) (lenOf pd28 rfl) rfl rfl d0_1041 rfl (W := 0) rfl ⟨by decide, by decide, rfl, rfl, by decide, by decide⟩ fun v74 h74 q74 => ?_
  obtain ⟨rfl, rfl⟩ := q74
  show Go B n0 _ h39 44 4120 1044 _ [(.int (1 : Int32))]
  refine iIfF C d0_1044 (by decide) ?_
  refine iAload C d0_1047 rfl rfl ?_
  refine iIload C d0_1049 rfl ?_
  refine iIload C d0_1051 rfl ?_
  refine iLload C d0_1053 rfl ?_
  refine iAload C d0_1055 rfl rfl ?_
  refine iBipush C d0_1057 (v := (13 : Int32)) (by decide) ?_
  obtain ⟨c75, A75, q75, z75, y75, H75, G75⟩ := id ((HP.ext E38).ext E39)
  refine iLaload C A75 (inb_of z75 ⟨by decide, by decide⟩) (H75.at (inb_of z75 ⟨by decide, by decide⟩) (by rfl)) d0_1059 ?_
  refine iBipush C d0_1060 (v := (13 : Int32)) (by decide) ?_
  refine iCallS C (rmDg hw O39 S0 hz0 S1 rf (SX.ext (SX.ext HR E38) E39) (by decide) (by omega) (by omega) (by omega) (fun hj => ⟨(hD 13 hj).1, (hD 13 hj).2.trans (own_digx hn (P := 10 ^ 13) (by decide) (p := (10000000000000 : Int64)) (by decide)).symm⟩)) tw264 tw265 tw231 tw266 ⟨by decide, by decide⟩ (argsL := [(.ref r), (.int (Int32.ofNat (16 + (ds.length) + 12 + 0 + (Jvm.Free.SBG.digitsL n)))), (.int (Int32.ofNat (Jvm.Free.SBG.digitsL n))), (.long (Jvm.Free.SBG.negL n)), (.long (10000000000000 : Int64)), (.int (13 : Int32))]) (S' := []) (lenOf pd28 rfl) rfl rfl d0_1062 rfl (W := 0) rfl ⟨by decide, by decide, rfl, rfl, by decide, by decide⟩ fun v76 h76 q76 => ?_
  obtain ⟨rfl, rfl⟩ := q76
  show Go B n0 _ h39 44 4120 1065 _ [(.int (1 : Int32))]
  refine iIfF C d0_1065 (by decide) ?_
  refine iAload C d0_1068 rfl rfl ?_
  refine iIload C d0_1070 rfl ?_
  refine iIload C d0_1072 rfl ?_
  refine iLload C d0_1074 rfl ?_
  refine iAload C d0_1076 rfl rfl ?_
  refine iBipush C d0_1078 (v := (14 : Int32)) (by decide) ?_
  obtain ⟨c77, A77, q77, z77, y77, H77, G77⟩ := id ((HP.ext E38).ext E39)
  refine iLaload C A77 (inb_of z77 ⟨by decide, by decide⟩) (H77.at (inb_of z77 ⟨by decide, by decide⟩) (by rfl)) d0_1080 ?_
  refine iBipush C d0_1081 (v := (14 : Int32)) (by decide) ?_
  refine iCallS C (rmDg hw O39 S0 hz0 S1 rf (SX.ext (SX.ext HR E38) E39) (by decide) (by omega) (by omega) (by omega) (fun hj => ⟨(hD 14 hj).1, (hD 14 hj).2.trans (own_digx hn (P := 10 ^ 14) (by decide) (p := (100000000000000 : Int64)) (by decide)).symm⟩)) tw264 tw265 tw231 tw266 ⟨by decide, by decide⟩ (argsL := [(.ref r), (.int (Int32.ofNat (16 + (ds.length) + 12 + 0 + (Jvm.Free.SBG.digitsL n)))), (.int (Int32.ofNat (Jvm.Free.SBG.digitsL n))), (.long (Jvm.Free.SBG.negL n)), (.long (100000000000000 : Int64)), (.int (14 : Int32))]) (S' := []) (lenOf pd28 rfl) rfl rfl d0_1083 rfl (W := 0) rfl ⟨by decide, by decide, rfl, rfl, by decide, by decide⟩ fun v78 h78 q78 => ?_
  obtain ⟨rfl, rfl⟩ := q78
  show Go B n0 _ h39 44 4120 1086 _ [(.int (1 : Int32))]
  refine iIfF C d0_1086 (by decide) ?_
  refine iAload C d0_1089 rfl rfl ?_
  refine iIload C d0_1091 rfl ?_
  refine iIload C d0_1093 rfl ?_
  refine iLload C d0_1095 rfl ?_
  refine iAload C d0_1097 rfl rfl ?_
  refine iBipush C d0_1099 (v := (15 : Int32)) (by decide) ?_
  obtain ⟨c79, A79, q79, z79, y79, H79, G79⟩ := id ((HP.ext E38).ext E39)
  refine iLaload C A79 (inb_of z79 ⟨by decide, by decide⟩) (H79.at (inb_of z79 ⟨by decide, by decide⟩) (by rfl)) d0_1101 ?_
  refine iBipush C d0_1102 (v := (15 : Int32)) (by decide) ?_
  refine iCallS C (rmDg hw O39 S0 hz0 S1 rf (SX.ext (SX.ext HR E38) E39) (by decide) (by omega) (by omega) (by omega) (fun hj => ⟨(hD 15 hj).1, (hD 15 hj).2.trans (own_digx hn (P := 10 ^ 15) (by decide) (p := (1000000000000000 : Int64)) (by decide)).symm⟩)) tw264 tw265 tw231 tw266 ⟨by decide, by decide⟩ (argsL := [(.ref r), (.int (Int32.ofNat (16 + (ds.length) + 12 + 0 + (Jvm.Free.SBG.digitsL n)))), (.int (Int32.ofNat (Jvm.Free.SBG.digitsL n))), (.long (Jvm.Free.SBG.negL n)), (.long (1000000000000000 : Int64)), (.int (15 : Int32))]) (S' := []) (lenOf pd28 rfl) rfl rfl d0_1104 rfl (W := 0) rfl ⟨by decide, by decide, rfl, rfl, by decide, by decide⟩ fun v80 h80 q80 => ?_
  obtain ⟨rfl, rfl⟩ := q80
  show Go B n0 _ h39 44 4120 1107 _ [(.int (1 : Int32))]
  refine iIfF C d0_1107 (by decide) ?_
  refine iAload C d0_1110 rfl rfl ?_
  refine iIload C d0_1112 rfl ?_
  refine iIload C d0_1114 rfl ?_
  refine iLload C d0_1116 rfl ?_
  refine iAload C d0_1118 rfl rfl ?_
  refine iBipush C d0_1120 (v := (16 : Int32)) (by decide) ?_
  obtain ⟨c81, A81, q81, z81, y81, H81, G81⟩ := id ((HP.ext E38).ext E39)
  refine iLaload C A81 (inb_of z81 ⟨by decide, by decide⟩) (H81.at (inb_of z81 ⟨by decide, by decide⟩) (by rfl)) d0_1122 ?_
  refine iBipush C d0_1123 (v := (16 : Int32)) (by decide) ?_
  refine iCallS C (rmDg hw O39 S0 hz0 S1 rf (SX.ext (SX.ext HR E38) E39) (by decide) (by omega) (by omega) (by omega) (fun hj => ⟨(hD 16 hj).1, (hD 16 hj).2.trans (own_digx hn (P := 10 ^ 16) (by decide) (p := (10000000000000000 : Int64)) (by decide)).symm⟩)) tw264 tw265 tw231 tw266 ⟨by decide, by decide⟩ (argsL := [(.ref r), (.int (Int32.ofNat (16 + (ds.length) + 12 + 0 + (Jvm.Free.SBG.digitsL n)))), (.int (Int32.ofNat (Jvm.Free.SBG.digitsL n))), (.long (Jvm.Free.SBG.negL n)), (.long (10000000000000000 : Int64)), (.int (16 : Int32))]) (S' := []) (lenOf pd28 rfl) rfl rfl d0_1125 rfl (W := 0) rfl ⟨by decide, by decide, rfl, rfl, by decide, by decide⟩ fun v82 h82 q82 => ?_
  obtain ⟨rfl, rfl⟩ := q82
  show Go B n0 _ h39 44 4120 1128 _ [(.int (1 : Int32))]
  refine iIfF C d0_1128 (by decide) ?_
  refine iAload C d0_1131 rfl rfl ?_
  refine iIload C d0_1133 rfl ?_
  refine iIload C d0_1135 rfl ?_
  refine iLload C d0_1137 rfl ?_
  refine iAload C d0_1139 rfl rfl ?_
  refine iBipush C d0_1141 (v := (17 : Int32)) (by decide) ?_
  obtain ⟨c83, A83, q83, z83, y83, H83, G83⟩ := id ((HP.ext E38).ext E39)
  refine iLaload C A83 (inb_of z83 ⟨by decide, by decide⟩) (H83.at (inb_of z83 ⟨by decide, by decide⟩) (by rfl)) d0_1143 ?_
  refine iBipush C d0_1144 (v := (17 : Int32)) (by decide) ?_
  refine iCallS C (rmDg hw O39 S0 hz0 S1 rf (SX.ext (SX.ext HR E38) E39) (by decide) (by omega) (by omega) (by omega) (fun hj => ⟨(hD 17 hj).1, (hD 17 hj).2.trans (own_digx hn (P := 10 ^ 17) (by decide) (p := (100000000000000000 : Int64)) (by decide)).symm⟩)) tw264 tw265 tw231 tw266 ⟨by decide, by decide⟩ (argsL := [(.ref r), (.int (Int32.ofNat (16 + (ds.length) + 12 + 0 + (Jvm.Free.SBG.digitsL n)))), (.int (Int32.ofNat (Jvm.Free.SBG.digitsL n))), (.long (Jvm.Free.SBG.negL n)), (.long (100000000000000000 : Int64)), (.int (17 : Int32))]) (S' := []) (lenOf pd28 rfl) rfl rfl d0_1146 rfl (W := 0) rfl ⟨by decide, by decide, rfl, rfl, by decide, by decide⟩ fun v84 h84 q84 => ?_
  obtain ⟨rfl, rfl⟩ := q84
  show Go B n0 _ h39 44 4120 1149 _ [(.int (1 : Int32))]
  refine iIfF C d0_1149 (by decide) ?_
  refine iAload C d0_1152 rfl rfl ?_
  refine iIload C d0_1154 rfl ?_
  refine iIload C d0_1156 rfl ?_
  refine iLload C d0_1158 rfl ?_
  refine iAload C d0_1160 rfl rfl ?_
  refine iBipush C d0_1162 (v := (18 : Int32)) (by decide) ?_
  obtain ⟨c85, A85, q85, z85, y85, H85, G85⟩ := id ((HP.ext E38).ext E39)
  refine iLaload C A85 (inb_of z85 ⟨by decide, by decide⟩) (H85.at (inb_of z85 ⟨by decide, by decide⟩) (by rfl)) d0_1164 ?_
  refine iBipush C d0_1165 (v := (18 : Int32)) (by decide) ?_
  refine iCallS C (rmDg hw O39 S0 hz0 S1 rf (SX.ext (SX.ext HR E38) E39) (by decide) (by omega) (by omega) (by omega) (fun hj => ⟨(hD 18 hj).1, (hD 18 hj).2.trans (own_digx hn (P := 10 ^ 18) (by decide) (p := (1000000000000000000 : Int64)) (by decide)).symm⟩)) tw264 tw265 tw231 tw266 ⟨by decide, by decide⟩ (argsL := [(.ref r), (.int (Int32.ofNat (16 + (ds.length) + 12 + 0 + (Jvm.Free.SBG.digitsL n)))), (.int (Int32.ofNat (Jvm.Free.SBG.digitsL n))), (.long (Jvm.Free.SBG.negL n)), (.long (1000000000000000000 : Int64)), (.int (18 : Int32))]) (S' := []) (lenOf pd28 rfl) rfl rfl d0_1167 rfl (W := 0) rfl ⟨by decide, by decide, rfl, rfl, by decide, by decide⟩ fun v86 h86 q86 => ?_
  obtain ⟨rfl, rfl⟩ := q86
  show Go B n0 _ h39 44 4120 1170 _ [(.int (1 : Int32))]
  refine iIfF C d0_1170 (by decide) ?_
  refine iIconst C d0_1173 (v := (1 : Int32)) (by decide) ?_
  refine iGoto C (t := 1178) d0_1174 ⟨by decide, by decide⟩ ?_
  refine iIstore C d0_1178 (Ls' := #[(.val (.int i0)), (.val (.int i1)), (.val (.int i2)), (.val (.long xl)), .second, (.val (.int (Int32.ofNat (ds.length)))), (.val (.int cc0)), (.val (.int cc1)), (.val (.int cc2)), (.val (.ref na)), (.val (.ref s)), (.val (.ref tx)), (.val (.ref r)), (.val (.ref pa)), (.val (.int (0 : Int32))), (.val (.long (Jvm.Free.SBG.negL n))), .second, (.val (.int (Int32.ofNat (Jvm.Free.SBG.digitsL n)))), (.val (.int (0 : Int32))), (.val (.int (Int32.ofNat (16 + (ds.length) + 12)))), (.val (.int (Int32.ofNat (16 + (ds.length) + 12 + 0 + (Jvm.Free.SBG.digitsL n))))), (.val (.ref a38)), (.val (.ref a39)), (.val (.int (1 : Int32)))]) rfl ?_
  refine iIload C d0_1180 rfl ?_
  refine iRetZC C D HC39 d0_1182 (by simp) ⟨Nat.le_refl _, by decide, by decide⟩ ?_
  exact rfl
set_option maxRecDepth 65536 in
set_option maxHeartbeats 4000000 in
theorem TC1 {l : Launch} {Z : State} {a0 : Array Value} (hw : ∀ d ∈ tables_1, d.before a0 Z = true) {n0 : Nat} {h0 hS : Heap} {vmS : Vm} {i0 i1 i2 cc0 cc1 cc2 : Int32} {xl xx : Int64} {n : Nat} {na s tx r pa t t2 : Addr} {k k2 kp : ClassId} {ds : List Int32} (O : Old Z n0 h0) {z0 : Int32} (S0 : Sta Z Z.heap "java/lang/String" "COMPACT_STRINGS" "Z" (.int z0)) (hz0 : ¬ z0 = 0) {fm : Value} (S1 : Sta Z Z.heap "jdk/internal/util/Preconditions" "SIOOBE_FORMATTER" "Ljava/util/function/BiFunction;" fm) (rf : fm.isRef = true) (HR : SX Z h0 r t k (TXT ds xx n)) (HN : SX Z h0 s t2 k2 ds) (hds : ds.length ≤ 3) (hn : n ≤ 2 ^ 63) (HP : Arv Z h0 pa kp .long (19 : Int32) [(.long (1 : Int64)), (.long (10 : Int64)), (.long (100 : Int64)), (.long (1000 : Int64)), (.long (10000 : Int64)), (.long (100000 : Int64)), (.long (1000000 : Int64)), (.long (10000000 : Int64)), (.long (100000000 : Int64)), (.long (1000000000 : Int64)), (.long (10000000000 : Int64)), (.long (100000000000 : Int64)), (.long (1000000000000 : Int64)), (.long (10000000000000 : Int64)), (.long (100000000000000 : Int64)), (.long (1000000000000000 : Int64)), (.long (10000000000000000 : Int64)), (.long (100000000000000000 : Int64)), (.long (1000000000000000000 : Int64))] (.long 0)) (hsg : Jvm.Free.SBG.GetCharsL.sgnL xx = 1) (hneg : xx < 0) {B : Bx} (C : Cx B l Z a0 room_1 x code maxLocals ret n0) (D : Wc B Z a0 EL vmS hS n0) (HC : Chx B Z EL vmS hS h0) :
    Go B n0 (fun v _ => v = some (.int 1)) h0 40 4000 330 #[(.val (.int i0)), (.val (.int i1)), (.val (.int i2)), (.val (.long xl)), .second, (.val (.int (Int32.ofNat (ds.length)))), (.val (.int cc0)), (.val (.int cc1)), (.val (.int cc2)), (.val (.ref na)), (.val (.ref s)), (.val (.ref tx)), (.val (.ref r)), (.val (.ref pa)), (.val (.int (1 : Int32))), (.val (.long (Jvm.Free.SBG.negL n))), .second, .unset, .unset, .unset, .unset, .unset, .unset, .unset] [] := by
  have hTL := TXT_len ds xx n
  have hEn := TXT_end ds xx n
  have hD := TXT_dig ds xx n
  rw [hsg] at hTL hEn
  rw [hsg] at hD
  have hdp := Jvm.Free.SBG.digitsL_pos n
  have hSg := TXT_sign ds xx n hneg
  refine iIconst C d0_330 (v := (1 : Int32)) (by decide) ?_
  refine iLload C d0_331 rfl ?_
  refine iAload C d0_333 rfl rfl ?_
  refine iIconst C d0_335 (v := (1 : Int32)) (by decide) ?_
  obtain ⟨c1, A1, q1, z1, y1, H1, G1⟩ := id HP
  refine iLaload C A1 (inb_of z1 ⟨by decide, by decide⟩) (H1.at (inb_of z1 ⟨by decide, by decide⟩) (by rfl)) d0_336 ?_
  refine iCallS C (rmGe hw) tw229 tw230 tw231 tw232 ⟨by decide, by decide⟩ (argsL := [(.long (Jvm.Free.SBG.negL n)), (.long (10 : Int64))]) (S' := [(.int (1 : Int32))]) (lenOf pd27 rfl) rfl rfl d0_337 rfl (W := 1) rfl ⟨by decide, by decide, rfl, rfl, by decide, by decide⟩ fun v2 h2 q2 => ?_
  obtain ⟨rfl, rfl⟩ := q2
  rw [own_ge hn (p := (10 : Int64)) (P := 10) (by decide)]
  show Go B n0 _ h0 40 4000 340 _ [(.int (Int32.ofNat (gg n 10))), (.int (1 : Int32))]
  refine iIadd C d0_340 (v := (Int32.ofNat (1 + (gg n 10)))) (own_add (1) (gg n 10)) ?_
  refine iLload C d0_341 rfl ?_
  refine iAload C d0_343 rfl rfl ?_
  refine iIconst C d0_345 (v := (2 : Int32)) (by decide) ?_
  obtain ⟨c3, A3, q3, z3, y3, H3, G3⟩ := id HP
  refine iLaload C A3 (inb_of z3 ⟨by decide, by decide⟩) (H3.at (inb_of z3 ⟨by decide, by decide⟩) (by rfl)) d0_346 ?_
  refine iCallS C (rmGe hw) tw229 tw230 tw231 tw232 ⟨by decide, by decide⟩ (argsL := [(.long (Jvm.Free.SBG.negL n)), (.long (100 : Int64))]) (S' := [(.int (Int32.ofNat (1 + (gg n 10))))]) (lenOf pd27 rfl) rfl rfl d0_347 rfl (W := 1) rfl ⟨by decide, by decide, rfl, rfl, by decide, by decide⟩ fun v4 h4 q4 => ?_
  obtain ⟨rfl, rfl⟩ := q4
  rw [own_ge hn (p := (100 : Int64)) (P := 100) (by decide)]
  show Go B n0 _ h0 40 4000 350 _ [(.int (Int32.ofNat (gg n 100))), (.int (Int32.ofNat (1 + (gg n 10))))]
  refine iIadd C d0_350 (v := (Int32.ofNat (1 + (gg n 10) + (gg n 100)))) (own_add (1 + (gg n 10)) (gg n 100)) ?_
  refine iLload C d0_351 rfl ?_
  refine iAload C d0_353 rfl rfl ?_
  refine iIconst C d0_355 (v := (3 : Int32)) (by decide) ?_
  obtain ⟨c5, A5, q5, z5, y5, H5, G5⟩ := id HP
  refine iLaload C A5 (inb_of z5 ⟨by decide, by decide⟩) (H5.at (inb_of z5 ⟨by decide, by decide⟩) (by rfl)) d0_356 ?_
  refine iCallS C (rmGe hw) tw229 tw230 tw231 tw232 ⟨by decide, by decide⟩ (argsL := [(.long (Jvm.Free.SBG.negL n)), (.long (1000 : Int64))]) (S' := [(.int (Int32.ofNat (1 + (gg n 10) + (gg n 100))))]) (lenOf pd27 rfl) rfl rfl d0_357 rfl (W := 1) rfl ⟨by decide, by decide, rfl, rfl, by decide, by decide⟩ fun v6 h6 q6 => ?_
  obtain ⟨rfl, rfl⟩ := q6
  rw [own_ge hn (p := (1000 : Int64)) (P := 1000) (by decide)]
  show Go B n0 _ h0 40 4000 360 _ [(.int (Int32.ofNat (gg n 1000))), (.int (Int32.ofNat (1 + (gg n 10) + (gg n 100))))]
  refine iIadd C d0_360 (v := (Int32.ofNat (1 + (gg n 10) + (gg n 100) + (gg n 1000)))) (own_add (1 + (gg n 10) + (gg n 100)) (gg n 1000)) ?_
  refine iLload C d0_361 rfl ?_
  refine iAload C d0_363 rfl rfl ?_
  refine iIconst C d0_365 (v := (4 : Int32)) (by decide) ?_
  obtain ⟨c7, A7, q7, z7, y7, H7, G7⟩ := id HP
  refine iLaload C A7 (inb_of z7 ⟨by decide, by decide⟩) (H7.at (inb_of z7 ⟨by decide, by decide⟩) (by rfl)) d0_366 ?_
  refine iCallS C (rmGe hw) tw229 tw230 tw231 tw232 ⟨by decide, by decide⟩ (argsL := [(.long (Jvm.Free.SBG.negL n)), (.long (10000 : Int64))]) (S' := [(.int (Int32.ofNat (1 + (gg n 10) + (gg n 100) + (gg n 1000))))]) (lenOf pd27 rfl) rfl rfl d0_367 rfl (W := 1) rfl ⟨by decide, by decide, rfl, rfl, by decide, by decide⟩ fun v8 h8 q8 => ?_
  obtain ⟨rfl, rfl⟩ := q8
  rw [own_ge hn (p := (10000 : Int64)) (P := 10000) (by decide)]
  show Go B n0 _ h0 40 4000 370 _ [(.int (Int32.ofNat (gg n 10000))), (.int (Int32.ofNat (1 + (gg n 10) + (gg n 100) + (gg n 1000))))]
  refine iIadd C d0_370 (v := (Int32.ofNat (1 + (gg n 10) + (gg n 100) + (gg n 1000) + (gg n 10000)))) (own_add (1 + (gg n 10) + (gg n 100) + (gg n 1000)) (gg n 10000)) ?_
  refine iLload C d0_371 rfl ?_
  refine iAload C d0_373 rfl rfl ?_
  refine iIconst C d0_375 (v := (5 : Int32)) (by decide) ?_
  obtain ⟨c9, A9, q9, z9, y9, H9, G9⟩ := id HP
  refine iLaload C A9 (inb_of z9 ⟨by decide, by decide⟩) (H9.at (inb_of z9 ⟨by decide, by decide⟩) (by rfl)) d0_376 ?_
  refine iCallS C (rmGe hw) tw229 tw230 tw231 tw232 ⟨by decide, by decide⟩ (argsL := [(.long (Jvm.Free.SBG.negL n)), (.long (100000 : Int64))]) (S' := [(.int (Int32.ofNat (1 + (gg n 10) + (gg n 100) + (gg n 1000) + (gg n 10000))))]) (lenOf pd27 rfl) rfl rfl d0_377 rfl (W := 1) rfl ⟨by decide, by decide, rfl, rfl, by decide, by decide⟩ fun v10 h10 q10 => ?_
  obtain ⟨rfl, rfl⟩ := q10
  rw [own_ge hn (p := (100000 : Int64)) (P := 100000) (by decide)]
  show Go B n0 _ h0 40 4000 380 _ [(.int (Int32.ofNat (gg n 100000))), (.int (Int32.ofNat (1 + (gg n 10) + (gg n 100) + (gg n 1000) + (gg n 10000))))]
  refine iIadd C d0_380 (v := (Int32.ofNat (1 + (gg n 10) + (gg n 100) + (gg n 1000) + (gg n 10000) + (gg n 100000)))) (own_add (1 + (gg n 10) + (gg n 100) + (gg n 1000) + (gg n 10000)) (gg n 100000)) ?_
  refine iLload C d0_381 rfl ?_
  refine iAload C d0_383 rfl rfl ?_
  refine iBipush C d0_385 (v := (6 : Int32)) (by decide) ?_
  obtain ⟨c11, A11, q11, z11, y11, H11, G11⟩ := id HP
  refine iLaload C A11 (inb_of z11 ⟨by decide, by decide⟩) (H11.at (inb_of z11 ⟨by decide, by decide⟩) (by rfl)) d0_387 ?_
  refine iCallS C (rmGe hw) tw229 tw230 tw231 tw232 ⟨by decide, by decide⟩ (argsL := [(.long (Jvm.Free.SBG.negL n)), (.long (1000000 : Int64))]) (S' := [(.int (Int32.ofNat (1 + (gg n 10) + (gg n 100) + (gg n 1000) + (gg n 10000) + (gg n 100000))))]) (lenOf pd27 rfl) rfl rfl d0_388 rfl (W := 1) rfl ⟨by decide, by decide, rfl, rfl, by decide, by decide⟩ fun v12 h12 q12 => ?_
  obtain ⟨rfl, rfl⟩ := q12
  rw [own_ge hn (p := (1000000 : Int64)) (P := 1000000) (by decide)]
  show Go B n0 _ h0 40 4000 391 _ [(.int (Int32.ofNat (gg n 1000000))), (.int (Int32.ofNat (1 + (gg n 10) + (gg n 100) + (gg n 1000) + (gg n 10000) + (gg n 100000))))]
  refine iIadd C d0_391 (v := (Int32.ofNat (1 + (gg n 10) + (gg n 100) + (gg n 1000) + (gg n 10000) + (gg n 100000) + (gg n 1000000)))) (own_add (1 + (gg n 10) + (gg n 100) + (gg n 1000) + (gg n 10000) + (gg n 100000)) (gg n 1000000)) ?_
  refine iLload C d0_392 rfl ?_
  refine iAload C d0_394 rfl rfl ?_
  refine iBipush C d0_396 (v := (7 : Int32)) (by decide) ?_
  obtain ⟨c13, A13, q13, z13, y13, H13, G13⟩ := id HP
  refine iLaload C A13 (inb_of z13 ⟨by decide, by decide⟩) (H13.at (inb_of z13 ⟨by decide, by decide⟩) (by rfl)) d0_398 ?_
  refine iCallS C (rmGe hw) tw229 tw230 tw231 tw232 ⟨by decide, by decide⟩ (argsL := [(.long (Jvm.Free.SBG.negL n)), (.long (10000000 : Int64))]) (S' := [(.int (Int32.ofNat (1 + (gg n 10) + (gg n 100) + (gg n 1000) + (gg n 10000) + (gg n 100000) + (gg n 1000000))))]) (lenOf pd27 rfl) rfl rfl d0_399 rfl (W := 1) rfl ⟨by decide, by decide, rfl, rfl, by decide, by decide⟩ fun v14 h14 q14 => ?_
  obtain ⟨rfl, rfl⟩ := q14
  rw [own_ge hn (p := (10000000 : Int64)) (P := 10000000) (by decide)]
  show Go B n0 _ h0 40 4000 402 _ [(.int (Int32.ofNat (gg n 10000000))), (.int (Int32.ofNat (1 + (gg n 10) + (gg n 100) + (gg n 1000) + (gg n 10000) + (gg n 100000) + (gg n 1000000))))]
  refine iIadd C d0_402 (v := (Int32.ofNat (1 + (gg n 10) + (gg n 100) + (gg n 1000) + (gg n 10000) + (gg n 100000) + (gg n 1000000) + (gg n 10000000)))) (own_add (1 + (gg n 10) + (gg n 100) + (gg n 1000) + (gg n 10000) + (gg n 100000) + (gg n 1000000)) (gg n 10000000)) ?_
  refine iLload C d0_403 rfl ?_
  refine iAload C d0_405 rfl rfl ?_
  refine iBipush C d0_407 (v := (8 : Int32)) (by decide) ?_
  obtain ⟨c15, A15, q15, z15, y15, H15, G15⟩ := id HP
  refine iLaload C A15 (inb_of z15 ⟨by decide, by decide⟩) (H15.at (inb_of z15 ⟨by decide, by decide⟩) (by rfl)) d0_409 ?_
  refine iCallS C (rmGe hw) tw229 tw230 tw231 tw232 ⟨by decide, by decide⟩ (argsL := [(.long (Jvm.Free.SBG.negL n)), (.long (100000000 : Int64))]) (S' := [(.int (Int32.ofNat (1 + (gg n 10) + (gg n 100) + (gg n 1000) + (gg n 10000) + (gg n 100000) + (gg n 1000000) + (gg n 10000000))))]) (lenOf pd27 rfl) rfl rfl d0_410 rfl (W := 1) rfl ⟨by decide, by decide, rfl, rfl, by decide, by decide⟩ fun v16 h16 q16 => ?_
  obtain ⟨rfl, rfl⟩ := q16
  rw [own_ge hn (p := (100000000 : Int64)) (P := 100000000) (by decide)]
  show Go B n0 _ h0 40 4000 413 _ [(.int (Int32.ofNat (gg n 100000000))), (.int (Int32.ofNat (1 + (gg n 10) + (gg n 100) + (gg n 1000) + (gg n 10000) + (gg n 100000) + (gg n 1000000) + (gg n 10000000))))]
  refine iIadd C d0_413 (v := (Int32.ofNat (1 + (gg n 10) + (gg n 100) + (gg n 1000) + (gg n 10000) + (gg n 100000) + (gg n 1000000) + (gg n 10000000) + (gg n 100000000)))) (own_add (1 + (gg n 10) + (gg n 100) + (gg n 1000) + (gg n 10000) + (gg n 100000) + (gg n 1000000) + (gg n 10000000)) (gg n 100000000)) ?_
  refine iLload C d0_414 rfl ?_
  refine iAload C d0_416 rfl rfl ?_
  refine iBipush C d0_418 (v := (9 : Int32)) (by decide) ?_
  obtain ⟨c17, A17, q17, z17, y17, H17, G17⟩ := id HP
  refine iLaload C A17 (inb_of z17 ⟨by decide, by decide⟩) (H17.at (inb_of z17 ⟨by decide, by decide⟩) (by rfl)) d0_420 ?_
  refine iCallS C (rmGe hw) tw229 tw230 tw231 tw232 ⟨by decide, by decide⟩ (argsL := [(.long (Jvm.Free.SBG.negL n)), (.long (1000000000 : Int64))]) (S' := [(.int (Int32.ofNat (1 + (gg n 10) + (gg n 100) + (gg n 1000) + (gg n 10000) + (gg n 100000) + (gg n 1000000) + (gg n 10000000) + (gg n 100000000))))]) (lenOf pd27 rfl) rfl rfl d0_421 rfl (W := 1) rfl ⟨by decide, by decide, rfl, rfl, by decide, by decide⟩ fun v18 h18 q18 => ?_
  obtain ⟨rfl, rfl⟩ := q18
  rw [own_ge hn (p := (1000000000 : Int64)) (P := 1000000000) (by decide)]
  show Go B n0 _ h0 40 4000 424 _ [(.int (Int32.ofNat (gg n 1000000000))), (.int (Int32.ofNat (1 + (gg n 10) + (gg n 100) + (gg n 1000) + (gg n 10000) + (gg n 100000) + (gg n 1000000) + (gg n 10000000) + (gg n 100000000))))]
  refine iIadd C d0_424 (v := (Int32.ofNat (1 + (gg n 10) + (gg n 100) + (gg n 1000) + (gg n 10000) + (gg n 100000) + (gg n 1000000) + (gg n 10000000) + (gg n 100000000) + (gg n 1000000000)))) (own_add (1 + (gg n 10) + (gg n 100) + (gg n 1000) + (gg n 10000) + (gg n 100000) + (gg n 1000000) + (gg n 10000000) + (gg n 100000000)) (gg n 1000000000)) ?_
  refine iLload C d0_425 rfl ?_
  refine iAload C d0_427 rfl rfl ?_
  refine iBipush C d0_429 (v := (10 : Int32)) (by decide) ?_
  obtain ⟨c19, A19, q19, z19, y19, H19, G19⟩ := id HP
  refine iLaload C A19 (inb_of z19 ⟨by decide, by decide⟩) (H19.at (inb_of z19 ⟨by decide, by decide⟩) (by rfl)) d0_431 ?_
  refine iCallS C (rmGe hw) tw229 tw230 tw231 tw232 ⟨by decide, by decide⟩ (argsL := [(.long (Jvm.Free.SBG.negL n)), (.long (10000000000 : Int64))]) (S' := [(.int (Int32.ofNat (1 + (gg n 10) + (gg n 100) + (gg n 1000) + (gg n 10000) + (gg n 100000) + (gg n 1000000) + (gg n 10000000) + (gg n 100000000) + (gg n 1000000000))))]) (lenOf pd27 rfl) rfl rfl d0_432 rfl (W := 1) rfl ⟨by decide, by decide, rfl, rfl, by decide, by decide⟩ fun v20 h20 q20 => ?_
  obtain ⟨rfl, rfl⟩ := q20
  rw [own_ge hn (p := (10000000000 : Int64)) (P := 10000000000) (by decide)]
  show Go B n0 _ h0 40 4000 435 _ [(.int (Int32.ofNat (gg n 10000000000))), (.int (Int32.ofNat (1 + (gg n 10) + (gg n 100) + (gg n 1000) + (gg n 10000) + (gg n 100000) + (gg n 1000000) + (gg n 10000000) + (gg n 100000000) + (gg n 1000000000))))]
  refine iIadd C d0_435 (v := (Int32.ofNat (1 + (gg n 10) + (gg n 100) + (gg n 1000) + (gg n 10000) + (gg n 100000) + (gg n 1000000) + (gg n 10000000) + (gg n 100000000) + (gg n 1000000000) + (gg n 10000000000)))) (own_add (1 + (gg n 10) + (gg n 100) + (gg n 1000) + (gg n 10000) + (gg n 100000) + (gg n 1000000) + (gg n 10000000) + (gg n 100000000) + (gg n 1000000000)) (gg n 10000000000)) ?_
  refine iLload C d0_436 rfl ?_
  refine iAload C d0_438 rfl rfl ?_
  refine iBipush C d0_440 (v := (11 : Int32)) (by decide) ?_
  obtain ⟨c21, A21, q21, z21, y21, H21, G21⟩ := id HP
  refine iLaload C A21 (inb_of z21 ⟨by decide, by decide⟩) (H21.at (inb_of z21 ⟨by decide, by decide⟩) (by rfl)) d0_442 ?_
  refine iCallS C (rmGe hw) tw229 tw230 tw231 tw232 ⟨by decide, by decide⟩ (argsL := [(.long (Jvm.Free.SBG.negL n)), (.long (100000000000 : Int64))]) (S' := [(.int (Int32.ofNat (1 + (gg n 10) + (gg n 100) + (gg n 1000) + (gg n 10000) + (gg n 100000) + (gg n 1000000) + (gg n 10000000) + (gg n 100000000) + (gg n 1000000000) + (gg n 10000000000))))]) (lenOf pd27 rfl) rfl rfl d0_443 rfl (W := 1) rfl ⟨by decide, by decide, rfl, rfl, by decide, by decide⟩ fun v22 h22 q22 => ?_
  obtain ⟨rfl, rfl⟩ := q22
  rw [own_ge hn (p := (100000000000 : Int64)) (P := 100000000000) (by decide)]
  show Go B n0 _ h0 40 4000 446 _ [(.int (Int32.ofNat (gg n 100000000000))), (.int (Int32.ofNat (1 + (gg n 10) + (gg n 100) + (gg n 1000) + (gg n 10000) + (gg n 100000) + (gg n 1000000) + (gg n 10000000) + (gg n 100000000) + (gg n 1000000000) + (gg n 10000000000))))]
  refine iIadd C d0_446 (v := (Int32.ofNat (1 + (gg n 10) + (gg n 100) + (gg n 1000) + (gg n 10000) + (gg n 100000) + (gg n 1000000) + (gg n 10000000) + (gg n 100000000) + (gg n 1000000000) + (gg n 10000000000) + (gg n 100000000000)))) (own_add (1 + (gg n 10) + (gg n 100) + (gg n 1000) + (gg n 10000) + (gg n 100000) + (gg n 1000000) + (gg n 10000000) + (gg n 100000000) + (gg n 1000000000) + (gg n 10000000000)) (gg n 100000000000)) ?_
  refine iLload C d0_447 rfl ?_
  refine iAload C d0_449 rfl rfl ?_
  refine iBipush C d0_451 (v := (12 : Int32)) (by decide) ?_
  obtain ⟨c23, A23, q23, z23, y23, H23, G23⟩ := id HP
  refine iLaload C A23 (inb_of z23 ⟨by decide, by decide⟩) (H23.at (inb_of z23 ⟨by decide, by decide⟩) (by rfl)) d0_453 ?_
  refine iCallS C (rmGe hw) tw229 tw230 tw231 tw232 ⟨by decide, by decide⟩ (argsL := [(.long (Jvm.Free.SBG.negL n)), (.long (1000000000000 : Int64))]) (S' := [(.int (Int32.ofNat (1 + (gg n 10) + (gg n 100) + (gg n 1000) + (gg n 10000) + (gg n 100000) + (gg n 1000000) + (gg n 10000000) + (gg n 100000000) + (gg n 1000000000) + (gg n 10000000000) + (gg n 100000000000))))]) (lenOf pd27 rfl) rfl rfl d0_454 rfl (W := 1) rfl ⟨by decide, by decide, rfl, rfl, by decide, by decide⟩ fun v24 h24 q24 => ?_
  obtain ⟨rfl, rfl⟩ := q24
  rw [own_ge hn (p := (1000000000000 : Int64)) (P := 1000000000000) (by decide)]
  show Go B n0 _ h0 40 4000 457 _ [(.int (Int32.ofNat (gg n 1000000000000))), (.int (Int32.ofNat (1 + (gg n 10) + (gg n 100) + (gg n 1000) + (gg n 10000) + (gg n 100000) + (gg n 1000000) + (gg n 10000000) + (gg n 100000000) + (gg n 1000000000) + (gg n 10000000000) + (gg n 100000000000))))]
  refine iIadd C d0_457 (v := (Int32.ofNat (1 + (gg n 10) + (gg n 100) + (gg n 1000) + (gg n 10000) + (gg n 100000) + (gg n 1000000) + (gg n 10000000) + (gg n 100000000) + (gg n 1000000000) + (gg n 10000000000) + (gg n 100000000000) + (gg n 1000000000000)))) (own_add (1 + (gg n 10) + (gg n 100) + (gg n 1000) + (gg n 10000) + (gg n 100000) + (gg n 1000000) + (gg n 10000000) + (gg n 100000000) + (gg n 1000000000) + (gg n 10000000000) + (gg n 100000000000)) (gg n 1000000000000)) ?_
  refine iLload C d0_458 rfl ?_
  refine iAload C d0_460 rfl rfl ?_
  refine iBipush C d0_462 (v := (13 : Int32)) (by decide) ?_
  obtain ⟨c25, A25, q25, z25, y25, H25, G25⟩ := id HP
  refine iLaload C A25 (inb_of z25 ⟨by decide, by decide⟩) (H25.at (inb_of z25 ⟨by decide, by decide⟩) (by rfl)) d0_464 ?_
  refine iCallS C (rmGe hw) tw229 tw230 tw231 tw232 ⟨by decide, by decide⟩ (argsL := [(.long (Jvm.Free.SBG.negL n)), (.long (10000000000000 : Int64))]) (S' := [(.int (Int32.ofNat (1 + (gg n 10) + (gg n 100) + (gg n 1000) + (gg n 10000) + (gg n 100000) + (gg n 1000000) + (gg n 10000000) + (gg n 100000000) + (gg n 1000000000) + (gg n 10000000000) + (gg n 100000000000) + (gg n 1000000000000))))]) (lenOf pd27 rfl) rfl rfl d0_465 rfl (W := 1) rfl ⟨by decide, by decide, rfl, rfl, by decide, by decide⟩ fun v26 h26 q26 => ?_
  obtain ⟨rfl, rfl⟩ := q26
  rw [own_ge hn (p := (10000000000000 : Int64)) (P := 10000000000000) (by decide)]
  show Go B n0 _ h0 40 4000 468 _ [(.int (Int32.ofNat (gg n 10000000000000))), (.int (Int32.ofNat (1 + (gg n 10) + (gg n 100) + (gg n 1000) + (gg n 10000) + (gg n 100000) + (gg n 1000000) + (gg n 10000000) + (gg n 100000000) + (gg n 1000000000) + (gg n 10000000000) + (gg n 100000000000) + (gg n 1000000000000))))]
  refine iIadd C d0_468 (v := (Int32.ofNat (1 + (gg n 10) + (gg n 100) + (gg n 1000) + (gg n 10000) + (gg n 100000) + (gg n 1000000) + (gg n 10000000) + (gg n 100000000) + (gg n 1000000000) + (gg n 10000000000) + (gg n 100000000000) + (gg n 1000000000000) + (gg n 10000000000000)))) (own_add (1 + (gg n 10) + (gg n 100) + (gg n 1000) + (gg n 10000) + (gg n 100000) + (gg n 1000000) + (gg n 10000000) + (gg n 100000000) + (gg n 1000000000) + (gg n 10000000000) + (gg n 100000000000) + (gg n 1000000000000)) (gg n 10000000000000)) ?_
  refine iLload C d0_469 rfl ?_
  refine iAload C d0_471 rfl rfl ?_
  refine iBipush C d0_473 (v := (14 : Int32)) (by decide) ?_
  obtain ⟨c27, A27, q27, z27, y27, H27, G27⟩ := id HP
  refine iLaload C A27 (inb_of z27 ⟨by decide, by decide⟩) (H27.at (inb_of z27 ⟨by decide, by decide⟩) (by rfl)) d0_475 ?_
  refine iCallS C (rmGe hw) tw229 tw230 tw231 tw232 ⟨by decide, by decide⟩ (argsL := [(.long (Jvm.Free.SBG.negL n)), (.long (100000000000000 : Int64))]) (S' := [(.int (Int32.ofNat (1 + (gg n 10) + (gg n 100) + (gg n 1000) + (gg n 10000) + (gg n 100000) + (gg n 1000000) + (gg n 10000000) + (gg n 100000000) + (gg n 1000000000) + (gg n 10000000000) + (gg n 100000000000) + (gg n 1000000000000) + (gg n 10000000000000))))]) (lenOf pd27 rfl) rfl rfl d0_476 rfl (W := 1) rfl ⟨by decide, by decide, rfl, rfl, by decide, by decide⟩ fun v28 h28 q28 => ?_
  obtain ⟨rfl, rfl⟩ := q28
  rw [own_ge hn (p := (100000000000000 : Int64)) (P := 100000000000000) (by decide)]
  show Go B n0 _ h0 40 4000 479 _ [(.int (Int32.ofNat (gg n 100000000000000))), (.int (Int32.ofNat (1 + (gg n 10) + (gg n 100) + (gg n 1000) + (gg n 10000) + (gg n 100000) + (gg n 1000000) + (gg n 10000000) + (gg n 100000000) + (gg n 1000000000) + (gg n 10000000000) + (gg n 100000000000) + (gg n 1000000000000) + (gg n 10000000000000))))]
  refine iIadd C d0_479 (v := (Int32.ofNat (1 + (gg n 10) + (gg n 100) + (gg n 1000) + (gg n 10000) + (gg n 100000) + (gg n 1000000) + (gg n 10000000) + (gg n 100000000) + (gg n 1000000000) + (gg n 10000000000) + (gg n 100000000000) + (gg n 1000000000000) + (gg n 10000000000000) + (gg n 100000000000000)))) (own_add (1 + (gg n 10) + (gg n 100) + (gg n 1000) + (gg n 10000) + (gg n 100000) + (gg n 1000000) + (gg n 10000000) + (gg n 100000000) + (gg n 1000000000) + (gg n 10000000000) + (gg n 100000000000) + (gg n 1000000000000) + (gg n 10000000000000)) (gg n 100000000000000)) ?_
  refine iLload C d0_480 rfl ?_
  refine iAload C d0_482 rfl rfl ?_
  refine iBipush C d0_484 (v := (15 : Int32)) (by decide) ?_
  obtain ⟨c29, A29, q29, z29, y29, H29, G29⟩ := id HP
  refine iLaload C A29 (inb_of z29 ⟨by decide, by decide⟩) (H29.at (inb_of z29 ⟨by decide, by decide⟩) (by rfl)) d0_486 ?_
  refine iCallS C (rmGe hw) tw229 tw230 tw231 tw232 ⟨by decide, by decide⟩ (argsL := [(.long (Jvm.Free.SBG.negL n)), (.long (1000000000000000 : Int64))]) (S' := [(.int (Int32.ofNat (1 + (gg n 10) + (gg n 100) + (gg n 1000) + (gg n 10000) + (gg n 100000) + (gg n 1000000) + (gg n 10000000) + (gg n 100000000) + (gg n 1000000000) + (gg n 10000000000) + (gg n 100000000000) + (gg n 1000000000000) + (gg n 10000000000000) + (gg n 100000000000000))))]) (lenOf pd27 rfl) rfl rfl d0_487 rfl (W := 1) rfl ⟨by decide, by decide, rfl, rfl, by decide, by decide⟩ fun v30 h30 q30 => ?_
  obtain ⟨rfl, rfl⟩ := q30
  rw [own_ge hn (p := (1000000000000000 : Int64)) (P := 1000000000000000) (by decide)]
  show Go B n0 _ h0 40 4000 490 _ [(.int (Int32.ofNat (gg n 1000000000000000))), (.int (Int32.ofNat (1 + (gg n 10) + (gg n 100) + (gg n 1000) + (gg n 10000) + (gg n 100000) + (gg n 1000000) + (gg n 10000000) + (gg n 100000000) + (gg n 1000000000) + (gg n 10000000000) + (gg n 100000000000) + (gg n 1000000000000) + (gg n 10000000000000) + (gg n 100000000000000))))]
  refine iIadd C d0_490 (v := (Int32.ofNat (1 + (gg n 10) + (gg n 100) + (gg n 1000) + (gg n 10000) + (gg n 100000) + (gg n 1000000) + (gg n 10000000) + (gg n 100000000) + (gg n 1000000000) + (gg n 10000000000) + (gg n 100000000000) + (gg n 1000000000000) + (gg n 10000000000000) + (gg n 100000000000000) + (gg n 1000000000000000)))) (own_add (1 + (gg n 10) + (gg n 100) + (gg n 1000) + (gg n 10000) + (gg n 100000) + (gg n 1000000) + (gg n 10000000) + (gg n 100000000) + (gg n 1000000000) + (gg n 10000000000) + (gg n 100000000000) + (gg n 1000000000000) + (gg n 10000000000000) + (gg n 100000000000000)) (gg n 1000000000000000)) ?_
  refine iLload C d0_491 rfl ?_
  refine iAload C d0_493 rfl rfl ?_
  refine iBipush C d0_495 (v := (16 : Int32)) (by decide) ?_
  obtain ⟨c31, A31, q31, z31, y31, H31, G31⟩ := id HP
  refine iLaload C A31 (inb_of z31 ⟨by decide, by decide⟩) (H31.at (inb_of z31 ⟨by decide, by decide⟩) (by rfl)) d0_497 ?_
  refine iCallS C (rmGe hw) tw229 tw230 tw231 tw232 ⟨by decide, by decide⟩ (argsL := [(.long (Jvm.Free.SBG.negL n)), (.long (10000000000000000 : Int64))]) (S' := [(.int (Int32.ofNat (1 + (gg n 10) + (gg n 100) + (gg n 1000) + (gg n 10000) + (gg n 100000) + (gg n 1000000) + (gg n 10000000) + (gg n 100000000) + (gg n 1000000000) + (gg n 10000000000) + (gg n 100000000000) + (gg n 1000000000000) + (gg n 10000000000000) + (gg n 100000000000000) + (gg n 1000000000000000))))]) (lenOf pd27 rfl) rfl rfl d0_498 rfl (W := 1) rfl ⟨by decide, by decide, rfl, rfl, by decide, by decide⟩ fun v32 h32 q32 => ?_
  obtain ⟨rfl, rfl⟩ := q32
  rw [own_ge hn (p := (10000000000000000 : Int64)) (P := 10000000000000000) (by decide)]
  show Go B n0 _ h0 40 4000 501 _ [(.int (Int32.ofNat (gg n 10000000000000000))), (.int (Int32.ofNat (1 + (gg n 10) + (gg n 100) + (gg n 1000) + (gg n 10000) + (gg n 100000) + (gg n 1000000) + (gg n 10000000) + (gg n 100000000) + (gg n 1000000000) + (gg n 10000000000) + (gg n 100000000000) + (gg n 1000000000000) + (gg n 10000000000000) + (gg n 100000000000000) + (gg n 1000000000000000))))]
  refine iIadd C d0_501 (v := (Int32.ofNat (1 + (gg n 10) + (gg n 100) + (gg n 1000) + (gg n 10000) + (gg n 100000) + (gg n 1000000) + (gg n 10000000) + (gg n 100000000) + (gg n 1000000000) + (gg n 10000000000) + (gg n 100000000000) + (gg n 1000000000000) + (gg n 10000000000000) + (gg n 100000000000000) + (gg n 1000000000000000) + (gg n 10000000000000000)))) (own_add (1 + (gg n 10) + (gg n 100) + (gg n 1000) + (gg n 10000) + (gg n 100000) + (gg n 1000000) + (gg n 10000000) + (gg n 100000000) + (gg n 1000000000) + (gg n 10000000000) + (gg n 100000000000) + (gg n 1000000000000) + (gg n 10000000000000) + (gg n 100000000000000) + (gg n 1000000000000000)) (gg n 10000000000000000)) ?_
  refine iLload C d0_502 rfl ?_
  refine iAload C d0_504 rfl rfl ?_
  refine iBipush C d0_506 (v := (17 : Int32)) (by decide) ?_
  obtain ⟨c33, A33, q33, z33, y33, H33, G33⟩ := id HP
  refine iLaload C A33 (inb_of z33 ⟨by decide, by decide⟩) (H33.at (inb_of z33 ⟨by decide, by decide⟩) (by rfl)) d0_508 ?_
  refine iCallS C (rmGe hw) tw229 tw230 tw231 tw232 ⟨by decide, by decide⟩ (argsL := [(.long (Jvm.Free.SBG.negL n)), (.long (100000000000000000 : Int64))]) (S' := [(.int (Int32.ofNat (1 + (gg n 10) + (gg n 100) + (gg n 1000) + (gg n 10000) + (gg n 100000) + (gg n 1000000) + (gg n 10000000) + (gg n 100000000) + (gg n 1000000000) + (gg n 10000000000) + (gg n 100000000000) + (gg n 1000000000000) + (gg n 10000000000000) + (gg n 100000000000000) + (gg n 1000000000000000) + (gg n 10000000000000000))))]) (lenOf pd27 rfl) rfl rfl d0_509 rfl (W := 1) rfl ⟨by decide, by decide, rfl, rfl, by decide, by decide⟩ fun v34 h34 q34 => ?_
  obtain ⟨rfl, rfl⟩ := q34
  rw [own_ge hn (p := (100000000000000000 : Int64)) (P := 100000000000000000) (by decide)]
  show Go B n0 _ h0 40 4000 512 _ [(.int (Int32.ofNat (gg n 100000000000000000))), (.int (Int32.ofNat (1 + (gg n 10) + (gg n 100) + (gg n 1000) + (gg n 10000) + (gg n 100000) + (gg n 1000000) + (gg n 10000000) + (gg n 100000000) + (gg n 1000000000) + (gg n 10000000000) + (gg n 100000000000) + (gg n 1000000000000) + (gg n 10000000000000) + (gg n 100000000000000) + (gg n 1000000000000000) + (gg n 10000000000000000))))]
  refine iIadd C d0_512 (v := (Int32.ofNat (1 + (gg n 10) + (gg n 100) + (gg n 1000) + (gg n 10000) + (gg n 100000) + (gg n 1000000) + (gg n 10000000) + (gg n 100000000) + (gg n 1000000000) + (gg n 10000000000) + (gg n 100000000000) + (gg n 1000000000000) + (gg n 10000000000000) + (gg n 100000000000000) + (gg n 1000000000000000) + (gg n 10000000000000000) + (gg n 100000000000000000)))) (own_add (1 + (gg n 10) + (gg n 100) + (gg n 1000) + (gg n 10000) + (gg n 100000) + (gg n 1000000) + (gg n 10000000) + (gg n 100000000) + (gg n 1000000000) + (gg n 10000000000) + (gg n 100000000000) + (gg n 1000000000000) + (gg n 10000000000000) + (gg n 100000000000000) + (gg n 1000000000000000) + (gg n 10000000000000000)) (gg n 100000000000000000)) ?_
  refine iLload C d0_513 rfl ?_
  refine iAload C d0_515 rfl rfl ?_
  refine iBipush C d0_517 (v := (18 : Int32)) (by decide) ?_
  obtain ⟨c35, A35, q35, z35, y35, H35, G35⟩ := id HP
  refine iLaload C A35 (inb_of z35 ⟨by decide, by decide⟩) (H35.at (inb_of z35 ⟨by decide, by decide⟩) (by rfl)) d0_519 ?_
  refine iCallS C (rmGe hw) tw229 tw230 tw231 tw232 ⟨by decide, by decide⟩ (argsL := [(.long (Jvm.Free.SBG.negL n)), (.long (1000000000000000000 : Int64))]) (S' := [(.int (Int32.ofNat (1 + (gg n 10) + (gg n 100) + (gg n 1000) + (gg n 10000) + (gg n 100000) + (gg n 1000000) + (gg n 10000000) + (gg n 100000000) + (gg n 1000000000) + (gg n 10000000000) + (gg n 100000000000) + (gg n 1000000000000) + (gg n 10000000000000) + (gg n 100000000000000) + (gg n 1000000000000000) + (gg n 10000000000000000) + (gg n 100000000000000000))))]) (lenOf pd27 rfl) rfl rfl d0_520 rfl (W := 1) rfl ⟨by decide, by decide, rfl, rfl, by decide, by decide⟩ fun v36 h36 q36 => ?_
  obtain ⟨rfl, rfl⟩ := q36
  rw [own_ge hn (p := (1000000000000000000 : Int64)) (P := 1000000000000000000) (by decide)]
  show Go B n0 _ h0 40 4000 523 _ [(.int (Int32.ofNat (gg n 1000000000000000000))), (.int (Int32.ofNat (1 + (gg n 10) + (gg n 100) + (gg n 1000) + (gg n 10000) + (gg n 100000) + (gg n 1000000) + (gg n 10000000) + (gg n 100000000) + (gg n 1000000000) + (gg n 10000000000) + (gg n 100000000000) + (gg n 1000000000000) + (gg n 10000000000000) + (gg n 100000000000000) + (gg n 1000000000000000) + (gg n 10000000000000000) + (gg n 100000000000000000))))]
  refine iIadd C d0_523 (v := (Int32.ofNat (1 + (gg n 10) + (gg n 100) + (gg n 1000) + (gg n 10000) + (gg n 100000) + (gg n 1000000) + (gg n 10000000) + (gg n 100000000) + (gg n 1000000000) + (gg n 10000000000) + (gg n 100000000000) + (gg n 1000000000000) + (gg n 10000000000000) + (gg n 100000000000000) + (gg n 1000000000000000) + (gg n 10000000000000000) + (gg n 100000000000000000) + (gg n 1000000000000000000)))) (own_add (1 + (gg n 10) + (gg n 100) + (gg n 1000) + (gg n 10000) + (gg n 100000) + (gg n 1000000) + (gg n 10000000) + (gg n 100000000) + (gg n 1000000000) + (gg n 10000000000) + (gg n 100000000000) + (gg n 1000000000000) + (gg n 10000000000000) + (gg n 100000000000000) + (gg n 1000000000000000) + (gg n 10000000000000000) + (gg n 100000000000000000)) (gg n 1000000000000000000)) ?_
  rw [show 1 + (gg n 10) + (gg n 100) + (gg n 1000) + (gg n 10000) + (gg n 100000) + (gg n 1000000) + (gg n 10000000) + (gg n 100000000) + (gg n 1000000000) + (gg n 10000000000) + (gg n 100000000000) + (gg n 1000000000000) + (gg n 10000000000000) + (gg n 100000000000000) + (gg n 1000000000000000) + (gg n 10000000000000000) + (gg n 100000000000000000) + (gg n 1000000000000000000) = Jvm.Free.SBG.digitsL n from own_dsum hn]
  refine iIstore C d0_524 (Ls' := #[(.val (.int i0)), (.val (.int i1)), (.val (.int i2)), (.val (.long xl)), .second, (.val (.int (Int32.ofNat (ds.length)))), (.val (.int cc0)), (.val (.int cc1)), (.val (.int cc2)), (.val (.ref na)), (.val (.ref s)), (.val (.ref tx)), (.val (.ref r)), (.val (.ref pa)), (.val (.int (1 : Int32))), (.val (.long (Jvm.Free.SBG.negL n))), .second, (.val (.int (Int32.ofNat (Jvm.Free.SBG.digitsL n)))), .unset, .unset, .unset, .unset, .unset, .unset]) rfl ?_
  refine iIload C d0_526 rfl ?_
  refine iIfF C d0_528 (by decide) ?_
  refine iIconst C d0_531 (v := (1 : Int32)) (by decide) ?_
  refine iGoto C (t := 536) d0_532 ⟨by decide, by decide⟩ ?_
  refine iIstore C d0_536 (Ls' := #[(.val (.int i0)), (.val (.int i1)), (.val (.int i2)), (.val (.long xl)), .second, (.val (.int (Int32.ofNat (ds.length)))), (.val (.int cc0)), (.val (.int cc1)), (.val (.int cc2)), (.val (.ref na)), (.val (.ref s)), (.val (.ref tx)), (.val (.ref r)), (.val (.ref pa)), (.val (.int (1 : Int32))), (.val (.long (Jvm.Free.SBG.negL n))), .second, (.val (.int (Int32.ofNat (Jvm.Free.SBG.digitsL n)))), (.val (.int (1 : Int32))), .unset, .unset, .unset, .unset, .unset]) rfl ?_
  refine iBipush C d0_538 (v := (16 : Int32)) (by decide) ?_
  refine iIload C d0_540 rfl ?_
  refine iIadd C d0_542 (v := (Int32.ofNat (16 + (ds.length)))) (own_add (16) (ds.length)) ?_
  refine iBipush C d0_543 (v := (12 : Int32)) (by decide) ?_
  refine iIadd C d0_545 (v := (Int32.ofNat (16 + (ds.length) + 12))) (own_add (16 + (ds.length)) (12)) ?_
  refine iIstore C d0_546 (Ls' := #[(.val (.int i0)), (.val (.int i1)), (.val (.int i2)), (.val (.long xl)), .second, (.val (.int (Int32.ofNat (ds.length)))), (.val (.int cc0)), (.val (.int cc1)), (.val (.int cc2)), (.val (.ref na)), (.val (.ref s)), (.val (.ref tx)), (.val (.ref r)), (.val (.ref pa)), (.val (.int (1 : Int32))), (.val (.long (Jvm.Free.SBG.negL n))), .second, (.val (.int (Int32.ofNat (Jvm.Free.SBG.digitsL n)))), (.val (.int (1 : Int32))), (.val (.int (Int32.ofNat (16 + (ds.length) + 12)))), .unset, .unset, .unset, .unset]) rfl ?_
  refine iIload C d0_548 rfl ?_
  refine iIload C d0_550 rfl ?_
  refine iIadd C d0_552 (v := (Int32.ofNat (16 + (ds.length) + 12 + 1))) (own_add (16 + (ds.length) + 12) (1)) ?_
  refine iIload C d0_553 rfl ?_
  refine iIadd C d0_555 (v := (Int32.ofNat (16 + (ds.length) + 12 + 1 + (Jvm.Free.SBG.digitsL n)))) (own_add (16 + (ds.length) + 12 + 1) (Jvm.Free.SBG.digitsL n)) ?_
  refine iIstore C d0_556 (Ls' := #[(.val (.int i0)), (.val (.int i1)), (.val (.int i2)), (.val (.long xl)), .second, (.val (.int (Int32.ofNat (ds.length)))), (.val (.int cc0)), (.val (.int cc1)), (.val (.int cc2)), (.val (.ref na)), (.val (.ref s)), (.val (.ref tx)), (.val (.ref r)), (.val (.ref pa)), (.val (.int (1 : Int32))), (.val (.long (Jvm.Free.SBG.negL n))), .second, (.val (.int (Int32.ofNat (Jvm.Free.SBG.digitsL n)))), (.val (.int (1 : Int32))), (.val (.int (Int32.ofNat (16 + (ds.length) + 12)))), (.val (.int (Int32.ofNat (16 + (ds.length) + 12 + 1 + (Jvm.Free.SBG.digitsL n))))), .unset, .unset, .unset]) rfl ?_
  refine iAload C d0_558 rfl rfl ?_
  refine iNullF C d0_560 ?_
  refine iAload C d0_563 rfl rfl ?_
  refine iCallVB C (payLen hw HR (S0.ext O.2) hz0 (by decide) (by decide)) HR.1 tw233 tw86 (Or.inl rfl) tw88 tw87 ⟨by decide, by decide⟩ (argsL := []) (S' := []) (lenOf pd7 rfl) rfl rfl d0_565 rfl (W := 0) rfl ⟨rfl, rfl, by decide, by decide⟩ fun v37 h37 q37 => ?_
  obtain ⟨rfl, rfl⟩ := q37
  show Go B n0 _ h0 40 4000 568 _ [(.int (Int32.ofNat ((TXT ds xx n).length)))]
  refine iIload C d0_568 rfl ?_
  refine iIconst C d0_570 (v := (1 : Int32)) (by decide) ?_
  refine iIadd C d0_571 (v := (Int32.ofNat (16 + (ds.length) + 12 + 1 + (Jvm.Free.SBG.digitsL n) + 1))) (own_add (16 + (ds.length) + 12 + 1 + (Jvm.Free.SBG.digitsL n)) (1)) ?_
  refine iCmpT C (t := 577) d0_572 (teq (by rw [hTL])).1 ⟨by decide, by decide⟩ ?_
  refine iLdcC C D HC (z := Int32.ofNat SPRE.length) (vs := (SPRE.map lo8).map Value.int) (nn := 64) tw234 own_wS (List.mem_of_getElem? (i := 3) rfl) ⟨by decide, by decide⟩ (by decide) (by decide) d0_577 (by decide) (by decide) ⟨rfl, rfl, by decide, by decide⟩ fun B h38 a38 t38 k38 C D HC38 Bk38 E38 sm38 ne38 A38 Fc38 Fv38 V38 => ?_
  have O38 := O.ext E38
  refine iAstore C d0_579 (Ls' := #[(.val (.int i0)), (.val (.int i1)), (.val (.int i2)), (.val (.long xl)), .second, (.val (.int (Int32.ofNat (ds.length)))), (.val (.int cc0)), (.val (.int cc1)), (.val (.int cc2)), (.val (.ref na)), (.val (.ref s)), (.val (.ref tx)), (.val (.ref r)), (.val (.ref pa)), (.val (.int (1 : Int32))), (.val (.long (Jvm.Free.SBG.negL n))), .second, (.val (.int (Int32.ofNat (Jvm.Free.SBG.digitsL n)))), (.val (.int (1 : Int32))), (.val (.int (Int32.ofNat (16 + (ds.length) + 12)))), (.val (.int (Int32.ofNat (16 + (ds.length) + 12 + 1 + (Jvm.Free.SBG.digitsL n))))), (.val (.ref a38)), .unset, .unset]) rfl rfl ?_
  refine iLdcC C D HC38 (z := Int32.ofNat SMID.length) (vs := (SMID.map lo8).map Value.int) (nn := 48) tw235 own_wS (List.mem_of_getElem? (i := 4) rfl) ⟨by decide, by decide⟩ (by decide) (by decide) d0_581 (by decide) (by decide) ⟨rfl, rfl, by decide, by decide⟩ fun B h39 a39 t39 k39 C D HC39 Bk39 E39 sm39 ne39 A39 Fc39 Fv39 V39 => ?_
  have O39 := O38.ext E39
  refine iAstore C d0_583 (Ls' := #[(.val (.int i0)), (.val (.int i1)), (.val (.int i2)), (.val (.long xl)), .second, (.val (.int (Int32.ofNat (ds.length)))), (.val (.int cc0)), (.val (.int cc1)), (.val (.int cc2)), (.val (.ref na)), (.val (.ref s)), (.val (.ref tx)), (.val (.ref r)), (.val (.ref pa)), (.val (.int (1 : Int32))), (.val (.long (Jvm.Free.SBG.negL n))), .second, (.val (.int (Int32.ofNat (Jvm.Free.SBG.digitsL n)))), (.val (.int (1 : Int32))), (.val (.int (Int32.ofNat (16 + (ds.length) + 12)))), (.val (.int (Int32.ofNat (16 + (ds.length) + 12 + 1 + (Jvm.Free.SBG.digitsL n))))), (.val (.ref a38)), (.val (.ref a39)), .unset]) rfl rfl ?_
  refine iAload C d0_585 rfl rfl ?_
  refine iIconst C d0_587 (v := (0 : Int32)) (by decide) ?_
  refine iAload C d0_588 rfl rfl ?_
  refine iIconst C d0_590 (v := (0 : Int32)) (by decide) ?_
  refine iCallS C (rmE4 hw O39 S0 hz0 S1 rf (SX.ext (SX.ext HR E38) E39) ⟨(A38.ext E39), (Fc38.ext E39), (Fv38.ext E39), (V38.ext E39), (by decide), (by decide)⟩ (o := 0) (j := 0) (by omega) (by omega) (TXT_pre ds xx n)) tw236 tw237 tw231 tw238 ⟨by decide, by decide⟩ (argsL := [(.ref r), (.int (0 : Int32)), (.ref a38), (.int (0 : Int32))]) (S' := []) (lenOf pd22 rfl) rfl rfl d0_591 rfl (W := 0) rfl ⟨by decide, by decide, rfl, rfl, by decide, by decide⟩ fun v40 h40 q40 => ?_
  obtain ⟨rfl, rfl⟩ := q40
  show Go B n0 _ h39 44 4120 594 _ [(.int (1 : Int32))]
  refine iIfF C d0_594 (by decide) ?_
  refine iAload C d0_597 rfl rfl ?_
  refine iIconst C d0_599 (v := (0 : Int32)) (by decide) ?_
  refine iAload C d0_600 rfl rfl ?_
  refine iIconst C d0_602 (v := (4 : Int32)) (by decide) ?_
  refine iCallS C (rmE4 hw O39 S0 hz0 S1 rf (SX.ext (SX.ext HR E38) E39) ⟨(A38.ext E39), (Fc38.ext E39), (Fv38.ext E39), (V38.ext E39), (by decide), (by decide)⟩ (o := 0) (j := 4) (by omega) (by omega) (TXT_pre ds xx n)) tw236 tw237 tw231 tw238 ⟨by decide, by decide⟩ (argsL := [(.ref r), (.int (0 : Int32)), (.ref a38), (.int (4 : Int32))]) (S' := []) (lenOf pd22 rfl) rfl rfl d0_603 rfl (W := 0) rfl ⟨by decide, by decide, rfl, rfl, by decide, by decide⟩ fun v41 h41 q41 => ?_
  obtain ⟨rfl, rfl⟩ := q41
  show Go B n0 _ h39 44 4120 606 _ [(.int (1 : Int32))]
  refine iIfF C d0_606 (by decide) ?_
  refine iAload C d0_609 rfl rfl ?_
  refine iIconst C d0_611 (v := (0 : Int32)) (by decide) ?_
  refine iAload C d0_612 rfl rfl ?_
  refine iBipush C d0_614 (v := (8 : Int32)) (by decide) ?_
  refine iCallS C (rmE4 hw O39 S0 hz0 S1 rf (SX.ext (SX.ext HR E38) E39) ⟨(A38.ext E39), (Fc38.ext E39), (Fv38.ext E39), (V38.ext E39), (by decide), (by decide)⟩ (o := 0) (j := 8) (by omega) (by omega) (TXT_pre ds xx n)) tw236 tw237 tw231 tw238 ⟨by decide, by decide⟩ (argsL := [(.ref r), (.int (0 : Int32)), (.ref a38), (.int (8 : Int32))]) (S' := []) (lenOf pd22 rfl) rfl rfl d0_616 rfl (W := 0) rfl ⟨by decide, by decide, rfl, rfl, by decide, by decide⟩ fun v42 h42 q42 => ?_
  obtain ⟨rfl, rfl⟩ := q42
  show Go B n0 _ h39 44 4120 619 _ [(.int (1 : Int32))]
  refine iIfF C d0_619 (by decide) ?_
  refine iAload C d0_622 rfl rfl ?_
  refine iIconst C d0_624 (v := (0 : Int32)) (by decide) ?_
  refine iAload C d0_625 rfl rfl ?_
  refine iBipush C d0_627 (v := (12 : Int32)) (by decide) ?_
  refine iCallS C (rmE4 hw O39 S0 hz0 S1 rf (SX.ext (SX.ext HR E38) E39) ⟨(A38.ext E39), (Fc38.ext E39), (Fv38.ext E39), (V38.ext E39), (by decide), (by decide)⟩ (o := 0) (j := 12) (by omega) (by omega) (TXT_pre ds xx n)) tw236 tw237 tw231 tw238 ⟨by decide, by decide⟩ (argsL := [(.ref r), (.int (0 : Int32)), (.ref a38), (.int (12 : Int32))]) (S' := []) (lenOf pd22 rfl) rfl rfl d0_629 rfl (W := 0) rfl ⟨by decide, by decide, rfl, rfl, by decide, by decide⟩ fun v43 h43 q43 => ?_
  obtain ⟨rfl, rfl⟩ := q43
  show Go B n0 _ h39 44 4120 632 _ [(.int (1 : Int32))]
  refine iIfF C d0_632 (by decide) ?_
  refine iIconst C d0_635 (v := (1 : Int32)) (by decide) ?_
  refine iGoto C (t := 640) d0_636 ⟨by decide, by decide⟩ ?_
  refine iIstore C d0_640 (Ls' := #[(.val (.int i0)), (.val (.int i1)), (.val (.int i2)), (.val (.long xl)), .second, (.val (.int (Int32.ofNat (ds.length)))), (.val (.int cc0)), (.val (.int cc1)), (.val (.int cc2)), (.val (.ref na)), (.val (.ref s)), (.val (.ref tx)), (.val (.ref r)), (.val (.ref pa)), (.val (.int (1 : Int32))), (.val (.long (Jvm.Free.SBG.negL n))), .second, (.val (.int (Int32.ofNat (Jvm.Free.SBG.digitsL n)))), (.val (.int (1 : Int32))), (.val (.int (Int32.ofNat (16 + (ds.length) + 12)))), (.val (.int (Int32.ofNat (16 + (ds.length) + 12 + 1 + (Jvm.Free.SBG.digitsL n))))), (.val (.ref a38)), (.val (.ref a39)), (.val (.int (1 : Int32)))]) rfl ?_
  refine iIload C d0_642 rfl ?_
  refine iIfF C d0_644 (by decide) ?_
  refine iAload C d0_647 rfl rfl ?_
  refine iBipush C d0_649 (v := (16 : Int32)) (by decide) ?_
  refine iAload C d0_651 rfl rfl ?_
  refine iIconst C d0_653 (v := (0 : Int32)) (by decide) ?_
  refine iCallS C (rmE4 hw O39 S0 hz0 S1 rf (SX.ext (SX.ext HR E38) E39) (SX.ext (SX.ext HN E38) E39) (o := 16) (j := 0) (by omega) (by omega) (TXT_non ds xx n)) tw236 tw237 tw231 tw238 ⟨by decide, by decide⟩ (argsL := [(.ref r), (.int (16 : Int32)), (.ref s), (.int (0 : Int32))]) (S' := []) (lenOf pd22 rfl) rfl rfl d0_654 rfl (W := 0) rfl ⟨by decide, by decide, rfl, rfl, by decide, by decide⟩ fun v44 h44 q44 => ?_
  obtain ⟨rfl, rfl⟩ := q44
  show Go B n0 _ h39 44 4120 657 _ [(.int (1 : Int32))]
  refine iIfF C d0_657 (by decide) ?_
  refine iIconst C d0_660 (v := (1 : Int32)) (by decide) ?_
  refine iGoto C (t := 665) d0_661 ⟨by decide, by decide⟩ ?_
  refine iIstore C d0_665 (Ls' := #[(.val (.int i0)), (.val (.int i1)), (.val (.int i2)), (.val (.long xl)), .second, (.val (.int (Int32.ofNat (ds.length)))), (.val (.int cc0)), (.val (.int cc1)), (.val (.int cc2)), (.val (.ref na)), (.val (.ref s)), (.val (.ref tx)), (.val (.ref r)), (.val (.ref pa)), (.val (.int (1 : Int32))), (.val (.long (Jvm.Free.SBG.negL n))), .second, (.val (.int (Int32.ofNat (Jvm.Free.SBG.digitsL n)))), (.val (.int (1 : Int32))), (.val (.int (Int32.ofNat (16 + (ds.length) + 12)))), (.val (.int (Int32.ofNat (16 + (ds.length) + 12 + 1 + (Jvm.Free.SBG.digitsL n))))), (.val (.ref a38)), (.val (.ref a39)), (.val (.int (1 : Int32)))]) rfl ?_
  refine iIload C d0_667 rfl ?_
  refine iIfF C d0_669 (by decide) ?_
  refine iAload C d0_672 rfl rfl ?_
  refine iBipush C d0_674 (v := (16 : Int32)) (by decide) ?_
  refine iIload C d0_676 rfl ?_
  refine iIadd C d0_678 (v := (Int32.ofNat (16 + (ds.length)))) (own_add (16) (ds.length)) ?_
  refine iAload C d0_679 rfl rfl ?_
  refine iIconst C d0_681 (v := (0 : Int32)) (by decide) ?_
  refine iCallS C (rmE4 hw O39 S0 hz0 S1 rf (SX.ext (SX.ext HR E38) E39) ⟨A39, Fc39, Fv39, V39, (by decide), (by decide)⟩ (o := 16 + (ds.length)) (j := 0) (by omega) (by omega) (TXT_mid ds xx n)) tw236 tw237 tw231 tw238 ⟨by decide, by decide⟩ (argsL := [(.ref r), (.int (Int32.ofNat (16 + (ds.length)))), (.ref a39), (.int (0 : Int32))]) (S' := []) (lenOf pd22 rfl) rfl rfl d0_682 rfl (W := 0) rfl ⟨by decide, by decide, rfl, rfl, by decide, by decide⟩ fun v45 h45 q45 => ?_
  obtain ⟨rfl, rfl⟩ := q45
  show Go B n0 _ h39 44 4120 685 _ [(.int (1 : Int32))]
  refine iIfF C d0_685 (by decide) ?_
  refine iAload C d0_688 rfl rfl ?_
  refine iBipush C d0_690 (v := (16 : Int32)) (by decide) ?_
  refine iIload C d0_692 rfl ?_
  refine iIadd C d0_694 (v := (Int32.ofNat (16 + (ds.length)))) (own_add (16) (ds.length)) ?_
  refine iAload C d0_695 rfl rfl ?_
  refine iIconst C d0_697 (v := (4 : Int32)) (by decide) ?_
  refine iCallS C (rmE4 hw O39 S0 hz0 S1 rf (SX.ext (SX.ext HR E38) E39) ⟨A39, Fc39, Fv39, V39, (by decide), (by decide)⟩ (o := 16 + (ds.length)) (j := 4) (by omega) (by omega) (TXT_mid ds xx n)) tw236 tw237 tw231 tw238 ⟨by decide, by decide⟩ (argsL := [(.ref r), (.int (Int32.ofNat (16 + (ds.length)))), (.ref a39), (.int (4 : Int32))]) (S' := []) (lenOf pd22 rfl) rfl rfl d0_698 rfl (W := 0) rfl ⟨by decide, by decide, rfl, rfl, by decide, by decide⟩ fun v46 h46 q46 => ?_
  obtain ⟨rfl, rfl⟩ := q46
  show Go B n0 _ h39 44 4120 701 _ [(.int (1 : Int32))]
  refine iIfF C d0_701 (by decide) ?_
  refine iAload C d0_704 rfl rfl ?_
  refine iBipush C d0_706 (v := (16 : Int32)) (by decide) ?_
  refine iIload C d0_708 rfl ?_
  refine iIadd C d0_710 (v := (Int32.ofNat (16 + (ds.length)))) (own_add (16) (ds.length)) ?_
  refine iAload C d0_711 rfl rfl ?_
  refine iBipush C d0_713 (v := (8 : Int32)) (by decide) ?_
  refine iCallS C (rmE4 hw O39 S0 hz0 S1 rf (SX.ext (SX.ext HR E38) E39) ⟨A39, Fc39, Fv39, V39, (by decide), (by decide)⟩ (o := 16 + (ds.length)) (j := 8) (by omega) (by omega) (TXT_mid ds xx n)) tw236 tw237 tw231 tw238 ⟨by decide, by decide⟩ (argsL := [(.ref r), (.int (Int32.ofNat (16 + (ds.length)))), (.ref a39), (.int (8 : Int32))]) (S' := []) (lenOf pd22 rfl) rfl rfl d0_715 rfl (W := 0) rfl ⟨by decide, by decide, rfl, rfl, by decide, by decide⟩ fun v47 h47 q47 => ?_
  obtain ⟨rfl, rfl⟩ := q47
  show Go B n0 _ h39 44 4120 718 _ [(.int (1 : Int32))]
  refine iIfF C d0_718 (by decide) ?_
  refine iIconst C d0_721 (v := (1 : Int32)) (by decide) ?_
  refine iGoto C (t := 726) d0_722 ⟨by decide, by decide⟩ ?_
  refine iIstore C d0_726 (Ls' := #[(.val (.int i0)), (.val (.int i1)), (.val (.int i2)), (.val (.long xl)), .second, (.val (.int (Int32.ofNat (ds.length)))), (.val (.int cc0)), (.val (.int cc1)), (.val (.int cc2)), (.val (.ref na)), (.val (.ref s)), (.val (.ref tx)), (.val (.ref r)), (.val (.ref pa)), (.val (.int (1 : Int32))), (.val (.long (Jvm.Free.SBG.negL n))), .second, (.val (.int (Int32.ofNat (Jvm.Free.SBG.digitsL n)))), (.val (.int (1 : Int32))), (.val (.int (Int32.ofNat (16 + (ds.length) + 12)))), (.val (.int (Int32.ofNat (16 + (ds.length) + 12 + 1 + (Jvm.Free.SBG.digitsL n))))), (.val (.ref a38)), (.val (.ref a39)), (.val (.int (1 : Int32)))]) rfl ?_
  refine iIload C d0_728 rfl ?_
  refine iIfF C d0_730 (by decide) ?_
  refine iIload C d0_733 rfl ?_
  refine iIfF C d0_735 (by decide) ?_
  refine iAload C d0_738 rfl rfl ?_
  refine iIload C d0_740 rfl ?_
  refine iCallVB C (payCh hw (SX.ext (SX.ext HR E38) E39) (S0.ext O39.2) hz0 (S1.ext O39.2) rf (i := 16 + (ds.length) + 12) hSg.1 rfl (by decide) (by decide)) ((HR.1.ext E38).ext E39) tw242 tw243 (Or.inl rfl) tw245 tw244 ⟨by decide, by decide⟩ (argsL := [(.int (Int32.ofNat (16 + (ds.length) + 12)))]) (S' := []) (lenOf pd21 rfl) rfl rfl d0_742 rfl (W := 0) rfl ⟨rfl, rfl, by decide, by decide⟩ fun v48 h48 q48 => ?_
  obtain ⟨rfl, rfl⟩ := q48
  show Go B n0 _ h39 44 4120 745 _ [(.int ((TXT ds xx n).getD (16 + (ds.length) + 12) 0))]
  refine iBipush C d0_745 (v := (45 : Int32)) (by decide) ?_
  refine iCmpF C d0_747 (teq hSg.2).2 ?_
  refine iIconst C d0_750 (v := (1 : Int32)) (by decide) ?_
  refine iGoto C (t := 755) d0_751 ⟨by decide, by decide⟩ ?_
  refine iIstore C d0_755 (Ls' := #[(.val (.int i0)), (.val (.int i1)), (.val (.int i2)), (.val (.long xl)), .second, (.val (.int (Int32.ofNat (ds.length)))), (.val (.int cc0)), (.val (.int cc1)), (.val (.int cc2)), (.val (.ref na)), (.val (.ref s)), (.val (.ref tx)), (.val (.ref r)), (.val (.ref pa)), (.val (.int (1 : Int32))), (.val (.long (Jvm.Free.SBG.negL n))), .second, (.val (.int (Int32.ofNat (Jvm.Free.SBG.digitsL n)))), (.val (.int (1 : Int32))), (.val (.int (Int32.ofNat (16 + (ds.length) + 12)))), (.val (.int (Int32.ofNat (16 + (ds.length) + 12 + 1 + (Jvm.Free.SBG.digitsL n))))), (.val (.ref a38)), (.val (.ref a39)), (.val (.int (1 : Int32)))]) rfl ?_
  refine iIload C d0_757 rfl ?_
  refine iIfF C d0_759 (by decide) ?_
  refine iAload C d0_762 rfl rfl ?_
  refine iIload C d0_764 rfl ?_
  refine iCallVB C (payCh hw (SX.ext (SX.ext HR E38) E39) (S0.ext O39.2) hz0 (S1.ext O39.2) rf (i := 16 + (ds.length) + 12 + 1 + (Jvm.Free.SBG.digitsL n)) hEn.1 rfl (by decide) (by decide)) ((HR.1.ext E38).ext E39) tw242 tw243 (Or.inl rfl) tw245 tw244 ⟨by decide, by decide⟩ (argsL := [(.int (Int32.ofNat (16 + (ds.length) + 12 + 1 + (Jvm.Free.SBG.digitsL n))))]) (S' := []) (lenOf pd21 rfl) rfl rfl d0_766 rfl (W := 0) rfl ⟨rfl, rfl, by decide, by decide⟩ fun v49 h49 q49 => ?_
  obtain ⟨rfl, rfl⟩ := q49
  show Go B n0 _ h39 44 4120 769 _ [(.int ((TXT ds xx n).getD (16 + (ds.length) + 12 + 1 + (Jvm.Free.SBG.digitsL n)) 0))]
  refine iBipush C d0_769 (v := (93 : Int32)) (by decide) ?_
  refine iCmpF C d0_771 (teq hEn.2).2 ?_
  refine iIconst C d0_774 (v := (1 : Int32)) (by decide) ?_
  refine iGoto C (t := 779) d0_775 ⟨by decide, by decide⟩ ?_
  refine iIstore C d0_779 (Ls' := #[(.val (.int i0)), (.val (.int i1)), (.val (.int i2)), (.val (.long xl)), .second, (.val (.int (Int32.ofNat (ds.length)))), (.val (.int cc0)), (.val (.int cc1)), (.val (.int cc2)), (.val (.ref na)), (.val (.ref s)), (.val (.ref tx)), (.val (.ref r)), (.val (.ref pa)), (.val (.int (1 : Int32))), (.val (.long (Jvm.Free.SBG.negL n))), .second, (.val (.int (Int32.ofNat (Jvm.Free.SBG.digitsL n)))), (.val (.int (1 : Int32))), (.val (.int (Int32.ofNat (16 + (ds.length) + 12)))), (.val (.int (Int32.ofNat (16 + (ds.length) + 12 + 1 + (Jvm.Free.SBG.digitsL n))))), (.val (.ref a38)), (.val (.ref a39)), (.val (.int (1 : Int32)))]) rfl ?_
  refine iIload C d0_781 rfl ?_
  refine iIfF C d0_783 (by decide) ?_
  refine iAload C d0_786 rfl rfl ?_
  refine iIload C d0_788 rfl ?_
  refine iIload C d0_790 rfl ?_
  refine iLload C d0_792 rfl ?_
  refine iAload C d0_794 rfl rfl ?_
  refine iIconst C d0_796 (v := (0 : Int32)) (by decide) ?_
  obtain ⟨c50, A50, q50, z50, y50, H50, G50⟩ := id ((HP.ext E38).ext E39)
  refine iLaload C A50 (inb_of z50 ⟨by decide, by decide⟩) (H50.at (inb_of z50 ⟨by decide, by decide⟩) (by rfl)) d0_797 ?_
  refine iIconst C d0_798 (v := (0 : Int32)) (by decide) ?_
  refine iCallS C (rmDg hw O39 S0 hz0 S1 rf (SX.ext (SX.ext HR E38) E39) (by decide) (by omega) (by omega) (by omega) (fun hj => ⟨(hD 0 hj).1, (hD 0 hj).2.trans (own_digx hn (P := 10 ^ 0) (by decide) (p := (1 : Int64)) (by decide)).symm⟩)) tw264 tw265 tw231 tw266 ⟨by decide, by decide⟩ (argsL := [(.ref r), (.int (Int32.ofNat (16 + (ds.length) + 12 + 1 + (Jvm.Free.SBG.digitsL n)))), (.int (Int32.ofNat (Jvm.Free.SBG.digitsL n))), (.long (Jvm.Free.SBG.negL n)), (.long (1 : Int64)), (.int (0 : Int32))]) (S' := []) (lenOf pd28 rfl) rfl rfl d0_799 rfl (W := 0) rfl ⟨by decide, by decide, rfl, rfl, by decide, by decide⟩ fun v51 h51 q51 => ?_
  obtain ⟨rfl, rfl⟩ := q51
  show Go B n0 _ h39 44 4120 802 _ [(.int (1 : Int32))]
  refine iIfF C d0_802 (by decide) ?_
  refine iAload C d0_805 rfl rfl ?_
  refine iIload C d0_807 rfl ?_
  refine iIload C d0_809 rfl ?_
  refine iLload C d0_811 rfl ?_
  refine iAload C d0_813 rfl rfl ?_
  refine iIconst C d0_815 (v := (1 : Int32)) (by decide) ?_
  obtain ⟨c52, A52, q52, z52, y52, H52, G52⟩ := id ((HP.ext E38).ext E39)
  refine iLaload C A52 (inb_of z52 ⟨by decide, by decide⟩) (H52.at (inb_of z52 ⟨by decide, by decide⟩) (by rfl)) d0_816 ?_
  refine iIconst C d0_817 (v := (1 : Int32)) (by decide) ?_
  refine iCallS C (rmDg hw O39 S0 hz0 S1 rf (SX.ext (SX.ext HR E38) E39) (by decide) (by omega) (by omega) (by omega) (fun hj => ⟨(hD 1 hj).1, (hD 1 hj).2.trans (own_digx hn (P := 10 ^ 1) (by decide) (p := (10 : Int64)) (by decide)).symm⟩)) tw264 tw265 tw231 tw266 ⟨by decide, by decide⟩ (argsL := [(.ref r), (.int (Int32.ofNat (16 + (ds.length) + 12 + 1 + (Jvm.Free.SBG.digitsL n)))), (.int (Int32.ofNat (Jvm.Free.SBG.digitsL n))), (.long (Jvm.Free.SBG.negL n)), (.long (10 : Int64)), (.int (1 : Int32))]) (S' := []) (lenOf pd28 rfl) rfl rfl d0_818 rfl (W := 0) rfl ⟨by decide, by decide, rfl, rfl, by decide, by decide⟩ fun v53 h53 q53 => ?_
  obtain ⟨rfl, rfl⟩ := q53
  show Go B n0 _ h39 44 4120 821 _ [(.int (1 : Int32))]
  refine iIfF C d0_821 (by decide) ?_
  refine iAload C d0_824 rfl rfl ?_
  refine iIload C d0_826 rfl ?_
  refine iIload C d0_828 rfl ?_
  refine iLload C d0_830 rfl ?_
  refine iAload C d0_832 rfl rfl ?_
  refine iIconst C d0_834 (v := (2 : Int32)) (by decide) ?_
  obtain ⟨c54, A54, q54, z54, y54, H54, G54⟩ := id ((HP.ext E38).ext E39)
  refine iLaload C A54 (inb_of z54 ⟨by decide, by decide⟩) (H54.at (inb_of z54 ⟨by decide, by decide⟩) (by rfl)) d0_835 ?_
  refine iIconst C d0_836 (v := (2 : Int32)) (by decide) ?_
  refine iCallS C (rmDg hw O39 S0 hz0 S1 rf (SX.ext (SX.ext HR E38) E39) (by decide) (by omega) (by omega) (by omega) (fun hj => ⟨(hD 2 hj).1, (hD 2 hj).2.trans (own_digx hn (P := 10 ^ 2) (by decide) (p := (100 : Int64)) (by decide)).symm⟩)) tw264 tw265 tw231 tw266 ⟨by decide, by decide⟩ (argsL := [(.ref r), (.int (Int32.ofNat (16 + (ds.length) + 12 + 1 + (Jvm.Free.SBG.digitsL n)))), (.int (Int32.ofNat (Jvm.Free.SBG.digitsL n))), (.long (Jvm.Free.SBG.negL n)), (.long (100 : Int64)), (.int (2 : Int32))]) (S' := []) (lenOf pd28 rfl) rfl rfl d0_837 rfl (W := 0) rfl ⟨by decide, by decide, rfl, rfl, by decide, by decide⟩ fun v55 h55 q55 => ?_
  obtain ⟨rfl, rfl⟩ := q55
  show Go B n0 _ h39 44 4120 840 _ [(.int (1 : Int32))]
  refine iIfF C d0_840 (by decide) ?_
  refine iAload C d0_843 rfl rfl ?_
  refine iIload C d0_845 rfl ?_
  refine iIload C d0_847 rfl ?_
  refine iLload C d0_849 rfl ?_
  refine iAload C d0_851 rfl rfl ?_
  refine iIconst C d0_853 (v := (3 : Int32)) (by decide) ?_
  obtain ⟨c56, A56, q56, z56, y56, H56, G56⟩ := id ((HP.ext E38).ext E39)
  refine iLaload C A56 (inb_of z56 ⟨by decide, by decide⟩) (H56.at (inb_of z56 ⟨by decide, by decide⟩) (by rfl)) d0_854 ?_
  refine iIconst C d0_855 (v := (3 : Int32)) (by decide) ?_
  refine iCallS C (rmDg hw O39 S0 hz0 S1 rf (SX.ext (SX.ext HR E38) E39) (by decide) (by omega) (by omega) (by omega) (fun hj => ⟨(hD 3 hj).1, (hD 3 hj).2.trans (own_digx hn (P := 10 ^ 3) (by decide) (p := (1000 : Int64)) (by decide)).symm⟩)) tw264 tw265 tw231 tw266 ⟨by decide, by decide⟩ (argsL := [(.ref r), (.int (Int32.ofNat (16 + (ds.length) + 12 + 1 + (Jvm.Free.SBG.digitsL n)))), (.int (Int32.ofNat (Jvm.Free.SBG.digitsL n))), (.long (Jvm.Free.SBG.negL n)), (.long (1000 : Int64)), (.int (3 : Int32))]) (S' := []) (lenOf pd28 rfl) rfl rfl d0_856 rfl (W := 0) rfl ⟨by decide, by decide, rfl, rfl, by decide, by decide⟩ fun v57 h57 q57 => ?_
  obtain ⟨rfl, rfl⟩ := q57
  show Go B n0 _ h39 44 4120 859 _ [(.int (1 : Int32))]
  refine iIfF C d0_859 (by decide) ?_
  refine iAload C d0_862 rfl rfl ?_
  refine iIload C d0_864 rfl ?_
  refine iIload C d0_866 rfl ?_
  refine iLload C d0_868 rfl ?_
  refine iAload C d0_870 rfl rfl ?_
  refine iIconst C d0_872 (v := (4 : Int32)) (by decide) ?_
  obtain ⟨c58, A58, q58, z58, y58, H58, G58⟩ := id ((HP.ext E38).ext E39)
  refine iLaload C A58 (inb_of z58 ⟨by decide, by decide⟩) (H58.at (inb_of z58 ⟨by decide, by decide⟩) (by rfl)) d0_873 ?_
  refine iIconst C d0_874 (v := (4 : Int32)) (by decide) ?_
  refine iCallS C (rmDg hw O39 S0 hz0 S1 rf (SX.ext (SX.ext HR E38) E39) (by decide) (by omega) (by omega) (by omega) (fun hj => ⟨(hD 4 hj).1, (hD 4 hj).2.trans (own_digx hn (P := 10 ^ 4) (by decide) (p := (10000 : Int64)) (by decide)).symm⟩)) tw264 tw265 tw231 tw266 ⟨by decide, by decide⟩ (argsL := [(.ref r), (.int (Int32.ofNat (16 + (ds.length) + 12 + 1 + (Jvm.Free.SBG.digitsL n)))), (.int (Int32.ofNat (Jvm.Free.SBG.digitsL n))), (.long (Jvm.Free.SBG.negL n)), (.long (10000 : Int64)), (.int (4 : Int32))]) (S' := []) (lenOf pd28 rfl) rfl rfl d0_875 rfl (W := 0) rfl ⟨by decide, by decide, rfl, rfl, by decide, by decide⟩ fun v59 h59 q59 => ?_
  obtain ⟨rfl, rfl⟩ := q59
  show Go B n0 _ h39 44 4120 878 _ [(.int (1 : Int32))]
  refine iIfF C d0_878 (by decide) ?_
  refine iAload C d0_881 rfl rfl ?_
  refine iIload C d0_883 rfl ?_
  refine iIload C d0_885 rfl ?_
  refine iLload C d0_887 rfl ?_
  refine iAload C d0_889 rfl rfl ?_
  refine iIconst C d0_891 (v := (5 : Int32)) (by decide) ?_
  obtain ⟨c60, A60, q60, z60, y60, H60, G60⟩ := id ((HP.ext E38).ext E39)
  refine iLaload C A60 (inb_of z60 ⟨by decide, by decide⟩) (H60.at (inb_of z60 ⟨by decide, by decide⟩) (by rfl)) d0_892 ?_
  refine iIconst C d0_893 (v := (5 : Int32)) (by decide) ?_
  refine iCallS C (rmDg hw O39 S0 hz0 S1 rf (SX.ext (SX.ext HR E38) E39) (by decide) (by omega) (by omega) (by omega) (fun hj => ⟨(hD 5 hj).1, (hD 5 hj).2.trans (own_digx hn (P := 10 ^ 5) (by decide) (p := (100000 : Int64)) (by decide)).symm⟩)) tw264 tw265 tw231 tw266 ⟨by decide, by decide⟩ (argsL := [(.ref r), (.int (Int32.ofNat (16 + (ds.length) + 12 + 1 + (Jvm.Free.SBG.digitsL n)))), (.int (Int32.ofNat (Jvm.Free.SBG.digitsL n))), (.long (Jvm.Free.SBG.negL n)), (.long (100000 : Int64)), (.int (5 : Int32))]) (S' := []) (lenOf pd28 rfl) rfl rfl d0_894 rfl (W := 0) rfl ⟨by decide, by decide, rfl, rfl, by decide, by decide⟩ fun v61 h61 q61 => ?_
  obtain ⟨rfl, rfl⟩ := q61
  show Go B n0 _ h39 44 4120 897 _ [(.int (1 : Int32))]
  refine iIfF C d0_897 (by decide) ?_
  refine iAload C d0_900 rfl rfl ?_
  refine iIload C d0_902 rfl ?_
  refine iIload C d0_904 rfl ?_
  refine iLload C d0_906 rfl ?_
  refine iAload C d0_908 rfl rfl ?_
  refine iBipush C d0_910 (v := (6 : Int32)) (by decide) ?_
  obtain ⟨c62, A62, q62, z62, y62, H62, G62⟩ := id ((HP.ext E38).ext E39)
  refine iLaload C A62 (inb_of z62 ⟨by decide, by decide⟩) (H62.at (inb_of z62 ⟨by decide, by decide⟩) (by rfl)) d0_912 ?_
  refine iBipush C d0_913 (v := (6 : Int32)) (by decide) ?_
  refine iCallS C (rmDg hw O39 S0 hz0 S1 rf (SX.ext (SX.ext HR E38) E39) (by decide) (by omega) (by omega) (by omega) (fun hj => ⟨(hD 6 hj).1, (hD 6 hj).2.trans (own_digx hn (P := 10 ^ 6) (by decide) (p := (1000000 : Int64)) (by decide)).symm⟩)) tw264 tw265 tw231 tw266 ⟨by decide, by decide⟩ (argsL := [(.ref r), (.int (Int32.ofNat (16 + (ds.length) + 12 + 1 + (Jvm.Free.SBG.digitsL n)))), (.int (Int32.ofNat (Jvm.Free.SBG.digitsL n))), (.long (Jvm.Free.SBG.negL n)), (.long (1000000 : Int64)), (.int (6 : Int32))]) (S' := []) (lenOf pd28 rfl) rfl rfl d0_915 rfl (W := 0) rfl ⟨by decide, by decide, rfl, rfl, by decide, by decide⟩ fun v63 h63 q63 => ?_
  obtain ⟨rfl, rfl⟩ := q63
  show Go B n0 _ h39 44 4120 918 _ [(.int (1 : Int32))]
  refine iIfF C d0_918 (by decide) ?_
  refine iAload C d0_921 rfl rfl ?_
  refine iIload C d0_923 rfl ?_
  refine iIload C d0_925 rfl ?_
  refine iLload C d0_927 rfl ?_
  refine iAload C d0_929 rfl rfl ?_
  refine iBipush C d0_931 (v := (7 : Int32)) (by decide) ?_
  obtain ⟨c64, A64, q64, z64, y64, H64, G64⟩ := id ((HP.ext E38).ext E39)
  refine iLaload C A64 (inb_of z64 ⟨by decide, by decide⟩) (H64.at (inb_of z64 ⟨by decide, by decide⟩) (by rfl)) d0_933 ?_
  refine iBipush C d0_934 (v := (7 : Int32)) (by decide) ?_
  refine iCallS C (rmDg hw O39 S0 hz0 S1 rf (SX.ext (SX.ext HR E38) E39) (by decide) (by omega) (by omega) (by omega) (fun hj => ⟨(hD 7 hj).1, (hD 7 hj).2.trans (own_digx hn (P := 10 ^ 7) (by decide) (p := (10000000 : Int64)) (by decide)).symm⟩)) tw264 tw265 tw231 tw266 ⟨by decide, by decide⟩ (argsL := [(.ref r), (.int (Int32.ofNat (16 + (ds.length) + 12 + 1 + (Jvm.Free.SBG.digitsL n)))), (.int (Int32.ofNat (Jvm.Free.SBG.digitsL n))), (.long (Jvm.Free.SBG.negL n)), (.long (10000000 : Int64)), (.int (7 : Int32))]) (S' := []) (lenOf pd28 rfl) rfl rfl d0_936 rfl (W := 0) rfl ⟨by decide, by decide, rfl, rfl, by decide, by decide⟩ fun v65 h65 q65 => ?_
  obtain ⟨rfl, rfl⟩ := q65
  show Go B n0 _ h39 44 4120 939 _ [(.int (1 : Int32))]
  refine iIfF C d0_939 (by decide) ?_
  refine iAload C d0_942 rfl rfl ?_
  refine iIload C d0_944 rfl ?_
  refine iIload C d0_946 rfl ?_
  refine iLload C d0_948 rfl ?_
  refine iAload C d0_950 rfl rfl ?_
  refine iBipush C d0_952 (v := (8 : Int32)) (by decide) ?_
  obtain ⟨c66, A66, q66, z66, y66, H66, G66⟩ := id ((HP.ext E38).ext E39)
  refine iLaload C A66 (inb_of z66 ⟨by decide, by decide⟩) (H66.at (inb_of z66 ⟨by decide, by decide⟩) (by rfl)) d0_954 ?_
  refine iBipush C d0_955 (v := (8 : Int32)) (by decide) ?_
  refine iCallS C (rmDg hw O39 S0 hz0 S1 rf (SX.ext (SX.ext HR E38) E39) (by decide) (by omega) (by omega) (by omega) (fun hj => ⟨(hD 8 hj).1, (hD 8 hj).2.trans (own_digx hn (P := 10 ^ 8) (by decide) (p := (100000000 : Int64)) (by decide)).symm⟩)) tw264 tw265 tw231 tw266 ⟨by decide, by decide⟩ (argsL := [(.ref r), (.int (Int32.ofNat (16 + (ds.length) + 12 + 1 + (Jvm.Free.SBG.digitsL n)))), (.int (Int32.ofNat (Jvm.Free.SBG.digitsL n))), (.long (Jvm.Free.SBG.negL n)), (.long (100000000 : Int64)), (.int (8 : Int32))]) (S' := []) (lenOf pd28 rfl) rfl rfl d0_957 rfl (W := 0) rfl ⟨by decide, by decide, rfl, rfl, by decide, by decide⟩ fun v67 h67 q67 => ?_
  obtain ⟨rfl, rfl⟩ := q67
  show Go B n0 _ h39 44 4120 960 _ [(.int (1 : Int32))]
  refine iIfF C d0_960 (by decide) ?_
  refine iAload C d0_963 rfl rfl ?_
  refine iIload C d0_965 rfl ?_
  refine iIload C d0_967 rfl ?_
  refine iLload C d0_969 rfl ?_
  refine iAload C d0_971 rfl rfl ?_
  refine iBipush C d0_973 (v := (9 : Int32)) (by decide) ?_
  obtain ⟨c68, A68, q68, z68, y68, H68, G68⟩ := id ((HP.ext E38).ext E39)
  refine iLaload C A68 (inb_of z68 ⟨by decide, by decide⟩) (H68.at (inb_of z68 ⟨by decide, by decide⟩) (by rfl)) d0_975 ?_
  refine iBipush C d0_976 (v := (9 : Int32)) (by decide) ?_
  refine iCallS C (rmDg hw O39 S0 hz0 S1 rf (SX.ext (SX.ext HR E38) E39) (by decide) (by omega) (by omega) (by omega) (fun hj => ⟨(hD 9 hj).1, (hD 9 hj).2.trans (own_digx hn (P := 10 ^ 9) (by decide) (p := (1000000000 : Int64)) (by decide)).symm⟩)) tw264 tw265 tw231 tw266 ⟨by decide, by decide⟩ (argsL := [(.ref r), (.int (Int32.ofNat (16 + (ds.length) + 12 + 1 + (Jvm.Free.SBG.digitsL n)))), (.int (Int32.ofNat (Jvm.Free.SBG.digitsL n))), (.long (Jvm.Free.SBG.negL n)), (.long (1000000000 : Int64)), (.int (9 : Int32))]) (S' := []) (lenOf pd28 rfl) rfl rfl d0_978 rfl (W := 0) rfl ⟨by decide, by decide, rfl, rfl, by decide, by decide⟩ fun v69 h69 q69 => ?_
  obtain ⟨rfl, rfl⟩ := q69
  show Go B n0 _ h39 44 4120 981 _ [(.int (1 : Int32))]
  refine iIfF C d0_981 (by decide) ?_
  refine iAload C d0_984 rfl rfl ?_
  refine iIload C d0_986 rfl ?_
  refine iIload C d0_988 rfl ?_
  refine iLload C d0_990 rfl ?_
  refine iAload C d0_992 rfl rfl ?_
  refine iBipush C d0_994 (v := (10 : Int32)) (by decide) ?_
  obtain ⟨c70, A70, q70, z70, y70, H70, G70⟩ := id ((HP.ext E38).ext E39)
  refine iLaload C A70 (inb_of z70 ⟨by decide, by decide⟩) (H70.at (inb_of z70 ⟨by decide, by decide⟩) (by rfl)) d0_996 ?_
  refine iBipush C d0_997 (v := (10 : Int32)) (by decide) ?_
  refine iCallS C (rmDg hw O39 S0 hz0 S1 rf (SX.ext (SX.ext HR E38) E39) (by decide) (by omega) (by omega) (by omega) (fun hj => ⟨(hD 10 hj).1, (hD 10 hj).2.trans (own_digx hn (P := 10 ^ 10) (by decide) (p := (10000000000 : Int64)) (by decide)).symm⟩)) tw264 tw265 tw231 tw266 ⟨by decide, by decide⟩ (argsL := [(.ref r), (.int (Int32.ofNat (16 + (ds.length) + 12 + 1 + (Jvm.Free.SBG.digitsL n)))), (.int (Int32.ofNat (Jvm.Free.SBG.digitsL n))), (.long (Jvm.Free.SBG.negL n)), (.long (10000000000 : Int64)), (.int (10 : Int32))]) (S' := []) (lenOf pd28 rfl) rfl rfl d0_999 rfl (W := 0) rfl ⟨by decide, by decide, rfl, rfl, by decide, by decide⟩ fun v71 h71 q71 => ?_
  obtain ⟨rfl, rfl⟩ := q71
  show Go B n0 _ h39 44 4120 1002 _ [(.int (1 : Int32))]
  refine iIfF C d0_1002 (by decide) ?_
  refine iAload C d0_1005 rfl rfl ?_
  refine iIload C d0_1007 rfl ?_
  refine iIload C d0_1009 rfl ?_
  refine iLload C d0_1011 rfl ?_
  refine iAload C d0_1013 rfl rfl ?_
  refine iBipush C d0_1015 (v := (11 : Int32)) (by decide) ?_
  obtain ⟨c72, A72, q72, z72, y72, H72, G72⟩ := id ((HP.ext E38).ext E39)
  refine iLaload C A72 (inb_of z72 ⟨by decide, by decide⟩) (H72.at (inb_of z72 ⟨by decide, by decide⟩) (by rfl)) d0_1017 ?_
  refine iBipush C d0_1018 (v := (11 : Int32)) (by decide) ?_
  refine iCallS C (rmDg hw O39 S0 hz0 S1 rf (SX.ext (SX.ext HR E38) E39) (by decide) (by omega) (by omega) (by omega) (fun hj => ⟨(hD 11 hj).1, (hD 11 hj).2.trans (own_digx hn (P := 10 ^ 11) (by decide) (p := (100000000000 : Int64)) (by decide)).symm⟩)) tw264 tw265 tw231 tw266 ⟨by decide, by decide⟩ (argsL := [(.ref r), (.int (Int32.ofNat (16 + (ds.length) + 12 + 1 + (Jvm.Free.SBG.digitsL n)))), (.int (Int32.ofNat (Jvm.Free.SBG.digitsL n))), (.long (Jvm.Free.SBG.negL n)), (.long (100000000000 : Int64)), (.int (11 : Int32))]) (S' := []) (lenOf pd28 rfl) rfl rfl d0_1020 rfl (W := 0) rfl ⟨by decide, by decide, rfl, rfl, by decide, by decide⟩ fun v73 h73 q73 => ?_
  obtain ⟨rfl, rfl⟩ := q73
  show Go B n0 _ h39 44 4120 1023 _ [(.int (1 : Int32))]
  refine iIfF C d0_1023 (by decide) ?_
  refine iAload C d0_1026 rfl rfl ?_
  refine iIload C d0_1028 rfl ?_
  refine iIload C d0_1030 rfl ?_
  refine iLload C d0_1032 rfl ?_
  refine iAload C d0_1034 rfl rfl ?_
  refine iBipush C d0_1036 (v := (12 : Int32)) (by decide) ?_
  obtain ⟨c74, A74, q74, z74, y74, H74, G74⟩ := id ((HP.ext E38).ext E39)
  refine iLaload C A74 (inb_of z74 ⟨by decide, by decide⟩) (H74.at (inb_of z74 ⟨by decide, by decide⟩) (by rfl)) d0_1038 ?_
  refine iBipush C d0_1039 (v := (12 : Int32)) (by decide) ?_
  refine iCallS C (rmDg hw O39 S0 hz0 S1 rf (SX.ext (SX.ext HR E38) E39) (by decide) (by omega) (by omega) (by omega) (fun hj => ⟨(hD 12 hj).1, (hD 12 hj).2.trans (own_digx hn (P := 10 ^ 12) (by decide) (p := (1000000000000 : Int64)) (by decide)).symm⟩)) tw264 tw265 tw231 tw266 ⟨by decide, by decide⟩ (argsL := [(.ref r), (.int (Int32.ofNat (16 + (ds.length) + 12 + 1 + (Jvm.Free.SBG.digitsL n)))), (.int (Int32.ofNat (Jvm.Free.SBG.digitsL n))), (.long (Jvm.Free.SBG.negL n)), (.long (1000000000000 : Int64)), (.int (12 : Int32))]) (S' := []) (lenOf pd28 rfl) rfl rfl d0_1041 rfl (W := 0) rfl ⟨by decide, by decide, rfl, rfl, by decide, by decide⟩ fun v75 h75 q75 => ?_
  obtain ⟨rfl, rfl⟩ := q75
  show Go B n0 _ h39 44 4120 1044 _ [(.int (1 : Int32))]
  refine iIfF C d0_1044 (by decide) ?_
  refine iAload C d0_1047 rfl rfl ?_
  refine iIload C d0_1049 rfl ?_
  refine iIload C d0_1051 rfl ?_
  refine iLload C d0_1053 rfl ?_
  refine iAload C d0_1055 rfl rfl ?_
  refine iBipush C d0_1057 (v := (13 : Int32)) (by decide) ?_
  obtain ⟨c76, A76, q76, z76, y76, H76, G76⟩ := id ((HP.ext E38).ext E39)
  refine iLaload C A76 (inb_of z76 ⟨by decide, by decide⟩) (H76.at (inb_of z76 ⟨by decide, by decide⟩) (by rfl)) d0_1059 ?_
  refine iBipush C d0_1060 (v := (13 : Int32)) (by decide) ?_
  refine iCallS C (rmDg hw O39 S0 hz0 S1 rf (SX.ext (SX.ext HR E38) E39) (by decide) (by omega) (by omega) (by omega) (fun hj => ⟨(hD 13 hj).1, (hD 13 hj).2.trans (own_digx hn (P := 10 ^ 13) (by decide) (p := (10000000000000 : Int64)) (by decide)).symm⟩)) tw264 tw265 tw231 tw266 ⟨by decide, by decide⟩ (argsL := [(.ref r), (.int (Int32.ofNat (16 + (ds.length) + 12 + 1 + (Jvm.Free.SBG.digitsL n)))), (.int (Int32.ofNat (Jvm.Free.SBG.digitsL n))), (.long (Jvm.Free.SBG.negL n)), (.long (10000000000000 : Int64)), (.int (13 : Int32))]) (S' := []) (lenOf pd28 rfl) rfl rfl d0_1062 rfl (W := 0) rfl ⟨by decide, by decide, rfl, rfl, by decide, by decide⟩ fun v77 h77 q77 => ?_
  obtain ⟨rfl, rfl⟩ := q77
  show Go B n0 _ h39 44 4120 1065 _ [(.int (1 : Int32))]
  refine iIfF C d0_1065 (by decide) ?_
  refine iAload C d0_1068 rfl rfl ?_
  refine iIload C d0_1070 rfl ?_
  refine iIload C d0_1072 rfl ?_
  refine iLload C d0_1074 rfl ?_
  refine iAload C d0_1076 rfl rfl ?_
  refine iBipush C d0_1078 (v := (14 : Int32)) (by decide) ?_
  obtain ⟨c78, A78, q78, z78, y78, H78, G78⟩ := id ((HP.ext E38).ext E39)
  refine iLaload C A78 (inb_of z78 ⟨by decide, by decide⟩) (H78.at (inb_of z78 ⟨by decide, by decide⟩) (by rfl)) d0_1080 ?_
  refine iBipush C d0_1081 (v := (14 : Int32)) (by decide) ?_
  refine iCallS C (rmDg hw O39 S0 hz0 S1 rf (SX.ext (SX.ext HR E38) E39) (by decide) (by omega) (by omega) (by omega) (fun hj => ⟨(hD 14 hj).1, (hD 14 hj).2.trans (own_digx hn (P := 10 ^ 14) (by decide) (p := (100000000000000 : Int64)) (by decide)).symm⟩)) tw264 tw265 tw231 tw266 ⟨by decide, by decide⟩ (argsL := [(.ref r), (.int (Int32.ofNat (16 + (ds.length) + 12 + 1 + (Jvm.Free.SBG.digitsL n)))), (.int (Int32.ofNat (Jvm.Free.SBG.digitsL n))), (.long (Jvm.Free.SBG.negL n)), (.long (100000000000000 : Int64)), (.int (14 : Int32))]) (S' := []) (lenOf pd28 rfl) rfl rfl d0_1083 rfl (W := 0) rfl ⟨by decide, by decide, rfl, rfl, by decide, by decide⟩ fun v79 h79 q79 => ?_
  obtain ⟨rfl, rfl⟩ := q79
  show Go B n0 _ h39 44 4120 1086 _ [(.int (1 : Int32))]
  refine iIfF C d0_1086 (by decide) ?_
  refine iAload C d0_1089 rfl rfl ?_
  refine iIload C d0_1091 rfl ?_
  refine iIload C d0_1093 rfl ?_
  refine iLload C d0_1095 rfl ?_
  refine iAload C d0_1097 rfl rfl ?_
  refine iBipush C d0_1099 (v := (15 : Int32)) (by decide) ?_
  obtain ⟨c80, A80, q80, z80, y80, H80, G80⟩ := id ((HP.ext E38).ext E39)
  refine iLaload C A80 (inb_of z80 ⟨by decide, by decide⟩) (H80.at (inb_of z80 ⟨by decide, by decide⟩) (by rfl)) d0_1101 ?_
  refine iBipush C d0_1102 (v := (15 : Int32)) (by decide) ?_
  refine iCallS C (rmDg hw O39 S0 hz0 S1 rf (SX.ext (SX.ext HR E38) E39) (by decide) (by omega) (by omega) (by omega) (fun hj => ⟨(hD 15 hj).1, (hD 15 hj).2.trans (own_digx hn (P := 10 ^ 15) (by decide) (p := (1000000000000000 : Int64)) (by decide)).symm⟩)) tw264 tw265 tw231 tw266 ⟨by decide, by decide⟩ (argsL := [(.ref r), (.int (Int32.ofNat (16 + (ds.length) + 12 + 1 + (Jvm.Free.SBG.digitsL n)))), (.int (Int32.ofNat (Jvm.Free.SBG.digitsL n))), (.long (Jvm.Free.SBG.negL n)), (.long (1000000000000000 : Int64)), (.int (15 : Int32))]) (S' := []) (lenOf pd28 rfl) rfl rfl d0_1104 rfl (W := 0) rfl ⟨by decide, by decide, rfl, rfl, by decide, by decide⟩ fun v81 h81 q81 => ?_
  obtain ⟨rfl, rfl⟩ := q81
  show Go B n0 _ h39 44 4120 1107 _ [(.int (1 : Int32))]
  refine iIfF C d0_1107 (by decide) ?_
  refine iAload C d0_1110 rfl rfl ?_
  refine iIload C d0_1112 rfl ?_
  refine iIload C d0_1114 rfl ?_
  refine iLload C d0_1116 rfl ?_
  refine iAload C d0_1118 rfl rfl ?_
  refine iBipush C d0_1120 (v := (16 : Int32)) (by decide) ?_
  obtain ⟨c82, A82, q82, z82, y82, H82, G82⟩ := id ((HP.ext E38).ext E39)
  refine iLaload C A82 (inb_of z82 ⟨by decide, by decide⟩) (H82.at (inb_of z82 ⟨by decide, by decide⟩) (by rfl)) d0_1122 ?_
  refine iBipush C d0_1123 (v := (16 : Int32)) (by decide) ?_
  refine iCallS C (rmDg hw O39 S0 hz0 S1 rf (SX.ext (SX.ext HR E38) E39) (by decide) (by omega) (by omega) (by omega) (fun hj => ⟨(hD 16 hj).1, (hD 16 hj).2.trans (own_digx hn (P := 10 ^ 16) (by decide) (p := (10000000000000000 : Int64)) (by decide)).symm⟩)) tw264 tw265 tw231 tw266 ⟨by decide, by decide⟩ (argsL := [(.ref r), (.int (Int32.ofNat (16 + (ds.length) + 12 + 1 + (Jvm.Free.SBG.digitsL n)))), (.int (Int32.ofNat (Jvm.Free.SBG.digitsL n))), (.long (Jvm.Free.SBG.negL n)), (.long (10000000000000000 : Int64)), (.int (16 : Int32))]) (S' := []) (lenOf pd28 rfl) rfl rfl d0_1125 rfl (W := 0) rfl ⟨by decide, by decide, rfl, rfl, by decide, by decide⟩ fun v83 h83 q83 => ?_
  obtain ⟨rfl, rfl⟩ := q83
  show Go B n0 _ h39 44 4120 1128 _ [(.int (1 : Int32))]
  refine iIfF C d0_1128 (by decide) ?_
  refine iAload C d0_1131 rfl rfl ?_
  refine iIload C d0_1133 rfl ?_
  refine iIload C d0_1135 rfl ?_
  refine iLload C d0_1137 rfl ?_
  refine iAload C d0_1139 rfl rfl ?_
  refine iBipush C d0_1141 (v := (17 : Int32)) (by decide) ?_
  obtain ⟨c84, A84, q84, z84, y84, H84, G84⟩ := id ((HP.ext E38).ext E39)
  refine iLaload C A84 (inb_of z84 ⟨by decide, by decide⟩) (H84.at (inb_of z84 ⟨by decide, by decide⟩) (by rfl)) d0_1143 ?_
  refine iBipush C d0_1144 (v := (17 : Int32)) (by decide) ?_
  refine iCallS C (rmDg hw O39 S0 hz0 S1 rf (SX.ext (SX.ext HR E38) E39) (by decide) (by omega) (by omega) (by omega) (fun hj => ⟨(hD 17 hj).1, (hD 17 hj).2.trans (own_digx hn (P := 10 ^ 17) (by decide) (p := (100000000000000000 : Int64)) (by decide)).symm⟩)) tw264 tw265 tw231 tw266 ⟨by decide, by decide⟩ (argsL := [(.ref r), (.int (Int32.ofNat (16 + (ds.length) + 12 + 1 + (Jvm.Free.SBG.digitsL n)))), (.int (Int32.ofNat (Jvm.Free.SBG.digitsL n))), (.long (Jvm.Free.SBG.negL n)), (.long (100000000000000000 : Int64)), (.int (17 : Int32))]) (S' := []) (lenOf pd28 rfl) rfl rfl d0_1146 rfl (W := 0) rfl ⟨by decide, by decide, rfl, rfl, by decide, by decide⟩ fun v85 h85 q85 => ?_
  obtain ⟨rfl, rfl⟩ := q85
  show Go B n0 _ h39 44 4120 1149 _ [(.int (1 : Int32))]
  refine iIfF C d0_1149 (by decide) ?_
  refine iAload C d0_1152 rfl rfl ?_
  refine iIload C d0_1154 rfl ?_
  refine iIload C d0_1156 rfl ?_
  refine iLload C d0_1158 rfl ?_
  refine iAload C d0_1160 rfl rfl ?_
  refine iBipush C d0_1162 (v := (18 : Int32)) (by decide) ?_
  obtain ⟨c86, A86, q86, z86, y86, H86, G86⟩ := id ((HP.ext E38).ext E39)
  refine iLaload C A86 (inb_of z86 ⟨by decide, by decide⟩) (H86.at (inb_of z86 ⟨by decide, by decide⟩) (by rfl)) d0_1164 ?_
  refine iBipush C d0_1165 (v := (18 : Int32)) (by decide) ?_
  refine iCallS C (rmDg hw O39 S0 hz0 S1 rf (SX.ext (SX.ext HR E38) E39) (by decide) (by omega) (by omega) (by omega) (fun hj => ⟨(hD 18 hj).1, (hD 18 hj).2.trans (own_digx hn (P := 10 ^ 18) (by decide) (p := (1000000000000000000 : Int64)) (by decide)).symm⟩)) tw264 tw265 tw231 tw266 ⟨by decide, by decide⟩ (argsL := [(.ref r), (.int (Int32.ofNat (16 + (ds.length) + 12 + 1 + (Jvm.Free.SBG.digitsL n)))), (.int (Int32.ofNat (Jvm.Free.SBG.digitsL n))), (.long (Jvm.Free.SBG.negL n)), (.long (1000000000000000000 : Int64)), (.int (18 : Int32))]) (S' := []) (lenOf pd28 rfl) rfl rfl d0_1167 rfl (W := 0) rfl ⟨by decide, by decide, rfl, rfl, by decide, by decide⟩ fun v87 h87 q87 => ?_
  obtain ⟨rfl, rfl⟩ := q87
  show Go B n0 _ h39 44 4120 1170 _ [(.int (1 : Int32))]
  refine iIfF C d0_1170 (by decide) ?_
  refine iIconst C d0_1173 (v := (1 : Int32)) (by decide) ?_
  refine iGoto C (t := 1178) d0_1174 ⟨by decide, by decide⟩ ?_
  refine iIstore C d0_1178 (Ls' := #[(.val (.int i0)), (.val (.int i1)), (.val (.int i2)), (.val (.long xl)), .second, (.val (.int (Int32.ofNat (ds.length)))), (.val (.int cc0)), (.val (.int cc1)), (.val (.int cc2)), (.val (.ref na)), (.val (.ref s)), (.val (.ref tx)), (.val (.ref r)), (.val (.ref pa)), (.val (.int (1 : Int32))), (.val (.long (Jvm.Free.SBG.negL n))), .second, (.val (.int (Int32.ofNat (Jvm.Free.SBG.digitsL n)))), (.val (.int (1 : Int32))), (.val (.int (Int32.ofNat (16 + (ds.length) + 12)))), (.val (.int (Int32.ofNat (16 + (ds.length) + 12 + 1 + (Jvm.Free.SBG.digitsL n))))), (.val (.ref a38)), (.val (.ref a39)), (.val (.int (1 : Int32)))]) rfl ?_
  refine iIload C d0_1180 rfl ?_
  refine iRetZC C D HC39 d0_1182 (by simp) ⟨Nat.le_refl _, by decide, by decide⟩ ?_
  exact rfl
set_option maxRecDepth 65536 in
set_option maxHeartbeats 4000000 in
theorem TB {l : Launch} {Z : State} {a0 : Array Value} (hw : ∀ d ∈ tables_1, d.before a0 Z = true) {n0 : Nat} {h0 hS : Heap} {vmS : Vm} {i0 i1 i2 cc0 cc1 cc2 : Int32} {xx : Int64} {n : Nat} {na s tx r t t2 : Addr} {k k2 : ClassId} {ds : List Int32} (O : Old Z n0 h0) {z0 : Int32} (S0 : Sta Z Z.heap "java/lang/String" "COMPACT_STRINGS" "Z" (.int z0)) (hz0 : ¬ z0 = 0) {fm : Value} (S1 : Sta Z Z.heap "jdk/internal/util/Preconditions" "SIOOBE_FORMATTER" "Ljava/util/function/BiFunction;" fm) (rf : fm.isRef = true) (HR : SX Z h0 r t k (TXT ds xx n)) (HN : SX Z h0 s t2 k2 ds) (hds : ds.length ≤ 3) (hn : n ≤ 2 ^ 63) (hx : (if xx < 0 then xx else -xx) = Jvm.Free.SBG.negL n) {B : Bx} (C : Cx B l Z a0 room_1 x code maxLocals ret n0) (D : Wc B Z a0 EL vmS hS n0) (HC : Chx B Z EL vmS hS h0) :
    Go B n0 (fun v _ => v = some (.int 1)) h0 39 3981 172 #[(.val (.int i0)), (.val (.int i1)), (.val (.int i2)), (.val (.long xx)), .second, (.val (.int (Int32.ofNat (ds.length)))), (.val (.int cc0)), (.val (.int cc1)), (.val (.int cc2)), (.val (.ref na)), (.val (.ref s)), (.val (.ref tx)), (.val (.ref r)), .unset, .unset, .unset, .unset, .unset, .unset, .unset, .unset, .unset, .unset, .unset] [] := by
  refine iBipush C d0_172 (v := (19 : Int32)) (by decide) ?_
  refine iNewP C (aty := .long) tw210 d0_174 (by decide) (cap := 19) (by decide) (by decide) ⟨rfl, rfl, by decide, by decide⟩ fun h1 a1 k1 g1 E1 V1 => ?_
  have n_a1 : n0 ≤ a1 := oFresh O g1
  have O1 := O.ext E1
  have HC_2 := Chx.ext HC E1
  have V1 : Arv Z h1 a1 k1 .long (19 : Int32) [(.long 0), (.long 0), (.long 0), (.long 0), (.long 0), (.long 0), (.long 0), (.long 0), (.long 0), (.long 0), (.long 0), (.long 0), (.long 0), (.long 0), (.long 0), (.long 0), (.long 0), (.long 0), (.long 0)] (.long 0) := V1.pad (pad_rep [] (.long 0) 19)
  refine iDup C d0_176 rfl ?_
  refine iIconst C d0_177 (v := (0 : Int32)) (by decide) ?_
  refine iLconst C d0_178 (v := (1 : Int64)) (by decide) ?_
  obtain ⟨c3, A3, q3, z3, y3, H3, G3⟩ := id V1
  refine iLastore C A3 (inb_of z3 ⟨by decide, by decide⟩) n_a1 d0_179 fun h3 W3 => ?_
  have V3 : Arv Z h3 a1 k1 .long (19 : Int32) [(.long (1 : Int64)), (.long 0), (.long 0), (.long 0), (.long 0), (.long 0), (.long 0), (.long 0), (.long 0), (.long 0), (.long 0), (.long 0), (.long 0), (.long 0), (.long 0), (.long 0), (.long 0), (.long 0), (.long 0)] (.long 0) := Arv.set A3 q3 z3 y3 H3 G3 rfl W3 0 (by decide) (Nat.le_of_ble_eq_true rfl)
  have O3 := O1.wr W3 n_a1
  have HC_4 := Chx.wr HC_2 W3 (Sfx.arv C V1 (by decide))
  refine iDup C d0_180 rfl ?_
  refine iIconst C d0_181 (v := (1 : Int32)) (by decide) ?_
  refine iLdc2 C tw211 d0_182 ?_
  obtain ⟨c5, A5, q5, z5, y5, H5, G5⟩ := id V3
  refine iLastore C A5 (inb_of z5 ⟨by decide, by decide⟩) n_a1 d0_185 fun h5 W5 => ?_
  have V5 : Arv Z h5 a1 k1 .long (19 : Int32) [(.long (1 : Int64)), (.long (10 : Int64)), (.long 0), (.long 0), (.long 0), (.long 0), (.long 0), (.long 0), (.long 0), (.long 0), (.long 0), (.long 0), (.long 0), (.long 0), (.long 0), (.long 0), (.long 0), (.long 0), (.long 0)] (.long 0) := Arv.set A5 q5 z5 y5 H5 G5 rfl W5 1 (by decide) (Nat.le_of_ble_eq_true rfl)
  have O5 := O3.wr W5 n_a1
  have HC_6 := Chx.wr HC_4 W5 (Sfx.arv C V3 (by decide))
  refine iDup C d0_186 rfl ?_
  refine iIconst C d0_187 (v := (2 : Int32)) (by decide) ?_
  refine iLdc2 C tw212 d0_188 ?_
  obtain ⟨c7, A7, q7, z7, y7, H7, G7⟩ := id V5
  refine iLastore C A7 (inb_of z7 ⟨by decide, by decide⟩) n_a1 d0_191 fun h7 W7 => ?_
  have V7 : Arv Z h7 a1 k1 .long (19 : Int32) [(.long (1 : Int64)), (.long (10 : Int64)), (.long (100 : Int64)), (.long 0), (.long 0), (.long 0), (.long 0), (.long 0), (.long 0), (.long 0), (.long 0), (.long 0), (.long 0), (.long 0), (.long 0), (.long 0), (.long 0), (.long 0), (.long 0)] (.long 0) := Arv.set A7 q7 z7 y7 H7 G7 rfl W7 2 (by decide) (Nat.le_of_ble_eq_true rfl)
  have O7 := O5.wr W7 n_a1
  have HC_8 := Chx.wr HC_6 W7 (Sfx.arv C V5 (by decide))
  refine iDup C d0_192 rfl ?_
  refine iIconst C d0_193 (v := (3 : Int32)) (by decide) ?_
  refine iLdc2 C tw213 d0_194 ?_
  obtain ⟨c9, A9, q9, z9, y9, H9, G9⟩ := id V7
  refine iLastore C A9 (inb_of z9 ⟨by decide, by decide⟩) n_a1 d0_197 fun h9 W9 => ?_
  have V9 : Arv Z h9 a1 k1 .long (19 : Int32) [(.long (1 : Int64)), (.long (10 : Int64)), (.long (100 : Int64)), (.long (1000 : Int64)), (.long 0), (.long 0), (.long 0), (.long 0), (.long 0), (.long 0), (.long 0), (.long 0), (.long 0), (.long 0), (.long 0), (.long 0), (.long 0), (.long 0), (.long 0)] (.long 0) := Arv.set A9 q9 z9 y9 H9 G9 rfl W9 3 (by decide) (Nat.le_of_ble_eq_true rfl)
  have O9 := O7.wr W9 n_a1
  have HC_10 := Chx.wr HC_8 W9 (Sfx.arv C V7 (by decide))
  refine iDup C d0_198 rfl ?_
  refine iIconst C d0_199 (v := (4 : Int32)) (by decide) ?_
  refine iLdc2 C tw214 d0_200 ?_
  obtain ⟨c11, A11, q11, z11, y11, H11, G11⟩ := id V9
  refine iLastore C A11 (inb_of z11 ⟨by decide, by decide⟩) n_a1 d0_203 fun h11 W11 => ?_
  have V11 : Arv Z h11 a1 k1 .long (19 : Int32) [(.long (1 : Int64)), (.long (10 : Int64)), (.long (100 : Int64)), (.long (1000 : Int64)), (.long (10000 : Int64)), (.long 0), (.long 0), (.long 0), (.long 0), (.long 0), (.long 0), (.long 0), (.long 0), (.long 0), (.long 0), (.long 0), (.long 0), (.long 0), (.long 0)] (.long 0) := Arv.set A11 q11 z11 y11 H11 G11 rfl W11 4 (by decide) (Nat.le_of_ble_eq_true rfl)
  have O11 := O9.wr W11 n_a1
  have HC_12 := Chx.wr HC_10 W11 (Sfx.arv C V9 (by decide))
  refine iDup C d0_204 rfl ?_
  refine iIconst C d0_205 (v := (5 : Int32)) (by decide) ?_
  refine iLdc2 C tw215 d0_206 ?_
  obtain ⟨c13, A13, q13, z13, y13, H13, G13⟩ := id V11
  refine iLastore C A13 (inb_of z13 ⟨by decide, by decide⟩) n_a1 d0_209 fun h13 W13 => ?_
  have V13 : Arv Z h13 a1 k1 .long (19 : Int32) [(.long (1 : Int64)), (.long (10 : Int64)), (.long (100 : Int64)), (.long (1000 : Int64)), (.long (10000 : Int64)), (.long (100000 : Int64)), (.long 0), (.long 0), (.long 0), (.long 0), (.long 0), (.long 0), (.long 0), (.long 0), (.long 0), (.long 0), (.long 0), (.long 0), (.long 0)] (.long 0) := Arv.set A13 q13 z13 y13 H13 G13 rfl W13 5 (by decide) (Nat.le_of_ble_eq_true rfl)
  have O13 := O11.wr W13 n_a1
  have HC_14 := Chx.wr HC_12 W13 (Sfx.arv C V11 (by decide))
  refine iDup C d0_210 rfl ?_
  refine iBipush C d0_211 (v := (6 : Int32)) (by decide) ?_
  refine iLdc2 C tw216 d0_213 ?_
  obtain ⟨c15, A15, q15, z15, y15, H15, G15⟩ := id V13
  refine iLastore C A15 (inb_of z15 ⟨by decide, by decide⟩) n_a1 d0_216 fun h15 W15 => ?_
  have V15 : Arv Z h15 a1 k1 .long (19 : Int32) [(.long (1 : Int64)), (.long (10 : Int64)), (.long (100 : Int64)), (.long (1000 : Int64)), (.long (10000 : Int64)), (.long (100000 : Int64)), (.long (1000000 : Int64)), (.long 0), (.long 0), (.long 0), (.long 0), (.long 0), (.long 0), (.long 0), (.long 0), (.long 0), (.long 0), (.long 0), (.long 0)] (.long 0) := Arv.set A15 q15 z15 y15 H15 G15 rfl W15 6 (by decide) (Nat.le_of_ble_eq_true rfl)
  have O15 := O13.wr W15 n_a1
  have HC_16 := Chx.wr HC_14 W15 (Sfx.arv C V13 (by decide))
  refine iDup C d0_217 rfl ?_
  refine iBipush C d0_218 (v := (7 : Int32)) (by decide) ?_
  refine iLdc2 C tw217 d0_220 ?_
  obtain ⟨c17, A17, q17, z17, y17, H17, G17⟩ := id V15
  refine iLastore C A17 (inb_of z17 ⟨by decide, by decide⟩) n_a1 d0_223 fun h17 W17 => ?_
  have V17 : Arv Z h17 a1 k1 .long (19 : Int32) [(.long (1 : Int64)), (.long (10 : Int64)), (.long (100 : Int64)), (.long (1000 : Int64)), (.long (10000 : Int64)), (.long (100000 : Int64)), (.long (1000000 : Int64)), (.long (10000000 : Int64)), (.long 0), (.long 0), (.long 0), (.long 0), (.long 0), (.long 0), (.long 0), (.long 0), (.long 0), (.long 0), (.long 0)] (.long 0) := Arv.set A17 q17 z17 y17 H17 G17 rfl W17 7 (by decide) (Nat.le_of_ble_eq_true rfl)
  have O17 := O15.wr W17 n_a1
  have HC_18 := Chx.wr HC_16 W17 (Sfx.arv C V15 (by decide))
  refine iDup C d0_224 rfl ?_
  refine iBipush C d0_225 (v := (8 : Int32)) (by decide) ?_
  refine iLdc2 C tw218 d0_227 ?_
  obtain ⟨c19, A19, q19, z19, y19, H19, G19⟩ := id V17
  refine iLastore C A19 (inb_of z19 ⟨by decide, by decide⟩) n_a1 d0_230 fun h19 W19 => ?_
  have V19 : Arv Z h19 a1 k1 .long (19 : Int32) [(.long (1 : Int64)), (.long (10 : Int64)), (.long (100 : Int64)), (.long (1000 : Int64)), (.long (10000 : Int64)), (.long (100000 : Int64)), (.long (1000000 : Int64)), (.long (10000000 : Int64)), (.long (100000000 : Int64)), (.long 0), (.long 0), (.long 0), (.long 0), (.long 0), (.long 0), (.long 0), (.long 0), (.long 0), (.long 0)] (.long 0) := Arv.set A19 q19 z19 y19 H19 G19 rfl W19 8 (by decide) (Nat.le_of_ble_eq_true rfl)
  have O19 := O17.wr W19 n_a1
  have HC_20 := Chx.wr HC_18 W19 (Sfx.arv C V17 (by decide))
  refine iDup C d0_231 rfl ?_
  refine iBipush C d0_232 (v := (9 : Int32)) (by decide) ?_
  refine iLdc2 C tw219 d0_234 ?_
  obtain ⟨c21, A21, q21, z21, y21, H21, G21⟩ := id V19
  refine iLastore C A21 (inb_of z21 ⟨by decide, by decide⟩) n_a1 d0_237 fun h21 W21 => ?_
  have V21 : Arv Z h21 a1 k1 .long (19 : Int32) [(.long (1 : Int64)), (.long (10 : Int64)), (.long (100 : Int64)), (.long (1000 : Int64)), (.long (10000 : Int64)), (.long (100000 : Int64)), (.long (1000000 : Int64)), (.long (10000000 : Int64)), (.long (100000000 : Int64)), (.long (1000000000 : Int64)), (.long 0), (.long 0), (.long 0), (.long 0), (.long 0), (.long 0), (.long 0), (.long 0), (.long 0)] (.long 0) := Arv.set A21 q21 z21 y21 H21 G21 rfl W21 9 (by decide) (Nat.le_of_ble_eq_true rfl)
  have O21 := O19.wr W21 n_a1
  have HC_22 := Chx.wr HC_20 W21 (Sfx.arv C V19 (by decide))
  refine iDup C d0_238 rfl ?_
  refine iBipush C d0_239 (v := (10 : Int32)) (by decide) ?_
  refine iLdc2 C tw220 d0_241 ?_
  obtain ⟨c23, A23, q23, z23, y23, H23, G23⟩ := id V21
  refine iLastore C A23 (inb_of z23 ⟨by decide, by decide⟩) n_a1 d0_244 fun h23 W23 => ?_
  have V23 : Arv Z h23 a1 k1 .long (19 : Int32) [(.long (1 : Int64)), (.long (10 : Int64)), (.long (100 : Int64)), (.long (1000 : Int64)), (.long (10000 : Int64)), (.long (100000 : Int64)), (.long (1000000 : Int64)), (.long (10000000 : Int64)), (.long (100000000 : Int64)), (.long (1000000000 : Int64)), (.long (10000000000 : Int64)), (.long 0), (.long 0), (.long 0), (.long 0), (.long 0), (.long 0), (.long 0), (.long 0)] (.long 0) := Arv.set A23 q23 z23 y23 H23 G23 rfl W23 10 (by decide) (Nat.le_of_ble_eq_true rfl)
  have O23 := O21.wr W23 n_a1
  have HC_24 := Chx.wr HC_22 W23 (Sfx.arv C V21 (by decide))
  refine iDup C d0_245 rfl ?_
  refine iBipush C d0_246 (v := (11 : Int32)) (by decide) ?_
  refine iLdc2 C tw221 d0_248 ?_
  obtain ⟨c25, A25, q25, z25, y25, H25, G25⟩ := id V23
  refine iLastore C A25 (inb_of z25 ⟨by decide, by decide⟩) n_a1 d0_251 fun h25 W25 => ?_
  have V25 : Arv Z h25 a1 k1 .long (19 : Int32) [(.long (1 : Int64)), (.long (10 : Int64)), (.long (100 : Int64)), (.long (1000 : Int64)), (.long (10000 : Int64)), (.long (100000 : Int64)), (.long (1000000 : Int64)), (.long (10000000 : Int64)), (.long (100000000 : Int64)), (.long (1000000000 : Int64)), (.long (10000000000 : Int64)), (.long (100000000000 : Int64)), (.long 0), (.long 0), (.long 0), (.long 0), (.long 0), (.long 0), (.long 0)] (.long 0) := Arv.set A25 q25 z25 y25 H25 G25 rfl W25 11 (by decide) (Nat.le_of_ble_eq_true rfl)
  have O25 := O23.wr W25 n_a1
  have HC_26 := Chx.wr HC_24 W25 (Sfx.arv C V23 (by decide))
  refine iDup C d0_252 rfl ?_
  refine iBipush C d0_253 (v := (12 : Int32)) (by decide) ?_
  refine iLdc2 C tw222 d0_255 ?_
  obtain ⟨c27, A27, q27, z27, y27, H27, G27⟩ := id V25
  refine iLastore C A27 (inb_of z27 ⟨by decide, by decide⟩) n_a1 d0_258 fun h27 W27 => ?_
  have V27 : Arv Z h27 a1 k1 .long (19 : Int32) [(.long (1 : Int64)), (.long (10 : Int64)), (.long (100 : Int64)), (.long (1000 : Int64)), (.long (10000 : Int64)), (.long (100000 : Int64)), (.long (1000000 : Int64)), (.long (10000000 : Int64)), (.long (100000000 : Int64)), (.long (1000000000 : Int64)), (.long (10000000000 : Int64)), (.long (100000000000 : Int64)), (.long (1000000000000 : Int64)), (.long 0), (.long 0), (.long 0), (.long 0), (.long 0), (.long 0)] (.long 0) := Arv.set A27 q27 z27 y27 H27 G27 rfl W27 12 (by decide) (Nat.le_of_ble_eq_true rfl)
  have O27 := O25.wr W27 n_a1
  have HC_28 := Chx.wr HC_26 W27 (Sfx.arv C V25 (by decide))
  refine iDup C d0_259 rfl ?_
  refine iBipush C d0_260 (v := (13 : Int32)) (by decide) ?_
  refine iLdc2 C tw223 d0_262 ?_
  obtain ⟨c29, A29, q29, z29, y29, H29, G29⟩ := id V27
  refine iLastore C A29 (inb_of z29 ⟨by decide, by decide⟩) n_a1 d0_265 fun h29 W29 => ?_
  have V29 : Arv Z h29 a1 k1 .long (19 : Int32) [(.long (1 : Int64)), (.long (10 : Int64)), (.long (100 : Int64)), (.long (1000 : Int64)), (.long (10000 : Int64)), (.long (100000 : Int64)), (.long (1000000 : Int64)), (.long (10000000 : Int64)), (.long (100000000 : Int64)), (.long (1000000000 : Int64)), (.long (10000000000 : Int64)), (.long (100000000000 : Int64)), (.long (1000000000000 : Int64)), (.long (10000000000000 : Int64)), (.long 0), (.long 0), (.long 0), (.long 0), (.long 0)] (.long 0) := Arv.set A29 q29 z29 y29 H29 G29 rfl W29 13 (by decide) (Nat.le_of_ble_eq_true rfl)
  have O29 := O27.wr W29 n_a1
  have HC_30 := Chx.wr HC_28 W29 (Sfx.arv C V27 (by decide))
  refine iDup C d0_266 rfl ?_
  refine iBipush C d0_267 (v := (14 : Int32)) (by decide) ?_
  refine iLdc2 C tw224 d0_269 ?_
  obtain ⟨c31, A31, q31, z31, y31, H31, G31⟩ := id V29
  refine iLastore C A31 (inb_of z31 ⟨by decide, by decide⟩) n_a1 d0_272 fun h31 W31 => ?_
  have V31 : Arv Z h31 a1 k1 .long (19 : Int32) [(.long (1 : Int64)), (.long (10 : Int64)), (.long (100 : Int64)), (.long (1000 : Int64)), (.long (10000 : Int64)), (.long (100000 : Int64)), (.long (1000000 : Int64)), (.long (10000000 : Int64)), (.long (100000000 : Int64)), (.long (1000000000 : Int64)), (.long (10000000000 : Int64)), (.long (100000000000 : Int64)), (.long (1000000000000 : Int64)), (.long (10000000000000 : Int64)), (.long (100000000000000 : Int64)), (.long 0), (.long 0), (.long 0), (.long 0)] (.long 0) := Arv.set A31 q31 z31 y31 H31 G31 rfl W31 14 (by decide) (Nat.le_of_ble_eq_true rfl)
  have O31 := O29.wr W31 n_a1
  have HC_32 := Chx.wr HC_30 W31 (Sfx.arv C V29 (by decide))
  refine iDup C d0_273 rfl ?_
  refine iBipush C d0_274 (v := (15 : Int32)) (by decide) ?_
  refine iLdc2 C tw225 d0_276 ?_
  obtain ⟨c33, A33, q33, z33, y33, H33, G33⟩ := id V31
  refine iLastore C A33 (inb_of z33 ⟨by decide, by decide⟩) n_a1 d0_279 fun h33 W33 => ?_
  have V33 : Arv Z h33 a1 k1 .long (19 : Int32) [(.long (1 : Int64)), (.long (10 : Int64)), (.long (100 : Int64)), (.long (1000 : Int64)), (.long (10000 : Int64)), (.long (100000 : Int64)), (.long (1000000 : Int64)), (.long (10000000 : Int64)), (.long (100000000 : Int64)), (.long (1000000000 : Int64)), (.long (10000000000 : Int64)), (.long (100000000000 : Int64)), (.long (1000000000000 : Int64)), (.long (10000000000000 : Int64)), (.long (100000000000000 : Int64)), (.long (1000000000000000 : Int64)), (.long 0), (.long 0), (.long 0)] (.long 0) := Arv.set A33 q33 z33 y33 H33 G33 rfl W33 15 (by decide) (Nat.le_of_ble_eq_true rfl)
  have O33 := O31.wr W33 n_a1
  have HC_34 := Chx.wr HC_32 W33 (Sfx.arv C V31 (by decide))
  refine iDup C d0_280 rfl ?_
  refine iBipush C d0_281 (v := (16 : Int32)) (by decide) ?_
  refine iLdc2 C tw226 d0_283 ?_
  obtain ⟨c35, A35, q35, z35, y35, H35, G35⟩ := id V33
  refine iLastore C A35 (inb_of z35 ⟨by decide, by decide⟩) n_a1 d0_286 fun h35 W35 => ?_
  have V35 : Arv Z h35 a1 k1 .long (19 : Int32) [(.long (1 : Int64)), (.long (10 : Int64)), (.long (100 : Int64)), (.long (1000 : Int64)), (.long (10000 : Int64)), (.long (100000 : Int64)), (.long (1000000 : Int64)), (.long (10000000 : Int64)), (.long (100000000 : Int64)), (.long (1000000000 : Int64)), (.long (10000000000 : Int64)), (.long (100000000000 : Int64)), (.long (1000000000000 : Int64)), (.long (10000000000000 : Int64)), (.long (100000000000000 : Int64)), (.long (1000000000000000 : Int64)), (.long (10000000000000000 : Int64)), (.long 0), (.long 0)] (.long 0) := Arv.set A35 q35 z35 y35 H35 G35 rfl W35 16 (by decide) (Nat.le_of_ble_eq_true rfl)
  have O35 := O33.wr W35 n_a1
  have HC_36 := Chx.wr HC_34 W35 (Sfx.arv C V33 (by decide))
  refine iDup C d0_287 rfl ?_
  refine iBipush C d0_288 (v := (17 : Int32)) (by decide) ?_
  refine iLdc2 C tw227 d0_290 ?_
  obtain ⟨c37, A37, q37, z37, y37, H37, G37⟩ := id V35
  refine iLastore C A37 (inb_of z37 ⟨by decide, by decide⟩) n_a1 d0_293 fun h37 W37 => ?_
  have V37 : Arv Z h37 a1 k1 .long (19 : Int32) [(.long (1 : Int64)), (.long (10 : Int64)), (.long (100 : Int64)), (.long (1000 : Int64)), (.long (10000 : Int64)), (.long (100000 : Int64)), (.long (1000000 : Int64)), (.long (10000000 : Int64)), (.long (100000000 : Int64)), (.long (1000000000 : Int64)), (.long (10000000000 : Int64)), (.long (100000000000 : Int64)), (.long (1000000000000 : Int64)), (.long (10000000000000 : Int64)), (.long (100000000000000 : Int64)), (.long (1000000000000000 : Int64)), (.long (10000000000000000 : Int64)), (.long (100000000000000000 : Int64)), (.long 0)] (.long 0) := Arv.set A37 q37 z37 y37 H37 G37 rfl W37 17 (by decide) (Nat.le_of_ble_eq_true rfl)
  have O37 := O35.wr W37 n_a1
  have HC_38 := Chx.wr HC_36 W37 (Sfx.arv C V35 (by decide))
  refine iDup C d0_294 rfl ?_
  refine iBipush C d0_295 (v := (18 : Int32)) (by decide) ?_
  refine iLdc2 C tw228 d0_297 ?_
  obtain ⟨c39, A39, q39, z39, y39, H39, G39⟩ := id V37
  refine iLastore C A39 (inb_of z39 ⟨by decide, by decide⟩) n_a1 d0_300 fun h39 W39 => ?_
  have V39 : Arv Z h39 a1 k1 .long (19 : Int32) [(.long (1 : Int64)), (.long (10 : Int64)), (.long (100 : Int64)), (.long (1000 : Int64)), (.long (10000 : Int64)), (.long (100000 : Int64)), (.long (1000000 : Int64)), (.long (10000000 : Int64)), (.long (100000000 : Int64)), (.long (1000000000 : Int64)), (.long (10000000000 : Int64)), (.long (100000000000 : Int64)), (.long (1000000000000 : Int64)), (.long (10000000000000 : Int64)), (.long (100000000000000 : Int64)), (.long (1000000000000000 : Int64)), (.long (10000000000000000 : Int64)), (.long (100000000000000000 : Int64)), (.long (1000000000000000000 : Int64))] (.long 0) := Arv.set A39 q39 z39 y39 H39 G39 rfl W39 18 (by decide) (Nat.le_of_ble_eq_true rfl)
  have O39 := O37.wr W39 n_a1
  have HC_40 := Chx.wr HC_38 W39 (Sfx.arv C V37 (by decide))
  refine iAstore C d0_301 (Ls' := #[(.val (.int i0)), (.val (.int i1)), (.val (.int i2)), (.val (.long xx)), .second, (.val (.int (Int32.ofNat (ds.length)))), (.val (.int cc0)), (.val (.int cc1)), (.val (.int cc2)), (.val (.ref na)), (.val (.ref s)), (.val (.ref tx)), (.val (.ref r)), (.val (.ref a1)), .unset, .unset, .unset, .unset, .unset, .unset, .unset, .unset, .unset, .unset]) rfl rfl ?_
  by_cases qx1 : (0 : Int64) < xx
  · refine iLloadN C d0_303 rfl ?_
    refine iLconst C d0_304 (v := (0 : Int64)) (by decide) ?_
    refine iLcmp C d0_305 (v := (1 : Int32)) (own_lc1 qx1) ?_
    refine iIfT C (t := 313) d0_306 (by decide) ⟨by decide, by decide⟩ ?_
    refine iIconst C d0_313 (v := (0 : Int32)) (by decide) ?_
    refine iIstore C d0_314 (Ls' := #[(.val (.int i0)), (.val (.int i1)), (.val (.int i2)), (.val (.long xx)), .second, (.val (.int (Int32.ofNat (ds.length)))), (.val (.int cc0)), (.val (.int cc1)), (.val (.int cc2)), (.val (.ref na)), (.val (.ref s)), (.val (.ref tx)), (.val (.ref r)), (.val (.ref a1)), (.val (.int (0 : Int32))), .unset, .unset, .unset, .unset, .unset, .unset, .unset, .unset, .unset]) rfl ?_
    refine iLloadN C d0_316 rfl ?_
    refine iLconst C d0_317 (v := (0 : Int64)) (by decide) ?_
    refine iLcmp C d0_318 (v := (1 : Int32)) (own_lc1 qx1) ?_
    refine iIfF C d0_319 (by decide) ?_
    refine iLloadN C d0_322 rfl ?_
    refine iLneg C d0_323 rfl ?_
    refine iGoto C (t := 328) d0_324 ⟨by decide, by decide⟩ ?_
    refine iLstore C d0_328 (Ls' := #[(.val (.int i0)), (.val (.int i1)), (.val (.int i2)), (.val (.long xx)), .second, (.val (.int (Int32.ofNat (ds.length)))), (.val (.int cc0)), (.val (.int cc1)), (.val (.int cc2)), (.val (.ref na)), (.val (.ref s)), (.val (.ref tx)), (.val (.ref r)), (.val (.ref a1)), (.val (.int (0 : Int32))), (.val (.long (-xx))), .second, .unset, .unset, .unset, .unset, .unset, .unset, .unset]) rfl ?_
    have nn : ¬ xx < 0 := fun q => absurd (Int64.lt_trans q qx1) (Int64.lt_irrefl)
    rw [if_neg nn] at hx
    have hm := hx
    have hsg : Jvm.Free.SBG.GetCharsL.sgnL xx = 0 := by unfold Jvm.Free.SBG.GetCharsL.sgnL; rw [if_neg nn]
    have HR2 := (SX.kp (SX.kp (SX.kp (SX.kp (SX.kp (SX.kp (SX.kp (SX.kp (SX.kp (SX.kp (SX.kp (SX.kp (SX.kp (SX.kp (SX.kp (SX.kp (SX.kp (SX.kp (SX.kp (SX.ext HR E1) (Keep.of_wr W3) HR.1.lt HR.2.2.2.1.lt (inS (P := fun w => _ ≤ w) (Nat.le_trans (Nat.le_refl _) (Nat.le_of_eq g1.symm)) (fun x hx => (List.not_mem_nil hx).elim))) (Keep.of_wr W5) HR.1.lt HR.2.2.2.1.lt (inS (P := fun w => _ ≤ w) (Nat.le_trans (Nat.le_refl _) (Nat.le_of_eq g1.symm)) (fun x hx => (List.not_mem_nil hx).elim))) (Keep.of_wr W7) HR.1.lt HR.2.2.2.1.lt (inS (P := fun w => _ ≤ w) (Nat.le_trans (Nat.le_refl _) (Nat.le_of_eq g1.symm)) (fun x hx => (List.not_mem_nil hx).elim))) (Keep.of_wr W9) HR.1.lt HR.2.2.2.1.lt (inS (P := fun w => _ ≤ w) (Nat.le_trans (Nat.le_refl _) (Nat.le_of_eq g1.symm)) (fun x hx => (List.not_mem_nil hx).elim))) (Keep.of_wr W11) HR.1.lt HR.2.2.2.1.lt (inS (P := fun w => _ ≤ w) (Nat.le_trans (Nat.le_refl _) (Nat.le_of_eq g1.symm)) (fun x hx => (List.not_mem_nil hx).elim))) (Keep.of_wr W13) HR.1.lt HR.2.2.2.1.lt (inS (P := fun w => _ ≤ w) (Nat.le_trans (Nat.le_refl _) (Nat.le_of_eq g1.symm)) (fun x hx => (List.not_mem_nil hx).elim))) (Keep.of_wr W15) HR.1.lt HR.2.2.2.1.lt (inS (P := fun w => _ ≤ w) (Nat.le_trans (Nat.le_refl _) (Nat.le_of_eq g1.symm)) (fun x hx => (List.not_mem_nil hx).elim))) (Keep.of_wr W17) HR.1.lt HR.2.2.2.1.lt (inS (P := fun w => _ ≤ w) (Nat.le_trans (Nat.le_refl _) (Nat.le_of_eq g1.symm)) (fun x hx => (List.not_mem_nil hx).elim))) (Keep.of_wr W19) HR.1.lt HR.2.2.2.1.lt (inS (P := fun w => _ ≤ w) (Nat.le_trans (Nat.le_refl _) (Nat.le_of_eq g1.symm)) (fun x hx => (List.not_mem_nil hx).elim))) (Keep.of_wr W21) HR.1.lt HR.2.2.2.1.lt (inS (P := fun w => _ ≤ w) (Nat.le_trans (Nat.le_refl _) (Nat.le_of_eq g1.symm)) (fun x hx => (List.not_mem_nil hx).elim))) (Keep.of_wr W23) HR.1.lt HR.2.2.2.1.lt (inS (P := fun w => _ ≤ w) (Nat.le_trans (Nat.le_refl _) (Nat.le_of_eq g1.symm)) (fun x hx => (List.not_mem_nil hx).elim))) (Keep.of_wr W25) HR.1.lt HR.2.2.2.1.lt (inS (P := fun w => _ ≤ w) (Nat.le_trans (Nat.le_refl _) (Nat.le_of_eq g1.symm)) (fun x hx => (List.not_mem_nil hx).elim))) (Keep.of_wr W27) HR.1.lt HR.2.2.2.1.lt (inS (P := fun w => _ ≤ w) (Nat.le_trans (Nat.le_refl _) (Nat.le_of_eq g1.symm)) (fun x hx => (List.not_mem_nil hx).elim))) (Keep.of_wr W29) HR.1.lt HR.2.2.2.1.lt (inS (P := fun w => _ ≤ w) (Nat.le_trans (Nat.le_refl _) (Nat.le_of_eq g1.symm)) (fun x hx => (List.not_mem_nil hx).elim))) (Keep.of_wr W31) HR.1.lt HR.2.2.2.1.lt (inS (P := fun w => _ ≤ w) (Nat.le_trans (Nat.le_refl _) (Nat.le_of_eq g1.symm)) (fun x hx => (List.not_mem_nil hx).elim))) (Keep.of_wr W33) HR.1.lt HR.2.2.2.1.lt (inS (P := fun w => _ ≤ w) (Nat.le_trans (Nat.le_refl _) (Nat.le_of_eq g1.symm)) (fun x hx => (List.not_mem_nil hx).elim))) (Keep.of_wr W35) HR.1.lt HR.2.2.2.1.lt (inS (P := fun w => _ ≤ w) (Nat.le_trans (Nat.le_refl _) (Nat.le_of_eq g1.symm)) (fun x hx => (List.not_mem_nil hx).elim))) (Keep.of_wr W37) HR.1.lt HR.2.2.2.1.lt (inS (P := fun w => _ ≤ w) (Nat.le_trans (Nat.le_refl _) (Nat.le_of_eq g1.symm)) (fun x hx => (List.not_mem_nil hx).elim))) (Keep.of_wr W39) HR.1.lt HR.2.2.2.1.lt (inS (P := fun w => _ ≤ w) (Nat.le_trans (Nat.le_refl _) (Nat.le_of_eq g1.symm)) (fun x hx => (List.not_mem_nil hx).elim)))
    have HN2 := (SX.kp (SX.kp (SX.kp (SX.kp (SX.kp (SX.kp (SX.kp (SX.kp (SX.kp (SX.kp (SX.kp (SX.kp (SX.kp (SX.kp (SX.kp (SX.kp (SX.kp (SX.kp (SX.kp (SX.ext HN E1) (Keep.of_wr W3) HN.1.lt HN.2.2.2.1.lt (inS (P := fun w => _ ≤ w) (Nat.le_trans (Nat.le_refl _) (Nat.le_of_eq g1.symm)) (fun x hx => (List.not_mem_nil hx).elim))) (Keep.of_wr W5) HN.1.lt HN.2.2.2.1.lt (inS (P := fun w => _ ≤ w) (Nat.le_trans (Nat.le_refl _) (Nat.le_of_eq g1.symm)) (fun x hx => (List.not_mem_nil hx).elim))) (Keep.of_wr W7) HN.1.lt HN.2.2.2.1.lt (inS (P := fun w => _ ≤ w) (Nat.le_trans (Nat.le_refl _) (Nat.le_of_eq g1.symm)) (fun x hx => (List.not_mem_nil hx).elim))) (Keep.of_wr W9) HN.1.lt HN.2.2.2.1.lt (inS (P := fun w => _ ≤ w) (Nat.le_trans (Nat.le_refl _) (Nat.le_of_eq g1.symm)) (fun x hx => (List.not_mem_nil hx).elim))) (Keep.of_wr W11) HN.1.lt HN.2.2.2.1.lt (inS (P := fun w => _ ≤ w) (Nat.le_trans (Nat.le_refl _) (Nat.le_of_eq g1.symm)) (fun x hx => (List.not_mem_nil hx).elim))) (Keep.of_wr W13) HN.1.lt HN.2.2.2.1.lt (inS (P := fun w => _ ≤ w) (Nat.le_trans (Nat.le_refl _) (Nat.le_of_eq g1.symm)) (fun x hx => (List.not_mem_nil hx).elim))) (Keep.of_wr W15) HN.1.lt HN.2.2.2.1.lt (inS (P := fun w => _ ≤ w) (Nat.le_trans (Nat.le_refl _) (Nat.le_of_eq g1.symm)) (fun x hx => (List.not_mem_nil hx).elim))) (Keep.of_wr W17) HN.1.lt HN.2.2.2.1.lt (inS (P := fun w => _ ≤ w) (Nat.le_trans (Nat.le_refl _) (Nat.le_of_eq g1.symm)) (fun x hx => (List.not_mem_nil hx).elim))) (Keep.of_wr W19) HN.1.lt HN.2.2.2.1.lt (inS (P := fun w => _ ≤ w) (Nat.le_trans (Nat.le_refl _) (Nat.le_of_eq g1.symm)) (fun x hx => (List.not_mem_nil hx).elim))) (Keep.of_wr W21) HN.1.lt HN.2.2.2.1.lt (inS (P := fun w => _ ≤ w) (Nat.le_trans (Nat.le_refl _) (Nat.le_of_eq g1.symm)) (fun x hx => (List.not_mem_nil hx).elim))) (Keep.of_wr W23) HN.1.lt HN.2.2.2.1.lt (inS (P := fun w => _ ≤ w) (Nat.le_trans (Nat.le_refl _) (Nat.le_of_eq g1.symm)) (fun x hx => (List.not_mem_nil hx).elim))) (Keep.of_wr W25) HN.1.lt HN.2.2.2.1.lt (inS (P := fun w => _ ≤ w) (Nat.le_trans (Nat.le_refl _) (Nat.le_of_eq g1.symm)) (fun x hx => (List.not_mem_nil hx).elim))) (Keep.of_wr W27) HN.1.lt HN.2.2.2.1.lt (inS (P := fun w => _ ≤ w) (Nat.le_trans (Nat.le_refl _) (Nat.le_of_eq g1.symm)) (fun x hx => (List.not_mem_nil hx).elim))) (Keep.of_wr W29) HN.1.lt HN.2.2.2.1.lt (inS (P := fun w => _ ≤ w) (Nat.le_trans (Nat.le_refl _) (Nat.le_of_eq g1.symm)) (fun x hx => (List.not_mem_nil hx).elim))) (Keep.of_wr W31) HN.1.lt HN.2.2.2.1.lt (inS (P := fun w => _ ≤ w) (Nat.le_trans (Nat.le_refl _) (Nat.le_of_eq g1.symm)) (fun x hx => (List.not_mem_nil hx).elim))) (Keep.of_wr W33) HN.1.lt HN.2.2.2.1.lt (inS (P := fun w => _ ≤ w) (Nat.le_trans (Nat.le_refl _) (Nat.le_of_eq g1.symm)) (fun x hx => (List.not_mem_nil hx).elim))) (Keep.of_wr W35) HN.1.lt HN.2.2.2.1.lt (inS (P := fun w => _ ≤ w) (Nat.le_trans (Nat.le_refl _) (Nat.le_of_eq g1.symm)) (fun x hx => (List.not_mem_nil hx).elim))) (Keep.of_wr W37) HN.1.lt HN.2.2.2.1.lt (inS (P := fun w => _ ≤ w) (Nat.le_trans (Nat.le_refl _) (Nat.le_of_eq g1.symm)) (fun x hx => (List.not_mem_nil hx).elim))) (Keep.of_wr W39) HN.1.lt HN.2.2.2.1.lt (inS (P := fun w => _ ≤ w) (Nat.le_trans (Nat.le_refl _) (Nat.le_of_eq g1.symm)) (fun x hx => (List.not_mem_nil hx).elim)))
    have HP2 := V39
    show Go B n0 _ h39 40 4000 330 #[(.val (.int i0)), (.val (.int i1)), (.val (.int i2)), (.val (.long xx)), .second, (.val (.int (Int32.ofNat (ds.length)))), (.val (.int cc0)), (.val (.int cc1)), (.val (.int cc2)), (.val (.ref na)), (.val (.ref s)), (.val (.ref tx)), (.val (.ref r)), (.val (.ref a1)), (.val (.int (0 : Int32))), (.val (.long (-xx))), .second, .unset, .unset, .unset, .unset, .unset, .unset, .unset] []
    rw [show (Value.long (-xx)) = Value.long (Jvm.Free.SBG.negL n) from congrArg Value.long hm]
    exact TC0 hw O39 S0 hz0 S1 rf HR2 HN2 hds hn HP2 hsg C D HC_40
  · by_cases qx2 : xx = (0 : Int64)
    · refine iLloadN C d0_303 rfl ?_
      refine iLconst C d0_304 (v := (0 : Int64)) (by decide) ?_
      refine iLcmp C d0_305 (v := (0 : Int32)) (own_lc0 qx1 qx2) ?_
      refine iIfT C (t := 313) d0_306 (by decide) ⟨by decide, by decide⟩ ?_
      refine iIconst C d0_313 (v := (0 : Int32)) (by decide) ?_
      refine iIstore C d0_314 (Ls' := #[(.val (.int i0)), (.val (.int i1)), (.val (.int i2)), (.val (.long xx)), .second, (.val (.int (Int32.ofNat (ds.length)))), (.val (.int cc0)), (.val (.int cc1)), (.val (.int cc2)), (.val (.ref na)), (.val (.ref s)), (.val (.ref tx)), (.val (.ref r)), (.val (.ref a1)), (.val (.int (0 : Int32))), .unset, .unset, .unset, .unset, .unset, .unset, .unset, .unset, .unset]) rfl ?_
      refine iLloadN C d0_316 rfl ?_
      refine iLconst C d0_317 (v := (0 : Int64)) (by decide) ?_
      refine iLcmp C d0_318 (v := (0 : Int32)) (own_lc0 qx1 qx2) ?_
      refine iIfT C (t := 327) d0_319 (by decide) ⟨by decide, by decide⟩ ?_
      refine iLloadN C d0_327 rfl ?_
      refine iLstore C d0_328 (Ls' := #[(.val (.int i0)), (.val (.int i1)), (.val (.int i2)), (.val (.long xx)), .second, (.val (.int (Int32.ofNat (ds.length)))), (.val (.int cc0)), (.val (.int cc1)), (.val (.int cc2)), (.val (.ref na)), (.val (.ref s)), (.val (.ref tx)), (.val (.ref r)), (.val (.ref a1)), (.val (.int (0 : Int32))), (.val (.long xx)), .second, .unset, .unset, .unset, .unset, .unset, .unset, .unset]) rfl ?_
      have nn : ¬ xx < 0 := fun q => by rw [qx2] at q; exact absurd q (by decide)
      rw [if_neg nn] at hx
      have hm : xx = Jvm.Free.SBG.negL n := (qx2.trans ((by decide : (0 : Int64) = -0).trans (congrArg Neg.neg qx2).symm)).trans hx
      have hsg : Jvm.Free.SBG.GetCharsL.sgnL xx = 0 := by unfold Jvm.Free.SBG.GetCharsL.sgnL; rw [if_neg nn]
      have HR2 := (SX.kp (SX.kp (SX.kp (SX.kp (SX.kp (SX.kp (SX.kp (SX.kp (SX.kp (SX.kp (SX.kp (SX.kp (SX.kp (SX.kp (SX.kp (SX.kp (SX.kp (SX.kp (SX.kp (SX.ext HR E1) (Keep.of_wr W3) HR.1.lt HR.2.2.2.1.lt (inS (P := fun w => _ ≤ w) (Nat.le_trans (Nat.le_refl _) (Nat.le_of_eq g1.symm)) (fun x hx => (List.not_mem_nil hx).elim))) (Keep.of_wr W5) HR.1.lt HR.2.2.2.1.lt (inS (P := fun w => _ ≤ w) (Nat.le_trans (Nat.le_refl _) (Nat.le_of_eq g1.symm)) (fun x hx => (List.not_mem_nil hx).elim))) (Keep.of_wr W7) HR.1.lt HR.2.2.2.1.lt (inS (P := fun w => _ ≤ w) (Nat.le_trans (Nat.le_refl _) (Nat.le_of_eq g1.symm)) (fun x hx => (List.not_mem_nil hx).elim))) (Keep.of_wr W9) HR.1.lt HR.2.2.2.1.lt (inS (P := fun w => _ ≤ w) (Nat.le_trans (Nat.le_refl _) (Nat.le_of_eq g1.symm)) (fun x hx => (List.not_mem_nil hx).elim))) (Keep.of_wr W11) HR.1.lt HR.2.2.2.1.lt (inS (P := fun w => _ ≤ w) (Nat.le_trans (Nat.le_refl _) (Nat.le_of_eq g1.symm)) (fun x hx => (List.not_mem_nil hx).elim))) (Keep.of_wr W13) HR.1.lt HR.2.2.2.1.lt (inS (P := fun w => _ ≤ w) (Nat.le_trans (Nat.le_refl _) (Nat.le_of_eq g1.symm)) (fun x hx => (List.not_mem_nil hx).elim))) (Keep.of_wr W15) HR.1.lt HR.2.2.2.1.lt (inS (P := fun w => _ ≤ w) (Nat.le_trans (Nat.le_refl _) (Nat.le_of_eq g1.symm)) (fun x hx => (List.not_mem_nil hx).elim))) (Keep.of_wr W17) HR.1.lt HR.2.2.2.1.lt (inS (P := fun w => _ ≤ w) (Nat.le_trans (Nat.le_refl _) (Nat.le_of_eq g1.symm)) (fun x hx => (List.not_mem_nil hx).elim))) (Keep.of_wr W19) HR.1.lt HR.2.2.2.1.lt (inS (P := fun w => _ ≤ w) (Nat.le_trans (Nat.le_refl _) (Nat.le_of_eq g1.symm)) (fun x hx => (List.not_mem_nil hx).elim))) (Keep.of_wr W21) HR.1.lt HR.2.2.2.1.lt (inS (P := fun w => _ ≤ w) (Nat.le_trans (Nat.le_refl _) (Nat.le_of_eq g1.symm)) (fun x hx => (List.not_mem_nil hx).elim))) (Keep.of_wr W23) HR.1.lt HR.2.2.2.1.lt (inS (P := fun w => _ ≤ w) (Nat.le_trans (Nat.le_refl _) (Nat.le_of_eq g1.symm)) (fun x hx => (List.not_mem_nil hx).elim))) (Keep.of_wr W25) HR.1.lt HR.2.2.2.1.lt (inS (P := fun w => _ ≤ w) (Nat.le_trans (Nat.le_refl _) (Nat.le_of_eq g1.symm)) (fun x hx => (List.not_mem_nil hx).elim))) (Keep.of_wr W27) HR.1.lt HR.2.2.2.1.lt (inS (P := fun w => _ ≤ w) (Nat.le_trans (Nat.le_refl _) (Nat.le_of_eq g1.symm)) (fun x hx => (List.not_mem_nil hx).elim))) (Keep.of_wr W29) HR.1.lt HR.2.2.2.1.lt (inS (P := fun w => _ ≤ w) (Nat.le_trans (Nat.le_refl _) (Nat.le_of_eq g1.symm)) (fun x hx => (List.not_mem_nil hx).elim))) (Keep.of_wr W31) HR.1.lt HR.2.2.2.1.lt (inS (P := fun w => _ ≤ w) (Nat.le_trans (Nat.le_refl _) (Nat.le_of_eq g1.symm)) (fun x hx => (List.not_mem_nil hx).elim))) (Keep.of_wr W33) HR.1.lt HR.2.2.2.1.lt (inS (P := fun w => _ ≤ w) (Nat.le_trans (Nat.le_refl _) (Nat.le_of_eq g1.symm)) (fun x hx => (List.not_mem_nil hx).elim))) (Keep.of_wr W35) HR.1.lt HR.2.2.2.1.lt (inS (P := fun w => _ ≤ w) (Nat.le_trans (Nat.le_refl _) (Nat.le_of_eq g1.symm)) (fun x hx => (List.not_mem_nil hx).elim))) (Keep.of_wr W37) HR.1.lt HR.2.2.2.1.lt (inS (P := fun w => _ ≤ w) (Nat.le_trans (Nat.le_refl _) (Nat.le_of_eq g1.symm)) (fun x hx => (List.not_mem_nil hx).elim))) (Keep.of_wr W39) HR.1.lt HR.2.2.2.1.lt (inS (P := fun w => _ ≤ w) (Nat.le_trans (Nat.le_refl _) (Nat.le_of_eq g1.symm)) (fun x hx => (List.not_mem_nil hx).elim)))
      have HN2 := (SX.kp (SX.kp (SX.kp (SX.kp (SX.kp (SX.kp (SX.kp (SX.kp (SX.kp (SX.kp (SX.kp (SX.kp (SX.kp (SX.kp (SX.kp (SX.kp (SX.kp (SX.kp (SX.kp (SX.ext HN E1) (Keep.of_wr W3) HN.1.lt HN.2.2.2.1.lt (inS (P := fun w => _ ≤ w) (Nat.le_trans (Nat.le_refl _) (Nat.le_of_eq g1.symm)) (fun x hx => (List.not_mem_nil hx).elim))) (Keep.of_wr W5) HN.1.lt HN.2.2.2.1.lt (inS (P := fun w => _ ≤ w) (Nat.le_trans (Nat.le_refl _) (Nat.le_of_eq g1.symm)) (fun x hx => (List.not_mem_nil hx).elim))) (Keep.of_wr W7) HN.1.lt HN.2.2.2.1.lt (inS (P := fun w => _ ≤ w) (Nat.le_trans (Nat.le_refl _) (Nat.le_of_eq g1.symm)) (fun x hx => (List.not_mem_nil hx).elim))) (Keep.of_wr W9) HN.1.lt HN.2.2.2.1.lt (inS (P := fun w => _ ≤ w) (Nat.le_trans (Nat.le_refl _) (Nat.le_of_eq g1.symm)) (fun x hx => (List.not_mem_nil hx).elim))) (Keep.of_wr W11) HN.1.lt HN.2.2.2.1.lt (inS (P := fun w => _ ≤ w) (Nat.le_trans (Nat.le_refl _) (Nat.le_of_eq g1.symm)) (fun x hx => (List.not_mem_nil hx).elim))) (Keep.of_wr W13) HN.1.lt HN.2.2.2.1.lt (inS (P := fun w => _ ≤ w) (Nat.le_trans (Nat.le_refl _) (Nat.le_of_eq g1.symm)) (fun x hx => (List.not_mem_nil hx).elim))) (Keep.of_wr W15) HN.1.lt HN.2.2.2.1.lt (inS (P := fun w => _ ≤ w) (Nat.le_trans (Nat.le_refl _) (Nat.le_of_eq g1.symm)) (fun x hx => (List.not_mem_nil hx).elim))) (Keep.of_wr W17) HN.1.lt HN.2.2.2.1.lt (inS (P := fun w => _ ≤ w) (Nat.le_trans (Nat.le_refl _) (Nat.le_of_eq g1.symm)) (fun x hx => (List.not_mem_nil hx).elim))) (Keep.of_wr W19) HN.1.lt HN.2.2.2.1.lt (inS (P := fun w => _ ≤ w) (Nat.le_trans (Nat.le_refl _) (Nat.le_of_eq g1.symm)) (fun x hx => (List.not_mem_nil hx).elim))) (Keep.of_wr W21) HN.1.lt HN.2.2.2.1.lt (inS (P := fun w => _ ≤ w) (Nat.le_trans (Nat.le_refl _) (Nat.le_of_eq g1.symm)) (fun x hx => (List.not_mem_nil hx).elim))) (Keep.of_wr W23) HN.1.lt HN.2.2.2.1.lt (inS (P := fun w => _ ≤ w) (Nat.le_trans (Nat.le_refl _) (Nat.le_of_eq g1.symm)) (fun x hx => (List.not_mem_nil hx).elim))) (Keep.of_wr W25) HN.1.lt HN.2.2.2.1.lt (inS (P := fun w => _ ≤ w) (Nat.le_trans (Nat.le_refl _) (Nat.le_of_eq g1.symm)) (fun x hx => (List.not_mem_nil hx).elim))) (Keep.of_wr W27) HN.1.lt HN.2.2.2.1.lt (inS (P := fun w => _ ≤ w) (Nat.le_trans (Nat.le_refl _) (Nat.le_of_eq g1.symm)) (fun x hx => (List.not_mem_nil hx).elim))) (Keep.of_wr W29) HN.1.lt HN.2.2.2.1.lt (inS (P := fun w => _ ≤ w) (Nat.le_trans (Nat.le_refl _) (Nat.le_of_eq g1.symm)) (fun x hx => (List.not_mem_nil hx).elim))) (Keep.of_wr W31) HN.1.lt HN.2.2.2.1.lt (inS (P := fun w => _ ≤ w) (Nat.le_trans (Nat.le_refl _) (Nat.le_of_eq g1.symm)) (fun x hx => (List.not_mem_nil hx).elim))) (Keep.of_wr W33) HN.1.lt HN.2.2.2.1.lt (inS (P := fun w => _ ≤ w) (Nat.le_trans (Nat.le_refl _) (Nat.le_of_eq g1.symm)) (fun x hx => (List.not_mem_nil hx).elim))) (Keep.of_wr W35) HN.1.lt HN.2.2.2.1.lt (inS (P := fun w => _ ≤ w) (Nat.le_trans (Nat.le_refl _) (Nat.le_of_eq g1.symm)) (fun x hx => (List.not_mem_nil hx).elim))) (Keep.of_wr W37) HN.1.lt HN.2.2.2.1.lt (inS (P := fun w => _ ≤ w) (Nat.le_trans (Nat.le_refl _) (Nat.le_of_eq g1.symm)) (fun x hx => (List.not_mem_nil hx).elim))) (Keep.of_wr W39) HN.1.lt HN.2.2.2.1.lt (inS (P := fun w => _ ≤ w) (Nat.le_trans (Nat.le_refl _) (Nat.le_of_eq g1.symm)) (fun x hx => (List.not_mem_nil hx).elim)))
      have HP2 := V39
      show Go B n0 _ h39 40 4000 330 #[(.val (.int i0)), (.val (.int i1)), (.val (.int i2)), (.val (.long xx)), .second, (.val (.int (Int32.ofNat (ds.length)))), (.val (.int cc0)), (.val (.int cc1)), (.val (.int cc2)), (.val (.ref na)), (.val (.ref s)), (.val (.ref tx)), (.val (.ref r)), (.val (.ref a1)), (.val (.int (0 : Int32))), (.val (.long xx)), .second, .unset, .unset, .unset, .unset, .unset, .unset, .unset] []
      rw [show (Value.long xx) = Value.long (Jvm.Free.SBG.negL n) from congrArg Value.long hm]
      exact TC0 hw O39 S0 hz0 S1 rf HR2 HN2 hds hn HP2 hsg C D HC_40
    · refine iLloadN C d0_303 rfl ?_
      refine iLconst C d0_304 (v := (0 : Int64)) (by decide) ?_
      refine iLcmp C d0_305 (v := (-1 : Int32)) (own_lcm qx1 qx2) ?_
      refine iIfF C d0_306 (by decide) ?_
      refine iIconst C d0_309 (v := (1 : Int32)) (by decide) ?_
      refine iGoto C (t := 314) d0_310 ⟨by decide, by decide⟩ ?_
      refine iIstore C d0_314 (Ls' := #[(.val (.int i0)), (.val (.int i1)), (.val (.int i2)), (.val (.long xx)), .second, (.val (.int (Int32.ofNat (ds.length)))), (.val (.int cc0)), (.val (.int cc1)), (.val (.int cc2)), (.val (.ref na)), (.val (.ref s)), (.val (.ref tx)), (.val (.ref r)), (.val (.ref a1)), (.val (.int (1 : Int32))), .unset, .unset, .unset, .unset, .unset, .unset, .unset, .unset, .unset]) rfl ?_
      refine iLloadN C d0_316 rfl ?_
      refine iLconst C d0_317 (v := (0 : Int64)) (by decide) ?_
      refine iLcmp C d0_318 (v := (-1 : Int32)) (own_lcm qx1 qx2) ?_
      refine iIfT C (t := 327) d0_319 (by decide) ⟨by decide, by decide⟩ ?_
      refine iLloadN C d0_327 rfl ?_
      refine iLstore C d0_328 (Ls' := #[(.val (.int i0)), (.val (.int i1)), (.val (.int i2)), (.val (.long xx)), .second, (.val (.int (Int32.ofNat (ds.length)))), (.val (.int cc0)), (.val (.int cc1)), (.val (.int cc2)), (.val (.ref na)), (.val (.ref s)), (.val (.ref tx)), (.val (.ref r)), (.val (.ref a1)), (.val (.int (1 : Int32))), (.val (.long xx)), .second, .unset, .unset, .unset, .unset, .unset, .unset, .unset]) rfl ?_
      have nn : xx < 0 := Int64.lt_of_le_of_ne (Int64.not_lt.mp qx1) qx2
      rw [if_pos nn] at hx
      have hm := hx
      have hsg : Jvm.Free.SBG.GetCharsL.sgnL xx = 1 := by unfold Jvm.Free.SBG.GetCharsL.sgnL; rw [if_pos nn]
      have HR2 := (SX.kp (SX.kp (SX.kp (SX.kp (SX.kp (SX.kp (SX.kp (SX.kp (SX.kp (SX.kp (SX.kp (SX.kp (SX.kp (SX.kp (SX.kp (SX.kp (SX.kp (SX.kp (SX.kp (SX.ext HR E1) (Keep.of_wr W3) HR.1.lt HR.2.2.2.1.lt (inS (P := fun w => _ ≤ w) (Nat.le_trans (Nat.le_refl _) (Nat.le_of_eq g1.symm)) (fun x hx => (List.not_mem_nil hx).elim))) (Keep.of_wr W5) HR.1.lt HR.2.2.2.1.lt (inS (P := fun w => _ ≤ w) (Nat.le_trans (Nat.le_refl _) (Nat.le_of_eq g1.symm)) (fun x hx => (List.not_mem_nil hx).elim))) (Keep.of_wr W7) HR.1.lt HR.2.2.2.1.lt (inS (P := fun w => _ ≤ w) (Nat.le_trans (Nat.le_refl _) (Nat.le_of_eq g1.symm)) (fun x hx => (List.not_mem_nil hx).elim))) (Keep.of_wr W9) HR.1.lt HR.2.2.2.1.lt (inS (P := fun w => _ ≤ w) (Nat.le_trans (Nat.le_refl _) (Nat.le_of_eq g1.symm)) (fun x hx => (List.not_mem_nil hx).elim))) (Keep.of_wr W11) HR.1.lt HR.2.2.2.1.lt (inS (P := fun w => _ ≤ w) (Nat.le_trans (Nat.le_refl _) (Nat.le_of_eq g1.symm)) (fun x hx => (List.not_mem_nil hx).elim))) (Keep.of_wr W13) HR.1.lt HR.2.2.2.1.lt (inS (P := fun w => _ ≤ w) (Nat.le_trans (Nat.le_refl _) (Nat.le_of_eq g1.symm)) (fun x hx => (List.not_mem_nil hx).elim))) (Keep.of_wr W15) HR.1.lt HR.2.2.2.1.lt (inS (P := fun w => _ ≤ w) (Nat.le_trans (Nat.le_refl _) (Nat.le_of_eq g1.symm)) (fun x hx => (List.not_mem_nil hx).elim))) (Keep.of_wr W17) HR.1.lt HR.2.2.2.1.lt (inS (P := fun w => _ ≤ w) (Nat.le_trans (Nat.le_refl _) (Nat.le_of_eq g1.symm)) (fun x hx => (List.not_mem_nil hx).elim))) (Keep.of_wr W19) HR.1.lt HR.2.2.2.1.lt (inS (P := fun w => _ ≤ w) (Nat.le_trans (Nat.le_refl _) (Nat.le_of_eq g1.symm)) (fun x hx => (List.not_mem_nil hx).elim))) (Keep.of_wr W21) HR.1.lt HR.2.2.2.1.lt (inS (P := fun w => _ ≤ w) (Nat.le_trans (Nat.le_refl _) (Nat.le_of_eq g1.symm)) (fun x hx => (List.not_mem_nil hx).elim))) (Keep.of_wr W23) HR.1.lt HR.2.2.2.1.lt (inS (P := fun w => _ ≤ w) (Nat.le_trans (Nat.le_refl _) (Nat.le_of_eq g1.symm)) (fun x hx => (List.not_mem_nil hx).elim))) (Keep.of_wr W25) HR.1.lt HR.2.2.2.1.lt (inS (P := fun w => _ ≤ w) (Nat.le_trans (Nat.le_refl _) (Nat.le_of_eq g1.symm)) (fun x hx => (List.not_mem_nil hx).elim))) (Keep.of_wr W27) HR.1.lt HR.2.2.2.1.lt (inS (P := fun w => _ ≤ w) (Nat.le_trans (Nat.le_refl _) (Nat.le_of_eq g1.symm)) (fun x hx => (List.not_mem_nil hx).elim))) (Keep.of_wr W29) HR.1.lt HR.2.2.2.1.lt (inS (P := fun w => _ ≤ w) (Nat.le_trans (Nat.le_refl _) (Nat.le_of_eq g1.symm)) (fun x hx => (List.not_mem_nil hx).elim))) (Keep.of_wr W31) HR.1.lt HR.2.2.2.1.lt (inS (P := fun w => _ ≤ w) (Nat.le_trans (Nat.le_refl _) (Nat.le_of_eq g1.symm)) (fun x hx => (List.not_mem_nil hx).elim))) (Keep.of_wr W33) HR.1.lt HR.2.2.2.1.lt (inS (P := fun w => _ ≤ w) (Nat.le_trans (Nat.le_refl _) (Nat.le_of_eq g1.symm)) (fun x hx => (List.not_mem_nil hx).elim))) (Keep.of_wr W35) HR.1.lt HR.2.2.2.1.lt (inS (P := fun w => _ ≤ w) (Nat.le_trans (Nat.le_refl _) (Nat.le_of_eq g1.symm)) (fun x hx => (List.not_mem_nil hx).elim))) (Keep.of_wr W37) HR.1.lt HR.2.2.2.1.lt (inS (P := fun w => _ ≤ w) (Nat.le_trans (Nat.le_refl _) (Nat.le_of_eq g1.symm)) (fun x hx => (List.not_mem_nil hx).elim))) (Keep.of_wr W39) HR.1.lt HR.2.2.2.1.lt (inS (P := fun w => _ ≤ w) (Nat.le_trans (Nat.le_refl _) (Nat.le_of_eq g1.symm)) (fun x hx => (List.not_mem_nil hx).elim)))
      have HN2 := (SX.kp (SX.kp (SX.kp (SX.kp (SX.kp (SX.kp (SX.kp (SX.kp (SX.kp (SX.kp (SX.kp (SX.kp (SX.kp (SX.kp (SX.kp (SX.kp (SX.kp (SX.kp (SX.kp (SX.ext HN E1) (Keep.of_wr W3) HN.1.lt HN.2.2.2.1.lt (inS (P := fun w => _ ≤ w) (Nat.le_trans (Nat.le_refl _) (Nat.le_of_eq g1.symm)) (fun x hx => (List.not_mem_nil hx).elim))) (Keep.of_wr W5) HN.1.lt HN.2.2.2.1.lt (inS (P := fun w => _ ≤ w) (Nat.le_trans (Nat.le_refl _) (Nat.le_of_eq g1.symm)) (fun x hx => (List.not_mem_nil hx).elim))) (Keep.of_wr W7) HN.1.lt HN.2.2.2.1.lt (inS (P := fun w => _ ≤ w) (Nat.le_trans (Nat.le_refl _) (Nat.le_of_eq g1.symm)) (fun x hx => (List.not_mem_nil hx).elim))) (Keep.of_wr W9) HN.1.lt HN.2.2.2.1.lt (inS (P := fun w => _ ≤ w) (Nat.le_trans (Nat.le_refl _) (Nat.le_of_eq g1.symm)) (fun x hx => (List.not_mem_nil hx).elim))) (Keep.of_wr W11) HN.1.lt HN.2.2.2.1.lt (inS (P := fun w => _ ≤ w) (Nat.le_trans (Nat.le_refl _) (Nat.le_of_eq g1.symm)) (fun x hx => (List.not_mem_nil hx).elim))) (Keep.of_wr W13) HN.1.lt HN.2.2.2.1.lt (inS (P := fun w => _ ≤ w) (Nat.le_trans (Nat.le_refl _) (Nat.le_of_eq g1.symm)) (fun x hx => (List.not_mem_nil hx).elim))) (Keep.of_wr W15) HN.1.lt HN.2.2.2.1.lt (inS (P := fun w => _ ≤ w) (Nat.le_trans (Nat.le_refl _) (Nat.le_of_eq g1.symm)) (fun x hx => (List.not_mem_nil hx).elim))) (Keep.of_wr W17) HN.1.lt HN.2.2.2.1.lt (inS (P := fun w => _ ≤ w) (Nat.le_trans (Nat.le_refl _) (Nat.le_of_eq g1.symm)) (fun x hx => (List.not_mem_nil hx).elim))) (Keep.of_wr W19) HN.1.lt HN.2.2.2.1.lt (inS (P := fun w => _ ≤ w) (Nat.le_trans (Nat.le_refl _) (Nat.le_of_eq g1.symm)) (fun x hx => (List.not_mem_nil hx).elim))) (Keep.of_wr W21) HN.1.lt HN.2.2.2.1.lt (inS (P := fun w => _ ≤ w) (Nat.le_trans (Nat.le_refl _) (Nat.le_of_eq g1.symm)) (fun x hx => (List.not_mem_nil hx).elim))) (Keep.of_wr W23) HN.1.lt HN.2.2.2.1.lt (inS (P := fun w => _ ≤ w) (Nat.le_trans (Nat.le_refl _) (Nat.le_of_eq g1.symm)) (fun x hx => (List.not_mem_nil hx).elim))) (Keep.of_wr W25) HN.1.lt HN.2.2.2.1.lt (inS (P := fun w => _ ≤ w) (Nat.le_trans (Nat.le_refl _) (Nat.le_of_eq g1.symm)) (fun x hx => (List.not_mem_nil hx).elim))) (Keep.of_wr W27) HN.1.lt HN.2.2.2.1.lt (inS (P := fun w => _ ≤ w) (Nat.le_trans (Nat.le_refl _) (Nat.le_of_eq g1.symm)) (fun x hx => (List.not_mem_nil hx).elim))) (Keep.of_wr W29) HN.1.lt HN.2.2.2.1.lt (inS (P := fun w => _ ≤ w) (Nat.le_trans (Nat.le_refl _) (Nat.le_of_eq g1.symm)) (fun x hx => (List.not_mem_nil hx).elim))) (Keep.of_wr W31) HN.1.lt HN.2.2.2.1.lt (inS (P := fun w => _ ≤ w) (Nat.le_trans (Nat.le_refl _) (Nat.le_of_eq g1.symm)) (fun x hx => (List.not_mem_nil hx).elim))) (Keep.of_wr W33) HN.1.lt HN.2.2.2.1.lt (inS (P := fun w => _ ≤ w) (Nat.le_trans (Nat.le_refl _) (Nat.le_of_eq g1.symm)) (fun x hx => (List.not_mem_nil hx).elim))) (Keep.of_wr W35) HN.1.lt HN.2.2.2.1.lt (inS (P := fun w => _ ≤ w) (Nat.le_trans (Nat.le_refl _) (Nat.le_of_eq g1.symm)) (fun x hx => (List.not_mem_nil hx).elim))) (Keep.of_wr W37) HN.1.lt HN.2.2.2.1.lt (inS (P := fun w => _ ≤ w) (Nat.le_trans (Nat.le_refl _) (Nat.le_of_eq g1.symm)) (fun x hx => (List.not_mem_nil hx).elim))) (Keep.of_wr W39) HN.1.lt HN.2.2.2.1.lt (inS (P := fun w => _ ≤ w) (Nat.le_trans (Nat.le_refl _) (Nat.le_of_eq g1.symm)) (fun x hx => (List.not_mem_nil hx).elim)))
      have HP2 := V39
      show Go B n0 _ h39 40 4000 330 #[(.val (.int i0)), (.val (.int i1)), (.val (.int i2)), (.val (.long xx)), .second, (.val (.int (Int32.ofNat (ds.length)))), (.val (.int cc0)), (.val (.int cc1)), (.val (.int cc2)), (.val (.ref na)), (.val (.ref s)), (.val (.ref tx)), (.val (.ref r)), (.val (.ref a1)), (.val (.int (1 : Int32))), (.val (.long xx)), .second, .unset, .unset, .unset, .unset, .unset, .unset, .unset] []
      rw [show (Value.long xx) = Value.long (Jvm.Free.SBG.negL n) from congrArg Value.long hm]
      exact TC1 hw O39 S0 hz0 S1 rf HR2 HN2 hds hn HP2 hsg nn C D HC_40
theorem own_four (p : Int32) : (p &&& 3) = 0 ∨ (p &&& 3) = 1 ∨ (p &&& 3) = 2 ∨ (p &&& 3) = 3 := by
  have e1 := c_mask p 3 2 (by decide) (by decide)
  simp only [← Int32.toInt_inj]
  have q0 : (0 : Int32).toInt = 0 := by decide
  have q1 : (1 : Int32).toInt = 1 := by decide
  have q2 : (2 : Int32).toInt = 2 := by decide
  have q3 : (3 : Int32).toInt = 3 := by decide
  omega
theorem ef_rm0 (m : MethodId) (x0 : Int32) (x1 : Int32) (x2 : Int32) (x3 : Int64) : entryFrame m #[(.int x0), (.int x1), (.int x2), (.long x3)] maxLocals = mkF m 0 #[(.val (.int x0)), (.val (.int x1)), (.val (.int x2)), (.val (.long x3)), .second, .unset, .unset, .unset, .unset, .unset, .unset, .unset, .unset, .unset, .unset, .unset, .unset, .unset, .unset, .unset, .unset, .unset, .unset, .unset] [] := by first | (simp [entryFrame, mkF, argsToLocals, Value.category, maxLocals]; done) | rfl
set_option maxRecDepth 65536 in
set_option maxHeartbeats 4000000 in
theorem rm0 {l : Launch} {Z : State} {a0 : Array Value} (hw : ∀ d ∈ tables_1, d.before a0 Z = true) (hEW : EW Z a0 EL) {n0 : Nat} {h0 : Heap} (i0 i1 i2 : Int32) (xx : Int64) (O : Old Z n0 h0) {z0 : Int32} (S0 : Sta Z Z.heap "java/lang/String" "COMPACT_STRINGS" "Z" (.int z0)) (hz0 : ¬ z0 = 0) {fm : Value} (S1 : Sta Z Z.heap "jdk/internal/util/Preconditions" "SIOOBE_FORMATTER" "Ljava/util/function/BiFunction;" fm) (rf : fm.isRef = true) {ist d1 d2 : Addr} {D1 D2 : Cell} (T1 : Jvm.Free.SBG.Tbl Z "DigitOnes" ist d1 D1) (T2 : Jvm.Free.SBG.Tbl Z "DigitTens" ist d2 D2) (U1 : Jvm.Free.SBG.Ones D1) (U2 : Jvm.Free.SBG.Tens D2) {n : Nat} (hn : n ≤ 2 ^ 63) (hx : (if xx < 0 then xx else -xx) = Jvm.Free.SBG.negL n) :
    PaysC l Z EL [] x code maxLocals ret room_1 #[(.int i0), (.int i1), (.int i2), (.long xx)] n0 h0 (fun v _ => v = some (.int 1)) := by
  refine PaysC.of hw (plainFor_of_name pn7) hEW (fun m => ef_rm0 m i0 i1 i2 xx) fun B vmS C D HC HSs => ?_
  refine iIloadN C d0_0 rfl ?_
  refine iIconst C d0_1 (v := (3 : Int32)) (by decide) ?_
  refine iIand C d0_2 rfl ?_
  refine iIstore C d0_3 (Ls' := #[(.val (.int i0)), (.val (.int i1)), (.val (.int i2)), (.val (.long xx)), .second, (.val (.int (i0 &&& (3 : Int32)))), .unset, .unset, .unset, .unset, .unset, .unset, .unset, .unset, .unset, .unset, .unset, .unset, .unset, .unset, .unset, .unset, .unset, .unset]) rfl ?_
  rcases own_four i0 with q | q | q | q
  · rw [q]
    refine iIloadN C d0_5 rfl ?_
    refine iSipush C d0_6 (v := (255 : Int32)) (by decide) ?_
    refine iIand C d0_9 rfl ?_
    refine iI2c C d0_10 rfl ?_
    refine iIstore C d0_11 (Ls' := #[(.val (.int i0)), (.val (.int i1)), (.val (.int i2)), (.val (.long xx)), .second, (.val (.int (0 : Int32))), (.val (.int ((i1 &&& (255 : Int32))).toUInt32.toUInt16.toUInt32.toInt32)), .unset, .unset, .unset, .unset, .unset, .unset, .unset, .unset, .unset, .unset, .unset, .unset, .unset, .unset, .unset, .unset, .unset]) rfl ?_
    refine iIloadN C d0_13 rfl ?_
    refine iBipush C d0_14 (v := (8 : Int32)) (by decide) ?_
    refine iIushr C d0_16 rfl ?_
    refine iSipush C d0_17 (v := (255 : Int32)) (by decide) ?_
    refine iIand C d0_20 rfl ?_
    refine iI2c C d0_21 rfl ?_
    refine iIstore C d0_22 (Ls' := #[(.val (.int i0)), (.val (.int i1)), (.val (.int i2)), (.val (.long xx)), .second, (.val (.int (0 : Int32))), (.val (.int ((i1 &&& (255 : Int32))).toUInt32.toUInt16.toUInt32.toInt32)), (.val (.int ((((i1).toUInt32 >>> ((8 : Int32) &&& 31).toUInt32).toInt32 &&& (255 : Int32))).toUInt32.toUInt16.toUInt32.toInt32)), .unset, .unset, .unset, .unset, .unset, .unset, .unset, .unset, .unset, .unset, .unset, .unset, .unset, .unset, .unset, .unset]) rfl ?_
    refine iIloadN C d0_24 rfl ?_
    refine iBipush C d0_25 (v := (16 : Int32)) (by decide) ?_
    refine iIushr C d0_27 rfl ?_
    refine iSipush C d0_28 (v := (255 : Int32)) (by decide) ?_
    refine iIand C d0_31 rfl ?_
    refine iI2c C d0_32 rfl ?_
    refine iIstore C d0_33 (Ls' := #[(.val (.int i0)), (.val (.int i1)), (.val (.int i2)), (.val (.long xx)), .second, (.val (.int (0 : Int32))), (.val (.int ((i1 &&& (255 : Int32))).toUInt32.toUInt16.toUInt32.toInt32)), (.val (.int ((((i1).toUInt32 >>> ((8 : Int32) &&& 31).toUInt32).toInt32 &&& (255 : Int32))).toUInt32.toUInt16.toUInt32.toInt32)), (.val (.int ((((i1).toUInt32 >>> ((16 : Int32) &&& 31).toUInt32).toInt32 &&& (255 : Int32))).toUInt32.toUInt16.toUInt32.toInt32)), .unset, .unset, .unset, .unset, .unset, .unset, .unset, .unset, .unset, .unset, .unset, .unset, .unset, .unset, .unset]) rfl ?_
    refine iIload C d0_35 rfl ?_
    refine iIfF C d0_37 (by decide) ?_
    refine iIconst C d0_40 (v := (0 : Int32)) (by decide) ?_
    refine iNewP C (aty := .char) tw0 d0_41 (by decide) (cap := 0) (by decide) (by decide) ⟨rfl, rfl, by decide, by decide⟩ fun h1 a1 k1 g1 E1 V1 => ?_
    have n_a1 : n0 ≤ a1 := oFresh O g1
    have O1 := O.ext E1
    have HC_2 := Chx.ext HC E1
    have V1 : Arv Z h1 a1 k1 .char (0 : Int32) [] (.int 0) := V1.pad (pad_rep [] (.int 0) 0)
    refine iAstore C d0_43 (Ls' := #[(.val (.int i0)), (.val (.int i1)), (.val (.int i2)), (.val (.long xx)), .second, (.val (.int (0 : Int32))), (.val (.int ((i1 &&& (255 : Int32))).toUInt32.toUInt16.toUInt32.toInt32)), (.val (.int ((((i1).toUInt32 >>> ((8 : Int32) &&& 31).toUInt32).toInt32 &&& (255 : Int32))).toUInt32.toUInt16.toUInt32.toInt32)), (.val (.int ((((i1).toUInt32 >>> ((16 : Int32) &&& 31).toUInt32).toInt32 &&& (255 : Int32))).toUInt32.toUInt16.toUInt32.toInt32)), (.val (.ref a1)), .unset, .unset, .unset, .unset, .unset, .unset, .unset, .unset, .unset, .unset, .unset, .unset, .unset, .unset]) rfl rfl ?_
    refine iGoto C (t := 111) d0_45 ⟨by decide, by decide⟩ ?_
    refine iNew C tw1 tw2 tw3 d0_111 ⟨rfl, rfl, by decide, by decide⟩ fun h3 a3 g3 E3 A3 D3 => ?_
    have n_a3 : n0 ≤ a3 := oFresh O1 g3
    have O3 := O1.ext E3
    have HC_4 := Chx.ext HC_2 E3
    have F3_value : Fld Z h3 a3 "java/lang/String" "value" "[B" .null := D3 (Or.inr (hw _ tw16)) (ty := (.array .byte)) (by decide)
    have F3_coder : Fld Z h3 a3 "java/lang/String" "coder" "B" (.int (0 : Int32)) := D3 (Or.inr (hw _ tw17)) (ty := .byte) (by decide)
    have sfn_a3 := Sfx.ext (Sfx.new (B := B) (Z := Z) (EL := EL) (Nat.le_of_eq g3.symm)) E3 HC_2
    refine iDup C d0_114 rfl ?_
    refine iAload C d0_115 rfl rfl ?_
    refine iCallIC C D HC_4 (sa := [a3]) (inS (P := fun x => x < _ ∧ Sfx B Z EL _ x) ⟨A3.lt, sfn_a3⟩ (fun x hx => (List.not_mem_nil hx).elim)) (rmC1 hw hEW O3 n_a3 A3 F3_value F3_coder (V1.ext E3)) rfl tw4 tw5 tw3 tw6 ⟨by decide, by decide⟩ (a := a3) (argsL := [(.ref a1)]) (S' := [(.ref a3)]) (lenOf pd29 rfl) rfl rfl d0_117 rfl (W := 1) rfl ⟨by decide, by decide, rfl, rfl, by decide, by decide⟩ fun B v5 h5 C D HC5 sm5 q5 => ?_
    have sf5_a3 := sm5 _ A3.lt sfn_a3
    obtain ⟨rfl, K_5, t_5, k_5, sx_5⟩ := q5
    have O5 := O3.keep K_5 (allS n_a3 all0)
    show Go B n0 _ h5 4 8 120 _ [(.ref a3)]
    refine iAstore C d0_120 (Ls' := #[(.val (.int i0)), (.val (.int i1)), (.val (.int i2)), (.val (.long xx)), .second, (.val (.int (0 : Int32))), (.val (.int ((i1 &&& (255 : Int32))).toUInt32.toUInt16.toUInt32.toInt32)), (.val (.int ((((i1).toUInt32 >>> ((8 : Int32) &&& 31).toUInt32).toInt32 &&& (255 : Int32))).toUInt32.toUInt16.toUInt32.toInt32)), (.val (.int ((((i1).toUInt32 >>> ((16 : Int32) &&& 31).toUInt32).toInt32 &&& (255 : Int32))).toUInt32.toUInt16.toUInt32.toInt32)), (.val (.ref a1)), (.val (.ref a3)), .unset, .unset, .unset, .unset, .unset, .unset, .unset, .unset, .unset, .unset, .unset, .unset, .unset]) rfl rfl ?_
    refine iNew C tw1 tw2 tw3 d0_122 ⟨rfl, rfl, by decide, by decide⟩ fun h6 a6 g6 E6 A6 D6 => ?_
    have n_a6 : n0 ≤ a6 := oFresh O5 g6
    have O6 := O5.ext E6
    have HC_7 := Chx.ext HC5 E6
    have F6_value : Fld Z h6 a6 "java/lang/String" "value" "[B" .null := D6 (Or.inr (hw _ tw16)) (ty := (.array .byte)) (by decide)
    have F6_coder : Fld Z h6 a6 "java/lang/String" "coder" "B" (.int (0 : Int32)) := D6 (Or.inr (hw _ tw17)) (ty := .byte) (by decide)
    have sfn_a6 := Sfx.ext (Sfx.new (B := B) (Z := Z) (EL := EL) (Nat.le_of_eq g6.symm)) E6 HC5
    refine iDup C d0_125 rfl ?_
    refine iIconst C d0_126 (v := (2 : Int32)) (by decide) ?_
    refine iNewP C (aty := .char) tw0 d0_127 (by decide) (cap := 2) (by decide) (by decide) ⟨rfl, rfl, by decide, by decide⟩ fun h8 a8 k8 g8 E8 V8 => ?_
    have n_a8 : n0 ≤ a8 := oFresh O6 g8
    have O8 := O6.ext E8
    have sf_9_a6 := Sfx.ext sfn_a6 E8 HC_7
    have HC_9 := Chx.ext HC_7 E8
    have V8 : Arv Z h8 a8 k8 .char (2 : Int32) [(.int 0), (.int 0)] (.int 0) := V8.pad (pad_rep [] (.int 0) 2)
    refine iDup C d0_129 rfl ?_
    refine iIconst C d0_130 (v := (0 : Int32)) (by decide) ?_
    refine iIloadN C d0_131 rfl ?_
    refine iSipush C d0_132 (v := (255 : Int32)) (by decide) ?_
    refine iIand C d0_135 rfl ?_
    refine iI2c C d0_136 rfl ?_
    obtain ⟨c10, A10, q10, z10, y10, H10, G10⟩ := id V8
    refine iCastore C A10 (inb_of z10 ⟨by decide, by decide⟩) n_a8 d0_137 fun h10 W10 => ?_
    have V10 : Arv Z h10 a8 k8 .char (2 : Int32) [(.int (nar .char ((i2 &&& (255 : Int32))).toUInt32.toUInt16.toUInt32.toInt32)), (.int 0)] (.int 0) := Arv.set A10 q10 z10 y10 H10 G10 (fits_nar_char _) W10 0 (by decide) (Nat.le_of_ble_eq_true rfl)
    have O10 := O8.wr W10 n_a8
    have sf_11_a6 := Sfx.wr sf_9_a6 W10 (Sfx.arv C V8 (by decide)) HC_9
    have HC_11 := Chx.wr HC_9 W10 (Sfx.arv C V8 (by decide))
    refine iDup C d0_138 rfl ?_
    refine iIconst C d0_139 (v := (1 : Int32)) (by decide) ?_
    refine iIloadN C d0_140 rfl ?_
    refine iBipush C d0_141 (v := (8 : Int32)) (by decide) ?_
    refine iIushr C d0_143 rfl ?_
    refine iSipush C d0_144 (v := (255 : Int32)) (by decide) ?_
    refine iIand C d0_147 rfl ?_
    refine iI2c C d0_148 rfl ?_
    obtain ⟨c12, A12, q12, z12, y12, H12, G12⟩ := id V10
    refine iCastore C A12 (inb_of z12 ⟨by decide, by decide⟩) n_a8 d0_149 fun h12 W12 => ?_
    have V12 : Arv Z h12 a8 k8 .char (2 : Int32) [(.int (nar .char ((i2 &&& (255 : Int32))).toUInt32.toUInt16.toUInt32.toInt32)), (.int (nar .char ((((i2).toUInt32 >>> ((8 : Int32) &&& 31).toUInt32).toInt32 &&& (255 : Int32))).toUInt32.toUInt16.toUInt32.toInt32))] (.int 0) := Arv.set A12 q12 z12 y12 H12 G12 (fits_nar_char _) W12 1 (by decide) (Nat.le_of_ble_eq_true rfl)
    have O12 := O10.wr W12 n_a8
    have sf_13_a6 := Sfx.wr sf_11_a6 W12 (Sfx.arv C V10 (by decide)) HC_11
    have HC_13 := Chx.wr HC_11 W12 (Sfx.arv C V10 (by decide))
    have K14 : Arv Z h12 a8 k8 .char (2 : Int32) (List.map Value.int [(i2 &&& (255 : Int32)), (((i2).toUInt32 >>> ((8 : Int32) &&& 31).toUInt32).toInt32 &&& (255 : Int32))]) (.int 0) := by
      have q := V12
      simpa only [own_ch, List.map] using q
    have P14 : ∀ c ∈ [(i2 &&& (255 : Int32)), (((i2).toUInt32 >>> ((8 : Int32) &&& 31).toUInt32).toInt32 &&& (255 : Int32))], ¬ c < 0 ∧ ¬ (255 : Int32) < c := by
      intro c hc
      simp only [List.mem_cons, List.not_mem_nil, or_false] at hc
      rcases hc with rfl | rfl <;> exact own_lat _
    refine iCallIB C (a := a6) (payStr hw n_a6 O12 (((A6.ext E8).wr W10).wr W12) (((F6_value.ext E8).other W10 (Or.inl (oNe A6.lt (Nat.le_of_eq g8.symm)))).other W12 (Or.inl (oNe A6.lt (Nat.le_of_eq g8.symm)))) (((F6_coder.ext E8).other W10 (Or.inl (oNe A6.lt (Nat.le_of_eq g8.symm)))).other W12 (Or.inl (oNe A6.lt (Nat.le_of_eq g8.symm)))) K14 (S0.ext O12.2) hz0 (n := 2) rfl rfl (by decide) (by decide) P14 (by decide) (by decide)) rfl tw4 tw5 tw6 ⟨by decide, by decide⟩ (argsL := [(.ref a8)]) (S' := [(.ref a6)]) (lenOf pd29 rfl) rfl rfl d0_150 rfl (W := 1) rfl ⟨rfl, rfl, by decide, by decide⟩ fun v15 h15 q15 => ?_
    obtain ⟨rfl, K_15, t_15, k_15, sx_15⟩ := q15
    have al_16 : ∀ x ∈ [a6], Sfx B Z EL h12 x := (inS (P := Sfx B Z EL _) sf_13_a6 (fun x hx => (List.not_mem_nil hx).elim))
    have sf_16_a6 := Sfx.keep sf_13_a6 K_15 al_16 HC_13
    have HC_16 := Chx.keep HC_13 K_15 al_16
    have O15 := O12.keep K_15 (allS n_a6 all0)
    show Go B n0 _ h15 7 16 153 _ [(.ref a6)]
    refine iAstore C d0_153 (Ls' := #[(.val (.int i0)), (.val (.int i1)), (.val (.int i2)), (.val (.long xx)), .second, (.val (.int (0 : Int32))), (.val (.int ((i1 &&& (255 : Int32))).toUInt32.toUInt16.toUInt32.toInt32)), (.val (.int ((((i1).toUInt32 >>> ((8 : Int32) &&& 31).toUInt32).toInt32 &&& (255 : Int32))).toUInt32.toUInt16.toUInt32.toInt32)), (.val (.int ((((i1).toUInt32 >>> ((16 : Int32) &&& 31).toUInt32).toInt32 &&& (255 : Int32))).toUInt32.toUInt16.toUInt32.toInt32)), (.val (.ref a1)), (.val (.ref a3)), (.val (.ref a6)), .unset, .unset, .unset, .unset, .unset, .unset, .unset, .unset, .unset, .unset, .unset, .unset]) rfl rfl ?_
    refine iNew C tw33 tw34 tw35 d0_155 ⟨rfl, rfl, by decide, by decide⟩ fun h17 a17 g17 E17 A17 D17 => ?_
    have n_a17 : n0 ≤ a17 := oFresh O15 g17
    have O17 := O15.ext E17
    have HC_18 := Chx.ext HC_16 E17
    have F17_text : Fld Z h17 a17 "com/example/uketsuke/uketsuke/core/token/PageToken" "text" "Ljava/lang/String;" .null := D17 (Or.inr (hw _ tw46)) (ty := (.object "java/lang/String")) (by decide)
    have F17_nonce : Fld Z h17 a17 "com/example/uketsuke/uketsuke/core/token/PageToken" "nonce" "Ljava/lang/String;" .null := D17 (Or.inr (hw _ tw48)) (ty := (.object "java/lang/String")) (by decide)
    have F17_expiresAt : Fld Z h17 a17 "com/example/uketsuke/uketsuke/core/token/PageToken" "expiresAt" "J" (.long (0 : Int64)) := D17 (Or.inr (hw _ tw50)) (ty := .long) (by decide)
    refine iDup C d0_158 rfl ?_
    refine iAload C d0_159 rfl rfl ?_
    refine iAload C d0_161 rfl rfl ?_
    refine iLloadN C d0_163 rfl ?_
    refine iCallI C (rmPT hw (s0 := a6) (s := a3) (x := xx) O17 A17 F17_text F17_nonce F17_expiresAt n_a17) rfl tw36 tw37 tw35 tw38 ⟨by decide, by decide⟩ (a := a17) (argsL := [(.ref a6), (.ref a3), (.long xx)]) (S' := [(.ref a17)]) (lenOf pd30 rfl) rfl rfl d0_164 rfl (W := 1) rfl ⟨by decide, by decide, rfl, rfl, by decide, by decide⟩ fun v19 h19 q19 => ?_
    obtain ⟨rfl, K_19, fn_19, fe_19⟩ := q19
    have al_20 : ∀ x ∈ [a17], Sfx B Z EL h17 x := (inS (P := Sfx B Z EL _) (Sfx.exa C A17 (by decide) (by decide)) (fun x hx => (List.not_mem_nil hx).elim))
    have HC_20 := Chx.keep HC_18 K_19 al_20
    have O19 := O17.keep K_19 (allS n_a17 all0)
    show Go B n0 _ h19 8 19 167 _ [(.ref a17)]
    refine iCallVC C D HC_20 (sa := []) (fun x hx => (List.not_mem_nil hx).elim) (rmTO hw hEW (ds := SEMP) (x := xx) (n := n) O19 S0 hz0 T1 T2 U1 U2 hn hx (A17.keep K_19) fn_19 fe_19 (SX.kp (SX.ext (SX.kp (SX.kp (SX.kp (SX.ext (SX.ext sx_5 E6) E8) (Keep.of_wr W10) sx_5.1.lt sx_5.2.2.2.1.lt (inS (P := fun w => _ ≤ w) (Nat.le_trans (Nat.le_trans (Nat.le_refl _) E6.1) (Nat.le_of_eq g8.symm)) (fun x hx => (List.not_mem_nil hx).elim))) (Keep.of_wr W12) sx_5.1.lt sx_5.2.2.2.1.lt (inS (P := fun w => _ ≤ w) (Nat.le_trans (Nat.le_trans (Nat.le_refl _) E6.1) (Nat.le_of_eq g8.symm)) (fun x hx => (List.not_mem_nil hx).elim))) K_15 sx_5.1.lt sx_5.2.2.2.1.lt (inS (P := fun w => _ ≤ w) (Nat.le_trans (Nat.le_refl _) (Nat.le_of_eq g6.symm)) (fun x hx => (List.not_mem_nil hx).elim))) E17) K_19 sx_5.1.lt sx_5.2.2.2.1.lt (inS (P := fun w => _ ≤ w) (Nat.le_trans (Nat.le_trans (Nat.le_trans (Nat.le_trans (Nat.le_trans (Nat.le_trans (Nat.le_refl _) E6.1) E8.1) (Nat.le_of_eq W10.size.symm)) (Nat.le_of_eq W12.size.symm)) K_15.1) (Nat.le_of_eq g17.symm)) (fun x hx => (List.not_mem_nil hx).elim))) (Nat.le_of_ble_eq_true rfl)) (A17.keep K_19) tw51 tw52 (Or.inl rfl) tw54 tw53 tw35 tw55 ⟨by decide, by decide⟩ (a := a17) (argsL := []) (S' := []) (lenOf pd26 rfl) rfl rfl d0_167 rfl (W := 0) rfl ⟨by decide, by decide, rfl, rfl, by decide, by decide⟩ fun B v21 h21 C D HC21 sm21 q21 => ?_
    obtain ⟨x21, t21, k21, rfl, K_21, gx_21, sx_21⟩ := q21
    have O21 := O19.keep K_21 all0
    show Go B n0 _ h21 23 951 170 _ [(.ref x21)]
    refine iAstore C d0_170 (Ls' := #[(.val (.int i0)), (.val (.int i1)), (.val (.int i2)), (.val (.long xx)), .second, (.val (.int (0 : Int32))), (.val (.int ((i1 &&& (255 : Int32))).toUInt32.toUInt16.toUInt32.toInt32)), (.val (.int ((((i1).toUInt32 >>> ((8 : Int32) &&& 31).toUInt32).toInt32 &&& (255 : Int32))).toUInt32.toUInt16.toUInt32.toInt32)), (.val (.int ((((i1).toUInt32 >>> ((16 : Int32) &&& 31).toUInt32).toInt32 &&& (255 : Int32))).toUInt32.toUInt16.toUInt32.toInt32)), (.val (.ref a1)), (.val (.ref a3)), (.val (.ref a6)), (.val (.ref x21)), .unset, .unset, .unset, .unset, .unset, .unset, .unset, .unset, .unset, .unset, .unset]) rfl rfl ?_
    refine Go.more (ce' := 39) (sl' := 3981) (by decide) (by decide) ?_
    exact TB hw (ds := SEMP) O21 S0 hz0 S1 rf sx_21 (SX.kp (SX.kp (SX.ext (SX.kp (SX.kp (SX.kp (SX.ext (SX.ext sx_5 E6) E8) (Keep.of_wr W10) sx_5.1.lt sx_5.2.2.2.1.lt (inS (P := fun w => _ ≤ w) (Nat.le_trans (Nat.le_trans (Nat.le_refl _) E6.1) (Nat.le_of_eq g8.symm)) (fun x hx => (List.not_mem_nil hx).elim))) (Keep.of_wr W12) sx_5.1.lt sx_5.2.2.2.1.lt (inS (P := fun w => _ ≤ w) (Nat.le_trans (Nat.le_trans (Nat.le_refl _) E6.1) (Nat.le_of_eq g8.symm)) (fun x hx => (List.not_mem_nil hx).elim))) K_15 sx_5.1.lt sx_5.2.2.2.1.lt (inS (P := fun w => _ ≤ w) (Nat.le_trans (Nat.le_refl _) (Nat.le_of_eq g6.symm)) (fun x hx => (List.not_mem_nil hx).elim))) E17) K_19 sx_5.1.lt sx_5.2.2.2.1.lt (inS (P := fun w => _ ≤ w) (Nat.le_trans (Nat.le_trans (Nat.le_trans (Nat.le_trans (Nat.le_trans (Nat.le_trans (Nat.le_refl _) E6.1) E8.1) (Nat.le_of_eq W10.size.symm)) (Nat.le_of_eq W12.size.symm)) K_15.1) (Nat.le_of_eq g17.symm)) (fun x hx => (List.not_mem_nil hx).elim))) K_21 sx_5.1.lt sx_5.2.2.2.1.lt (fun x hx => (List.not_mem_nil hx).elim)) (Nat.le_of_ble_eq_true rfl) hn hx C D HC21
  · rw [q]
    refine iIloadN C d0_5 rfl ?_
    refine iSipush C d0_6 (v := (255 : Int32)) (by decide) ?_
    refine iIand C d0_9 rfl ?_
    refine iI2c C d0_10 rfl ?_
    refine iIstore C d0_11 (Ls' := #[(.val (.int i0)), (.val (.int i1)), (.val (.int i2)), (.val (.long xx)), .second, (.val (.int (1 : Int32))), (.val (.int ((i1 &&& (255 : Int32))).toUInt32.toUInt16.toUInt32.toInt32)), .unset, .unset, .unset, .unset, .unset, .unset, .unset, .unset, .unset, .unset, .unset, .unset, .unset, .unset, .unset, .unset, .unset]) rfl ?_
    refine iIloadN C d0_13 rfl ?_
    refine iBipush C d0_14 (v := (8 : Int32)) (by decide) ?_
    refine iIushr C d0_16 rfl ?_
    refine iSipush C d0_17 (v := (255 : Int32)) (by decide) ?_
    refine iIand C d0_20 rfl ?_
    refine iI2c C d0_21 rfl ?_
    refine iIstore C d0_22 (Ls' := #[(.val (.int i0)), (.val (.int i1)), (.val (.int i2)), (.val (.long xx)), .second, (.val (.int (1 : Int32))), (.val (.int ((i1 &&& (255 : Int32))).toUInt32.toUInt16.toUInt32.toInt32)), (.val (.int ((((i1).toUInt32 >>> ((8 : Int32) &&& 31).toUInt32).toInt32 &&& (255 : Int32))).toUInt32.toUInt16.toUInt32.toInt32)), .unset, .unset, .unset, .unset, .unset, .unset, .unset, .unset, .unset, .unset, .unset, .unset, .unset, .unset, .unset, .unset]) rfl ?_
    refine iIloadN C d0_24 rfl ?_
    refine iBipush C d0_25 (v := (16 : Int32)) (by decide) ?_
    refine iIushr C d0_27 rfl ?_
    refine iSipush C d0_28 (v := (255 : Int32)) (by decide) ?_
    refine iIand C d0_31 rfl ?_
    refine iI2c C d0_32 rfl ?_
    refine iIstore C d0_33 (Ls' := #[(.val (.int i0)), (.val (.int i1)), (.val (.int i2)), (.val (.long xx)), .second, (.val (.int (1 : Int32))), (.val (.int ((i1 &&& (255 : Int32))).toUInt32.toUInt16.toUInt32.toInt32)), (.val (.int ((((i1).toUInt32 >>> ((8 : Int32) &&& 31).toUInt32).toInt32 &&& (255 : Int32))).toUInt32.toUInt16.toUInt32.toInt32)), (.val (.int ((((i1).toUInt32 >>> ((16 : Int32) &&& 31).toUInt32).toInt32 &&& (255 : Int32))).toUInt32.toUInt16.toUInt32.toInt32)), .unset, .unset, .unset, .unset, .unset, .unset, .unset, .unset, .unset, .unset, .unset, .unset, .unset, .unset, .unset]) rfl ?_
    refine iIload C d0_35 rfl ?_
    refine iIfT C (t := 48) d0_37 (by decide) ⟨by decide, by decide⟩ ?_
    refine iIload C d0_48 rfl ?_
    refine iIconst C d0_50 (v := (1 : Int32)) (by decide) ?_
    refine iCmpF C d0_51 (by decide) ?_
    refine iIconst C d0_54 (v := (1 : Int32)) (by decide) ?_
    refine iNewP C (aty := .char) tw0 d0_55 (by decide) (cap := 1) (by decide) (by decide) ⟨rfl, rfl, by decide, by decide⟩ fun h22 a22 k22 g22 E22 V22 => ?_
    have n_a22 : n0 ≤ a22 := oFresh O g22
    have O22 := O.ext E22
    have HC_23 := Chx.ext HC E22
    have V22 : Arv Z h22 a22 k22 .char (1 : Int32) [(.int 0)] (.int 0) := V22.pad (pad_rep [] (.int 0) 1)
    refine iDup C d0_57 rfl ?_
    refine iIconst C d0_58 (v := (0 : Int32)) (by decide) ?_
    refine iIload C d0_59 rfl ?_
    obtain ⟨c24, A24, q24, z24, y24, H24, G24⟩ := id V22
    refine iCastore C A24 (inb_of z24 ⟨by decide, by decide⟩) n_a22 d0_61 fun h24 W24 => ?_
    have V24 : Arv Z h24 a22 k22 .char (1 : Int32) [(.int (nar .char ((i1 &&& (255 : Int32))).toUInt32.toUInt16.toUInt32.toInt32))] (.int 0) := Arv.set A24 q24 z24 y24 H24 G24 (fits_nar_char _) W24 0 (by decide) (Nat.le_of_ble_eq_true rfl)
    have O24 := O22.wr W24 n_a22
    have HC_25 := Chx.wr HC_23 W24 (Sfx.arv C V22 (by decide))
    refine iAstore C d0_62 (Ls' := #[(.val (.int i0)), (.val (.int i1)), (.val (.int i2)), (.val (.long xx)), .second, (.val (.int (1 : Int32))), (.val (.int ((i1 &&& (255 : Int32))).toUInt32.toUInt16.toUInt32.toInt32)), (.val (.int ((((i1).toUInt32 >>> ((8 : Int32) &&& 31).toUInt32).toInt32 &&& (255 : Int32))).toUInt32.toUInt16.toUInt32.toInt32)), (.val (.int ((((i1).toUInt32 >>> ((16 : Int32) &&& 31).toUInt32).toInt32 &&& (255 : Int32))).toUInt32.toUInt16.toUInt32.toInt32)), (.val (.ref a22)), .unset, .unset, .unset, .unset, .unset, .unset, .unset, .unset, .unset, .unset, .unset, .unset, .unset, .unset]) rfl rfl ?_
    refine iGoto C (t := 111) d0_64 ⟨by decide, by decide⟩ ?_
    refine iNew C tw1 tw2 tw3 d0_111 ⟨rfl, rfl, by decide, by decide⟩ fun h26 a26 g26 E26 A26 D26 => ?_
    have n_a26 : n0 ≤ a26 := oFresh O24 g26
    have O26 := O24.ext E26
    have HC_27 := Chx.ext HC_25 E26
    have F26_value : Fld Z h26 a26 "java/lang/String" "value" "[B" .null := D26 (Or.inr (hw _ tw16)) (ty := (.array .byte)) (by decide)
    have F26_coder : Fld Z h26 a26 "java/lang/String" "coder" "B" (.int (0 : Int32)) := D26 (Or.inr (hw _ tw17)) (ty := .byte) (by decide)
    have sfn_a26 := Sfx.ext (Sfx.new (B := B) (Z := Z) (EL := EL) (Nat.le_of_eq g26.symm)) E26 HC_25
    refine iDup C d0_114 rfl ?_
    refine iAload C d0_115 rfl rfl ?_
    have K28 : Arv Z h26 a22 k22 .char (1 : Int32) (List.map Value.int [(i1 &&& (255 : Int32))]) (.int 0) := by
      have q := (V24.ext E26)
      simpa only [own_ch, List.map] using q
    have P28 : ∀ c ∈ [(i1 &&& (255 : Int32))], ¬ c < 0 ∧ ¬ (255 : Int32) < c := by
      intro c hc
      simp only [List.mem_cons, List.not_mem_nil, or_false] at hc
      rcases hc with rfl <;> exact own_lat _
    refine iCallIB C (a := a26) (payStr hw n_a26 O26 A26 F26_value F26_coder K28 (S0.ext O26.2) hz0 (n := 1) rfl rfl (by decide) (by decide) P28 (by decide) (by decide)) rfl tw4 tw5 tw6 ⟨by decide, by decide⟩ (argsL := [(.ref a22)]) (S' := [(.ref a26)]) (lenOf pd29 rfl) rfl rfl d0_117 rfl (W := 1) rfl ⟨rfl, rfl, by decide, by decide⟩ fun v29 h29 q29 => ?_
    obtain ⟨rfl, K_29, t_29, k_29, sx_29⟩ := q29
    have al_30 : ∀ x ∈ [a26], Sfx B Z EL h26 x := (inS (P := Sfx B Z EL _) sfn_a26 (fun x hx => (List.not_mem_nil hx).elim))
    have sf_30_a26 := Sfx.keep sfn_a26 K_29 al_30 HC_27
    have HC_30 := Chx.keep HC_27 K_29 al_30
    have O29 := O26.keep K_29 (allS n_a26 all0)
    show Go B n0 _ h29 3 6 120 _ [(.ref a26)]
    refine iAstore C d0_120 (Ls' := #[(.val (.int i0)), (.val (.int i1)), (.val (.int i2)), (.val (.long xx)), .second, (.val (.int (1 : Int32))), (.val (.int ((i1 &&& (255 : Int32))).toUInt32.toUInt16.toUInt32.toInt32)), (.val (.int ((((i1).toUInt32 >>> ((8 : Int32) &&& 31).toUInt32).toInt32 &&& (255 : Int32))).toUInt32.toUInt16.toUInt32.toInt32)), (.val (.int ((((i1).toUInt32 >>> ((16 : Int32) &&& 31).toUInt32).toInt32 &&& (255 : Int32))).toUInt32.toUInt16.toUInt32.toInt32)), (.val (.ref a22)), (.val (.ref a26)), .unset, .unset, .unset, .unset, .unset, .unset, .unset, .unset, .unset, .unset, .unset, .unset, .unset]) rfl rfl ?_
    refine iNew C tw1 tw2 tw3 d0_122 ⟨rfl, rfl, by decide, by decide⟩ fun h31 a31 g31 E31 A31 D31 => ?_
    have n_a31 : n0 ≤ a31 := oFresh O29 g31
    have O31 := O29.ext E31
    have HC_32 := Chx.ext HC_30 E31
    have F31_value : Fld Z h31 a31 "java/lang/String" "value" "[B" .null := D31 (Or.inr (hw _ tw16)) (ty := (.array .byte)) (by decide)
    have F31_coder : Fld Z h31 a31 "java/lang/String" "coder" "B" (.int (0 : Int32)) := D31 (Or.inr (hw _ tw17)) (ty := .byte) (by decide)
    have sfn_a31 := Sfx.ext (Sfx.new (B := B) (Z := Z) (EL := EL) (Nat.le_of_eq g31.symm)) E31 HC_30
    refine iDup C d0_125 rfl ?_
    refine iIconst C d0_126 (v := (2 : Int32)) (by decide) ?_
    refine iNewP C (aty := .char) tw0 d0_127 (by decide) (cap := 2) (by decide) (by decide) ⟨rfl, rfl, by decide, by decide⟩ fun h33 a33 k33 g33 E33 V33 => ?_
    have n_a33 : n0 ≤ a33 := oFresh O31 g33
    have O33 := O31.ext E33
    have sf_34_a31 := Sfx.ext sfn_a31 E33 HC_32
    have HC_34 := Chx.ext HC_32 E33
    have V33 : Arv Z h33 a33 k33 .char (2 : Int32) [(.int 0), (.int 0)] (.int 0) := V33.pad (pad_rep [] (.int 0) 2)
    refine iDup C d0_129 rfl ?_
    refine iIconst C d0_130 (v := (0 : Int32)) (by decide) ?_
    refine iIloadN C d0_131 rfl ?_
    refine iSipush C d0_132 (v := (255 : Int32)) (by decide) ?_
    refine iIand C d0_135 rfl ?_
    refine iI2c C d0_136 rfl ?_
    obtain ⟨c35, A35, q35, z35, y35, H35, G35⟩ := id V33
    refine iCastore C A35 (inb_of z35 ⟨by decide, by decide⟩) n_a33 d0_137 fun h35 W35 => ?_
    have V35 : Arv Z h35 a33 k33 .char (2 : Int32) [(.int (nar .char ((i2 &&& (255 : Int32))).toUInt32.toUInt16.toUInt32.toInt32)), (.int 0)] (.int 0) := Arv.set A35 q35 z35 y35 H35 G35 (fits_nar_char _) W35 0 (by decide) (Nat.le_of_ble_eq_true rfl)
    have O35 := O33.wr W35 n_a33
    have sf_36_a31 := Sfx.wr sf_34_a31 W35 (Sfx.arv C V33 (by decide)) HC_34
    have HC_36 := Chx.wr HC_34 W35 (Sfx.arv C V33 (by decide))
    refine iDup C d0_138 rfl ?_
    refine iIconst C d0_139 (v := (1 : Int32)) (by decide) ?_
    refine iIloadN C d0_140 rfl ?_
    refine iBipush C d0_141 (v := (8 : Int32)) (by decide) ?_
    refine iIushr C d0_143 rfl ?_
    refine iSipush C d0_144 (v := (255 : Int32)) (by decide) ?_
    refine iIand C d0_147 rfl ?_
    refine iI2c C d0_148 rfl ?_
    obtain ⟨c37, A37, q37, z37, y37, H37, G37⟩ := id V35
    refine iCastore C A37 (inb_of z37 ⟨by decide, by decide⟩) n_a33 d0_149 fun h37 W37 => ?_
    have V37 : Arv Z h37 a33 k33 .char (2 : Int32) [(.int (nar .char ((i2 &&& (255 : Int32))).toUInt32.toUInt16.toUInt32.toInt32)), (.int (nar .char ((((i2).toUInt32 >>> ((8 : Int32) &&& 31).toUInt32).toInt32 &&& (255 : Int32))).toUInt32.toUInt16.toUInt32.toInt32))] (.int 0) := Arv.set A37 q37 z37 y37 H37 G37 (fits_nar_char _) W37 1 (by decide) (Nat.le_of_ble_eq_true rfl)
    have O37 := O35.wr W37 n_a33
    have sf_38_a31 := Sfx.wr sf_36_a31 W37 (Sfx.arv C V35 (by decide)) HC_36
    have HC_38 := Chx.wr HC_36 W37 (Sfx.arv C V35 (by decide))
    have K39 : Arv Z h37 a33 k33 .char (2 : Int32) (List.map Value.int [(i2 &&& (255 : Int32)), (((i2).toUInt32 >>> ((8 : Int32) &&& 31).toUInt32).toInt32 &&& (255 : Int32))]) (.int 0) := by
      have q := V37
      simpa only [own_ch, List.map] using q
    have P39 : ∀ c ∈ [(i2 &&& (255 : Int32)), (((i2).toUInt32 >>> ((8 : Int32) &&& 31).toUInt32).toInt32 &&& (255 : Int32))], ¬ c < 0 ∧ ¬ (255 : Int32) < c := by
      intro c hc
      simp only [List.mem_cons, List.not_mem_nil, or_false] at hc
      rcases hc with rfl | rfl <;> exact own_lat _
    refine iCallIB C (a := a31) (payStr hw n_a31 O37 (((A31.ext E33).wr W35).wr W37) (((F31_value.ext E33).other W35 (Or.inl (oNe A31.lt (Nat.le_of_eq g33.symm)))).other W37 (Or.inl (oNe A31.lt (Nat.le_of_eq g33.symm)))) (((F31_coder.ext E33).other W35 (Or.inl (oNe A31.lt (Nat.le_of_eq g33.symm)))).other W37 (Or.inl (oNe A31.lt (Nat.le_of_eq g33.symm)))) K39 (S0.ext O37.2) hz0 (n := 2) rfl rfl (by decide) (by decide) P39 (by decide) (by decide)) rfl tw4 tw5 tw6 ⟨by decide, by decide⟩ (argsL := [(.ref a33)]) (S' := [(.ref a31)]) (lenOf pd29 rfl) rfl rfl d0_150 rfl (W := 1) rfl ⟨rfl, rfl, by decide, by decide⟩ fun v40 h40 q40 => ?_
    obtain ⟨rfl, K_40, t_40, k_40, sx_40⟩ := q40
    have al_41 : ∀ x ∈ [a31], Sfx B Z EL h37 x := (inS (P := Sfx B Z EL _) sf_38_a31 (fun x hx => (List.not_mem_nil hx).elim))
    have sf_41_a31 := Sfx.keep sf_38_a31 K_40 al_41 HC_38
    have HC_41 := Chx.keep HC_38 K_40 al_41
    have O40 := O37.keep K_40 (allS n_a31 all0)
    show Go B n0 _ h40 6 14 153 _ [(.ref a31)]
    refine iAstore C d0_153 (Ls' := #[(.val (.int i0)), (.val (.int i1)), (.val (.int i2)), (.val (.long xx)), .second, (.val (.int (1 : Int32))), (.val (.int ((i1 &&& (255 : Int32))).toUInt32.toUInt16.toUInt32.toInt32)), (.val (.int ((((i1).toUInt32 >>> ((8 : Int32) &&& 31).toUInt32).toInt32 &&& (255 : Int32))).toUInt32.toUInt16.toUInt32.toInt32)), (.val (.int ((((i1).toUInt32 >>> ((16 : Int32) &&& 31).toUInt32).toInt32 &&& (255 : Int32))).toUInt32.toUInt16.toUInt32.toInt32)), (.val (.ref a22)), (.val (.ref a26)), (.val (.ref a31)), .unset, .unset, .unset, .unset, .unset, .unset, .unset, .unset, .unset, .unset, .unset, .unset]) rfl rfl ?_
    refine iNew C tw33 tw34 tw35 d0_155 ⟨rfl, rfl, by decide, by decide⟩ fun h42 a42 g42 E42 A42 D42 => ?_
    have n_a42 : n0 ≤ a42 := oFresh O40 g42
    have O42 := O40.ext E42
    have HC_43 := Chx.ext HC_41 E42
    have F42_text : Fld Z h42 a42 "com/example/uketsuke/uketsuke/core/token/PageToken" "text" "Ljava/lang/String;" .null := D42 (Or.inr (hw _ tw46)) (ty := (.object "java/lang/String")) (by decide)
    have F42_nonce : Fld Z h42 a42 "com/example/uketsuke/uketsuke/core/token/PageToken" "nonce" "Ljava/lang/String;" .null := D42 (Or.inr (hw _ tw48)) (ty := (.object "java/lang/String")) (by decide)
    have F42_expiresAt : Fld Z h42 a42 "com/example/uketsuke/uketsuke/core/token/PageToken" "expiresAt" "J" (.long (0 : Int64)) := D42 (Or.inr (hw _ tw50)) (ty := .long) (by decide)
    refine iDup C d0_158 rfl ?_
    refine iAload C d0_159 rfl rfl ?_
    refine iAload C d0_161 rfl rfl ?_
    refine iLloadN C d0_163 rfl ?_
    refine iCallI C (rmPT hw (s0 := a31) (s := a26) (x := xx) O42 A42 F42_text F42_nonce F42_expiresAt n_a42) rfl tw36 tw37 tw35 tw38 ⟨by decide, by decide⟩ (a := a42) (argsL := [(.ref a31), (.ref a26), (.long xx)]) (S' := [(.ref a42)]) (lenOf pd30 rfl) rfl rfl d0_164 rfl (W := 1) rfl ⟨by decide, by decide, rfl, rfl, by decide, by decide⟩ fun v44 h44 q44 => ?_
    obtain ⟨rfl, K_44, fn_44, fe_44⟩ := q44
    have al_45 : ∀ x ∈ [a42], Sfx B Z EL h42 x := (inS (P := Sfx B Z EL _) (Sfx.exa C A42 (by decide) (by decide)) (fun x hx => (List.not_mem_nil hx).elim))
    have HC_45 := Chx.keep HC_43 K_44 al_45
    have O44 := O42.keep K_44 (allS n_a42 all0)
    show Go B n0 _ h44 7 17 167 _ [(.ref a42)]
    refine iCallVC C D HC_45 (sa := []) (fun x hx => (List.not_mem_nil hx).elim) (rmTO hw hEW (ds := [(i1 &&& (255 : Int32))]) (x := xx) (n := n) O44 S0 hz0 T1 T2 U1 U2 hn hx (A42.keep K_44) fn_44 fe_44 (SX.kp (SX.ext (SX.kp (SX.kp (SX.kp (SX.ext (SX.ext sx_29 E31) E33) (Keep.of_wr W35) sx_29.1.lt sx_29.2.2.2.1.lt (inS (P := fun w => _ ≤ w) (Nat.le_trans (Nat.le_trans (Nat.le_refl _) E31.1) (Nat.le_of_eq g33.symm)) (fun x hx => (List.not_mem_nil hx).elim))) (Keep.of_wr W37) sx_29.1.lt sx_29.2.2.2.1.lt (inS (P := fun w => _ ≤ w) (Nat.le_trans (Nat.le_trans (Nat.le_refl _) E31.1) (Nat.le_of_eq g33.symm)) (fun x hx => (List.not_mem_nil hx).elim))) K_40 sx_29.1.lt sx_29.2.2.2.1.lt (inS (P := fun w => _ ≤ w) (Nat.le_trans (Nat.le_refl _) (Nat.le_of_eq g31.symm)) (fun x hx => (List.not_mem_nil hx).elim))) E42) K_44 sx_29.1.lt sx_29.2.2.2.1.lt (inS (P := fun w => _ ≤ w) (Nat.le_trans (Nat.le_trans (Nat.le_trans (Nat.le_trans (Nat.le_trans (Nat.le_trans (Nat.le_refl _) E31.1) E33.1) (Nat.le_of_eq W35.size.symm)) (Nat.le_of_eq W37.size.symm)) K_40.1) (Nat.le_of_eq g42.symm)) (fun x hx => (List.not_mem_nil hx).elim))) (Nat.le_of_ble_eq_true rfl)) (A42.keep K_44) tw51 tw52 (Or.inl rfl) tw54 tw53 tw35 tw55 ⟨by decide, by decide⟩ (a := a42) (argsL := []) (S' := []) (lenOf pd26 rfl) rfl rfl d0_167 rfl (W := 0) rfl ⟨by decide, by decide, rfl, rfl, by decide, by decide⟩ fun B v46 h46 C D HC46 sm46 q46 => ?_
    obtain ⟨x46, t46, k46, rfl, K_46, gx_46, sx_46⟩ := q46
    have O46 := O44.keep K_46 all0
    show Go B n0 _ h46 22 949 170 _ [(.ref x46)]
    refine iAstore C d0_170 (Ls' := #[(.val (.int i0)), (.val (.int i1)), (.val (.int i2)), (.val (.long xx)), .second, (.val (.int (1 : Int32))), (.val (.int ((i1 &&& (255 : Int32))).toUInt32.toUInt16.toUInt32.toInt32)), (.val (.int ((((i1).toUInt32 >>> ((8 : Int32) &&& 31).toUInt32).toInt32 &&& (255 : Int32))).toUInt32.toUInt16.toUInt32.toInt32)), (.val (.int ((((i1).toUInt32 >>> ((16 : Int32) &&& 31).toUInt32).toInt32 &&& (255 : Int32))).toUInt32.toUInt16.toUInt32.toInt32)), (.val (.ref a22)), (.val (.ref a26)), (.val (.ref a31)), (.val (.ref x46)), .unset, .unset, .unset, .unset, .unset, .unset, .unset, .unset, .unset, .unset, .unset]) rfl rfl ?_
    refine Go.more (ce' := 39) (sl' := 3981) (by decide) (by decide) ?_
    exact TB hw (ds := [(i1 &&& (255 : Int32))]) O46 S0 hz0 S1 rf sx_46 (SX.kp (SX.kp (SX.ext (SX.kp (SX.kp (SX.kp (SX.ext (SX.ext sx_29 E31) E33) (Keep.of_wr W35) sx_29.1.lt sx_29.2.2.2.1.lt (inS (P := fun w => _ ≤ w) (Nat.le_trans (Nat.le_trans (Nat.le_refl _) E31.1) (Nat.le_of_eq g33.symm)) (fun x hx => (List.not_mem_nil hx).elim))) (Keep.of_wr W37) sx_29.1.lt sx_29.2.2.2.1.lt (inS (P := fun w => _ ≤ w) (Nat.le_trans (Nat.le_trans (Nat.le_refl _) E31.1) (Nat.le_of_eq g33.symm)) (fun x hx => (List.not_mem_nil hx).elim))) K_40 sx_29.1.lt sx_29.2.2.2.1.lt (inS (P := fun w => _ ≤ w) (Nat.le_trans (Nat.le_refl _) (Nat.le_of_eq g31.symm)) (fun x hx => (List.not_mem_nil hx).elim))) E42) K_44 sx_29.1.lt sx_29.2.2.2.1.lt (inS (P := fun w => _ ≤ w) (Nat.le_trans (Nat.le_trans (Nat.le_trans (Nat.le_trans (Nat.le_trans (Nat.le_trans (Nat.le_refl _) E31.1) E33.1) (Nat.le_of_eq W35.size.symm)) (Nat.le_of_eq W37.size.symm)) K_40.1) (Nat.le_of_eq g42.symm)) (fun x hx => (List.not_mem_nil hx).elim))) K_46 sx_29.1.lt sx_29.2.2.2.1.lt (fun x hx => (List.not_mem_nil hx).elim)) (Nat.le_of_ble_eq_true rfl) hn hx C D HC46
  · rw [q]
    refine iIloadN C d0_5 rfl ?_
    refine iSipush C d0_6 (v := (255 : Int32)) (by decide) ?_
    refine iIand C d0_9 rfl ?_
    refine iI2c C d0_10 rfl ?_
    refine iIstore C d0_11 (Ls' := #[(.val (.int i0)), (.val (.int i1)), (.val (.int i2)), (.val (.long xx)), .second, (.val (.int (2 : Int32))), (.val (.int ((i1 &&& (255 : Int32))).toUInt32.toUInt16.toUInt32.toInt32)), .unset, .unset, .unset, .unset, .unset, .unset, .unset, .unset, .unset, .unset, .unset, .unset, .unset, .unset, .unset, .unset, .unset]) rfl ?_
    refine iIloadN C d0_13 rfl ?_
    refine iBipush C d0_14 (v := (8 : Int32)) (by decide) ?_
    refine iIushr C d0_16 rfl ?_
    refine iSipush C d0_17 (v := (255 : Int32)) (by decide) ?_
    refine iIand C d0_20 rfl ?_
    refine iI2c C d0_21 rfl ?_
    refine iIstore C d0_22 (Ls' := #[(.val (.int i0)), (.val (.int i1)), (.val (.int i2)), (.val (.long xx)), .second, (.val (.int (2 : Int32))), (.val (.int ((i1 &&& (255 : Int32))).toUInt32.toUInt16.toUInt32.toInt32)), (.val (.int ((((i1).toUInt32 >>> ((8 : Int32) &&& 31).toUInt32).toInt32 &&& (255 : Int32))).toUInt32.toUInt16.toUInt32.toInt32)), .unset, .unset, .unset, .unset, .unset, .unset, .unset, .unset, .unset, .unset, .unset, .unset, .unset, .unset, .unset, .unset]) rfl ?_
    refine iIloadN C d0_24 rfl ?_
    refine iBipush C d0_25 (v := (16 : Int32)) (by decide) ?_
    refine iIushr C d0_27 rfl ?_
    refine iSipush C d0_28 (v := (255 : Int32)) (by decide) ?_
    refine iIand C d0_31 rfl ?_
    refine iI2c C d0_32 rfl ?_
    refine iIstore C d0_33 (Ls' := #[(.val (.int i0)), (.val (.int i1)), (.val (.int i2)), (.val (.long xx)), .second, (.val (.int (2 : Int32))), (.val (.int ((i1 &&& (255 : Int32))).toUInt32.toUInt16.toUInt32.toInt32)), (.val (.int ((((i1).toUInt32 >>> ((8 : Int32) &&& 31).toUInt32).toInt32 &&& (255 : Int32))).toUInt32.toUInt16.toUInt32.toInt32)), (.val (.int ((((i1).toUInt32 >>> ((16 : Int32) &&& 31).toUInt32).toInt32 &&& (255 : Int32))).toUInt32.toUInt16.toUInt32.toInt32)), .unset, .unset, .unset, .unset, .unset, .unset, .unset, .unset, .unset, .unset, .unset, .unset, .unset, .unset, .unset]) rfl ?_
    refine iIload C d0_35 rfl ?_
    refine iIfT C (t := 48) d0_37 (by decide) ⟨by decide, by decide⟩ ?_
    refine iIload C d0_48 rfl ?_
    refine iIconst C d0_50 (v := (1 : Int32)) (by decide) ?_
    refine iCmpT C (t := 67) d0_51 (by decide) ⟨by decide, by decide⟩ ?_
    refine iIload C d0_67 rfl ?_
    refine iIconst C d0_69 (v := (2 : Int32)) (by decide) ?_
    refine iCmpF C d0_70 (by decide) ?_
    refine iIconst C d0_73 (v := (2 : Int32)) (by decide) ?_
    refine iNewP C (aty := .char) tw0 d0_74 (by decide) (cap := 2) (by decide) (by decide) ⟨rfl, rfl, by decide, by decide⟩ fun h47 a47 k47 g47 E47 V47 => ?_
    have n_a47 : n0 ≤ a47 := oFresh O g47
    have O47 := O.ext E47
    have HC_48 := Chx.ext HC E47
    have V47 : Arv Z h47 a47 k47 .char (2 : Int32) [(.int 0), (.int 0)] (.int 0) := V47.pad (pad_rep [] (.int 0) 2)
    refine iDup C d0_76 rfl ?_
    refine iIconst C d0_77 (v := (0 : Int32)) (by decide) ?_
    refine iIload C d0_78 rfl ?_
    obtain ⟨c49, A49, q49, z49, y49, H49, G49⟩ := id V47
    refine iCastore C A49 (inb_of z49 ⟨by decide, by decide⟩) n_a47 d0_80 fun h49 W49 => ?_
    have V49 : Arv Z h49 a47 k47 .char (2 : Int32) [(.int (nar .char ((i1 &&& (255 : Int32))).toUInt32.toUInt16.toUInt32.toInt32)), (.int 0)] (.int 0) := Arv.set A49 q49 z49 y49 H49 G49 (fits_nar_char _) W49 0 (by decide) (Nat.le_of_ble_eq_true rfl)
    have O49 := O47.wr W49 n_a47
    have HC_50 := Chx.wr HC_48 W49 (Sfx.arv C V47 (by decide))
    refine iDup C d0_81 rfl ?_
    refine iIconst C d0_82 (v := (1 : Int32)) (by decide) ?_
    refine iIload C d0_83 rfl ?_
    obtain ⟨c51, A51, q51, z51, y51, H51, G51⟩ := id V49
    refine iCastore C A51 (inb_of z51 ⟨by decide, by decide⟩) n_a47 d0_85 fun h51 W51 => ?_
    have V51 : Arv Z h51 a47 k47 .char (2 : Int32) [(.int (nar .char ((i1 &&& (255 : Int32))).toUInt32.toUInt16.toUInt32.toInt32)), (.int (nar .char ((((i1).toUInt32 >>> ((8 : Int32) &&& 31).toUInt32).toInt32 &&& (255 : Int32))).toUInt32.toUInt16.toUInt32.toInt32))] (.int 0) := Arv.set A51 q51 z51 y51 H51 G51 (fits_nar_char _) W51 1 (by decide) (Nat.le_of_ble_eq_true rfl)
    have O51 := O49.wr W51 n_a47
    have HC_52 := Chx.wr HC_50 W51 (Sfx.arv C V49 (by decide))
    refine iAstore C d0_86 (Ls' := #[(.val (.int i0)), (.val (.int i1)), (.val (.int i2)), (.val (.long xx)), .second, (.val (.int (2 : Int32))), (.val (.int ((i1 &&& (255 : Int32))).toUInt32.toUInt16.toUInt32.toInt32)), (.val (.int ((((i1).toUInt32 >>> ((8 : Int32) &&& 31).toUInt32).toInt32 &&& (255 : Int32))).toUInt32.toUInt16.toUInt32.toInt32)), (.val (.int ((((i1).toUInt32 >>> ((16 : Int32) &&& 31).toUInt32).toInt32 &&& (255 : Int32))).toUInt32.toUInt16.toUInt32.toInt32)), (.val (.ref a47)), .unset, .unset, .unset, .unset, .unset, .unset, .unset, .unset, .unset, .unset, .unset, .unset, .unset, .unset]) rfl rfl ?_
    refine iGoto C (t := 111) d0_88 ⟨by decide, by decide⟩ ?_
    refine iNew C tw1 tw2 tw3 d0_111 ⟨rfl, rfl, by decide, by decide⟩ fun h53 a53 g53 E53 A53 D53 => ?_
    have n_a53 : n0 ≤ a53 := oFresh O51 g53
    have O53 := O51.ext E53
    have HC_54 := Chx.ext HC_52 E53
    have F53_value : Fld Z h53 a53 "java/lang/String" "value" "[B" .null := D53 (Or.inr (hw _ tw16)) (ty := (.array .byte)) (by decide)
    have F53_coder : Fld Z h53 a53 "java/lang/String" "coder" "B" (.int (0 : Int32)) := D53 (Or.inr (hw _ tw17)) (ty := .byte) (by decide)
    have sfn_a53 := Sfx.ext (Sfx.new (B := B) (Z := Z) (EL := EL) (Nat.le_of_eq g53.symm)) E53 HC_52
    refine iDup C d0_114 rfl ?_
    refine iAload C d0_115 rfl rfl ?_
    have K55 : Arv Z h53 a47 k47 .char (2 : Int32) (List.map Value.int [(i1 &&& (255 : Int32)), (((i1).toUInt32 >>> ((8 : Int32) &&& 31).toUInt32).toInt32 &&& (255 : Int32))]) (.int 0) := by
      have q := (V51.ext E53)
      simpa only [own_ch, List.map] using q
    have P55 : ∀ c ∈ [(i1 &&& (255 : Int32)), (((i1).toUInt32 >>> ((8 : Int32) &&& 31).toUInt32).toInt32 &&& (255 : Int32))], ¬ c < 0 ∧ ¬ (255 : Int32) < c := by
      intro c hc
      simp only [List.mem_cons, List.not_mem_nil, or_false] at hc
      rcases hc with rfl | rfl <;> exact own_lat _
    refine iCallIB C (a := a53) (payStr hw n_a53 O53 A53 F53_value F53_coder K55 (S0.ext O53.2) hz0 (n := 2) rfl rfl (by decide) (by decide) P55 (by decide) (by decide)) rfl tw4 tw5 tw6 ⟨by decide, by decide⟩ (argsL := [(.ref a47)]) (S' := [(.ref a53)]) (lenOf pd29 rfl) rfl rfl d0_117 rfl (W := 1) rfl ⟨rfl, rfl, by decide, by decide⟩ fun v56 h56 q56 => ?_
    obtain ⟨rfl, K_56, t_56, k_56, sx_56⟩ := q56
    have al_57 : ∀ x ∈ [a53], Sfx B Z EL h53 x := (inS (P := Sfx B Z EL _) sfn_a53 (fun x hx => (List.not_mem_nil hx).elim))
    have sf_57_a53 := Sfx.keep sfn_a53 K_56 al_57 HC_54
    have HC_57 := Chx.keep HC_54 K_56 al_57
    have O56 := O53.keep K_56 (allS n_a53 all0)
    show Go B n0 _ h56 3 8 120 _ [(.ref a53)]
    refine iAstore C d0_120 (Ls' := #[(.val (.int i0)), (.val (.int i1)), (.val (.int i2)), (.val (.long xx)), .second, (.val (.int (2 : Int32))), (.val (.int ((i1 &&& (255 : Int32))).toUInt32.toUInt16.toUInt32.toInt32)), (.val (.int ((((i1).toUInt32 >>> ((8 : Int32) &&& 31).toUInt32).toInt32 &&& (255 : Int32))).toUInt32.toUInt16.toUInt32.toInt32)), (.val (.int ((((i1).toUInt32 >>> ((16 : Int32) &&& 31).toUInt32).toInt32 &&& (255 : Int32))).toUInt32.toUInt16.toUInt32.toInt32)), (.val (.ref a47)), (.val (.ref a53)), .unset, .unset, .unset, .unset, .unset, .unset, .unset, .unset, .unset, .unset, .unset, .unset, .unset]) rfl rfl ?_
    refine iNew C tw1 tw2 tw3 d0_122 ⟨rfl, rfl, by decide, by decide⟩ fun h58 a58 g58 E58 A58 D58 => ?_
    have n_a58 : n0 ≤ a58 := oFresh O56 g58
    have O58 := O56.ext E58
    have HC_59 := Chx.ext HC_57 E58
    have F58_value : Fld Z h58 a58 "java/lang/String" "value" "[B" .null := D58 (Or.inr (hw _ tw16)) (ty := (.array .byte)) (by decide)
    have F58_coder : Fld Z h58 a58 "java/lang/String" "coder" "B" (.int (0 : Int32)) := D58 (Or.inr (hw _ tw17)) (ty := .byte) (by decide)
    have sfn_a58 := Sfx.ext (Sfx.new (B := B) (Z := Z) (EL := EL) (Nat.le_of_eq g58.symm)) E58 HC_57
    refine iDup C d0_125 rfl ?_
    refine iIconst C d0_126 (v := (2 : Int32)) (by decide) ?_
    refine iNewP C (aty := .char) tw0 d0_127 (by decide) (cap := 2) (by decide) (by decide) ⟨rfl, rfl, by decide, by decide⟩ fun h60 a60 k60 g60 E60 V60 => ?_
    have n_a60 : n0 ≤ a60 := oFresh O58 g60
    have O60 := O58.ext E60
    have sf_61_a58 := Sfx.ext sfn_a58 E60 HC_59
    have HC_61 := Chx.ext HC_59 E60
    have V60 : Arv Z h60 a60 k60 .char (2 : Int32) [(.int 0), (.int 0)] (.int 0) := V60.pad (pad_rep [] (.int 0) 2)
    refine iDup C d0_129 rfl ?_
    refine iIconst C d0_130 (v := (0 : Int32)) (by decide) ?_
    refine iIloadN C d0_131 rfl ?_
    refine iSipush C d0_132 (v := (255 : Int32)) (by decide) ?_
    refine iIand C d0_135 rfl ?_
    refine iI2c C d0_136 rfl ?_
    obtain ⟨c62, A62, q62, z62, y62, H62, G62⟩ := id V60
    refine iCastore C A62 (inb_of z62 ⟨by decide, by decide⟩) n_a60 d0_137 fun h62 W62 => ?_
    have V62 : Arv Z h62 a60 k60 .char (2 : Int32) [(.int (nar .char ((i2 &&& (255 : Int32))).toUInt32.toUInt16.toUInt32.toInt32)), (.int 0)] (.int 0) := Arv.set A62 q62 z62 y62 H62 G62 (fits_nar_char _) W62 0 (by decide) (Nat.le_of_ble_eq_true rfl)
    have O62 := O60.wr W62 n_a60
    have sf_63_a58 := Sfx.wr sf_61_a58 W62 (Sfx.arv C V60 (by decide)) HC_61
    have HC_63 := Chx.wr HC_61 W62 (Sfx.arv C V60 (by decide))
    refine iDup C d0_138 rfl ?_
    refine iIconst C d0_139 (v := (1 : Int32)) (by decide) ?_
    refine iIloadN C d0_140 rfl ?_
    refine iBipush C d0_141 (v := (8 : Int32)) (by decide) ?_
    refine iIushr C d0_143 rfl ?_
    refine iSipush C d0_144 (v := (255 : Int32)) (by decide) ?_
    refine iIand C d0_147 rfl ?_
    refine iI2c C d0_148 rfl ?_
    obtain ⟨c64, A64, q64, z64, y64, H64, G64⟩ := id V62
    refine iCastore C A64 (inb_of z64 ⟨by decide, by decide⟩) n_a60 d0_149 fun h64 W64 => ?_
    have V64 : Arv Z h64 a60 k60 .char (2 : Int32) [(.int (nar .char ((i2 &&& (255 : Int32))).toUInt32.toUInt16.toUInt32.toInt32)), (.int (nar .char ((((i2).toUInt32 >>> ((8 : Int32) &&& 31).toUInt32).toInt32 &&& (255 : Int32))).toUInt32.toUInt16.toUInt32.toInt32))] (.int 0) := Arv.set A64 q64 z64 y64 H64 G64 (fits_nar_char _) W64 1 (by decide) (Nat.le_of_ble_eq_true rfl)
    have O64 := O62.wr W64 n_a60
    have sf_65_a58 := Sfx.wr sf_63_a58 W64 (Sfx.arv C V62 (by decide)) HC_63
    have HC_65 := Chx.wr HC_63 W64 (Sfx.arv C V62 (by decide))
    have K66 : Arv Z h64 a60 k60 .char (2 : Int32) (List.map Value.int [(i2 &&& (255 : Int32)), (((i2).toUInt32 >>> ((8 : Int32) &&& 31).toUInt32).toInt32 &&& (255 : Int32))]) (.int 0) := by
      have q := V64
      simpa only [own_ch, List.map] using q
    have P66 : ∀ c ∈ [(i2 &&& (255 : Int32)), (((i2).toUInt32 >>> ((8 : Int32) &&& 31).toUInt32).toInt32 &&& (255 : Int32))], ¬ c < 0 ∧ ¬ (255 : Int32) < c := by
      intro c hc
      simp only [List.mem_cons, List.not_mem_nil, or_false] at hc
      rcases hc with rfl | rfl <;> exact own_lat _
    refine iCallIB C (a := a58) (payStr hw n_a58 O64 (((A58.ext E60).wr W62).wr W64) (((F58_value.ext E60).other W62 (Or.inl (oNe A58.lt (Nat.le_of_eq g60.symm)))).other W64 (Or.inl (oNe A58.lt (Nat.le_of_eq g60.symm)))) (((F58_coder.ext E60).other W62 (Or.inl (oNe A58.lt (Nat.le_of_eq g60.symm)))).other W64 (Or.inl (oNe A58.lt (Nat.le_of_eq g60.symm)))) K66 (S0.ext O64.2) hz0 (n := 2) rfl rfl (by decide) (by decide) P66 (by decide) (by decide)) rfl tw4 tw5 tw6 ⟨by decide, by decide⟩ (argsL := [(.ref a60)]) (S' := [(.ref a58)]) (lenOf pd29 rfl) rfl rfl d0_150 rfl (W := 1) rfl ⟨rfl, rfl, by decide, by decide⟩ fun v67 h67 q67 => ?_
    obtain ⟨rfl, K_67, t_67, k_67, sx_67⟩ := q67
    have al_68 : ∀ x ∈ [a58], Sfx B Z EL h64 x := (inS (P := Sfx B Z EL _) sf_65_a58 (fun x hx => (List.not_mem_nil hx).elim))
    have sf_68_a58 := Sfx.keep sf_65_a58 K_67 al_68 HC_65
    have HC_68 := Chx.keep HC_65 K_67 al_68
    have O67 := O64.keep K_67 (allS n_a58 all0)
    show Go B n0 _ h67 6 16 153 _ [(.ref a58)]
    refine iAstore C d0_153 (Ls' := #[(.val (.int i0)), (.val (.int i1)), (.val (.int i2)), (.val (.long xx)), .second, (.val (.int (2 : Int32))), (.val (.int ((i1 &&& (255 : Int32))).toUInt32.toUInt16.toUInt32.toInt32)), (.val (.int ((((i1).toUInt32 >>> ((8 : Int32) &&& 31).toUInt32).toInt32 &&& (255 : Int32))).toUInt32.toUInt16.toUInt32.toInt32)), (.val (.int ((((i1).toUInt32 >>> ((16 : Int32) &&& 31).toUInt32).toInt32 &&& (255 : Int32))).toUInt32.toUInt16.toUInt32.toInt32)), (.val (.ref a47)), (.val (.ref a53)), (.val (.ref a58)), .unset, .unset, .unset, .unset, .unset, .unset, .unset, .unset, .unset, .unset, .unset, .unset]) rfl rfl ?_
    refine iNew C tw33 tw34 tw35 d0_155 ⟨rfl, rfl, by decide, by decide⟩ fun h69 a69 g69 E69 A69 D69 => ?_
    have n_a69 : n0 ≤ a69 := oFresh O67 g69
    have O69 := O67.ext E69
    have HC_70 := Chx.ext HC_68 E69
    have F69_text : Fld Z h69 a69 "com/example/uketsuke/uketsuke/core/token/PageToken" "text" "Ljava/lang/String;" .null := D69 (Or.inr (hw _ tw46)) (ty := (.object "java/lang/String")) (by decide)
    have F69_nonce : Fld Z h69 a69 "com/example/uketsuke/uketsuke/core/token/PageToken" "nonce" "Ljava/lang/String;" .null := D69 (Or.inr (hw _ tw48)) (ty := (.object "java/lang/String")) (by decide)
    have F69_expiresAt : Fld Z h69 a69 "com/example/uketsuke/uketsuke/core/token/PageToken" "expiresAt" "J" (.long (0 : Int64)) := D69 (Or.inr (hw _ tw50)) (ty := .long) (by decide)
    refine iDup C d0_158 rfl ?_
    refine iAload C d0_159 rfl rfl ?_
    refine iAload C d0_161 rfl rfl ?_
    refine iLloadN C d0_163 rfl ?_
    refine iCallI C (rmPT hw (s0 := a58) (s := a53) (x := xx) O69 A69 F69_text F69_nonce F69_expiresAt n_a69) rfl tw36 tw37 tw35 tw38 ⟨by decide, by decide⟩ (a := a69) (argsL := [(.ref a58), (.ref a53), (.long xx)]) (S' := [(.ref a69)]) (lenOf pd30 rfl) rfl rfl d0_164 rfl (W := 1) rfl ⟨by decide, by decide, rfl, rfl, by decide, by decide⟩ fun v71 h71 q71 => ?_
    obtain ⟨rfl, K_71, fn_71, fe_71⟩ := q71
    have al_72 : ∀ x ∈ [a69], Sfx B Z EL h69 x := (inS (P := Sfx B Z EL _) (Sfx.exa C A69 (by decide) (by decide)) (fun x hx => (List.not_mem_nil hx).elim))
    have HC_72 := Chx.keep HC_70 K_71 al_72
    have O71 := O69.keep K_71 (allS n_a69 all0)
    show Go B n0 _ h71 7 19 167 _ [(.ref a69)]
    refine iCallVC C D HC_72 (sa := []) (fun x hx => (List.not_mem_nil hx).elim) (rmTO hw hEW (ds := [(i1 &&& (255 : Int32)), (((i1).toUInt32 >>> ((8 : Int32) &&& 31).toUInt32).toInt32 &&& (255 : Int32))]) (x := xx) (n := n) O71 S0 hz0 T1 T2 U1 U2 hn hx (A69.keep K_71) fn_71 fe_71 (SX.kp (SX.ext (SX.kp (SX.kp (SX.kp (SX.ext (SX.ext sx_56 E58) E60) (Keep.of_wr W62) sx_56.1.lt sx_56.2.2.2.1.lt (inS (P := fun w => _ ≤ w) (Nat.le_trans (Nat.le_trans (Nat.le_refl _) E58.1) (Nat.le_of_eq g60.symm)) (fun x hx => (List.not_mem_nil hx).elim))) (Keep.of_wr W64) sx_56.1.lt sx_56.2.2.2.1.lt (inS (P := fun w => _ ≤ w) (Nat.le_trans (Nat.le_trans (Nat.le_refl _) E58.1) (Nat.le_of_eq g60.symm)) (fun x hx => (List.not_mem_nil hx).elim))) K_67 sx_56.1.lt sx_56.2.2.2.1.lt (inS (P := fun w => _ ≤ w) (Nat.le_trans (Nat.le_refl _) (Nat.le_of_eq g58.symm)) (fun x hx => (List.not_mem_nil hx).elim))) E69) K_71 sx_56.1.lt sx_56.2.2.2.1.lt (inS (P := fun w => _ ≤ w) (Nat.le_trans (Nat.le_trans (Nat.le_trans (Nat.le_trans (Nat.le_trans (Nat.le_trans (Nat.le_refl _) E58.1) E60.1) (Nat.le_of_eq W62.size.symm)) (Nat.le_of_eq W64.size.symm)) K_67.1) (Nat.le_of_eq g69.symm)) (fun x hx => (List.not_mem_nil hx).elim))) (Nat.le_of_ble_eq_true rfl)) (A69.keep K_71) tw51 tw52 (Or.inl rfl) tw54 tw53 tw35 tw55 ⟨by decide, by decide⟩ (a := a69) (argsL := []) (S' := []) (lenOf pd26 rfl) rfl rfl d0_167 rfl (W := 0) rfl ⟨by decide, by decide, rfl, rfl, by decide, by decide⟩ fun B v73 h73 C D HC73 sm73 q73 => ?_
    obtain ⟨x73, t73, k73, rfl, K_73, gx_73, sx_73⟩ := q73
    have O73 := O71.keep K_73 all0
    show Go B n0 _ h73 22 951 170 _ [(.ref x73)]
    refine iAstore C d0_170 (Ls' := #[(.val (.int i0)), (.val (.int i1)), (.val (.int i2)), (.val (.long xx)), .second, (.val (.int (2 : Int32))), (.val (.int ((i1 &&& (255 : Int32))).toUInt32.toUInt16.toUInt32.toInt32)), (.val (.int ((((i1).toUInt32 >>> ((8 : Int32) &&& 31).toUInt32).toInt32 &&& (255 : Int32))).toUInt32.toUInt16.toUInt32.toInt32)), (.val (.int ((((i1).toUInt32 >>> ((16 : Int32) &&& 31).toUInt32).toInt32 &&& (255 : Int32))).toUInt32.toUInt16.toUInt32.toInt32)), (.val (.ref a47)), (.val (.ref a53)), (.val (.ref a58)), (.val (.ref x73)), .unset, .unset, .unset, .unset, .unset, .unset, .unset, .unset, .unset, .unset, .unset]) rfl rfl ?_
    refine Go.more (ce' := 39) (sl' := 3981) (by decide) (by decide) ?_
    exact TB hw (ds := [(i1 &&& (255 : Int32)), (((i1).toUInt32 >>> ((8 : Int32) &&& 31).toUInt32).toInt32 &&& (255 : Int32))]) O73 S0 hz0 S1 rf sx_73 (SX.kp (SX.kp (SX.ext (SX.kp (SX.kp (SX.kp (SX.ext (SX.ext sx_56 E58) E60) (Keep.of_wr W62) sx_56.1.lt sx_56.2.2.2.1.lt (inS (P := fun w => _ ≤ w) (Nat.le_trans (Nat.le_trans (Nat.le_refl _) E58.1) (Nat.le_of_eq g60.symm)) (fun x hx => (List.not_mem_nil hx).elim))) (Keep.of_wr W64) sx_56.1.lt sx_56.2.2.2.1.lt (inS (P := fun w => _ ≤ w) (Nat.le_trans (Nat.le_trans (Nat.le_refl _) E58.1) (Nat.le_of_eq g60.symm)) (fun x hx => (List.not_mem_nil hx).elim))) K_67 sx_56.1.lt sx_56.2.2.2.1.lt (inS (P := fun w => _ ≤ w) (Nat.le_trans (Nat.le_refl _) (Nat.le_of_eq g58.symm)) (fun x hx => (List.not_mem_nil hx).elim))) E69) K_71 sx_56.1.lt sx_56.2.2.2.1.lt (inS (P := fun w => _ ≤ w) (Nat.le_trans (Nat.le_trans (Nat.le_trans (Nat.le_trans (Nat.le_trans (Nat.le_trans (Nat.le_refl _) E58.1) E60.1) (Nat.le_of_eq W62.size.symm)) (Nat.le_of_eq W64.size.symm)) K_67.1) (Nat.le_of_eq g69.symm)) (fun x hx => (List.not_mem_nil hx).elim))) K_73 sx_56.1.lt sx_56.2.2.2.1.lt (fun x hx => (List.not_mem_nil hx).elim)) (Nat.le_of_ble_eq_true rfl) hn hx C D HC73
  · rw [q]
    refine iIloadN C d0_5 rfl ?_
    refine iSipush C d0_6 (v := (255 : Int32)) (by decide) ?_
    refine iIand C d0_9 rfl ?_
    refine iI2c C d0_10 rfl ?_
    refine iIstore C d0_11 (Ls' := #[(.val (.int i0)), (.val (.int i1)), (.val (.int i2)), (.val (.long xx)), .second, (.val (.int (3 : Int32))), (.val (.int ((i1 &&& (255 : Int32))).toUInt32.toUInt16.toUInt32.toInt32)), .unset, .unset, .unset, .unset, .unset, .unset, .unset, .unset, .unset, .unset, .unset, .unset, .unset, .unset, .unset, .unset, .unset]) rfl ?_
    refine iIloadN C d0_13 rfl ?_
    refine iBipush C d0_14 (v := (8 : Int32)) (by decide) ?_
    refine iIushr C d0_16 rfl ?_
    refine iSipush C d0_17 (v := (255 : Int32)) (by decide) ?_
    refine iIand C d0_20 rfl ?_
    refine iI2c C d0_21 rfl ?_
    refine iIstore C d0_22 (Ls' := #[(.val (.int i0)), (.val (.int i1)), (.val (.int i2)), (.val (.long xx)), .second, (.val (.int (3 : Int32))), (.val (.int ((i1 &&& (255 : Int32))).toUInt32.toUInt16.toUInt32.toInt32)), (.val (.int ((((i1).toUInt32 >>> ((8 : Int32) &&& 31).toUInt32).toInt32 &&& (255 : Int32))).toUInt32.toUInt16.toUInt32.toInt32)), .unset, .unset, .unset, .unset, .unset, .unset, .unset, .unset, .unset, .unset, .unset, .unset, .unset, .unset, .unset, .unset]) rfl ?_
    refine iIloadN C d0_24 rfl ?_
    refine iBipush C d0_25 (v := (16 : Int32)) (by decide) ?_
    refine iIushr C d0_27 rfl ?_
    refine iSipush C d0_28 (v := (255 : Int32)) (by decide) ?_
    refine iIand C d0_31 rfl ?_
    refine iI2c C d0_32 rfl ?_
    refine iIstore C d0_33 (Ls' := #[(.val (.int i0)), (.val (.int i1)), (.val (.int i2)), (.val (.long xx)), .second, (.val (.int (3 : Int32))), (.val (.int ((i1 &&& (255 : Int32))).toUInt32.toUInt16.toUInt32.toInt32)), (.val (.int ((((i1).toUInt32 >>> ((8 : Int32) &&& 31).toUInt32).toInt32 &&& (255 : Int32))).toUInt32.toUInt16.toUInt32.toInt32)), (.val (.int ((((i1).toUInt32 >>> ((16 : Int32) &&& 31).toUInt32).toInt32 &&& (255 : Int32))).toUInt32.toUInt16.toUInt32.toInt32)), .unset, .unset, .unset, .unset, .unset, .unset, .unset, .unset, .unset, .unset, .unset, .unset, .unset, .unset, .unset]) rfl ?_
    refine iIload C d0_35 rfl ?_
    refine iIfT C (t := 48) d0_37 (by decide) ⟨by decide, by decide⟩ ?_
    refine iIload C d0_48 rfl ?_
    refine iIconst C d0_50 (v := (1 : Int32)) (by decide) ?_
    refine iCmpT C (t := 67) d0_51 (by decide) ⟨by decide, by decide⟩ ?_
    refine iIload C d0_67 rfl ?_
    refine iIconst C d0_69 (v := (2 : Int32)) (by decide) ?_
    refine iCmpT C (t := 91) d0_70 (by decide) ⟨by decide, by decide⟩ ?_
    refine iIconst C d0_91 (v := (3 : Int32)) (by decide) ?_
    refine iNewP C (aty := .char) tw0 d0_92 (by decide) (cap := 3) (by decide) (by decide) ⟨rfl, rfl, by decide, by decide⟩ fun h74 a74 k74 g74 E74 V74 => ?_
    have n_a74 : n0 ≤ a74 := oFresh O g74
    have O74 := O.ext E74
    have HC_75 := Chx.ext HC E74
    have V74 : Arv Z h74 a74 k74 .char (3 : Int32) [(.int 0), (.int 0), (.int 0)] (.int 0) := V74.pad (pad_rep [] (.int 0) 3)
    refine iDup C d0_94 rfl ?_
    refine iIconst C d0_95 (v := (0 : Int32)) (by decide) ?_
    refine iIload C d0_96 rfl ?_
    obtain ⟨c76, A76, q76, z76, y76, H76, G76⟩ := id V74
    refine iCastore C A76 (inb_of z76 ⟨by decide, by decide⟩) n_a74 d0_98 fun h76 W76 => ?_
    have V76 : Arv Z h76 a74 k74 .char (3 : Int32) [(.int (nar .char ((i1 &&& (255 : Int32))).toUInt32.toUInt16.toUInt32.toInt32)), (.int 0), (.int 0)] (.int 0) := Arv.set A76 q76 z76 y76 H76 G76 (fits_nar_char _) W76 0 (by decide) (Nat.le_of_ble_eq_true rfl)
    have O76 := O74.wr W76 n_a74
    have HC_77 := Chx.wr HC_75 W76 (Sfx.arv C V74 (by decide))
    refine iDup C d0_99 rfl ?_
    refine iIconst C d0_100 (v := (1 : Int32)) (by decide) ?_
    refine iIload C d0_101 rfl ?_
    obtain ⟨c78, A78, q78, z78, y78, H78, G78⟩ := id V76
    refine iCastore C A78 (inb_of z78 ⟨by decide, by decide⟩) n_a74 d0_103 fun h78 W78 => ?_
    have V78 : Arv Z h78 a74 k74 .char (3 : Int32) [(.int (nar .char ((i1 &&& (255 : Int32))).toUInt32.toUInt16.toUInt32.toInt32)), (.int (nar .char ((((i1).toUInt32 >>> ((8 : Int32) &&& 31).toUInt32).toInt32 &&& (255 : Int32))).toUInt32.toUInt16.toUInt32.toInt32)), (.int 0)] (.int 0) := Arv.set A78 q78 z78 y78 H78 G78 (fits_nar_char _) W78 1 (by decide) (Nat.le_of_ble_eq_true rfl)
    have O78 := O76.wr W78 n_a74
    have HC_79 := Chx.wr HC_77 W78 (Sfx.arv C V76 (by decide))
    refine iDup C d0_104 rfl ?_
    refine iIconst C d0_105 (v := (2 : Int32)) (by decide) ?_
    refine iIload C d0_106 rfl ?_
    obtain ⟨c80, A80, q80, z80, y80, H80, G80⟩ := id V78
    refine iCastore C A80 (inb_of z80 ⟨by decide, by decide⟩) n_a74 d0_108 fun h80 W80 => ?_
    have V80 : Arv Z h80 a74 k74 .char (3 : Int32) [(.int (nar .char ((i1 &&& (255 : Int32))).toUInt32.toUInt16.toUInt32.toInt32)), (.int (nar .char ((((i1).toUInt32 >>> ((8 : Int32) &&& 31).toUInt32).toInt32 &&& (255 : Int32))).toUInt32.toUInt16.toUInt32.toInt32)), (.int (nar .char ((((i1).toUInt32 >>> ((16 : Int32) &&& 31).toUInt32).toInt32 &&& (255 : Int32))).toUInt32.toUInt16.toUInt32.toInt32))] (.int 0) := Arv.set A80 q80 z80 y80 H80 G80 (fits_nar_char _) W80 2 (by decide) (Nat.le_of_ble_eq_true rfl)
    have O80 := O78.wr W80 n_a74
    have HC_81 := Chx.wr HC_79 W80 (Sfx.arv C V78 (by decide))
    refine iAstore C d0_109 (Ls' := #[(.val (.int i0)), (.val (.int i1)), (.val (.int i2)), (.val (.long xx)), .second, (.val (.int (3 : Int32))), (.val (.int ((i1 &&& (255 : Int32))).toUInt32.toUInt16.toUInt32.toInt32)), (.val (.int ((((i1).toUInt32 >>> ((8 : Int32) &&& 31).toUInt32).toInt32 &&& (255 : Int32))).toUInt32.toUInt16.toUInt32.toInt32)), (.val (.int ((((i1).toUInt32 >>> ((16 : Int32) &&& 31).toUInt32).toInt32 &&& (255 : Int32))).toUInt32.toUInt16.toUInt32.toInt32)), (.val (.ref a74)), .unset, .unset, .unset, .unset, .unset, .unset, .unset, .unset, .unset, .unset, .unset, .unset, .unset, .unset]) rfl rfl ?_
    refine iNew C tw1 tw2 tw3 d0_111 ⟨rfl, rfl, by decide, by decide⟩ fun h82 a82 g82 E82 A82 D82 => ?_
    have n_a82 : n0 ≤ a82 := oFresh O80 g82
    have O82 := O80.ext E82
    have HC_83 := Chx.ext HC_81 E82
    have F82_value : Fld Z h82 a82 "java/lang/String" "value" "[B" .null := D82 (Or.inr (hw _ tw16)) (ty := (.array .byte)) (by decide)
    have F82_coder : Fld Z h82 a82 "java/lang/String" "coder" "B" (.int (0 : Int32)) := D82 (Or.inr (hw _ tw17)) (ty := .byte) (by decide)
    have sfn_a82 := Sfx.ext (Sfx.new (B := B) (Z := Z) (EL := EL) (Nat.le_of_eq g82.symm)) E82 HC_81
    refine iDup C d0_114 rfl ?_
    refine iAload C d0_115 rfl rfl ?_
    have K84 : Arv Z h82 a74 k74 .char (3 : Int32) (List.map Value.int [(i1 &&& (255 : Int32)), (((i1).toUInt32 >>> ((8 : Int32) &&& 31).toUInt32).toInt32 &&& (255 : Int32)), (((i1).toUInt32 >>> ((16 : Int32) &&& 31).toUInt32).toInt32 &&& (255 : Int32))]) (.int 0) := by
      have q := (V80.ext E82)
      simpa only [own_ch, List.map] using q
    have P84 : ∀ c ∈ [(i1 &&& (255 : Int32)), (((i1).toUInt32 >>> ((8 : Int32) &&& 31).toUInt32).toInt32 &&& (255 : Int32)), (((i1).toUInt32 >>> ((16 : Int32) &&& 31).toUInt32).toInt32 &&& (255 : Int32))], ¬ c < 0 ∧ ¬ (255 : Int32) < c := by
      intro c hc
      simp only [List.mem_cons, List.not_mem_nil, or_false] at hc
      rcases hc with rfl | rfl | rfl <;> exact own_lat _
    refine iCallIB C (a := a82) (payStr hw n_a82 O82 A82 F82_value F82_coder K84 (S0.ext O82.2) hz0 (n := 3) rfl rfl (by decide) (by decide) P84 (by decide) (by decide)) rfl tw4 tw5 tw6 ⟨by decide, by decide⟩ (argsL := [(.ref a74)]) (S' := [(.ref a82)]) (lenOf pd29 rfl) rfl rfl d0_117 rfl (W := 1) rfl ⟨rfl, rfl, by decide, by decide⟩ fun v85 h85 q85 => ?_
    obtain ⟨rfl, K_85, t_85, k_85, sx_85⟩ := q85
    have al_86 : ∀ x ∈ [a82], Sfx B Z EL h82 x := (inS (P := Sfx B Z EL _) sfn_a82 (fun x hx => (List.not_mem_nil hx).elim))
    have sf_86_a82 := Sfx.keep sfn_a82 K_85 al_86 HC_83
    have HC_86 := Chx.keep HC_83 K_85 al_86
    have O85 := O82.keep K_85 (allS n_a82 all0)
    show Go B n0 _ h85 3 10 120 _ [(.ref a82)]
    refine iAstore C d0_120 (Ls' := #[(.val (.int i0)), (.val (.int i1)), (.val (.int i2)), (.val (.long xx)), .second, (.val (.int (3 : Int32))), (.val (.int ((i1 &&& (255 : Int32))).toUInt32.toUInt16.toUInt32.toInt32)), (.val (.int ((((i1).toUInt32 >>> ((8 : Int32) &&& 31).toUInt32).toInt32 &&& (255 : Int32))).toUInt32.toUInt16.toUInt32.toInt32)), (.val (.int ((((i1).toUInt32 >>> ((16 : Int32) &&& 31).toUInt32).toInt32 &&& (255 : Int32))).toUInt32.toUInt16.toUInt32.toInt32)), (.val (.ref a74)), (.val (.ref a82)), .unset, .unset, .unset, .unset, .unset, .unset, .unset, .unset, .unset, .unset, .unset, .unset, .unset]) rfl rfl ?_
    refine iNew C tw1 tw2 tw3 d0_122 ⟨rfl, rfl, by decide, by decide⟩ fun h87 a87 g87 E87 A87 D87 => ?_
    have n_a87 : n0 ≤ a87 := oFresh O85 g87
    have O87 := O85.ext E87
    have HC_88 := Chx.ext HC_86 E87
    have F87_value : Fld Z h87 a87 "java/lang/String" "value" "[B" .null := D87 (Or.inr (hw _ tw16)) (ty := (.array .byte)) (by decide)
    have F87_coder : Fld Z h87 a87 "java/lang/String" "coder" "B" (.int (0 : Int32)) := D87 (Or.inr (hw _ tw17)) (ty := .byte) (by decide)
    have sfn_a87 := Sfx.ext (Sfx.new (B := B) (Z := Z) (EL := EL) (Nat.le_of_eq g87.symm)) E87 HC_86
    refine iDup C d0_125 rfl ?_
    refine iIconst C d0_126 (v := (2 : Int32)) (by decide) ?_
    refine iNewP C (aty := .char) tw0 d0_127 (by decide) (cap := 2) (by decide) (by decide) ⟨rfl, rfl, by decide, by decide⟩ fun h89 a89 k89 g89 E89 V89 => ?_
    have n_a89 : n0 ≤ a89 := oFresh O87 g89
    have O89 := O87.ext E89
    have sf_90_a87 := Sfx.ext sfn_a87 E89 HC_88
    have HC_90 := Chx.ext HC_88 E89
    have V89 : Arv Z h89 a89 k89 .char (2 : Int32) [(.int 0), (.int 0)] (.int 0) := V89.pad (pad_rep [] (.int 0) 2)
    refine iDup C d0_129 rfl ?_
    refine iIconst C d0_130 (v := (0 : Int32)) (by decide) ?_
    refine iIloadN C d0_131 rfl ?_
    refine iSipush C d0_132 (v := (255 : Int32)) (by decide) ?_
    refine iIand C d0_135 rfl ?_
    refine iI2c C d0_136 rfl ?_
    obtain ⟨c91, A91, q91, z91, y91, H91, G91⟩ := id V89
    refine iCastore C A91 (inb_of z91 ⟨by decide, by decide⟩) n_a89 d0_137 fun h91 W91 => ?_
    have V91 : Arv Z h91 a89 k89 .char (2 : Int32) [(.int (nar .char ((i2 &&& (255 : Int32))).toUInt32.toUInt16.toUInt32.toInt32)), (.int 0)] (.int 0) := Arv.set A91 q91 z91 y91 H91 G91 (fits_nar_char _) W91 0 (by decide) (Nat.le_of_ble_eq_true rfl)
    have O91 := O89.wr W91 n_a89
    have sf_92_a87 := Sfx.wr sf_90_a87 W91 (Sfx.arv C V89 (by decide)) HC_90
    have HC_92 := Chx.wr HC_90 W91 (Sfx.arv C V89 (by decide))
    refine iDup C d0_138 rfl ?_
    refine iIconst C d0_139 (v := (1 : Int32)) (by decide) ?_
    refine iIloadN C d0_140 rfl ?_
    refine iBipush C d0_141 (v := (8 : Int32)) (by decide) ?_
    refine iIushr C d0_143 rfl ?_
    refine iSipush C d0_144 (v := (255 : Int32)) (by decide) ?_
    refine iIand C d0_147 rfl ?_
    refine iI2c C d0_148 rfl ?_
    obtain ⟨c93, A93, q93, z93, y93, H93, G93⟩ := id V91
    refine iCastore C A93 (inb_of z93 ⟨by decide, by decide⟩) n_a89 d0_149 fun h93 W93 => ?_
    have V93 : Arv Z h93 a89 k89 .char (2 : Int32) [(.int (nar .char ((i2 &&& (255 : Int32))).toUInt32.toUInt16.toUInt32.toInt32)), (.int (nar .char ((((i2).toUInt32 >>> ((8 : Int32) &&& 31).toUInt32).toInt32 &&& (255 : Int32))).toUInt32.toUInt16.toUInt32.toInt32))] (.int 0) := Arv.set A93 q93 z93 y93 H93 G93 (fits_nar_char _) W93 1 (by decide) (Nat.le_of_ble_eq_true rfl)
    have O93 := O91.wr W93 n_a89
    have sf_94_a87 := Sfx.wr sf_92_a87 W93 (Sfx.arv C V91 (by decide)) HC_92
    have HC_94 := Chx.wr HC_92 W93 (Sfx.arv C V91 (by decide))
    have K95 : Arv Z h93 a89 k89 .char (2 : Int32) (List.map Value.int [(i2 &&& (255 : Int32)), (((i2).toUInt32 >>> ((8 : Int32) &&& 31).toUInt32).toInt32 &&& (255 : Int32))]) (.int 0) := by
      have q := V93
      simpa only [own_ch, List.map] using q
    have P95 : ∀ c ∈ [(i2 &&& (255 : Int32)), (((i2).toUInt32 >>> ((8 : Int32) &&& 31).toUInt32).toInt32 &&& (255 : Int32))], ¬ c < 0 ∧ ¬ (255 : Int32) < c := by
      intro c hc
      simp only [List.mem_cons, List.not_mem_nil, or_false] at hc
      rcases hc with rfl | rfl <;> exact own_lat _
    refine iCallIB C (a := a87) (payStr hw n_a87 O93 (((A87.ext E89).wr W91).wr W93) (((F87_value.ext E89).other W91 (Or.inl (oNe A87.lt (Nat.le_of_eq g89.symm)))).other W93 (Or.inl (oNe A87.lt (Nat.le_of_eq g89.symm)))) (((F87_coder.ext E89).other W91 (Or.inl (oNe A87.lt (Nat.le_of_eq g89.symm)))).other W93 (Or.inl (oNe A87.lt (Nat.le_of_eq g89.symm)))) K95 (S0.ext O93.2) hz0 (n := 2) rfl rfl (by decide) (by decide) P95 (by decide) (by decide)) rfl tw4 tw5 tw6 ⟨by decide, by decide⟩ (argsL := [(.ref a89)]) (S' := [(.ref a87)]) (lenOf pd29 rfl) rfl rfl d0_150 rfl (W := 1) rfl ⟨rfl, rfl, by decide, by decide⟩ fun v96 h96 q96 => ?_
    obtain ⟨rfl, K_96, t_96, k_96, sx_96⟩ := q96
    have al_97 : ∀ x ∈ [a87], Sfx B Z EL h93 x := (inS (P := Sfx B Z EL _) sf_94_a87 (fun x hx => (List.not_mem_nil hx).elim))
    have sf_97_a87 := Sfx.keep sf_94_a87 K_96 al_97 HC_94
    have HC_97 := Chx.keep HC_94 K_96 al_97
    have O96 := O93.keep K_96 (allS n_a87 all0)
    show Go B n0 _ h96 6 18 153 _ [(.ref a87)]
    refine iAstore C d0_153 (Ls' := #[(.val (.int i0)), (.val (.int i1)), (.val (.int i2)), (.val (.long xx)), .second, (.val (.int (3 : Int32))), (.val (.int ((i1 &&& (255 : Int32))).toUInt32.toUInt16.toUInt32.toInt32)), (.val (.int ((((i1).toUInt32 >>> ((8 : Int32) &&& 31).toUInt32).toInt32 &&& (255 : Int32))).toUInt32.toUInt16.toUInt32.toInt32)), (.val (.int ((((i1).toUInt32 >>> ((16 : Int32) &&& 31).toUInt32).toInt32 &&& (255 : Int32))).toUInt32.toUInt16.toUInt32.toInt32)), (.val (.ref a74)), (.val (.ref a82)), (.val (.ref a87)), .unset, .unset, .unset, .unset, .unset, .unset, .unset, .unset, .unset, .unset, .unset, .unset]) rfl rfl ?_
    refine iNew C tw33 tw34 tw35 d0_155 ⟨rfl, rfl, by decide, by decide⟩ fun h98 a98 g98 E98 A98 D98 => ?_
    have n_a98 : n0 ≤ a98 := oFresh O96 g98
    have O98 := O96.ext E98
    have HC_99 := Chx.ext HC_97 E98
    have F98_text : Fld Z h98 a98 "com/example/uketsuke/uketsuke/core/token/PageToken" "text" "Ljava/lang/String;" .null := D98 (Or.inr (hw _ tw46)) (ty := (.object "java/lang/String")) (by decide)
    have F98_nonce : Fld Z h98 a98 "com/example/uketsuke/uketsuke/core/token/PageToken" "nonce" "Ljava/lang/String;" .null := D98 (Or.inr (hw _ tw48)) (ty := (.object "java/lang/String")) (by decide)
    have F98_expiresAt : Fld Z h98 a98 "com/example/uketsuke/uketsuke/core/token/PageToken" "expiresAt" "J" (.long (0 : Int64)) := D98 (Or.inr (hw _ tw50)) (ty := .long) (by decide)
    refine iDup C d0_158 rfl ?_
    refine iAload C d0_159 rfl rfl ?_
    refine iAload C d0_161 rfl rfl ?_
    refine iLloadN C d0_163 rfl ?_
    refine iCallI C (rmPT hw (s0 := a87) (s := a82) (x := xx) O98 A98 F98_text F98_nonce F98_expiresAt n_a98) rfl tw36 tw37 tw35 tw38 ⟨by decide, by decide⟩ (a := a98) (argsL := [(.ref a87), (.ref a82), (.long xx)]) (S' := [(.ref a98)]) (lenOf pd30 rfl) rfl rfl d0_164 rfl (W := 1) rfl ⟨by decide, by decide, rfl, rfl, by decide, by decide⟩ fun v100 h100 q100 => ?_
    obtain ⟨rfl, K_100, fn_100, fe_100⟩ := q100
    have al_101 : ∀ x ∈ [a98], Sfx B Z EL h98 x := (inS (P := Sfx B Z EL _) (Sfx.exa C A98 (by decide) (by decide)) (fun x hx => (List.not_mem_nil hx).elim))
    have HC_101 := Chx.keep HC_99 K_100 al_101
    have O100 := O98.keep K_100 (allS n_a98 all0)
    show Go B n0 _ h100 7 21 167 _ [(.ref a98)]
    refine iCallVC C D HC_101 (sa := []) (fun x hx => (List.not_mem_nil hx).elim) (rmTO hw hEW (ds := [(i1 &&& (255 : Int32)), (((i1).toUInt32 >>> ((8 : Int32) &&& 31).toUInt32).toInt32 &&& (255 : Int32)), (((i1).toUInt32 >>> ((16 : Int32) &&& 31).toUInt32).toInt32 &&& (255 : Int32))]) (x := xx) (n := n) O100 S0 hz0 T1 T2 U1 U2 hn hx (A98.keep K_100) fn_100 fe_100 (SX.kp (SX.ext (SX.kp (SX.kp (SX.kp (SX.ext (SX.ext sx_85 E87) E89) (Keep.of_wr W91) sx_85.1.lt sx_85.2.2.2.1.lt (inS (P := fun w => _ ≤ w) (Nat.le_trans (Nat.le_trans (Nat.le_refl _) E87.1) (Nat.le_of_eq g89.symm)) (fun x hx => (List.not_mem_nil hx).elim))) (Keep.of_wr W93) sx_85.1.lt sx_85.2.2.2.1.lt (inS (P := fun w => _ ≤ w) (Nat.le_trans (Nat.le_trans (Nat.le_refl _) E87.1) (Nat.le_of_eq g89.symm)) (fun x hx => (List.not_mem_nil hx).elim))) K_96 sx_85.1.lt sx_85.2.2.2.1.lt (inS (P := fun w => _ ≤ w) (Nat.le_trans (Nat.le_refl _) (Nat.le_of_eq g87.symm)) (fun x hx => (List.not_mem_nil hx).elim))) E98) K_100 sx_85.1.lt sx_85.2.2.2.1.lt (inS (P := fun w => _ ≤ w) (Nat.le_trans (Nat.le_trans (Nat.le_trans (Nat.le_trans (Nat.le_trans (Nat.le_trans (Nat.le_refl _) E87.1) E89.1) (Nat.le_of_eq W91.size.symm)) (Nat.le_of_eq W93.size.symm)) K_96.1) (Nat.le_of_eq g98.symm)) (fun x hx => (List.not_mem_nil hx).elim))) (Nat.le_of_ble_eq_true rfl)) (A98.keep K_100) tw51 tw52 (Or.inl rfl) tw54 tw53 tw35 tw55 ⟨by decide, by decide⟩ (a := a98) (argsL := []) (S' := []) (lenOf pd26 rfl) rfl rfl d0_167 rfl (W := 0) rfl ⟨by decide, by decide, rfl, rfl, by decide, by decide⟩ fun B v102 h102 C D HC102 sm102 q102 => ?_
    obtain ⟨x102, t102, k102, rfl, K_102, gx_102, sx_102⟩ := q102
    have O102 := O100.keep K_102 all0
    show Go B n0 _ h102 22 953 170 _ [(.ref x102)]
    refine iAstore C d0_170 (Ls' := #[(.val (.int i0)), (.val (.int i1)), (.val (.int i2)), (.val (.long xx)), .second, (.val (.int (3 : Int32))), (.val (.int ((i1 &&& (255 : Int32))).toUInt32.toUInt16.toUInt32.toInt32)), (.val (.int ((((i1).toUInt32 >>> ((8 : Int32) &&& 31).toUInt32).toInt32 &&& (255 : Int32))).toUInt32.toUInt16.toUInt32.toInt32)), (.val (.int ((((i1).toUInt32 >>> ((16 : Int32) &&& 31).toUInt32).toInt32 &&& (255 : Int32))).toUInt32.toUInt16.toUInt32.toInt32)), (.val (.ref a74)), (.val (.ref a82)), (.val (.ref a87)), (.val (.ref x102)), .unset, .unset, .unset, .unset, .unset, .unset, .unset, .unset, .unset, .unset, .unset]) rfl rfl ?_
    refine Go.more (ce' := 39) (sl' := 3981) (by decide) (by decide) ?_
    exact TB hw (ds := [(i1 &&& (255 : Int32)), (((i1).toUInt32 >>> ((8 : Int32) &&& 31).toUInt32).toInt32 &&& (255 : Int32)), (((i1).toUInt32 >>> ((16 : Int32) &&& 31).toUInt32).toInt32 &&& (255 : Int32))]) O102 S0 hz0 S1 rf sx_102 (SX.kp (SX.kp (SX.ext (SX.kp (SX.kp (SX.kp (SX.ext (SX.ext sx_85 E87) E89) (Keep.of_wr W91) sx_85.1.lt sx_85.2.2.2.1.lt (inS (P := fun w => _ ≤ w) (Nat.le_trans (Nat.le_trans (Nat.le_refl _) E87.1) (Nat.le_of_eq g89.symm)) (fun x hx => (List.not_mem_nil hx).elim))) (Keep.of_wr W93) sx_85.1.lt sx_85.2.2.2.1.lt (inS (P := fun w => _ ≤ w) (Nat.le_trans (Nat.le_trans (Nat.le_refl _) E87.1) (Nat.le_of_eq g89.symm)) (fun x hx => (List.not_mem_nil hx).elim))) K_96 sx_85.1.lt sx_85.2.2.2.1.lt (inS (P := fun w => _ ≤ w) (Nat.le_trans (Nat.le_refl _) (Nat.le_of_eq g87.symm)) (fun x hx => (List.not_mem_nil hx).elim))) E98) K_100 sx_85.1.lt sx_85.2.2.2.1.lt (inS (P := fun w => _ ≤ w) (Nat.le_trans (Nat.le_trans (Nat.le_trans (Nat.le_trans (Nat.le_trans (Nat.le_trans (Nat.le_refl _) E87.1) E89.1) (Nat.le_of_eq W91.size.symm)) (Nat.le_of_eq W93.size.symm)) K_96.1) (Nat.le_of_eq g98.symm)) (fun x hx => (List.not_mem_nil hx).elim))) K_102 sx_85.1.lt sx_85.2.2.2.1.lt (fun x hx => (List.not_mem_nil hx).elim)) (Nat.le_of_ble_eq_true rfl) hn hx C D HC102
open Jvm.Free.SBG in
theorem own_tblW {a : Array Value} {s : State} {name : String} (hfit : Fit s) (h1 : (Jvm.Cond.laysStatic "java/lang/Integer" name "[B").before a s = true) (h2 : (Jvm.Cond.exactly (Jvm.Term.static "java/lang/Integer" name "[B") "[B").before a s = true) (h3 : (Jvm.Cond.eq (Jvm.Term.length (Jvm.Term.static "java/lang/Integer" name "[B")) (Jvm.Term.int (100 : Int32))).before a s = true) (harr : (Jvm.Cond.arrayClass .byte).before a s = true) : ∀ w ∈ tblW name, w.before a s = true := by
  have h4 : (bytesC (Tof name)).before a s = true := by
    obtain ⟨sd, cB, SA, kB, hevV, hfcB, hcellB, hkB, hstatB, hclsB, -⟩ := Cond.exactly_spec h2
    have hl := Cond.eq_int h3 rfl
    obtain ⟨sd', SA', hev', harrAt, -⟩ := Term.length_spec hl
    cases hevV.symm.trans hev'
    obtain ⟨hcellB', hknA, -, -⟩ := State.arrayAt?_spec harrAt
    cases hcellB.symm.trans hcellB'
    have h31 := length_lt hevV harrAt hl
    obtain ⟨cB', kB', comp, hnameB, hkB', hkindB⟩ := Cond.arrayClass_spec harr
    have eBA : ("[" ++ FieldType.toString .byte) = "[B" := by decide
    rw [eBA] at hnameB
    cases hfcB.symm.trans hnameB
    cases hkB.symm.trans hkB'
    have hevAll : ∀ idx, (Tof name).eval a s none idx s = some (.ref sd) := fun idx => by
      have e : (Tof name).eval a s none idx s = (Tof name).eval a s none [] s := by simp only [Tof, Term.eval]
      rw [e]; exact hevV
    have hby : s.isArrayOf SA .byte := ⟨(fun k h => by rw [h] at hstatB; cases hstatB), kB, (by rw [hclsB]; exact hkB), comp, hkindB⟩
    exact bytesC_of_fits hevAll harrAt h31 fun i hi => fits_byte_of_slot hby hi (hfit hcellB hi)
  intro w hw
  simp only [tblW, List.mem_cons, List.not_mem_nil, or_false] at hw
  rcases hw with rfl | rfl | rfl | rfl
  · exact h1
  · exact h2
  · exact h3
  · exact h4
set_option maxRecDepth 65536 in
set_option maxHeartbeats 4000000 in
theorem comes_1 {Post : Tables → Env → Array Value → State → Outcome → State → Prop} (hpost : ∀ tb e args s v u, (limb_1_1.after args s (.returned v) u = true ∧ limb_1_2.after args s (.returned v) u = true ∧ True) → Jvm.D.FramedW s (.returned v) u (Jvm.fieldLocs frame_1_writes args s ++ Jvm.arrayLocs frame_1_arrays args s ++ Jvm.staticLocs frame_1_statics s) 48 6720 → Post tb e args s (.returned v) u) :
    ArmFor flags0 classFile x code maxLocals ret World_1 tables_1 room_1 Calls_1 rest_1 Pre_1 Post := by
  intro l hfl _ _ p e ha hc hk s m args below hf hA hF happ hP
  obtain ⟨hcalls, hrest, hpre⟩ := hP
  obtain ⟨-, -, -, hnamed, -, -, -, hat⟩ := (Spec.applies_iff hf).mp happ
  obtain ⟨hg, hn⟩ := and_e (Cond.before_iff.mp (show (Jvm.Cond.and given_1 narrow_1).before args s = true from hpre))
  obtain ⟨hg_1, hg_2⟩ := and_e hg
  obtain ⟨hg_3, hg_4⟩ := and_e hg_2
  obtain ⟨hg_5, hg_6⟩ := and_e hg_4
  obtain ⟨hg_7, hg_8⟩ := and_e hg_6
  obtain ⟨w0, w1, w2, w3, rfl⟩ : ∃ w0 w1 w2 w3 : Value, args = #[w0, w1, w2, w3] := by
    have hs : args.size = 4 := by simpa [Cond.value, given_1] using hg_1
    obtain ⟨L⟩ := args
    match L, hs with
    | [w0, w1, w2, w3], _ => exact ⟨w0, w1, w2, w3, rfl⟩
  have hw := fun d (hd : d ∈ tables_1) => atoms_spec (ws := Jvm.Cond.code x code maxLocals ret :: tables_1) hat d (List.mem_cons_of_mem _ hd)
  have hfit : Fit s := fun {y c} hc i hi => by
    obtain ⟨ha, rfl⟩ := Array.getElem?_eq_some_iff.mp hc
    have q := List.all_eq_true.mp ((Array.all_eq_true_iff_forall_mem.mp hF) _ (Array.getElem_mem ha)) i (List.mem_range.mpr hi)
    simpa [Array.getElem?_eq_getElem hi] using q
  obtain ⟨hsets, hown0⟩ := atoms_of _ (rest_1_c_eq ▸ (show rest_1_c.before _ s = true from hrest))
  obtain ⟨i0, ei0⟩ := is_v hg_3
  obtain rfl : w0 = (.int i0) := Option.some.inj ei0
  obtain ⟨i1, ei1⟩ := is_v hg_5
  obtain rfl : w1 = (.int i1) := Option.some.inj ei1
  obtain ⟨i2, ei2⟩ := is_v hg_7
  obtain rfl : w2 = (.int i2) := Option.some.inj ei2
  obtain ⟨i3, ei3⟩ := isL_v hg_8
  obtain rfl : w3 = (.long i3) := Option.some.inj ei3
  have n3 := (hsets _ (List.mem_of_getElem? (i := 2) rfl))
  obtain ⟨z0, e6⟩ := is_v (Cond.before_iff.mp (hsets _ (List.mem_of_getElem? (i := 1) rfl)))
  have S0 : Sta s s.heap "java/lang/String" "COMPACT_STRINGS" "Z" (.int z0) := Sta.start e6 (Or.inl (hsets _ (List.mem_of_getElem? (i := 0) rfl)))
  have hz0 : ¬ z0 = 0 := gotF (Cond.eq_ints e6 (Term.int_eval 0)) (not_v (Cond.before_iff.mp n3))
  obtain ⟨fm, e7, rf⟩ := isR_v (Cond.before_iff.mp (hsets _ (List.mem_of_getElem? (i := 8) rfl)))
  have S1 : Sta s s.heap "jdk/internal/util/Preconditions" "SIOOBE_FORMATTER" "Ljava/util/function/BiFunction;" fm := Sta.start e7 (Or.inl (hsets _ (List.mem_of_getElem? (i := 7) rfl)))
  have wa := hw _ tw15
  have wi := hw _ tw2
  have hEW : EW s #[.int i0, .int i1, .int i2, .long i3] EL := (EW.cons (hw _ tw74) (by decide) (EW.cons (hw _ tw122) (by decide) (EW.cons (hw _ tw174) (by decide) (EW.cons (hw _ tw234) (by decide) (EW.cons (hw _ tw235) (by decide) (EW.cons (hw _ tw14) (by decide) EW.nil))))))
  have hh0 : ∀ p ∈ consts_1, Jvm.Lit.constHeld s p.1 p.2 := hcalls.1
  have hh : ∀ p ∈ EL, Jvm.Lit.constHeld s p.1 p.2 := hh0
  obtain ⟨kc1, kk1, ist, d1, D1, f1, f2, f3, T1, U1⟩ := Jvm.Free.SBG.ones_of_words (own_tblW hfit (hsets _ (List.mem_of_getElem? (i := 10) rfl)) (hsets _ (List.mem_of_getElem? (i := 12) rfl)) (hsets _ (List.mem_of_getElem? (i := 13) rfl)) wa) (hsets _ (List.mem_of_getElem? (i := 14) rfl)) (hsets _ (List.mem_of_getElem? (i := 9) rfl)) wa
  obtain ⟨kc2, kk2, ist2, d2, D2, f4, f5, f6, T2, U2⟩ := Jvm.Free.SBG.tens_of_words (own_tblW hfit (hsets _ (List.mem_of_getElem? (i := 15) rfl)) (hsets _ (List.mem_of_getElem? (i := 17) rfl)) (hsets _ (List.mem_of_getElem? (i := 18) rfl)) wa) (hsets _ (List.mem_of_getElem? (i := 19) rfl)) (hsets _ (List.mem_of_getElem? (i := 9) rfl)) wa
  cases f1.symm.trans f4
  cases f2.symm.trans f5
  cases f3.symm.trans f6
  obtain ⟨nD, hnD, hxD⟩ := Jvm.Free.SBG.negL_of i3
  obtain ⟨n, o, h1, h2, h3, _, L, rfl, ⟨rfl, N, -⟩, -, hq⟩ := (rm0 (l := l) (Z := s) hw (n0 := s.heap.size) (h0 := s.heap) hEW i0 i1 i2 i3 (Old.start s) S0 hz0 S1 rf T1 T2 U1 U2 hnD hxD) tables_1 p e ha hc hk s m _ below hf ((Spec.applies_iff_loose hf).mp happ).1 ⟨rfl, State.Warmed39.refl s, rfl, CHv.start hEW hh n3 wa wi, fun x hx => (List.not_mem_nil hx).elim⟩ trivial
  refine ⟨n, _, h1, h2, h3, hpost _ _ _ _ _ _ ⟨Cond.after_iff.mpr rfl, Cond.after_iff.mpr (eq_i res_at (Term.int_eval (1)) rfl), trivial⟩ ⟨hq.1, hq.2.1, hq.2.2.1, (hq.2.2.2.sift fun y hy => Or.inr (N y hy)).mono (by decide) (by decide)⟩⟩
theorem main_1_1 : Claimed_1_1 := comes_1 fun _ _ _ _ _ _ h hF => ⟨h.1, hF⟩
theorem main_1_2 : Claimed_1_2 := comes_1 fun _ _ _ _ _ _ h hF => ⟨h.2.1, hF⟩
end Jvm.Pilot.@@N@@
namespace Jvm.Pilot.@@N@@
open Jvm Jvm.ClassFile Sem Op Lib Jvm.Free Jvm.Stand Jvm.Pilot.@@N@@.Jvm.D
/-! MADE BY PROGRAM (witnessworld.py) out of the Statement's table words and the real class files: 32 classes; the members and pool entries that the words name. The judged class is class 1, her method 1. -/
namespace start1
open Jvm.ClassFile
def u (s : String) : CpInfo := .utf8 (stringToUtf16 s)
/-- a pool by its gaps: so many unusable entries, then the entry; so many at the end -/
def gap : Nat → List CpInfo → List CpInfo
  | 0, r => r
  | n + 1, r => .unusable :: gap n r
def poolList (es : List (Nat × CpInfo)) (last : Nat) : List CpInfo := es.foldr (fun e r => gap e.1 (e.2 :: r)) (gap last [])
def pool (es : List (Nat × CpInfo)) (last : Nat) : Array CpInfo := ⟨poolList es last⟩
def fileOf (pool : Array CpInfo) (this : Nat) (attrs : Array Attribute := #[]) (ms : Array MethodInfo := #[]) (fl : Nat := 33) (sup : Nat := 0) (ifs : Array Nat := #[]) (fds : Array FieldInfo := #[]) : ClassFile where
  minorVersion := 0
  majorVersion := 65
  constantPool := pool
  accessFlags := fl
  thisClass := this
  superClass := sup
  interfaces := ifs
  fields := fds
  methods := ms
  attributes := attrs
def plain (name : String) (sup : Option ClassId) : Class where
  name := name
  kind := .ordinary
  loader := none
  accessFlags := 33
  super := sup
  interfaces := #[]
  cf := none
  fields := #[]
  methods := #[]
  instanceTypes := #[]
  staticTypes := #[]
  resolved := #[]
  callSites := []
  init := .initialized
  statics := none
  mirror := none

def pool0 : Array CpInfo := pool [(5, u "<init>"), (0, u "()V"), (1, .class_ 10), (1, u "java/lang/Object"), (85, u "clone"), (0, u "()Ljava/lang/Object;")] 26

def k0c0 : Code := { maxStack := 0, maxLocals := 1, code := object_method_1_code, exceptionTable := #[], attributes := #[] }
def k0m0 : Method := { name := "<init>", desc := "()V", sig := { parameters := [], returnType := none }, accessFlags := 1, code := some k0c0 }
def k0m1 : Method := { name := "clone", desc := "()Ljava/lang/Object;", sig := { parameters := [], returnType := some (.object "java/lang/Object") }, accessFlags := 260, code := none }
/-- java/lang/Object -/
def k0 : Class := { plain "java/lang/Object" none with
  accessFlags := 33
  interfaces := #[]
  cf := some (fileOf pool0 8 #[] #[{ accessFlags := 1, nameIndex := 5, descriptorIndex := 6, attributes := #[] }, { accessFlags := 260, nameIndex := 96, descriptorIndex := 97, attributes := #[] }] 33 0 #[] #[])
  fields := #[]
  methods := #[k0m0, k0m1]
  instanceTypes := #[]
  staticTypes := #[]
  resolved := Array.replicate 124 none
  statics := none }

def pool1 : Array CpInfo := pool [(2, .class_ 4), (1, u "java/lang/Object"), (0, u "<init>"), (0, u "()V"), (0, .class_ 8), (0, u "java/lang/String"), (0, .methodref 7 10), (0, .nameAndType 5 11), (0, u "([C)V"), (0, .class_ 13), (0, u "com/example/uketsuke/uketsuke/core/token/PageToken"), (0, .methodref 12 15), (0, .nameAndType 5 16), (0, u "(Ljava/lang/String;Ljava/lang/String;J)V"), (0, .methodref 12 18), (0, .nameAndType 19 20), (0, u "toString"), (0, u "()Ljava/lang/String;"), (0, .long 10), (1, .long 100), (1, .long 1000), (1, .long 10000), (1, .long 100000), (1, .long 1000000), (1, .long 10000000), (1, .long 100000000), (1, .long 1000000000), (1, .long 10000000000), (1, .long 100000000000), (1, .long 1000000000000), (1, .long 10000000000000), (1, .long 100000000000000), (1, .long 1000000000000000), (1, .long 10000000000000000), (1, .long 100000000000000000), (1, .long 1000000000000000000), (1, .methodref 58 59), (0, .class_ 60), (0, .nameAndType 61 62), (0, u "com/example/uketsuke/uketsuke/core/token/PageTokenToStringPinLaw"), (0, u "ge"), (0, u "(JJ)I"), (0, .methodref 7 64), (0, .nameAndType 65 66), (0, u "length"), (0, u "()I"), (0, .string 68), (0, u "PageToken[nonce="), (0, .string 70), (0, u ", expiresAt="), (0, .methodref 58 72), (0, .nameAndType 73 74), (0, u "eq4"), (0, u "(Ljava/lang/String;ILjava/lang/String;I)Z"), (0, .methodref 7 76), (0, .nameAndType 77 78), (0, u "charAt"), (0, u "(I)C"), (0, .methodref 58 80), (0, .nameAndType 81 82), (0, u "dig"), (0, u "(Ljava/lang/String;IIJJI)Z"), (0, .methodref 58 84), (0, .nameAndType 85 74), (0, u "eq1"), (2, u "law"), (0, u "(IIIJ)Z")] 7

def k1m0 : Method := { name := "<init>", desc := "()V", sig := { parameters := [], returnType := none }, accessFlags := 1, code := none }
def k1c1 : Code := { maxStack := 8, maxLocals := 24, code := code, exceptionTable := #[], attributes := #[] }
def k1m1 : Method := { name := "law", desc := "(IIIJ)Z", sig := { parameters := [.int, .int, .int, .long], returnType := some .boolean }, accessFlags := 9, code := some k1c1 }
def k1c2 : Code := { maxStack := 4, maxLocals := 4, code := method_3_code, exceptionTable := #[], attributes := #[] }
def k1m2 : Method := { name := "ge", desc := "(JJ)I", sig := { parameters := [.long, .long], returnType := some .int }, accessFlags := 10, code := some k1c2 }
def k1c3 : Code := { maxStack := 3, maxLocals := 4, code := method_4_code, exceptionTable := #[], attributes := #[] }
def k1m3 : Method := { name := "eq1", desc := "(Ljava/lang/String;ILjava/lang/String;I)Z", sig := { parameters := [(.object "java/lang/String"), .int, (.object "java/lang/String"), .int], returnType := some .boolean }, accessFlags := 10, code := some k1c3 }
def k1c4 : Code := { maxStack := 5, maxLocals := 4, code := method_5_code, exceptionTable := #[], attributes := #[] }
def k1m4 : Method := { name := "eq4", desc := "(Ljava/lang/String;ILjava/lang/String;I)Z", sig := { parameters := [(.object "java/lang/String"), .int, (.object "java/lang/String"), .int], returnType := some .boolean }, accessFlags := 10, code := some k1c4 }
def k1c5 : Code := { maxStack := 6, maxLocals := 8, code := method_6_code, exceptionTable := #[], attributes := #[] }
def k1m5 : Method := { name := "dig", desc := "(Ljava/lang/String;IIJJI)Z", sig := { parameters := [(.object "java/lang/String"), .int, .int, .long, .long, .int], returnType := some .boolean }, accessFlags := 10, code := some k1c5 }
/-- com/example/uketsuke/uketsuke/core/token/PageTokenToStringPinLaw -/
def k1 : Class := { plain "com/example/uketsuke/uketsuke/core/token/PageTokenToStringPinLaw" (some 0) with
  accessFlags := 49
  interfaces := #[]
  cf := some (fileOf pool1 58 #[] #[{ accessFlags := 1, nameIndex := 5, descriptorIndex := 6, attributes := #[] }, { accessFlags := 9, nameIndex := 88, descriptorIndex := 89, attributes := #[] }, { accessFlags := 10, nameIndex := 61, descriptorIndex := 62, attributes := #[] }, { accessFlags := 10, nameIndex := 85, descriptorIndex := 74, attributes := #[] }, { accessFlags := 10, nameIndex := 73, descriptorIndex := 74, attributes := #[] }, { accessFlags := 10, nameIndex := 81, descriptorIndex := 82, attributes := #[] }] 49 2 #[] #[])
  fields := #[]
  methods := #[k1m0, k1m1, k1m2, k1m3, k1m4, k1m5]
  instanceTypes := #[]
  staticTypes := #[]
  resolved := Array.replicate 97 none
  statics := none }

def pool2 : Array CpInfo := pool [(1, .class_ 2), (0, u "java/io/Serializable"), (0, .class_ 4), (0, u "java/lang/Object")] 2

/-- java/io/Serializable -/
def k2 : Class := { plain "java/io/Serializable" (some 0) with
  accessFlags := 1537
  interfaces := #[]
  cf := some (fileOf pool2 1 #[] #[] 1537 3 #[] #[])
  fields := #[]
  methods := #[]
  instanceTypes := #[]
  staticTypes := #[]
  resolved := Array.replicate 7 none
  statics := none }

def pool3 : Array CpInfo := pool [(1, .class_ 2), (0, u "java/lang/Comparable"), (0, .class_ 4), (0, u "java/lang/Object")] 7

/-- java/lang/Comparable -/
def k3 : Class := { plain "java/lang/Comparable" (some 0) with
  accessFlags := 1537
  interfaces := #[]
  cf := some (fileOf pool3 1 #[] #[] 1537 3 #[] #[])
  fields := #[]
  methods := #[]
  instanceTypes := #[]
  staticTypes := #[]
  resolved := Array.replicate 12 none
  statics := none }

def pool4 : Array CpInfo := pool [(2, .class_ 4), (1, u "java/lang/CharSequence"), (42, .class_ 48), (0, u "java/lang/CharSequence$1CodePointIterator"), (10, .class_ 60), (0, u "java/lang/CharSequence$1CharIterator"), (5, .class_ 67), (0, u "java/lang/Object")] 63

/-- java/lang/CharSequence -/
def k4 : Class := { plain "java/lang/CharSequence" (some 0) with
  accessFlags := 1537
  interfaces := #[]
  cf := some (fileOf pool4 2 #[.nestMembers #[47, 59]] #[] 1537 66 #[] #[])
  fields := #[]
  methods := #[]
  instanceTypes := #[]
  staticTypes := #[]
  resolved := Array.replicate 131 none
  statics := none }

def pool5 : Array CpInfo := pool [(1, .class_ 2), (0, u "java/lang/constant/Constable"), (0, .class_ 4), (0, u "java/lang/Object")] 6

/-- java/lang/constant/Constable -/
def k5 : Class := { plain "java/lang/constant/Constable" (some 0) with
  accessFlags := 1537
  interfaces := #[]
  cf := some (fileOf pool5 1 #[] #[] 1537 3 #[] #[])
  fields := #[]
  methods := #[]
  instanceTypes := #[]
  staticTypes := #[]
  resolved := Array.replicate 11 none
  statics := none }

def pool6 : Array CpInfo := pool [(1, .class_ 2), (0, u "java/lang/constant/ConstantDesc"), (0, .class_ 4), (0, u "java/lang/Object")] 32

/-- java/lang/constant/ConstantDesc -/
def k6 : Class := { plain "java/lang/constant/ConstantDesc" (some 0) with
  accessFlags := 1537
  interfaces := #[]
  cf := some (fileOf pool6 1 #[] #[] 1537 3 #[] #[])
  fields := #[]
  methods := #[]
  instanceTypes := #[]
  staticTypes := #[]
  resolved := Array.replicate 37 none
  statics := none }

def pool7 : Array CpInfo := pool [(1, .methodref 2 3), (0, .class_ 4), (0, .nameAndType 5 6), (0, u "java/lang/Object"), (0, u "<init>"), (0, u "()V"), (0, .string 8), (0, u ""), (0, .fieldref 10 11), (0, .class_ 12), (0, .nameAndType 13 14), (0, u "java/lang/String"), (0, u "value"), (0, u "[B"), (0, .fieldref 10 16), (0, .nameAndType 17 18), (0, u "coder"), (0, u "B"), (2, u "hash"), (0, u "I"), (2, u "hashIsZero"), (0, u "Z"), (0, .methodref 10 28), (0, .nameAndType 5 29), (0, u "([CIILjava/lang/Void;)V"), (8, .fieldref 10 39), (0, .nameAndType 40 26), (0, u "COMPACT_STRINGS"), (1, .class_ 44), (1, u "java/lang/StringUTF16"), (0, u "compress"), (1, .methodref 42 48), (0, .nameAndType 49 50), (0, u "coderFromArrayLen"), (0, u "([BI)B"), (3, .methodref 55 56), (0, .class_ 57), (0, .nameAndType 58 59), (0, u "java/util/Arrays"), (0, u "copyOfRange"), (0, u "([BII)[B"), (47, .class_ 109), (1, u "java/lang/StringLatin1"), (32, u "()Z"), (34, .methodref 42 178), (0, .nameAndType 45 179), (0, u "([CII)[B"), (13, .class_ 195), (1, u "java/lang/System"), (16, .methodref 193 213), (0, .nameAndType 214 215), (0, u "arraycopy"), (0, u "(Ljava/lang/Object;ILjava/lang/Object;II)V"), (118, u "()I"), (0, .methodref 10 336), (0, .nameAndType 17 337), (0, u "()B"), (2, u "()[B"), (22, u "([BI)C"), (27, u "(II)V"), (35, u "(I)C"), (61, .methodref 10 490), (0, .nameAndType 5 491), (0, u "(Ljava/lang/AbstractStringBuilder;Ljava/lang/Void;)V"), (0, .methodref 10 493), (0, .nameAndType 494 142), (0, u "isLatin1"), (0, .methodref 107 496), (0, .nameAndType 497 363), (0, u "charAt"), (3, u "checkIndex"), (4, .nameAndType 507 334), (0, u "length"), (24, u "getBytes"), (16, .methodref 550 506), (0, .class_ 551), (0, u "java/lang/AbstractStringBuilder"), (0, .methodref 550 553), (0, .nameAndType 554 340), (0, u "getValue"), (20, .class_ 576), (0, u "java/lang/CharSequence"), (22, u "CASE_INSENSITIVE_ORDER"), (0, u "Ljava/util/Comparator;"), (220, u "([BIB)V"), (188, u "([C)V"), (36, .methodref 550 493), (5, .fieldref 1054 1055), (0, .class_ 1056), (0, .nameAndType 1057 1058), (0, u "jdk/internal/util/Preconditions"), (0, u "SIOOBE_FORMATTER"), (0, u "Ljava/util/function/BiFunction;"), (0, .methodref 1054 1060), (0, .nameAndType 501 1061), (0, u "(IILjava/util/function/BiFunction;)I"), (39, u "serialPersistentFields"), (0, u "[Ljava/io/ObjectStreamField;"), (0, .class_ 1104), (0, u "java/lang/String$CaseInsensitiveComparator"), (1, .class_ 1107), (0, u "java/io/Serializable"), (0, .class_ 1109), (0, u "java/lang/Comparable"), (0, .class_ 1111), (0, u "java/lang/constant/Constable"), (0, .class_ 1113), (0, u "java/lang/constant/ConstantDesc"), (2, u "serialVersionUID"), (0, u "J"), (3, u "REPL"), (0, u "C"), (2, u "LATIN1"), (1, u "UTF16"), (105, u "(Ljava/lang/StringBuilder;)V")] 217

def k7m0 : Method := { name := "<init>", desc := "()V", sig := { parameters := [], returnType := none }, accessFlags := 1, code := none }
def k7c1 : Code := { maxStack := 5, maxLocals := 2, code := jdk_42_method_3_code, exceptionTable := #[], attributes := #[] }
def k7m1 : Method := { name := "<init>", desc := "([C)V", sig := { parameters := [(.array .char)], returnType := none }, accessFlags := 1, code := some k7c1 }
def k7c2 : Code := { maxStack := 3, maxLocals := 2, code := jdk_42_method_53_code, exceptionTable := #[], attributes := #[] }
def k7m2 : Method := { name := "<init>", desc := "(Ljava/lang/StringBuilder;)V", sig := { parameters := [(.object "java/lang/StringBuilder")], returnType := none }, accessFlags := 1, code := some k7c2 }
def k7c3 : Code := { maxStack := 2, maxLocals := 1, code := jdk_42_method_54_code, exceptionTable := #[], attributes := #[] }
def k7m3 : Method := { name := "length", desc := "()I", sig := { parameters := [], returnType := some .int }, accessFlags := 1, code := some k7c3 }
def k7c4 : Code := { maxStack := 2, maxLocals := 2, code := jdk_42_method_56_code, exceptionTable := #[], attributes := #[] }
def k7m4 : Method := { name := "charAt", desc := "(I)C", sig := { parameters := [.int], returnType := some .char }, accessFlags := 1, code := some k7c4 }
def k7c5 : Code := { maxStack := 5, maxLocals := 4, code := jdk_42_method_147_code, exceptionTable := #[], attributes := #[] }
def k7m5 : Method := { name := "getBytes", desc := "([BIB)V", sig := { parameters := [(.array .byte), .int, .byte], returnType := none }, accessFlags := 0, code := some k7c5 }
def k7c6 : Code := { maxStack := 4, maxLocals := 6, code := jdk_42_method_149_code, exceptionTable := #[], attributes := #[] }
def k7m6 : Method := { name := "<init>", desc := "([CIILjava/lang/Void;)V", sig := { parameters := [(.array .char), .int, .int, (.object "java/lang/Void")], returnType := none }, accessFlags := 2, code := some k7c6 }
def k7c7 : Code := { maxStack := 5, maxLocals := 5, code := jdk_42_method_150_code, exceptionTable := #[], attributes := #[] }
def k7m7 : Method := { name := "<init>", desc := "(Ljava/lang/AbstractStringBuilder;Ljava/lang/Void;)V", sig := { parameters := [(.object "java/lang/AbstractStringBuilder"), (.object "java/lang/Void")], returnType := none }, accessFlags := 0, code := some k7c7 }
def k7c8 : Code := { maxStack := 1, maxLocals := 1, code := jdk_42_method_152_code, exceptionTable := #[], attributes := #[] }
def k7m8 : Method := { name := "coder", desc := "()B", sig := { parameters := [], returnType := some .byte }, accessFlags := 0, code := some k7c8 }
def k7c9 : Code := { maxStack := 1, maxLocals := 1, code := jdk_42_method_154_code, exceptionTable := #[], attributes := #[] }
def k7m9 : Method := { name := "isLatin1", desc := "()Z", sig := { parameters := [], returnType := some .boolean }, accessFlags := 0, code := some k7c9 }
def k7c10 : Code := { maxStack := 3, maxLocals := 2, code := jdk_42_method_155_code, exceptionTable := #[], attributes := #[] }
def k7m10 : Method := { name := "checkIndex", desc := "(II)V", sig := { parameters := [.int, .int], returnType := none }, accessFlags := 8, code := some k7c10 }
/-- java/lang/String -/
def k7 : Class := { plain "java/lang/String" (some 0) with
  accessFlags := 49
  interfaces := #[2, 3, 4, 5, 6]
  cf := some (fileOf pool7 10 #[.nestMembers #[1103]] #[{ accessFlags := 1, nameIndex := 5, descriptorIndex := 6, attributes := #[] }, { accessFlags := 1, nameIndex := 5, descriptorIndex := 1010, attributes := #[] }, { accessFlags := 1, nameIndex := 5, descriptorIndex := 1233, attributes := #[] }, { accessFlags := 1, nameIndex := 507, descriptorIndex := 334, attributes := #[] }, { accessFlags := 1, nameIndex := 497, descriptorIndex := 427, attributes := #[] }, { accessFlags := 0, nameIndex := 532, descriptorIndex := 821, attributes := #[] }, { accessFlags := 2, nameIndex := 5, descriptorIndex := 29, attributes := #[] }, { accessFlags := 0, nameIndex := 5, descriptorIndex := 491, attributes := #[] }, { accessFlags := 0, nameIndex := 17, descriptorIndex := 337, attributes := #[] }, { accessFlags := 0, nameIndex := 494, descriptorIndex := 142, attributes := #[] }, { accessFlags := 8, nameIndex := 501, descriptorIndex := 391, attributes := #[] }] 49 2 #[1106, 1108, 575, 1110, 1112] #[{ accessFlags := 18, nameIndex := 13, descriptorIndex := 14, attributes := #[] }, { accessFlags := 18, nameIndex := 17, descriptorIndex := 18, attributes := #[] }, { accessFlags := 2, nameIndex := 21, descriptorIndex := 22, attributes := #[] }, { accessFlags := 2, nameIndex := 25, descriptorIndex := 26, attributes := #[] }, { accessFlags := 26, nameIndex := 1116, descriptorIndex := 1117, attributes := #[] }, { accessFlags := 24, nameIndex := 40, descriptorIndex := 26, attributes := #[] }, { accessFlags := 26, nameIndex := 1101, descriptorIndex := 1102, attributes := #[] }, { accessFlags := 26, nameIndex := 1121, descriptorIndex := 1122, attributes := #[] }, { accessFlags := 25, nameIndex := 599, descriptorIndex := 600, attributes := #[] }, { accessFlags := 24, nameIndex := 1125, descriptorIndex := 18, attributes := #[] }, { accessFlags := 24, nameIndex := 1127, descriptorIndex := 18, attributes := #[] }])
  fields := #[{ name := "value", type := (.array .byte), accessFlags := 18, slot := 0, constantValue := 0 }, { name := "coder", type := .byte, accessFlags := 18, slot := 1, constantValue := 0 }, { name := "hash", type := .int, accessFlags := 2, slot := 2, constantValue := 0 }, { name := "hashIsZero", type := .boolean, accessFlags := 2, slot := 3, constantValue := 0 }, { name := "serialVersionUID", type := .long, accessFlags := 26, slot := 0, constantValue := 0 }, { name := "COMPACT_STRINGS", type := .boolean, accessFlags := 24, slot := 1, constantValue := 0 }, { name := "serialPersistentFields", type := (.array (.object "java/io/ObjectStreamField")), accessFlags := 26, slot := 2, constantValue := 0 }, { name := "REPL", type := .char, accessFlags := 26, slot := 3, constantValue := 0 }, { name := "CASE_INSENSITIVE_ORDER", type := (.object "java/util/Comparator"), accessFlags := 25, slot := 4, constantValue := 0 }, { name := "LATIN1", type := .byte, accessFlags := 24, slot := 5, constantValue := 0 }, { name := "UTF16", type := .byte, accessFlags := 24, slot := 6, constantValue := 0 }]
  methods := #[k7m0, k7m1, k7m2, k7m3, k7m4, k7m5, k7m6, k7m7, k7m8, k7m9, k7m10]
  instanceTypes := #[(.array .byte), .byte, .int, .boolean]
  staticTypes := #[.long, .boolean, (.array (.object "java/io/ObjectStreamField")), .char, (.object "java/util/Comparator"), .byte, .byte]
  resolved := Array.replicate 1451 none
  statics := some 0 }

def pool8 : Array CpInfo := pool [(6, .class_ 8), (1, u "java/lang/Object"), (0, u "<init>"), (0, u "()V"), (1, .class_ 14), (1, u "java/lang/StringUTF16"), (31, u "$assertionsDisabled"), (0, u "Z"), (13, u "HI_BYTE_SHIFT"), (0, u "I"), (2, u "LO_BYTE_SHIFT"), (49, .methodref 12 116), (0, .nameAndType 117 118), (0, u "compress"), (0, u "([CI[BII)I"), (3, u "([CII)[B"), (138, u "coderFromArrayLen"), (0, u "([BI)B"), (106, .class_ 371), (1, u "java/lang/StringUTF16$LinesSpliterator"), (58, u "MAX_LENGTH"), (196, .class_ 628), (0, u "java/lang/StringUTF16$CodePointsSpliterator"), (0, .class_ 630), (0, u "java/lang/StringUTF16$CharsSpliterator")] 4

def k8m0 : Method := { name := "<init>", desc := "()V", sig := { parameters := [], returnType := none }, accessFlags := 0, code := none }
def k8c1 : Code := { maxStack := 2, maxLocals := 2, code := jdk_52_method_15_code, exceptionTable := #[], attributes := #[] }
def k8m1 : Method := { name := "coderFromArrayLen", desc := "([BI)B", sig := { parameters := [(.array .byte), .int], returnType := some .byte }, accessFlags := 8, code := some k8c1 }
def k8c2 : Code := { maxStack := 5, maxLocals := 6, code := jdk_52_method_16_code, exceptionTable := #[], attributes := #[] }
def k8m2 : Method := { name := "compress", desc := "([CII)[B", sig := { parameters := [(.array .char), .int, .int], returnType := some (.array .byte) }, accessFlags := 9, code := some k8c2 }
def k8c3 : Code := { maxStack := 3, maxLocals := 7, code := jdk_52_method_21_code, exceptionTable := #[], attributes := #[] }
def k8m3 : Method := { name := "compress", desc := "([CI[BII)I", sig := { parameters := [(.array .char), .int, (.array .byte), .int, .int], returnType := some .int }, accessFlags := 9, code := some k8c3 }
/-- java/lang/StringUTF16 -/
def k8 : Class := { plain "java/lang/StringUTF16" (some 0) with
  accessFlags := 48
  interfaces := #[]
  cf := some (fileOf pool8 12 #[.nestMembers #[627, 629, 369]] #[{ accessFlags := 0, nameIndex := 9, descriptorIndex := 10, attributes := #[] }, { accessFlags := 8, nameIndex := 261, descriptorIndex := 262, attributes := #[] }, { accessFlags := 9, nameIndex := 117, descriptorIndex := 122, attributes := #[] }, { accessFlags := 9, nameIndex := 117, descriptorIndex := 118, attributes := #[] }] 48 6 #[] #[{ accessFlags := 26, nameIndex := 61, descriptorIndex := 62, attributes := #[] }, { accessFlags := 26, nameIndex := 65, descriptorIndex := 62, attributes := #[] }, { accessFlags := 24, nameIndex := 430, descriptorIndex := 62, attributes := #[] }, { accessFlags := 4120, nameIndex := 46, descriptorIndex := 47, attributes := #[] }])
  fields := #[{ name := "HI_BYTE_SHIFT", type := .int, accessFlags := 26, slot := 0, constantValue := 0 }, { name := "LO_BYTE_SHIFT", type := .int, accessFlags := 26, slot := 1, constantValue := 0 }, { name := "MAX_LENGTH", type := .int, accessFlags := 24, slot := 2, constantValue := 0 }, { name := "$assertionsDisabled", type := .boolean, accessFlags := 4120, slot := 3, constantValue := 0 }]
  methods := #[k8m0, k8m1, k8m2, k8m3]
  instanceTypes := #[]
  staticTypes := #[.int, .int, .int, .boolean]
  resolved := Array.replicate 635 none
  statics := none }

def pool9 : Array CpInfo := pool [(1, .methodref 2 3), (0, .class_ 4), (0, .nameAndType 5 6), (0, u "java/lang/Object"), (0, u "<init>"), (0, u "()V"), (0, .class_ 8), (0, u "java/lang/Record")] 13

def k9c0 : Code := { maxStack := 1, maxLocals := 1, code := jdk_30_method_1_code, exceptionTable := #[], attributes := #[] }
def k9m0 : Method := { name := "<init>", desc := "()V", sig := { parameters := [], returnType := none }, accessFlags := 4, code := some k9c0 }
/-- java/lang/Record -/
def k9 : Class := { plain "java/lang/Record" (some 0) with
  accessFlags := 1057
  interfaces := #[]
  cf := some (fileOf pool9 7 #[] #[{ accessFlags := 4, nameIndex := 5, descriptorIndex := 6, attributes := #[] }] 1057 2 #[] #[])
  fields := #[]
  methods := #[k9m0]
  instanceTypes := #[]
  staticTypes := #[]
  resolved := Array.replicate 22 none
  statics := none }

def pool10 : Array CpInfo := pool [(1, .methodref 2 3), (0, .class_ 4), (0, .nameAndType 5 6), (0, u "java/lang/Record"), (0, u "<init>"), (0, u "()V"), (0, .fieldref 8 9), (0, .class_ 10), (0, .nameAndType 11 12), (0, u "com/example/uketsuke/uketsuke/core/token/PageToken"), (0, u "text"), (0, u "Ljava/lang/String;"), (0, .fieldref 8 14), (0, .nameAndType 15 12), (0, u "nonce"), (0, .fieldref 8 17), (0, .nameAndType 18 19), (0, u "expiresAt"), (0, u "J"), (0, .class_ 21), (0, u "java/lang/StringBuilder"), (0, .methodref 20 3), (0, .string 24), (0, u "PageToken[nonce="), (0, .methodref 20 26), (0, .nameAndType 27 28), (0, u "append"), (0, u "(Ljava/lang/String;)Ljava/lang/StringBuilder;"), (0, .string 30), (0, u ", expiresAt="), (0, .methodref 20 32), (0, .nameAndType 27 33), (0, u "(J)Ljava/lang/StringBuilder;"), (0, .string 35), (0, u "]"), (0, .methodref 20 37), (0, .nameAndType 38 39), (0, u "toString"), (0, u "()Ljava/lang/String;"), (8, u "(Ljava/lang/String;Ljava/lang/String;J)V")] 28

def k10c0 : Code := { maxStack := 3, maxLocals := 5, code := prog_55_method_1_code, exceptionTable := #[], attributes := #[] }
def k10m0 : Method := { name := "<init>", desc := "(Ljava/lang/String;Ljava/lang/String;J)V", sig := { parameters := [(.object "java/lang/String"), (.object "java/lang/String"), .long], returnType := none }, accessFlags := 1, code := some k10c0 }
def k10c1 : Code := { maxStack := 3, maxLocals := 1, code := prog_55_method_2_code, exceptionTable := #[], attributes := #[] }
def k10m1 : Method := { name := "toString", desc := "()Ljava/lang/String;", sig := { parameters := [], returnType := some (.object "java/lang/String") }, accessFlags := 1, code := some k10c1 }
/-- com/example/uketsuke/uketsuke/core/token/PageToken -/
def k10 : Class := { plain "com/example/uketsuke/uketsuke/core/token/PageToken" (some 9) with
  accessFlags := 49
  interfaces := #[]
  cf := some (fileOf pool10 8 #[] #[{ accessFlags := 1, nameIndex := 5, descriptorIndex := 48, attributes := #[] }, { accessFlags := 1, nameIndex := 38, descriptorIndex := 39, attributes := #[] }] 49 2 #[] #[{ accessFlags := 18, nameIndex := 11, descriptorIndex := 12, attributes := #[] }, { accessFlags := 18, nameIndex := 15, descriptorIndex := 12, attributes := #[] }, { accessFlags := 18, nameIndex := 18, descriptorIndex := 19, attributes := #[] }])
  fields := #[{ name := "text", type := (.object "java/lang/String"), accessFlags := 18, slot := 0, constantValue := 0 }, { name := "nonce", type := (.object "java/lang/String"), accessFlags := 18, slot := 1, constantValue := 0 }, { name := "expiresAt", type := .long, accessFlags := 18, slot := 2, constantValue := 0 }]
  methods := #[k10m0, k10m1]
  instanceTypes := #[(.object "java/lang/String"), (.object "java/lang/String"), .long]
  staticTypes := #[]
  resolved := Array.replicate 77 none
  statics := none }

def pool11 : Array CpInfo := pool [(1, .class_ 2), (0, u "java/lang/Appendable"), (0, .class_ 4), (0, u "java/lang/Object")] 9

/-- java/lang/Appendable -/
def k11 : Class := { plain "java/lang/Appendable" (some 0) with
  accessFlags := 1537
  interfaces := #[]
  cf := some (fileOf pool11 1 #[] #[] 1537 3 #[] #[])
  fields := #[]
  methods := #[]
  instanceTypes := #[]
  staticTypes := #[]
  resolved := Array.replicate 14 none
  statics := none }

def pool12 : Array CpInfo := pool [(1, .class_ 2), (0, u "java/lang/String"), (0, .methodref 4 5), (0, .class_ 6), (0, .nameAndType 7 8), (0, u "java/lang/Object"), (0, u "<init>"), (0, u "()V"), (1, .class_ 12), (1, u "java/lang/AbstractStringBuilder"), (0, u "EMPTYVALUE"), (0, u "[B"), (0, .fieldref 10 16), (0, .nameAndType 17 14), (0, u "value"), (0, .fieldref 1 19), (0, .nameAndType 20 21), (0, u "COMPACT_STRINGS"), (0, u "Z"), (0, .fieldref 10 23), (0, .nameAndType 24 25), (0, u "coder"), (0, u "B"), (6, .methodref 1 33), (0, .nameAndType 34 35), (0, u "length"), (0, u "()I"), (3, .integer 2147483647), (0, .methodref 1 41), (0, .nameAndType 24 42), (0, u "()B"), (2, u "append"), (0, u "(Ljava/lang/String;)Ljava/lang/AbstractStringBuilder;"), (1, .class_ 49), (0, u "java/lang/CharSequence"), (19, u "(Ljava/lang/String;)V"), (5, u "maybeLatin1"), (3, .fieldref 10 80), (0, .nameAndType 81 82), (0, u "count"), (0, u "I"), (0, .methodref 10 84), (0, .nameAndType 85 86), (0, u "isLatin1"), (0, u "()Z"), (13, .methodref 10 101), (0, .nameAndType 102 103), (0, u "ensureCapacityInternal"), (0, u "(I)V"), (0, .methodref 10 105), (0, .nameAndType 106 107), (0, u "newCapacity"), (0, u "(I)I"), (0, .methodref 109 110), (0, .class_ 111), (0, .nameAndType 112 113), (0, u "java/util/Arrays"), (0, u "copyOf"), (0, u "([BI)[B"), (0, .methodref 115 116), (0, .class_ 117), (0, .nameAndType 118 119), (0, u "jdk/internal/util/ArraysSupport"), (0, u "newLength"), (0, u "(III)I"), (68, u "getChars"), (19, .methodref 10 209), (0, .nameAndType 210 211), (0, u "putStringAt"), (0, u "(ILjava/lang/String;)V"), (5, u "inflateIfNeededFor"), (2, .nameAndType 221 222), (0, u "getBytes"), (0, u "([BIB)V"), (24, u "stringSize"), (6, .methodref 255 256), (0, .class_ 257), (0, .nameAndType 247 258), (0, u "java/lang/Long"), (0, u "(J)I"), (0, .methodref 255 260), (0, .nameAndType 188 261), (0, u "(JI[B)I"), (135, .methodref 10 398), (0, .nameAndType 217 69), (0, .methodref 1 220), (3, u "()[B"), (40, .class_ 445), (0, u "java/lang/Appendable"), (67, u "(J)Ljava/lang/AbstractStringBuilder;"), (38, u "getValue")] 56

def k12m0 : Method := { name := "<init>", desc := "()V", sig := { parameters := [], returnType := none }, accessFlags := 0, code := none }
def k12c1 : Code := { maxStack := 2, maxLocals := 2, code := jdk_68_method_2_code, exceptionTable := #[], attributes := #[] }
def k12m1 : Method := { name := "<init>", desc := "(I)V", sig := { parameters := [.int], returnType := none }, accessFlags := 0, code := some k12c1 }
def k12c2 : Code := { maxStack := 1, maxLocals := 1, code := jdk_68_method_6_code, exceptionTable := #[], attributes := #[] }
def k12m2 : Method := { name := "length", desc := "()I", sig := { parameters := [], returnType := some .int }, accessFlags := 1, code := some k12c2 }
def k12c3 : Code := { maxStack := 4, maxLocals := 3, code := jdk_68_method_9_code, exceptionTable := #[], attributes := #[] }
def k12m3 : Method := { name := "ensureCapacityInternal", desc := "(I)V", sig := { parameters := [.int], returnType := none }, accessFlags := 2, code := some k12c3 }
def k12c4 : Code := { maxStack := 5, maxLocals := 6, code := jdk_68_method_10_code, exceptionTable := #[], attributes := #[] }
def k12m4 : Method := { name := "newCapacity", desc := "(I)I", sig := { parameters := [.int], returnType := some .int }, accessFlags := 2, code := some k12c4 }
def k12c5 : Code := { maxStack := 3, maxLocals := 3, code := jdk_68_method_22_code, exceptionTable := #[], attributes := #[] }
def k12m5 : Method := { name := "append", desc := "(Ljava/lang/String;)Ljava/lang/AbstractStringBuilder;", sig := { parameters := [(.object "java/lang/String")], returnType := some (.object "java/lang/AbstractStringBuilder") }, accessFlags := 1, code := some k12c5 }
def k12c6 : Code := { maxStack := 5, maxLocals := 5, code := jdk_68_method_33_code, exceptionTable := #[], attributes := #[] }
def k12m6 : Method := { name := "append", desc := "(J)Ljava/lang/AbstractStringBuilder;", sig := { parameters := [.long], returnType := some (.object "java/lang/AbstractStringBuilder") }, accessFlags := 1, code := some k12c6 }
def k12c7 : Code := { maxStack := 1, maxLocals := 1, code := jdk_68_method_64_code, exceptionTable := #[], attributes := #[] }
def k12m7 : Method := { name := "getValue", desc := "()[B", sig := { parameters := [], returnType := some (.array .byte) }, accessFlags := 16, code := some k12c7 }
def k12c8 : Code := { maxStack := 1, maxLocals := 1, code := jdk_68_method_68_code, exceptionTable := #[], attributes := #[] }
def k12m8 : Method := { name := "isLatin1", desc := "()Z", sig := { parameters := [], returnType := some .boolean }, accessFlags := 16, code := some k12c8 }
def k12c9 : Code := { maxStack := 2, maxLocals := 2, code := jdk_68_method_71_code, exceptionTable := #[], attributes := #[] }
def k12m9 : Method := { name := "inflateIfNeededFor", desc := "(Ljava/lang/String;)V", sig := { parameters := [(.object "java/lang/String")], returnType := none }, accessFlags := 2, code := some k12c9 }
def k12c10 : Code := { maxStack := 4, maxLocals := 3, code := jdk_68_method_73_code, exceptionTable := #[], attributes := #[] }
def k12m10 : Method := { name := "putStringAt", desc := "(ILjava/lang/String;)V", sig := { parameters := [.int, (.object "java/lang/String")], returnType := none }, accessFlags := 2, code := some k12c10 }
/-- java/lang/AbstractStringBuilder -/
def k12 : Class := { plain "java/lang/AbstractStringBuilder" (some 0) with
  accessFlags := 1056
  interfaces := #[11, 4]
  cf := some (fileOf pool12 10 #[] #[{ accessFlags := 0, nameIndex := 7, descriptorIndex := 8, attributes := #[] }, { accessFlags := 0, nameIndex := 7, descriptorIndex := 103, attributes := #[] }, { accessFlags := 1, nameIndex := 34, descriptorIndex := 35, attributes := #[] }, { accessFlags := 2, nameIndex := 102, descriptorIndex := 103, attributes := #[] }, { accessFlags := 2, nameIndex := 106, descriptorIndex := 107, attributes := #[] }, { accessFlags := 1, nameIndex := 45, descriptorIndex := 46, attributes := #[] }, { accessFlags := 1, nameIndex := 45, descriptorIndex := 513, attributes := #[] }, { accessFlags := 16, nameIndex := 552, descriptorIndex := 403, attributes := #[] }, { accessFlags := 16, nameIndex := 85, descriptorIndex := 86, attributes := #[] }, { accessFlags := 2, nameIndex := 217, descriptorIndex := 69, attributes := #[] }, { accessFlags := 2, nameIndex := 210, descriptorIndex := 211, attributes := #[] }] 1056 4 #[444, 48] #[{ accessFlags := 0, nameIndex := 17, descriptorIndex := 14, attributes := #[] }, { accessFlags := 0, nameIndex := 24, descriptorIndex := 25, attributes := #[] }, { accessFlags := 0, nameIndex := 75, descriptorIndex := 21, attributes := #[] }, { accessFlags := 0, nameIndex := 81, descriptorIndex := 82, attributes := #[] }, { accessFlags := 26, nameIndex := 13, descriptorIndex := 14, attributes := #[] }])
  fields := #[{ name := "value", type := (.array .byte), accessFlags := 0, slot := 0, constantValue := 0 }, { name := "coder", type := .byte, accessFlags := 0, slot := 1, constantValue := 0 }, { name := "maybeLatin1", type := .boolean, accessFlags := 0, slot := 2, constantValue := 0 }, { name := "count", type := .int, accessFlags := 0, slot := 3, constantValue := 0 }, { name := "EMPTYVALUE", type := (.array .byte), accessFlags := 26, slot := 0, constantValue := 0 }]
  methods := #[k12m0, k12m1, k12m2, k12m3, k12m4, k12m5, k12m6, k12m7, k12m8, k12m9, k12m10]
  instanceTypes := #[(.array .byte), .byte, .boolean, .int]
  staticTypes := #[(.array .byte)]
  resolved := Array.replicate 609 none
  statics := none }

def pool13 : Array CpInfo := pool [(1, .methodref 2 3), (0, .class_ 4), (0, .nameAndType 5 6), (0, u "java/lang/AbstractStringBuilder"), (0, u "<init>"), (0, u "(I)V"), (11, .class_ 20), (1, u "java/lang/String"), (3, .class_ 26), (1, u "java/lang/StringBuilder"), (0, u "append"), (0, u "(Ljava/lang/String;)Ljava/lang/StringBuilder;"), (0, .methodref 2 30), (0, .nameAndType 27 31), (0, u "(Ljava/lang/String;)Ljava/lang/AbstractStringBuilder;"), (24, .methodref 2 57), (0, .nameAndType 27 58), (0, u "(J)Ljava/lang/AbstractStringBuilder;"), (78, .methodref 18 138), (0, .nameAndType 5 139), (0, u "(Ljava/lang/StringBuilder;)V"), (5, u "()V"), (10, u "()I"), (124, u "(J)Ljava/lang/StringBuilder;"), (61, .methodref 2 344), (0, .nameAndType 345 156), (0, u "length"), (3, .class_ 350), (0, u "java/lang/Appendable"), (0, .class_ 352), (0, u "java/io/Serializable"), (0, .class_ 354), (0, u "java/lang/Comparable"), (0, .class_ 356), (0, u "java/lang/CharSequence"), (0, u "serialVersionUID"), (0, u "J"), (40, u "toString"), (0, u "()Ljava/lang/String;")] 21

def k13c0 : Code := { maxStack := 2, maxLocals := 1, code := jdk_67_method_1_code, exceptionTable := #[], attributes := #[] }
def k13m0 : Method := { name := "<init>", desc := "()V", sig := { parameters := [], returnType := none }, accessFlags := 1, code := some k13c0 }
def k13c1 : Code := { maxStack := 2, maxLocals := 2, code := jdk_67_method_7_code, exceptionTable := #[], attributes := #[] }
def k13m1 : Method := { name := "append", desc := "(Ljava/lang/String;)Ljava/lang/StringBuilder;", sig := { parameters := [(.object "java/lang/String")], returnType := some (.object "java/lang/StringBuilder") }, accessFlags := 1, code := some k13c1 }
def k13c2 : Code := { maxStack := 3, maxLocals := 3, code := jdk_67_method_16_code, exceptionTable := #[], attributes := #[] }
def k13m2 : Method := { name := "append", desc := "(J)Ljava/lang/StringBuilder;", sig := { parameters := [.long], returnType := some (.object "java/lang/StringBuilder") }, accessFlags := 1, code := some k13c2 }
def k13c3 : Code := { maxStack := 3, maxLocals := 1, code := jdk_67_method_42_code, exceptionTable := #[], attributes := #[] }
def k13m3 : Method := { name := "toString", desc := "()Ljava/lang/String;", sig := { parameters := [], returnType := some (.object "java/lang/String") }, accessFlags := 1, code := some k13c3 }
def k13c4 : Code := { maxStack := 1, maxLocals := 1, code := jdk_67_method_93_code, exceptionTable := #[], attributes := #[] }
def k13m4 : Method := { name := "length", desc := "()I", sig := { parameters := [], returnType := some .int }, accessFlags := 4161, code := some k13c4 }
/-- java/lang/StringBuilder -/
def k13 : Class := { plain "java/lang/StringBuilder" (some 12) with
  accessFlags := 49
  interfaces := #[11, 2, 3, 4]
  cf := some (fileOf pool13 24 #[] #[{ accessFlags := 1, nameIndex := 5, descriptorIndex := 145, attributes := #[] }, { accessFlags := 1, nameIndex := 27, descriptorIndex := 28, attributes := #[] }, { accessFlags := 1, nameIndex := 27, descriptorIndex := 281, attributes := #[] }, { accessFlags := 1, nameIndex := 399, descriptorIndex := 400, attributes := #[] }, { accessFlags := 4161, nameIndex := 345, descriptorIndex := 156, attributes := #[] }] 49 2 #[349, 351, 353, 355] #[{ accessFlags := 24, nameIndex := 357, descriptorIndex := 358, attributes := #[] }])
  fields := #[{ name := "serialVersionUID", type := .long, accessFlags := 24, slot := 0, constantValue := 0 }]
  methods := #[k13m0, k13m1, k13m2, k13m3, k13m4]
  instanceTypes := #[(.array .byte), .byte, .boolean, .int]
  staticTypes := #[.long]
  resolved := Array.replicate 422 none
  statics := none }

def pool14 : Array CpInfo := pool [(2, .class_ 4), (1, u "java/lang/Object"), (0, u "<init>"), (0, u "()V"), (1, .class_ 10), (1, u "java/lang/System"), (0, u "allowSecurityManager"), (0, u "I"), (16, u "cons"), (0, u "Ljava/io/Console;"), (77, .class_ 110), (1, u "java/lang/System$CallersHolder"), (43, u "initialErrStream"), (0, u "Ljava/io/PrintStream;"), (19, u "security"), (0, u "Ljava/lang/SecurityManager;"), (31, .class_ 209), (0, u "java/lang/System$1"), (7, u "props"), (0, u "Ljava/util/Properties;"), (2, u "lineSeparator"), (0, u "Ljava/lang/String;"), (96, .class_ 321), (1, u "java/lang/System$LoggerFinder"), (5, .class_ 328), (0, u "java/lang/System$Logger"), (67, u "err"), (2, u "out"), (91, u "notSupportedJnuEncoding"), (15, u "in"), (17, u "initialIn"), (0, u "Ljava/io/InputStream;"), (35, u "bootLayer"), (0, u "Ljava/lang/ModuleLayer;"), (99, .class_ 664), (0, u "java/lang/System$2"), (9, u "NEVER"), (2, u "MAYBE"), (49, u "arraycopy"), (0, u "(Ljava/lang/Object;ILjava/lang/Object;II)V"), (72, .class_ 802), (0, u "java/lang/System$Logger$Level")] 31

def k14m0 : Method := { name := "<init>", desc := "()V", sig := { parameters := [], returnType := none }, accessFlags := 2, code := none }
def k14m1 : Method := { name := "arraycopy", desc := "(Ljava/lang/Object;ILjava/lang/Object;II)V", sig := { parameters := [(.object "java/lang/Object"), .int, (.object "java/lang/Object"), .int, .int], returnType := none }, accessFlags := 265, code := none }
/-- java/lang/System -/
def k14 : Class := { plain "java/lang/System" (some 0) with
  accessFlags := 49
  interfaces := #[]
  cf := some (fileOf pool14 8 #[.nestMembers #[319, 327, 801, 108, 663, 208]] #[{ accessFlags := 2, nameIndex := 5, descriptorIndex := 6, attributes := #[] }, { accessFlags := 265, nameIndex := 727, descriptorIndex := 728, attributes := #[] }] 49 2 #[] #[{ accessFlags := 25, nameIndex := 507, descriptorIndex := 526, attributes := #[] }, { accessFlags := 25, nameIndex := 399, descriptorIndex := 155, attributes := #[] }, { accessFlags := 25, nameIndex := 396, descriptorIndex := 155, attributes := #[] }, { accessFlags := 10, nameIndex := 525, descriptorIndex := 526, attributes := #[] }, { accessFlags := 26, nameIndex := 674, descriptorIndex := 12, attributes := #[] }, { accessFlags := 26, nameIndex := 677, descriptorIndex := 12, attributes := #[] }, { accessFlags := 10, nameIndex := 11, descriptorIndex := 12, attributes := #[] }, { accessFlags := 74, nameIndex := 175, descriptorIndex := 176, attributes := #[] }, { accessFlags := 10, nameIndex := 491, descriptorIndex := 222, attributes := #[] }, { accessFlags := 74, nameIndex := 29, descriptorIndex := 30, attributes := #[] }, { accessFlags := 74, nameIndex := 154, descriptorIndex := 155, attributes := #[] }, { accessFlags := 10, nameIndex := 217, descriptorIndex := 218, attributes := #[] }, { accessFlags := 10, nameIndex := 221, descriptorIndex := 222, attributes := #[] }, { accessFlags := 8, nameIndex := 562, descriptorIndex := 563, attributes := #[] }])
  fields := #[{ name := "in", type := (.object "java/io/InputStream"), accessFlags := 25, slot := 0, constantValue := 0 }, { name := "out", type := (.object "java/io/PrintStream"), accessFlags := 25, slot := 1, constantValue := 0 }, { name := "err", type := (.object "java/io/PrintStream"), accessFlags := 25, slot := 2, constantValue := 0 }, { name := "initialIn", type := (.object "java/io/InputStream"), accessFlags := 10, slot := 3, constantValue := 0 }, { name := "NEVER", type := .int, accessFlags := 26, slot := 4, constantValue := 0 }, { name := "MAYBE", type := .int, accessFlags := 26, slot := 5, constantValue := 0 }, { name := "allowSecurityManager", type := .int, accessFlags := 10, slot := 6, constantValue := 0 }, { name := "security", type := (.object "java/lang/SecurityManager"), accessFlags := 74, slot := 7, constantValue := 0 }, { name := "notSupportedJnuEncoding", type := (.object "java/lang/String"), accessFlags := 10, slot := 8, constantValue := 0 }, { name := "cons", type := (.object "java/io/Console"), accessFlags := 74, slot := 9, constantValue := 0 }, { name := "initialErrStream", type := (.object "java/io/PrintStream"), accessFlags := 74, slot := 10, constantValue := 0 }, { name := "props", type := (.object "java/util/Properties"), accessFlags := 10, slot := 11, constantValue := 0 }, { name := "lineSeparator", type := (.object "java/lang/String"), accessFlags := 10, slot := 12, constantValue := 0 }, { name := "bootLayer", type := (.object "java/lang/ModuleLayer"), accessFlags := 8, slot := 13, constantValue := 0 }]
  methods := #[k14m0, k14m1]
  instanceTypes := #[]
  staticTypes := #[(.object "java/io/InputStream"), (.object "java/io/PrintStream"), (.object "java/io/PrintStream"), (.object "java/io/InputStream"), .int, .int, .int, (.object "java/lang/SecurityManager"), (.object "java/lang/String"), (.object "java/io/Console"), (.object "java/io/PrintStream"), (.object "java/util/Properties"), (.object "java/lang/String"), (.object "java/lang/ModuleLayer")]
  resolved := Array.replicate 834 none
  statics := none }

def pool15 : Array CpInfo := pool [(9, u "<init>"), (6, .class_ 18), (1, u "java/lang/Object"), (0, u "()V"), (1, .class_ 23), (1, u "jdk/internal/util/ArraysSupport"), (0, u "LOG2_ARRAY_LONG_INDEX_SCALE"), (0, u "I"), (2, u "U"), (0, u "Ljdk/internal/misc/Unsafe;"), (8, u "BIG_ENDIAN"), (0, u "Z"), (8, u "LOG2_BYTE_BIT_SIZE"), (4, u "LOG2_ARRAY_INT_INDEX_SCALE"), (54, u "JLA"), (0, u "Ljdk/internal/access/JavaLangAccess;"), (11, u "LOG2_ARRAY_BOOLEAN_INDEX_SCALE"), (9, u "LOG2_ARRAY_BYTE_INDEX_SCALE"), (5, u "LOG2_ARRAY_CHAR_INDEX_SCALE"), (5, u "LOG2_ARRAY_SHORT_INDEX_SCALE"), (18, u "LOG2_ARRAY_FLOAT_INDEX_SCALE"), (24, u "LOG2_ARRAY_DOUBLE_INDEX_SCALE"), (6, .methodref 195 196), (0, .class_ 197), (0, .nameAndType 198 199), (0, u "java/lang/Math"), (0, u "max"), (0, u "(II)I"), (0, .integer 2147483639), (76, u "T_BOOLEAN"), (2, u "T_CHAR"), (1, u "T_FLOAT"), (1, u "T_DOUBLE"), (1, u "T_BYTE"), (1, u "T_SHORT"), (1, u "T_INT"), (1, u "T_LONG"), (1, u "SOFT_MAX_ARRAY_LENGTH"), (56, u "newLength"), (0, u "(III)I")] 25

def k15m0 : Method := { name := "<init>", desc := "()V", sig := { parameters := [], returnType := none }, accessFlags := 2, code := none }
def k15c1 : Code := { maxStack := 3, maxLocals := 4, code := jdk_48_method_27_code, exceptionTable := #[], attributes := #[] }
def k15m1 : Method := { name := "newLength", desc := "(III)I", sig := { parameters := [.int, .int, .int], returnType := some .int }, accessFlags := 9, code := some k15c1 }
/-- jdk/internal/util/ArraysSupport -/
def k15 : Class := { plain "jdk/internal/util/ArraysSupport" (some 0) with
  accessFlags := 33
  interfaces := #[]
  cf := some (fileOf pool15 21 #[] #[{ accessFlags := 2, nameIndex := 9, descriptorIndex := 19, attributes := #[] }, { accessFlags := 9, nameIndex := 351, descriptorIndex := 352, attributes := #[] }] 33 16 #[] #[{ accessFlags := 24, nameIndex := 28, descriptorIndex := 29, attributes := #[] }, { accessFlags := 26, nameIndex := 38, descriptorIndex := 39, attributes := #[] }, { accessFlags := 25, nameIndex := 121, descriptorIndex := 25, attributes := #[] }, { accessFlags := 25, nameIndex := 131, descriptorIndex := 25, attributes := #[] }, { accessFlags := 25, nameIndex := 137, descriptorIndex := 25, attributes := #[] }, { accessFlags := 25, nameIndex := 143, descriptorIndex := 25, attributes := #[] }, { accessFlags := 25, nameIndex := 53, descriptorIndex := 25, attributes := #[] }, { accessFlags := 25, nameIndex := 24, descriptorIndex := 25, attributes := #[] }, { accessFlags := 25, nameIndex := 162, descriptorIndex := 25, attributes := #[] }, { accessFlags := 25, nameIndex := 187, descriptorIndex := 25, attributes := #[] }, { accessFlags := 26, nameIndex := 48, descriptorIndex := 25, attributes := #[] }, { accessFlags := 25, nameIndex := 277, descriptorIndex := 25, attributes := #[] }, { accessFlags := 25, nameIndex := 280, descriptorIndex := 25, attributes := #[] }, { accessFlags := 25, nameIndex := 282, descriptorIndex := 25, attributes := #[] }, { accessFlags := 25, nameIndex := 284, descriptorIndex := 25, attributes := #[] }, { accessFlags := 25, nameIndex := 286, descriptorIndex := 25, attributes := #[] }, { accessFlags := 25, nameIndex := 288, descriptorIndex := 25, attributes := #[] }, { accessFlags := 25, nameIndex := 290, descriptorIndex := 25, attributes := #[] }, { accessFlags := 25, nameIndex := 292, descriptorIndex := 25, attributes := #[] }, { accessFlags := 26, nameIndex := 108, descriptorIndex := 109, attributes := #[] }, { accessFlags := 25, nameIndex := 294, descriptorIndex := 25, attributes := #[] }])
  fields := #[{ name := "U", type := (.object "jdk/internal/misc/Unsafe"), accessFlags := 24, slot := 0, constantValue := 0 }, { name := "BIG_ENDIAN", type := .boolean, accessFlags := 26, slot := 1, constantValue := 0 }, { name := "LOG2_ARRAY_BOOLEAN_INDEX_SCALE", type := .int, accessFlags := 25, slot := 2, constantValue := 0 }, { name := "LOG2_ARRAY_BYTE_INDEX_SCALE", type := .int, accessFlags := 25, slot := 3, constantValue := 0 }, { name := "LOG2_ARRAY_CHAR_INDEX_SCALE", type := .int, accessFlags := 25, slot := 4, constantValue := 0 }, { name := "LOG2_ARRAY_SHORT_INDEX_SCALE", type := .int, accessFlags := 25, slot := 5, constantValue := 0 }, { name := "LOG2_ARRAY_INT_INDEX_SCALE", type := .int, accessFlags := 25, slot := 6, constantValue := 0 }, { name := "LOG2_ARRAY_LONG_INDEX_SCALE", type := .int, accessFlags := 25, slot := 7, constantValue := 0 }, { name := "LOG2_ARRAY_FLOAT_INDEX_SCALE", type := .int, accessFlags := 25, slot := 8, constantValue := 0 }, { name := "LOG2_ARRAY_DOUBLE_INDEX_SCALE", type := .int, accessFlags := 25, slot := 9, constantValue := 0 }, { name := "LOG2_BYTE_BIT_SIZE", type := .int, accessFlags := 26, slot := 10, constantValue := 0 }, { name := "T_BOOLEAN", type := .int, accessFlags := 25, slot := 11, constantValue := 0 }, { name := "T_CHAR", type := .int, accessFlags := 25, slot := 12, constantValue := 0 }, { name := "T_FLOAT", type := .int, accessFlags := 25, slot := 13, constantValue := 0 }, { name := "T_DOUBLE", type := .int, accessFlags := 25, slot := 14, constantValue := 0 }, { name := "T_BYTE", type := .int, accessFlags := 25, slot := 15, constantValue := 0 }, { name := "T_SHORT", type := .int, accessFlags := 25, slot := 16, constantValue := 0 }, { name := "T_INT", type := .int, accessFlags := 25, slot := 17, constantValue := 0 }, { name := "T_LONG", type := .int, accessFlags := 25, slot := 18, constantValue := 0 }, { name := "JLA", type := (.object "jdk/internal/access/JavaLangAccess"), accessFlags := 26, slot := 19, constantValue := 0 }, { name := "SOFT_MAX_ARRAY_LENGTH", type := .int, accessFlags := 25, slot := 20, constantValue := 0 }]
  methods := #[k15m0, k15m1]
  instanceTypes := #[]
  staticTypes := #[(.object "jdk/internal/misc/Unsafe"), .boolean, .int, .int, .int, .int, .int, .int, .int, .int, .int, .int, .int, .int, .int, .int, .int, .int, .int, (.object "jdk/internal/access/JavaLangAccess"), .int]
  resolved := Array.replicate 378 none
  statics := none }

def pool16 : Array CpInfo := pool [(1, .class_ 2), (0, u "java/lang/Math"), (1, .class_ 6), (1, u "java/lang/Object"), (0, u "<init>"), (0, u "()V"), (89, .class_ 100), (1, u "java/lang/Math$RandomNumberGeneratorHolder"), (71, u "negativeZeroFloatBits"), (0, u "J"), (2, u "negativeZeroDoubleBits"), (21, u "max"), (2, u "min"), (43, u "$assertionsDisabled"), (0, u "Z"), (88, u "(II)I"), (2, u "twoToTheDoubleScaleDown"), (0, u "D"), (4, u "twoToTheDoubleScaleUp"), (9, u "E"), (3, u "PI"), (2, u "TAU"), (2, u "DEGREES_TO_RADIANS"), (0, u "RADIANS_TO_DEGREES")] 94

def k16m0 : Method := { name := "<init>", desc := "()V", sig := { parameters := [], returnType := none }, accessFlags := 2, code := none }
def k16c1 : Code := { maxStack := 2, maxLocals := 2, code := jdk_29_method_65_code, exceptionTable := #[], attributes := #[] }
def k16m1 : Method := { name := "max", desc := "(II)I", sig := { parameters := [.int, .int], returnType := some .int }, accessFlags := 9, code := some k16c1 }
def k16c2 : Code := { maxStack := 2, maxLocals := 2, code := jdk_29_method_69_code, exceptionTable := #[], attributes := #[] }
def k16m2 : Method := { name := "min", desc := "(II)I", sig := { parameters := [.int, .int], returnType := some .int }, accessFlags := 9, code := some k16c2 }
/-- java/lang/Math -/
def k16 : Class := { plain "java/lang/Math" (some 0) with
  accessFlags := 49
  interfaces := #[]
  cf := some (fileOf pool16 1 #[.nestMembers #[98]] #[{ accessFlags := 2, nameIndex := 7, descriptorIndex := 8, attributes := #[] }, { accessFlags := 9, nameIndex := 198, descriptorIndex := 335, attributes := #[] }, { accessFlags := 9, nameIndex := 201, descriptorIndex := 335, attributes := #[] }] 49 4 #[] #[{ accessFlags := 25, nameIndex := 354, descriptorIndex := 339, attributes := #[] }, { accessFlags := 25, nameIndex := 358, descriptorIndex := 339, attributes := #[] }, { accessFlags := 25, nameIndex := 361, descriptorIndex := 339, attributes := #[] }, { accessFlags := 26, nameIndex := 364, descriptorIndex := 339, attributes := #[] }, { accessFlags := 26, nameIndex := 365, descriptorIndex := 339, attributes := #[] }, { accessFlags := 26, nameIndex := 172, descriptorIndex := 173, attributes := #[] }, { accessFlags := 26, nameIndex := 176, descriptorIndex := 173, attributes := #[] }, { accessFlags := 8, nameIndex := 344, descriptorIndex := 339, attributes := #[] }, { accessFlags := 8, nameIndex := 338, descriptorIndex := 339, attributes := #[] }, { accessFlags := 4120, nameIndex := 245, descriptorIndex := 246, attributes := #[] }])
  fields := #[{ name := "E", type := .double, accessFlags := 25, slot := 0, constantValue := 0 }, { name := "PI", type := .double, accessFlags := 25, slot := 1, constantValue := 0 }, { name := "TAU", type := .double, accessFlags := 25, slot := 2, constantValue := 0 }, { name := "DEGREES_TO_RADIANS", type := .double, accessFlags := 26, slot := 3, constantValue := 0 }, { name := "RADIANS_TO_DEGREES", type := .double, accessFlags := 26, slot := 4, constantValue := 0 }, { name := "negativeZeroFloatBits", type := .long, accessFlags := 26, slot := 5, constantValue := 0 }, { name := "negativeZeroDoubleBits", type := .long, accessFlags := 26, slot := 6, constantValue := 0 }, { name := "twoToTheDoubleScaleUp", type := .double, accessFlags := 8, slot := 7, constantValue := 0 }, { name := "twoToTheDoubleScaleDown", type := .double, accessFlags := 8, slot := 8, constantValue := 0 }, { name := "$assertionsDisabled", type := .boolean, accessFlags := 4120, slot := 9, constantValue := 0 }]
  methods := #[k16m0, k16m1, k16m2]
  instanceTypes := #[]
  staticTypes := #[.double, .double, .double, .double, .double, .long, .long, .double, .double, .boolean]
  resolved := Array.replicate 460 none
  statics := none }

def pool17 : Array CpInfo := pool [(2, .class_ 4), (1, u "java/lang/Object"), (0, u "<init>"), (0, u "()V"), (7, .class_ 16), (1, u "java/util/Arrays"), (57, .class_ 76), (1, u "java/util/Arrays$NaturalOrder"), (32, u "()Ljava/lang/Object;"), (3, .class_ 115), (1, u "java/util/Arrays$LegacyMergeSort"), (1, u "Z"), (10, .nameAndType 129 109), (0, u "clone"), (9, u "copyOfRange"), (10, .methodref 151 152), (0, .class_ 153), (0, .nameAndType 154 155), (0, u "java/lang/System"), (0, u "arraycopy"), (0, u "(Ljava/lang/Object;ILjava/lang/Object;II)V"), (146, u "copyOf"), (1, .methodref 305 306), (0, .class_ 307), (0, .nameAndType 308 309), (0, u "java/lang/Math"), (0, u "min"), (0, u "(II)I"), (0, .methodref 311 128), (0, .class_ 312), (0, u "[B"), (26, .methodref 14 340), (0, .nameAndType 341 342), (0, u "copyOfRangeByte"), (0, u "([BII)[B"), (0, .methodref 14 344), (0, .nameAndType 345 346), (0, u "checkLength"), (0, u "(II)V"), (28, .class_ 376), (0, u "java/util/Arrays$ArrayList"), (68, u "$assertionsDisabled"), (269, u "MIN_ARRAY_SORT_GRAN"), (0, u "I"), (2, u "INSERTIONSORT_THRESHOLD"), (149, u "([BI)[B"), (105, .class_ 976), (0, u "java/util/Arrays$ArrayItr")] 52

def k17m0 : Method := { name := "<init>", desc := "()V", sig := { parameters := [], returnType := none }, accessFlags := 2, code := none }
def k17c1 : Code := { maxStack := 6, maxLocals := 3, code := jdk_65_method_121_code, exceptionTable := #[], attributes := #[] }
def k17m1 : Method := { name := "copyOf", desc := "([BI)[B", sig := { parameters := [(.array .byte), .int], returnType := some (.array .byte) }, accessFlags := 9, code := some k17c1 }
def k17c2 : Code := { maxStack := 4, maxLocals := 2, code := jdk_65_method_131_code, exceptionTable := #[], attributes := #[] }
def k17m2 : Method := { name := "checkLength", desc := "(II)V", sig := { parameters := [.int, .int], returnType := none }, accessFlags := 10, code := some k17c2 }
def k17c3 : Code := { maxStack := 3, maxLocals := 3, code := jdk_65_method_132_code, exceptionTable := #[], attributes := #[] }
def k17m3 : Method := { name := "copyOfRange", desc := "([BII)[B", sig := { parameters := [(.array .byte), .int, .int], returnType := some (.array .byte) }, accessFlags := 9, code := some k17c3 }
def k17c4 : Code := { maxStack := 6, maxLocals := 5, code := jdk_65_method_133_code, exceptionTable := #[], attributes := #[] }
def k17m4 : Method := { name := "copyOfRangeByte", desc := "([BII)[B", sig := { parameters := [(.array .byte), .int, .int], returnType := some (.array .byte) }, accessFlags := 10, code := some k17c4 }
/-- java/util/Arrays -/
def k17 : Class := { plain "java/util/Arrays" (some 0) with
  accessFlags := 49
  interfaces := #[]
  cf := some (fileOf pool17 14 #[.nestMembers #[975, 375, 113, 74]] #[{ accessFlags := 2, nameIndex := 5, descriptorIndex := 6, attributes := #[] }, { accessFlags := 9, nameIndex := 302, descriptorIndex := 869, attributes := #[] }, { accessFlags := 10, nameIndex := 345, descriptorIndex := 346, attributes := #[] }, { accessFlags := 9, nameIndex := 139, descriptorIndex := 342, attributes := #[] }, { accessFlags := 10, nameIndex := 341, descriptorIndex := 342, attributes := #[] }] 49 2 #[] #[{ accessFlags := 26, nameIndex := 715, descriptorIndex := 716, attributes := #[] }, { accessFlags := 26, nameIndex := 719, descriptorIndex := 716, attributes := #[] }, { accessFlags := 4120, nameIndex := 445, descriptorIndex := 117, attributes := #[] }])
  fields := #[{ name := "MIN_ARRAY_SORT_GRAN", type := .int, accessFlags := 26, slot := 0, constantValue := 0 }, { name := "INSERTIONSORT_THRESHOLD", type := .int, accessFlags := 26, slot := 1, constantValue := 0 }, { name := "$assertionsDisabled", type := .boolean, accessFlags := 4120, slot := 2, constantValue := 0 }]
  methods := #[k17m0, k17m1, k17m2, k17m3, k17m4]
  instanceTypes := #[]
  staticTypes := #[.int, .int, .boolean]
  resolved := Array.replicate 1029 none
  statics := none }

def pool18 : Array CpInfo := pool [(2, .class_ 4), (1, u "java/lang/Object"), (0, u "<init>"), (0, u "()V"), (1, .class_ 10), (1, u "java/lang/Number"), (2, .class_ 14), (0, u "java/io/Serializable"), (0, u "serialVersionUID"), (0, u "J")] 20

def k18m0 : Method := { name := "<init>", desc := "()V", sig := { parameters := [], returnType := none }, accessFlags := 1, code := none }
/-- java/lang/Number -/
def k18 : Class := { plain "java/lang/Number" (some 0) with
  accessFlags := 1057
  interfaces := #[2]
  cf := some (fileOf pool18 8 #[] #[{ accessFlags := 1, nameIndex := 5, descriptorIndex := 6, attributes := #[] }] 1057 2 #[13] #[{ accessFlags := 26, nameIndex := 15, descriptorIndex := 16, attributes := #[] }])
  fields := #[{ name := "serialVersionUID", type := .long, accessFlags := 26, slot := 0, constantValue := 0 }]
  methods := #[k18m0]
  instanceTypes := #[]
  staticTypes := #[.long]
  resolved := Array.replicate 37 none
  statics := none }

def pool19 : Array CpInfo := pool [(1, .class_ 2), (0, u "java/lang/Long"), (15, .class_ 20), (1, u "java/lang/Integer"), (32, .long 10), (47, u "(J)I"), (18, u "stringSize"), (2, u "getChars"), (0, u "(JI[B)I"), (4, .long 18446744071562067968), (1, .long 100), (1, .fieldref 18 134), (0, .nameAndType 135 136), (0, u "DigitOnes"), (0, u "[B"), (0, .fieldref 18 138), (0, .nameAndType 139 136), (0, u "DigitTens"), (0, .long 18446744073709551606), (94, .class_ 237), (1, u "java/lang/Long$LongCache"), (33, .class_ 272), (0, u "java/lang/Number"), (2, u "value"), (0, u "J"), (84, u "TYPE"), (0, u "Ljava/lang/Class;"), (0, .class_ 364), (0, u "java/lang/Comparable"), (0, .class_ 366), (0, u "java/lang/constant/Constable"), (0, .class_ 368), (0, u "java/lang/constant/ConstantDesc"), (0, u "MIN_VALUE"), (1, u "MAX_VALUE"), (4, u "SIZE"), (0, u "I"), (1, u "BYTES"), (1, u "serialVersionUID")] 142

def k19c0 : Code := { maxStack := 4, maxLocals := 11, code := jdk_35_method_14_code, exceptionTable := #[], attributes := #[] }
def k19m0 : Method := { name := "getChars", desc := "(JI[B)I", sig := { parameters := [.long, .int, (.array .byte)], returnType := some .int }, accessFlags := 8, code := some k19c0 }
def k19c1 : Code := { maxStack := 4, maxLocals := 6, code := jdk_35_method_15_code, exceptionTable := #[], attributes := #[] }
def k19m1 : Method := { name := "stringSize", desc := "(J)I", sig := { parameters := [.long], returnType := some .int }, accessFlags := 8, code := some k19c1 }
/-- java/lang/Long -/
def k19 : Class := { plain "java/lang/Long" (some 18) with
  accessFlags := 49
  interfaces := #[3, 5, 6]
  cf := some (fileOf pool19 1 #[.nestMembers #[235]] #[{ accessFlags := 8, nameIndex := 123, descriptorIndex := 124, attributes := #[] }, { accessFlags := 8, nameIndex := 120, descriptorIndex := 101, attributes := #[] }] 49 271 #[363, 365, 367] #[{ accessFlags := 25, nameIndex := 369, descriptorIndex := 276, attributes := #[] }, { accessFlags := 25, nameIndex := 371, descriptorIndex := 276, attributes := #[] }, { accessFlags := 25, nameIndex := 361, descriptorIndex := 362, attributes := #[] }, { accessFlags := 18, nameIndex := 275, descriptorIndex := 276, attributes := #[] }, { accessFlags := 25, nameIndex := 376, descriptorIndex := 377, attributes := #[] }, { accessFlags := 25, nameIndex := 379, descriptorIndex := 377, attributes := #[] }, { accessFlags := 26, nameIndex := 381, descriptorIndex := 276, attributes := #[] }])
  fields := #[{ name := "MIN_VALUE", type := .long, accessFlags := 25, slot := 0, constantValue := 0 }, { name := "MAX_VALUE", type := .long, accessFlags := 25, slot := 1, constantValue := 0 }, { name := "TYPE", type := (.object "java/lang/Class"), accessFlags := 25, slot := 2, constantValue := 0 }, { name := "value", type := .long, accessFlags := 18, slot := 0, constantValue := 0 }, { name := "SIZE", type := .int, accessFlags := 25, slot := 3, constantValue := 0 }, { name := "BYTES", type := .int, accessFlags := 25, slot := 4, constantValue := 0 }, { name := "serialVersionUID", type := .long, accessFlags := 26, slot := 5, constantValue := 0 }]
  methods := #[k19m0, k19m1]
  instanceTypes := #[.long]
  staticTypes := #[.long, .long, (.object "java/lang/Class"), .int, .int, .long]
  resolved := Array.replicate 524 none
  statics := none }

def pool20 : Array CpInfo := pool [(1, .class_ 2), (0, u "java/lang/Integer"), (16, u "digits"), (0, u "[C"), (64, u "DigitOnes"), (0, u "[B"), (2, u "DigitTens"), (99, .class_ 190), (0, u "java/lang/Integer$IntegerCache"), (3, u "I"), (8, .class_ 204), (0, u "java/lang/Number"), (2, u "value"), (94, u "TYPE"), (0, u "Ljava/lang/Class;"), (0, .class_ 305), (0, u "java/lang/Comparable"), (0, .class_ 307), (0, u "java/lang/constant/Constable"), (0, .class_ 309), (0, u "java/lang/constant/ConstantDesc"), (0, u "MIN_VALUE"), (1, u "MAX_VALUE"), (3, u "SIZE"), (1, u "BYTES"), (1, u "serialVersionUID"), (0, u "J")] 131

/-- java/lang/Integer -/
def k20 : Class := { plain "java/lang/Integer" (some 18) with
  accessFlags := 49
  interfaces := #[3, 5, 6]
  cf := some (fileOf pool20 1 #[.nestMembers #[189]] #[] 49 203 #[304, 306, 308] #[{ accessFlags := 25, nameIndex := 310, descriptorIndex := 194, attributes := #[] }, { accessFlags := 25, nameIndex := 312, descriptorIndex := 194, attributes := #[] }, { accessFlags := 25, nameIndex := 302, descriptorIndex := 303, attributes := #[] }, { accessFlags := 24, nameIndex := 19, descriptorIndex := 20, attributes := #[] }, { accessFlags := 24, nameIndex := 89, descriptorIndex := 86, attributes := #[] }, { accessFlags := 24, nameIndex := 85, descriptorIndex := 86, attributes := #[] }, { accessFlags := 18, nameIndex := 207, descriptorIndex := 194, attributes := #[] }, { accessFlags := 25, nameIndex := 316, descriptorIndex := 194, attributes := #[] }, { accessFlags := 25, nameIndex := 318, descriptorIndex := 194, attributes := #[] }, { accessFlags := 26, nameIndex := 320, descriptorIndex := 321, attributes := #[] }])
  fields := #[{ name := "MIN_VALUE", type := .int, accessFlags := 25, slot := 0, constantValue := 0 }, { name := "MAX_VALUE", type := .int, accessFlags := 25, slot := 1, constantValue := 0 }, { name := "TYPE", type := (.object "java/lang/Class"), accessFlags := 25, slot := 2, constantValue := 0 }, { name := "digits", type := (.array .char), accessFlags := 24, slot := 3, constantValue := 0 }, { name := "DigitTens", type := (.array .byte), accessFlags := 24, slot := 4, constantValue := 0 }, { name := "DigitOnes", type := (.array .byte), accessFlags := 24, slot := 5, constantValue := 0 }, { name := "value", type := .int, accessFlags := 18, slot := 0, constantValue := 0 }, { name := "SIZE", type := .int, accessFlags := 25, slot := 6, constantValue := 0 }, { name := "BYTES", type := .int, accessFlags := 25, slot := 7, constantValue := 0 }, { name := "serialVersionUID", type := .long, accessFlags := 26, slot := 8, constantValue := 0 }]
  methods := #[]
  instanceTypes := #[.int]
  staticTypes := #[.int, .int, (.object "java/lang/Class"), (.array .char), (.array .byte), (.array .byte), .int, .int, .long]
  resolved := Array.replicate 453 none
  statics := some 1 }

def pool21 : Array CpInfo := pool [(1, .class_ 2), (0, u "java/lang/String"), (1, .class_ 6), (1, u "java/lang/Object"), (0, u "<init>"), (0, u "()V"), (0, .methodref 1 10), (0, .nameAndType 11 12), (0, u "checkIndex"), (0, u "(II)V"), (1, .class_ 16), (1, u "java/lang/StringLatin1"), (36, u "([BI)C"), (67, u "$assertionsDisabled"), (0, u "Z"), (98, .class_ 223), (1, u "java/lang/StringLatin1$LinesSpliterator"), (28, u "charAt"), (137, .class_ 391), (0, u "java/lang/StringLatin1$CharsSpliterator")] 3

def k21m0 : Method := { name := "<init>", desc := "()V", sig := { parameters := [], returnType := none }, accessFlags := 0, code := none }
def k21c1 : Code := { maxStack := 2, maxLocals := 2, code := jdk_43_method_2_code, exceptionTable := #[], attributes := #[] }
def k21m1 : Method := { name := "charAt", desc := "([BI)C", sig := { parameters := [(.array .byte), .int], returnType := some .char }, accessFlags := 9, code := some k21c1 }
/-- java/lang/StringLatin1 -/
def k21 : Class := { plain "java/lang/StringLatin1" (some 0) with
  accessFlags := 48
  interfaces := #[]
  cf := some (fileOf pool21 14 #[.nestMembers #[390, 221]] #[{ accessFlags := 0, nameIndex := 7, descriptorIndex := 8, attributes := #[] }, { accessFlags := 9, nameIndex := 252, descriptorIndex := 53, attributes := #[] }] 48 4 #[] #[{ accessFlags := 4120, nameIndex := 121, descriptorIndex := 122, attributes := #[] }])
  fields := #[{ name := "$assertionsDisabled", type := .boolean, accessFlags := 4120, slot := 0, constantValue := 0 }]
  methods := #[k21m0, k21m1]
  instanceTypes := #[]
  staticTypes := #[.boolean]
  resolved := Array.replicate 395 none
  statics := none }

def pool22 : Array CpInfo := pool [(2, .class_ 4), (1, u "java/lang/Object"), (0, u "<init>"), (0, u "()V"), (17, .class_ 26), (1, u "jdk/internal/util/Preconditions"), (6, u "checkIndex"), (21, .class_ 56), (0, u "jdk/internal/util/Preconditions$4"), (57, .class_ 115), (0, u "jdk/internal/util/Preconditions$1"), (7, u "SIOOBE_FORMATTER"), (0, u "Ljava/util/function/BiFunction;"), (0, .class_ 126), (0, u "jdk/internal/util/Preconditions$2"), (3, u "AIOOBE_FORMATTER"), (0, .class_ 132), (0, u "jdk/internal/util/Preconditions$3"), (3, u "IOOBE_FORMATTER"), (41, u "(IILjava/util/function/BiFunction;)I")] 15

def k22m0 : Method := { name := "<init>", desc := "()V", sig := { parameters := [], returnType := none }, accessFlags := 1, code := none }
def k22c1 : Code := { maxStack := 3, maxLocals := 3, code := jdk_41_method_11_code, exceptionTable := #[], attributes := #[] }
def k22m1 : Method := { name := "checkIndex", desc := "(IILjava/util/function/BiFunction;)I", sig := { parameters := [.int, .int, (.object "java/util/function/BiFunction")], returnType := some .int }, accessFlags := 9, code := some k22c1 }
/-- jdk/internal/util/Preconditions -/
def k22 : Class := { plain "jdk/internal/util/Preconditions" (some 0) with
  accessFlags := 33
  interfaces := #[]
  cf := some (fileOf pool22 24 #[.nestMembers #[55, 131, 125, 114]] #[{ accessFlags := 1, nameIndex := 5, descriptorIndex := 6, attributes := #[] }, { accessFlags := 9, nameIndex := 33, descriptorIndex := 178, attributes := #[] }] 33 2 #[] #[{ accessFlags := 25, nameIndex := 123, descriptorIndex := 124, attributes := #[] }, { accessFlags := 25, nameIndex := 130, descriptorIndex := 124, attributes := #[] }, { accessFlags := 25, nameIndex := 136, descriptorIndex := 124, attributes := #[] }])
  fields := #[{ name := "SIOOBE_FORMATTER", type := (.object "java/util/function/BiFunction"), accessFlags := 25, slot := 0, constantValue := 0 }, { name := "AIOOBE_FORMATTER", type := (.object "java/util/function/BiFunction"), accessFlags := 25, slot := 1, constantValue := 0 }, { name := "IOOBE_FORMATTER", type := (.object "java/util/function/BiFunction"), accessFlags := 25, slot := 2, constantValue := 0 }]
  methods := #[k22m0, k22m1]
  instanceTypes := #[]
  staticTypes := #[(.object "java/util/function/BiFunction"), (.object "java/util/function/BiFunction"), (.object "java/util/function/BiFunction")]
  resolved := Array.replicate 194 none
  statics := some 2 }

def pool23 : Array CpInfo := pool [(1, .class_ 2), (0, u "java/lang/Cloneable"), (0, .class_ 4), (0, u "java/lang/Object")] 2

/-- java/lang/Cloneable -/
def k23 : Class := { plain "java/lang/Cloneable" (some 0) with
  accessFlags := 1537
  interfaces := #[]
  cf := some (fileOf pool23 1 #[] #[] 1537 3 #[] #[])
  fields := #[]
  methods := #[]
  instanceTypes := #[]
  staticTypes := #[]
  resolved := Array.replicate 7 none
  statics := none }

/-- the primitive byte -/
def k24 : Class := { plain "byte" none with kind := .primitive 'B', accessFlags := 0x411 }
/-- [B -/
def k25 : Class := { plain "[B" (some 0) with kind := .array 24 .byte, interfaces := #[23, 2], accessFlags := 1041 }

/-- the primitive char -/
def k26 : Class := { plain "char" none with kind := .primitive 'C', accessFlags := 0x411 }
/-- [C -/
def k27 : Class := { plain "[C" (some 0) with kind := .array 26 .char, interfaces := #[23, 2], accessFlags := 1041 }

/-- the primitive int -/
def k28 : Class := { plain "int" none with kind := .primitive 'I', accessFlags := 0x411 }
/-- [I -/
def k29 : Class := { plain "[I" (some 0) with kind := .array 28 .int, interfaces := #[23, 2], accessFlags := 1041 }

/-- the primitive long -/
def k30 : Class := { plain "long" none with kind := .primitive 'J', accessFlags := 0x411 }
/-- [J -/
def k31 : Class := { plain "[J" (some 0) with kind := .array 30 .long, interfaces := #[23, 2], accessFlags := 1041 }

def heap : Heap := #[{ cls := 7, slots := #[.long 0, .int 1, .null, .int 0, .null, .int 0, .int 0], vm := .statics 7 },
  { cls := 20, slots := #[.int 0, .int 0, .null, .null, .ref 4, .ref 3, .int 0, .int 0, .long 0], vm := .statics 20 },
  { cls := 22, slots := #[.null, .null, .null], vm := .statics 22 },
  { cls := 25, slots := #[.int 48, .int 49, .int 50, .int 51, .int 52, .int 53, .int 54, .int 55, .int 56, .int 57, .int 48, .int 49, .int 50, .int 51, .int 52, .int 53, .int 54, .int 55, .int 56, .int 57, .int 48, .int 49, .int 50, .int 51, .int 52, .int 53, .int 54, .int 55, .int 56, .int 57, .int 48, .int 49, .int 50, .int 51, .int 52, .int 53, .int 54, .int 55, .int 56, .int 57, .int 48, .int 49, .int 50, .int 51, .int 52, .int 53, .int 54, .int 55, .int 56, .int 57, .int 48, .int 49, .int 50, .int 51, .int 52, .int 53, .int 54, .int 55, .int 56, .int 57, .int 48, .int 49, .int 50, .int 51, .int 52, .int 53, .int 54, .int 55, .int 56, .int 57, .int 48, .int 49, .int 50, .int 51, .int 52, .int 53, .int 54, .int 55, .int 56, .int 57, .int 48, .int 49, .int 50, .int 51, .int 52, .int 53, .int 54, .int 55, .int 56, .int 57, .int 48, .int 49, .int 50, .int 51, .int 52, .int 53, .int 54, .int 55, .int 56, .int 57], vm := .none },
  { cls := 25, slots := #[.int 48, .int 48, .int 48, .int 48, .int 48, .int 48, .int 48, .int 48, .int 48, .int 48, .int 49, .int 49, .int 49, .int 49, .int 49, .int 49, .int 49, .int 49, .int 49, .int 49, .int 50, .int 50, .int 50, .int 50, .int 50, .int 50, .int 50, .int 50, .int 50, .int 50, .int 51, .int 51, .int 51, .int 51, .int 51, .int 51, .int 51, .int 51, .int 51, .int 51, .int 52, .int 52, .int 52, .int 52, .int 52, .int 52, .int 52, .int 52, .int 52, .int 52, .int 53, .int 53, .int 53, .int 53, .int 53, .int 53, .int 53, .int 53, .int 53, .int 53, .int 54, .int 54, .int 54, .int 54, .int 54, .int 54, .int 54, .int 54, .int 54, .int 54, .int 55, .int 55, .int 55, .int 55, .int 55, .int 55, .int 55, .int 55, .int 55, .int 55, .int 56, .int 56, .int 56, .int 56, .int 56, .int 56, .int 56, .int 56, .int 56, .int 56, .int 57, .int 57, .int 57, .int 57, .int 57, .int 57, .int 57, .int 57, .int 57, .int 57], vm := .none }]
def classes : Array Class := #[k0, k1, k2, k3, k4, k5, k6, k7, k8, k9, k10, k11, k12, k13, k14, k15, k16, k17, k18, k19, k20, k21, k22, k23, k24, k25, k26, k27, k28, k29, k30, k31]
def interned : List (Array UInt16 × Addr) := []
def slotsUsed : Nat := 219
def theMethod : MethodId := ⟨1, 1⟩
def args0 : Array Value := #[.int 5, .int 5, .int 5, .long 7]
def aboutOver (below : List Frame) : State where
  vm := { classes := classes, interned := interned.toArray }
  heap := heap
  slotsUsed := slotsUsed
  threads := #[{ frames := .invoking theMethod args0 :: below }]
def below0 : List Frame := [.native { method := ⟨0, 0⟩, args := #[] }]
def about1 : State := aboutOver below0
def p0 : Program := .bare "" "" ""
def e0 : Env := launch0.env 0 0 0
theorem w_frames : about1.frames = Frame.invoking theMethod args0 :: below0 := rfl
set_option maxRecDepth 65536 in
theorem w_args : argsFit about1.vm theMethod args0 = true := by decide +kernel
set_option maxRecDepth 65536 in
theorem w_heap : heapFits about1 = true := by decide +kernel
set_option maxRecDepth 65536 in
theorem w_runnable : about1.curStatus? = some .runnable := by decide +kernel
set_option maxRecDepth 65536 in
theorem w_alone : about1.alone = true := by decide +kernel
set_option maxRecDepth 65536 in
theorem w_named : about1.methodNamed? x = some theMethod := by decide +kernel
set_option maxRecDepth 65536 in
theorem w_hears : about1.hears theMethod below0 = true := by decide +kernel
set_option maxRecDepth 65536 in
theorem w_ripe : about1.ripe theMethod args0 below0 = true := by decide +kernel
theorem w_running : about1.status = .running := rfl
set_option maxRecDepth 65536 in
theorem w_room : about1.hasRoom e0.platform room_1 = true :=
  launch0.hasRoom_least _ room_1 (by decide +kernel) (by decide +kernel) (by decide +kernel) (by decide +kernel) (by decide +kernel) (by decide +kernel)
theorem allAtoms_all (ts : List Jvm.Cond) (a : Array Jvm.Value) (st : Jvm.State) : (allAtoms ts).before a st = ts.all (fun c => c.before a st) := by
  induction ts with
  | nil => rfl
  | cons c t ih =>
    show (Jvm.Cond.and c (allAtoms t)).before a st = _
    rw [Jvm.Cond.before_and, ih, List.all_cons]
def words1 : List Jvm.Cond := Jvm.Cond.code x code maxLocals ret :: tables_1
/-- a 'code' word, met by the world's own term for the bytes: nothing is compared byte by byte -/
theorem code_word {y : MethodName} {bytes : ByteArray} {mx : Nat} {rt : Option FieldType} {a : Array Value} {s : State} {m : MethodId} {meth : Method} {c : Code} (h1 : s.methodNamed? y = some m) (h2 : s.vm.method? m = some meth) (h3 : meth.code = some c) (h4 : c.code = bytes)
    (h5 : (c.maxLocals == mx && c.exceptionTable.isEmpty && decide (c.maxStack ≤ mostOperands) && decide (meth.sig.returnType = rt) && !meth.locks && decide (parseMethodDescriptor y.desc = some meth.sig)) = true) : (Jvm.Cond.code y bytes mx rt).before a s = true := by
  simp only [Bool.and_eq_true, beq_iff_eq, Bool.not_eq_true', decide_eq_true_eq] at h5
  obtain ⟨⟨⟨⟨⟨g1, g2⟩, g3⟩, g4⟩, g5⟩, g6⟩ := h5
  simp [Cond.before, Cond.holds, Cond.value, h1, h2, h3, h4, g1, g2, g3, g4, g5, g6]
def isCode : Jvm.Cond → Bool
  | .code _ _ _ _ => true
  | _ => false
theorem all_split {L : List Jvm.Cond} {P : Jvm.Cond → Bool} (h1 : L.all (fun c => isCode c || P c) = true) (h2 : ∀ c ∈ L.filter isCode, P c = true) : L.all P = true := by
  refine List.all_eq_true.mpr fun c hc => ?_
  have h := List.all_eq_true.mp h1 c hc
  rcases Bool.eq_false_or_eq_true (isCode c) with hi | hi
  · exact h2 c (List.mem_filter.mpr ⟨hc, hi⟩)
  · simpa [hi] using h
set_option maxRecDepth 65536 in
theorem w_c0 : (Jvm.Cond.code x code maxLocals ret).before args0 about1 = true := code_word (m := ⟨1, 1⟩) (meth := k1m1) (c := k1c1) (by decide +kernel) rfl rfl rfl (by decide +kernel)
set_option maxRecDepth 65536 in
theorem w_c1 : (Jvm.Cond.code ({ cls := "java/lang/String", name := "<init>", desc := "([C)V" } : Jvm.MethodName) jdk_42_method_3_code (2 : Nat) (Option.none : Option Jvm.ClassFile.FieldType)).before args0 about1 = true := code_word (m := ⟨7, 1⟩) (meth := k7m1) (c := k7c1) (by decide +kernel) rfl rfl rfl (by decide +kernel)
set_option maxRecDepth 65536 in
theorem w_c2 : (Jvm.Cond.code ({ cls := "java/lang/String", name := "<init>", desc := "([CIILjava/lang/Void;)V" } : Jvm.MethodName) jdk_42_method_149_code (6 : Nat) (Option.none : Option Jvm.ClassFile.FieldType)).before args0 about1 = true := code_word (m := ⟨7, 6⟩) (meth := k7m6) (c := k7c6) (by decide +kernel) rfl rfl rfl (by decide +kernel)
set_option maxRecDepth 65536 in
theorem w_c3 : (Jvm.Cond.code ({ cls := "java/lang/Object", name := "<init>", desc := "()V" } : Jvm.MethodName) object_method_1_code (1 : Nat) (Option.none : Option Jvm.ClassFile.FieldType)).before args0 about1 = true := code_word (m := ⟨0, 0⟩) (meth := k0m0) (c := k0c0) (by decide +kernel) rfl rfl rfl (by decide +kernel)
set_option maxRecDepth 65536 in
theorem w_c4 : (Jvm.Cond.code ({ cls := "java/lang/StringUTF16", name := "compress", desc := "([CII)[B" } : Jvm.MethodName) jdk_52_method_16_code (6 : Nat) (Option.some (Jvm.ClassFile.FieldType.array Jvm.ClassFile.FieldType.byte))).before args0 about1 = true := code_word (m := ⟨8, 2⟩) (meth := k8m2) (c := k8c2) (by decide +kernel) rfl rfl rfl (by decide +kernel)
set_option maxRecDepth 65536 in
theorem w_c5 : (Jvm.Cond.code ({ cls := "java/lang/StringUTF16", name := "compress", desc := "([CI[BII)I" } : Jvm.MethodName) jdk_52_method_21_code (7 : Nat) (Option.some Jvm.ClassFile.FieldType.int)).before args0 about1 = true := code_word (m := ⟨8, 3⟩) (meth := k8m3) (c := k8c3) (by decide +kernel) rfl rfl rfl (by decide +kernel)
set_option maxRecDepth 65536 in
theorem w_c6 : (Jvm.Cond.code ({ cls := "java/lang/StringUTF16", name := "coderFromArrayLen", desc := "([BI)B" } : Jvm.MethodName) jdk_52_method_15_code (2 : Nat) (Option.some Jvm.ClassFile.FieldType.byte)).before args0 about1 = true := code_word (m := ⟨8, 1⟩) (meth := k8m1) (c := k8c1) (by decide +kernel) rfl rfl rfl (by decide +kernel)
set_option maxRecDepth 65536 in
theorem w_c7 : (Jvm.Cond.code ({ cls := "com/example/uketsuke/uketsuke/core/token/PageToken", name := "<init>", desc := "(Ljava/lang/String;Ljava/lang/String;J)V" } : Jvm.MethodName) prog_55_method_1_code (5 : Nat) (Option.none : Option Jvm.ClassFile.FieldType)).before args0 about1 = true := code_word (m := ⟨10, 0⟩) (meth := k10m0) (c := k10c0) (by decide +kernel) rfl rfl rfl (by decide +kernel)
set_option maxRecDepth 65536 in
theorem w_c8 : (Jvm.Cond.code ({ cls := "java/lang/Record", name := "<init>", desc := "()V" } : Jvm.MethodName) jdk_30_method_1_code (1 : Nat) (Option.none : Option Jvm.ClassFile.FieldType)).before args0 about1 = true := code_word (m := ⟨9, 0⟩) (meth := k9m0) (c := k9c0) (by decide +kernel) rfl rfl rfl (by decide +kernel)
set_option maxRecDepth 65536 in
theorem w_c9 : (Jvm.Cond.code ({ cls := "com/example/uketsuke/uketsuke/core/token/PageToken", name := "toString", desc := "()Ljava/lang/String;" } : Jvm.MethodName) prog_55_method_2_code (1 : Nat) (Option.some (Jvm.ClassFile.FieldType.object "java/lang/String"))).before args0 about1 = true := code_word (m := ⟨10, 1⟩) (meth := k10m1) (c := k10c1) (by decide +kernel) rfl rfl rfl (by decide +kernel)
set_option maxRecDepth 65536 in
theorem w_c10 : (Jvm.Cond.code ({ cls := "java/lang/StringBuilder", name := "<init>", desc := "()V" } : Jvm.MethodName) jdk_67_method_1_code (1 : Nat) (Option.none : Option Jvm.ClassFile.FieldType)).before args0 about1 = true := code_word (m := ⟨13, 0⟩) (meth := k13m0) (c := k13c0) (by decide +kernel) rfl rfl rfl (by decide +kernel)
set_option maxRecDepth 65536 in
theorem w_c11 : (Jvm.Cond.code ({ cls := "java/lang/AbstractStringBuilder", name := "<init>", desc := "(I)V" } : Jvm.MethodName) jdk_68_method_2_code (2 : Nat) (Option.none : Option Jvm.ClassFile.FieldType)).before args0 about1 = true := code_word (m := ⟨12, 1⟩) (meth := k12m1) (c := k12c1) (by decide +kernel) rfl rfl rfl (by decide +kernel)
set_option maxRecDepth 65536 in
theorem w_c12 : (Jvm.Cond.code ({ cls := "java/lang/StringBuilder", name := "append", desc := "(Ljava/lang/String;)Ljava/lang/StringBuilder;" } : Jvm.MethodName) jdk_67_method_7_code (2 : Nat) (Option.some (Jvm.ClassFile.FieldType.object "java/lang/StringBuilder"))).before args0 about1 = true := code_word (m := ⟨13, 1⟩) (meth := k13m1) (c := k13c1) (by decide +kernel) rfl rfl rfl (by decide +kernel)
set_option maxRecDepth 65536 in
theorem w_c13 : (Jvm.Cond.code ({ cls := "java/lang/AbstractStringBuilder", name := "append", desc := "(Ljava/lang/String;)Ljava/lang/AbstractStringBuilder;" } : Jvm.MethodName) jdk_68_method_22_code (3 : Nat) (Option.some (Jvm.ClassFile.FieldType.object "java/lang/AbstractStringBuilder"))).before args0 about1 = true := code_word (m := ⟨12, 5⟩) (meth := k12m5) (c := k12c5) (by decide +kernel) rfl rfl rfl (by decide +kernel)
set_option maxRecDepth 65536 in
theorem w_c14 : (Jvm.Cond.code ({ cls := "java/lang/String", name := "length", desc := "()I" } : Jvm.MethodName) jdk_42_method_54_code (1 : Nat) (Option.some Jvm.ClassFile.FieldType.int)).before args0 about1 = true := code_word (m := ⟨7, 3⟩) (meth := k7m3) (c := k7c3) (by decide +kernel) rfl rfl rfl (by decide +kernel)
set_option maxRecDepth 65536 in
theorem w_c15 : (Jvm.Cond.code ({ cls := "java/lang/String", name := "coder", desc := "()B" } : Jvm.MethodName) jdk_42_method_152_code (1 : Nat) (Option.some Jvm.ClassFile.FieldType.byte)).before args0 about1 = true := code_word (m := ⟨7, 8⟩) (meth := k7m8) (c := k7c8) (by decide +kernel) rfl rfl rfl (by decide +kernel)
set_option maxRecDepth 65536 in
theorem w_c16 : (Jvm.Cond.code ({ cls := "java/lang/AbstractStringBuilder", name := "ensureCapacityInternal", desc := "(I)V" } : Jvm.MethodName) jdk_68_method_9_code (3 : Nat) (Option.none : Option Jvm.ClassFile.FieldType)).before args0 about1 = true := code_word (m := ⟨12, 3⟩) (meth := k12m3) (c := k12c3) (by decide +kernel) rfl rfl rfl (by decide +kernel)
set_option maxRecDepth 65536 in
theorem w_c17 : (Jvm.Cond.code ({ cls := "java/lang/AbstractStringBuilder", name := "putStringAt", desc := "(ILjava/lang/String;)V" } : Jvm.MethodName) jdk_68_method_73_code (3 : Nat) (Option.none : Option Jvm.ClassFile.FieldType)).before args0 about1 = true := code_word (m := ⟨12, 10⟩) (meth := k12m10) (c := k12c10) (by decide +kernel) rfl rfl rfl (by decide +kernel)
set_option maxRecDepth 65536 in
theorem w_c18 : (Jvm.Cond.code ({ cls := "java/lang/AbstractStringBuilder", name := "inflateIfNeededFor", desc := "(Ljava/lang/String;)V" } : Jvm.MethodName) jdk_68_method_71_code (2 : Nat) (Option.none : Option Jvm.ClassFile.FieldType)).before args0 about1 = true := code_word (m := ⟨12, 9⟩) (meth := k12m9) (c := k12c9) (by decide +kernel) rfl rfl rfl (by decide +kernel)
set_option maxRecDepth 65536 in
theorem w_c19 : (Jvm.Cond.code ({ cls := "java/lang/String", name := "getBytes", desc := "([BIB)V" } : Jvm.MethodName) jdk_42_method_147_code (4 : Nat) (Option.none : Option Jvm.ClassFile.FieldType)).before args0 about1 = true := code_word (m := ⟨7, 5⟩) (meth := k7m5) (c := k7c5) (by decide +kernel) rfl rfl rfl (by decide +kernel)
set_option maxRecDepth 65536 in
theorem w_c20 : (Jvm.Cond.code ({ cls := "java/lang/AbstractStringBuilder", name := "newCapacity", desc := "(I)I" } : Jvm.MethodName) jdk_68_method_10_code (6 : Nat) (Option.some Jvm.ClassFile.FieldType.int)).before args0 about1 = true := code_word (m := ⟨12, 4⟩) (meth := k12m4) (c := k12c4) (by decide +kernel) rfl rfl rfl (by decide +kernel)
set_option maxRecDepth 65536 in
theorem w_c21 : (Jvm.Cond.code ({ cls := "jdk/internal/util/ArraysSupport", name := "newLength", desc := "(III)I" } : Jvm.MethodName) jdk_48_method_27_code (4 : Nat) (Option.some Jvm.ClassFile.FieldType.int)).before args0 about1 = true := code_word (m := ⟨15, 1⟩) (meth := k15m1) (c := k15c1) (by decide +kernel) rfl rfl rfl (by decide +kernel)
set_option maxRecDepth 65536 in
theorem w_c22 : (Jvm.Cond.code ({ cls := "java/lang/Math", name := "max", desc := "(II)I" } : Jvm.MethodName) jdk_29_method_65_code (2 : Nat) (Option.some Jvm.ClassFile.FieldType.int)).before args0 about1 = true := code_word (m := ⟨16, 1⟩) (meth := k16m1) (c := k16c1) (by decide +kernel) rfl rfl rfl (by decide +kernel)
set_option maxRecDepth 65536 in
theorem w_c23 : (Jvm.Cond.code ({ cls := "java/util/Arrays", name := "copyOf", desc := "([BI)[B" } : Jvm.MethodName) jdk_65_method_121_code (3 : Nat) (Option.some (Jvm.ClassFile.FieldType.array Jvm.ClassFile.FieldType.byte))).before args0 about1 = true := code_word (m := ⟨17, 1⟩) (meth := k17m1) (c := k17c1) (by decide +kernel) rfl rfl rfl (by decide +kernel)
set_option maxRecDepth 65536 in
theorem w_c24 : (Jvm.Cond.code ({ cls := "java/lang/Math", name := "min", desc := "(II)I" } : Jvm.MethodName) jdk_29_method_69_code (2 : Nat) (Option.some Jvm.ClassFile.FieldType.int)).before args0 about1 = true := code_word (m := ⟨16, 2⟩) (meth := k16m2) (c := k16c2) (by decide +kernel) rfl rfl rfl (by decide +kernel)
set_option maxRecDepth 65536 in
theorem w_c25 : (Jvm.Cond.code ({ cls := "java/lang/StringBuilder", name := "append", desc := "(J)Ljava/lang/StringBuilder;" } : Jvm.MethodName) jdk_67_method_16_code (3 : Nat) (Option.some (Jvm.ClassFile.FieldType.object "java/lang/StringBuilder"))).before args0 about1 = true := code_word (m := ⟨13, 2⟩) (meth := k13m2) (c := k13c2) (by decide +kernel) rfl rfl rfl (by decide +kernel)
set_option maxRecDepth 65536 in
theorem w_c26 : (Jvm.Cond.code ({ cls := "java/lang/AbstractStringBuilder", name := "append", desc := "(J)Ljava/lang/AbstractStringBuilder;" } : Jvm.MethodName) jdk_68_method_33_code (5 : Nat) (Option.some (Jvm.ClassFile.FieldType.object "java/lang/AbstractStringBuilder"))).before args0 about1 = true := code_word (m := ⟨12, 6⟩) (meth := k12m6) (c := k12c6) (by decide +kernel) rfl rfl rfl (by decide +kernel)
set_option maxRecDepth 65536 in
theorem w_c27 : (Jvm.Cond.code ({ cls := "java/lang/Long", name := "stringSize", desc := "(J)I" } : Jvm.MethodName) jdk_35_method_15_code (6 : Nat) (Option.some Jvm.ClassFile.FieldType.int)).before args0 about1 = true := code_word (m := ⟨19, 1⟩) (meth := k19m1) (c := k19c1) (by decide +kernel) rfl rfl rfl (by decide +kernel)
set_option maxRecDepth 65536 in
theorem w_c28 : (Jvm.Cond.code ({ cls := "java/lang/AbstractStringBuilder", name := "isLatin1", desc := "()Z" } : Jvm.MethodName) jdk_68_method_68_code (1 : Nat) (Option.some Jvm.ClassFile.FieldType.boolean)).before args0 about1 = true := code_word (m := ⟨12, 8⟩) (meth := k12m8) (c := k12c8) (by decide +kernel) rfl rfl rfl (by decide +kernel)
set_option maxRecDepth 65536 in
theorem w_c29 : (Jvm.Cond.code ({ cls := "java/lang/Long", name := "getChars", desc := "(JI[B)I" } : Jvm.MethodName) jdk_35_method_14_code (11 : Nat) (Option.some Jvm.ClassFile.FieldType.int)).before args0 about1 = true := code_word (m := ⟨19, 0⟩) (meth := k19m0) (c := k19c0) (by decide +kernel) rfl rfl rfl (by decide +kernel)
set_option maxRecDepth 65536 in
theorem w_c30 : (Jvm.Cond.code ({ cls := "java/lang/StringBuilder", name := "toString", desc := "()Ljava/lang/String;" } : Jvm.MethodName) jdk_67_method_42_code (1 : Nat) (Option.some (Jvm.ClassFile.FieldType.object "java/lang/String"))).before args0 about1 = true := code_word (m := ⟨13, 3⟩) (meth := k13m3) (c := k13c3) (by decide +kernel) rfl rfl rfl (by decide +kernel)
set_option maxRecDepth 65536 in
theorem w_c31 : (Jvm.Cond.code ({ cls := "java/lang/String", name := "<init>", desc := "(Ljava/lang/StringBuilder;)V" } : Jvm.MethodName) jdk_42_method_53_code (2 : Nat) (Option.none : Option Jvm.ClassFile.FieldType)).before args0 about1 = true := code_word (m := ⟨7, 2⟩) (meth := k7m2) (c := k7c2) (by decide +kernel) rfl rfl rfl (by decide +kernel)
set_option maxRecDepth 65536 in
theorem w_c32 : (Jvm.Cond.code ({ cls := "java/lang/String", name := "<init>", desc := "(Ljava/lang/AbstractStringBuilder;Ljava/lang/Void;)V" } : Jvm.MethodName) jdk_42_method_150_code (5 : Nat) (Option.none : Option Jvm.ClassFile.FieldType)).before args0 about1 = true := code_word (m := ⟨7, 7⟩) (meth := k7m7) (c := k7c7) (by decide +kernel) rfl rfl rfl (by decide +kernel)
set_option maxRecDepth 65536 in
theorem w_c33 : (Jvm.Cond.code ({ cls := "java/lang/AbstractStringBuilder", name := "getValue", desc := "()[B" } : Jvm.MethodName) jdk_68_method_64_code (1 : Nat) (Option.some (Jvm.ClassFile.FieldType.array Jvm.ClassFile.FieldType.byte))).before args0 about1 = true := code_word (m := ⟨12, 7⟩) (meth := k12m7) (c := k12c7) (by decide +kernel) rfl rfl rfl (by decide +kernel)
set_option maxRecDepth 65536 in
theorem w_c34 : (Jvm.Cond.code ({ cls := "java/lang/StringBuilder", name := "length", desc := "()I" } : Jvm.MethodName) jdk_67_method_93_code (1 : Nat) (Option.some Jvm.ClassFile.FieldType.int)).before args0 about1 = true := code_word (m := ⟨13, 4⟩) (meth := k13m4) (c := k13c4) (by decide +kernel) rfl rfl rfl (by decide +kernel)
set_option maxRecDepth 65536 in
theorem w_c35 : (Jvm.Cond.code ({ cls := "java/lang/AbstractStringBuilder", name := "length", desc := "()I" } : Jvm.MethodName) jdk_68_method_6_code (1 : Nat) (Option.some Jvm.ClassFile.FieldType.int)).before args0 about1 = true := code_word (m := ⟨12, 2⟩) (meth := k12m2) (c := k12c2) (by decide +kernel) rfl rfl rfl (by decide +kernel)
set_option maxRecDepth 65536 in
theorem w_c36 : (Jvm.Cond.code ({ cls := "java/util/Arrays", name := "copyOfRange", desc := "([BII)[B" } : Jvm.MethodName) jdk_65_method_132_code (3 : Nat) (Option.some (Jvm.ClassFile.FieldType.array Jvm.ClassFile.FieldType.byte))).before args0 about1 = true := code_word (m := ⟨17, 3⟩) (meth := k17m3) (c := k17c3) (by decide +kernel) rfl rfl rfl (by decide +kernel)
set_option maxRecDepth 65536 in
theorem w_c37 : (Jvm.Cond.code ({ cls := "java/util/Arrays", name := "copyOfRangeByte", desc := "([BII)[B" } : Jvm.MethodName) jdk_65_method_133_code (5 : Nat) (Option.some (Jvm.ClassFile.FieldType.array Jvm.ClassFile.FieldType.byte))).before args0 about1 = true := code_word (m := ⟨17, 4⟩) (meth := k17m4) (c := k17c4) (by decide +kernel) rfl rfl rfl (by decide +kernel)
set_option maxRecDepth 65536 in
theorem w_c38 : (Jvm.Cond.code ({ cls := "java/util/Arrays", name := "checkLength", desc := "(II)V" } : Jvm.MethodName) jdk_65_method_131_code (2 : Nat) (Option.none : Option Jvm.ClassFile.FieldType)).before args0 about1 = true := code_word (m := ⟨17, 2⟩) (meth := k17m2) (c := k17c2) (by decide +kernel) rfl rfl rfl (by decide +kernel)
set_option maxRecDepth 65536 in
theorem w_c39 : (Jvm.Cond.code ({ cls := "com/example/uketsuke/uketsuke/core/token/PageTokenToStringPinLaw", name := "ge", desc := "(JJ)I" } : Jvm.MethodName) method_3_code (4 : Nat) (Option.some Jvm.ClassFile.FieldType.int)).before args0 about1 = true := code_word (m := ⟨1, 2⟩) (meth := k1m2) (c := k1c2) (by decide +kernel) rfl rfl rfl (by decide +kernel)
set_option maxRecDepth 65536 in
theorem w_c40 : (Jvm.Cond.code ({ cls := "com/example/uketsuke/uketsuke/core/token/PageTokenToStringPinLaw", name := "eq4", desc := "(Ljava/lang/String;ILjava/lang/String;I)Z" } : Jvm.MethodName) method_5_code (4 : Nat) (Option.some Jvm.ClassFile.FieldType.boolean)).before args0 about1 = true := code_word (m := ⟨1, 4⟩) (meth := k1m4) (c := k1c4) (by decide +kernel) rfl rfl rfl (by decide +kernel)
set_option maxRecDepth 65536 in
theorem w_c41 : (Jvm.Cond.code ({ cls := "com/example/uketsuke/uketsuke/core/token/PageTokenToStringPinLaw", name := "eq1", desc := "(Ljava/lang/String;ILjava/lang/String;I)Z" } : Jvm.MethodName) method_4_code (4 : Nat) (Option.some Jvm.ClassFile.FieldType.boolean)).before args0 about1 = true := code_word (m := ⟨1, 3⟩) (meth := k1m3) (c := k1c3) (by decide +kernel) rfl rfl rfl (by decide +kernel)
set_option maxRecDepth 65536 in
theorem w_c42 : (Jvm.Cond.code ({ cls := "java/lang/String", name := "charAt", desc := "(I)C" } : Jvm.MethodName) jdk_42_method_56_code (2 : Nat) (Option.some Jvm.ClassFile.FieldType.char)).before args0 about1 = true := code_word (m := ⟨7, 4⟩) (meth := k7m4) (c := k7c4) (by decide +kernel) rfl rfl rfl (by decide +kernel)
set_option maxRecDepth 65536 in
theorem w_c43 : (Jvm.Cond.code ({ cls := "java/lang/String", name := "isLatin1", desc := "()Z" } : Jvm.MethodName) jdk_42_method_154_code (1 : Nat) (Option.some Jvm.ClassFile.FieldType.boolean)).before args0 about1 = true := code_word (m := ⟨7, 9⟩) (meth := k7m9) (c := k7c9) (by decide +kernel) rfl rfl rfl (by decide +kernel)
set_option maxRecDepth 65536 in
theorem w_c44 : (Jvm.Cond.code ({ cls := "java/lang/StringLatin1", name := "charAt", desc := "([BI)C" } : Jvm.MethodName) jdk_43_method_2_code (2 : Nat) (Option.some Jvm.ClassFile.FieldType.char)).before args0 about1 = true := code_word (m := ⟨21, 1⟩) (meth := k21m1) (c := k21c1) (by decide +kernel) rfl rfl rfl (by decide +kernel)
set_option maxRecDepth 65536 in
theorem w_c45 : (Jvm.Cond.code ({ cls := "java/lang/String", name := "checkIndex", desc := "(II)V" } : Jvm.MethodName) jdk_42_method_155_code (2 : Nat) (Option.none : Option Jvm.ClassFile.FieldType)).before args0 about1 = true := code_word (m := ⟨7, 10⟩) (meth := k7m10) (c := k7c10) (by decide +kernel) rfl rfl rfl (by decide +kernel)
set_option maxRecDepth 65536 in
theorem w_c46 : (Jvm.Cond.code ({ cls := "jdk/internal/util/Preconditions", name := "checkIndex", desc := "(IILjava/util/function/BiFunction;)I" } : Jvm.MethodName) jdk_41_method_11_code (3 : Nat) (Option.some Jvm.ClassFile.FieldType.int)).before args0 about1 = true := code_word (m := ⟨22, 1⟩) (meth := k22m1) (c := k22c1) (by decide +kernel) rfl rfl rfl (by decide +kernel)
set_option maxRecDepth 65536 in
theorem w_c47 : (Jvm.Cond.code ({ cls := "com/example/uketsuke/uketsuke/core/token/PageTokenToStringPinLaw", name := "dig", desc := "(Ljava/lang/String;IIJJI)Z" } : Jvm.MethodName) method_6_code (8 : Nat) (Option.some Jvm.ClassFile.FieldType.boolean)).before args0 about1 = true := code_word (m := ⟨1, 5⟩) (meth := k1m5) (c := k1c5) (by decide +kernel) rfl rfl rfl (by decide +kernel)
def codes1 : List Jvm.Cond := [Jvm.Cond.code x code maxLocals ret, Jvm.Cond.code ({ cls := "java/lang/String", name := "<init>", desc := "([C)V" } : Jvm.MethodName) jdk_42_method_3_code (2 : Nat) (Option.none : Option Jvm.ClassFile.FieldType), Jvm.Cond.code ({ cls := "java/lang/String", name := "<init>", desc := "([CIILjava/lang/Void;)V" } : Jvm.MethodName) jdk_42_method_149_code (6 : Nat) (Option.none : Option Jvm.ClassFile.FieldType), Jvm.Cond.code ({ cls := "java/lang/Object", name := "<init>", desc := "()V" } : Jvm.MethodName) object_method_1_code (1 : Nat) (Option.none : Option Jvm.ClassFile.FieldType), Jvm.Cond.code ({ cls := "java/lang/StringUTF16", name := "compress", desc := "([CII)[B" } : Jvm.MethodName) jdk_52_method_16_code (6 : Nat) (Option.some (Jvm.ClassFile.FieldType.array Jvm.ClassFile.FieldType.byte)), Jvm.Cond.code ({ cls := "java/lang/StringUTF16", name := "compress", desc := "([CI[BII)I" } : Jvm.MethodName) jdk_52_method_21_code (7 : Nat) (Option.some Jvm.ClassFile.FieldType.int), Jvm.Cond.code ({ cls := "java/lang/StringUTF16", name := "coderFromArrayLen", desc := "([BI)B" } : Jvm.MethodName) jdk_52_method_15_code (2 : Nat) (Option.some Jvm.ClassFile.FieldType.byte), Jvm.Cond.code ({ cls := "com/example/uketsuke/uketsuke/core/token/PageToken", name := "<init>", desc := "(Ljava/lang/String;Ljava/lang/String;J)V" } : Jvm.MethodName) prog_55_method_1_code (5 : Nat) (Option.none : Option Jvm.ClassFile.FieldType), Jvm.Cond.code ({ cls := "java/lang/Record", name := "<init>", desc := "()V" } : Jvm.MethodName) jdk_30_method_1_code (1 : Nat) (Option.none : Option Jvm.ClassFile.FieldType), Jvm.Cond.code ({ cls := "com/example/uketsuke/uketsuke/core/token/PageToken", name := "toString", desc := "()Ljava/lang/String;" } : Jvm.MethodName) prog_55_method_2_code (1 : Nat) (Option.some (Jvm.ClassFile.FieldType.object "java/lang/String")), Jvm.Cond.code ({ cls := "java/lang/StringBuilder", name := "<init>", desc := "()V" } : Jvm.MethodName) jdk_67_method_1_code (1 : Nat) (Option.none : Option Jvm.ClassFile.FieldType), Jvm.Cond.code ({ cls := "java/lang/AbstractStringBuilder", name := "<init>", desc := "(I)V" } : Jvm.MethodName) jdk_68_method_2_code (2 : Nat) (Option.none : Option Jvm.ClassFile.FieldType), Jvm.Cond.code ({ cls := "java/lang/StringBuilder", name := "append", desc := "(Ljava/lang/String;)Ljava/lang/StringBuilder;" } : Jvm.MethodName) jdk_67_method_7_code (2 : Nat) (Option.some (Jvm.ClassFile.FieldType.object "java/lang/StringBuilder")), Jvm.Cond.code ({ cls := "java/lang/AbstractStringBuilder", name := "append", desc := "(Ljava/lang/String;)Ljava/lang/AbstractStringBuilder;" } : Jvm.MethodName) jdk_68_method_22_code (3 : Nat) (Option.some (Jvm.ClassFile.FieldType.object "java/lang/AbstractStringBuilder")), Jvm.Cond.code ({ cls := "java/lang/String", name := "length", desc := "()I" } : Jvm.MethodName) jdk_42_method_54_code (1 : Nat) (Option.some Jvm.ClassFile.FieldType.int), Jvm.Cond.code ({ cls := "java/lang/String", name := "coder", desc := "()B" } : Jvm.MethodName) jdk_42_method_152_code (1 : Nat) (Option.some Jvm.ClassFile.FieldType.byte), Jvm.Cond.code ({ cls := "java/lang/AbstractStringBuilder", name := "ensureCapacityInternal", desc := "(I)V" } : Jvm.MethodName) jdk_68_method_9_code (3 : Nat) (Option.none : Option Jvm.ClassFile.FieldType), Jvm.Cond.code ({ cls := "java/lang/AbstractStringBuilder", name := "putStringAt", desc := "(ILjava/lang/String;)V" } : Jvm.MethodName) jdk_68_method_73_code (3 : Nat) (Option.none : Option Jvm.ClassFile.FieldType), Jvm.Cond.code ({ cls := "java/lang/AbstractStringBuilder", name := "inflateIfNeededFor", desc := "(Ljava/lang/String;)V" } : Jvm.MethodName) jdk_68_method_71_code (2 : Nat) (Option.none : Option Jvm.ClassFile.FieldType), Jvm.Cond.code ({ cls := "java/lang/String", name := "getBytes", desc := "([BIB)V" } : Jvm.MethodName) jdk_42_method_147_code (4 : Nat) (Option.none : Option Jvm.ClassFile.FieldType), Jvm.Cond.code ({ cls := "java/lang/AbstractStringBuilder", name := "newCapacity", desc := "(I)I" } : Jvm.MethodName) jdk_68_method_10_code (6 : Nat) (Option.some Jvm.ClassFile.FieldType.int), Jvm.Cond.code ({ cls := "jdk/internal/util/ArraysSupport", name := "newLength", desc := "(III)I" } : Jvm.MethodName) jdk_48_method_27_code (4 : Nat) (Option.some Jvm.ClassFile.FieldType.int), Jvm.Cond.code ({ cls := "java/lang/Math", name := "max", desc := "(II)I" } : Jvm.MethodName) jdk_29_method_65_code (2 : Nat) (Option.some Jvm.ClassFile.FieldType.int), Jvm.Cond.code ({ cls := "java/util/Arrays", name := "copyOf", desc := "([BI)[B" } : Jvm.MethodName) jdk_65_method_121_code (3 : Nat) (Option.some (Jvm.ClassFile.FieldType.array Jvm.ClassFile.FieldType.byte)), Jvm.Cond.code ({ cls := "java/lang/Math", name := "min", desc := "(II)I" } : Jvm.MethodName) jdk_29_method_69_code (2 : Nat) (Option.some Jvm.ClassFile.FieldType.int), Jvm.Cond.code ({ cls := "java/lang/StringBuilder", name := "append", desc := "(J)Ljava/lang/StringBuilder;" } : Jvm.MethodName) jdk_67_method_16_code (3 : Nat) (Option.some (Jvm.ClassFile.FieldType.object "java/lang/StringBuilder")), Jvm.Cond.code ({ cls := "java/lang/AbstractStringBuilder", name := "append", desc := "(J)Ljava/lang/AbstractStringBuilder;" } : Jvm.MethodName) jdk_68_method_33_code (5 : Nat) (Option.some (Jvm.ClassFile.FieldType.object "java/lang/AbstractStringBuilder")), Jvm.Cond.code ({ cls := "java/lang/Long", name := "stringSize", desc := "(J)I" } : Jvm.MethodName) jdk_35_method_15_code (6 : Nat) (Option.some Jvm.ClassFile.FieldType.int), Jvm.Cond.code ({ cls := "java/lang/AbstractStringBuilder", name := "isLatin1", desc := "()Z" } : Jvm.MethodName) jdk_68_method_68_code (1 : Nat) (Option.some Jvm.ClassFile.FieldType.boolean), Jvm.Cond.code ({ cls := "java/lang/Long", name := "getChars", desc := "(JI[B)I" } : Jvm.MethodName) jdk_35_method_14_code (11 : Nat) (Option.some Jvm.ClassFile.FieldType.int), Jvm.Cond.code ({ cls := "java/lang/StringBuilder", name := "toString", desc := "()Ljava/lang/String;" } : Jvm.MethodName) jdk_67_method_42_code (1 : Nat) (Option.some (Jvm.ClassFile.FieldType.object "java/lang/String")), Jvm.Cond.code ({ cls := "java/lang/String", name := "<init>", desc := "(Ljava/lang/StringBuilder;)V" } : Jvm.MethodName) jdk_42_method_53_code (2 : Nat) (Option.none : Option Jvm.ClassFile.FieldType), Jvm.Cond.code ({ cls := "java/lang/String", name := "<init>", desc := "(Ljava/lang/AbstractStringBuilder;Ljava/lang/Void;)V" } : Jvm.MethodName) jdk_42_method_150_code (5 : Nat) (Option.none : Option Jvm.ClassFile.FieldType), Jvm.Cond.code ({ cls := "java/lang/AbstractStringBuilder", name := "getValue", desc := "()[B" } : Jvm.MethodName) jdk_68_method_64_code (1 : Nat) (Option.some (Jvm.ClassFile.FieldType.array Jvm.ClassFile.FieldType.byte)), Jvm.Cond.code ({ cls := "java/lang/StringBuilder", name := "length", desc := "()I" } : Jvm.MethodName) jdk_67_method_93_code (1 : Nat) (Option.some Jvm.ClassFile.FieldType.int), Jvm.Cond.code ({ cls := "java/lang/AbstractStringBuilder", name := "length", desc := "()I" } : Jvm.MethodName) jdk_68_method_6_code (1 : Nat) (Option.some Jvm.ClassFile.FieldType.int), Jvm.Cond.code ({ cls := "java/util/Arrays", name := "copyOfRange", desc := "([BII)[B" } : Jvm.MethodName) jdk_65_method_132_code (3 : Nat) (Option.some (Jvm.ClassFile.FieldType.array Jvm.ClassFile.FieldType.byte)), Jvm.Cond.code ({ cls := "java/util/Arrays", name := "copyOfRangeByte", desc := "([BII)[B" } : Jvm.MethodName) jdk_65_method_133_code (5 : Nat) (Option.some (Jvm.ClassFile.FieldType.array Jvm.ClassFile.FieldType.byte)), Jvm.Cond.code ({ cls := "java/util/Arrays", name := "checkLength", desc := "(II)V" } : Jvm.MethodName) jdk_65_method_131_code (2 : Nat) (Option.none : Option Jvm.ClassFile.FieldType), Jvm.Cond.code ({ cls := "com/example/uketsuke/uketsuke/core/token/PageTokenToStringPinLaw", name := "ge", desc := "(JJ)I" } : Jvm.MethodName) method_3_code (4 : Nat) (Option.some Jvm.ClassFile.FieldType.int), Jvm.Cond.code ({ cls := "com/example/uketsuke/uketsuke/core/token/PageTokenToStringPinLaw", name := "eq4", desc := "(Ljava/lang/String;ILjava/lang/String;I)Z" } : Jvm.MethodName) method_5_code (4 : Nat) (Option.some Jvm.ClassFile.FieldType.boolean), Jvm.Cond.code ({ cls := "com/example/uketsuke/uketsuke/core/token/PageTokenToStringPinLaw", name := "eq1", desc := "(Ljava/lang/String;ILjava/lang/String;I)Z" } : Jvm.MethodName) method_4_code (4 : Nat) (Option.some Jvm.ClassFile.FieldType.boolean), Jvm.Cond.code ({ cls := "java/lang/String", name := "charAt", desc := "(I)C" } : Jvm.MethodName) jdk_42_method_56_code (2 : Nat) (Option.some Jvm.ClassFile.FieldType.char), Jvm.Cond.code ({ cls := "java/lang/String", name := "isLatin1", desc := "()Z" } : Jvm.MethodName) jdk_42_method_154_code (1 : Nat) (Option.some Jvm.ClassFile.FieldType.boolean), Jvm.Cond.code ({ cls := "java/lang/StringLatin1", name := "charAt", desc := "([BI)C" } : Jvm.MethodName) jdk_43_method_2_code (2 : Nat) (Option.some Jvm.ClassFile.FieldType.char), Jvm.Cond.code ({ cls := "java/lang/String", name := "checkIndex", desc := "(II)V" } : Jvm.MethodName) jdk_42_method_155_code (2 : Nat) (Option.none : Option Jvm.ClassFile.FieldType), Jvm.Cond.code ({ cls := "jdk/internal/util/Preconditions", name := "checkIndex", desc := "(IILjava/util/function/BiFunction;)I" } : Jvm.MethodName) jdk_41_method_11_code (3 : Nat) (Option.some Jvm.ClassFile.FieldType.int), Jvm.Cond.code ({ cls := "com/example/uketsuke/uketsuke/core/token/PageTokenToStringPinLaw", name := "dig", desc := "(Ljava/lang/String;IIJJI)Z" } : Jvm.MethodName) method_6_code (8 : Nat) (Option.some Jvm.ClassFile.FieldType.boolean)]
set_option maxRecDepth 65536 in
theorem codes_eq : words1.filter isCode = codes1 := rfl
theorem w_codes : ∀ c ∈ words1.filter isCode, c.before args0 about1 = true := by
  rw [codes_eq]
  intro c hc
  simp only [codes1, List.mem_cons, List.not_mem_nil, or_false] at hc
  rcases hc with rfl | rfl | rfl | rfl | rfl | rfl | rfl | rfl | rfl | rfl | rfl | rfl | rfl | rfl | rfl | rfl | rfl | rfl | rfl | rfl | rfl | rfl | rfl | rfl | rfl | rfl | rfl | rfl | rfl | rfl | rfl | rfl | rfl | rfl | rfl | rfl | rfl | rfl | rfl | rfl | rfl | rfl | rfl | rfl | rfl | rfl | rfl | rfl
  · exact w_c0
  · exact w_c1
  · exact w_c2
  · exact w_c3
  · exact w_c4
  · exact w_c5
  · exact w_c6
  · exact w_c7
  · exact w_c8
  · exact w_c9
  · exact w_c10
  · exact w_c11
  · exact w_c12
  · exact w_c13
  · exact w_c14
  · exact w_c15
  · exact w_c16
  · exact w_c17
  · exact w_c18
  · exact w_c19
  · exact w_c20
  · exact w_c21
  · exact w_c22
  · exact w_c23
  · exact w_c24
  · exact w_c25
  · exact w_c26
  · exact w_c27
  · exact w_c28
  · exact w_c29
  · exact w_c30
  · exact w_c31
  · exact w_c32
  · exact w_c33
  · exact w_c34
  · exact w_c35
  · exact w_c36
  · exact w_c37
  · exact w_c38
  · exact w_c39
  · exact w_c40
  · exact w_c41
  · exact w_c42
  · exact w_c43
  · exact w_c44
  · exact w_c45
  · exact w_c46
  · exact w_c47
set_option maxRecDepth 65536 in
theorem w_t1 : (words1.take 24).all (fun c => isCode c || c.before args0 about1) = true := by decide +kernel
set_option maxRecDepth 65536 in
theorem w_t2 : ((words1.drop 24).take 24).all (fun c => isCode c || c.before args0 about1) = true := by decide +kernel
set_option maxRecDepth 65536 in
theorem w_t3 : (((words1.drop 24).drop 24).take 24).all (fun c => isCode c || c.before args0 about1) = true := by decide +kernel
set_option maxRecDepth 65536 in
theorem w_t4 : ((((words1.drop 24).drop 24).drop 24).take 24).all (fun c => isCode c || c.before args0 about1) = true := by decide +kernel
set_option maxRecDepth 65536 in
theorem w_t5 : (((((words1.drop 24).drop 24).drop 24).drop 24).take 24).all (fun c => isCode c || c.before args0 about1) = true := by decide +kernel
set_option maxRecDepth 65536 in
theorem w_t6 : ((((((words1.drop 24).drop 24).drop 24).drop 24).drop 24).take 24).all (fun c => isCode c || c.before args0 about1) = true := by decide +kernel
set_option maxRecDepth 65536 in
theorem w_t7 : (((((((words1.drop 24).drop 24).drop 24).drop 24).drop 24).drop 24).take 24).all (fun c => isCode c || c.before args0 about1) = true := by decide +kernel
set_option maxRecDepth 65536 in
theorem w_t8 : ((((((((words1.drop 24).drop 24).drop 24).drop 24).drop 24).drop 24).drop 24).take 24).all (fun c => isCode c || c.before args0 about1) = true := by decide +kernel
set_option maxRecDepth 65536 in
theorem w_t9 : (((((((((words1.drop 24).drop 24).drop 24).drop 24).drop 24).drop 24).drop 24).drop 24).take 24).all (fun c => isCode c || c.before args0 about1) = true := by decide +kernel
set_option maxRecDepth 65536 in
theorem w_t10 : ((((((((((words1.drop 24).drop 24).drop 24).drop 24).drop 24).drop 24).drop 24).drop 24).drop 24).take 24).all (fun c => isCode c || c.before args0 about1) = true := by decide +kernel
set_option maxRecDepth 65536 in
theorem w_t11 : (((((((((((words1.drop 24).drop 24).drop 24).drop 24).drop 24).drop 24).drop 24).drop 24).drop 24).drop 24).take 24).all (fun c => isCode c || c.before args0 about1) = true := by decide +kernel
set_option maxRecDepth 65536 in
theorem w_t12 : (((((((((((words1.drop 24).drop 24).drop 24).drop 24).drop 24).drop 24).drop 24).drop 24).drop 24).drop 24).drop 24).all (fun c => isCode c || c.before args0 about1) = true := by decide +kernel
theorem w_tables : (allAtoms (Jvm.Cond.code x code maxLocals ret :: tables_1)).before args0 about1 = true := by
  rw [allAtoms_all]
  show words1.all (fun c => c.before args0 about1) = true
  refine all_split ?_ w_codes
  rw [← List.take_append_drop 24 words1, List.all_append, w_t1, ← List.take_append_drop 24 (words1.drop 24), List.all_append, w_t2, ← List.take_append_drop 24 ((words1.drop 24).drop 24), List.all_append, w_t3, ← List.take_append_drop 24 (((words1.drop 24).drop 24).drop 24), List.all_append, w_t4, ← List.take_append_drop 24 ((((words1.drop 24).drop 24).drop 24).drop 24), List.all_append, w_t5, ← List.take_append_drop 24 (((((words1.drop 24).drop 24).drop 24).drop 24).drop 24), List.all_append, w_t6, ← List.take_append_drop 24 ((((((words1.drop 24).drop 24).drop 24).drop 24).drop 24).drop 24), List.all_append, w_t7, ← List.take_append_drop 24 (((((((words1.drop 24).drop 24).drop 24).drop 24).drop 24).drop 24).drop 24), List.all_append, w_t8, ← List.take_append_drop 24 ((((((((words1.drop 24).drop 24).drop 24).drop 24).drop 24).drop 24).drop 24).drop 24), List.all_append, w_t9, ← List.take_append_drop 24 (((((((((words1.drop 24).drop 24).drop 24).drop 24).drop 24).drop 24).drop 24).drop 24).drop 24), List.all_append, w_t10, ← List.take_append_drop 24 ((((((((((words1.drop 24).drop 24).drop 24).drop 24).drop 24).drop 24).drop 24).drop 24).drop 24).drop 24), List.all_append, w_t11, w_t12]
  rfl
set_option maxRecDepth 65536 in
theorem w_rest : rest_1_c.before args0 about1 = true := by decide +kernel
set_option maxRecDepth 65536 in
theorem w_case : (Jvm.Cond.and given_1 narrow_1).before args0 about1 = true := by decide +kernel
set_option maxRecDepth 65536 in
theorem w_consts : constsHeld consts_1 about1 := Jvm.Lit.constsHeldB_iff.mp (by decide +kernel)
theorem w_applies : (headSpec (Jvm.Cond.code x code maxLocals ret :: tables_1) room_1).applies x e0.platform about1 = true :=
  (Spec.applies_iff w_frames).mpr ⟨w_running, w_runnable, w_alone, w_named, w_hears, w_ripe, w_room, w_tables⟩
theorem atStart : AtStart classFile x code maxLocals ret World_1 tables_1 room_1 Calls_1 rest_1 Pre_1 launch0 p0 e0 about1 theMethod args0 below0 :=
  ⟨lists_1, trivial, launch0.admits_env _ _ _, launch0.least_env, fairChoices_fair.cas, fairChoices_fair.clock, w_frames, w_args, w_heap, w_applies, ⟨w_consts, trivial⟩, w_rest, w_case⟩
end start1
theorem witness_1 : WitnessClaimed_1 := ⟨start1.p0, start1.e0, start1.about1, start1.theMethod, start1.args0, start1.below0, start1.atStart⟩
end Jvm.Pilot.@@N@@
