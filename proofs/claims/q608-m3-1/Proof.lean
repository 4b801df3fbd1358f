import JvmDerived
import JvmDerived.Pilot.@@N@@Statement
import JvmDerived.Pilot.@@N@@Code
set_option linter.unusedVariables false
set_option linter.unusedSimpArgs false
/- laws to paste: Road.backV (cut by pick.py; bodies as the Statement names them) -/
namespace Jvm.Pilot.@@N@@
namespace StrChars
open Jvm Sem ClassFile Op Lib Jvm.Stand Jvm.Free.XT Jvm.Free.ALB Jvm.Free.JM Jvm.Free
open Jvm.Lib.Cold (StaticIs)
/-- a char array whose places are chars -/
def Ch (a : Addr) (A : Cell) (U : State) : Prop := Arr .char a A U ∧ Typed .char A
theorem Ch.mv {a : Addr} {A : Cell} {U U' : State} (h : Ch a A U) (hal : U.vm.Alike U'.vm) (hh : U'.heap = U.heap) : Ch a A U' := ⟨h.1.mv hal hh, h.2⟩
theorem Ch.keep {a : Addr} {A : Cell} {U U' : State} (h : Ch a A U) (hal : U.vm.Alike U'.vm) (hk : U'.heap[a]? = some A) : Ch a A U' := ⟨h.1.keep hal hk, h.2⟩
/-- what place i of a char[]'s cell holds -/
def cv (A : Cell) (i : Nat) : Int32 := match A.slots[i]? with | some (.int x) => x | _ => 0
theorem Ch.get {a : Addr} {A : Cell} {U : State} (h : Ch a A U) {i : Nat} (hi : i < A.slots.size) : A.slots[i]? = some (.int (cv A i)) := by
  have e := Array.getElem?_eq_getElem hi
  have f := h.2 i _ e
  unfold cv; rw [e]
  generalize A.slots[i] = v at f
  cases v <;> simp [fits] at f ⊢
/-- the byte that i2b leaves of a char -/
def lo8 (x : Int32) : Int32 := x.toInt8.toInt32
theorem fits_lo8 (y : Int32) : fits .byte (.int (lo8 y)) = true := by
  have h1 := y.toInt8.le_toInt
  have h2 := y.toInt8.toInt_lt
  simp only [lo8, fits, Bool.and_eq_true, decide_eq_true_eq, Int32.le_iff_toInt_le, Int8.toInt_toInt32, show (-128 : Int32).toInt = -128 from by decide, show (127 : Int32).toInt = 127 from by decide]
  omega
/-- A' is A but that each place j of lo .. hi - 1 holds f j -/
def Laid (A A' : Cell) (lo hi : Nat) (f : Nat → Value) : Prop := A'.cls = A.cls ∧ A'.vm = A.vm ∧ A'.slots.size = A.slots.size ∧ ∀ i, A'.slots[i]? = if lo ≤ i ∧ i < hi then some (f i) else A.slots[i]?
theorem Laid.zero (A : Cell) (lo : Nat) (f : Nat → Value) : Laid A A lo (lo + 0) f := ⟨rfl, rfl, rfl, fun i => by rw [if_neg (by omega)]⟩
theorem Laid.step {A Ak : Cell} {lo k : Nat} {f : Nat → Value} {v : Value} (h : Laid A Ak lo k f) (hlo : lo ≤ k) (hk : k < Ak.slots.size) (hv : v = f k) : Laid A (Ak.setSlot k v) lo (k + 1) f := by
  refine ⟨h.1, h.2.1, by simpa [Cell.setSlot] using h.2.2.1, fun i => ?_⟩
  by_cases e : k = i
  · subst e; rw [Cell.slots_setSlot_self v hk, if_pos (by omega), hv]
  · rw [Cell.slots_setSlot_ne v e, h.2.2.2 i]
    by_cases q : lo ≤ i ∧ i < k
    · rw [if_pos q, if_pos (by omega)]
    · rw [if_neg q, if_neg (by omega)]
def U16 : String := "java/lang/StringUTF16"
namespace Cmp5
def yN : MethodName := ⟨"java/lang/StringUTF16", "compress", "([CI[BII)I"⟩
abbrev yB : ByteArray := jdk_52_method_21_code
theorem d0 : decode yB 0 = .ok (.iconst 0, 1) := by decide +kernel
theorem d1 : decode yB 1 = .ok (.istore 5, 2) := by decide +kernel
theorem d3 : decode yB 3 = .ok (.iload 5, 2) := by decide +kernel
theorem d5 : decode yB 5 = .ok (.iload 4, 2) := by decide +kernel
theorem d7 : decode yB 7 = .ok (.if_icmp (.ge) 37, 3) := by decide +kernel
theorem d10 : decode yB 10 = .ok (.aload_n 0, 1) := by decide +kernel
theorem d11 : decode yB 11 = .ok (.iload_n 1, 1) := by decide +kernel
theorem d12 : decode yB 12 = .ok (.caload, 1) := by decide +kernel
theorem d13 : decode yB 13 = .ok (.istore 6, 2) := by decide +kernel
theorem d15 : decode yB 15 = .ok (.iload 6, 2) := by decide +kernel
theorem d17 : decode yB 17 = .ok (.sipush 255, 3) := by decide +kernel
theorem d20 : decode yB 20 = .ok (.if_icmp (.le) 6, 3) := by decide +kernel
theorem d26 : decode yB 26 = .ok (.aload_n 2, 1) := by decide +kernel
theorem d27 : decode yB 27 = .ok (.iload_n 3, 1) := by decide +kernel
theorem d28 : decode yB 28 = .ok (.iload 6, 2) := by decide +kernel
theorem d30 : decode yB 30 = .ok (.i2b, 1) := by decide +kernel
theorem d31 : decode yB 31 = .ok (.bastore, 1) := by decide +kernel
theorem d32 : decode yB 32 = .ok (.iinc 1 1, 3) := by decide +kernel
theorem d35 : decode yB 35 = .ok (.iinc 3 1, 3) := by decide +kernel
theorem d38 : decode yB 38 = .ok (.iinc 5 1, 3) := by decide +kernel
theorem d41 : decode yB 41 = .ok (.goto (-38), 3) := by decide +kernel
theorem d44 : decode yB 44 = .ok (.iload 4, 2) := by decide +kernel
theorem d46 : decode yB 46 = .ok (.ireturn, 1) := by decide +kernel
def site : List Cond := []
def tab : Cond := tabOf yN yB 7 (some .int) site
def P (b : Addr) (A : Cell) (d : Addr) (B : Cell) (o q len : Nat) (args : Array Value) (s : State) : Prop := args = #[.ref b, .int (Int32.ofNat o), .ref d, .int (Int32.ofNat q), .int (Int32.ofNat len)] ∧ Ch b A s ∧ Arr .byte d B s ∧ b ≠ d ∧ o + len ≤ A.slots.size ∧ q + len ≤ B.slots.size ∧ ∀ i, i < len → ¬ 255 < cv A (o + i)
def E (b : Addr) (A : Cell) (d : Addr) (B : Cell) (o q len : Nat) (r : Option Value) (s u : State) : Prop := r = some (.int (Int32.ofNat len)) ∧ ∃ B', Put d B' s u ∧ Laid B B' q (q + len) (fun j => Value.int (lo8 (cv A (o + (j - q)))))
/-- no char of the range above 255: len; the places written hold each char's low byte -/
theorem law (l : Launch) (b : Addr) (A : Cell) (d : Addr) (B : Cell) (o q len : Nat) : Law l yN 5 5 0 0 yB 7 (some .int) site (P b A d B o q len) (E b A d B o q len) (copyLocs d q len) 0 0 := by
  refine Law.of_walk (plainFor_of_name (by decide +kernel)) (by decide +kernel) (by decide +kernel) (by decide) (fun _ _ h => by rw [h.1]; rfl) (fun _ U U' hal hh h => ⟨h.1, h.2.1.mv hal hh, h.2.2.1.mv hal hh, h.2.2.2⟩) (fun r U U' V V' h1 hal h2 h => ⟨h.1, h.2.elim fun B' q => ⟨B', q.1.mv h1 h2, q.2⟩⟩) ?_
  intro p e s m args below meth c s₁ X0 hexec hbytes hml hret hlk hnm hown hh0 W hP
  obtain ⟨rfl, hA, hB, hne, l1, l2, hp⟩ := hP
  have c1 : Steps p.tables e below (s₁.setTop (entryFrame m #[.ref b, .int (Int32.ofNat o), .ref d, .int (Int32.ofNat q), .int (Int32.ofNat len)] 7)) (s₁.setTop (mkF m 0 #[.val (.ref b), .val (.int (Int32.ofNat o)), .val (.ref d), .val (.int (Int32.ofNat q)), .val (.int (Int32.ofNat len)), .unset, .unset] [])) := entry rfl
  have hA0 := hA.1.mv X0.warmed.alike hh0
  have hB0 := hB.mv X0.warmed.alike hh0
  have a31 := hA.1.2.2.2
  have c2 : Steps p.tables e below (s₁.setTop (entryFrame m #[.ref b, .int (Int32.ofNat o), .ref d, .int (Int32.ofNat q), .int (Int32.ofNat len)] 7)) (s₁.setTop (mkF m 3 #[.val (.ref b), .val (.int (Int32.ofNat o)), .val (.ref d), .val (.int (Int32.ofNat q)), .val (.int (Int32.ofNat len)), .val (.int 0), .unset] [])) := c1.trans (by
    refine iconstV X0.here hexec rfl 0 (hb hbytes d0) (by decide) ?_
    refine XS.istore X0.here hexec rfl (hb hbytes d1) rfl rfl ?_
    exact Steps.refl _)
  have loop : ∀ (r i : Nat), i + r = len → ∀ (z : Slot), (z = .unset ∨ ∃ w, z = .val w ∧ w.category = 1) → ∀ (Tl : State) (Bk : Cell), Stand p l e { frames := 0, locals := 0, cells := 0, slots := 0 } s m #[.ref b, .int (Int32.ofNat o), .ref d, .int (Int32.ofNat q), .int (Int32.ofNat len)] below meth c Tl ([] ++ copyLocs d q i) 0 0 → Put d Bk s₁ Tl → Laid B Bk q (q + i) (fun j => Value.int (lo8 (cv A (o + (j - q))))) →
      Steps p.tables e below (s₁.setTop (entryFrame m #[.ref b, .int (Int32.ofNat o), .ref d, .int (Int32.ofNat q), .int (Int32.ofNat len)] 7)) (Tl.setTop (mkF m 3 #[.val (.ref b), .val (.int (Int32.ofNat (o + i))), .val (.ref d), .val (.int (Int32.ofNat (q + i))), .val (.int (Int32.ofNat len)), .val (.int (Int32.ofNat i)), z] [])) → ∃ (T' : State) (B' : Cell) (z' : Slot), Stand p l e { frames := 0, locals := 0, cells := 0, slots := 0 } s m #[.ref b, .int (Int32.ofNat o), .ref d, .int (Int32.ofNat q), .int (Int32.ofNat len)] below meth c T' ([] ++ copyLocs d q len) 0 0 ∧ Put d B' s₁ T' ∧ Laid B B' q (q + len) (fun j => Value.int (lo8 (cv A (o + (j - q))))) ∧
      Steps p.tables e below (s₁.setTop (entryFrame m #[.ref b, .int (Int32.ofNat o), .ref d, .int (Int32.ofNat q), .int (Int32.ofNat len)] 7)) (T'.setTop (mkF m 3 #[.val (.ref b), .val (.int (Int32.ofNat (o + len))), .val (.ref d), .val (.int (Int32.ofNat (q + len))), .val (.int (Int32.ofNat len)), .val (.int (Int32.ofNat len)), z'] [])) := by
    intro r
    induction r with
    | zero =>
      intro i hi z hz Tl Bk Xl pl fl cl
      have hil : i = len := by omega
      rw [hil] at Xl fl cl
      exact ⟨Tl, Bk, z, Xl, pl, fl, cl⟩
    | succ r ih =>
      intro i hi z hz Tl Bk Xl pl fl cl
      have all := X0.warmed.alike.symm.trans Xl.warmed.alike
      have hAl := hA0.keep all (pl.other hne hA0.1)
      have hBk := hB0.like all pl.1 fl.1 fl.2.1 fl.2.2.1
      have hlt : q + i < Bk.slots.size := by rw [fl.2.2.1]; omega
      have c3 : Steps p.tables e below (s₁.setTop (entryFrame m #[.ref b, .int (Int32.ofNat o), .ref d, .int (Int32.ofNat q), .int (Int32.ofNat len)] 7)) (Tl.setTop (mkF m 12 #[.val (.ref b), .val (.int (Int32.ofNat (o + i))), .val (.ref d), .val (.int (Int32.ofNat (q + i))), .val (.int (Int32.ofNat len)), .val (.int (Int32.ofNat i)), z] [.int (Int32.ofNat (o + i)), .ref b])) := cl.trans (by
        refine XS.iload Xl.here hexec rfl (hb hbytes d3) rfl ?_
        refine XS.iload Xl.here hexec rfl (hb hbytes d5) rfl ?_
        refine XS.icmpNo Xl.here hexec rfl (hb hbytes d7) rfl (ii_ge_f (lt32 (by omega) (by omega))) ?_
        refine XS.aloadN Xl.here hexec rfl (hb hbytes d10) rfl rfl ?_
        refine XS.iloadN Xl.here hexec rfl (hb hbytes d11) rfl ?_
        exact Steps.refl _)
      have c4 : Steps p.tables e below (s₁.setTop (entryFrame m #[.ref b, .int (Int32.ofNat o), .ref d, .int (Int32.ofNat q), .int (Int32.ofNat len)] 7)) (Tl.setTop (mkF m 13 #[.val (.ref b), .val (.int (Int32.ofNat (o + i))), .val (.ref d), .val (.int (Int32.ofNat (q + i))), .val (.int (Int32.ofNat len)), .val (.int (Int32.ofNat i)), z] [.int (cv A (o + i))])) := c3.trans (by
        refine Xl.aget hexec hAl rfl (hA.get (i := o + i) (by omega)) rfl rfl (hb hbytes d12) ?_
        exact Steps.refl _)
      have c5 : Steps p.tables e below (s₁.setTop (entryFrame m #[.ref b, .int (Int32.ofNat o), .ref d, .int (Int32.ofNat q), .int (Int32.ofNat len)] 7)) (Tl.setTop (mkF m 15 #[.val (.ref b), .val (.int (Int32.ofNat (o + i))), .val (.ref d), .val (.int (Int32.ofNat (q + i))), .val (.int (Int32.ofNat len)), .val (.int (Int32.ofNat i)), .val (.int (cv A (o + i)))] [])) := c4.trans (by
        refine XS.istoreS Xl.here hexec rfl (hb hbytes d13) rfl rfl hz ?_
        exact Steps.refl _)
      have c6 : Steps p.tables e below (s₁.setTop (entryFrame m #[.ref b, .int (Int32.ofNat o), .ref d, .int (Int32.ofNat q), .int (Int32.ofNat len)] 7)) (Tl.setTop (mkF m 31 #[.val (.ref b), .val (.int (Int32.ofNat (o + i))), .val (.ref d), .val (.int (Int32.ofNat (q + i))), .val (.int (Int32.ofNat len)), .val (.int (Int32.ofNat i)), .val (.int (cv A (o + i)))] [.int (lo8 (cv A (o + i))), .int (Int32.ofNat (q + i)), .ref d])) := c5.trans (by
        refine XS.iload Xl.here hexec rfl (hb hbytes d15) rfl ?_
        refine sipushV Xl.here hexec rfl 255 (hb hbytes d17) (by decide) ?_
        refine XS.icmpYes Xl.here hexec rfl (pc0 := 20) rfl (hb hbytes d20) rfl (ii_le_t (hp i (by omega))) (by decide) rfl ?_
        refine XS.aloadN Xl.here hexec rfl (hb hbytes d26) rfl rfl ?_
        refine XS.iloadN Xl.here hexec rfl (hb hbytes d27) rfl ?_
        refine XS.iload Xl.here hexec rfl (hb hbytes d28) rfl ?_
        refine i2b Xl.here hexec rfl (hb hbytes d30) rfl ?_
        exact Steps.refl _)
      obtain ⟨T7, X7, p7, st7⟩ := Xl.aput hexec hBk rfl hlt rfl (fits_lo8 (cv A (o + i))) (g := (mkF m 31 #[.val (.ref b), .val (.int (Int32.ofNat (o + i))), .val (.ref d), .val (.int (Int32.ofNat (q + i))), .val (.int (Int32.ofNat len)), .val (.int (Int32.ofNat i)), .val (.int (cv A (o + i)))] [.int (lo8 (cv A (o + i))), .int (Int32.ofNat (q + i)), .ref d])) rfl (rest := []) rfl (hb hbytes d31)
      have c8 : Steps p.tables e below (s₁.setTop (entryFrame m #[.ref b, .int (Int32.ofNat o), .ref d, .int (Int32.ofNat q), .int (Int32.ofNat len)] 7)) (T7.setTop (mkF m 32 #[.val (.ref b), .val (.int (Int32.ofNat (o + i))), .val (.ref d), .val (.int (Int32.ofNat (q + i))), .val (.int (Int32.ofNat len)), .val (.int (Int32.ofNat i)), .val (.int (cv A (o + i)))] [])) := c6.trans (st7 _ (Steps.refl _))
      have c9 : Steps p.tables e below (s₁.setTop (entryFrame m #[.ref b, .int (Int32.ofNat o), .ref d, .int (Int32.ofNat q), .int (Int32.ofNat len)] 7)) (T7.setTop (mkF m 3 #[.val (.ref b), .val (.int (Int32.ofNat (o + i) + 1)), .val (.ref d), .val (.int (Int32.ofNat (q + i) + 1)), .val (.int (Int32.ofNat len)), .val (.int (Int32.ofNat i + 1)), .val (.int (cv A (o + i)))] [])) := c8.trans (by
        refine iincV X7.here hexec rfl 1 (hb hbytes d32) (by decide) rfl rfl ?_
        refine iincV X7.here hexec rfl 1 (hb hbytes d35) (by decide) rfl rfl ?_
        refine iincV X7.here hexec rfl 1 (hb hbytes d38) (by decide) rfl rfl ?_
        refine XS.goto X7.here hexec rfl (pc0 := 41) rfl (hb hbytes d41) (by decide) rfl ?_
        exact Steps.refl _)
      have c10 : Steps p.tables e below (s₁.setTop (entryFrame m #[.ref b, .int (Int32.ofNat o), .ref d, .int (Int32.ofNat q), .int (Int32.ofNat len)] 7)) (T7.setTop (mkF m 3 #[.val (.ref b), .val (.int (Int32.ofNat (o + (i + 1)))), .val (.ref d), .val (.int (Int32.ofNat (q + (i + 1)))), .val (.int (Int32.ofNat len)), .val (.int (Int32.ofNat (i + 1))), .val (.int (cv A (o + i)))] [])) := by
        have := c9
        rw [succ32, succ32, succ32] at this
        exact this
      exact ih (i + 1) (by omega) _ (Or.inr ⟨_, rfl, rfl⟩) T7 _ (by rw [copyLocs_step, ← List.append_assoc]; exact X7) (pl.trans p7) (fl.step (by omega) hlt (by simp)) c10
  obtain ⟨T9, B9, z9, X9, p9, f9, g9⟩ := loop len 0 (by omega) .unset (Or.inl rfl) s₁ B (by simpa [copyLocs] using X0) ⟨hB0.1, fun _ _ => rfl, rfl⟩ (Laid.zero _ _ _) c2
  have c11 : Steps p.tables e below (s₁.setTop (entryFrame m #[.ref b, .int (Int32.ofNat o), .ref d, .int (Int32.ofNat q), .int (Int32.ofNat len)] 7)) (T9.setTop (mkF m 46 #[.val (.ref b), .val (.int (Int32.ofNat (o + len))), .val (.ref d), .val (.int (Int32.ofNat (q + len))), .val (.int (Int32.ofNat len)), .val (.int (Int32.ofNat len)), z9] [.int (Int32.ofNat len)])) := g9.trans (by
    refine XS.iload X9.here hexec rfl (hb hbytes d3) rfl ?_
    refine XS.iload X9.here hexec rfl (hb hbytes d5) rfl ?_
    refine XS.icmpYes X9.here hexec rfl (pc0 := 7) rfl (hb hbytes d7) rfl (ii_ge_t (nlt32 (by omega) (Nat.le_refl _))) (by decide) rfl ?_
    refine XS.iload X9.here hexec rfl (hb hbytes d44) rfl ?_
    exact Steps.refl _)
  exact ⟨T9, some (.int (Int32.ofNat len)), _, _, _, X9, by simp, rfl, rfl, (fun h => by cases h), ⟨rfl, B9, p9.from hh0, f9⟩, fun fs hl => c11.trans (X9.ireturnOut hexec hret rfl (Or.inl rfl) (hb hbytes d46) hl)⟩
end Cmp5
namespace Cmp3
def yN : MethodName := ⟨"java/lang/StringUTF16", "compress", "([CII)[B"⟩
abbrev yB : ByteArray := jdk_52_method_16_code
theorem d0 : decode yB 0 = .ok (.iload_n 2, 1) := by decide +kernel
theorem d1 : decode yB 1 = .ok (.newarray .byte, 2) := by decide +kernel
theorem d3 : decode yB 3 = .ok (.astore_n 3, 1) := by decide +kernel
theorem d4 : decode yB 4 = .ok (.aload_n 0, 1) := by decide +kernel
theorem d5 : decode yB 5 = .ok (.iload_n 1, 1) := by decide +kernel
theorem d6 : decode yB 6 = .ok (.aload_n 3, 1) := by decide +kernel
theorem d7 : decode yB 7 = .ok (.iconst 0, 1) := by decide +kernel
theorem d8 : decode yB 8 = .ok (.iload_n 2, 1) := by decide +kernel
theorem d9 : decode yB 9 = .ok (.invokestatic 115, 3) := by decide +kernel
theorem d12 : decode yB 12 = .ok (.istore 4, 2) := by decide +kernel
theorem d14 : decode yB 14 = .ok (.iload 4, 2) := by decide +kernel
theorem d16 : decode yB 16 = .ok (.iload_n 2, 1) := by decide +kernel
theorem d17 : decode yB 17 = .ok (.if_icmp (.eq) 40, 3) := by decide +kernel
theorem d57 : decode yB 57 = .ok (.aload_n 3, 1) := by decide +kernel
theorem d58 : decode yB 58 = .ok (.areturn, 1) := by decide +kernel
def site : List Cond := [.arrayClass .byte, Cmp5.tab] ++ staticW U16 115 Cmp5.yN
def tab : Cond := tabOf yN yB 6 (some (.array .byte)) site
def P (b : Addr) (A : Cell) (o len : Nat) (args : Array Value) (s : State) : Prop := args = #[.ref b, .int (Int32.ofNat o), .int (Int32.ofNat len)] ∧ Ch b A s ∧ o + len ≤ A.slots.size ∧ len ≤ 536870912 ∧ ∀ i, i < len → ¬ 255 < cv A (o + i)
def E (b : Addr) (A : Cell) (o len : Nat) (r : Option Value) (s u : State) : Prop := NewArr .byte "[B" len (fun j => .int (lo8 (cv A (o + j)))) r s u ∧ u.heap.size = s.heap.size + 1
/-- no char of the range above 255: a new byte[] of their low bytes -/
theorem law (l : Launch) (b : Addr) (A : Cell) (o len : Nat) : Law l yN 3 3 1 18 yB 6 (some (.array .byte)) site (P b A o len) (E b A o len) [] 1 len := by
  refine Law.of_walk (plainFor_of_name (by decide +kernel)) (by decide +kernel) (by decide +kernel) (by decide) (fun _ _ h => by rw [h.1]; rfl) (fun _ U U' hal hh h => ⟨h.1, h.2.1.mv hal hh, h.2.2⟩) (fun r U U' V V' h1 hal h2 h => ⟨NewArr.mv r U U' V V' h1 hal h2 h.1, by rw [h1, h2]; exact h.2⟩) ?_
  intro p e s m args below meth c s₁ X0 hexec hbytes hml hret hlk hnm hown hh0 W hP
  obtain ⟨rfl, hA, l1, l2, hp⟩ := hP
  have a31 := hA.1.2.2.2
  have c1 : Steps p.tables e below (s₁.setTop (entryFrame m #[.ref b, .int (Int32.ofNat o), .int (Int32.ofNat len)] 6)) (s₁.setTop (mkF m 0 #[.val (.ref b), .val (.int (Int32.ofNat o)), .val (.int (Int32.ofNat len)), .unset, .unset, .unset] [])) := entry rfl
  have c2 : Steps p.tables e below (s₁.setTop (entryFrame m #[.ref b, .int (Int32.ofNat o), .int (Int32.ofNat len)] 6)) (s₁.setTop (mkF m 1 #[.val (.ref b), .val (.int (Int32.ofNat o)), .val (.int (Int32.ofNat len)), .unset, .unset, .unset] [.int (Int32.ofNat len)])) := c1.trans (by
    refine XS.iloadN X0.here hexec rfl (hb hbytes d0) rfl ?_
    exact Steps.refl _)
  obtain ⟨T3, B3, X3, ba3, bs3, bv3, bh3, bf3, st3⟩ := X0.anew hexec (atype := .byte) (wk W (.arrayClass .byte)) rfl (by show len * 1 ≤ _; omega) (by omega) (g := (mkF m 1 #[.val (.ref b), .val (.int (Int32.ofNat o)), .val (.int (Int32.ofNat len)), .unset, .unset, .unset] [.int (Int32.ofNat len)])) rfl (hb hbytes d1) (rest := []) rfl (Nat.le_refl _) (by show 0 + len ≤ len; omega)
  rw [hh0] at ba3 st3
  have kp3 : XT.Kept s T3 := (XT.Kept.of_eq hh0).push bh3
  have hA3 := hA.keep X3.warmed.alike (kp3 _ _ hA.1.1)
  have hne : b ≠ s.heap.size := hA.1.ne
  have c4 : Steps p.tables e below (s₁.setTop (entryFrame m #[.ref b, .int (Int32.ofNat o), .int (Int32.ofNat len)] 6)) (T3.setTop (mkF m 3 #[.val (.ref b), .val (.int (Int32.ofNat o)), .val (.int (Int32.ofNat len)), .unset, .unset, .unset] [.ref s.heap.size])) := c2.trans (st3 _ (Steps.refl _))
  have c5 : Steps p.tables e below (s₁.setTop (entryFrame m #[.ref b, .int (Int32.ofNat o), .int (Int32.ofNat len)] 6)) (T3.setTop (mkF m 9 #[.val (.ref b), .val (.int (Int32.ofNat o)), .val (.int (Int32.ofNat len)), .val (.ref s.heap.size), .unset, .unset] [.int (Int32.ofNat len), .int 0, .ref s.heap.size, .int (Int32.ofNat o), .ref b])) := c4.trans (by
    refine XS.astoreN X3.here hexec rfl (hb hbytes d3) rfl rfl rfl ?_
    refine XS.aloadN X3.here hexec rfl (hb hbytes d4) rfl rfl ?_
    refine XS.iloadN X3.here hexec rfl (hb hbytes d5) rfl ?_
    refine XS.aloadN X3.here hexec rfl (hb hbytes d6) rfl rfl ?_
    refine iconstV X3.here hexec rfl 0 (hb hbytes d7) (by decide) ?_
    refine XS.iloadN X3.here hexec rfl (hb hbytes d8) rfl ?_
    exact Steps.refl _)
  obtain ⟨v6, T6, X6, E6, g6⟩ := X3.callS hexec (Cmp5.law l b A s.heap.size B3 o 0 len) hown (wks W (staticW U16 115 Cmp5.yN)) (wk W Cmp5.tab) (W := 0) (Nat.le_of_ble_eq_true rfl) (Nat.le_of_ble_eq_true rfl) (Nat.le_refl _) (by show 0 + len + 0 ≤ len; omega) (g := (mkF m 9 #[.val (.ref b), .val (.int (Int32.ofNat o)), .val (.int (Int32.ofNat len)), .val (.ref s.heap.size), .unset, .unset] [.int (Int32.ofNat len), .int (Int32.ofNat 0), .ref s.heap.size, .int (Int32.ofNat o), .ref b])) rfl (by rw [hml]; rfl) c5 (argsL := [.ref b, .int (Int32.ofNat o), .ref s.heap.size, .int (Int32.ofNat 0), .int (Int32.ofNat len)]) (rest := []) rfl rfl (by show 2 * 0 + 0 ≤ _; decide) (hb hbytes d9) (⟨rfl, hA3, ba3, hne, l1, by rw [bs3]; simp, hp⟩)
  obtain ⟨rfl, B6, p6, f6⟩ := E6
  have c7 : Steps p.tables e below (s₁.setTop (entryFrame m #[.ref b, .int (Int32.ofNat o), .int (Int32.ofNat len)] 6)) (T6.setTop (mkF m 12 #[.val (.ref b), .val (.int (Int32.ofNat o)), .val (.int (Int32.ofNat len)), .val (.ref s.heap.size), .unset, .unset] [.int (Int32.ofNat len)])) := g6
  have c8 : Steps p.tables e below (s₁.setTop (entryFrame m #[.ref b, .int (Int32.ofNat o), .int (Int32.ofNat len)] 6)) (T6.setTop (mkF m 58 #[.val (.ref b), .val (.int (Int32.ofNat o)), .val (.int (Int32.ofNat len)), .val (.ref s.heap.size), .val (.int (Int32.ofNat len)), .unset] [.ref s.heap.size])) := c7.trans (by
    refine XS.istore X6.here hexec rfl (hb hbytes d12) rfl rfl ?_
    refine XS.iload X6.here hexec rfl (hb hbytes d14) rfl ?_
    refine XS.iloadN X6.here hexec rfl (hb hbytes d16) rfl ?_
    refine XS.icmpYes X6.here hexec rfl (pc0 := 17) rfl (hb hbytes d17) rfl (ii_eq_t rfl) (by decide) rfl ?_
    refine XS.aloadN X6.here hexec rfl (hb hbytes d57) rfl rfl ?_
    exact Steps.refl _)
  have X8 := X6.wide (L' := []) (cells' := 1) (slots' := len) (fun x hx hlt => by
    simp only [List.nil_append, copyLocs, List.mem_map, List.mem_range] at hx
    obtain ⟨i, -, rfl⟩ := hx
    exact absurd hlt (Nat.lt_irrefl _)) (Nat.le_refl _) (by omega)
  exact ⟨T6, some (.ref s.heap.size), _, _, _, X8, rfl, rfl, rfl, (fun h => by cases h), ⟨⟨rfl, B6, ba3.like (X3.warmed.alike.symm.trans X6.warmed.alike) p6.1 f6.1 f6.2.1 f6.2.2.1, f6.2.1.trans bv3, by rw [X6.warmed.alike.findClass, f6.1]; exact bf3, by rw [f6.2.2.1, bs3]; simp, fun j hj => by rw [f6.2.2.2 j, if_pos (by omega)]; rfl, kp3.put p6 (Nat.le_refl _)⟩, by rw [p6.2.2, bh3, hh0]; simp⟩, fun fs hl => c8.trans (X8.areturnOut hexec rfl hret rfl (hb hbytes d58) hl)⟩
end Cmp3
namespace CodL
def yN : MethodName := ⟨"java/lang/StringUTF16", "coderFromArrayLen", "([BI)B"⟩
abbrev yB : ByteArray := jdk_52_method_15_code
theorem d0 : decode yB 0 = .ok (.iload_n 1, 1) := by decide +kernel
theorem d1 : decode yB 1 = .ok (.aload_n 0, 1) := by decide +kernel
theorem d2 : decode yB 2 = .ok (.arraylength, 1) := by decide +kernel
theorem d3 : decode yB 3 = .ok (.isub, 1) := by decide +kernel
theorem d4 : decode yB 4 = .ok (.bipush 31, 2) := by decide +kernel
theorem d6 : decode yB 6 = .ok (.iushr, 1) := by decide +kernel
theorem d7 : decode yB 7 = .ok (.i2b, 1) := by decide +kernel
theorem d8 : decode yB 8 = .ok (.ireturn, 1) := by decide +kernel
def site : List Cond := []
def tab : Cond := tabOf yN yB 2 (some .byte) site
def P (d : Addr) (B : Cell) (args : Array Value) (s : State) : Prop := args = #[.ref d, .int (Int32.ofNat B.slots.size)] ∧ Arr .byte d B s
def E (r : Option Value) (s u : State) : Prop := XT.PureE (some (.int 0)) r s u
/-- an array as long as the number of chars: LATIN1 -/
theorem law (l : Launch) (d : Addr) (B : Cell) : Law l yN 2 2 0 0 yB 2 (some .byte) site (P d B) E [] 0 0 := by
  refine Law.of_walk (plainFor_of_name (by decide +kernel)) (by decide +kernel) (by decide +kernel) (by decide) (fun _ _ h => by rw [h.1]; rfl) (fun _ U U' hal hh h => ⟨h.1, h.2.mv hal hh⟩) (fun r U U' V V' h1 hal h2 h => XT.PureE.mv r U U' V V' h1 hal h2 h) ?_
  intro p e s m args below meth c s₁ X0 hexec hbytes hml hret hlk hnm hown hh0 W hP
  obtain ⟨rfl, hB⟩ := hP
  have hB0 := hB.mv X0.warmed.alike hh0
  have c1 : Steps p.tables e below (s₁.setTop (entryFrame m #[.ref d, .int (Int32.ofNat B.slots.size)] 2)) (s₁.setTop (mkF m 0 #[.val (.ref d), .val (.int (Int32.ofNat B.slots.size))] [])) := entry rfl
  have c2 : Steps p.tables e below (s₁.setTop (entryFrame m #[.ref d, .int (Int32.ofNat B.slots.size)] 2)) (s₁.setTop (mkF m 2 #[.val (.ref d), .val (.int (Int32.ofNat B.slots.size))] [.ref d, .int (Int32.ofNat B.slots.size)])) := c1.trans (by
    refine XS.iloadN X0.here hexec rfl (hb hbytes d0) rfl ?_
    refine XS.aloadN X0.here hexec rfl (hb hbytes d1) rfl rfl ?_
    exact Steps.refl _)
  have c3 : Steps p.tables e below (s₁.setTop (entryFrame m #[.ref d, .int (Int32.ofNat B.slots.size)] 2)) (s₁.setTop (mkF m 8 #[.val (.ref d), .val (.int (Int32.ofNat B.slots.size))] [.int (lo8 (ushr (Int32.ofNat B.slots.size - Int32.ofNat B.slots.size) 31))])) := c2.trans (by
    refine X0.alen hexec hB0 rfl rfl (hb hbytes d2) ?_
    refine XS.isub X0.here hexec rfl (hb hbytes d3) rfl ?_
    refine bipushV X0.here hexec rfl 31 (hb hbytes d4) (by decide) ?_
    refine iushr X0.here hexec rfl (hb hbytes d6) rfl ?_
    refine i2b X0.here hexec rfl (hb hbytes d7) rfl ?_
    exact Steps.refl _)
  have e0 : lo8 (ushr (Int32.ofNat B.slots.size - Int32.ofNat B.slots.size) 31) = 0 := by rw [Int32.sub_self]; decide
  rw [e0] at c3
  exact ⟨s₁, some (.int 0), _, _, _, X0, rfl, rfl, rfl, (fun h => by cases h), ⟨rfl, hh0⟩, fun fs hl => c3.trans (X0.ireturnOut hexec hret rfl (Or.inr (Or.inr (Or.inl rfl))) (hb hbytes d8) hl)⟩
end CodL
/-- the String at a is Latin-1 over a new byte[] (the heap's one new cell): the low bytes of the len chars of A from o on; every cell but a is kept -/
def Got (a : Addr) (D : Cell) (fV fC : Field) (A : Cell) (o len : Nat) (r : Option Value) (s u : State) : Prop := r = none ∧ ∃ D' V : Cell, Blank "java/lang/String" a D' u ∧ Same D D' [fV.slot, fC.slot] ∧ D'.slots[fV.slot]? = some (.ref s.heap.size) ∧ D'.slots[fC.slot]? = some (.int 0) ∧ Arr .byte s.heap.size V u ∧ V.vm = .none ∧ u.vm.findClass "[B" = some V.cls ∧ V.slots.size = len ∧ (∀ j, j < len → V.slots[j]? = some (.int (lo8 (cv A (o + j))))) ∧ (∀ (y : Addr) (c : Cell), y ≠ a → s.heap[y]? = some c → u.heap[y]? = some c) ∧ u.heap.size = s.heap.size + 1
theorem Got.mv {a : Addr} {D A : Cell} {fV fC : Field} {o len : Nat} : ∀ r (U U' V V' : State), U'.heap = U.heap → V.vm.Alike V'.vm → V'.heap = V.heap → Got a D fV fC A o len r U V → Got a D fV fC A o len r U' V' :=
  fun r U U' V V' h1 hal h2 ⟨e0, D', X, a1, a2, a3, a4, a5, a6, a7, a8, a9, a10, a11⟩ => ⟨e0, D', X, a1.mv hal h2, a2, by rw [h1]; exact a3, a4, by rw [h1]; exact a5.mv hal h2, a6, by rw [hal.findClass]; exact a7, a8, a9, by rw [h1, h2]; exact a10, by rw [h1, h2]; exact a11⟩
namespace New4
def yN : MethodName := ⟨"java/lang/String", "<init>", "([CIILjava/lang/Void;)V"⟩
abbrev yB : ByteArray := jdk_42_method_149_code
theorem d0 : decode yB 0 = .ok (.aload_n 0, 1) := by decide +kernel
theorem d1 : decode yB 1 = .ok (.invokespecial 1, 3) := by decide +kernel
theorem d4 : decode yB 4 = .ok (.iload_n 3, 1) := by decide +kernel
theorem d5 : decode yB 5 = .ok (.ifCond (.ne) 22, 3) := by decide +kernel
theorem d27 : decode yB 27 = .ok (.getstatic 38, 3) := by decide +kernel
theorem d30 : decode yB 30 = .ok (.ifCond (.eq) 28, 3) := by decide +kernel
theorem d33 : decode yB 33 = .ok (.aload_n 1, 1) := by decide +kernel
theorem d34 : decode yB 34 = .ok (.iload_n 2, 1) := by decide +kernel
theorem d35 : decode yB 35 = .ok (.iload_n 3, 1) := by decide +kernel
theorem d36 : decode yB 36 = .ok (.invokestatic 177, 3) := by decide +kernel
theorem d39 : decode yB 39 = .ok (.astore 5, 2) := by decide +kernel
theorem d41 : decode yB 41 = .ok (.aload_n 0, 1) := by decide +kernel
theorem d42 : decode yB 42 = .ok (.aload 5, 2) := by decide +kernel
theorem d44 : decode yB 44 = .ok (.iload_n 3, 1) := by decide +kernel
theorem d45 : decode yB 45 = .ok (.invokestatic 47, 3) := by decide +kernel
theorem d48 : decode yB 48 = .ok (.putfield 15, 3) := by decide +kernel
theorem d51 : decode yB 51 = .ok (.aload_n 0, 1) := by decide +kernel
theorem d52 : decode yB 52 = .ok (.aload 5, 2) := by decide +kernel
theorem d54 : decode yB 54 = .ok (.putfield 9, 3) := by decide +kernel
theorem d57 : decode yB 57 = .ok (.return_, 1) := by decide +kernel
def site : List Cond := [.fieldLink "java/lang/String" 38 "java/lang/String" "COMPACT_STRINGS" "Z", Cmp3.tab, CodL.tab, .laysFinal "java/lang/String" "java/lang/String" "value" "[B", .fieldLink "java/lang/String" 9 "java/lang/String" "value" "[B", .laysFinal "java/lang/String" "java/lang/String" "coder" "B", .fieldLink "java/lang/String" 15 "java/lang/String" "coder" "B"] ++ objW "java/lang/String" 1 ++ staticW "java/lang/String" 177 Cmp3.yN ++ staticW "java/lang/String" 47 CodL.yN
def tab : Cond := tabOf yN yB 6 none site
def P (a : Addr) (D : Cell) (fV fC : Field) (b : Addr) (A : Cell) (z : Int32) (o len : Nat) (args : Array Value) (s : State) : Prop := args = #[.ref a, .ref b, .int (Int32.ofNat o), .int (Int32.ofNat len), .null] ∧ Blank "java/lang/String" a D s ∧ Found "java/lang/String" "value" "[B" fV s ∧ Found "java/lang/String" "coder" "B" fC s ∧ Ch b A s ∧ StaticIs s "java/lang/String" "COMPACT_STRINGS" "Z" (.int z) ∧ ¬ z = 0 ∧ 0 < len ∧ o + len ≤ A.slots.size ∧ len ≤ 536870912 ∧ ∀ i, i < len → ¬ 255 < cv A (o + i)
def E (a : Addr) (D : Cell) (fV fC : Field) (A : Cell) (o len : Nat) (r : Option Value) (s u : State) : Prop := Got a D fV fC A o len r s u
/-- len > 0, no char of the range above 255: a Latin-1 String of their low bytes -/
theorem law (l : Launch) (a : Addr) (D : Cell) (fV fC : Field) (b : Addr) (A : Cell) (z : Int32) (o len : Nat) : Law l yN 5 4 2 35 yB 6 none site (P a D fV fC b A z o len) (E a D fV fC A o len) [⟨a, fC.slot⟩, ⟨a, fV.slot⟩] 1 len := by
  refine Law.of_walk (plainFor_of_name (by decide +kernel)) (by decide +kernel) (by decide +kernel) (by decide) (fun _ _ h => by rw [h.1]; rfl) (fun _ U U' hal hh h => ⟨h.1, h.2.1.mv hal hh, h.2.2.1.al hal, h.2.2.2.1.al hal, h.2.2.2.2.1.mv hal hh, h.2.2.2.2.2.1.there hal hh, h.2.2.2.2.2.2⟩) (fun r U U' V V' h1 hal h2 h => Got.mv r U U' V V' h1 hal h2 h) ?_
  intro p e s m args below meth c s₁ X0 hexec hbytes hml hret hlk hnm hown hh0 W hP
  obtain ⟨rfl, hB, f1, f2, hA, s1, hz, l0, l1, l2, hp⟩ := hP
  have a31 := hA.1.2.2.2
  have c1 : Steps p.tables e below (s₁.setTop (entryFrame m #[.ref a, .ref b, .int (Int32.ofNat o), .int (Int32.ofNat len), .null] 6)) (s₁.setTop (mkF m 0 #[.val (.ref a), .val (.ref b), .val (.int (Int32.ofNat o)), .val (.int (Int32.ofNat len)), .val .null, .unset] [])) := entry rfl
  have c2 : Steps p.tables e below (s₁.setTop (entryFrame m #[.ref a, .ref b, .int (Int32.ofNat o), .int (Int32.ofNat len), .null] 6)) (s₁.setTop (mkF m 1 #[.val (.ref a), .val (.ref b), .val (.int (Int32.ofNat o)), .val (.int (Int32.ofNat len)), .val .null, .unset] [.ref a])) := c1.trans (by
    refine XS.aloadN X0.here hexec rfl (hb hbytes d0) rfl rfl ?_
    exact Steps.refl _)
  obtain ⟨T3, X3, q3, st3⟩ := X0.oinit hexec hown (wks W (objW "java/lang/String" 1)) (g := (mkF m 1 #[.val (.ref a), .val (.ref b), .val (.int (Int32.ofNat o)), .val (.int (Int32.ofNat len)), .val .null, .unset] [.ref a])) rfl (by rw [hml]; rfl) (rest := []) rfl (hb hbytes d1) (W := 0) (by show 2 * 0 + 0 ≤ _; decide) (Nat.le_of_ble_eq_true rfl) (Nat.le_of_ble_eq_true rfl)
  have hh3 := q3.trans hh0
  have c4 : Steps p.tables e below (s₁.setTop (entryFrame m #[.ref a, .ref b, .int (Int32.ofNat o), .int (Int32.ofNat len), .null] 6)) (T3.setTop (mkF m 27 #[.val (.ref a), .val (.ref b), .val (.int (Int32.ofNat o)), .val (.int (Int32.ofNat len)), .val .null, .unset] [])) := (c2.trans (st3 _ (Steps.refl _))).trans (by
    refine XS.iloadN X3.here hexec rfl (hb hbytes d4) rfl ?_
    refine XS.ifYes X3.here hexec rfl (pc0 := 5) rfl (hb hbytes d5) rfl (i0_ne_t (nz32 (by omega) l0)) (by decide) rfl ?_
    exact Steps.refl _)
  obtain ⟨T5, X5, q5, st5⟩ := X3.sget hexec hown (wk W (.fieldLink "java/lang/String" 38 "java/lang/String" "COMPACT_STRINGS" "Z")) s1 (fun _ _ h => by rw [hh3]; exact h) (g := (mkF m 27 #[.val (.ref a), .val (.ref b), .val (.int (Int32.ofNat o)), .val (.int (Int32.ofNat len)), .val .null, .unset] [])) rfl (hb hbytes d27)
  have hh5 := q5.trans hh3
  have c6 : Steps p.tables e below (s₁.setTop (entryFrame m #[.ref a, .ref b, .int (Int32.ofNat o), .int (Int32.ofNat len), .null] 6)) (T5.setTop (mkF m 30 #[.val (.ref a), .val (.ref b), .val (.int (Int32.ofNat o)), .val (.int (Int32.ofNat len)), .val .null, .unset] [.int z])) := c4.trans (st5 _ (Steps.refl _))
  have c7 : Steps p.tables e below (s₁.setTop (entryFrame m #[.ref a, .ref b, .int (Int32.ofNat o), .int (Int32.ofNat len), .null] 6)) (T5.setTop (mkF m 36 #[.val (.ref a), .val (.ref b), .val (.int (Int32.ofNat o)), .val (.int (Int32.ofNat len)), .val .null, .unset] [.int (Int32.ofNat len), .int (Int32.ofNat o), .ref b])) := c6.trans (by
    refine XS.ifNo X5.here hexec rfl (hb hbytes d30) rfl (i0_eq_f hz) ?_
    refine XS.aloadN X5.here hexec rfl (hb hbytes d33) rfl rfl ?_
    refine XS.iloadN X5.here hexec rfl (hb hbytes d34) rfl ?_
    refine XS.iloadN X5.here hexec rfl (hb hbytes d35) rfl ?_
    exact Steps.refl _)
  obtain ⟨v8, T8, X8, E8, g8⟩ := X5.callS hexec (Cmp3.law l b A o len) hown (wks W (staticW "java/lang/String" 177 Cmp3.yN)) (wk W Cmp3.tab) (W := 0) (Nat.le_of_ble_eq_true rfl) (Nat.le_of_ble_eq_true rfl) (Nat.le_refl _) (by show 0 + len ≤ len; omega) (g := (mkF m 36 #[.val (.ref a), .val (.ref b), .val (.int (Int32.ofNat o)), .val (.int (Int32.ofNat len)), .val .null, .unset] [.int (Int32.ofNat len), .int (Int32.ofNat o), .ref b])) rfl (by rw [hml]; rfl) c7 (argsL := [.ref b, .int (Int32.ofNat o), .int (Int32.ofNat len)]) (rest := []) rfl rfl (by show 2 * 0 + 0 ≤ _; decide) (hb hbytes d36) (⟨rfl, hA.mv X5.warmed.alike hh5, l1, l2, hp⟩)
  obtain ⟨e8, z8⟩ := E8
  obtain ⟨rfl, N, n1, n2, n3, n4, n5, n6⟩ := NewArr.mv _ T5 s _ _ hh5.symm (Vm.Alike.refl _) rfl e8
  rw [hh5] at z8
  have hB1 := hB.keep X8.warmed.alike (n6 _ _ hB.1)
  have hne : s.heap.size ≠ a := (Nat.ne_of_lt (Array.getElem?_eq_some_iff.mp hB.1).1).symm
  have c9 : Steps p.tables e below (s₁.setTop (entryFrame m #[.ref a, .ref b, .int (Int32.ofNat o), .int (Int32.ofNat len), .null] 6)) (T8.setTop (mkF m 39 #[.val (.ref a), .val (.ref b), .val (.int (Int32.ofNat o)), .val (.int (Int32.ofNat len)), .val .null, .unset] [.ref s.heap.size])) := g8
  have c10 : Steps p.tables e below (s₁.setTop (entryFrame m #[.ref a, .ref b, .int (Int32.ofNat o), .int (Int32.ofNat len), .null] 6)) (T8.setTop (mkF m 45 #[.val (.ref a), .val (.ref b), .val (.int (Int32.ofNat o)), .val (.int (Int32.ofNat len)), .val .null, .val (.ref s.heap.size)] [.int (Int32.ofNat N.slots.size), .ref s.heap.size, .ref a])) := by
    have hc : Steps p.tables e below (s₁.setTop (entryFrame m #[.ref a, .ref b, .int (Int32.ofNat o), .int (Int32.ofNat len), .null] 6)) (T8.setTop (mkF m 45 #[.val (.ref a), .val (.ref b), .val (.int (Int32.ofNat o)), .val (.int (Int32.ofNat len)), .val .null, .val (.ref s.heap.size)] [.int (Int32.ofNat len), .ref s.heap.size, .ref a])) := c9.trans (by
      refine XS.astore X8.here hexec rfl (hb hbytes d39) rfl rfl rfl ?_
      refine XS.aloadN X8.here hexec rfl (hb hbytes d41) rfl rfl ?_
      refine XS.aload X8.here hexec rfl (hb hbytes d42) rfl rfl ?_
      refine XS.iloadN X8.here hexec rfl (hb hbytes d44) rfl ?_
      exact Steps.refl _)
    rw [n4]; exact hc
  obtain ⟨v11, T11, X11, E11, g11⟩ := X8.callS hexec (CodL.law l s.heap.size N) hown (wks W (staticW "java/lang/String" 47 CodL.yN)) (wk W CodL.tab) (W := 1) (Nat.le_of_ble_eq_true rfl) (Nat.le_of_ble_eq_true rfl) (Nat.le_refl _) (by show 0 + len + 0 ≤ len; omega) (g := (mkF m 45 #[.val (.ref a), .val (.ref b), .val (.int (Int32.ofNat o)), .val (.int (Int32.ofNat len)), .val .null, .val (.ref s.heap.size)] [.int (Int32.ofNat N.slots.size), .ref s.heap.size, .ref a])) rfl (by rw [hml]; rfl) c10 (argsL := [.ref s.heap.size, .int (Int32.ofNat N.slots.size)]) (rest := [.ref a]) rfl rfl (by show 2 * 0 + (1 + 0) ≤ _; decide) (hb hbytes d45) (⟨rfl, n1⟩)
  obtain ⟨rfl, q11⟩ := E11
  have hB11 := hB1.mv (X8.warmed.alike.symm.trans X11.warmed.alike) q11
  have c12 : Steps p.tables e below (s₁.setTop (entryFrame m #[.ref a, .ref b, .int (Int32.ofNat o), .int (Int32.ofNat len), .null] 6)) (T11.setTop (mkF m 48 #[.val (.ref a), .val (.ref b), .val (.int (Int32.ofNat o)), .val (.int (Int32.ofNat len)), .val .null, .val (.ref s.heap.size)] [.int 0, .ref a])) := g11
  obtain ⟨T13, X13, p13, bl13, sl13, st13⟩ := X11.finit hexec hown (wk W (.fieldLink "java/lang/String" 15 "java/lang/String" "coder" "B")) (Or.inr ⟨_, (wk W (.laysFinal "java/lang/String" "java/lang/String" "coder" "B"))⟩) (Or.inl ⟨rfl, hnm⟩) f2 (Or.inl rfl) hB11 (t := .byte) (by decide +kernel) rfl (g := (mkF m 48 #[.val (.ref a), .val (.ref b), .val (.int (Int32.ofNat o)), .val (.int (Int32.ofNat len)), .val .null, .val (.ref s.heap.size)] [.int 0, .ref a])) rfl (rest := []) rfl (hb hbytes d48)
  have c14 : Steps p.tables e below (s₁.setTop (entryFrame m #[.ref a, .ref b, .int (Int32.ofNat o), .int (Int32.ofNat len), .null] 6)) (T13.setTop (mkF m 54 #[.val (.ref a), .val (.ref b), .val (.int (Int32.ofNat o)), .val (.int (Int32.ofNat len)), .val .null, .val (.ref s.heap.size)] [.ref s.heap.size, .ref a])) := (c12.trans (st13 _ (Steps.refl _))).trans (by
    refine XS.aloadN X13.here hexec rfl (hb hbytes d51) rfl rfl ?_
    refine XS.aload X13.here hexec rfl (hb hbytes d52) rfl rfl ?_
    exact Steps.refl _)
  obtain ⟨T15, X15, p15, bl15, sl15, st15⟩ := X13.finit hexec hown (wk W (.fieldLink "java/lang/String" 9 "java/lang/String" "value" "[B")) (Or.inr ⟨_, (wk W (.laysFinal "java/lang/String" "java/lang/String" "value" "[B"))⟩) (Or.inl ⟨rfl, hnm⟩) f1 (Or.inl rfl) bl13 (t := (.array .byte)) (by decide +kernel) rfl (g := (mkF m 54 #[.val (.ref a), .val (.ref b), .val (.int (Int32.ofNat o)), .val (.int (Int32.ofNat len)), .val .null, .val (.ref s.heap.size)] [.ref s.heap.size, .ref a])) rfl (rest := []) rfl (hb hbytes d54)
  have c16 : Steps p.tables e below (s₁.setTop (entryFrame m #[.ref a, .ref b, .int (Int32.ofNat o), .int (Int32.ofNat len), .null] 6)) (T15.setTop (mkF m 57 #[.val (.ref a), .val (.ref b), .val (.int (Int32.ofNat o)), .val (.int (Int32.ofNat len)), .val .null, .val (.ref s.heap.size)] [])) := c14.trans (st15 _ (Steps.refl _))
  have ap := apart (Or.inr ⟨_, (wk W (.laysFinal "java/lang/String" "java/lang/String" "value" "[B"))⟩) (Or.inr ⟨_, (wk W (.laysFinal "java/lang/String" "java/lang/String" "coder" "B"))⟩) f1 f2 (t₁ := .array .byte) (t₂ := .byte) (by decide +kernel) (by decide +kernel) (by decide)
  have al := X8.warmed.alike.symm.trans X15.warmed.alike
  have n7 : T11.heap[s.heap.size]? = some N := by rw [q11]; exact n1.1
  exact ⟨T15, none, _, _, _, X15, by simp, rfl, by omega, (fun _ => rfl), ⟨rfl, _, N, bl15, ((Same.refl D _).set _ (by simp)).set _ (by simp), sl15, (Cell.slots_setSlot_ne _ ap).trans sl13, n1.keep al (p15.other hne (p13.other hne n7)), n2, by rw [al.findClass]; exact n3, n4, n5, fun y c h1 h2 => p15.other h1 (p13.other h1 (by rw [q11]; exact n6 y c h2)), by rw [p15.2.2, p13.2.2, q11]; exact z8⟩, fun fs hl => c16.trans (X15.returnOut hexec hret (hb hbytes d57) hl)⟩
end New4
namespace New1
def yN : MethodName := ⟨"java/lang/String", "<init>", "([C)V"⟩
abbrev yB : ByteArray := jdk_42_method_3_code
theorem d0 : decode yB 0 = .ok (.aload_n 0, 1) := by decide +kernel
theorem d1 : decode yB 1 = .ok (.aload_n 1, 1) := by decide +kernel
theorem d2 : decode yB 2 = .ok (.iconst 0, 1) := by decide +kernel
theorem d3 : decode yB 3 = .ok (.aload_n 1, 1) := by decide +kernel
theorem d4 : decode yB 4 = .ok (.arraylength, 1) := by decide +kernel
theorem d5 : decode yB 5 = .ok (.aconst_null, 1) := by decide +kernel
theorem d6 : decode yB 6 = .ok (.invokespecial 27, 3) := by decide +kernel
theorem d9 : decode yB 9 = .ok (.return_, 1) := by decide +kernel
def site : List Cond := [New4.tab] ++ initW "java/lang/String" 27 New4.yN
def tab : Cond := tabOf yN yB 2 none site
def P (a : Addr) (D : Cell) (fV fC : Field) (b : Addr) (A : Cell) (z : Int32) (args : Array Value) (s : State) : Prop := args = #[.ref a, .ref b] ∧ Blank "java/lang/String" a D s ∧ Found "java/lang/String" "value" "[B" fV s ∧ Found "java/lang/String" "coder" "B" fC s ∧ Ch b A s ∧ StaticIs s "java/lang/String" "COMPACT_STRINGS" "Z" (.int z) ∧ ¬ z = 0 ∧ 0 < A.slots.size ∧ A.slots.size ≤ 536870912 ∧ ∀ i, i < A.slots.size → ¬ 255 < cv A i
def E (a : Addr) (D : Cell) (fV fC : Field) (A : Cell) (r : Option Value) (s u : State) : Prop := Got a D fV fC A 0 A.slots.size r s u
/-- new String(chars), not empty, no char above 255: a Latin-1 String of their low bytes -/
theorem law (l : Launch) (a : Addr) (D : Cell) (fV fC : Field) (b : Addr) (A : Cell) (z : Int32) : Law l yN 2 1 3 52 yB 2 none site (P a D fV fC b A z) (E a D fV fC A) [⟨a, fC.slot⟩, ⟨a, fV.slot⟩] 1 A.slots.size := by
  refine Law.of_walk (plainFor_of_name (by decide +kernel)) (by decide +kernel) (by decide +kernel) (by decide) (fun _ _ h => by rw [h.1]; rfl) (fun _ U U' hal hh h => ⟨h.1, h.2.1.mv hal hh, h.2.2.1.al hal, h.2.2.2.1.al hal, h.2.2.2.2.1.mv hal hh, h.2.2.2.2.2.1.there hal hh, h.2.2.2.2.2.2⟩) (fun r U U' V V' h1 hal h2 h => Got.mv r U U' V V' h1 hal h2 h) ?_
  intro p e s m args below meth c s₁ X0 hexec hbytes hml hret hlk hnm hown hh0 W hP
  obtain ⟨rfl, hB, f1, f2, hA, s1, hz, l0, l2, hp⟩ := hP
  have c1 : Steps p.tables e below (s₁.setTop (entryFrame m #[.ref a, .ref b] 2)) (s₁.setTop (mkF m 0 #[.val (.ref a), .val (.ref b)] [])) := entry rfl
  have c2 : Steps p.tables e below (s₁.setTop (entryFrame m #[.ref a, .ref b] 2)) (s₁.setTop (mkF m 6 #[.val (.ref a), .val (.ref b)] [.null, .int (Int32.ofNat A.slots.size), .int 0, .ref b, .ref a])) := c1.trans (by
    refine XS.aloadN X0.here hexec rfl (hb hbytes d0) rfl rfl ?_
    refine XS.aloadN X0.here hexec rfl (hb hbytes d1) rfl rfl ?_
    refine iconstV X0.here hexec rfl 0 (hb hbytes d2) (by decide) ?_
    refine XS.aloadN X0.here hexec rfl (hb hbytes d3) rfl rfl ?_
    refine X0.alen hexec (hA.1.mv X0.warmed.alike hh0) rfl rfl (hb hbytes d4) ?_
    refine XS.aconstNull X0.here hexec rfl (hb hbytes d5) ?_
    exact Steps.refl _)
  obtain ⟨v3, T3, X3, E3, g3⟩ := X0.callN hexec (New4.law l a D fV fC b A z 0 A.slots.size) rfl hown (wks W (initW "java/lang/String" 27 New4.yN)) (W New4.tab (by simp only [site, List.mem_cons, List.mem_append, true_or, or_true])) (W := 0) (Nat.le_of_ble_eq_true rfl) (Nat.le_of_ble_eq_true rfl) (Nat.le_refl _) (by show 0 + A.slots.size ≤ A.slots.size; omega) (g := (mkF m 6 #[.val (.ref a), .val (.ref b)] [.null, .int (Int32.ofNat A.slots.size), .int (Int32.ofNat 0), .ref b, .ref a])) rfl (by rw [hml]; rfl) c2 (argsL := [.ref b, .int (Int32.ofNat 0), .int (Int32.ofNat A.slots.size), .null]) (rest := []) rfl rfl (by show 2 * 0 + 0 ≤ _; decide) (hb hbytes d6) (⟨rfl, hB.mv X0.warmed.alike hh0, f1.al X0.warmed.alike, f2.al X0.warmed.alike, hA.mv X0.warmed.alike hh0, s1.there X0.warmed.alike hh0, hz, l0, by omega, l2, fun i hi => by rw [Nat.zero_add]; exact hp i hi⟩)
  have e0 := Got.mv _ s₁ s _ _ hh0.symm (Vm.Alike.refl _) rfl E3
  obtain rfl := e0.1
  have c4 : Steps p.tables e below (s₁.setTop (entryFrame m #[.ref a, .ref b] 2)) (T3.setTop (mkF m 9 #[.val (.ref a), .val (.ref b)] [])) := g3
  exact ⟨T3, none, _, _, _, X3, by simp, rfl, by omega, (fun _ => rfl), e0, fun fs hl => c4.trans (X3.returnOut hexec hret (hb hbytes d9) hl)⟩
theorem pays {l : Launch} {R : Room} {p : Program} {e : Env} {below : List Frame} {s : State} {sargs : Array Value} {len W : Nat} (a : Addr) (D : Cell) (fV fC : Field) (b : Addr) (A : Cell) (z : Int32) (htab : tab.before sargs s = true) (hfr : 4 ≤ R.frames) (hlo : W + 65 ≤ R.locals) :
    Back l R p e below s sargs yN len W (fun A₁ a₁ => A₁.cells + 1 ≤ R.cells ∧ A₁.slots + A.slots.size ≤ R.slots ∧ P a D fV fC b A z a₁ A₁.U) (fun A₁ _ v₁ B₁ => E a D fV fC A v₁ A₁.U B₁.U ∧ B₁.locs = A₁.locs ++ [⟨a, fC.slot⟩, ⟨a, fV.slot⟩] ∧ B₁.cells = A₁.cells + 1 ∧ B₁.slots = A₁.slots + A.slots.size) :=
  (law l a D fV fC b A z).pays htab hfr (by omega)
end New1
end StrChars
namespace StrChars.Road
open Jvm Sem ClassFile Op Lib Jvm.Stand Jvm.Free Jvm.Free.XT
open Jvm.Lib.Cold (StaticIs)
abbrev ST : String := "java/lang/String"
/-- every table word that New1's law asks, flat -/
abbrev words : List Jvm.Cond := [.code New1.yN New1.yB 2 none, .initialized ST, .methodLink ST 27 New4.yN, .instanceMethod New4.yN,
  .code New4.yN New4.yB 6 none, .fieldLink ST 38 ST "COMPACT_STRINGS" "Z", .laysFinal ST ST "value" "[B", .fieldLink ST 9 ST "value" "[B", .laysFinal ST ST "coder" "B", .fieldLink ST 15 ST "coder" "B",
  .methodLink ST 1 Lib.objectInit, .instanceMethod Lib.objectInit, .code Lib.objectInit ⟨#[0xb1]⟩ 1 none, .methodLink ST 177 Cmp3.yN, .static Cmp3.yN, .methodLink ST 47 CodL.yN, .static CodL.yN,
  .code Cmp3.yN Cmp3.yB 6 (some (.array .byte)), .initialized U16, .arrayClass .byte, .methodLink U16 115 Cmp5.yN, .static Cmp5.yN, .code Cmp5.yN Cmp5.yB 7 (some .int), .code CodL.yN CodL.yB 2 (some .byte)]
theorem tab_of {a : Array Value} {s : State} (h : ∀ w ∈ words, w.before a s = true) : New1.tab.before a s = true := by
  have h5 : Cmp5.tab.before a s = true := unparts (wk h (.code Cmp5.yN Cmp5.yB 7 (some .int))) (wks h (.initialized Cmp5.yN.cls :: Cmp5.site))
  have hc : CodL.tab.before a s = true := unparts (wk h (.code CodL.yN CodL.yB 2 (some .byte))) (wks h (.initialized CodL.yN.cls :: CodL.site))
  have q5 : ∀ w ∈ Cmp5.tab :: words, w.before a s = true := fun w hw => (List.mem_cons.mp hw).elim (fun e => e ▸ h5) (h w)
  have h3 : Cmp3.tab.before a s = true := unparts (wk q5 (.code Cmp3.yN Cmp3.yB 6 (some (.array .byte)))) (wks q5 (.initialized Cmp3.yN.cls :: Cmp3.site))
  have q3 : ∀ w ∈ Cmp3.tab :: CodL.tab :: words, w.before a s = true := fun w hw => (List.mem_cons.mp hw).elim (fun e => e ▸ h3) fun hw => (List.mem_cons.mp hw).elim (fun e => e ▸ hc) (h w)
  have h4 : New4.tab.before a s = true := unparts (wk q3 (.code New4.yN New4.yB 6 none)) (wks q3 (.initialized New4.yN.cls :: New4.site))
  have q4 : ∀ w ∈ New4.tab :: words, w.before a s = true := fun w hw => (List.mem_cons.mp hw).elim (fun e => e ▸ h4) (h w)
  exact unparts (wk q4 (.code New1.yN New1.yB 2 none)) (wks q4 (.initialized New1.yN.cls :: New1.site))
/-- the words ride from the start Z to the walk's own state -/
theorem moved {Z s : State} {a0 args : Array Value} (hZ : Z.Warmed39 s.vm) (hw : ∀ d ∈ words, d.before a0 Z = true) : ∀ d ∈ words, d.before args s = true := fun d hd => by
  have q := hw d hd
  have t : ∀ d ∈ words, d = .arrayClass .byte ∨ (d.onTables && d.keepsFace) = true := by decide +kernel
  rcases t d hd with rfl | t
  · exact RoadKit.mvA hZ q
  · exact RoadKit.mv hZ q t
/-- WHAT COMES BACK, over the tables of the start Z: h the heap at the call, h' behind it -/
def Q (Z : State) (x : Addr) (A : Cell) (h : Heap) (v : Option Value) (h' : Heap) (L : List Loc) : Prop := v = none ∧ (∀ y ∈ L, y.base = x) ∧ RoadKit.Keep h h' [x] ∧ h'.size = h.size + 1 ∧ RoadKit.Exa Z h' x ST ∧ RoadKit.Fld Z h' x ST "value" "[B" (.ref h.size) ∧ RoadKit.Fld Z h' x ST "coder" "B" (.int 0) ∧
  (∃ V : Cell, RoadKit.Arr Z h' h.size V .byte ∧ V.vm = .none ∧ Z.vm.findClass "[B" = some V.cls ∧ V.slots.size = A.slots.size ∧ ∀ j, j < A.slots.size → V.slots[j]? = some (.int (lo8 (cv A j)))) ∧
  ∀ (O n d : String) (w : Value), RoadKit.Fld Z h x O n d w → RoadKit.slotOf Z O n d ≠ RoadKit.slotOf Z ST "value" "[B" → RoadKit.slotOf Z O n d ≠ RoadKit.slotOf Z ST "coder" "B" → RoadKit.Fld Z h' x O n d w
/-- **new String(chars) AT A CALL, IN THE ROAD'S FORM**: for specialBack behind newO: x the fresh String, b the char[] with the cell A -/
theorem back {p : Program} {l : Launch} {e : Env} {R : Room} {s : State} {args : Array Value} {below : List Frame} {len W : Nat} {Z : State} {a0 : Array Value} {h : Heap} (hZ : Z.Warmed39 s.vm) (hw : ∀ d ∈ words, d.before a0 Z = true) {kI : Nat} (wi : (Jvm.Cond.instantiable ST kI).before a0 Z = true)
    {x b : Addr} {A : Cell} {z : Int32} {v0 c0 : Value} (E : RoadKit.Exa Z h x ST) (V : RoadKit.Fld Z h x ST "value" "[B" v0) (C : RoadKit.Fld Z h x ST "coder" "B" c0) (K : RoadKit.Arr Z h b A .char) (hty : Typed .char A) (S : RoadKit.Sta Z h ST "COMPACT_STRINGS" "Z" (.int z)) (hz : ¬ z = 0)
    (l0 : 0 < A.slots.size) (l2 : A.slots.size ≤ 536870912) (hp : ∀ i, i < A.slots.size → ¬ 255 < cv A i) (hfr : 4 ≤ R.frames) (hlo : W + 65 ≤ R.locals) :
    Back l R p e below s args New1.yN len W (fun P a => a = #[.ref x, .ref b] ∧ P.U.heap = h ∧ P.cells + 1 ≤ R.cells ∧ P.slots + A.slots.size ≤ R.slots)
      (fun P _ v B => ∃ L, Q Z x A h v B.U.heap L ∧ B.locs = P.locs ++ L ∧ B.cells = P.cells + 1 ∧ B.slots = P.slots + A.slots.size) := by
  intro m meth c P g ig mk a X hg hsize hdg hW hn hp'
  obtain ⟨rfl, rfl, r1, r2⟩ := hp'
  have al : Z.vm.Alike P.U.vm := hZ.alike.trans X.warmed.alike
  obtain ⟨D, cfV, kV, iV, fV, hD, gV, stV, knV, obV, asV, slV⟩ := id V
  obtain ⟨D', cfC, kC, iC, fC, hD', gC, stC, -, -, asC, slC⟩ := id C
  cases hD.symm.trans hD'
  obtain ⟨D2, kD, e1, e2, e3, e4, e5⟩ := id E
  cases hD.symm.trans e1
  obtain ⟨c2, k2, i1, i2, i3, -⟩ := Cond.instantiable_spec wi
  cases e2.symm.trans i1
  cases e3.symm.trans i2
  obtain ⟨kU, u1, u2⟩ := al.2.2 _ _ e3
  have hB : Blank ST x D P.U := ⟨hD, ⟨knV, fun q hq => by rw [hq] at obV; cases obV⟩, by rw [al.findClass]; exact e2, kU, u1, by rw [u2]; exact i3, by rw [u2]; exact e5 i3⟩
  have F1 : Found ST "value" "[B" fV P.U := ⟨SBG.found_only al ⟨cfV, kV, iV, gV⟩, stV⟩
  have F2 : Found ST "coder" "B" fC P.U := ⟨SBG.found_only al ⟨cfC, kC, iC, gC⟩, stC⟩
  have hA : Ch b A P.U := ⟨⟨K.1, State.isArrayOf_alike al K.2.1, K.2.2, by omega⟩, hty⟩
  have hS : StaticIs P.U ST "COMPACT_STRINGS" "Z" (.int z) := by
    obtain ⟨cfS, iS, kS, fS, st, cS, t1, t2, t3, t4, t5, t6, t7⟩ := S
    exact StaticIs.there (s := { Z with heap := P.U.heap }) ⟨cfS, iS, kS, fS, st, cS, t1, t2, t3, t4, t5, (fun q => by rw [q] at t6; cases t6), t7⟩ al rfl
  obtain ⟨v, B, X', ⟨⟨hv, E', V', q1, q2, q3, q4, q5, q6, q7, q8, q9, q10, q11⟩, hl, hc, hs⟩, st⟩ := New1.pays x D fV fC b A z (tab_of (moved hZ hw)) hfr hlo m meth c P g ig mk _ X hg hsize hdg hW hn ⟨r1, r2, rfl, hB, F1, F2, hA, hS, hz, l0, l2, hp⟩
  have al' : Z.vm.Alike B.U.vm := hZ.alike.trans X'.warmed.alike
  have hsz : E'.slots.size = D.slots.size := by
    obtain ⟨-, -, -, kB, w1, w2, w3⟩ := q1
    obtain ⟨kB', y1, y2⟩ := al'.2.2 _ _ e3
    rw [q2.2.1] at w1
    cases w1.symm.trans y1
    rw [w3, e5 i3, y2]
  refine ⟨v, B, X', ⟨_, ⟨hv, ?_, ⟨by omega, fun y cy hy hn' => q10 y cy (by simpa using hn') hy, fun y cy hy => ?_⟩, q11, ⟨E', _, q1.1, by rw [q2.2.1]; exact e2, by rw [q2.2.1]; exact e3, by rw [q2.1]; exact obV, fun _ => by rw [hsz]; exact e5 i3⟩,
    ⟨E', cfV, kV, iV, fV, q1.1, gV, stV, by rw [q2.1]; exact knV, by rw [q2.1]; exact obV, by rw [q2.2.1]; exact asV, q3⟩, ⟨E', cfC, kC, iC, fC, q1.1, gC, stC, by rw [q2.1]; exact knV, by rw [q2.1]; exact obV, by rw [q2.2.1]; exact asC, q4⟩,
    ⟨V', ⟨q5.1, State.isArrayOf_alike al'.symm q5.2.1, q5.2.2.1⟩, q6, by rw [← al'.findClass]; exact q7, q8, fun j hj => by have := q9 j hj; rwa [Nat.zero_add] at this⟩, fun O n d w F n1 n2 => ?_⟩, hl, hc, hs⟩, st⟩
  · intro y hy
    simp only [List.mem_cons, List.not_mem_nil, or_false] at hy
    rcases hy with rfl | rfl <;> rfl
  · by_cases q : y = x
    · subst q
      cases hD.symm.trans hy
      exact ⟨E', q1.1, q2.2.1, q2.1, hsz⟩
    · exact ⟨cy, q10 y cy q hy, rfl, rfl, rfl⟩
  · obtain ⟨D3, cf, k, i, f, g1, g2, g3, g4, g5, g6, g7⟩ := F
    cases hD.symm.trans g1
    simp only [RoadKit.slotOf, g2, gV, gC, Option.map_some, Option.getD_some] at n1 n2
    exact ⟨E', cf, k, i, f, q1.1, g2, g3, by rw [q2.1]; exact g4, by rw [q2.1]; exact g5, by rw [q2.2.1]; exact g6, by rw [q2.2.2 f.slot (by simp [n1, n2])]; exact g7⟩
end StrChars.Road
namespace StrChars.Road
open Jvm Sem ClassFile Op Lib Jvm.Stand Jvm.Free Jvm.Free.XT
/-- WHAT COMES BACK, the byte[] as a list of values -/
def QA (Z : State) (x : Addr) (zn : Int32) (cs : List Int32) (h : Heap) (v : Option Value) (h' : Heap) (L : List Loc) : Prop := v = none ∧ (∀ y ∈ L, y.base = x) ∧ RoadKit.Keep h h' [x] ∧ h'.size = h.size + 1 ∧ RoadKit.Exa Z h' x ST ∧ RoadKit.Fld Z h' x ST "value" "[B" (.ref h.size) ∧ RoadKit.Fld Z h' x ST "coder" "B" (.int 0) ∧
  (∃ kb, Z.vm.findClass "[B" = some kb ∧ RoadKit.Arv Z h' h.size kb .byte zn (cs.map fun c => .int (lo8 c)) (.int 0)) ∧
  ∀ (O n d : String) (w : Value), RoadKit.Fld Z h x O n d w → RoadKit.slotOf Z O n d ≠ RoadKit.slotOf Z ST "value" "[B" → RoadKit.slotOf Z O n d ≠ RoadKit.slotOf Z ST "coder" "B" → RoadKit.Fld Z h' x O n d w
/-- **new String(chars) AT A CALL, THE ARRAYS AS LISTS**: the char[] at b holds cs, not empty, no char above 255 -/
theorem backArv {p : Program} {l : Launch} {e : Env} {R : Room} {s : State} {args : Array Value} {below : List Frame} {len W : Nat} {Z : State} {a0 : Array Value} {h : Heap} (hZ : Z.Warmed39 s.vm) (hw : ∀ d ∈ words, d.before a0 Z = true) {kI : Nat} (wi : (Jvm.Cond.instantiable ST kI).before a0 Z = true)
    {x b : Addr} {k : ClassId} {zn z : Int32} {cs : List Int32} {dv v0 c0 : Value} (E : RoadKit.Exa Z h x ST) (V : RoadKit.Fld Z h x ST "value" "[B" v0) (C : RoadKit.Fld Z h x ST "coder" "B" c0) (K : RoadKit.Arv Z h b k .char zn (cs.map Value.int) dv) (S : RoadKit.Sta Z h ST "COMPACT_STRINGS" "Z" (.int z)) (hz : ¬ z = 0)
    (hlen : zn.toNatClampNeg = cs.length) (h0 : 0 < cs.length) (hbig : cs.length ≤ 536870912) (hall : ∀ c ∈ cs, ¬ 255 < c) (hfr : 4 ≤ R.frames) (hlo : W + 65 ≤ R.locals) :
    Back l R p e below s args New1.yN len W (fun P a => a = #[.ref x, .ref b] ∧ P.U.heap = h ∧ P.cells + 1 ≤ R.cells ∧ P.slots + cs.length ≤ R.slots)
      (fun P _ v B => ∃ L, QA Z x zn cs h v B.U.heap L ∧ B.locs = P.locs ++ L ∧ B.cells = P.cells + 1 ∧ B.slots = P.slots + cs.length) := by
  obtain ⟨A, K1, K2, K3, K4, K5, K6⟩ := K
  have e : A.slots.size = cs.length := K3.trans hlen
  have hat : ∀ (i : Nat) (hi : i < cs.length), A.slots[i]? = some (.int cs[i]) := fun i hi => by rw [K5 i (by omega)]; simp [List.getD_eq_getElem?_getD, hi]
  have hcv : ∀ (i : Nat) (hi : i < cs.length), cv A i = cs[i] := fun i hi => by unfold cv; rw [hat i hi]
  have hty : Typed .char A := fun i v hv => by
    have hi : i < A.slots.size := (Array.getElem?_eq_some_iff.mp hv).1
    have q := K5 i hi
    rw [hv] at q
    rw [Option.some.inj q]
    exact K6 i hi
  refine Back.mono (back hZ hw wi E V C K1 hty S hz (by omega) (by omega) (fun i hi => by rw [hcv i (by omega)]; exact hall _ (List.getElem_mem _)) hfr hlo) (fun P a hp => ⟨hp.1, hp.2.1, hp.2.2.1, by rw [e]; exact hp.2.2.2⟩) (fun P a v B hp hq => ?_)
  obtain ⟨L, ⟨q1, q2, q3, q4, q5, q6, q7, ⟨V', v1, v2, v3, v4, v5⟩, q9⟩, hl, hc, hs⟩ := hq
  refine ⟨L, ⟨q1, q2, q3, q4, q5, q6, q7, ⟨V'.cls, v3, V', v1, rfl, by rw [v4, e, hlen], K4, fun i hi => ?_, fun i hi => ?_⟩, q9⟩, hl, hc, by rw [hs, e]⟩
  · have hi' : i < cs.length := by omega
    rw [v5 i (by omega), hcv i hi']; simp [List.getD_eq_getElem?_getD, hi']
  · have hi' : i < cs.length := by omega
    simp only [List.getD_eq_getElem?_getD, List.getElem?_map, List.getElem?_eq_getElem hi', Option.map_some, Option.getD_some]
    exact fits_lo8 _
end StrChars.Road
namespace StrChars.Road
open Jvm Sem ClassFile Op Lib Jvm.Stand Jvm.Free Jvm.Free.XT
/-- WHAT COMES BACK, in the writer's own shape -/
def QV (Z : State) (x : Addr) (N : Int32) (bs : List Int32) (h : Heap) (n0 : Nat) (v : Option Value) (h' : Heap) (L : List Loc) : Prop := v = none ∧ RoadKit.Fr n0 L ∧ RoadKit.Keep h h' [x] ∧ RoadKit.Exa Z h' x ST ∧ RoadKit.Fld Z h' x ST "coder" "B" (.int 0) ∧
  ∃ (t : Addr) (kb : ClassId), n0 ≤ t ∧ h.size ≤ t ∧ ¬ t = x ∧ RoadKit.Fld Z h' x ST "value" "[B" (.ref t) ∧ RoadKit.Arv Z h' t kb .byte N (bs.map Value.int) (.int 0)
/-- **new String(chars) AT A CALL, FOR THE WRITER**: a char[] of n known ints, each 0 to 255 -/
theorem backV {p : Program} {l : Launch} {e : Env} {R : Room} {s : State} {args : Array Value} {below : List Frame} {len W : Nat} {Z : State} {a0 : Array Value} {h : Heap} (hZ : Z.Warmed39 s.vm) (hw : ∀ d ∈ words, d.before a0 Z = true) {kI : Nat} (wi : (Jvm.Cond.instantiable ST kI).before a0 Z = true)
    {x b : Addr} {kC : ClassId} {cs bs : List Int32} {d v0 c0 : Value} {z N : Int32} {n n0 : Nat} (hx0 : n0 ≤ x) (hh0 : n0 ≤ h.size) (E : RoadKit.Exa Z h x ST) (V : RoadKit.Fld Z h x ST "value" "[B" v0) (C : RoadKit.Fld Z h x ST "coder" "B" c0) (K : RoadKit.Arv Z h b kC .char N (cs.map Value.int) d) (S : RoadKit.Sta Z h ST "COMPACT_STRINGS" "Z" (.int z)) (hz : ¬ z = 0)
    (hn : cs.length = n) (hN : N = Int32.ofNat n) (l0 : 0 < n) (l2 : n ≤ 4000) (hp : ∀ c ∈ cs, ¬ c < 0 ∧ ¬ (255 : Int32) < c) (hb : bs = cs.map (fun c => c.toInt8.toInt32)) (hfr : 4 ≤ R.frames) (hlo : W + 65 ≤ R.locals) :
    Back l R p e below s args (⟨"java/lang/String", "<init>", "([C)V"⟩ : MethodName) len W (fun P a => a = #[.ref x, .ref b] ∧ P.U.heap = h ∧ P.cells + 1 ≤ R.cells ∧ P.slots + n ≤ R.slots)
      (fun P _ v B => ∃ L, QV Z x N bs h n0 v B.U.heap L ∧ B.locs = P.locs ++ L ∧ B.cells = P.cells + 1 ∧ B.slots = P.slots + n) := by
  subst hn hN hb
  refine Back.mono (backArv hZ hw wi E V C K S hz (n32 (by omega)) l0 (by omega) (fun c hc => (hp c hc).2) hfr hlo) (fun P a hp => hp) (fun P a v B hp hq => ?_)
  obtain ⟨L, ⟨q1, q2, q3, q4, q5, q6, q7, ⟨kb, v1, v2⟩, q9⟩, hl, hc, hs⟩ := hq
  exact ⟨L, ⟨q1, fun y hy => by rw [q2 y hy]; exact hx0, q3, q5, q7, h.size, kb, hh0, Nat.le_refl _, Nat.ne_of_gt E.lt, q6, by rw [List.map_map]; exact v2⟩, hl, hc, hs⟩
end StrChars.Road
end Jvm.Pilot.@@N@@
namespace Jvm.Pilot.@@N@@
open Jvm Jvm.ClassFile Sem Op Lib Jvm.Free Jvm.Stand Jvm.LawKit Jvm.RoadKit Bundle Jvm.Pilot.@@N@@.Jvm.D
/-! THE LAYER own_: 'Ends': from this state the body ends as Q says; one lemma an instruction, over frames in the form mkF -/
section Own
variable {p : Program} {l : Launch} {e : Env} {R : Room} {s : State} {m : MethodId} {args : Array Value} {below : List Frame} {meth : Method} {c : Code} {T : State} {locs : List Loc} {cells slots : Nat}
variable {Q : Option Value → Heap → List Loc → Prop} {C S : Nat} {bc : ByteArray} {pc pc' : Nat} {Ls Ls' : Array Slot} {st : List Value} {Fz : Outcome → State → Prop}
def Ends (tb : Tables) (e : Env) (below : List Frame) (Fz : Outcome → State → Prop) (t : State) : Prop :=
  ∃ s₂ o, Steps tb e below t s₂ ∧ s₂.status = .running ∧ Ended s₂ below o ∧ Fz o s₂
def OwnFin (s : State) (Q : Option Value → Heap → List Loc → Prop) (C S : Nat) (o : Outcome) (s₂ : State) : Prop := ∃ v L, o = .returned v ∧ Q v s₂.heap L ∧ FrameEnd s o s₂ L C S
theorem Ends.of {tb : Tables} {t t' : State} (st : ∀ target, Steps tb e below t' target → Steps tb e below t target) (k : Ends tb e below Fz t') : Ends tb e below Fz t := by
  obtain ⟨s₂, o, h1, h2⟩ := k
  exact ⟨s₂, o, st _ h1, h2⟩
theorem Ends.tr {tb : Tables} {t t' : State} (st : Steps tb e below t t') (k : Ends tb e below Fz t') : Ends tb e below Fz t := Ends.of (fun _ q => st.trans q) k
theorem own_iloadN (X : Stand p l e R s m args below meth c T locs cells slots) (hx : p.tables.exec = Jvm.exec) (hby : c.code = bc) {k : Fin 4} {v : Int32} (hd : decode bc pc = .ok (.iload_n k, 1)) (hp : pc + 1 = pc') (hl : Ls[k.val]? = some (.val (.int v)))
    (kt : Ends p.tables e below Fz (T.setTop (mkF m pc' Ls (.int v :: st)))) : Ends p.tables e below Fz (T.setTop (mkF m pc Ls st)) := by
  subst hp; exact Ends.of (fun _ q => XS.iloadN X.here hx rfl (hb hby hd) hl q) kt
theorem own_iload (X : Stand p l e R s m args below meth c T locs cells slots) (hx : p.tables.exec = Jvm.exec) (hby : c.code = bc) {k : Nat} {v : Int32} (hd : decode bc pc = .ok (.iload k, 2)) (hp : pc + 2 = pc') (hl : Ls[k]? = some (.val (.int v)))
    (kt : Ends p.tables e below Fz (T.setTop (mkF m pc' Ls (.int v :: st)))) : Ends p.tables e below Fz (T.setTop (mkF m pc Ls st)) := by
  subst hp; exact Ends.of (fun _ q => XS.iload X.here hx rfl (hb hby hd) hl q) kt
theorem own_aloadN (X : Stand p l e R s m args below meth c T locs cells slots) (hx : p.tables.exec = Jvm.exec) (hby : c.code = bc) {k : Fin 4} {v : Value} (hd : decode bc pc = .ok (.aload_n k, 1)) (hp : pc + 1 = pc') (hl : Ls[k.val]? = some (.val v)) (hv : v.isRef = true)
    (kt : Ends p.tables e below Fz (T.setTop (mkF m pc' Ls (v :: st)))) : Ends p.tables e below Fz (T.setTop (mkF m pc Ls st)) := by
  subst hp; exact Ends.of (fun _ q => XS.aloadN X.here hx rfl (hb hby hd) hl hv q) kt
theorem own_aload (X : Stand p l e R s m args below meth c T locs cells slots) (hx : p.tables.exec = Jvm.exec) (hby : c.code = bc) {k : Nat} {v : Value} (hd : decode bc pc = .ok (.aload k, 2)) (hp : pc + 2 = pc') (hl : Ls[k]? = some (.val v)) (hv : v.isRef = true)
    (kt : Ends p.tables e below Fz (T.setTop (mkF m pc' Ls (v :: st)))) : Ends p.tables e below Fz (T.setTop (mkF m pc Ls st)) := by
  subst hp; exact Ends.of (fun _ q => XS.aload X.here hx rfl (hb hby hd) hl hv q) kt
theorem own_istoreN (X : Stand p l e R s m args below meth c T locs cells slots) (hx : p.tables.exec = Jvm.exec) (hby : c.code = bc) {k : Fin 4} {v : Int32} (hd : decode bc pc = .ok (.istore_n k, 1)) (hp : pc + 1 = pc') (Ls' : Array Slot) (hl : storeLocals Ls k.val (.int v) = some Ls')
    (kt : Ends p.tables e below Fz (T.setTop (mkF m pc' Ls' st))) : Ends p.tables e below Fz (T.setTop (mkF m pc Ls (.int v :: st))) := by
  subst hp; exact Ends.of (fun _ q => XS.istoreN X.here hx rfl (hb hby hd) rfl hl q) kt
theorem own_istore (X : Stand p l e R s m args below meth c T locs cells slots) (hx : p.tables.exec = Jvm.exec) (hby : c.code = bc) {k : Nat} {v : Int32} (hd : decode bc pc = .ok (.istore k, 2)) (hp : pc + 2 = pc') (Ls' : Array Slot) (hl : storeLocals Ls k (.int v) = some Ls')
    (kt : Ends p.tables e below Fz (T.setTop (mkF m pc' Ls' st))) : Ends p.tables e below Fz (T.setTop (mkF m pc Ls (.int v :: st))) := by
  subst hp; exact Ends.of (fun _ q => XS.istore X.here hx rfl (hb hby hd) rfl hl q) kt
theorem own_astoreN (X : Stand p l e R s m args below meth c T locs cells slots) (hx : p.tables.exec = Jvm.exec) (hby : c.code = bc) {k : Fin 4} {v : Value} (hd : decode bc pc = .ok (.astore_n k, 1)) (hp : pc + 1 = pc') (Ls' : Array Slot) (hv : v.isRef = true) (hl : storeLocals Ls k.val v = some Ls')
    (kt : Ends p.tables e below Fz (T.setTop (mkF m pc' Ls' st))) : Ends p.tables e below Fz (T.setTop (mkF m pc Ls (v :: st))) := by
  subst hp; exact Ends.of (fun _ q => XS.astoreN X.here hx rfl (hb hby hd) rfl hv hl q) kt
theorem own_astore (X : Stand p l e R s m args below meth c T locs cells slots) (hx : p.tables.exec = Jvm.exec) (hby : c.code = bc) {k : Nat} {v : Value} (hd : decode bc pc = .ok (.astore k, 2)) (hp : pc + 2 = pc') (Ls' : Array Slot) (hv : v.isRef = true) (hl : storeLocals Ls k v = some Ls')
    (kt : Ends p.tables e below Fz (T.setTop (mkF m pc' Ls' st))) : Ends p.tables e below Fz (T.setTop (mkF m pc Ls (v :: st))) := by
  subst hp; exact Ends.of (fun _ q => XS.astore X.here hx rfl (hb hby hd) rfl hv hl q) kt
theorem own_iconst (X : Stand p l e R s m args below meth c T locs cells slots) (hx : p.tables.exec = Jvm.exec) (hby : c.code = bc) {i : Int} (hd : decode bc pc = .ok (.iconst i, 1)) (hp : pc + 1 = pc') (v : Int32) (hv : Int32.ofInt i = v)
    (kt : Ends p.tables e below Fz (T.setTop (mkF m pc' Ls (.int v :: st)))) : Ends p.tables e below Fz (T.setTop (mkF m pc Ls st)) := by
  subst hp; exact Ends.of (fun _ q => by subst hv; exact XS.iconst X.here hx rfl (hb hby hd) q) kt
theorem own_bipush (X : Stand p l e R s m args below meth c T locs cells slots) (hx : p.tables.exec = Jvm.exec) (hby : c.code = bc) {i : Int} (hd : decode bc pc = .ok (.bipush i, 2)) (hp : pc + 2 = pc') (v : Int32) (hv : (Int8.ofInt i).toInt32 = v)
    (kt : Ends p.tables e below Fz (T.setTop (mkF m pc' Ls (.int v :: st)))) : Ends p.tables e below Fz (T.setTop (mkF m pc Ls st)) := by
  subst hp; exact Ends.of (fun _ q => by subst hv; exact XS.bipush X.here hx rfl (hb hby hd) q) kt
theorem own_sipush (X : Stand p l e R s m args below meth c T locs cells slots) (hx : p.tables.exec = Jvm.exec) (hby : c.code = bc) {i : Int} (hd : decode bc pc = .ok (.sipush i, 3)) (hp : pc + 3 = pc') (v : Int32) (hv : (Int16.ofInt i).toInt32 = v)
    (kt : Ends p.tables e below Fz (T.setTop (mkF m pc' Ls (.int v :: st)))) : Ends p.tables e below Fz (T.setTop (mkF m pc Ls st)) := by
  subst hp; exact Ends.of (fun _ q => by subst hv; exact XS.sipush X.here hx rfl (hb hby hd) q) kt
theorem own_aconstNull (X : Stand p l e R s m args below meth c T locs cells slots) (hx : p.tables.exec = Jvm.exec) (hby : c.code = bc)  (hd : decode bc pc = .ok (.aconst_null, 1)) (hp : pc + 1 = pc')
    (kt : Ends p.tables e below Fz (T.setTop (mkF m pc' Ls (.null :: st)))) : Ends p.tables e below Fz (T.setTop (mkF m pc Ls st)) := by
  subst hp; exact Ends.of (fun _ q => XS.aconstNull X.here hx rfl (hb hby hd) q) kt
theorem own_iadd (X : Stand p l e R s m args below meth c T locs cells slots) (hx : p.tables.exec = Jvm.exec) (hby : c.code = bc) {x y : Int32} (hd : decode bc pc = .ok (.iadd, 1)) (hp : pc + 1 = pc')
    (kt : Ends p.tables e below Fz (T.setTop (mkF m pc' Ls (.int (x + y) :: st)))) : Ends p.tables e below Fz (T.setTop (mkF m pc Ls (.int y :: .int x :: st))) := by
  subst hp; exact Ends.of (fun _ q => XS.iadd X.here hx rfl (hb hby hd) rfl q) kt
theorem own_iand (X : Stand p l e R s m args below meth c T locs cells slots) (hx : p.tables.exec = Jvm.exec) (hby : c.code = bc) {x y : Int32} (hd : decode bc pc = .ok (.iand, 1)) (hp : pc + 1 = pc')
    (kt : Ends p.tables e below Fz (T.setTop (mkF m pc' Ls (.int (x &&& y) :: st)))) : Ends p.tables e below Fz (T.setTop (mkF m pc Ls (.int y :: .int x :: st))) := by
  subst hp; exact Ends.of (fun _ q => XS.iand X.here hx rfl (hb hby hd) rfl q) kt
theorem own_i2b (X : Stand p l e R s m args below meth c T locs cells slots) (hx : p.tables.exec = Jvm.exec) (hby : c.code = bc) {x : Int32} (hd : decode bc pc = .ok (.i2b, 1)) (hp : pc + 1 = pc')
    (kt : Ends p.tables e below Fz (T.setTop (mkF m pc' Ls (.int x.toInt8.toInt32 :: st)))) : Ends p.tables e below Fz (T.setTop (mkF m pc Ls (.int x :: st))) := by
  subst hp; exact Ends.of (fun _ q => Jvm.Free.XT.i2b X.here hx rfl (hb hby hd) rfl q) kt
theorem own_i2c (X : Stand p l e R s m args below meth c T locs cells slots) (hx : p.tables.exec = Jvm.exec) (hby : c.code = bc) {x : Int32} (hd : decode bc pc = .ok (.i2c, 1)) (hp : pc + 1 = pc')
    (kt : Ends p.tables e below Fz (T.setTop (mkF m pc' Ls (.int x.toUInt32.toUInt16.toUInt32.toInt32 :: st)))) : Ends p.tables e below Fz (T.setTop (mkF m pc Ls (.int x :: st))) := by
  subst hp; exact Ends.of (fun _ q => Jvm.Free.XT.i2c X.here hx rfl (hb hby hd) rfl q) kt
theorem own_dup (X : Stand p l e R s m args below meth c T locs cells slots) (hx : p.tables.exec = Jvm.exec) (hby : c.code = bc) {v : Value} (hd : decode bc pc = .ok (.dup, 1)) (hp : pc + 1 = pc') (hc : v.category = 1)
    (kt : Ends p.tables e below Fz (T.setTop (mkF m pc' Ls (v :: v :: st)))) : Ends p.tables e below Fz (T.setTop (mkF m pc Ls (v :: st))) := by
  subst hp; exact Ends.of (fun _ q => XS.dup X.here hx rfl (hb hby hd) rfl hc q) kt
theorem own_pop (X : Stand p l e R s m args below meth c T locs cells slots) (hx : p.tables.exec = Jvm.exec) (hby : c.code = bc) {v : Value} (hd : decode bc pc = .ok (.pop, 1)) (hp : pc + 1 = pc') (hc : v.category = 1)
    (kt : Ends p.tables e below Fz (T.setTop (mkF m pc' Ls st))) : Ends p.tables e below Fz (T.setTop (mkF m pc Ls (v :: st))) := by
  subst hp; exact Ends.of (fun _ q => Jvm.Free.XT.pop X.here hx rfl (hb hby hd) rfl hc q) kt
theorem own_dupX1 (X : Stand p l e R s m args below meth c T locs cells slots) (hx : p.tables.exec = Jvm.exec) (hby : c.code = bc) {u v : Value} (hd : decode bc pc = .ok (.dup_x1, 1)) (hp : pc + 1 = pc') (hc : u.category = 1) (hc' : v.category = 1)
    (kt : Ends p.tables e below Fz (T.setTop (mkF m pc' Ls (u :: v :: u :: st)))) : Ends p.tables e below Fz (T.setTop (mkF m pc Ls (u :: v :: st))) := by
  subst hp; exact Ends.of (fun _ q => Jvm.Free.XT.dupX1 X.here hx rfl (hb hby hd) rfl hc hc' q) kt
theorem own_goto (X : Stand p l e R s m args below meth c T locs cells slots) (hx : p.tables.exec = Jvm.exec) (hby : c.code = bc) {o : Int} (hd : decode bc pc = .ok (.goto o, 3)) (hp : (pc : Int) + o = (pc' : Int)) (kt : Ends p.tables e below Fz (T.setTop (mkF m pc' Ls st))) : Ends p.tables e below Fz (T.setTop (mkF m pc Ls st)) :=
  Ends.of (fun _ q => XS.goto X.here hx rfl (pc0 := pc) (pc' := pc') rfl (hb hby hd) (by rw [hp]; exact Int.natCast_nonneg _) (by rw [hp]; rfl) q) kt
theorem own_icmp_ne (X : Stand p l e R s m args below meth c T locs cells slots) (hx : p.tables.exec = Jvm.exec) (hby : c.code = bc) {x y : Int32} {o : Int} {pcY pcN : Nat} (hd : decode bc pc = .ok (.if_icmp .ne o, 3)) (hpY : (pc : Int) + o = (pcY : Int)) (hpN : pc + 3 = pcN) (kY : ¬ x = y → Ends p.tables e below Fz (T.setTop (mkF m pcY Ls st))) (kN : x = y → Ends p.tables e below Fz (T.setTop (mkF m pcN Ls st))) : Ends p.tables e below Fz (T.setTop (mkF m pc Ls (.int y :: .int x :: st))) := by
  subst hpN; by_cases h : x = y
  · exact Ends.of (fun _ q => XS.icmpNo X.here hx rfl (hb hby hd) rfl (Jvm.Free.XT.ii_ne_f h) q) (kN h)
  · exact Ends.of (fun _ q => XS.icmpYes X.here hx rfl (pc0 := pc) (pc' := pcY) rfl (hb hby hd) rfl (Jvm.Free.XT.ii_ne_t h) (by rw [hpY]; exact Int.natCast_nonneg _) (by rw [hpY]; rfl) q) (kY h)
theorem own_icmp_lt (X : Stand p l e R s m args below meth c T locs cells slots) (hx : p.tables.exec = Jvm.exec) (hby : c.code = bc) {x y : Int32} {o : Int} {pcY pcN : Nat} (hd : decode bc pc = .ok (.if_icmp .lt o, 3)) (hpY : (pc : Int) + o = (pcY : Int)) (hpN : pc + 3 = pcN) (kY : x.toInt < y.toInt → Ends p.tables e below Fz (T.setTop (mkF m pcY Ls st))) (kN : y.toInt ≤ x.toInt → Ends p.tables e below Fz (T.setTop (mkF m pcN Ls st))) : Ends p.tables e below Fz (T.setTop (mkF m pc Ls (.int y :: .int x :: st))) := by
  subst hpN; by_cases h : x < y
  · exact Ends.of (fun _ q => XS.icmpYes X.here hx rfl (pc0 := pc) (pc' := pcY) rfl (hb hby hd) rfl (Jvm.Free.XT.ii_lt_t h) (by rw [hpY]; exact Int.natCast_nonneg _) (by rw [hpY]; rfl) q) (kY (Int32.lt_iff_toInt_lt.mp h))
  · exact Ends.of (fun _ q => XS.icmpNo X.here hx rfl (hb hby hd) rfl (Jvm.Free.XT.ii_lt_f h) q) (kN (Int.not_lt.mp fun q => h (Int32.lt_iff_toInt_lt.mpr q)))
theorem own_icmp_gt (X : Stand p l e R s m args below meth c T locs cells slots) (hx : p.tables.exec = Jvm.exec) (hby : c.code = bc) {x y : Int32} {o : Int} {pcY pcN : Nat} (hd : decode bc pc = .ok (.if_icmp .gt o, 3)) (hpY : (pc : Int) + o = (pcY : Int)) (hpN : pc + 3 = pcN) (kY : y.toInt < x.toInt → Ends p.tables e below Fz (T.setTop (mkF m pcY Ls st))) (kN : x.toInt ≤ y.toInt → Ends p.tables e below Fz (T.setTop (mkF m pcN Ls st))) : Ends p.tables e below Fz (T.setTop (mkF m pc Ls (.int y :: .int x :: st))) := by
  subst hpN; by_cases h : y < x
  · exact Ends.of (fun _ q => XS.icmpYes X.here hx rfl (pc0 := pc) (pc' := pcY) rfl (hb hby hd) rfl (Jvm.Free.XT.ii_gt_t h) (by rw [hpY]; exact Int.natCast_nonneg _) (by rw [hpY]; rfl) q) (kY (Int32.lt_iff_toInt_lt.mp h))
  · exact Ends.of (fun _ q => XS.icmpNo X.here hx rfl (hb hby hd) rfl (Jvm.Free.XT.ii_gt_f h) q) (kN (Int.not_lt.mp fun q => h (Int32.lt_iff_toInt_lt.mpr q)))
theorem own_if_eq (X : Stand p l e R s m args below meth c T locs cells slots) (hx : p.tables.exec = Jvm.exec) (hby : c.code = bc) {x : Int32} {o : Int} {pcY pcN : Nat} (hd : decode bc pc = .ok (.ifCond .eq o, 3)) (hpY : (pc : Int) + o = (pcY : Int)) (hpN : pc + 3 = pcN) (kY : x = 0 → Ends p.tables e below Fz (T.setTop (mkF m pcY Ls st))) (kN : ¬ x = 0 → Ends p.tables e below Fz (T.setTop (mkF m pcN Ls st))) : Ends p.tables e below Fz (T.setTop (mkF m pc Ls (.int x :: st))) := by
  subst hpN; by_cases h : x = (0 : Int32)
  · exact Ends.of (fun _ q => XS.ifYes X.here hx rfl (pc0 := pc) (pc' := pcY) rfl (hb hby hd) rfl (Jvm.Free.XT.i0_eq_t h) (by rw [hpY]; exact Int.natCast_nonneg _) (by rw [hpY]; rfl) q) (kY h)
  · exact Ends.of (fun _ q => XS.ifNo X.here hx rfl (hb hby hd) rfl (Jvm.Free.XT.i0_eq_f h) q) (kN h)
theorem own_if_ne (X : Stand p l e R s m args below meth c T locs cells slots) (hx : p.tables.exec = Jvm.exec) (hby : c.code = bc) {x : Int32} {o : Int} {pcY pcN : Nat} (hd : decode bc pc = .ok (.ifCond .ne o, 3)) (hpY : (pc : Int) + o = (pcY : Int)) (hpN : pc + 3 = pcN) (kY : ¬ x = 0 → Ends p.tables e below Fz (T.setTop (mkF m pcY Ls st))) (kN : x = 0 → Ends p.tables e below Fz (T.setTop (mkF m pcN Ls st))) : Ends p.tables e below Fz (T.setTop (mkF m pc Ls (.int x :: st))) := by
  subst hpN; by_cases h : x = (0 : Int32)
  · exact Ends.of (fun _ q => XS.ifNo X.here hx rfl (hb hby hd) rfl (Jvm.Free.XT.i0_ne_f h) q) (kN h)
  · exact Ends.of (fun _ q => XS.ifYes X.here hx rfl (pc0 := pc) (pc' := pcY) rfl (hb hby hd) rfl (Jvm.Free.XT.i0_ne_t h) (by rw [hpY]; exact Int.natCast_nonneg _) (by rw [hpY]; rfl) q) (kY h)
theorem own_if_gt (X : Stand p l e R s m args below meth c T locs cells slots) (hx : p.tables.exec = Jvm.exec) (hby : c.code = bc) {x : Int32} {o : Int} {pcY pcN : Nat} (hd : decode bc pc = .ok (.ifCond .gt o, 3)) (hpY : (pc : Int) + o = (pcY : Int)) (hpN : pc + 3 = pcN) (kY : (0 : Int) < x.toInt → Ends p.tables e below Fz (T.setTop (mkF m pcY Ls st))) (kN : x.toInt ≤ (0 : Int) → Ends p.tables e below Fz (T.setTop (mkF m pcN Ls st))) : Ends p.tables e below Fz (T.setTop (mkF m pc Ls (.int x :: st))) := by
  subst hpN; by_cases h : (0 : Int32) < x
  · exact Ends.of (fun _ q => XS.ifYes X.here hx rfl (pc0 := pc) (pc' := pcY) rfl (hb hby hd) rfl (Jvm.Free.XT.i0_gt_t h) (by rw [hpY]; exact Int.natCast_nonneg _) (by rw [hpY]; rfl) q) (kY (Int32.lt_iff_toInt_lt.mp h))
  · exact Ends.of (fun _ q => XS.ifNo X.here hx rfl (hb hby hd) rfl (Jvm.Free.XT.i0_gt_f h) q) (kN (Int.not_lt.mp fun q => h (Int32.lt_iff_toInt_lt.mpr q)))
theorem own_acmp_eq (X : Stand p l e R s m args below meth c T locs cells slots) (hx : p.tables.exec = Jvm.exec) (hby : c.code = bc) {x y : Value} {o : Int} {pcY pcN : Nat} (hd : decode bc pc = .ok (.if_acmp .eq o, 3)) (hpY : (pc : Int) + o = (pcY : Int)) (hpN : pc + 3 = pcN) (h1 : x.isRef = true) (h2 : y.isRef = true) (kY : x = y → Ends p.tables e below Fz (T.setTop (mkF m pcY Ls st))) (kN : ¬ x = y → Ends p.tables e below Fz (T.setTop (mkF m pcN Ls st))) : Ends p.tables e below Fz (T.setTop (mkF m pc Ls (y :: x :: st))) := by
  subst hpN; by_cases h : x = y
  · exact Ends.of (fun _ q => Jvm.RoadKit.acmp (g := mkF m pc Ls (y :: x :: st)) X hx rfl h1 h2 (pc0 := pc) (same := true) rfl (hb hby hd) rfl (decide_eq_true h) (by rw [hpY]; exact Int.natCast_nonneg _) rfl (by simpa [acV, hpY] using q)) (kY h)
  · exact Ends.of (fun _ q => Jvm.RoadKit.acmp (g := mkF m pc Ls (y :: x :: st)) X hx rfl h1 h2 (pc0 := pc) (same := false) rfl (hb hby hd) rfl (decide_eq_false h) (by rw [hpY]; exact Int.natCast_nonneg _) rfl (by simpa [acV] using q)) (kN h)
theorem own_ifnullYes (X : Stand p l e R s m args below meth c T locs cells slots) (hx : p.tables.exec = Jvm.exec) (hby : c.code = bc) {o : Int} {pcY : Nat} (hd : decode bc pc = .ok (.ifnull o, 3)) (hpY : (pc : Int) + o = (pcY : Int)) (kt : Ends p.tables e below Fz (T.setTop (mkF m pcY Ls st))) : Ends p.tables e below Fz (T.setTop (mkF m pc Ls (.null :: st))) :=
  Ends.of (fun _ q => XS.ifnullYes X.here hx rfl (pc0 := pc) (pc' := pcY) rfl (hb hby hd) rfl (by rw [hpY]; exact Int.natCast_nonneg _) (by rw [hpY]; rfl) q) kt
theorem own_ifnullNo (X : Stand p l e R s m args below meth c T locs cells slots) (hx : p.tables.exec = Jvm.exec) (hby : c.code = bc) {b : Addr} {o : Int} (hd : decode bc pc = .ok (.ifnull o, 3)) (hp : pc + 3 = pc') (kt : Ends p.tables e below Fz (T.setTop (mkF m pc' Ls st))) : Ends p.tables e below Fz (T.setTop (mkF m pc Ls (.ref b :: st))) := by
  subst hp; exact Ends.of (fun _ q => XS.ifnullNo X.here hx rfl (hb hby hd) rfl q) kt
theorem own_ret (X : Stand p l e R s m args below meth c T locs cells slots) (hx : p.tables.exec = Jvm.exec) (hby : c.code = bc) {v : Value} {t : FieldType} {i : Instr} (hret : meth.sig.returnType = some t) (hk : meth.locks = false) (hd : decode bc pc = .ok (i, 1)) (v' : Value) (hn : narrow t v = v')
    (hi : (i = .ireturn ∧ (t = .int ∨ t = .boolean ∨ t = .byte ∨ t = .char ∨ t = .short) ∧ ∃ z, v = .int z) ∨ (i = .lreturn ∧ t = .long ∧ ∃ z, v = .long z) ∨ (i = .areturn ∧ t.isReference = true ∧ v.isRef = true))
    (hC : cells ≤ C) (hS : slots ≤ S) (q : Q (some v') T.heap locs) : Ends p.tables e below (OwnFin s Q C S) (T.setTop (mkF m pc Ls (v :: st))) := by
  obtain ⟨fs, hr, hrun, hended, hW, hsame⟩ := X.leave (v := some v') (fun h => by rw [hret] at h; cases h) hk
  refine ⟨_, _, ?_, hrun, hended, _, _, rfl, q, ⟨_, rfl⟩, hW, hsame.mono hC hS⟩
  have hm' : T.vm.method? m = some meth := X.method'
  show Steps p.tables e below (T.setTop { method := m, pc := pc, locals := Ls, stack := v :: st, locked := none }) _
  have hd' := hb hby hd
  rcases hi with ⟨rfl, ht, z, rfl⟩ | ⟨rfl, rfl, z, rfl⟩ | ⟨rfl, ht, hv⟩
  · rcases ht with rfl | rfl | rfl | rfl | rfl <;> (jvm_step X.here [X.here.top, hx, hd', hm', hret, hn]; first | (intro acts; rw [hr _ acts rfl rfl rfl]) | rw [hr _ _ rfl rfl rfl]) <;> exact Steps.refl _
  · have hn2 : Value.long z = v' := hn
    subst hn2
    jvm_step X.here [X.here.top, hx, hd', hm', hret, hn]
    first | (intro acts; rw [hr _ acts rfl rfl rfl]) | rw [hr _ _ rfl rfl rfl]
    exact Steps.refl _
  · have hn2 : v = v' := by rw [← hn]; rcases ref_cases hv with rfl | ⟨z, rfl⟩ <;> cases t <;> rfl
    subst hn2
    jvm_step X.here [X.here.top, hx, hd', hm', hret, hn, ht, hv]
    first | (intro acts; rw [hr _ acts rfl rfl rfl]) | rw [hr _ _ rfl rfl rfl]
    exact Steps.refl _
theorem own_retV (X : Stand p l e R s m args below meth c T locs cells slots) (hx : p.tables.exec = Jvm.exec) (hby : c.code = bc) (hret : meth.sig.returnType = none) (hk : meth.locks = false) (hd : decode bc pc = .ok (.return_, 1)) (hC : cells ≤ C) (hS : slots ≤ S) (q : Q none T.heap locs) : Ends p.tables e below (OwnFin s Q C S) (T.setTop (mkF m pc Ls [])) := by
  obtain ⟨fs, hr, hrun, hended, hW, hsame⟩ := X.leave (v := none) (fun _ => rfl) hk
  exact ⟨_, _, X.returnOut hx hret (hb hby hd) hr, hrun, hended, _, _, rfl, q, ⟨_, rfl⟩, hW, hsame.mono hC hS⟩
end Own
section OwnH
variable {p : Program} {l : Launch} {e : Env} {R : Room} {s : State} {m : MethodId} {args : Array Value} {below : List Frame} {meth : Method} {c : Code} {T : State} {locs : List Loc} {cells slots : Nat}
variable {Fz : Outcome → State → Prop} {bc : ByteArray} {pc pc' : Nat} {Ls Ls' : Array Slot} {st : List Value}
variable {Z : State} {a0 : Array Value} {h h0 : Heap} {n0 : Nat}
abbrev OwnMet (l : Launch) (Z : State) (y : MethodName) (bytes : ByteArray) (maxL : Nat) (rt : Option FieldType) (ws : List Jvm.Cond) (rm : Room) (as' : Array Value) (h0 : Heap) (Qc : Option Value → Heap → List Loc → Prop) : Prop :=
  MetFree l y (head1 (Jvm.Cond.code y bytes maxL rt :: ws) rm) (fun a U => a = as' ∧ Z.Warmed39 U.vm ∧ U.heap = h0) (fun _ _ _ _ _ => True) (fun _ U o U' => ∃ v L, o = .returned v ∧ Qc v U'.heap L ∧ FrameEnd U o U' L rm.cells rm.slots)
theorem own_body {y : MethodName} {bytes : ByteArray} {maxL : Nat} {rt : Option FieldType} {ws : List Jvm.Cond} {rm : Room} {as' : Array Value} {Qc : Option Value → Heap → List Loc → Prop} {Ls0 : Array Slot} (hpl : plainFor y = true) (hef : ∀ m : MethodId, entryFrame m as' maxL = mkF m 0 Ls0 [])
    (body : ∀ (p : Program) (e : Env) (s : State) (m : MethodId) (below : List Frame) (meth : Method) (c : Code) (s₁ : State), Stand p l e rm s m as' below meth c s₁ [] 0 0 → p.tables.exec = Jvm.exec → c.code = bytes → c.maxLocals = maxL → s.vm.findClass y.cls = some m.cls → meth.name = y.name → meth.sig.returnType = rt → meth.locks = false → Z.Warmed39 s.vm → s₁.heap = h0 → Ends p.tables e below (OwnFin s Qc rm.cells rm.slots) (s₁.setTop (mkF m 0 Ls0 []))) :
    OwnMet l Z y bytes maxL rt ws rm as' h0 Qc := by
  refine MetFree.of_bodySF hpl hisR ?_
  intro p e s m args below meth c s₁ Bd hml0 hP hK
  obtain ⟨rfl, hZ, hh⟩ := hP
  have e0 : s₁.heap = h0 := by rw [← hh, Bd.state]; rfl
  rw [hef]
  exact body p e s m below meth c s₁ (Stand.of_body Bd) Bd.exec Bd.bytes hml0 (findClass_of_methodNamed Bd.named) (name_of_methodNamed Bd.named Bd.method).1 Bd.returns Bd.notSynchronized hZ e0
theorem own_static (X : Stand p l e R s m args below meth c T locs cells slots) (hx : p.tables.exec = Jvm.exec) (hby : c.code = bc) (hZ : Z.Warmed39 s.vm) {own : String} {index : Nat} {y : MethodName} {bytes : ByteArray} {maxL : Nat} {rt r : Option FieldType} {ps : List FieldType} {rm : Room} {argsL rest : List Value} {Qc : Option Value → Heap → List Loc → Prop} {W : Nat}
    (hown : s.vm.findClass own = some m.cls) (w1 : (Jvm.Cond.methodLink own index y).before a0 Z = true) (w2 : (Jvm.Cond.static y).before a0 Z = true) (w3 : (Jvm.Cond.initialized y.cls).before a0 Z = true) (w4 : (Jvm.Cond.code y bytes maxL rt).before a0 Z = true) (hy : y.cls ≠ "java/lang/invoke/MethodHandle" ∧ y.cls ≠ "java/lang/invoke/VarHandle")
    (hM : OwnMet l Z y bytes maxL rt [] rm argsL.toArray h Qc) (eT : T.heap = h) (hml : Ls.size = c.maxLocals) (hlen : parseMethodDescriptor y.desc = some ⟨ps, r⟩) (hl : argsL.length = ps.length) (hf : rm.frames + 1 ≤ R.frames) (hW : (rest.map fun v => v.category).sum ≤ W) (hlo : W + (maxL + 11) + rm.locals ≤ R.locals) (hc : cells + rm.cells ≤ R.cells) (hs : slots + rm.slots ≤ R.slots)
    (hd : decode bc pc = .ok (.invokestatic index, 3)) (hp : pc + 3 = pc') (hst : st = argsL.reverse ++ rest)
    (kt : ∀ v T' L, Stand p l e R s m args below meth c T' (locs ++ L) (cells + rm.cells) (slots + rm.slots) → Qc v T'.heap L → Ends p.tables e below Fz (T'.setTop (mkF m pc' Ls (v.toList ++ rest)))) : Ends p.tables e below Fz (T.setTop (mkF m pc Ls st)) := by
  subst hp hst
  obtain ⟨v, vm₁, ⟨T', L', k', n'⟩, -, X', ⟨Lc, hQ, l', y', z'⟩, st⟩ := Jvm.LawKit.callS X hx (y := y) hown (mvT hZ w1) (mvT hZ w2) (mvT hZ w3) (mvT hZ w4) hy (backOf (W := W) hM hZ w4 w3 hf hlo) (g := mkF m pc Ls (argsL.reverse ++ rest)) rfl hml (argsL := argsL) (rest := rest) (lenOf hlen hl) rfl (by show 2 * 0 + _ ≤ _; omega) (hb hby hd) (fun _ _ => ⟨rfl, eT, hc, hs⟩)
  dsimp only [Pt.U, Pt.locs, Pt.cells, Pt.slots] at X' l' y' z' st hQ
  subst l' y' z'
  exact Ends.of st (kt v T' Lc X' hQ)
theorem own_special (X : Stand p l e R s m args below meth c T locs cells slots) (hx : p.tables.exec = Jvm.exec) (hby : c.code = bc) (hZ : Z.Warmed39 s.vm) {own : String} {index : Nat} {y : MethodName} {bytes : ByteArray} {maxL : Nat} {r : Option FieldType} {ps : List FieldType} {rm : Room} {a : Addr} {argsL rest : List Value} {Qc : Option Value → Heap → List Loc → Prop} {W : Nat}
    (hown : s.vm.findClass own = some m.cls) (hn : y.name = "<init>") (w1 : (Jvm.Cond.methodLink own index y).before a0 Z = true) (w2 : (Jvm.Cond.instanceMethod y).before a0 Z = true) (w3 : (Jvm.Cond.initialized y.cls).before a0 Z = true) (w4 : (Jvm.Cond.code y bytes maxL none).before a0 Z = true) (hy : y.cls ≠ "java/lang/invoke/MethodHandle" ∧ y.cls ≠ "java/lang/invoke/VarHandle")
    (hM : OwnMet l Z y bytes maxL none [] rm (Value.ref a :: argsL).toArray h Qc) (eT : T.heap = h) (hml : Ls.size = c.maxLocals) (hlen : parseMethodDescriptor y.desc = some ⟨ps, r⟩) (hl : argsL.length = ps.length) (hf : rm.frames + 1 ≤ R.frames) (hW : (rest.map fun v => v.category).sum ≤ W) (hlo : W + (maxL + 11) + rm.locals ≤ R.locals) (hc : cells + rm.cells ≤ R.cells) (hs : slots + rm.slots ≤ R.slots)
    (hd : decode bc pc = .ok (.invokespecial index, 3)) (hp : pc + 3 = pc') (hst : st = argsL.reverse ++ Value.ref a :: rest)
    (kt : ∀ v T' L, Stand p l e R s m args below meth c T' (locs ++ L) (cells + rm.cells) (slots + rm.slots) → Qc v T'.heap L → Ends p.tables e below Fz (T'.setTop (mkF m pc' Ls (v.toList ++ rest)))) : Ends p.tables e below Fz (T.setTop (mkF m pc Ls st)) := by
  subst hp hst
  obtain ⟨v, vm₁, ⟨T', L', k', n'⟩, -, X', ⟨Lc, hQ, l', y', z'⟩, st⟩ := X.specialBack hx (y := y) hn hown (mvT hZ w1) (mvT hZ w2) (mvT hZ w4) hy (backOf (W := W) hM hZ w4 w3 hf hlo) (g := mkF m pc Ls (argsL.reverse ++ Value.ref a :: rest)) rfl hml (Steps.refl _) (a := a) (argsL := argsL) (rest := rest) (lenOf hlen hl) rfl (by show 2 * 0 + _ ≤ _; omega) (hb hby hd) (fun _ _ => ⟨rfl, eT, hc, hs⟩)
  dsimp only [Pt.U, Pt.locs, Pt.cells, Pt.slots] at X' l' y' z' st hQ
  subst l' y' z'
  exact Ends.tr st (kt v T' Lc X' hQ)
theorem own_virtual (X : Stand p l e R s m args below meth c T locs cells slots) (hx : p.tables.exec = Jvm.exec) (hby : c.code = bc) (hZ : Z.Warmed39 s.vm) {own Cn : String} {index : Nat} {y : MethodName} {bytes : ByteArray} {maxL : Nat} {rt r : Option FieldType} {ps : List FieldType} {rm : Room} {a : Addr} {argsL rest : List Value} {Qc : Option Value → Heap → List Loc → Prop} {W : Nat}
    (hown : s.vm.findClass own = some m.cls) (w1 : (Jvm.Cond.methodLink own index y).before a0 Z = true) (wd : (Jvm.Cond.declares y).before a0 Z = true) (ws : (Jvm.Cond.selects Cn y y).before a0 Z = true) (w2 : (Jvm.Cond.instanceMethod y).before a0 Z = true) (w3 : (Jvm.Cond.initialized y.cls).before a0 Z = true) (w4 : (Jvm.Cond.code y bytes maxL rt).before a0 Z = true) (hy : y.cls ≠ "java/lang/invoke/MethodHandle" ∧ y.cls ≠ "java/lang/invoke/VarHandle")
    (hM : OwnMet l Z y bytes maxL rt [] rm (Value.ref a :: argsL).toArray h Qc) (E : Exa Z h a Cn) (eT : T.heap = h) (hml : Ls.size = c.maxLocals) (hlen : parseMethodDescriptor y.desc = some ⟨ps, r⟩) (hl : argsL.length = ps.length) (hf : rm.frames + 1 ≤ R.frames) (hW : (rest.map fun v => v.category).sum ≤ W) (hlo : W + (maxL + 11) + rm.locals ≤ R.locals) (hc : cells + rm.cells ≤ R.cells) (hs : slots + rm.slots ≤ R.slots)
    (hd : decode bc pc = .ok (.invokevirtual index, 3)) (hp : pc + 3 = pc') (hst : st = argsL.reverse ++ Value.ref a :: rest)
    (kt : ∀ v T' L, Stand p l e R s m args below meth c T' (locs ++ L) (cells + rm.cells) (slots + rm.slots) → Qc v T'.heap L → Ends p.tables e below Fz (T'.setTop (mkF m pc' Ls (v.toList ++ rest)))) : Ends p.tables e below Fz (T.setTop (mkF m pc Ls st)) := by
  subst hp hst
  obtain ⟨cq, kq, qa, qb, qc⟩ := isOf hZ eT E
  obtain ⟨v, vm₁, ⟨T', L', k', n'⟩, -, X', ⟨Lc, hQ, l', y', z'⟩, st⟩ := X.virtualBack hx (y := y) (z := y) hown (mvT hZ w1) (mvT hZ wd) (notFace_of_selects (args := #[]) (mvT hZ ws)) (mvT hZ ws) (mvT hZ w2) hy (backOf (W := W) hM hZ w4 w3 hf hlo) qa qc (g := mkF m pc Ls (argsL.reverse ++ Value.ref a :: rest)) rfl hml (Steps.refl _) (argsL := argsL) (rest := rest) (lenOf hlen hl) rfl (by show 2 * 0 + _ ≤ _; omega) (hb hby hd) (fun _ _ => ⟨rfl, eT, hc, hs⟩)
  dsimp only [Pt.U, Pt.locs, Pt.cells, Pt.slots] at X' l' y' z' st hQ
  subst l' y' z'
  exact Ends.tr st (kt v T' Lc X' hQ)
theorem own_initO (X : Stand p l e R s m args below meth c T locs cells slots) (hx : p.tables.exec = Jvm.exec) (hby : c.code = bc) (hZ : Z.Warmed39 s.vm) {own : String} {index : Nat} {a : Addr}
    (hown : s.vm.findClass own = some m.cls) (w1 : (Jvm.Cond.methodLink own index Lib.objectInit).before a0 Z = true) (w2 : (Jvm.Cond.instanceMethod Lib.objectInit).before a0 Z = true) (w3 : (Jvm.Cond.code Lib.objectInit ⟨#[0xb1]⟩ 1 none).before a0 Z = true) (eT : T.heap = h) (hml : Ls.size = c.maxLocals) (hf : 1 ≤ R.frames) {W : Nat} (hW : (st.map fun v => v.category).sum ≤ W) (hlo : W + 12 ≤ R.locals)
    (hd : decode bc pc = .ok (.invokespecial index, 3)) (hp : pc + 3 = pc')
    (kt : ∀ T', Stand p l e R s m args below meth c T' locs cells slots → T'.heap = h → Ends p.tables e below Fz (T'.setTop (mkF m pc' Ls st))) : Ends p.tables e below Fz (T.setTop (mkF m pc Ls (.ref a :: st))) := by
  subst hp
  obtain ⟨T', X', e', st⟩ := initO X hx hZ hown w1 w2 w3 eT (g := mkF m pc Ls (.ref a :: st)) rfl hml rfl (hb hby hd) hf (W := W) (by show 2 * 0 + _ ≤ _; omega) hlo
  exact Ends.of st (kt T' X' e')
theorem own_getfield (X : Stand p l e R s m args below meth c T locs cells slots) (hx : p.tables.exec = Jvm.exec) (hby : c.code = bc) (hZ : Z.Warmed39 s.vm) {own R0 O n d host : String} {index : Nat} {a : Addr} {v : Value}
    (hown : s.vm.findClass own = some m.cls) (w : (Jvm.Cond.fieldLink own index R0 n d).before a0 Z = true ∨ (Jvm.Cond.fieldLinkNest own index R0 n d host).before a0 Z = true) (via : Via Z R0 O n d) (eT : T.heap = h) (F : Fld Z h a O n d v)
    (hd : decode bc pc = .ok (.getfield index, 3)) (hp : pc + 3 = pc')
    (kt : ∀ T', Stand p l e R s m args below meth c T' locs cells slots → T'.heap = h → Ends p.tables e below Fz (T'.setTop (mkF m pc' Ls (v :: st)))) : Ends p.tables e below Fz (T.setTop (mkF m pc Ls (.ref a :: st))) := by
  subst hp
  obtain ⟨T', X', e', st⟩ := getF X hx hZ hown w via eT F (g := mkF m pc Ls (.ref a :: st)) rfl rfl (hb hby hd)
  exact Ends.of st (kt T' X' e')
theorem own_getstatic (X : Stand p l e R s m args below meth c T locs cells slots) (hx : p.tables.exec = Jvm.exec) (hby : c.code = bc) (hZ : Z.Warmed39 s.vm) {own R0 O n d host : String} {index : Nat} {v : Value}
    (hown : s.vm.findClass own = some m.cls) (w : (Jvm.Cond.fieldLink own index R0 n d).before a0 Z = true ∨ (Jvm.Cond.fieldLinkNest own index R0 n d host).before a0 Z = true) (via : Via Z R0 O n d) (eT : T.heap = h) (F : Sta Z h O n d v)
    (hd : decode bc pc = .ok (.getstatic index, 3)) (hp : pc + 3 = pc')
    (kt : ∀ T', Stand p l e R s m args below meth c T' locs cells slots → T'.heap = h → Ends p.tables e below Fz (T'.setTop (mkF m pc' Ls (v :: st)))) : Ends p.tables e below Fz (T.setTop (mkF m pc Ls st)) := by
  subst hp
  obtain ⟨T', X', e', st⟩ := getS2 X hx hZ hown w via eT F (g := mkF m pc Ls st) rfl (hb hby hd)
  exact Ends.of st (kt T' X' e')
theorem own_putfield (X : Stand p l e R s m args below meth c T locs cells slots) (hx : p.tables.exec = Jvm.exec) (hby : c.code = bc) (hZ : Z.Warmed39 s.vm) {own R0 O n d host Cn : String} {index kk : Nat} {ty : FieldType} {a : Addr} {v old : Value}
    (hown : s.vm.findClass own = some m.cls) (w : (Jvm.Cond.fieldLink own index R0 n d).before a0 Z = true ∨ (Jvm.Cond.fieldLinkNest own index R0 n d host).before a0 Z = true) (via : Via Z R0 O n d) (eT : T.heap = h) (F : Fld Z h a O n d old) (E : Exa Z h a Cn)
    (L : (Jvm.Cond.lays Cn O n d).before a0 Z = true ∨ ((Jvm.Cond.laysFinal Cn O n d).before a0 Z = true ∧ own = O ∧ meth.name = "<init>")) (wi : (Jvm.Cond.instantiable Cn kk).before a0 Z = true) (hty : parseFieldDescriptor d = some ty) (hn : narrow ty v = v) (hf : fits ty v = true) (N : Fr n0 locs) (ga : n0 ≤ a)
    (hd : decode bc pc = .ok (.putfield index, 3)) (hp : pc + 3 = pc')
    (kt : ∀ T' h' L', Stand p l e R s m args below meth c T' L' cells slots → T'.heap = h' → Wr h h' a (Jvm.RoadKit.slotOf Z O n d) v → Fr n0 L' → Ends p.tables e below Fz (T'.setTop (mkF m pc' Ls st))) : Ends p.tables e below Fz (T.setTop (mkF m pc Ls (v :: .ref a :: st))) := by
  subst hp
  obtain ⟨T', h', X', e', W', st⟩ := putF X hx hZ hown w via eT F E L wi hty hn hf (g := mkF m pc Ls (v :: .ref a :: st)) rfl rfl (hb hby hd)
  exact Ends.of st (kt T' h' _ X' e' W' (Fr.snoc X' N ga))
theorem own_new (X : Stand p l e R s m args below meth c T locs cells slots) (hx : p.tables.exec = Jvm.exec) (hby : c.code = bc) (hZ : Z.Warmed39 s.vm) {own Cn : String} {index n : Nat}
    (hown : s.vm.findClass own = some m.cls) (w : (Jvm.Cond.classLink own index Cn).before a0 Z = true) (wi : (Jvm.Cond.instantiable Cn n).before a0 Z = true) (wz : (Jvm.Cond.initialized Cn).before a0 Z = true) (eT : T.heap = h) (hc : cells + 1 ≤ R.cells) (hl : slots + n ≤ R.slots)
    (hd : decode bc pc = .ok (.new index, 3)) (hp : pc + 3 = pc')
    (kt : ∀ T' h' b, Stand p l e R s m args below meth c T' locs (cells + 1) (slots + n) → T'.heap = h' → b = h.size → Ext h h' → Exa Z h' b Cn → (∀ {O nm d : String} {ty : FieldType}, Laid Z a0 Cn O nm d → parseFieldDescriptor d = some ty → Fld Z h' b O nm d (defaultValue ty)) → Ends p.tables e below Fz (T'.setTop (mkF m pc' Ls (.ref b :: st)))) : Ends p.tables e below Fz (T.setTop (mkF m pc Ls st)) := by
  subst hp
  obtain ⟨T', h', X', e', E', A', D', -, st⟩ := newO X hx hZ hown w wi wz eT (g := mkF m pc Ls st) rfl (hb hby hd) hc hl
  exact Ends.of st (kt T' h' _ X' e' rfl E' A' D')
theorem own_newarray (X : Stand p l e R s m args below meth c T locs cells slots) (hx : p.tables.exec = Jvm.exec) (hby : c.code = bc) (hZ : Z.Warmed39 s.vm) {aty : ArrayType} {n : Int32}
    (w : (Jvm.Cond.arrayClass (newarray.typeOf aty)).before a0 Z = true) (eT : T.heap = h) (hn : ¬ n < 0) (cap : Nat) (hcap : n.toNatClampNeg ≤ cap) (hb8 : cap * 8 ≤ 536870912) (hc : cells + 1 ≤ R.cells) (hl : slots + cap ≤ R.slots)
    (ty : FieldType) (hty : newarray.typeOf aty = ty) (vs : List Value) (hvs : List.replicate n.toNatClampNeg (defaultValue ty) = vs)
    (hd : decode bc pc = .ok (.newarray aty, 2)) (hp : pc + 2 = pc')
    (kt : ∀ T' h' b k, Stand p l e R s m args below meth c T' locs (cells + 1) (slots + cap) → T'.heap = h' → b = h.size → Ext h h' → Arv Z h' b k ty n vs (defaultValue ty) → Ends p.tables e below Fz (T'.setTop (mkF m pc' Ls (.ref b :: st)))) : Ends p.tables e below Fz (T.setTop (mkF m pc Ls (.int n :: st))) := by
  subst hp hty hvs
  obtain ⟨T', h', k', X', e', E', A', st⟩ := newP X hx hZ w eT (g := mkF m pc Ls (.int n :: st)) rfl (hb hby hd) rfl hn hcap hb8 hc hl
  exact Ends.of st (kt T' h' _ k' X' e' rfl E' ((Arv.new A' hn).pad (pad_rep [] _ _)))
theorem own_arraylength (X : Stand p l e R s m args below meth c T locs cells slots) (hx : p.tables.exec = Jvm.exec) (hby : c.code = bc) (hZ : Z.Warmed39 s.vm) {ty : FieldType} {a : Addr} {k : ClassId} {n : Int32} {vs : List Value} {dv : Value}
    (eT : T.heap = h) (V : Arv Z h a k ty n vs dv) (hd : decode bc pc = .ok (.arraylength, 1)) (hp : pc + 1 = pc')
    (kt : Ends p.tables e below Fz (T.setTop (mkF m pc' Ls (.int n :: st)))) : Ends p.tables e below Fz (T.setTop (mkF m pc Ls (.ref a :: st))) := by
  subst hp
  obtain ⟨cl, A, -, Sz, Nn, -, -⟩ := V
  exact Ends.of (fun _ q => X.arraylength hx (by rw [eT]; exact A.1) (State.isArrayOf_alike hZ.alike A.2.1) (g := mkF m pc Ls (.ref a :: st)) rfl rfl (hb hby hd) _ (by rw [len_of Sz Nn]; exact q)) kt
theorem own_castore (X : Stand p l e R s m args below meth c T locs cells slots) (hx : p.tables.exec = Jvm.exec) (hby : c.code = bc) (hZ : Z.Warmed39 s.vm) {a : Addr} {k : ClassId} {n j : Int32} {vs : List Value} {dv : Value} {x : Int32} (v' : Int32) (hv' : (nar .char x) = v')
    (eT : T.heap = h) (V : Arv Z h a k .char n vs dv) (hj : ¬ j < 0 ∧ j < n) (i : Nat) (hi : j.toNatClampNeg = i) (hil : i < vs.length) (vs' : List Value) (hvs : vs.set i (.int v') = vs') (hfit : fits .char (.int v') = true) (N : Fr n0 locs) (ga : n0 ≤ a) (hd : decode bc pc = .ok (.castore, 1)) (hp : pc + 1 = pc')
    (kt : ∀ T' h' L', Stand p l e R s m args below meth c T' L' cells slots → T'.heap = h' → Wr h h' a j.toNatClampNeg (.int v') → Arv Z h' a k .char n vs' dv → Fr n0 L' → Ends p.tables e below Fz (T'.setTop (mkF m pc' Ls st))) : Ends p.tables e below Fz (T.setTop (mkF m pc Ls (.int x :: .int j :: .ref a :: st))) := by
  subst hp hvs hv'
  obtain ⟨cl, A, q1, Sz, Nn, H, G⟩ := V
  obtain ⟨T', h', X', e', W', st⟩ := stC X hx hZ eT A (j := j) (inb_of Sz hj) (g := mkF m pc Ls (.int x :: .int j :: .ref a :: st)) rfl rfl (hb hby hd)
  exact Ends.of st (kt T' h' _ X' e' W' (Arv.set A q1 Sz Nn H G hfit W' i hi hil) (Fr.snoc X' N ga))
theorem own_bastore (X : Stand p l e R s m args below meth c T locs cells slots) (hx : p.tables.exec = Jvm.exec) (hby : c.code = bc) (hZ : Z.Warmed39 s.vm) {a : Addr} {k : ClassId} {n j : Int32} {vs : List Value} {dv : Value} {x : Int32} (v' : Int32) (hv' : (nar .byte x) = v')
    (eT : T.heap = h) (V : Arv Z h a k .byte n vs dv) (hj : ¬ j < 0 ∧ j < n) (i : Nat) (hi : j.toNatClampNeg = i) (hil : i < vs.length) (vs' : List Value) (hvs : vs.set i (.int v') = vs') (hfit : fits .byte (.int v') = true) (N : Fr n0 locs) (ga : n0 ≤ a) (hd : decode bc pc = .ok (.bastore, 1)) (hp : pc + 1 = pc')
    (kt : ∀ T' h' L', Stand p l e R s m args below meth c T' L' cells slots → T'.heap = h' → Wr h h' a j.toNatClampNeg (.int v') → Arv Z h' a k .byte n vs' dv → Fr n0 L' → Ends p.tables e below Fz (T'.setTop (mkF m pc' Ls st))) : Ends p.tables e below Fz (T.setTop (mkF m pc Ls (.int x :: .int j :: .ref a :: st))) := by
  subst hp hvs hv'
  obtain ⟨cl, A, q1, Sz, Nn, H, G⟩ := V
  obtain ⟨T', h', X', e', W', st⟩ := stB X hx hZ eT A (j := j) (inb_of Sz hj) (g := mkF m pc Ls (.int x :: .int j :: .ref a :: st)) rfl rfl (hb hby hd)
  exact Ends.of st (kt T' h' _ X' e' W' (Arv.set A q1 Sz Nn H G hfit W' i hi hil) (Fr.snoc X' N ga))
theorem own_ge {b : Addr} (O : Old Z n0 h) (g : b = h.size) : n0 ≤ b := by rw [g]; exact O.1 ▸ O.2.1
theorem own_lt {x b : Addr} (hx : x < h.size) (g : b = h.size) : x ≠ b := by rw [g]; exact Nat.ne_of_lt hx
theorem own_enumArr {args : Array Value} {t : Term} {a : Addr} {ty : FieldType} {z : Int32} {vs : List Value} (hf : Fit Z) (ev : t.eval args Z none [] Z = some (.ref a)) (hA : (Jvm.Cond.arrayOf t ty).value args Z none Z [] = some true) (hL : (Jvm.Cond.eq (.length t) (.int z)).value args Z none Z [] = some true) (hz : ¬ z < 0) (hl : z.toNatClampNeg = vs.length) (H : ∀ cl, Z.heap[a]? = some cl → HasL cl 0 vs) : ∃ k, Arv Z Z.heap a k ty z vs .null := by
  obtain ⟨cl, A⟩ := Arr.start ev hA
  have e1 := eqv_i (Term.int_eval z) hL
  have ha : Z.arrayAt? a = some cl := Arr.fin (Vm.Alike.refl _) A
  have e2 : cl.slots.size < 2 ^ 31 ∧ cl.slots.size.toInt32 = z := by
    by_cases q : cl.slots.size < 2 ^ 31
    · rw [len_f ev ha q] at e1
      exact ⟨q, Value.int.inj (Option.some.inj e1)⟩
    · simp [Term.eval, ev, ha, q] at e1
  exact ⟨_, Arv.start hf A e2.1 e2.2 hz hl (H cl A.1)⟩
theorem own_private (X : Stand p l e R s m args below meth c T locs cells slots) (hx : p.tables.exec = Jvm.exec) (hby : c.code = bc) (hZ : Z.Warmed39 s.vm) {own Ce : String} {index kk : Nat} {y : MethodName} {bytes : ByteArray} {maxL : Nat} {rt r : Option FieldType} {ps : List FieldType} {rm : Room} {a : Addr} {argsL rest : List Value} {Qc : Option Value → Heap → List Loc → Prop} {W : Nat}
    (hown : s.vm.findClass own = some m.cls) (w1 : (Jvm.Cond.methodLink own index y).before a0 Z = true) (wi : (Jvm.Cond.instantiable y.cls kk).before a0 Z = true) (wp : (Jvm.Cond.privateMethod y).before a0 Z = true) (w2 : (Jvm.Cond.instanceMethod y).before a0 Z = true) (w3 : (Jvm.Cond.initialized y.cls).before a0 Z = true) (w4 : (Jvm.Cond.code y bytes maxL rt).before a0 Z = true) (hy : y.cls ≠ "java/lang/invoke/MethodHandle" ∧ y.cls ≠ "java/lang/invoke/VarHandle")
    (hM : OwnMet l Z y bytes maxL rt [] rm (Value.ref a :: argsL).toArray h Qc) (E : Exa Z h a Ce) (eT : T.heap = h) (hml : Ls.size = c.maxLocals) (hlen : parseMethodDescriptor y.desc = some ⟨ps, r⟩) (hl : argsL.length = ps.length) (hf : rm.frames + 1 ≤ R.frames) (hW : (rest.map fun v => v.category).sum ≤ W) (hlo : W + (maxL + 11) + rm.locals ≤ R.locals) (hc : cells + rm.cells ≤ R.cells) (hs : slots + rm.slots ≤ R.slots)
    (hd : decode bc pc = .ok (.invokevirtual index, 3)) (hp : pc + 3 = pc') (hst : st = argsL.reverse ++ Value.ref a :: rest)
    (kt : ∀ v T' L, Stand p l e R s m args below meth c T' (locs ++ L) (cells + rm.cells) (slots + rm.slots) → Qc v T'.heap L → Ends p.tables e below Fz (T'.setTop (mkF m pc' Ls (v.toList ++ rest)))) : Ends p.tables e below Fz (T.setTop (mkF m pc Ls st)) := by
  subst hp hst
  have hi : (Jvm.Cond.instantiable y.cls kk).before args s = true := mvT hZ wi
  obtain ⟨c2, kP, i1, hkP, -, i4, -⟩ := Jvm.Cond.instantiable_spec hi
  have hkPi : kP.isInterface = false := by simp only [Bool.or_eq_false_iff] at i4; exact i4.1
  have hpriv := Jvm.Cond.privateMethod_at (mvP hZ wp (args := #[]))
  have hinst : (Jvm.Cond.instanceMethod y).before args s = true := mvT hZ w2
  have hsel := Jvm.Stand.selects_self_of_private (args := args) i1 hkP hkPi hpriv hinst hy
  obtain ⟨cell, q1, q2⟩ := E.cell
  obtain ⟨v, vm₁, ⟨T', L', k', n'⟩, -, X', ⟨Lc, hQ, l', y', z'⟩, st⟩ := X.privateBack hx (y := y) hown (mvT hZ w1) hinst hsel hpriv (mvT hZ w4) hy (backOf (W := W) hM hZ w4 w3 hf hlo) (g := mkF m pc Ls (argsL.reverse ++ Value.ref a :: rest)) rfl hml (Steps.refl _) (a := a) (by rw [eT]; exact q1) q2 (argsL := argsL) (rest := rest) (lenOf hlen hl) rfl (by show 2 * 0 + _ ≤ _; omega) (hb hby hd) (fun _ _ => ⟨rfl, eT, hc, hs⟩)
  dsimp only [Pt.U, Pt.locs, Pt.cells, Pt.slots] at X' l' y' z' st hQ
  subst l' y' z'
  exact Ends.tr st (kt v T' Lc X' hQ)
theorem own_specialB (X : Stand p l e R s m args below meth c T locs cells slots) (hx : p.tables.exec = Jvm.exec) (hby : c.code = bc) (hZ : Z.Warmed39 s.vm) {own : String} {index : Nat} {y : MethodName} {bytes : ByteArray} {maxL : Nat} {r : Option FieldType} {ps : List FieldType} {kc ks : Nat} {a : Addr} {argsL rest : List Value} {Qc : Option Value → Heap → List Loc → Prop} {W : Nat}
    (hown : s.vm.findClass own = some m.cls) (hn : y.name = "<init>") (w1 : (Jvm.Cond.methodLink own index y).before a0 Z = true) (w2 : (Jvm.Cond.instanceMethod y).before a0 Z = true) (w4 : (Jvm.Cond.code y bytes maxL none).before a0 Z = true) (hy : y.cls ≠ "java/lang/invoke/MethodHandle" ∧ y.cls ≠ "java/lang/invoke/VarHandle")
    (hK : Back l R p e below s args y 3 W (fun A ar => ar = (Value.ref a :: argsL).toArray ∧ A.U.heap = h ∧ A.cells + kc ≤ R.cells ∧ A.slots + ks ≤ R.slots) (fun A _ v B => ∃ L, Qc v B.U.heap L ∧ B.locs = A.locs ++ L ∧ B.cells = A.cells + kc ∧ B.slots = A.slots + ks)) (eT : T.heap = h) (hml : Ls.size = c.maxLocals) (hlen : parseMethodDescriptor y.desc = some ⟨ps, r⟩) (hl : argsL.length = ps.length) (hW : (rest.map fun v => v.category).sum ≤ W) (hc : cells + kc ≤ R.cells) (hs : slots + ks ≤ R.slots)
    (hd : decode bc pc = .ok (.invokespecial index, 3)) (hp : pc + 3 = pc') (hst : st = argsL.reverse ++ Value.ref a :: rest)
    (kt : ∀ v T' L, Stand p l e R s m args below meth c T' (locs ++ L) (cells + kc) (slots + ks) → Qc v T'.heap L → Ends p.tables e below Fz (T'.setTop (mkF m pc' Ls (v.toList ++ rest)))) : Ends p.tables e below Fz (T.setTop (mkF m pc Ls st)) := by
  subst hp hst
  obtain ⟨v, vm₁, ⟨T', L', k', n'⟩, -, X', ⟨Lc, hQ, l', y', z'⟩, st⟩ := X.specialBack hx (y := y) hn hown (mvT hZ w1) (mvT hZ w2) (mvT hZ w4) hy hK (g := mkF m pc Ls (argsL.reverse ++ Value.ref a :: rest)) rfl hml (Steps.refl _) (a := a) (argsL := argsL) (rest := rest) (lenOf hlen hl) rfl (by show 2 * 0 + _ ≤ _; omega) (hb hby hd) (fun _ _ => ⟨rfl, eT, hc, hs⟩)
  dsimp only [Pt.U, Pt.locs, Pt.cells, Pt.slots] at X' l' y' z' st hQ
  subst l' y' z'
  exact Ends.tr st (kt v T' Lc X' hQ)
theorem own_interface (X : Stand p l e R s m args below meth c T locs cells slots) (hx : p.tables.exec = Jvm.exec) (hby : c.code = bc) (hZ : Z.Warmed39 s.vm) {own Cn : String} {index count : Nat} {xi y : MethodName} {bytes : ByteArray} {maxL : Nat} {rt r : Option FieldType} {ps : List FieldType} {rm : Room} {a : Addr} {argsL rest : List Value} {Qc : Option Value → Heap → List Loc → Prop} {W : Nat}
    (hown : s.vm.findClass own = some m.cls) (w1 : (Jvm.Cond.methodLink own index xi).before a0 Z = true) (wd : (Jvm.Cond.declares xi).before a0 Z = true) (wf : (Jvm.Cond.interfaceMethod xi.cls xi.cls xi.name xi.desc).before a0 Z = true) (ws : (Jvm.Cond.selects Cn xi y).before a0 Z = true) (w2 : (Jvm.Cond.instanceMethod y).before a0 Z = true) (wp : (Jvm.Cond.publicMethod y).before a0 Z = true) (wu : (Jvm.Cond.unhidden Cn xi.name xi.desc).before a0 Z = true) (wk : (Jvm.Cond.castable Cn xi.cls).before a0 Z = true) (w3 : (Jvm.Cond.initialized y.cls).before a0 Z = true) (w4 : (Jvm.Cond.code y bytes maxL rt).before a0 Z = true) (hy : xi.cls ≠ "java/lang/invoke/MethodHandle" ∧ xi.cls ≠ "java/lang/invoke/VarHandle")
    (hM : OwnMet l Z y bytes maxL rt [] rm (Value.ref a :: argsL).toArray h Qc) (E : Exa Z h a Cn) (eT : T.heap = h) (hml : Ls.size = c.maxLocals) (hlen : parseMethodDescriptor xi.desc = some ⟨ps, r⟩) (hl : argsL.length = ps.length) (hf : rm.frames + 1 ≤ R.frames) (hW : (rest.map fun v => v.category).sum ≤ W) (hlo : W + (maxL + 11) + rm.locals ≤ R.locals) (hc : cells + rm.cells ≤ R.cells) (hs : slots + rm.slots ≤ R.slots)
    (hd : decode bc pc = .ok (.invokeinterface index count, 5)) (hp : pc + 5 = pc') (hst : st = argsL.reverse ++ Value.ref a :: rest)
    (kt : ∀ v T' L, Stand p l e R s m args below meth c T' (locs ++ L) (cells + rm.cells) (slots + rm.slots) → Qc v T'.heap L → Ends p.tables e below Fz (T'.setTop (mkF m pc' Ls (v.toList ++ rest)))) : Ends p.tables e below Fz (T.setTop (mkF m pc Ls st)) := by
  subst hp hst
  obtain ⟨cq, kq, qa, qb, qc⟩ := isOf hZ eT E
  obtain ⟨v, vm₁, ⟨T', L', k', n'⟩, -, X', ⟨Lc, hQ, l', y', z'⟩, st⟩ := X.interfaceBack hx (xi := xi) (y := y) hown (mvT hZ w1) (mvT hZ wd) (mvT hZ wf (by simp [Jvm.Cond.onTables, Jvm.Cond.keepsFace, Jvm.Cond.keeps, Jvm.Cond.steady, Jvm.Cond.faceAtom, hy.1, hy.2])) (mvT hZ ws) (mvT hZ w2) (mvT hZ wp) (mvT hZ wu) (mvT hZ wk) hy (backOf (W := W) hM hZ w4 w3 hf hlo) qa qb qc (g := mkF m pc Ls (argsL.reverse ++ Value.ref a :: rest)) rfl hml (Steps.refl _) (argsL := argsL) (rest := rest) (lenOf hlen hl) rfl (by show 2 * 0 + _ ≤ _; omega) (hb hby hd) (fun _ _ => ⟨rfl, eT, hc, hs⟩)
  dsimp only [Pt.U, Pt.locs, Pt.cells, Pt.slots] at X' l' y' z' st hQ
  subst l' y' z'
  exact Ends.tr st (kt v T' Lc X' hQ)
theorem own_anewarray (X : Stand p l e R s m args below meth c T locs cells slots) (hx : p.tables.exec = Jvm.exec) (hby : c.code = bc) (hZ : Z.Warmed39 s.vm) {own Cn : String} {index : Nat} {n : Int32}
    (hown : s.vm.findClass own = some m.cls) (w1 : (Jvm.Cond.classLink own index Cn).before a0 Z = true) (w2 : (Jvm.Cond.arrayOver (.object Cn)).before a0 Z = true) (eT : T.heap = h) (hn : ¬ n < 0) (cap : Nat) (hcap : n.toNatClampNeg ≤ cap) (hb8 : cap * 8 ≤ 536870912) (hc : cells + 1 ≤ R.cells) (hl : slots + cap ≤ R.slots) (vs : List Value) (hvs : List.replicate n.toNatClampNeg .null = vs)
    (hd : decode bc pc = .ok (.anewarray index, 3)) (hp : pc + 3 = pc')
    (kt : ∀ T' h' b k, Stand p l e R s m args below meth c T' locs (cells + 1) (slots + cap) → T'.heap = h' → b = h.size → Ext h h' → Arv Z h' b k (.object Cn) n vs .null → Ovr Z k Cn → Ends p.tables e below Fz (T'.setTop (mkF m pc' Ls (.ref b :: st)))) : Ends p.tables e below Fz (T.setTop (mkF m pc Ls (.int n :: st))) := by
  subst hp hvs
  obtain ⟨T', h', k', X', e', E', A', O', st⟩ := newR X hx hZ hown w1 w2 eT (g := mkF m pc Ls (.int n :: st)) rfl (hb hby hd) rfl hn hcap hb8 hc hl
  exact Ends.of st (kt T' h' _ k' X' e' rfl E' ((Arv.new A' hn).pad (pad_rep [] _ _)) O')
theorem own_aastore (X : Stand p l e R s m args below meth c T locs cells slots) (hx : p.tables.exec = Jvm.exec) (hby : c.code = bc) (hZ : Z.Warmed39 s.vm) {a : Addr} {k : ClassId} {n j : Int32} {vs : List Value} {dv v : Value} {ty : FieldType} {Cn : String} (hr : ty.isReference = true)
    (eT : T.heap = h) (V : Arv Z h a k ty n vs dv) (hj : ¬ j < 0 ∧ j < n) (i : Nat) (hi : j.toNatClampNeg = i) (hil : i < vs.length) (vs' : List Value) (hvs : vs.set i v = vs') (hfit : fits ty v = true) (hsto : v = .null ∨ ∃ y, v = .ref y ∧ Ovr Z k Cn ∧ Ins Z h y Cn true) (N : Fr n0 locs) (ga : n0 ≤ a) (hd : decode bc pc = .ok (.aastore, 1)) (hp : pc + 1 = pc')
    (kt : ∀ T' h' L', Stand p l e R s m args below meth c T' L' cells slots → T'.heap = h' → Wr h h' a j.toNatClampNeg v → Arv Z h' a k ty n vs' dv → Fr n0 L' → Ends p.tables e below Fz (T'.setTop (mkF m pc' Ls st))) : Ends p.tables e below Fz (T.setTop (mkF m pc Ls (v :: .int j :: .ref a :: st))) := by
  subst hp hvs
  obtain ⟨cl, A, q1, Sz, Nn, H, G⟩ := V
  have hs : Sto Z h a v := by
    rcases hsto with rfl | ⟨y, rfl, O, I⟩
    · exact Or.inl rfl
    · exact Sto.ofV A q1 O I
  obtain ⟨T', h', X', e', W', st⟩ := stR X hx hZ eT A (j := j) (inb_of Sz hj) hr hs (g := mkF m pc Ls (v :: .int j :: .ref a :: st)) rfl rfl (hb hby hd)
  exact Ends.of st (kt T' h' _ X' e' W' (Arv.set A q1 Sz Nn H G hfit W' i hi hil) (Fr.snoc X' N ga))
end OwnH

def OwnG (Z : State) (z : Int32) (aD : Addr) : Prop := Sta Z Z.heap "java/lang/String" "COMPACT_STRINGS" "Z" (.int z) ∧ (¬ z = 0) ∧ Sta Z Z.heap "java/util/ArrayList" "DEFAULTCAPACITY_EMPTY_ELEMENTDATA" "[Ljava/lang/Object;" (.ref aD) ∧ ∃ k, Arv Z Z.heap aD k (.object "java/lang/Object") (0 : Int32) [] .null
theorem own_narR {C : String} (v : Value) : narrow (.object C) v = v := by cases v <;> rfl
theorem own_fitR {C : String} {v : Value} (h : v.isRef = true) : fits (.object C) v = true := by cases v <;> simp [Value.isRef, fits] at h ⊢
theorem own_mask (x : Int32) : 0 ≤ (x &&& (255 : Int32)).toInt ∧ (x &&& (255 : Int32)).toInt ≤ 255 := by have k1 := c_mask x (255 : Int32) 8 (by decide) (by decide); omega
theorem own_lt32 {x y : Int32} (k : Int) (hy : y.toInt = k) (h : k ≤ x.toInt) : ¬ x < y := fun q => by rw [Int32.lt_iff_toInt_lt] at q; omega
theorem own_gt32 {x y : Int32} (k : Int) (hy : y.toInt = k) (h : x.toInt ≤ k) : ¬ y < x := fun q => by rw [Int32.lt_iff_toInt_lt] at q; omega
theorem own_charv (x : Int32) : nar .char ((x &&& (255 : Int32)).toUInt32.toUInt16.toUInt32.toInt32) = x &&& (255 : Int32) := by rw [i2c_mask]; exact (Value.int.inj (by have q := Jvm.Free.XT.narrow_c (x &&& (255 : Int32)); rw [i2c_mask] at q; exact q))
theorem own_charf (x : Int32) : fits .char (.int (x &&& (255 : Int32))) = true := by
  have q := own_mask x
  have k1 : (0 : Int32).toInt = 0 := rfl
  have k2 : (65535 : Int32).toInt = 65535 := rfl
  simp only [fits, Bool.and_eq_true, decide_eq_true_eq, Int32.le_iff_toInt_le]
  omega
theorem own_narb (x : Int32) : nar .byte x.toInt8.toInt32 = x.toInt8.toInt32 := Value.int.inj (Jvm.Free.XT.narrow_b x)
theorem own_hws {Z : State} {a0 : Array Value} (hw : ∀ d ∈ tables_1, d.before a0 Z = true) : ∀ d ∈ StrChars.Road.words, d.before a0 Z = true := fun d hd => hw d ((by decide +kernel : ∀ d ∈ StrChars.Road.words, d ∈ tables_1) d hd)
theorem own_chars (x : Int32) : ∀ c ∈ ([x &&& (255 : Int32)] : List Int32), ¬ c < 0 ∧ ¬ (255 : Int32) < c := fun c hc => by
  cases List.mem_singleton.mp hc; have q := own_mask x; exact ⟨own_lt32 0 rfl q.1, own_gt32 255 rfl q.2⟩
theorem own_mc (x : Int32) : ((x &&& (255 : Int32)).toUInt32.toUInt16.toUInt32.toInt32).toInt ≤ 255 := by rw [i2c_mask]; exact (own_mask x).2
theorem g_lt {Z : State} {z : Int32} {aD : Addr} (G : OwnG Z z aD) : aD < Z.heap.size := by obtain ⟨k, V⟩ := G.2.2.2; exact V.lt
theorem own_ge' {Z : State} {n0 : Nat} {h : Heap} (O : Old Z n0 h) : n0 ≤ h.size := O.1 ▸ O.2.1

theorem tw_0 : (Jvm.Cond.arrayClass Jvm.ClassFile.FieldType.char) ∈ tables_1 := List.mem_of_getElem? (i := 0) rfl
theorem tw_1 : (Jvm.Cond.classLink "com/example/weftwork/weftwork/io/EntryIsListPinLaw" (7 : Nat) "java/lang/String") ∈ tables_1 := List.mem_of_getElem? (i := 1) rfl
theorem tw_2 : (Jvm.Cond.instantiable "java/lang/String" (4 : Nat)) ∈ tables_1 := List.mem_of_getElem? (i := 2) rfl
theorem tw_3 : (Jvm.Cond.initialized "java/lang/String") ∈ tables_1 := List.mem_of_getElem? (i := 3) rfl
theorem tw_4 : (Jvm.Cond.methodLink "com/example/weftwork/weftwork/io/EntryIsListPinLaw" (9 : Nat) ({ cls := "java/lang/String", name := "<init>", desc := "([C)V" } : Jvm.MethodName)) ∈ tables_1 := List.mem_of_getElem? (i := 4) rfl
theorem tw_5 : (Jvm.Cond.instanceMethod ({ cls := "java/lang/String", name := "<init>", desc := "([C)V" } : Jvm.MethodName)) ∈ tables_1 := List.mem_of_getElem? (i := 5) rfl
theorem tw_6 : (Jvm.Cond.code ({ cls := "java/lang/String", name := "<init>", desc := "([C)V" } : Jvm.MethodName) jdk_42_method_3_code (2 : Nat) (Option.none : Option Jvm.ClassFile.FieldType)) ∈ tables_1 := List.mem_of_getElem? (i := 6) rfl
theorem tw_11 : (Jvm.Cond.methodLink "java/lang/String" (1 : Nat) ({ cls := "java/lang/Object", name := "<init>", desc := "()V" } : Jvm.MethodName)) ∈ tables_1 := List.mem_of_getElem? (i := 11) rfl
theorem tw_12 : (Jvm.Cond.instanceMethod ({ cls := "java/lang/Object", name := "<init>", desc := "()V" } : Jvm.MethodName)) ∈ tables_1 := List.mem_of_getElem? (i := 12) rfl
theorem tw_13 : (Jvm.Cond.code ({ cls := "java/lang/Object", name := "<init>", desc := "()V" } : Jvm.MethodName) object_method_1_code (1 : Nat) (Option.none : Option Jvm.ClassFile.FieldType)) ∈ tables_1 := List.mem_of_getElem? (i := 13) rfl
theorem tw_14 : (Jvm.Cond.fieldLink "java/lang/String" (38 : Nat) "java/lang/String" "COMPACT_STRINGS" "Z") ∈ tables_1 := List.mem_of_getElem? (i := 14) rfl
theorem tw_19 : (Jvm.Cond.arrayClass Jvm.ClassFile.FieldType.byte) ∈ tables_1 := List.mem_of_getElem? (i := 19) rfl
theorem tw_26 : (Jvm.Cond.fieldLink "java/lang/String" (15 : Nat) "java/lang/String" "coder" "B") ∈ tables_1 := List.mem_of_getElem? (i := 26) rfl
theorem tw_27 : (Jvm.Cond.laysFinal "java/lang/String" "java/lang/String" "coder" "B") ∈ tables_1 := List.mem_of_getElem? (i := 27) rfl
theorem tw_28 : (Jvm.Cond.fieldLink "java/lang/String" (9 : Nat) "java/lang/String" "value" "[B") ∈ tables_1 := List.mem_of_getElem? (i := 28) rfl
theorem tw_29 : (Jvm.Cond.laysFinal "java/lang/String" "java/lang/String" "value" "[B") ∈ tables_1 := List.mem_of_getElem? (i := 29) rfl
theorem tw_30 : (Jvm.Cond.classLink "com/example/weftwork/weftwork/io/EntryIsListPinLaw" (19 : Nat) "com/example/weftwork/weftwork/io/Gml$Entry") ∈ tables_1 := List.mem_of_getElem? (i := 30) rfl
theorem tw_31 : (Jvm.Cond.instantiable "com/example/weftwork/weftwork/io/Gml$Entry" (4 : Nat)) ∈ tables_1 := List.mem_of_getElem? (i := 31) rfl
theorem tw_32 : (Jvm.Cond.initialized "com/example/weftwork/weftwork/io/Gml$Entry") ∈ tables_1 := List.mem_of_getElem? (i := 32) rfl
theorem tw_33 : (Jvm.Cond.methodLink "com/example/weftwork/weftwork/io/EntryIsListPinLaw" (21 : Nat) ({ cls := "com/example/weftwork/weftwork/io/Gml$Entry", name := "<init>", desc := "(Ljava/lang/String;ILjava/lang/String;Ljava/util/List;)V" } : Jvm.MethodName)) ∈ tables_1 := List.mem_of_getElem? (i := 33) rfl
theorem tw_34 : (Jvm.Cond.instanceMethod ({ cls := "com/example/weftwork/weftwork/io/Gml$Entry", name := "<init>", desc := "(Ljava/lang/String;ILjava/lang/String;Ljava/util/List;)V" } : Jvm.MethodName)) ∈ tables_1 := List.mem_of_getElem? (i := 34) rfl
theorem tw_35 : (Jvm.Cond.code ({ cls := "com/example/weftwork/weftwork/io/Gml$Entry", name := "<init>", desc := "(Ljava/lang/String;ILjava/lang/String;Ljava/util/List;)V" } : Jvm.MethodName) prog_30_method_1_code (5 : Nat) (Option.none : Option Jvm.ClassFile.FieldType)) ∈ tables_1 := List.mem_of_getElem? (i := 35) rfl
theorem tw_36 : (Jvm.Cond.methodLink "com/example/weftwork/weftwork/io/Gml$Entry" (1 : Nat) ({ cls := "java/lang/Record", name := "<init>", desc := "()V" } : Jvm.MethodName)) ∈ tables_1 := List.mem_of_getElem? (i := 36) rfl
theorem tw_37 : (Jvm.Cond.instanceMethod ({ cls := "java/lang/Record", name := "<init>", desc := "()V" } : Jvm.MethodName)) ∈ tables_1 := List.mem_of_getElem? (i := 37) rfl
theorem tw_39 : (Jvm.Cond.initialized "java/lang/Record") ∈ tables_1 := List.mem_of_getElem? (i := 39) rfl
theorem tw_40 : (Jvm.Cond.code ({ cls := "java/lang/Record", name := "<init>", desc := "()V" } : Jvm.MethodName) jdk_30_method_1_code (1 : Nat) (Option.none : Option Jvm.ClassFile.FieldType)) ∈ tables_1 := List.mem_of_getElem? (i := 40) rfl
theorem tw_41 : (Jvm.Cond.methodLink "java/lang/Record" (1 : Nat) ({ cls := "java/lang/Object", name := "<init>", desc := "()V" } : Jvm.MethodName)) ∈ tables_1 := List.mem_of_getElem? (i := 41) rfl
theorem tw_42 : (Jvm.Cond.fieldLink "com/example/weftwork/weftwork/io/Gml$Entry" (7 : Nat) "com/example/weftwork/weftwork/io/Gml$Entry" "key" "Ljava/lang/String;") ∈ tables_1 := List.mem_of_getElem? (i := 42) rfl
theorem tw_43 : (Jvm.Cond.laysFinal "com/example/weftwork/weftwork/io/Gml$Entry" "com/example/weftwork/weftwork/io/Gml$Entry" "key" "Ljava/lang/String;") ∈ tables_1 := List.mem_of_getElem? (i := 43) rfl
theorem tw_44 : (Jvm.Cond.fieldLink "com/example/weftwork/weftwork/io/Gml$Entry" (13 : Nat) "com/example/weftwork/weftwork/io/Gml$Entry" "line" "I") ∈ tables_1 := List.mem_of_getElem? (i := 44) rfl
theorem tw_45 : (Jvm.Cond.laysFinal "com/example/weftwork/weftwork/io/Gml$Entry" "com/example/weftwork/weftwork/io/Gml$Entry" "line" "I") ∈ tables_1 := List.mem_of_getElem? (i := 45) rfl
theorem tw_46 : (Jvm.Cond.fieldLink "com/example/weftwork/weftwork/io/Gml$Entry" (17 : Nat) "com/example/weftwork/weftwork/io/Gml$Entry" "scalar" "Ljava/lang/String;") ∈ tables_1 := List.mem_of_getElem? (i := 46) rfl
theorem tw_47 : (Jvm.Cond.laysFinal "com/example/weftwork/weftwork/io/Gml$Entry" "com/example/weftwork/weftwork/io/Gml$Entry" "scalar" "Ljava/lang/String;") ∈ tables_1 := List.mem_of_getElem? (i := 47) rfl
theorem tw_48 : (Jvm.Cond.fieldLink "com/example/weftwork/weftwork/io/Gml$Entry" (20 : Nat) "com/example/weftwork/weftwork/io/Gml$Entry" "list" "Ljava/util/List;") ∈ tables_1 := List.mem_of_getElem? (i := 48) rfl
theorem tw_49 : (Jvm.Cond.laysFinal "com/example/weftwork/weftwork/io/Gml$Entry" "com/example/weftwork/weftwork/io/Gml$Entry" "list" "Ljava/util/List;") ∈ tables_1 := List.mem_of_getElem? (i := 49) rfl
theorem tw_50 : (Jvm.Cond.methodLink "com/example/weftwork/weftwork/io/EntryIsListPinLaw" (30 : Nat) ({ cls := "com/example/weftwork/weftwork/io/Gml$Entry", name := "isList", desc := "()Z" } : Jvm.MethodName)) ∈ tables_1 := List.mem_of_getElem? (i := 50) rfl
theorem tw_51 : (Jvm.Cond.declares ({ cls := "com/example/weftwork/weftwork/io/Gml$Entry", name := "isList", desc := "()Z" } : Jvm.MethodName)) ∈ tables_1 := List.mem_of_getElem? (i := 51) rfl
theorem tw_52 : (Jvm.Cond.instanceMethod ({ cls := "com/example/weftwork/weftwork/io/Gml$Entry", name := "isList", desc := "()Z" } : Jvm.MethodName)) ∈ tables_1 := List.mem_of_getElem? (i := 52) rfl
theorem tw_53 : (Jvm.Cond.selects "com/example/weftwork/weftwork/io/Gml$Entry" ({ cls := "com/example/weftwork/weftwork/io/Gml$Entry", name := "isList", desc := "()Z" } : Jvm.MethodName) ({ cls := "com/example/weftwork/weftwork/io/Gml$Entry", name := "isList", desc := "()Z" } : Jvm.MethodName)) ∈ tables_1 := List.mem_of_getElem? (i := 53) rfl
theorem tw_54 : (Jvm.Cond.code ({ cls := "com/example/weftwork/weftwork/io/Gml$Entry", name := "isList", desc := "()Z" } : Jvm.MethodName) prog_30_method_2_code (1 : Nat) (Option.some Jvm.ClassFile.FieldType.boolean)) ∈ tables_1 := List.mem_of_getElem? (i := 54) rfl
theorem tw_55 : (Jvm.Cond.methodLink "com/example/weftwork/weftwork/io/EntryIsListPinLaw" (34 : Nat) ({ cls := "com/example/weftwork/weftwork/io/Gml$Entry", name := "list", desc := "()Ljava/util/List;" } : Jvm.MethodName)) ∈ tables_1 := List.mem_of_getElem? (i := 55) rfl
theorem tw_56 : (Jvm.Cond.declares ({ cls := "com/example/weftwork/weftwork/io/Gml$Entry", name := "list", desc := "()Ljava/util/List;" } : Jvm.MethodName)) ∈ tables_1 := List.mem_of_getElem? (i := 56) rfl
theorem tw_57 : (Jvm.Cond.instanceMethod ({ cls := "com/example/weftwork/weftwork/io/Gml$Entry", name := "list", desc := "()Ljava/util/List;" } : Jvm.MethodName)) ∈ tables_1 := List.mem_of_getElem? (i := 57) rfl
theorem tw_58 : (Jvm.Cond.selects "com/example/weftwork/weftwork/io/Gml$Entry" ({ cls := "com/example/weftwork/weftwork/io/Gml$Entry", name := "list", desc := "()Ljava/util/List;" } : Jvm.MethodName) ({ cls := "com/example/weftwork/weftwork/io/Gml$Entry", name := "list", desc := "()Ljava/util/List;" } : Jvm.MethodName)) ∈ tables_1 := List.mem_of_getElem? (i := 58) rfl
theorem tw_59 : (Jvm.Cond.code ({ cls := "com/example/weftwork/weftwork/io/Gml$Entry", name := "list", desc := "()Ljava/util/List;" } : Jvm.MethodName) prog_30_method_9_code (1 : Nat) (Option.some (Jvm.ClassFile.FieldType.object "java/util/List"))) ∈ tables_1 := List.mem_of_getElem? (i := 59) rfl
theorem tw_60 : (Jvm.Cond.methodLink "com/example/weftwork/weftwork/io/EntryIsListPinLaw" (12 : Nat) ({ cls := "java/lang/String", name := "valueOf", desc := "(C)Ljava/lang/String;" } : Jvm.MethodName)) ∈ tables_1 := List.mem_of_getElem? (i := 60) rfl
theorem tw_61 : (Jvm.Cond.static ({ cls := "java/lang/String", name := "valueOf", desc := "(C)Ljava/lang/String;" } : Jvm.MethodName)) ∈ tables_1 := List.mem_of_getElem? (i := 61) rfl
theorem tw_62 : (Jvm.Cond.code ({ cls := "java/lang/String", name := "valueOf", desc := "(C)Ljava/lang/String;" } : Jvm.MethodName) jdk_42_method_139_code (1 : Nat) (Option.some (Jvm.ClassFile.FieldType.object "java/lang/String"))) ∈ tables_1 := List.mem_of_getElem? (i := 62) rfl
theorem tw_63 : (Jvm.Cond.methodLink "java/lang/String" (1015 : Nat) ({ cls := "java/lang/StringLatin1", name := "canEncode", desc := "(C)Z" } : Jvm.MethodName)) ∈ tables_1 := List.mem_of_getElem? (i := 63) rfl
theorem tw_64 : (Jvm.Cond.static ({ cls := "java/lang/StringLatin1", name := "canEncode", desc := "(C)Z" } : Jvm.MethodName)) ∈ tables_1 := List.mem_of_getElem? (i := 64) rfl
theorem tw_65 : (Jvm.Cond.initialized "java/lang/StringLatin1") ∈ tables_1 := List.mem_of_getElem? (i := 65) rfl
theorem tw_66 : (Jvm.Cond.code ({ cls := "java/lang/StringLatin1", name := "canEncode", desc := "(C)Z" } : Jvm.MethodName) jdk_43_method_3_code (1 : Nat) (Option.some Jvm.ClassFile.FieldType.boolean)) ∈ tables_1 := List.mem_of_getElem? (i := 66) rfl
theorem tw_67 : (Jvm.Cond.classLink "java/lang/String" (10 : Nat) "java/lang/String") ∈ tables_1 := List.mem_of_getElem? (i := 67) rfl
theorem tw_68 : (Jvm.Cond.methodLink "java/lang/String" (1018 : Nat) ({ cls := "java/lang/StringLatin1", name := "toBytes", desc := "(C)[B" } : Jvm.MethodName)) ∈ tables_1 := List.mem_of_getElem? (i := 68) rfl
theorem tw_69 : (Jvm.Cond.static ({ cls := "java/lang/StringLatin1", name := "toBytes", desc := "(C)[B" } : Jvm.MethodName)) ∈ tables_1 := List.mem_of_getElem? (i := 69) rfl
theorem tw_70 : (Jvm.Cond.code ({ cls := "java/lang/StringLatin1", name := "toBytes", desc := "(C)[B" } : Jvm.MethodName) jdk_43_method_46_code (1 : Nat) (Option.some (Jvm.ClassFile.FieldType.array Jvm.ClassFile.FieldType.byte))) ∈ tables_1 := List.mem_of_getElem? (i := 70) rfl
theorem tw_71 : (Jvm.Cond.methodLink "java/lang/String" (209 : Nat) ({ cls := "java/lang/String", name := "<init>", desc := "([BB)V" } : Jvm.MethodName)) ∈ tables_1 := List.mem_of_getElem? (i := 71) rfl
theorem tw_72 : (Jvm.Cond.instanceMethod ({ cls := "java/lang/String", name := "<init>", desc := "([BB)V" } : Jvm.MethodName)) ∈ tables_1 := List.mem_of_getElem? (i := 72) rfl
theorem tw_73 : (Jvm.Cond.code ({ cls := "java/lang/String", name := "<init>", desc := "([BB)V" } : Jvm.MethodName) jdk_42_method_151_code (3 : Nat) (Option.none : Option Jvm.ClassFile.FieldType)) ∈ tables_1 := List.mem_of_getElem? (i := 73) rfl
theorem tw_74 : (Jvm.Cond.classLink "com/example/weftwork/weftwork/io/EntryIsListPinLaw" (16 : Nat) "java/util/ArrayList") ∈ tables_1 := List.mem_of_getElem? (i := 74) rfl
theorem tw_75 : (Jvm.Cond.instantiable "java/util/ArrayList" (3 : Nat)) ∈ tables_1 := List.mem_of_getElem? (i := 75) rfl
theorem tw_76 : (Jvm.Cond.initialized "java/util/ArrayList") ∈ tables_1 := List.mem_of_getElem? (i := 76) rfl
theorem tw_77 : (Jvm.Cond.methodLink "com/example/weftwork/weftwork/io/EntryIsListPinLaw" (18 : Nat) ({ cls := "java/util/ArrayList", name := "<init>", desc := "()V" } : Jvm.MethodName)) ∈ tables_1 := List.mem_of_getElem? (i := 77) rfl
theorem tw_78 : (Jvm.Cond.instanceMethod ({ cls := "java/util/ArrayList", name := "<init>", desc := "()V" } : Jvm.MethodName)) ∈ tables_1 := List.mem_of_getElem? (i := 78) rfl
theorem tw_79 : (Jvm.Cond.code ({ cls := "java/util/ArrayList", name := "<init>", desc := "()V" } : Jvm.MethodName) jdk_38_method_2_code (1 : Nat) (Option.none : Option Jvm.ClassFile.FieldType)) ∈ tables_1 := List.mem_of_getElem? (i := 79) rfl
theorem tw_80 : (Jvm.Cond.methodLink "java/util/ArrayList" (1 : Nat) ({ cls := "java/util/AbstractList", name := "<init>", desc := "()V" } : Jvm.MethodName)) ∈ tables_1 := List.mem_of_getElem? (i := 80) rfl
theorem tw_81 : (Jvm.Cond.instanceMethod ({ cls := "java/util/AbstractList", name := "<init>", desc := "()V" } : Jvm.MethodName)) ∈ tables_1 := List.mem_of_getElem? (i := 81) rfl
theorem tw_84 : (Jvm.Cond.initialized "java/util/AbstractList") ∈ tables_1 := List.mem_of_getElem? (i := 84) rfl
theorem tw_85 : (Jvm.Cond.code ({ cls := "java/util/AbstractList", name := "<init>", desc := "()V" } : Jvm.MethodName) jdk_39_method_1_code (1 : Nat) (Option.none : Option Jvm.ClassFile.FieldType)) ∈ tables_1 := List.mem_of_getElem? (i := 85) rfl
theorem tw_86 : (Jvm.Cond.methodLink "java/util/AbstractList" (1 : Nat) ({ cls := "java/util/AbstractCollection", name := "<init>", desc := "()V" } : Jvm.MethodName)) ∈ tables_1 := List.mem_of_getElem? (i := 86) rfl
theorem tw_87 : (Jvm.Cond.instanceMethod ({ cls := "java/util/AbstractCollection", name := "<init>", desc := "()V" } : Jvm.MethodName)) ∈ tables_1 := List.mem_of_getElem? (i := 87) rfl
theorem tw_90 : (Jvm.Cond.initialized "java/util/AbstractCollection") ∈ tables_1 := List.mem_of_getElem? (i := 90) rfl
theorem tw_91 : (Jvm.Cond.code ({ cls := "java/util/AbstractCollection", name := "<init>", desc := "()V" } : Jvm.MethodName) jdk_22_method_1_code (1 : Nat) (Option.none : Option Jvm.ClassFile.FieldType)) ∈ tables_1 := List.mem_of_getElem? (i := 91) rfl
theorem tw_92 : (Jvm.Cond.methodLink "java/util/AbstractCollection" (1 : Nat) ({ cls := "java/lang/Object", name := "<init>", desc := "()V" } : Jvm.MethodName)) ∈ tables_1 := List.mem_of_getElem? (i := 92) rfl
theorem tw_93 : (Jvm.Cond.fieldLink "java/util/AbstractList" (7 : Nat) "java/util/AbstractList" "modCount" "I") ∈ tables_1 := List.mem_of_getElem? (i := 93) rfl
theorem tw_94 : (Jvm.Cond.lays "java/util/ArrayList" "java/util/AbstractList" "modCount" "I") ∈ tables_1 := List.mem_of_getElem? (i := 94) rfl
theorem tw_95 : (Jvm.Cond.fieldLink "java/util/ArrayList" (39 : Nat) "java/util/ArrayList" "DEFAULTCAPACITY_EMPTY_ELEMENTDATA" "[Ljava/lang/Object;") ∈ tables_1 := List.mem_of_getElem? (i := 95) rfl
theorem tw_96 : (Jvm.Cond.fieldLink "java/util/ArrayList" (9 : Nat) "java/util/ArrayList" "elementData" "[Ljava/lang/Object;") ∈ tables_1 := List.mem_of_getElem? (i := 96) rfl
theorem tw_97 : (Jvm.Cond.lays "java/util/ArrayList" "java/util/ArrayList" "elementData" "[Ljava/lang/Object;") ∈ tables_1 := List.mem_of_getElem? (i := 97) rfl
theorem tw_98 : (Jvm.Cond.methodLink "com/example/weftwork/weftwork/io/EntryIsListPinLaw" (24 : Nat) ({ cls := "java/util/List", name := "add", desc := "(Ljava/lang/Object;)Z" } : Jvm.MethodName)) ∈ tables_1 := List.mem_of_getElem? (i := 98) rfl
theorem tw_99 : (Jvm.Cond.declares ({ cls := "java/util/List", name := "add", desc := "(Ljava/lang/Object;)Z" } : Jvm.MethodName)) ∈ tables_1 := List.mem_of_getElem? (i := 99) rfl
theorem tw_100 : (Jvm.Cond.interfaceMethod "java/util/List" "java/util/List" "add" "(Ljava/lang/Object;)Z") ∈ tables_1 := List.mem_of_getElem? (i := 100) rfl
theorem tw_101 : (Jvm.Cond.selects "java/util/ArrayList" ({ cls := "java/util/List", name := "add", desc := "(Ljava/lang/Object;)Z" } : Jvm.MethodName) ({ cls := "java/util/ArrayList", name := "add", desc := "(Ljava/lang/Object;)Z" } : Jvm.MethodName)) ∈ tables_1 := List.mem_of_getElem? (i := 101) rfl
theorem tw_102 : (Jvm.Cond.instanceMethod ({ cls := "java/util/ArrayList", name := "add", desc := "(Ljava/lang/Object;)Z" } : Jvm.MethodName)) ∈ tables_1 := List.mem_of_getElem? (i := 102) rfl
theorem tw_103 : (Jvm.Cond.publicMethod ({ cls := "java/util/ArrayList", name := "add", desc := "(Ljava/lang/Object;)Z" } : Jvm.MethodName)) ∈ tables_1 := List.mem_of_getElem? (i := 103) rfl
theorem tw_104 : (Jvm.Cond.unhidden "java/util/ArrayList" "add" "(Ljava/lang/Object;)Z") ∈ tables_1 := List.mem_of_getElem? (i := 104) rfl
theorem tw_105 : (Jvm.Cond.castable "java/util/ArrayList" "java/util/List") ∈ tables_1 := List.mem_of_getElem? (i := 105) rfl
theorem tw_106 : (Jvm.Cond.code ({ cls := "java/util/ArrayList", name := "add", desc := "(Ljava/lang/Object;)Z" } : Jvm.MethodName) jdk_38_method_25_code (2 : Nat) (Option.some Jvm.ClassFile.FieldType.boolean)) ∈ tables_1 := List.mem_of_getElem? (i := 106) rfl
theorem tw_107 : (Jvm.Cond.fieldLink "java/util/ArrayList" (63 : Nat) "java/util/ArrayList" "modCount" "I") ∈ tables_1 := List.mem_of_getElem? (i := 107) rfl
theorem tw_108 : (Jvm.Cond.sameField "java/util/ArrayList" "java/util/AbstractList" "modCount" "I") ∈ tables_1 := List.mem_of_getElem? (i := 108) rfl
theorem tw_109 : (Jvm.Cond.fieldLink "java/util/ArrayList" (48 : Nat) "java/util/ArrayList" "size" "I") ∈ tables_1 := List.mem_of_getElem? (i := 109) rfl
theorem tw_110 : (Jvm.Cond.lays "java/util/ArrayList" "java/util/ArrayList" "size" "I") ∈ tables_1 := List.mem_of_getElem? (i := 110) rfl
theorem tw_111 : (Jvm.Cond.methodLink "java/util/ArrayList" (131 : Nat) ({ cls := "java/util/ArrayList", name := "add", desc := "(Ljava/lang/Object;[Ljava/lang/Object;I)V" } : Jvm.MethodName)) ∈ tables_1 := List.mem_of_getElem? (i := 111) rfl
theorem tw_112 : (Jvm.Cond.instanceMethod ({ cls := "java/util/ArrayList", name := "add", desc := "(Ljava/lang/Object;[Ljava/lang/Object;I)V" } : Jvm.MethodName)) ∈ tables_1 := List.mem_of_getElem? (i := 112) rfl
theorem tw_113 : (Jvm.Cond.privateMethod ({ cls := "java/util/ArrayList", name := "add", desc := "(Ljava/lang/Object;[Ljava/lang/Object;I)V" } : Jvm.MethodName)) ∈ tables_1 := List.mem_of_getElem? (i := 113) rfl
theorem tw_115 : (Jvm.Cond.code ({ cls := "java/util/ArrayList", name := "add", desc := "(Ljava/lang/Object;[Ljava/lang/Object;I)V" } : Jvm.MethodName) jdk_38_method_24_code (4 : Nat) (Option.none : Option Jvm.ClassFile.FieldType)) ∈ tables_1 := List.mem_of_getElem? (i := 115) rfl
theorem tw_116 : (Jvm.Cond.methodLink "java/util/ArrayList" (129 : Nat) ({ cls := "java/util/ArrayList", name := "grow", desc := "()[Ljava/lang/Object;" } : Jvm.MethodName)) ∈ tables_1 := List.mem_of_getElem? (i := 116) rfl
theorem tw_117 : (Jvm.Cond.instanceMethod ({ cls := "java/util/ArrayList", name := "grow", desc := "()[Ljava/lang/Object;" } : Jvm.MethodName)) ∈ tables_1 := List.mem_of_getElem? (i := 117) rfl
theorem tw_118 : (Jvm.Cond.privateMethod ({ cls := "java/util/ArrayList", name := "grow", desc := "()[Ljava/lang/Object;" } : Jvm.MethodName)) ∈ tables_1 := List.mem_of_getElem? (i := 118) rfl
theorem tw_120 : (Jvm.Cond.code ({ cls := "java/util/ArrayList", name := "grow", desc := "()[Ljava/lang/Object;" } : Jvm.MethodName) jdk_38_method_7_code (1 : Nat) (Option.some (Jvm.ClassFile.FieldType.array (Jvm.ClassFile.FieldType.object "java/lang/Object")))) ∈ tables_1 := List.mem_of_getElem? (i := 120) rfl
theorem tw_121 : (Jvm.Cond.methodLink "java/util/ArrayList" (69 : Nat) ({ cls := "java/util/ArrayList", name := "grow", desc := "(I)[Ljava/lang/Object;" } : Jvm.MethodName)) ∈ tables_1 := List.mem_of_getElem? (i := 121) rfl
theorem tw_122 : (Jvm.Cond.instanceMethod ({ cls := "java/util/ArrayList", name := "grow", desc := "(I)[Ljava/lang/Object;" } : Jvm.MethodName)) ∈ tables_1 := List.mem_of_getElem? (i := 122) rfl
theorem tw_123 : (Jvm.Cond.privateMethod ({ cls := "java/util/ArrayList", name := "grow", desc := "(I)[Ljava/lang/Object;" } : Jvm.MethodName)) ∈ tables_1 := List.mem_of_getElem? (i := 123) rfl
theorem tw_125 : (Jvm.Cond.code ({ cls := "java/util/ArrayList", name := "grow", desc := "(I)[Ljava/lang/Object;" } : Jvm.MethodName) jdk_38_method_6_code (4 : Nat) (Option.some (Jvm.ClassFile.FieldType.array (Jvm.ClassFile.FieldType.object "java/lang/Object")))) ∈ tables_1 := List.mem_of_getElem? (i := 125) rfl
theorem tw_126 : (Jvm.Cond.methodLink "java/util/ArrayList" (79 : Nat) ({ cls := "java/lang/Math", name := "max", desc := "(II)I" } : Jvm.MethodName)) ∈ tables_1 := List.mem_of_getElem? (i := 126) rfl
theorem tw_127 : (Jvm.Cond.static ({ cls := "java/lang/Math", name := "max", desc := "(II)I" } : Jvm.MethodName)) ∈ tables_1 := List.mem_of_getElem? (i := 127) rfl
theorem tw_128 : (Jvm.Cond.initialized "java/lang/Math") ∈ tables_1 := List.mem_of_getElem? (i := 128) rfl
theorem tw_129 : (Jvm.Cond.code ({ cls := "java/lang/Math", name := "max", desc := "(II)I" } : Jvm.MethodName) jdk_29_method_65_code (2 : Nat) (Option.some Jvm.ClassFile.FieldType.int)) ∈ tables_1 := List.mem_of_getElem? (i := 129) rfl
theorem tw_130 : (Jvm.Cond.classLink "java/util/ArrayList" (7 : Nat) "java/lang/Object") ∈ tables_1 := List.mem_of_getElem? (i := 130) rfl
theorem tw_131 : (Jvm.Cond.arrayOver (Jvm.ClassFile.FieldType.object "java/lang/Object")) ∈ tables_1 := List.mem_of_getElem? (i := 131) rfl
theorem tw_132 : (Jvm.Cond.castable "com/example/weftwork/weftwork/io/Gml$Entry" "java/lang/Object") ∈ tables_1 := List.mem_of_getElem? (i := 132) rfl
theorem d7_0 : decode prog_30_method_1_code 0 = .ok (.aload_n 0, 1) := by decide +kernel
theorem d7_1 : decode prog_30_method_1_code 1 = .ok (.invokespecial 1, 3) := by decide +kernel
theorem d7_4 : decode prog_30_method_1_code 4 = .ok (.aload_n 0, 1) := by decide +kernel
theorem d7_5 : decode prog_30_method_1_code 5 = .ok (.aload_n 1, 1) := by decide +kernel
theorem d7_6 : decode prog_30_method_1_code 6 = .ok (.putfield 7, 3) := by decide +kernel
theorem d7_9 : decode prog_30_method_1_code 9 = .ok (.aload_n 0, 1) := by decide +kernel
theorem d7_10 : decode prog_30_method_1_code 10 = .ok (.iload_n 2, 1) := by decide +kernel
theorem d7_11 : decode prog_30_method_1_code 11 = .ok (.putfield 13, 3) := by decide +kernel
theorem d7_14 : decode prog_30_method_1_code 14 = .ok (.aload_n 0, 1) := by decide +kernel
theorem d7_15 : decode prog_30_method_1_code 15 = .ok (.aload_n 3, 1) := by decide +kernel
theorem d7_16 : decode prog_30_method_1_code 16 = .ok (.putfield 17, 3) := by decide +kernel
theorem d7_19 : decode prog_30_method_1_code 19 = .ok (.aload_n 0, 1) := by decide +kernel
theorem d7_20 : decode prog_30_method_1_code 20 = .ok (.aload 4, 2) := by decide +kernel
theorem d7_22 : decode prog_30_method_1_code 22 = .ok (.putfield 20, 3) := by decide +kernel
theorem d7_25 : decode prog_30_method_1_code 25 = .ok (.return_, 1) := by decide +kernel
theorem d8_0 : decode jdk_30_method_1_code 0 = .ok (.aload_n 0, 1) := by decide +kernel
theorem d8_1 : decode jdk_30_method_1_code 1 = .ok (.invokespecial 1, 3) := by decide +kernel
theorem d8_4 : decode jdk_30_method_1_code 4 = .ok (.return_, 1) := by decide +kernel
theorem d9_0 : decode prog_30_method_2_code 0 = .ok (.aload_n 0, 1) := by decide +kernel
theorem d9_1 : decode prog_30_method_2_code 1 = .ok (.getfield 20, 3) := by decide +kernel
theorem d9_4 : decode prog_30_method_2_code 4 = .ok (.ifnull 7, 3) := by decide +kernel
theorem d9_7 : decode prog_30_method_2_code 7 = .ok (.iconst 1, 1) := by decide +kernel
theorem d9_8 : decode prog_30_method_2_code 8 = .ok (.goto 4, 3) := by decide +kernel
theorem d9_11 : decode prog_30_method_2_code 11 = .ok (.iconst 0, 1) := by decide +kernel
theorem d9_12 : decode prog_30_method_2_code 12 = .ok (.ireturn, 1) := by decide +kernel
theorem d10_0 : decode prog_30_method_9_code 0 = .ok (.aload_n 0, 1) := by decide +kernel
theorem d10_1 : decode prog_30_method_9_code 1 = .ok (.getfield 20, 3) := by decide +kernel
theorem d10_4 : decode prog_30_method_9_code 4 = .ok (.areturn, 1) := by decide +kernel
theorem d11_0 : decode jdk_42_method_139_code 0 = .ok (.getstatic 38, 3) := by decide +kernel
theorem d11_3 : decode jdk_42_method_139_code 3 = .ok (.ifCond .eq 23, 3) := by decide +kernel
theorem d11_6 : decode jdk_42_method_139_code 6 = .ok (.iload_n 0, 1) := by decide +kernel
theorem d11_7 : decode jdk_42_method_139_code 7 = .ok (.invokestatic 1015, 3) := by decide +kernel
theorem d11_10 : decode jdk_42_method_139_code 10 = .ok (.ifCond .eq 16, 3) := by decide +kernel
theorem d11_13 : decode jdk_42_method_139_code 13 = .ok (.new 10, 3) := by decide +kernel
theorem d11_16 : decode jdk_42_method_139_code 16 = .ok (.dup, 1) := by decide +kernel
theorem d11_17 : decode jdk_42_method_139_code 17 = .ok (.iload_n 0, 1) := by decide +kernel
theorem d11_18 : decode jdk_42_method_139_code 18 = .ok (.invokestatic 1018, 3) := by decide +kernel
theorem d11_21 : decode jdk_42_method_139_code 21 = .ok (.iconst 0, 1) := by decide +kernel
theorem d11_22 : decode jdk_42_method_139_code 22 = .ok (.invokespecial 209, 3) := by decide +kernel
theorem d11_25 : decode jdk_42_method_139_code 25 = .ok (.areturn, 1) := by decide +kernel
theorem d12_0 : decode jdk_43_method_3_code 0 = .ok (.iload_n 0, 1) := by decide +kernel
theorem d12_1 : decode jdk_43_method_3_code 1 = .ok (.sipush 255, 3) := by decide +kernel
theorem d12_4 : decode jdk_43_method_3_code 4 = .ok (.if_icmp .gt 7, 3) := by decide +kernel
theorem d12_7 : decode jdk_43_method_3_code 7 = .ok (.iconst 1, 1) := by decide +kernel
theorem d12_8 : decode jdk_43_method_3_code 8 = .ok (.goto 4, 3) := by decide +kernel
theorem d12_12 : decode jdk_43_method_3_code 12 = .ok (.ireturn, 1) := by decide +kernel
theorem d13_0 : decode jdk_43_method_46_code 0 = .ok (.iconst 1, 1) := by decide +kernel
theorem d13_1 : decode jdk_43_method_46_code 1 = .ok (.newarray .byte, 2) := by decide +kernel
theorem d13_3 : decode jdk_43_method_46_code 3 = .ok (.dup, 1) := by decide +kernel
theorem d13_4 : decode jdk_43_method_46_code 4 = .ok (.iconst 0, 1) := by decide +kernel
theorem d13_5 : decode jdk_43_method_46_code 5 = .ok (.iload_n 0, 1) := by decide +kernel
theorem d13_6 : decode jdk_43_method_46_code 6 = .ok (.i2b, 1) := by decide +kernel
theorem d13_7 : decode jdk_43_method_46_code 7 = .ok (.bastore, 1) := by decide +kernel
theorem d13_8 : decode jdk_43_method_46_code 8 = .ok (.areturn, 1) := by decide +kernel
theorem d14_0 : decode jdk_42_method_151_code 0 = .ok (.aload_n 0, 1) := by decide +kernel
theorem d14_1 : decode jdk_42_method_151_code 1 = .ok (.invokespecial 1, 3) := by decide +kernel
theorem d14_4 : decode jdk_42_method_151_code 4 = .ok (.aload_n 0, 1) := by decide +kernel
theorem d14_5 : decode jdk_42_method_151_code 5 = .ok (.aload_n 1, 1) := by decide +kernel
theorem d14_6 : decode jdk_42_method_151_code 6 = .ok (.putfield 9, 3) := by decide +kernel
theorem d14_9 : decode jdk_42_method_151_code 9 = .ok (.aload_n 0, 1) := by decide +kernel
theorem d14_10 : decode jdk_42_method_151_code 10 = .ok (.iload_n 2, 1) := by decide +kernel
theorem d14_11 : decode jdk_42_method_151_code 11 = .ok (.putfield 15, 3) := by decide +kernel
theorem d14_14 : decode jdk_42_method_151_code 14 = .ok (.return_, 1) := by decide +kernel
theorem d15_0 : decode jdk_38_method_2_code 0 = .ok (.aload_n 0, 1) := by decide +kernel
theorem d15_1 : decode jdk_38_method_2_code 1 = .ok (.invokespecial 1, 3) := by decide +kernel
theorem d15_4 : decode jdk_38_method_2_code 4 = .ok (.aload_n 0, 1) := by decide +kernel
theorem d15_5 : decode jdk_38_method_2_code 5 = .ok (.getstatic 39, 3) := by decide +kernel
theorem d15_8 : decode jdk_38_method_2_code 8 = .ok (.putfield 9, 3) := by decide +kernel
theorem d15_11 : decode jdk_38_method_2_code 11 = .ok (.return_, 1) := by decide +kernel
theorem d16_0 : decode jdk_39_method_1_code 0 = .ok (.aload_n 0, 1) := by decide +kernel
theorem d16_1 : decode jdk_39_method_1_code 1 = .ok (.invokespecial 1, 3) := by decide +kernel
theorem d16_4 : decode jdk_39_method_1_code 4 = .ok (.aload_n 0, 1) := by decide +kernel
theorem d16_5 : decode jdk_39_method_1_code 5 = .ok (.iconst 0, 1) := by decide +kernel
theorem d16_6 : decode jdk_39_method_1_code 6 = .ok (.putfield 7, 3) := by decide +kernel
theorem d16_9 : decode jdk_39_method_1_code 9 = .ok (.return_, 1) := by decide +kernel
theorem d17_0 : decode jdk_22_method_1_code 0 = .ok (.aload_n 0, 1) := by decide +kernel
theorem d17_1 : decode jdk_22_method_1_code 1 = .ok (.invokespecial 1, 3) := by decide +kernel
theorem d17_4 : decode jdk_22_method_1_code 4 = .ok (.return_, 1) := by decide +kernel
theorem d18_0 : decode jdk_38_method_25_code 0 = .ok (.aload_n 0, 1) := by decide +kernel
theorem d18_1 : decode jdk_38_method_25_code 1 = .ok (.dup, 1) := by decide +kernel
theorem d18_2 : decode jdk_38_method_25_code 2 = .ok (.getfield 63, 3) := by decide +kernel
theorem d18_5 : decode jdk_38_method_25_code 5 = .ok (.iconst 1, 1) := by decide +kernel
theorem d18_6 : decode jdk_38_method_25_code 6 = .ok (.iadd, 1) := by decide +kernel
theorem d18_7 : decode jdk_38_method_25_code 7 = .ok (.putfield 63, 3) := by decide +kernel
theorem d18_10 : decode jdk_38_method_25_code 10 = .ok (.aload_n 0, 1) := by decide +kernel
theorem d18_11 : decode jdk_38_method_25_code 11 = .ok (.aload_n 1, 1) := by decide +kernel
theorem d18_12 : decode jdk_38_method_25_code 12 = .ok (.aload_n 0, 1) := by decide +kernel
theorem d18_13 : decode jdk_38_method_25_code 13 = .ok (.getfield 9, 3) := by decide +kernel
theorem d18_16 : decode jdk_38_method_25_code 16 = .ok (.aload_n 0, 1) := by decide +kernel
theorem d18_17 : decode jdk_38_method_25_code 17 = .ok (.getfield 48, 3) := by decide +kernel
theorem d18_20 : decode jdk_38_method_25_code 20 = .ok (.invokevirtual 131, 3) := by decide +kernel
theorem d18_23 : decode jdk_38_method_25_code 23 = .ok (.iconst 1, 1) := by decide +kernel
theorem d18_24 : decode jdk_38_method_25_code 24 = .ok (.ireturn, 1) := by decide +kernel
theorem d19_0 : decode jdk_38_method_24_code 0 = .ok (.iload_n 3, 1) := by decide +kernel
theorem d19_1 : decode jdk_38_method_24_code 1 = .ok (.aload_n 2, 1) := by decide +kernel
theorem d19_2 : decode jdk_38_method_24_code 2 = .ok (.arraylength, 1) := by decide +kernel
theorem d19_3 : decode jdk_38_method_24_code 3 = .ok (.if_icmp .ne 8, 3) := by decide +kernel
theorem d19_6 : decode jdk_38_method_24_code 6 = .ok (.aload_n 0, 1) := by decide +kernel
theorem d19_7 : decode jdk_38_method_24_code 7 = .ok (.invokevirtual 129, 3) := by decide +kernel
theorem d19_10 : decode jdk_38_method_24_code 10 = .ok (.astore_n 2, 1) := by decide +kernel
theorem d19_11 : decode jdk_38_method_24_code 11 = .ok (.aload_n 2, 1) := by decide +kernel
theorem d19_12 : decode jdk_38_method_24_code 12 = .ok (.iload_n 3, 1) := by decide +kernel
theorem d19_13 : decode jdk_38_method_24_code 13 = .ok (.aload_n 1, 1) := by decide +kernel
theorem d19_14 : decode jdk_38_method_24_code 14 = .ok (.aastore, 1) := by decide +kernel
theorem d19_15 : decode jdk_38_method_24_code 15 = .ok (.aload_n 0, 1) := by decide +kernel
theorem d19_16 : decode jdk_38_method_24_code 16 = .ok (.iload_n 3, 1) := by decide +kernel
theorem d19_17 : decode jdk_38_method_24_code 17 = .ok (.iconst 1, 1) := by decide +kernel
theorem d19_18 : decode jdk_38_method_24_code 18 = .ok (.iadd, 1) := by decide +kernel
theorem d19_19 : decode jdk_38_method_24_code 19 = .ok (.putfield 48, 3) := by decide +kernel
theorem d19_22 : decode jdk_38_method_24_code 22 = .ok (.return_, 1) := by decide +kernel
theorem d20_0 : decode jdk_38_method_7_code 0 = .ok (.aload_n 0, 1) := by decide +kernel
theorem d20_1 : decode jdk_38_method_7_code 1 = .ok (.aload_n 0, 1) := by decide +kernel
theorem d20_2 : decode jdk_38_method_7_code 2 = .ok (.getfield 48, 3) := by decide +kernel
theorem d20_5 : decode jdk_38_method_7_code 5 = .ok (.iconst 1, 1) := by decide +kernel
theorem d20_6 : decode jdk_38_method_7_code 6 = .ok (.iadd, 1) := by decide +kernel
theorem d20_7 : decode jdk_38_method_7_code 7 = .ok (.invokevirtual 69, 3) := by decide +kernel
theorem d20_10 : decode jdk_38_method_7_code 10 = .ok (.areturn, 1) := by decide +kernel
theorem d21_0 : decode jdk_38_method_6_code 0 = .ok (.aload_n 0, 1) := by decide +kernel
theorem d21_1 : decode jdk_38_method_6_code 1 = .ok (.getfield 9, 3) := by decide +kernel
theorem d21_4 : decode jdk_38_method_6_code 4 = .ok (.arraylength, 1) := by decide +kernel
theorem d21_5 : decode jdk_38_method_6_code 5 = .ok (.istore_n 2, 1) := by decide +kernel
theorem d21_6 : decode jdk_38_method_6_code 6 = .ok (.iload_n 2, 1) := by decide +kernel
theorem d21_7 : decode jdk_38_method_6_code 7 = .ok (.ifCond .gt 13, 3) := by decide +kernel
theorem d21_10 : decode jdk_38_method_6_code 10 = .ok (.aload_n 0, 1) := by decide +kernel
theorem d21_11 : decode jdk_38_method_6_code 11 = .ok (.getfield 9, 3) := by decide +kernel
theorem d21_14 : decode jdk_38_method_6_code 14 = .ok (.getstatic 39, 3) := by decide +kernel
theorem d21_17 : decode jdk_38_method_6_code 17 = .ok (.if_acmp .eq 28, 3) := by decide +kernel
theorem d21_45 : decode jdk_38_method_6_code 45 = .ok (.aload_n 0, 1) := by decide +kernel
theorem d21_46 : decode jdk_38_method_6_code 46 = .ok (.bipush 10, 2) := by decide +kernel
theorem d21_48 : decode jdk_38_method_6_code 48 = .ok (.iload_n 1, 1) := by decide +kernel
theorem d21_49 : decode jdk_38_method_6_code 49 = .ok (.invokestatic 79, 3) := by decide +kernel
theorem d21_52 : decode jdk_38_method_6_code 52 = .ok (.anewarray 7, 3) := by decide +kernel
theorem d21_55 : decode jdk_38_method_6_code 55 = .ok (.dup_x1, 1) := by decide +kernel
theorem d21_56 : decode jdk_38_method_6_code 56 = .ok (.putfield 9, 3) := by decide +kernel
theorem d21_59 : decode jdk_38_method_6_code 59 = .ok (.areturn, 1) := by decide +kernel
theorem d22_0 : decode jdk_29_method_65_code 0 = .ok (.iload_n 0, 1) := by decide +kernel
theorem d22_1 : decode jdk_29_method_65_code 1 = .ok (.iload_n 1, 1) := by decide +kernel
theorem d22_2 : decode jdk_29_method_65_code 2 = .ok (.if_icmp .lt 7, 3) := by decide +kernel
theorem d22_5 : decode jdk_29_method_65_code 5 = .ok (.iload_n 0, 1) := by decide +kernel
theorem d22_6 : decode jdk_29_method_65_code 6 = .ok (.goto 4, 3) := by decide +kernel
theorem d22_10 : decode jdk_29_method_65_code 10 = .ok (.ireturn, 1) := by decide +kernel
theorem pd_0 : parseMethodDescriptor "()V" = some ⟨[], none⟩ := by decide +kernel
theorem pd_1 : parseMethodDescriptor "(II)I" = some ⟨[.int, .int], some .int⟩ := by decide +kernel
theorem pd_2 : parseMethodDescriptor "(I)[Ljava/lang/Object;" = some ⟨[.int], some (.array (.object "java/lang/Object"))⟩ := by decide +kernel
theorem pd_3 : parseMethodDescriptor "()[Ljava/lang/Object;" = some ⟨[], some (.array (.object "java/lang/Object"))⟩ := by decide +kernel
theorem pd_4 : parseMethodDescriptor "(Ljava/lang/Object;[Ljava/lang/Object;I)V" = some ⟨[(.object "java/lang/Object"), (.array (.object "java/lang/Object")), .int], none⟩ := by decide +kernel
theorem pd_5 : parseMethodDescriptor "(C)Z" = some ⟨[.char], some .boolean⟩ := by decide +kernel
theorem pd_6 : parseMethodDescriptor "(C)[B" = some ⟨[.char], some (.array .byte)⟩ := by decide +kernel
theorem pd_7 : parseMethodDescriptor "([BB)V" = some ⟨[(.array .byte), .byte], none⟩ := by decide +kernel
theorem pd_8 : parseMethodDescriptor "([C)V" = some ⟨[(.array .char)], none⟩ := by decide +kernel
theorem pd_9 : parseMethodDescriptor "(Ljava/lang/String;ILjava/lang/String;Ljava/util/List;)V" = some ⟨[(.object "java/lang/String"), .int, (.object "java/lang/String"), (.object "java/util/List")], none⟩ := by decide +kernel
theorem pd_10 : parseMethodDescriptor "()Z" = some ⟨[], some .boolean⟩ := by decide +kernel
theorem pd_11 : parseMethodDescriptor "()Ljava/util/List;" = some ⟨[], some (.object "java/util/List")⟩ := by decide +kernel
theorem pd_12 : parseMethodDescriptor "(C)Ljava/lang/String;" = some ⟨[.char], some (.object "java/lang/String")⟩ := by decide +kernel
theorem pd_13 : parseMethodDescriptor "(Ljava/lang/Object;)Z" = some ⟨[(.object "java/lang/Object")], some .boolean⟩ := by decide +kernel
theorem pn_0 : plainName "java/util/AbstractCollection" = true := by first | (simp [plainName, overriddenIn]; done) | decide +kernel
theorem pn_1 : plainName "java/lang/Record" = true := by first | (simp [plainName, overriddenIn]; done) | decide +kernel
theorem pn_2 : plainName "java/util/AbstractList" = true := by first | (simp [plainName, overriddenIn]; done) | decide +kernel
theorem pn_3 : plainName "java/util/ArrayList" = true := by first | (simp [plainName, overriddenIn]; done) | decide +kernel
theorem pn_4 : plainName "com/example/weftwork/weftwork/io/Gml$Entry" = true := by first | (simp [plainName, overriddenIn]; done) | decide +kernel
theorem pn_5 : plainName "java/lang/StringLatin1" = true := by first | (simp [plainName, overriddenIn]; done) | decide +kernel
theorem pn_6 : plainName "java/lang/String" = true := by first | (simp [plainName, overriddenIn]; done) | decide +kernel
theorem pn_7 : plainName "com/example/weftwork/weftwork/io/EntryIsListPinLaw" = true := by first | (simp [plainName, overriddenIn]; done) | decide +kernel
theorem ef_17 (m : MethodId) (x0 : Addr) : entryFrame m #[(.ref x0)] 1 = mkF m 0 #[.val (.ref x0)] [] := by first | (simp [entryFrame, mkF, argsToLocals, Value.category]; done) | rfl
theorem ef_8 (m : MethodId) (x0 : Addr) : entryFrame m #[(.ref x0)] 1 = mkF m 0 #[.val (.ref x0)] [] := by first | (simp [entryFrame, mkF, argsToLocals, Value.category]; done) | rfl
theorem ef_16 (m : MethodId) (x0 : Addr) : entryFrame m #[(.ref x0)] 1 = mkF m 0 #[.val (.ref x0)] [] := by first | (simp [entryFrame, mkF, argsToLocals, Value.category]; done) | rfl
theorem ef_15 (m : MethodId) (x0 : Addr) : entryFrame m #[(.ref x0)] 1 = mkF m 0 #[.val (.ref x0)] [] := by first | (simp [entryFrame, mkF, argsToLocals, Value.category]; done) | rfl
theorem ef_22_10_1 (m : MethodId)  : entryFrame m #[(.int (10 : Int32)), (.int (1 : Int32))] 2 = mkF m 0 #[.val (.int (10 : Int32)), .val (.int (1 : Int32))] [] := by first | (simp [entryFrame, mkF, argsToLocals, Value.category]; done) | rfl
theorem ef_21 (m : MethodId) (x0 : Addr) : entryFrame m #[(.ref x0), (.int (1 : Int32))] 4 = mkF m 0 #[.val (.ref x0), .val (.int (1 : Int32)), .unset, .unset] [] := by first | (simp [entryFrame, mkF, argsToLocals, Value.category]; done) | rfl
theorem ef_20 (m : MethodId) (x0 : Addr) : entryFrame m #[(.ref x0)] 1 = mkF m 0 #[.val (.ref x0)] [] := by first | (simp [entryFrame, mkF, argsToLocals, Value.category]; done) | rfl
theorem ef_19 (m : MethodId) (x0 : Addr) (x1 : Addr) (aD : Addr) : entryFrame m #[(.ref x0), (.ref x1), (.ref aD), (.int (0 : Int32))] 4 = mkF m 0 #[.val (.ref x0), .val (.ref x1), .val (.ref aD), .val (.int (0 : Int32))] [] := by first | (simp [entryFrame, mkF, argsToLocals, Value.category]; done) | rfl
theorem ef_18 (m : MethodId) (x0 : Addr) (x1 : Addr) : entryFrame m #[(.ref x0), (.ref x1)] 2 = mkF m 0 #[.val (.ref x0), .val (.ref x1)] [] := by first | (simp [entryFrame, mkF, argsToLocals, Value.category]; done) | rfl
theorem ef_7 (m : MethodId) (x0 : Addr) (x2 : Int32) (r1 r3 r4 : Value) (q1 : r1.isRef = true) (q3 : r3.isRef = true) (q4 : r4.isRef = true) : entryFrame m #[(.ref x0), r1, (.int x2), r3, r4] 5 = mkF m 0 #[.val (.ref x0), .val r1, .val (.int x2), .val r3, .val r4] [] := by rcases Jvm.Free.XT.refc q1 with rfl | ⟨_, rfl⟩ <;> rcases Jvm.Free.XT.refc q3 with rfl | ⟨_, rfl⟩ <;> rcases Jvm.Free.XT.refc q4 with rfl | ⟨_, rfl⟩ <;> first | (simp [entryFrame, mkF, argsToLocals, Value.category]; done) | rfl
theorem ef_9_n (m : MethodId) (x0 : Addr) : entryFrame m #[(.ref x0)] 1 = mkF m 0 #[.val (.ref x0)] [] := by first | (simp [entryFrame, mkF, argsToLocals, Value.category]; done) | rfl
theorem ef_10_n (m : MethodId) (x0 : Addr) : entryFrame m #[(.ref x0)] 1 = mkF m 0 #[.val (.ref x0)] [] := by first | (simp [entryFrame, mkF, argsToLocals, Value.category]; done) | rfl
theorem ef_9_r (m : MethodId) (x0 : Addr) : entryFrame m #[(.ref x0)] 1 = mkF m 0 #[.val (.ref x0)] [] := by first | (simp [entryFrame, mkF, argsToLocals, Value.category]; done) | rfl
theorem ef_10_r (m : MethodId) (x0 : Addr) : entryFrame m #[(.ref x0)] 1 = mkF m 0 #[.val (.ref x0)] [] := by first | (simp [entryFrame, mkF, argsToLocals, Value.category]; done) | rfl
theorem ef_12 (m : MethodId) (x0 : Int32) : entryFrame m #[(.int x0)] 1 = mkF m 0 #[.val (.int x0)] [] := by first | (simp [entryFrame, mkF, argsToLocals, Value.category]; done) | rfl
theorem ef_13 (m : MethodId) (x0 : Int32) : entryFrame m #[(.int x0)] 1 = mkF m 0 #[.val (.int x0)] [] := by first | (simp [entryFrame, mkF, argsToLocals, Value.category]; done) | rfl
theorem ef_14 (m : MethodId) (x0 : Addr) (x1 : Addr) : entryFrame m #[(.ref x0), (.ref x1), (.int (0 : Int32))] 3 = mkF m 0 #[.val (.ref x0), .val (.ref x1), .val (.int (0 : Int32))] [] := by first | (simp [entryFrame, mkF, argsToLocals, Value.category]; done) | rfl
theorem ef_11 (m : MethodId) (x0 : Int32) : entryFrame m #[(.int x0)] 1 = mkF m 0 #[.val (.int x0)] [] := by first | (simp [entryFrame, mkF, argsToLocals, Value.category]; done) | rfl
theorem ef_0 (m : MethodId) (x0 : Int32) (x1 : Int32) (x2 : Int32) (x3 : Int32) : entryFrame m #[(.int x0), (.int x1), (.int x2), (.int x3)] maxLocals = mkF m 0 #[.val (.int x0), .val (.int x1), .val (.int x2), .val (.int x3), .unset, .unset, .unset, .unset, .unset, .unset, .unset, .unset, .unset, .unset, .unset, .unset] [] := by first | (simp [entryFrame, mkF, argsToLocals, Value.category, maxLocals]; done) | rfl
set_option maxRecDepth 65536 in
set_option maxHeartbeats 40000000 in
theorem rm17 (l : Launch) (Z : State) (a0 : Array Value) (hw : ∀ d ∈ tables_1, d.before a0 Z = true) (x0 : Addr) (h0 : Heap) :
    OwnMet l Z (⟨"java/util/AbstractCollection", "<init>", "()V"⟩ : MethodName) jdk_22_method_1_code 1 none [] ({ frames := 1, cells := 0, slots := 0, locals := 12 } : Room) #[(.ref x0)] h0 (fun v h L => v = none ∧ L = [] ∧ h = h0) := by
  refine own_body (plainFor_of_name pn_0) (fun m => ef_17 m x0) ?_
  intro p e s m below meth c s₁ X0 hx hby hml hown hnm hret hlk hZ e0
  replace hown : s.vm.findClass "java/util/AbstractCollection" = some m.cls := hown
  replace hml : c.maxLocals = 1 := hml
  show Ends p.tables e below _ (s₁.setTop (mkF m 0 #[.val (.ref x0)] []))
  refine own_aloadN X0 hx hby d17_0 rfl rfl rfl ?_
  refine own_initO X0 hx hby hZ hown (hw _ tw_92) (hw _ tw_12) (hw _ tw_13) e0 (by rw [hml]; rfl) (by decide) (W := 0) (Nat.le_refl _) (by decide) d17_1 rfl (fun T1 X1 e1 => ?_)
  refine own_retV X1 hx hby hret hlk d17_4 (by decide) (by decide) ?_
  exact ⟨rfl, rfl, e1⟩
set_option maxRecDepth 65536 in
set_option maxHeartbeats 40000000 in
theorem rm8 (l : Launch) (Z : State) (a0 : Array Value) (hw : ∀ d ∈ tables_1, d.before a0 Z = true) (x0 : Addr) (h0 : Heap) :
    OwnMet l Z (⟨"java/lang/Record", "<init>", "()V"⟩ : MethodName) jdk_30_method_1_code 1 none [] ({ frames := 1, cells := 0, slots := 0, locals := 12 } : Room) #[(.ref x0)] h0 (fun v h L => v = none ∧ L = [] ∧ h = h0) := by
  refine own_body (plainFor_of_name pn_1) (fun m => ef_8 m x0) ?_
  intro p e s m below meth c s₁ X0 hx hby hml hown hnm hret hlk hZ e0
  replace hown : s.vm.findClass "java/lang/Record" = some m.cls := hown
  replace hml : c.maxLocals = 1 := hml
  show Ends p.tables e below _ (s₁.setTop (mkF m 0 #[.val (.ref x0)] []))
  refine own_aloadN X0 hx hby d8_0 rfl rfl rfl ?_
  refine own_initO X0 hx hby hZ hown (hw _ tw_41) (hw _ tw_12) (hw _ tw_13) e0 (by rw [hml]; rfl) (by decide) (W := 0) (Nat.le_refl _) (by decide) d8_1 rfl (fun T2 X2 e2 => ?_)
  refine own_retV X2 hx hby hret hlk d8_4 (by decide) (by decide) ?_
  exact ⟨rfl, rfl, e2⟩
set_option maxRecDepth 65536 in
set_option maxHeartbeats 40000000 in
theorem rm16 (l : Launch) (Z : State) (a0 : Array Value) (hw : ∀ d ∈ tables_1, d.before a0 Z = true) (x0 : Addr) (h0 : Heap) (n0 : Nat) (O : Old Z n0 h0) (gx : n0 ≤ x0) (E : Exa Z h0 x0 "java/util/ArrayList") {m0 : Int32} (Fm : Fld Z h0 x0 "java/util/AbstractList" "modCount" "I" (.int m0)) (Fe : Fld Z h0 x0 "java/util/ArrayList" "elementData" "[Ljava/lang/Object;" .null) (Fs : Fld Z h0 x0 "java/util/ArrayList" "size" "I" (.int 0)) :
    OwnMet l Z (⟨"java/util/AbstractList", "<init>", "()V"⟩ : MethodName) jdk_39_method_1_code 1 none [] ({ frames := 2, cells := 0, slots := 0, locals := 24 } : Room) #[(.ref x0)] h0 (fun v h L => v = none ∧ Fr n0 L ∧ Keep h0 h [x0] ∧ Fld Z h x0 "java/util/AbstractList" "modCount" "I" (.int 0) ∧ Fld Z h x0 "java/util/ArrayList" "elementData" "[Ljava/lang/Object;" .null ∧ Fld Z h x0 "java/util/ArrayList" "size" "I" (.int 0)) := by
  refine own_body (plainFor_of_name pn_2) (fun m => ef_16 m x0) ?_
  intro p e s m below meth c s₁ X0 hx hby hml hown hnm hret hlk hZ e0
  replace hown : s.vm.findClass "java/util/AbstractList" = some m.cls := hown
  replace hml : c.maxLocals = 1 := hml
  have N0 := Fr.nil n0
  show Ends p.tables e below _ (s₁.setTop (mkF m 0 #[.val (.ref x0)] []))
  refine own_aloadN X0 hx hby d16_0 rfl rfl rfl ?_
  refine own_special X0 hx hby hZ (a := x0) (argsL := []) (rest := []) hown rfl (hw _ tw_86) (hw _ tw_87) (hw _ tw_90) (hw _ tw_91) (by decide) (rm17 l Z a0 hw x0 h0) e0 (by rw [hml]; rfl) pd_0 rfl (by decide) (W := 0) (Nat.le_refl _) (by decide) (by decide) (by decide) d16_1 rfl rfl (fun v3 T3 L3 X3 hQ3 => ?_)
  obtain ⟨rfl, rfl, e3⟩ := hQ3
  show Ends p.tables e below _ (T3.setTop (mkF m 4 #[.val (.ref x0)] []))
  refine own_aloadN X3 hx hby d16_4 rfl rfl rfl ?_
  refine own_iconst X3 hx hby d16_5 rfl (0 : Int32) rfl ?_
  refine own_putfield X3 hx hby hZ hown (host := "") (Or.inl (hw _ tw_93)) Via.refl e3 Fm E (Or.inl (hw _ tw_94)) (hw _ tw_75) (ty := .int) (by decide) rfl rfl (Fr.app N0 (Fr.nil _)) gx  d16_6 rfl (fun T4 h4 L4 X4 e4 W4 N4 => ?_)
  have F4 := Fm.same W4
  refine own_retV X4 hx hby hret hlk d16_9 (by decide) (by decide) ?_
  have f5 := ((Keep.refl h0 [x0]).wr W4 (Or.inl (by simp)))
  have f6 := (Fe.other W4 (Or.inr (slot_ne (Or.inl (hw _ tw_97)) (Or.inl (hw _ tw_94)) (by decide) (t := (.array (.object "java/lang/Object"))) (t' := .int) (by decide) (by decide))))
  have f7 := (Fs.other W4 (Or.inr (slot_ne (Or.inl (hw _ tw_110)) (Or.inl (hw _ tw_94)) (by decide) (t := .int) (t' := .int) (by decide) (by decide))))
  rw [e4]
  exact ⟨rfl, N4, f5, F4, f6, f7⟩
set_option maxRecDepth 65536 in
set_option maxHeartbeats 40000000 in
theorem rm15 (l : Launch) (Z : State) (a0 : Array Value) (hw : ∀ d ∈ tables_1, d.before a0 Z = true) (x0 : Addr) (h0 : Heap) (n0 : Nat) {z : Int32} {aD : Addr} (G : OwnG Z z aD) (O : Old Z n0 h0) (gx : n0 ≤ x0) (E : Exa Z h0 x0 "java/util/ArrayList") {m0 : Int32} (Fm : Fld Z h0 x0 "java/util/AbstractList" "modCount" "I" (.int m0)) (Fe : Fld Z h0 x0 "java/util/ArrayList" "elementData" "[Ljava/lang/Object;" .null) (Fs : Fld Z h0 x0 "java/util/ArrayList" "size" "I" (.int 0)) :
    OwnMet l Z (⟨"java/util/ArrayList", "<init>", "()V"⟩ : MethodName) jdk_38_method_2_code 1 none [] ({ frames := 3, cells := 0, slots := 0, locals := 36 } : Room) #[(.ref x0)] h0 (fun v h L => v = none ∧ Fr n0 L ∧ Keep h0 h [x0] ∧ Fld Z h x0 "java/util/AbstractList" "modCount" "I" (.int 0) ∧ Fld Z h x0 "java/util/ArrayList" "elementData" "[Ljava/lang/Object;" (.ref aD) ∧ Fld Z h x0 "java/util/ArrayList" "size" "I" (.int 0)) := by
  refine own_body (plainFor_of_name pn_3) (fun m => ef_15 m x0) ?_
  intro p e s m below meth c s₁ X0 hx hby hml hown hnm hret hlk hZ e0
  replace hown : s.vm.findClass "java/util/ArrayList" = some m.cls := hown
  replace hml : c.maxLocals = 1 := hml
  have N0 := Fr.nil n0
  show Ends p.tables e below _ (s₁.setTop (mkF m 0 #[.val (.ref x0)] []))
  refine own_aloadN X0 hx hby d15_0 rfl rfl rfl ?_
  refine own_special X0 hx hby hZ (a := x0) (argsL := []) (rest := []) hown rfl (hw _ tw_80) (hw _ tw_81) (hw _ tw_84) (hw _ tw_85) (by decide) (rm16 l Z a0 hw x0 h0 n0 O gx E Fm Fe Fs) e0 (by rw [hml]; rfl) pd_0 rfl (by decide) (W := 0) (Nat.le_refl _) (by decide) (by decide) (by decide) d15_1 rfl rfl (fun v8 T8 L8 X8 hQ8 => ?_)
  obtain ⟨rfl, N8q, K8, Fm8, Fe8, Fs8⟩ := hQ8
  show Ends p.tables e below _ (T8.setTop (mkF m 4 #[.val (.ref x0)] []))
  refine own_aloadN X8 hx hby d15_4 rfl rfl rfl ?_
  have f9 := (O.keep K8 (allS gx all0))
  refine own_getstatic X8 hx hby hZ hown (host := "") (Or.inl (hw _ tw_95)) Via.refl rfl (G.2.2.1.ext f9.2) d15_5 rfl (fun T10 X10 e10 => ?_)
  have f11 := (E.keep K8)
  refine own_putfield X10 hx hby hZ hown (host := "") (Or.inl (hw _ tw_96)) Via.refl e10 Fe8 f11 (Or.inl (hw _ tw_97)) (hw _ tw_75) (ty := (.array (.object "java/lang/Object"))) (by decide) rfl rfl (Fr.app N0 N8q) gx  d15_8 rfl (fun T12 h12 L12 X12 e12 W12 N12 => ?_)
  have F12 := Fe8.same W12
  refine own_retV X12 hx hby hret hlk d15_11 (by decide) (by decide) ?_
  have f13 := (((Keep.refl h0 [x0]).trans K8 (allS (Or.inl (by simp)) all0)).wr W12 (Or.inl (by simp)))
  have f14 := (Fm8.other W12 (Or.inr (slot_ne (Or.inl (hw _ tw_94)) (Or.inl (hw _ tw_97)) (by decide) (t := .int) (t' := (.array (.object "java/lang/Object"))) (by decide) (by decide))))
  have f15 := (Fs8.other W12 (Or.inr (slot_ne (Or.inl (hw _ tw_110)) (Or.inl (hw _ tw_97)) (by decide) (t := .int) (t' := (.array (.object "java/lang/Object"))) (by decide) (by decide))))
  rw [e12]
  exact ⟨rfl, N12, f13, f14, F12, f15⟩
set_option maxRecDepth 65536 in
set_option maxHeartbeats 40000000 in
theorem rm22_10_1 (l : Launch) (Z : State) (a0 : Array Value) (hw : ∀ d ∈ tables_1, d.before a0 Z = true)  (h0 : Heap) :
    OwnMet l Z (⟨"java/lang/Math", "max", "(II)I"⟩ : MethodName) jdk_29_method_65_code 2 (some .int) [] ({ frames := 0, cells := 0, slots := 0, locals := 0 } : Room) #[(.int (10 : Int32)), (.int (1 : Int32))] h0 (fun v h L => v = some (.int (10 : Int32)) ∧ L = [] ∧ h = h0) := by
  refine own_body (Jvm.Free.JP.mathPlain rfl (by decide +kernel)) (fun m => ef_22_10_1 m ) ?_
  intro p e s m below meth c s₁ X0 hx hby hml hown hnm hret hlk hZ e0
  replace hown : s.vm.findClass "java/lang/Math" = some m.cls := hown
  replace hml : c.maxLocals = 2 := hml
  show Ends p.tables e below _ (s₁.setTop (mkF m 0 #[.val (.int (10 : Int32)), .val (.int (1 : Int32))] []))
  refine own_iloadN X0 hx hby d22_0 rfl rfl ?_
  refine own_iloadN X0 hx hby d22_1 rfl rfl ?_
  refine own_icmp_lt X0 hx hby d22_2 (pcY := 9) (pcN := 5) (by decide) rfl (fun (hc16 : 10 < 1) => False.elim (by exact absurd hc16 (by decide))) (fun (hc16 : 1 ≤ 10) => ?_)
  refine own_iloadN X0 hx hby d22_5 rfl rfl ?_
  refine own_goto X0 hx hby d22_6 (pc' := 10) (by decide) ?_
  refine own_ret X0 hx hby hret hlk d22_10 (.int (10 : Int32)) rfl (Or.inl ⟨rfl, by simp, _, rfl⟩) (by decide) (by decide) ?_
  exact ⟨rfl, rfl, e0⟩
set_option maxRecDepth 65536 in
set_option maxHeartbeats 40000000 in
theorem rm21 (l : Launch) (Z : State) (a0 : Array Value) (hw : ∀ d ∈ tables_1, d.before a0 Z = true) (x0 : Addr) (h0 : Heap) (n0 : Nat) {z : Int32} {aD : Addr} (G : OwnG Z z aD) (O : Old Z n0 h0) (gx : n0 ≤ x0) (E : Exa Z h0 x0 "java/util/ArrayList") {m0 : Int32} (Fm : Fld Z h0 x0 "java/util/AbstractList" "modCount" "I" (.int m0)) (Fe : Fld Z h0 x0 "java/util/ArrayList" "elementData" "[Ljava/lang/Object;" (.ref aD)) (Fs : Fld Z h0 x0 "java/util/ArrayList" "size" "I" (.int 0)) :
    OwnMet l Z (⟨"java/util/ArrayList", "grow", "(I)[Ljava/lang/Object;"⟩ : MethodName) jdk_38_method_6_code 4 (some (.array (.object "java/lang/Object"))) [] ({ frames := 1, cells := 1, slots := 10, locals := 14 } : Room) #[(.ref x0), (.int (1 : Int32))] h0 (fun v h L => ∃ b k, v = some (.ref b) ∧ Fr n0 L ∧ Keep h0 h [x0] ∧ n0 ≤ b ∧ h0.size ≤ b ∧ Fld Z h x0 "java/util/AbstractList" "modCount" "I" (.int m0) ∧ Fld Z h x0 "java/util/ArrayList" "elementData" "[Ljava/lang/Object;" (.ref b) ∧ Fld Z h x0 "java/util/ArrayList" "size" "I" (.int 0) ∧ Arv Z h b k (.object "java/lang/Object") (10 : Int32) [.null, .null, .null, .null, .null, .null, .null, .null, .null, .null] .null ∧ Ovr Z k "java/lang/Object") := by
  refine own_body (plainFor_of_name pn_3) (fun m => ef_21 m x0) ?_
  intro p e s m below meth c s₁ X0 hx hby hml hown hnm hret hlk hZ e0
  replace hown : s.vm.findClass "java/util/ArrayList" = some m.cls := hown
  replace hml : c.maxLocals = 4 := hml
  have N0 := Fr.nil n0
  show Ends p.tables e below _ (s₁.setTop (mkF m 0 #[.val (.ref x0), .val (.int (1 : Int32)), .unset, .unset] []))
  obtain ⟨kD, VD⟩ := G.2.2.2
  refine own_aloadN X0 hx hby d21_0 rfl rfl rfl ?_
  refine own_getfield X0 hx hby hZ hown (host := "") (Or.inl (hw _ tw_96)) Via.refl e0 Fe d21_1 rfl (fun T17 X17 e17 => ?_)
  refine own_arraylength X17 hx hby hZ e17 (VD.ext O.2) d21_4 rfl ?_
  refine own_istoreN X17 hx hby d21_5 rfl #[.val (.ref x0), .val (.int (1 : Int32)), .val (.int (0 : Int32)), .unset] rfl ?_
  refine own_iloadN X17 hx hby d21_6 rfl rfl ?_
  refine own_if_gt X17 hx hby d21_7 (pcY := 20) (pcN := 10) (by decide) rfl (fun (hc18 : 0 < 0) => False.elim (by exact absurd hc18 (by decide))) (fun (hc18 : 0 ≤ 0) => ?_)
  refine own_aloadN X17 hx hby d21_10 rfl rfl rfl ?_
  refine own_getfield X17 hx hby hZ hown (host := "") (Or.inl (hw _ tw_96)) Via.refl e17 Fe d21_11 rfl (fun T19 X19 e19 => ?_)
  refine own_getstatic X19 hx hby hZ hown (host := "") (Or.inl (hw _ tw_95)) Via.refl e19 (G.2.2.1.ext O.2) d21_14 rfl (fun T20 X20 e20 => ?_)
  refine own_acmp_eq X20 hx hby d21_17 (pcY := 45) (pcN := 20) (by decide) rfl rfl rfl (fun (hc21 : ((.ref aD) : Value) = (.ref aD)) => ?_) (fun (hc21 : ¬ ((.ref aD) : Value) = (.ref aD)) => False.elim (by exact hc21 rfl))
  refine own_aloadN X20 hx hby d21_45 rfl rfl rfl ?_
  refine own_bipush X20 hx hby d21_46 rfl (10 : Int32) rfl ?_
  refine own_iloadN X20 hx hby d21_48 rfl rfl ?_
  refine own_static X20 hx hby hZ (argsL := [(.int (10 : Int32)), (.int (1 : Int32))]) (rest := [(.ref x0)]) hown (hw _ tw_126) (hw _ tw_127) (hw _ tw_128) (hw _ tw_129) (by decide) (rm22_10_1 l Z a0 hw h0 ) e20 (by rw [hml]; rfl) pd_1 rfl (by decide) (W := 1) (Nat.le_refl _) (by decide) (by decide) (by decide) d21_49 rfl rfl (fun v22 T22 L22 X22 hQ22 => ?_)
  obtain ⟨rfl, rfl, e22⟩ := hQ22
  show Ends p.tables e below _ (T22.setTop (mkF m 52 #[.val (.ref x0), .val (.int (1 : Int32)), .val (.int (0 : Int32)), .unset] [(.int (10 : Int32)), (.ref x0)]))
  refine own_anewarray X22 hx hby hZ hown (hw _ tw_130) (hw _ tw_131) e22 (by decide) 10 (by decide) (by decide) (by decide) (by decide) [.null, .null, .null, .null, .null, .null, .null, .null, .null, .null] rfl d21_52 rfl (fun T23 h23 b23 k23 X23 e23 g23 E23 V23 O23 => ?_)
  have ge_b23 : n0 ≤ b23 := own_ge O g23
  have sz_b23 : h0.size ≤ b23 := Nat.le_trans (Keep.refl h0 [x0]).1 (Nat.le_of_eq g23.symm)
  have ne_x0_b23 : x0 ≠ b23 := own_lt E.lt g23
  have ne_aD_b23 : aD ≠ b23 := own_lt (VD.ext O.2).lt g23
  refine own_dupX1 X23 hx hby d21_55 rfl rfl rfl ?_
  have f24 := (E.ext E23)
  have f25 := (Fe.ext E23)
  refine own_putfield X23 hx hby hZ hown (host := "") (Or.inl (hw _ tw_96)) Via.refl e23 f25 f24 (Or.inl (hw _ tw_97)) (hw _ tw_75) (ty := (.array (.object "java/lang/Object"))) (by decide) rfl rfl (Fr.app N0 (Fr.nil _)) gx  d21_56 rfl (fun T26 h26 L26 X26 e26 W26 N26 => ?_)
  have F26 := f25.same W26
  refine own_ret X26 hx hby hret hlk d21_59 (.ref b23) rfl (Or.inr (Or.inr ⟨rfl, rfl, rfl⟩)) (by decide) (by decide) ?_
  have f27 := (((Keep.refl h0 [x0]).ext E23).wr W26 (Or.inl (by simp)))
  have f28 := ((Fm.ext E23).other W26 (Or.inr (slot_ne (Or.inl (hw _ tw_94)) (Or.inl (hw _ tw_97)) (by decide) (t := .int) (t' := (.array (.object "java/lang/Object"))) (by decide) (by decide))))
  have f29 := ((Fs.ext E23).other W26 (Or.inr (slot_ne (Or.inl (hw _ tw_110)) (Or.inl (hw _ tw_97)) (by decide) (t := .int) (t' := (.array (.object "java/lang/Object"))) (by decide) (by decide))))
  have f30 := (V23.other W26 (Ne.symm ne_x0_b23))
  rw [e26]
  exact ⟨b23, _, rfl, N26, f27, ge_b23, sz_b23, f28, F26, f29, f30, O23⟩
set_option maxRecDepth 65536 in
set_option maxHeartbeats 40000000 in
theorem rm20 (l : Launch) (Z : State) (a0 : Array Value) (hw : ∀ d ∈ tables_1, d.before a0 Z = true) (x0 : Addr) (h0 : Heap) (n0 : Nat) {z : Int32} {aD : Addr} (G : OwnG Z z aD) (O : Old Z n0 h0) (gx : n0 ≤ x0) (E : Exa Z h0 x0 "java/util/ArrayList") {m0 : Int32} (Fm : Fld Z h0 x0 "java/util/AbstractList" "modCount" "I" (.int m0)) (Fe : Fld Z h0 x0 "java/util/ArrayList" "elementData" "[Ljava/lang/Object;" (.ref aD)) (Fs : Fld Z h0 x0 "java/util/ArrayList" "size" "I" (.int 0)) :
    OwnMet l Z (⟨"java/util/ArrayList", "grow", "()[Ljava/lang/Object;"⟩ : MethodName) jdk_38_method_7_code 1 (some (.array (.object "java/lang/Object"))) [] ({ frames := 2, cells := 1, slots := 10, locals := 29 } : Room) #[(.ref x0)] h0 (fun v h L => ∃ b k, v = some (.ref b) ∧ Fr n0 L ∧ Keep h0 h [x0] ∧ n0 ≤ b ∧ h0.size ≤ b ∧ Fld Z h x0 "java/util/AbstractList" "modCount" "I" (.int m0) ∧ Fld Z h x0 "java/util/ArrayList" "elementData" "[Ljava/lang/Object;" (.ref b) ∧ Fld Z h x0 "java/util/ArrayList" "size" "I" (.int 0) ∧ Arv Z h b k (.object "java/lang/Object") (10 : Int32) [.null, .null, .null, .null, .null, .null, .null, .null, .null, .null] .null ∧ Ovr Z k "java/lang/Object") := by
  refine own_body (plainFor_of_name pn_3) (fun m => ef_20 m x0) ?_
  intro p e s m below meth c s₁ X0 hx hby hml hown hnm hret hlk hZ e0
  replace hown : s.vm.findClass "java/util/ArrayList" = some m.cls := hown
  replace hml : c.maxLocals = 1 := hml
  have N0 := Fr.nil n0
  show Ends p.tables e below _ (s₁.setTop (mkF m 0 #[.val (.ref x0)] []))
  obtain ⟨kD, VD⟩ := G.2.2.2
  refine own_aloadN X0 hx hby d20_0 rfl rfl rfl ?_
  refine own_aloadN X0 hx hby d20_1 rfl rfl rfl ?_
  refine own_getfield X0 hx hby hZ hown (host := "") (Or.inl (hw _ tw_109)) Via.refl e0 Fs d20_2 rfl (fun T31 X31 e31 => ?_)
  refine own_iconst X31 hx hby d20_5 rfl (1 : Int32) rfl ?_
  refine own_iadd X31 hx hby d20_6 rfl ?_
  show Ends p.tables e below _ (T31.setTop (mkF m 7 #[.val (.ref x0)] [(.int (1 : Int32)), (.ref x0)]))
  refine own_private X31 hx hby hZ (Ce := "java/util/ArrayList") (a := x0) (argsL := [(.int (1 : Int32))]) (rest := []) hown (hw _ tw_121) (hw _ tw_75) (hw _ tw_123) (hw _ tw_122) (hw _ tw_76) (hw _ tw_125) (by decide) (rm21 l Z a0 hw x0 h0 n0 G O gx E Fm Fe Fs) E e31 (by rw [hml]; rfl) pd_2 rfl (by decide) (W := 0) (Nat.le_refl _) (by decide) (by decide) (by decide) d20_7 rfl rfl (fun v32 T32 L32 X32 hQ32 => ?_)
  obtain ⟨b32, k32, rfl, N32q, K32, gq32, sq32, Fm32, Fe32, Fs32, V32, O32⟩ := hQ32
  have ge_b32 := gq32
  have sz_b32 : h0.size ≤ b32 := sq32
  show Ends p.tables e below _ (T32.setTop (mkF m 10 #[.val (.ref x0)] [(.ref b32)]))
  refine own_ret X32 hx hby hret hlk d20_10 (.ref b32) rfl (Or.inr (Or.inr ⟨rfl, rfl, rfl⟩)) (by decide) (by decide) ?_
  have f33 := ((Keep.refl h0 [x0]).trans K32 (allS (Or.inl (by simp)) all0))
  exact ⟨b32, _, rfl, (Fr.app N0 N32q), f33, ge_b32, sz_b32, Fm32, Fe32, Fs32, V32, O32⟩
set_option maxRecDepth 65536 in
set_option maxHeartbeats 40000000 in
theorem rm19 (l : Launch) (Z : State) (a0 : Array Value) (hw : ∀ d ∈ tables_1, d.before a0 Z = true) (x0 : Addr) (x1 : Addr) (h0 : Heap) (n0 : Nat) {z : Int32} {aD : Addr} (G : OwnG Z z aD) (O : Old Z n0 h0) (gx : n0 ≤ x0) (E : Exa Z h0 x0 "java/util/ArrayList") {m0 : Int32} (Fm : Fld Z h0 x0 "java/util/AbstractList" "modCount" "I" (.int m0)) (Fe : Fld Z h0 x0 "java/util/ArrayList" "elementData" "[Ljava/lang/Object;" (.ref aD)) (Fs : Fld Z h0 x0 "java/util/ArrayList" "size" "I" (.int 0)) (E1 : Exa Z h0 x1 "com/example/weftwork/weftwork/io/Gml$Entry") (nx : x0 ≠ x1) :
    OwnMet l Z (⟨"java/util/ArrayList", "add", "(Ljava/lang/Object;[Ljava/lang/Object;I)V"⟩ : MethodName) jdk_38_method_24_code 4 none [] ({ frames := 3, cells := 1, slots := 10, locals := 41 } : Room) #[(.ref x0), (.ref x1), (.ref aD), (.int (0 : Int32))] h0 (fun v h L => v = none ∧ Fr n0 L ∧ Keep h0 h [x0]) := by
  refine own_body (plainFor_of_name pn_3) (fun m => ef_19 m x0 x1 aD) ?_
  intro p e s m below meth c s₁ X0 hx hby hml hown hnm hret hlk hZ e0
  replace hown : s.vm.findClass "java/util/ArrayList" = some m.cls := hown
  replace hml : c.maxLocals = 4 := hml
  have N0 := Fr.nil n0
  show Ends p.tables e below _ (s₁.setTop (mkF m 0 #[.val (.ref x0), .val (.ref x1), .val (.ref aD), .val (.int (0 : Int32))] []))
  obtain ⟨kD, VD⟩ := G.2.2.2
  refine own_iloadN X0 hx hby d19_0 rfl rfl ?_
  refine own_aloadN X0 hx hby d19_1 rfl rfl rfl ?_
  refine own_arraylength X0 hx hby hZ e0 (VD.ext O.2) d19_2 rfl ?_
  refine own_icmp_ne X0 hx hby d19_3 (pcY := 11) (pcN := 6) (by decide) rfl (fun (hc34 : ¬ (0 : Int32) = (0 : Int32)) => False.elim (by exact absurd hc34 (by decide))) (fun (hc34 : (0 : Int32) = (0 : Int32)) => ?_)
  refine own_aloadN X0 hx hby d19_6 rfl rfl rfl ?_
  refine own_private X0 hx hby hZ (Ce := "java/util/ArrayList") (a := x0) (argsL := []) (rest := []) hown (hw _ tw_116) (hw _ tw_75) (hw _ tw_118) (hw _ tw_117) (hw _ tw_76) (hw _ tw_120) (by decide) (rm20 l Z a0 hw x0 h0 n0 G O gx E Fm Fe Fs) E e0 (by rw [hml]; rfl) pd_3 rfl (by decide) (W := 0) (Nat.le_refl _) (by decide) (by decide) (by decide) d19_7 rfl rfl (fun v35 T35 L35 X35 hQ35 => ?_)
  obtain ⟨b35, k35, rfl, N35q, K35, gq35, sq35, Fm35, Fe35, Fs35, V35, O35⟩ := hQ35
  have ge_b35 := gq35
  have sz_b35 : h0.size ≤ b35 := sq35
  show Ends p.tables e below _ (T35.setTop (mkF m 10 #[.val (.ref x0), .val (.ref x1), .val (.ref aD), .val (.int (0 : Int32))] [(.ref b35)]))
  refine own_astoreN X35 hx hby d19_10 rfl #[.val (.ref x0), .val (.ref x1), .val (.ref b35), .val (.int (0 : Int32))] rfl rfl ?_
  refine own_aloadN X35 hx hby d19_11 rfl rfl rfl ?_
  refine own_iloadN X35 hx hby d19_12 rfl rfl ?_
  refine own_aloadN X35 hx hby d19_13 rfl rfl rfl ?_
  have f37 := (E1.keep K35)
  refine own_aastore X35 hx hby hZ rfl rfl V35 (by decide) 0 rfl (show 0 < 10 by decide) [(.ref x1), .null, .null, .null, .null, .null, .null, .null, .null, .null] rfl rfl (Or.inr ⟨_, rfl, O35, Ins.of_exa f37 (hw _ tw_132)⟩) (Fr.app N0 N35q) ge_b35 d19_14 rfl (fun T36 h36 L36 X36 e36 W36 V36 N36 => ?_)
  refine own_aloadN X36 hx hby d19_15 rfl rfl rfl ?_
  refine own_iloadN X36 hx hby d19_16 rfl rfl ?_
  refine own_iconst X36 hx hby d19_17 rfl (1 : Int32) rfl ?_
  refine own_iadd X36 hx hby d19_18 rfl ?_
  show Ends p.tables e below _ (T36.setTop (mkF m 19 #[.val (.ref x0), .val (.ref x1), .val (.ref b35), .val (.int (0 : Int32))] [(.int (1 : Int32)), (.ref x0)]))
  have f38 := ((E.keep K35).wr W36)
  have f39 := (Fs35.other W36 (Or.inl (Nat.ne_of_lt (Nat.lt_of_lt_of_le E.lt sq35))))
  refine own_putfield X36 hx hby hZ hown (host := "") (Or.inl (hw _ tw_109)) Via.refl e36 f39 f38 (Or.inl (hw _ tw_110)) (hw _ tw_75) (ty := .int) (by decide) rfl rfl N36 gx  d19_19 rfl (fun T40 h40 L40 X40 e40 W40 N40 => ?_)
  have F40 := f39.same W40
  refine own_retV X40 hx hby hret hlk d19_22 (by decide) (by decide) ?_
  have f41 := ((((Keep.refl h0 [x0]).trans K35 (allS (Or.inl (by simp)) all0)).wr W36 (Or.inr sz_b35)).wr W40 (Or.inl (by simp)))
  rw [e40]
  exact ⟨rfl, N40, f41⟩
set_option maxRecDepth 65536 in
set_option maxHeartbeats 40000000 in
theorem rm18 (l : Launch) (Z : State) (a0 : Array Value) (hw : ∀ d ∈ tables_1, d.before a0 Z = true) (x0 : Addr) (x1 : Addr) (h0 : Heap) (n0 : Nat) {z : Int32} {aD : Addr} (G : OwnG Z z aD) (O : Old Z n0 h0) (gx : n0 ≤ x0) (E : Exa Z h0 x0 "java/util/ArrayList") {m0 : Int32} (Fm : Fld Z h0 x0 "java/util/AbstractList" "modCount" "I" (.int m0)) (Fe : Fld Z h0 x0 "java/util/ArrayList" "elementData" "[Ljava/lang/Object;" (.ref aD)) (Fs : Fld Z h0 x0 "java/util/ArrayList" "size" "I" (.int 0)) (E1 : Exa Z h0 x1 "com/example/weftwork/weftwork/io/Gml$Entry") (nx : x0 ≠ x1) :
    OwnMet l Z (⟨"java/util/ArrayList", "add", "(Ljava/lang/Object;)Z"⟩ : MethodName) jdk_38_method_25_code 2 (some .boolean) [] ({ frames := 4, cells := 1, slots := 10, locals := 56 } : Room) #[(.ref x0), (.ref x1)] h0 (fun v h L => v = some (.int 1) ∧ Fr n0 L ∧ Keep h0 h [x0]) := by
  refine own_body (plainFor_of_name pn_3) (fun m => ef_18 m x0 x1) ?_
  intro p e s m below meth c s₁ X0 hx hby hml hown hnm hret hlk hZ e0
  replace hown : s.vm.findClass "java/util/ArrayList" = some m.cls := hown
  replace hml : c.maxLocals = 2 := hml
  have N0 := Fr.nil n0
  show Ends p.tables e below _ (s₁.setTop (mkF m 0 #[.val (.ref x0), .val (.ref x1)] []))
  obtain ⟨kD, VD⟩ := G.2.2.2
  refine own_aloadN X0 hx hby d18_0 rfl rfl rfl ?_
  refine own_dup X0 hx hby d18_1 rfl rfl ?_
  refine own_getfield X0 hx hby hZ hown (host := "") (Or.inl (hw _ tw_107)) (Via.of (hw _ tw_108)) e0 Fm d18_2 rfl (fun T42 X42 e42 => ?_)
  refine own_iconst X42 hx hby d18_5 rfl (1 : Int32) rfl ?_
  refine own_iadd X42 hx hby d18_6 rfl ?_
  refine own_putfield X42 hx hby hZ hown (host := "") (Or.inl (hw _ tw_107)) (Via.of (hw _ tw_108)) e42 Fm E (Or.inl (hw _ tw_94)) (hw _ tw_75) (ty := .int) (by decide) rfl rfl N0 gx  d18_7 rfl (fun T43 h43 L43 X43 e43 W43 N43 => ?_)
  have F43 := Fm.same W43
  refine own_aloadN X43 hx hby d18_10 rfl rfl rfl ?_
  refine own_aloadN X43 hx hby d18_11 rfl rfl rfl ?_
  refine own_aloadN X43 hx hby d18_12 rfl rfl rfl ?_
  have f44 := (Fe.other W43 (Or.inr (slot_ne (Or.inl (hw _ tw_97)) (Or.inl (hw _ tw_94)) (by decide) (t := (.array (.object "java/lang/Object"))) (t' := .int) (by decide) (by decide))))
  refine own_getfield X43 hx hby hZ hown (host := "") (Or.inl (hw _ tw_96)) Via.refl e43 f44 d18_13 rfl (fun T45 X45 e45 => ?_)
  refine own_aloadN X45 hx hby d18_16 rfl rfl rfl ?_
  have f46 := (Fs.other W43 (Or.inr (slot_ne (Or.inl (hw _ tw_110)) (Or.inl (hw _ tw_94)) (by decide) (t := .int) (t' := .int) (by decide) (by decide))))
  refine own_getfield X45 hx hby hZ hown (host := "") (Or.inl (hw _ tw_109)) Via.refl e45 f46 d18_17 rfl (fun T47 X47 e47 => ?_)
  have f49 := (O.wr W43 gx)
  have f50 := (E.wr W43)
  have f51 := (E1.wr W43)
  refine own_private X47 hx hby hZ (Ce := "java/util/ArrayList") (a := x0) (argsL := [(.ref x1), (.ref aD), (.int (0 : Int32))]) (rest := []) hown (hw _ tw_111) (hw _ tw_75) (hw _ tw_113) (hw _ tw_112) (hw _ tw_76) (hw _ tw_115) (by decide) (rm19 l Z a0 hw x0 x1 h43 n0 G f49 gx f50 F43 f44 f46 f51 nx) f50 e47 (by rw [hml]; rfl) pd_4 rfl (by decide) (W := 0) (Nat.le_refl _) (by decide) (by decide) (by decide) d18_20 rfl rfl (fun v48 T48 L48 X48 hQ48 => ?_)
  obtain ⟨rfl, N48q, K48⟩ := hQ48
  show Ends p.tables e below _ (T48.setTop (mkF m 23 #[.val (.ref x0), .val (.ref x1)] []))
  refine own_iconst X48 hx hby d18_23 rfl (1 : Int32) rfl ?_
  refine own_ret X48 hx hby hret hlk d18_24 (.int (1 : Int32)) rfl (Or.inl ⟨rfl, by simp, _, rfl⟩) (by decide) (by decide) ?_
  have f52 := (((Keep.refl h0 [x0]).wr W43 (Or.inl (by simp))).trans K48 (allS (Or.inl (by simp)) all0))
  exact ⟨rfl, (Fr.app N43 N48q), f52⟩
set_option maxRecDepth 65536 in
set_option maxHeartbeats 40000000 in
theorem rm7 (l : Launch) (Z : State) (a0 : Array Value) (hw : ∀ d ∈ tables_1, d.before a0 Z = true) (x0 : Addr) (x2 : Int32) (h0 : Heap) (n0 : Nat) (r1 r3 r4 : Value) (q1 : r1.isRef = true) (q3 : r3.isRef = true) (q4 : r4.isRef = true) (gx : n0 ≤ x0) (E : Exa Z h0 x0 "com/example/weftwork/weftwork/io/Gml$Entry") (F1 : Fld Z h0 x0 "com/example/weftwork/weftwork/io/Gml$Entry" "key" "Ljava/lang/String;" .null) (F2 : Fld Z h0 x0 "com/example/weftwork/weftwork/io/Gml$Entry" "line" "I" (.int 0)) (F3 : Fld Z h0 x0 "com/example/weftwork/weftwork/io/Gml$Entry" "scalar" "Ljava/lang/String;" .null) (F4 : Fld Z h0 x0 "com/example/weftwork/weftwork/io/Gml$Entry" "list" "Ljava/util/List;" .null) :
    OwnMet l Z (⟨"com/example/weftwork/weftwork/io/Gml$Entry", "<init>", "(Ljava/lang/String;ILjava/lang/String;Ljava/util/List;)V"⟩ : MethodName) prog_30_method_1_code 5 none [] ({ frames := 2, cells := 0, slots := 0, locals := 24 } : Room) #[(.ref x0), r1, (.int x2), r3, r4] h0 (fun v h L => v = none ∧ Fr n0 L ∧ Keep h0 h [x0] ∧ Fld Z h x0 "com/example/weftwork/weftwork/io/Gml$Entry" "list" "Ljava/util/List;" r4) := by
  refine own_body (plainFor_of_name pn_4) (fun m => ef_7 m x0 x2 r1 r3 r4 q1 q3 q4) ?_
  intro p e s m below meth c s₁ X0 hx hby hml hown hnm hret hlk hZ e0
  replace hown : s.vm.findClass "com/example/weftwork/weftwork/io/Gml$Entry" = some m.cls := hown
  replace hml : c.maxLocals = 5 := hml
  have N0 := Fr.nil n0
  show Ends p.tables e below _ (s₁.setTop (mkF m 0 #[.val (.ref x0), .val r1, .val (.int x2), .val r3, .val r4] []))
  refine own_aloadN X0 hx hby d7_0 rfl rfl rfl ?_
  refine own_special X0 hx hby hZ (a := x0) (argsL := []) (rest := []) hown rfl (hw _ tw_36) (hw _ tw_37) (hw _ tw_39) (hw _ tw_40) (by decide) (rm8 l Z a0 hw x0 h0) e0 (by rw [hml]; rfl) pd_0 rfl (by decide) (W := 0) (Nat.le_refl _) (by decide) (by decide) (by decide) d7_1 rfl rfl (fun v53 T53 L53 X53 hQ53 => ?_)
  obtain ⟨rfl, rfl, e53⟩ := hQ53
  show Ends p.tables e below _ (T53.setTop (mkF m 4 #[.val (.ref x0), .val r1, .val (.int x2), .val r3, .val r4] []))
  refine own_aloadN X53 hx hby d7_4 rfl rfl rfl ?_
  refine own_aloadN X53 hx hby d7_5 rfl rfl q1 ?_
  refine own_putfield X53 hx hby hZ hown (host := "") (Or.inl (hw _ tw_42)) Via.refl e53 F1 E (Or.inr ⟨(hw _ tw_43), rfl, hnm⟩) (hw _ tw_31) (ty := (.object "java/lang/String")) (by decide) (own_narR r1) (own_fitR q1) (Fr.app N0 (Fr.nil _)) gx  d7_6 rfl (fun T54 h54 L54 X54 e54 W54 N54 => ?_)
  have F54 := F1.same W54
  refine own_aloadN X54 hx hby d7_9 rfl rfl rfl ?_
  refine own_iloadN X54 hx hby d7_10 rfl rfl ?_
  have f55 := (E.wr W54)
  have f56 := (F2.other W54 (Or.inr (slot_ne (Or.inr (hw _ tw_45)) (Or.inr (hw _ tw_43)) (by decide) (t := .int) (t' := (.object "java/lang/String")) (by decide) (by decide))))
  refine own_putfield X54 hx hby hZ hown (host := "") (Or.inl (hw _ tw_44)) Via.refl e54 f56 f55 (Or.inr ⟨(hw _ tw_45), rfl, hnm⟩) (hw _ tw_31) (ty := .int) (by decide) rfl rfl N54 gx  d7_11 rfl (fun T57 h57 L57 X57 e57 W57 N57 => ?_)
  have F57 := f56.same W57
  refine own_aloadN X57 hx hby d7_14 rfl rfl rfl ?_
  refine own_aloadN X57 hx hby d7_15 rfl rfl q3 ?_
  have f58 := (f55.wr W57)
  have f59 := ((F3.other W54 (Or.inr (slot_ne (Or.inr (hw _ tw_47)) (Or.inr (hw _ tw_43)) (by decide) (t := (.object "java/lang/String")) (t' := (.object "java/lang/String")) (by decide) (by decide)))).other W57 (Or.inr (slot_ne (Or.inr (hw _ tw_47)) (Or.inr (hw _ tw_45)) (by decide) (t := (.object "java/lang/String")) (t' := .int) (by decide) (by decide))))
  refine own_putfield X57 hx hby hZ hown (host := "") (Or.inl (hw _ tw_46)) Via.refl e57 f59 f58 (Or.inr ⟨(hw _ tw_47), rfl, hnm⟩) (hw _ tw_31) (ty := (.object "java/lang/String")) (by decide) (own_narR r3) (own_fitR q3) N57 gx  d7_16 rfl (fun T60 h60 L60 X60 e60 W60 N60 => ?_)
  have F60 := f59.same W60
  refine own_aloadN X60 hx hby d7_19 rfl rfl rfl ?_
  refine own_aload X60 hx hby d7_20 rfl rfl q4 ?_
  have f61 := (f58.wr W60)
  have f62 := (((F4.other W54 (Or.inr (slot_ne (Or.inr (hw _ tw_49)) (Or.inr (hw _ tw_43)) (by decide) (t := (.object "java/util/List")) (t' := (.object "java/lang/String")) (by decide) (by decide)))).other W57 (Or.inr (slot_ne (Or.inr (hw _ tw_49)) (Or.inr (hw _ tw_45)) (by decide) (t := (.object "java/util/List")) (t' := .int) (by decide) (by decide)))).other W60 (Or.inr (slot_ne (Or.inr (hw _ tw_49)) (Or.inr (hw _ tw_47)) (by decide) (t := (.object "java/util/List")) (t' := (.object "java/lang/String")) (by decide) (by decide))))
  refine own_putfield X60 hx hby hZ hown (host := "") (Or.inl (hw _ tw_48)) Via.refl e60 f62 f61 (Or.inr ⟨(hw _ tw_49), rfl, hnm⟩) (hw _ tw_31) (ty := (.object "java/util/List")) (by decide) (own_narR r4) (own_fitR q4) N60 gx  d7_22 rfl (fun T63 h63 L63 X63 e63 W63 N63 => ?_)
  have F63 := f62.same W63
  refine own_retV X63 hx hby hret hlk d7_25 (by decide) (by decide) ?_
  have f64 := (((((Keep.refl h0 [x0]).wr W54 (Or.inl (by simp))).wr W57 (Or.inl (by simp))).wr W60 (Or.inl (by simp))).wr W63 (Or.inl (by simp)))
  rw [e63]
  exact ⟨rfl, N63, f64, F63⟩
set_option maxRecDepth 65536 in
set_option maxHeartbeats 40000000 in
theorem rm9_n (l : Launch) (Z : State) (a0 : Array Value) (hw : ∀ d ∈ tables_1, d.before a0 Z = true) (x0 : Addr) (h0 : Heap) (y : Addr) (F : Fld Z h0 x0 "com/example/weftwork/weftwork/io/Gml$Entry" "list" "Ljava/util/List;" .null) :
    OwnMet l Z (⟨"com/example/weftwork/weftwork/io/Gml$Entry", "isList", "()Z"⟩ : MethodName) prog_30_method_2_code 1 (some .boolean) [] ({ frames := 0, cells := 0, slots := 0, locals := 0 } : Room) #[(.ref x0)] h0 (fun v h L => v = some (.int (0 : Int32)) ∧ L = [] ∧ h = h0) := by
  refine own_body (plainFor_of_name pn_4) (fun m => ef_9_n m x0) ?_
  intro p e s m below meth c s₁ X0 hx hby hml hown hnm hret hlk hZ e0
  replace hown : s.vm.findClass "com/example/weftwork/weftwork/io/Gml$Entry" = some m.cls := hown
  replace hml : c.maxLocals = 1 := hml
  show Ends p.tables e below _ (s₁.setTop (mkF m 0 #[.val (.ref x0)] []))
  refine own_aloadN X0 hx hby d9_0 rfl rfl rfl ?_
  refine own_getfield X0 hx hby hZ hown (host := "") (Or.inl (hw _ tw_48)) Via.refl e0 F d9_1 rfl (fun T65 X65 e65 => ?_)
  refine own_ifnullYes X65 hx hby d9_4 (pcY := 11) (by decide) ?_
  refine own_iconst X65 hx hby d9_11 rfl (0 : Int32) rfl ?_
  refine own_ret X65 hx hby hret hlk d9_12 (.int (0 : Int32)) rfl (Or.inl ⟨rfl, by simp, _, rfl⟩) (by decide) (by decide) ?_
  exact ⟨rfl, rfl, e65⟩
set_option maxRecDepth 65536 in
set_option maxHeartbeats 40000000 in
theorem rm10_n (l : Launch) (Z : State) (a0 : Array Value) (hw : ∀ d ∈ tables_1, d.before a0 Z = true) (x0 : Addr) (h0 : Heap) (y : Addr) (F : Fld Z h0 x0 "com/example/weftwork/weftwork/io/Gml$Entry" "list" "Ljava/util/List;" .null) :
    OwnMet l Z (⟨"com/example/weftwork/weftwork/io/Gml$Entry", "list", "()Ljava/util/List;"⟩ : MethodName) prog_30_method_9_code 1 (some (.object "java/util/List")) [] ({ frames := 0, cells := 0, slots := 0, locals := 0 } : Room) #[(.ref x0)] h0 (fun v h L => v = some .null ∧ L = [] ∧ h = h0) := by
  refine own_body (plainFor_of_name pn_4) (fun m => ef_10_n m x0) ?_
  intro p e s m below meth c s₁ X0 hx hby hml hown hnm hret hlk hZ e0
  replace hown : s.vm.findClass "com/example/weftwork/weftwork/io/Gml$Entry" = some m.cls := hown
  replace hml : c.maxLocals = 1 := hml
  show Ends p.tables e below _ (s₁.setTop (mkF m 0 #[.val (.ref x0)] []))
  refine own_aloadN X0 hx hby d10_0 rfl rfl rfl ?_
  refine own_getfield X0 hx hby hZ hown (host := "") (Or.inl (hw _ tw_48)) Via.refl e0 F d10_1 rfl (fun T66 X66 e66 => ?_)
  refine own_ret X66 hx hby hret hlk d10_4 .null rfl (Or.inr (Or.inr ⟨rfl, rfl, rfl⟩)) (by decide) (by decide) ?_
  exact ⟨rfl, rfl, e66⟩
set_option maxRecDepth 65536 in
set_option maxHeartbeats 40000000 in
theorem rm9_r (l : Launch) (Z : State) (a0 : Array Value) (hw : ∀ d ∈ tables_1, d.before a0 Z = true) (x0 : Addr) (h0 : Heap) (y : Addr) (F : Fld Z h0 x0 "com/example/weftwork/weftwork/io/Gml$Entry" "list" "Ljava/util/List;" (.ref y)) :
    OwnMet l Z (⟨"com/example/weftwork/weftwork/io/Gml$Entry", "isList", "()Z"⟩ : MethodName) prog_30_method_2_code 1 (some .boolean) [] ({ frames := 0, cells := 0, slots := 0, locals := 0 } : Room) #[(.ref x0)] h0 (fun v h L => v = some (.int (1 : Int32)) ∧ L = [] ∧ h = h0) := by
  refine own_body (plainFor_of_name pn_4) (fun m => ef_9_r m x0) ?_
  intro p e s m below meth c s₁ X0 hx hby hml hown hnm hret hlk hZ e0
  replace hown : s.vm.findClass "com/example/weftwork/weftwork/io/Gml$Entry" = some m.cls := hown
  replace hml : c.maxLocals = 1 := hml
  show Ends p.tables e below _ (s₁.setTop (mkF m 0 #[.val (.ref x0)] []))
  refine own_aloadN X0 hx hby d9_0 rfl rfl rfl ?_
  refine own_getfield X0 hx hby hZ hown (host := "") (Or.inl (hw _ tw_48)) Via.refl e0 F d9_1 rfl (fun T67 X67 e67 => ?_)
  refine own_ifnullNo X67 hx hby d9_4 rfl ?_
  refine own_iconst X67 hx hby d9_7 rfl (1 : Int32) rfl ?_
  refine own_goto X67 hx hby d9_8 (pc' := 12) (by decide) ?_
  refine own_ret X67 hx hby hret hlk d9_12 (.int (1 : Int32)) rfl (Or.inl ⟨rfl, by simp, _, rfl⟩) (by decide) (by decide) ?_
  exact ⟨rfl, rfl, e67⟩
set_option maxRecDepth 65536 in
set_option maxHeartbeats 40000000 in
theorem rm10_r (l : Launch) (Z : State) (a0 : Array Value) (hw : ∀ d ∈ tables_1, d.before a0 Z = true) (x0 : Addr) (h0 : Heap) (y : Addr) (F : Fld Z h0 x0 "com/example/weftwork/weftwork/io/Gml$Entry" "list" "Ljava/util/List;" (.ref y)) :
    OwnMet l Z (⟨"com/example/weftwork/weftwork/io/Gml$Entry", "list", "()Ljava/util/List;"⟩ : MethodName) prog_30_method_9_code 1 (some (.object "java/util/List")) [] ({ frames := 0, cells := 0, slots := 0, locals := 0 } : Room) #[(.ref x0)] h0 (fun v h L => v = some (.ref y) ∧ L = [] ∧ h = h0) := by
  refine own_body (plainFor_of_name pn_4) (fun m => ef_10_r m x0) ?_
  intro p e s m below meth c s₁ X0 hx hby hml hown hnm hret hlk hZ e0
  replace hown : s.vm.findClass "com/example/weftwork/weftwork/io/Gml$Entry" = some m.cls := hown
  replace hml : c.maxLocals = 1 := hml
  show Ends p.tables e below _ (s₁.setTop (mkF m 0 #[.val (.ref x0)] []))
  refine own_aloadN X0 hx hby d10_0 rfl rfl rfl ?_
  refine own_getfield X0 hx hby hZ hown (host := "") (Or.inl (hw _ tw_48)) Via.refl e0 F d10_1 rfl (fun T68 X68 e68 => ?_)
  refine own_ret X68 hx hby hret hlk d10_4 (.ref y) rfl (Or.inr (Or.inr ⟨rfl, rfl, rfl⟩)) (by decide) (by decide) ?_
  exact ⟨rfl, rfl, e68⟩
set_option maxRecDepth 65536 in
set_option maxHeartbeats 40000000 in
theorem rm12 (l : Launch) (Z : State) (a0 : Array Value) (hw : ∀ d ∈ tables_1, d.before a0 Z = true) (x0 : Int32) (h0 : Heap) (hc : x0.toInt ≤ 255) :
    OwnMet l Z (⟨"java/lang/StringLatin1", "canEncode", "(C)Z"⟩ : MethodName) jdk_43_method_3_code 1 (some .boolean) [] ({ frames := 0, cells := 0, slots := 0, locals := 0 } : Room) #[(.int x0)] h0 (fun v h L => v = some (.int 1) ∧ L = [] ∧ h = h0) := by
  refine own_body (plainFor_of_name pn_5) (fun m => ef_12 m x0) ?_
  intro p e s m below meth c s₁ X0 hx hby hml hown hnm hret hlk hZ e0
  replace hown : s.vm.findClass "java/lang/StringLatin1" = some m.cls := hown
  replace hml : c.maxLocals = 1 := hml
  show Ends p.tables e below _ (s₁.setTop (mkF m 0 #[.val (.int x0)] []))
  refine own_iloadN X0 hx hby d12_0 rfl rfl ?_
  refine own_sipush X0 hx hby d12_1 rfl (255 : Int32) rfl ?_
  refine own_icmp_gt X0 hx hby d12_4 (pcY := 11) (pcN := 7) (by decide) rfl (fun (hc69 : 255 < x0.toInt) => False.elim (by omega)) (fun (hc69 : x0.toInt ≤ 255) => ?_)
  refine own_iconst X0 hx hby d12_7 rfl (1 : Int32) rfl ?_
  refine own_goto X0 hx hby d12_8 (pc' := 12) (by decide) ?_
  refine own_ret X0 hx hby hret hlk d12_12 (.int (1 : Int32)) rfl (Or.inl ⟨rfl, by simp, _, rfl⟩) (by decide) (by decide) ?_
  exact ⟨rfl, rfl, e0⟩
set_option maxRecDepth 65536 in
set_option maxHeartbeats 40000000 in
theorem rm13 (l : Launch) (Z : State) (a0 : Array Value) (hw : ∀ d ∈ tables_1, d.before a0 Z = true) (x0 : Int32) (h0 : Heap) (n0 : Nat) (O : Old Z n0 h0) :
    OwnMet l Z (⟨"java/lang/StringLatin1", "toBytes", "(C)[B"⟩ : MethodName) jdk_43_method_46_code 1 (some (.array .byte)) [] ({ frames := 0, cells := 1, slots := 1, locals := 0 } : Room) #[(.int x0)] h0 (fun v h L => ∃ b k, v = some (.ref b) ∧ Fr n0 L ∧ Keep h0 h [] ∧ n0 ≤ b ∧ h0.size ≤ b ∧ Arv Z h b k .byte (1 : Int32) [(.int x0.toInt8.toInt32)] (.int 0)) := by
  refine own_body (plainFor_of_name pn_5) (fun m => ef_13 m x0) ?_
  intro p e s m below meth c s₁ X0 hx hby hml hown hnm hret hlk hZ e0
  replace hown : s.vm.findClass "java/lang/StringLatin1" = some m.cls := hown
  replace hml : c.maxLocals = 1 := hml
  have N0 := Fr.nil n0
  show Ends p.tables e below _ (s₁.setTop (mkF m 0 #[.val (.int x0)] []))
  refine own_iconst X0 hx hby d13_0 rfl (1 : Int32) rfl ?_
  refine own_newarray X0 hx hby hZ (aty := .byte) (hw _ tw_19) e0 (by decide) 1 (by decide) (by decide) (by decide) (by decide) .byte rfl [(.int (0 : Int32))] rfl d13_1 rfl (fun T70 h70 b70 k70 X70 e70 g70 E70 V70 => ?_)
  have ge_b70 : n0 ≤ b70 := own_ge O g70
  have sz_b70 : h0.size ≤ b70 := Nat.le_trans (Keep.refl h0 []).1 (Nat.le_of_eq g70.symm)
  refine own_dup X70 hx hby d13_3 rfl rfl ?_
  refine own_iconst X70 hx hby d13_4 rfl (0 : Int32) rfl ?_
  refine own_iloadN X70 hx hby d13_5 rfl rfl ?_
  refine own_i2b X70 hx hby d13_6 rfl ?_
  refine own_bastore X70 hx hby hZ x0.toInt8.toInt32 (own_narb _) e70 V70 (by decide) 0 rfl (show 0 < 1 by decide) [(.int x0.toInt8.toInt32)] rfl (fits_nar_byte _) N0 ge_b70 d13_7 rfl (fun T71 h71 L71 X71 e71 W71 V71 N71 => ?_)
  refine own_ret X71 hx hby hret hlk d13_8 (.ref b70) rfl (Or.inr (Or.inr ⟨rfl, rfl, rfl⟩)) (by decide) (by decide) ?_
  have f72 := (((Keep.refl h0 []).ext E70).wr W71 (Or.inr sz_b70))
  rw [e71]
  exact ⟨b70, _, rfl, N71, f72, ge_b70, sz_b70, V71⟩
set_option maxRecDepth 65536 in
set_option maxHeartbeats 40000000 in
theorem rm14 (l : Launch) (Z : State) (a0 : Array Value) (hw : ∀ d ∈ tables_1, d.before a0 Z = true) (x0 : Addr) (x1 : Addr) (h0 : Heap) (n0 : Nat) (gx : n0 ≤ x0) (E : Exa Z h0 x0 "java/lang/String") (F1 : Fld Z h0 x0 "java/lang/String" "value" "[B" .null) (F2 : Fld Z h0 x0 "java/lang/String" "coder" "B" (.int 0)) :
    OwnMet l Z (⟨"java/lang/String", "<init>", "([BB)V"⟩ : MethodName) jdk_42_method_151_code 3 none [] ({ frames := 1, cells := 0, slots := 0, locals := 12 } : Room) #[(.ref x0), (.ref x1), (.int (0 : Int32))] h0 (fun v h L => v = none ∧ Fr n0 L ∧ Keep h0 h [x0]) := by
  refine own_body (plainFor_of_name pn_6) (fun m => ef_14 m x0 x1) ?_
  intro p e s m below meth c s₁ X0 hx hby hml hown hnm hret hlk hZ e0
  replace hown : s.vm.findClass "java/lang/String" = some m.cls := hown
  replace hml : c.maxLocals = 3 := hml
  have N0 := Fr.nil n0
  show Ends p.tables e below _ (s₁.setTop (mkF m 0 #[.val (.ref x0), .val (.ref x1), .val (.int (0 : Int32))] []))
  refine own_aloadN X0 hx hby d14_0 rfl rfl rfl ?_
  refine own_initO X0 hx hby hZ hown (hw _ tw_11) (hw _ tw_12) (hw _ tw_13) e0 (by rw [hml]; rfl) (by decide) (W := 0) (Nat.le_refl _) (by decide) d14_1 rfl (fun T73 X73 e73 => ?_)
  refine own_aloadN X73 hx hby d14_4 rfl rfl rfl ?_
  refine own_aloadN X73 hx hby d14_5 rfl rfl rfl ?_
  refine own_putfield X73 hx hby hZ hown (host := "") (Or.inl (hw _ tw_28)) Via.refl e73 F1 E (Or.inr ⟨(hw _ tw_29), rfl, hnm⟩) (hw _ tw_2) (ty := (.array .byte)) (by decide) rfl rfl N0 gx  d14_6 rfl (fun T74 h74 L74 X74 e74 W74 N74 => ?_)
  have F74 := F1.same W74
  refine own_aloadN X74 hx hby d14_9 rfl rfl rfl ?_
  refine own_iloadN X74 hx hby d14_10 rfl rfl ?_
  have f75 := (E.wr W74)
  have f76 := (F2.other W74 (Or.inr (slot_ne (Or.inr (hw _ tw_27)) (Or.inr (hw _ tw_29)) (by decide) (t := .byte) (t' := (.array .byte)) (by decide) (by decide))))
  refine own_putfield X74 hx hby hZ hown (host := "") (Or.inl (hw _ tw_26)) Via.refl e74 f76 f75 (Or.inr ⟨(hw _ tw_27), rfl, hnm⟩) (hw _ tw_2) (ty := .byte) (by decide) rfl rfl N74 gx  d14_11 rfl (fun T77 h77 L77 X77 e77 W77 N77 => ?_)
  have F77 := f76.same W77
  refine own_retV X77 hx hby hret hlk d14_14 (by decide) (by decide) ?_
  have f78 := (((Keep.refl h0 [x0]).wr W74 (Or.inl (by simp))).wr W77 (Or.inl (by simp)))
  rw [e77]
  exact ⟨rfl, N77, f78⟩
set_option maxRecDepth 65536 in
set_option maxHeartbeats 40000000 in
theorem rm11 (l : Launch) (Z : State) (a0 : Array Value) (hw : ∀ d ∈ tables_1, d.before a0 Z = true) (x0 : Int32) (h0 : Heap) (n0 : Nat) {z : Int32} {aD : Addr} (G : OwnG Z z aD) (O : Old Z n0 h0) (hc : x0.toInt ≤ 255) :
    OwnMet l Z (⟨"java/lang/String", "valueOf", "(C)Ljava/lang/String;"⟩ : MethodName) jdk_42_method_139_code 1 (some (.object "java/lang/String")) [] ({ frames := 2, cells := 2, slots := 5, locals := 27 } : Room) #[(.int x0)] h0 (fun v h L => ∃ b, v = some (.ref b) ∧ Fr n0 L ∧ Keep h0 h [] ∧ n0 ≤ b ∧ h0.size ≤ b ∧ Exa Z h b "java/lang/String") := by
  refine own_body (plainFor_of_name pn_6) (fun m => ef_11 m x0) ?_
  intro p e s m below meth c s₁ X0 hx hby hml hown hnm hret hlk hZ e0
  replace hown : s.vm.findClass "java/lang/String" = some m.cls := hown
  replace hml : c.maxLocals = 1 := hml
  have N0 := Fr.nil n0
  show Ends p.tables e below _ (s₁.setTop (mkF m 0 #[.val (.int x0)] []))
  refine own_getstatic X0 hx hby hZ hown (host := "") (Or.inl (hw _ tw_14)) Via.refl e0 (G.1.ext O.2) d11_0 rfl (fun T79 X79 e79 => ?_)
  refine own_if_eq X79 hx hby d11_3 (pcY := 26) (pcN := 6) (by decide) rfl (fun (hc80 : z = (0 : Int32)) => False.elim (by exact G.2.1 hc80)) (fun (hc80 : ¬ z = (0 : Int32)) => ?_)
  refine own_iloadN X79 hx hby d11_6 rfl rfl ?_
  refine own_static X79 hx hby hZ (argsL := [(.int x0)]) (rest := []) hown (hw _ tw_63) (hw _ tw_64) (hw _ tw_65) (hw _ tw_66) (by decide) (rm12 l Z a0 hw x0 h0 hc) e79 (by rw [hml]; rfl) pd_5 rfl (by decide) (W := 0) (Nat.le_refl _) (by decide) (by decide) (by decide) d11_7 rfl rfl (fun v81 T81 L81 X81 hQ81 => ?_)
  obtain ⟨rfl, rfl, e81⟩ := hQ81
  show Ends p.tables e below _ (T81.setTop (mkF m 10 #[.val (.int x0)] [(.int (1 : Int32))]))
  refine own_if_eq X81 hx hby d11_10 (pcY := 26) (pcN := 13) (by decide) rfl (fun (hc82 : (1 : Int32) = (0 : Int32)) => False.elim (by exact absurd hc82 (by decide))) (fun (hc82 : ¬ (1 : Int32) = (0 : Int32)) => ?_)
  refine own_new X81 hx hby hZ hown (hw _ tw_67) (hw _ tw_2) (hw _ tw_3) e81 (by decide) (by decide) d11_13 rfl (fun T83 h83 b83 X83 e83 g83 E83 A83 D83 => ?_)
  have ge_b83 : n0 ≤ b83 := own_ge O g83
  have sz_b83 : h0.size ≤ b83 := Nat.le_trans (Keep.refl h0 []).1 (Nat.le_of_eq g83.symm)
  have F83_coder : Fld Z h83 b83 "java/lang/String" "coder" "B" (.int (0 : Int32)) := D83 (Or.inr (hw _ tw_27)) (ty := .byte) (by decide)
  have F83_value : Fld Z h83 b83 "java/lang/String" "value" "[B" .null := D83 (Or.inr (hw _ tw_29)) (ty := (.array .byte)) (by decide)
  refine own_dup X83 hx hby d11_16 rfl rfl ?_
  refine own_iloadN X83 hx hby d11_17 rfl rfl ?_
  have f85 := (O.ext E83)
  refine own_static X83 hx hby hZ (argsL := [(.int x0)]) (rest := [(.ref b83), (.ref b83)]) hown (hw _ tw_68) (hw _ tw_69) (hw _ tw_65) (hw _ tw_70) (by decide) (rm13 l Z a0 hw x0 h83 n0 f85) e83 (by rw [hml]; rfl) pd_6 rfl (by decide) (W := 2) (Nat.le_refl _) (by decide) (by decide) (by decide) d11_18 rfl rfl (fun v84 T84 L84 X84 hQ84 => ?_)
  obtain ⟨b84, k84, rfl, N84q, K84, gq84, sq84, V84⟩ := hQ84
  show Ends p.tables e below _ (T84.setTop (mkF m 21 #[.val (.int x0)] [(.ref b84), (.ref b83), (.ref b83)]))
  refine own_iconst X84 hx hby d11_21 rfl (0 : Int32) rfl ?_
  have f87 := (A83.keep K84)
  have f88 := (F83_value.keep K84 nin0)
  have f89 := (F83_coder.keep K84 nin0)
  refine own_special X84 hx hby hZ (a := b83) (argsL := [(.ref b84), (.int (0 : Int32))]) (rest := [(.ref b83)]) hown rfl (hw _ tw_71) (hw _ tw_72) (hw _ tw_3) (hw _ tw_73) (by decide) (rm14 l Z a0 hw b83 b84 T84.heap n0 ge_b83 f87 f88 f89) rfl (by rw [hml]; rfl) pd_7 rfl (by decide) (W := 1) (Nat.le_refl _) (by decide) (by decide) (by decide) d11_22 rfl rfl (fun v86 T86 L86 X86 hQ86 => ?_)
  obtain ⟨rfl, N86q, K86⟩ := hQ86
  show Ends p.tables e below _ (T86.setTop (mkF m 25 #[.val (.int x0)] [(.ref b83)]))
  refine own_ret X86 hx hby hret hlk d11_25 (.ref b83) rfl (Or.inr (Or.inr ⟨rfl, rfl, rfl⟩)) (by decide) (by decide) ?_
  have f90 := ((((Keep.refl h0 []).ext E83).trans K84 all0).trans K86 (allS (Or.inr sz_b83) all0))
  have f91 := (f87.keep K86)
  exact ⟨b83, rfl, (Fr.app (Fr.app (Fr.app N0 (Fr.nil _)) N84q) N86q), f90, ge_b83, sz_b83, f91⟩
set_option maxRecDepth 65536 in
set_option maxHeartbeats 40000000 in
theorem rm0 (l : Launch) (Z : State) (a0 : Array Value) (hw : ∀ d ∈ tables_1, d.before a0 Z = true) (x0 : Int32) (x1 : Int32) (x2 : Int32) (x3 : Int32) (h0 : Heap) (n0 : Nat) {z : Int32} {aD : Addr} (G : OwnG Z z aD) (O : Old Z n0 h0) :
    OwnMet l Z x code maxLocals ret tables_1 room_1 #[(.int x0), (.int x1), (.int x2), (.int x3)] h0 (fun v h L => v = some (.int 1) ∧ Fr n0 L) := by
  refine own_body (plainFor_of_name pn_7) (fun m => ef_0 m x0 x1 x2 x3) ?_
  intro p e s m below meth c s₁ X0 hx hby hml hown hnm hret hlk hZ e0
  replace hown : s.vm.findClass "com/example/weftwork/weftwork/io/EntryIsListPinLaw" = some m.cls := hown
  replace hml : c.maxLocals = 16 := hml
  have N0 := Fr.nil n0
  show Ends p.tables e below _ (s₁.setTop (mkF m 0 #[.val (.int x0), .val (.int x1), .val (.int x2), .val (.int x3), .unset, .unset, .unset, .unset, .unset, .unset, .unset, .unset, .unset, .unset, .unset, .unset] []))
  refine own_iloadN X0 hx hby at_0 rfl rfl ?_
  refine own_iconst X0 hx hby at_1 rfl (1 : Int32) rfl ?_
  refine own_iand X0 hx hby at_2 rfl ?_
  refine own_if_eq X0 hx hby at_3 (pcY := 10) (pcN := 6) (by decide) rfl (fun (hc92 : (x0 &&& (1 : Int32)) = (0 : Int32)) => ?_) (fun (hc92 : ¬ (x0 &&& (1 : Int32)) = (0 : Int32)) => ?_)
  · -- pc 3: t
    refine own_iconst X0 hx hby at_10 rfl (0 : Int32) rfl ?_
    refine own_istore X0 hx hby at_11 rfl #[.val (.int x0), .val (.int x1), .val (.int x2), .val (.int x3), .val (.int (0 : Int32)), .unset, .unset, .unset, .unset, .unset, .unset, .unset, .unset, .unset, .unset, .unset] rfl ?_
    refine own_iloadN X0 hx hby at_13 rfl rfl ?_
    refine own_iconst X0 hx hby at_14 rfl (2 : Int32) rfl ?_
    refine own_iand X0 hx hby at_15 rfl ?_
    refine own_if_eq X0 hx hby at_16 (pcY := 23) (pcN := 19) (by decide) rfl (fun (hc93 : (x0 &&& (2 : Int32)) = (0 : Int32)) => ?_) (fun (hc93 : ¬ (x0 &&& (2 : Int32)) = (0 : Int32)) => ?_)
    · -- pc 16: t
      refine own_iconst X0 hx hby at_23 rfl (0 : Int32) rfl ?_
      refine own_istore X0 hx hby at_24 rfl #[.val (.int x0), .val (.int x1), .val (.int x2), .val (.int x3), .val (.int (0 : Int32)), .val (.int (0 : Int32)), .unset, .unset, .unset, .unset, .unset, .unset, .unset, .unset, .unset, .unset] rfl ?_
      refine own_iloadN X0 hx hby at_26 rfl rfl ?_
      refine own_iconst X0 hx hby at_27 rfl (4 : Int32) rfl ?_
      refine own_iand X0 hx hby at_28 rfl ?_
      refine own_if_eq X0 hx hby at_29 (pcY := 36) (pcN := 32) (by decide) rfl (fun (hc94 : (x0 &&& (4 : Int32)) = (0 : Int32)) => ?_) (fun (hc94 : ¬ (x0 &&& (4 : Int32)) = (0 : Int32)) => ?_)
      · -- pc 29: t
        refine own_iconst X0 hx hby at_36 rfl (0 : Int32) rfl ?_
        refine own_istore X0 hx hby at_37 rfl #[.val (.int x0), .val (.int x1), .val (.int x2), .val (.int x3), .val (.int (0 : Int32)), .val (.int (0 : Int32)), .val (.int (0 : Int32)), .unset, .unset, .unset, .unset, .unset, .unset, .unset, .unset, .unset] rfl ?_
        refine own_iloadN X0 hx hby at_39 rfl rfl ?_
        refine own_bipush X0 hx hby at_40 rfl (8 : Int32) rfl ?_
        refine own_iand X0 hx hby at_42 rfl ?_
        refine own_if_eq X0 hx hby at_43 (pcY := 50) (pcN := 46) (by decide) rfl (fun (hc95 : (x0 &&& (8 : Int32)) = (0 : Int32)) => ?_) (fun (hc95 : ¬ (x0 &&& (8 : Int32)) = (0 : Int32)) => ?_)
        · -- pc 43: t
          refine own_iconst X0 hx hby at_50 rfl (0 : Int32) rfl ?_
          refine own_istore X0 hx hby at_51 rfl #[.val (.int x0), .val (.int x1), .val (.int x2), .val (.int x3), .val (.int (0 : Int32)), .val (.int (0 : Int32)), .val (.int (0 : Int32)), .val (.int (0 : Int32)), .unset, .unset, .unset, .unset, .unset, .unset, .unset, .unset] rfl ?_
          refine own_iconst X0 hx hby at_53 rfl (1 : Int32) rfl ?_
          refine own_newarray X0 hx hby hZ (aty := .char) (hw _ tw_0) e0 (by decide) 1 (by decide) (by decide) (by decide) (by decide) .char rfl [(.int (0 : Int32))] rfl at_54 rfl (fun T96 h96 b96 k96 X96 e96 g96 E96 V96 => ?_)
          have ge_b96 : n0 ≤ b96 := own_ge O g96
          refine own_astore X96 hx hby at_56 rfl #[.val (.int x0), .val (.int x1), .val (.int x2), .val (.int x3), .val (.int (0 : Int32)), .val (.int (0 : Int32)), .val (.int (0 : Int32)), .val (.int (0 : Int32)), .val (.ref b96), .unset, .unset, .unset, .unset, .unset, .unset, .unset] rfl rfl ?_
          refine own_aload X96 hx hby at_58 rfl rfl rfl ?_
          refine own_iconst X96 hx hby at_60 rfl (0 : Int32) rfl ?_
          refine own_iloadN X96 hx hby at_61 rfl rfl ?_
          refine own_sipush X96 hx hby at_62 rfl (255 : Int32) rfl ?_
          refine own_iand X96 hx hby at_65 rfl ?_
          refine own_i2c X96 hx hby at_66 rfl ?_
          refine own_castore X96 hx hby hZ (x2 &&& (255 : Int32)) (own_charv x2) e96 V96 (by decide) 0 rfl (show 0 < 1 by decide) [(.int (x2 &&& (255 : Int32)))] rfl (own_charf x2) N0 ge_b96 at_67 rfl (fun T97 h97 L97 X97 e97 W97 V97 N97 => ?_)
          refine own_iload X97 hx hby at_68 rfl rfl ?_
          refine own_if_eq X97 hx hby at_70 (pcY := 77) (pcN := 73) (by decide) rfl (fun (hc98 : (0 : Int32) = (0 : Int32)) => ?_) (fun (hc98 : ¬ (0 : Int32) = (0 : Int32)) => False.elim (by exact absurd hc98 (by decide)))
          have f100 := ((O.ext E96).wr W97 ge_b96)
          refine own_new X97 hx hby hZ hown (hw _ tw_1) (hw _ tw_2) (hw _ tw_3) e97 (by decide) (by decide) at_77 rfl (fun T99 h99 b99 X99 e99 g99 E99 A99 D99 => ?_)
          have ge_b99 : n0 ≤ b99 := own_ge f100 g99
          have ne_b96_b99 : b96 ≠ b99 := own_lt V97.lt g99
          have F99_coder : Fld Z h99 b99 "java/lang/String" "coder" "B" (.int (0 : Int32)) := D99 (Or.inr (hw _ tw_27)) (ty := .byte) (by decide)
          have F99_value : Fld Z h99 b99 "java/lang/String" "value" "[B" .null := D99 (Or.inr (hw _ tw_29)) (ty := (.array .byte)) (by decide)
          refine own_dup X99 hx hby at_80 rfl rfl ?_
          refine own_aload X99 hx hby at_81 rfl rfl rfl ?_
          have f102 := (f100.ext E99)
          have f103 := (V97.ext E99)
          refine own_specialB X99 hx hby hZ (kc := 1) (ks := 1) (a := b99) (argsL := [(.ref b96)]) (rest := [(.ref b99)]) hown rfl (hw _ tw_4) (hw _ tw_5) (hw _ tw_6) (by decide) (StrChars.Road.backV (W := 1) hZ (own_hws hw) (kI := 4) (hw _ tw_2) (cs := [x2 &&& (255 : Int32)]) (bs := [(x2 &&& (255 : Int32)).toInt8.toInt32]) (n := 1) (n0 := n0) ge_b99 (own_ge' f102) A99 F99_value F99_coder f103 (G.1.ext f102.2) G.2.1 rfl rfl (by decide) (by decide) (own_chars x2) rfl (by decide) (by decide)) e99 (by rw [hml]; rfl) pd_8 rfl (Nat.le_refl _) (by decide) (by decide) at_83 rfl rfl (fun v101 T101 L101 X101 hQ101 => ?_)
          obtain ⟨rfl, N101q, K101, A101, -, -, -, -, -, -, -, -⟩ := hQ101
          show Ends p.tables e below _ (T101.setTop (mkF m 86 #[.val (.int x0), .val (.int x1), .val (.int x2), .val (.int x3), .val (.int (0 : Int32)), .val (.int (0 : Int32)), .val (.int (0 : Int32)), .val (.int (0 : Int32)), .val (.ref b96), .unset, .unset, .unset, .unset, .unset, .unset, .unset] [(.ref b99)]))
          refine own_astore X101 hx hby at_86 rfl #[.val (.int x0), .val (.int x1), .val (.int x2), .val (.int x3), .val (.int (0 : Int32)), .val (.int (0 : Int32)), .val (.int (0 : Int32)), .val (.int (0 : Int32)), .val (.ref b96), .val (.ref b99), .unset, .unset, .unset, .unset, .unset, .unset] rfl rfl ?_
          refine own_iload X101 hx hby at_88 rfl rfl ?_
          refine own_if_eq X101 hx hby at_90 (pcY := 105) (pcN := 93) (by decide) rfl (fun (hc104 : (0 : Int32) = (0 : Int32)) => ?_) (fun (hc104 : ¬ (0 : Int32) = (0 : Int32)) => False.elim (by exact absurd hc104 (by decide)))
          refine own_aconstNull X101 hx hby at_105 rfl ?_
          refine own_astore X101 hx hby at_106 rfl #[.val (.int x0), .val (.int x1), .val (.int x2), .val (.int x3), .val (.int (0 : Int32)), .val (.int (0 : Int32)), .val (.int (0 : Int32)), .val (.int (0 : Int32)), .val (.ref b96), .val (.ref b99), .val .null, .unset, .unset, .unset, .unset, .unset] rfl rfl ?_
          refine own_aconstNull X101 hx hby at_108 rfl ?_
          refine own_astore X101 hx hby at_109 rfl #[.val (.int x0), .val (.int x1), .val (.int x2), .val (.int x3), .val (.int (0 : Int32)), .val (.int (0 : Int32)), .val (.int (0 : Int32)), .val (.int (0 : Int32)), .val (.ref b96), .val (.ref b99), .val .null, .val .null, .unset, .unset, .unset, .unset] rfl rfl ?_
          refine own_aconstNull X101 hx hby at_111 rfl ?_
          refine own_astore X101 hx hby at_112 rfl #[.val (.int x0), .val (.int x1), .val (.int x2), .val (.int x3), .val (.int (0 : Int32)), .val (.int (0 : Int32)), .val (.int (0 : Int32)), .val (.int (0 : Int32)), .val (.ref b96), .val (.ref b99), .val .null, .val .null, .val .null, .unset, .unset, .unset] rfl rfl ?_
          refine own_iload X101 hx hby at_114 rfl rfl ?_
          refine own_if_eq X101 hx hby at_116 (pcY := 158) (pcN := 119) (by decide) rfl (fun (hc105 : (0 : Int32) = (0 : Int32)) => ?_) (fun (hc105 : ¬ (0 : Int32) = (0 : Int32)) => False.elim (by exact absurd hc105 (by decide)))
          have f107 := (f102.keep K101 (allS ge_b99 all0))
          refine own_new X101 hx hby hZ hown (hw _ tw_30) (hw _ tw_31) (hw _ tw_32) rfl (by decide) (by decide) at_158 rfl (fun T106 h106 b106 X106 e106 g106 E106 A106 D106 => ?_)
          have ge_b106 : n0 ≤ b106 := own_ge f107 g106
          have f108 := (f103.keep K101 (ninS ne_b96_b99 nin0))
          have ne_b96_b106 : b96 ≠ b106 := own_lt f108.lt g106
          have f109 := (A99.keep K101)
          have ne_b99_b106 : b99 ≠ b106 := own_lt f109.lt g106
          have F106_key : Fld Z h106 b106 "com/example/weftwork/weftwork/io/Gml$Entry" "key" "Ljava/lang/String;" .null := D106 (Or.inr (hw _ tw_43)) (ty := (.object "java/lang/String")) (by decide)
          have F106_line : Fld Z h106 b106 "com/example/weftwork/weftwork/io/Gml$Entry" "line" "I" (.int (0 : Int32)) := D106 (Or.inr (hw _ tw_45)) (ty := .int) (by decide)
          have F106_scalar : Fld Z h106 b106 "com/example/weftwork/weftwork/io/Gml$Entry" "scalar" "Ljava/lang/String;" .null := D106 (Or.inr (hw _ tw_47)) (ty := (.object "java/lang/String")) (by decide)
          have F106_list : Fld Z h106 b106 "com/example/weftwork/weftwork/io/Gml$Entry" "list" "Ljava/util/List;" .null := D106 (Or.inr (hw _ tw_49)) (ty := (.object "java/util/List")) (by decide)
          refine own_dup X106 hx hby at_161 rfl rfl ?_
          refine own_aload X106 hx hby at_162 rfl rfl rfl ?_
          refine own_iloadN X106 hx hby at_164 rfl rfl ?_
          refine own_aload X106 hx hby at_165 rfl rfl rfl ?_
          refine own_aload X106 hx hby at_167 rfl rfl rfl ?_
          refine own_special X106 hx hby hZ (a := b106) (argsL := [(.ref b99), (.int x1), .null, .null]) (rest := [(.ref b106)]) hown rfl (hw _ tw_33) (hw _ tw_34) (hw _ tw_32) (hw _ tw_35) (by decide) (rm7 l Z a0 hw b106 x1 h106 n0 (.ref b99) .null .null rfl rfl rfl ge_b106 A106 F106_key F106_line F106_scalar F106_list) e106 (by rw [hml]; rfl) pd_9 rfl (by decide) (W := 1) (Nat.le_refl _) (by decide) (by decide) (by decide) at_169 rfl rfl (fun v110 T110 L110 X110 hQ110 => ?_)
          obtain ⟨rfl, N110q, K110, Fl110⟩ := hQ110
          show Ends p.tables e below _ (T110.setTop (mkF m 172 #[.val (.int x0), .val (.int x1), .val (.int x2), .val (.int x3), .val (.int (0 : Int32)), .val (.int (0 : Int32)), .val (.int (0 : Int32)), .val (.int (0 : Int32)), .val (.ref b96), .val (.ref b99), .val .null, .val .null, .val .null, .unset, .unset, .unset] [(.ref b106)]))
          refine own_astore X110 hx hby at_172 rfl #[.val (.int x0), .val (.int x1), .val (.int x2), .val (.int x3), .val (.int (0 : Int32)), .val (.int (0 : Int32)), .val (.int (0 : Int32)), .val (.int (0 : Int32)), .val (.ref b96), .val (.ref b99), .val .null, .val .null, .val .null, .val (.ref b106), .unset, .unset] rfl rfl ?_
          refine own_aload X110 hx hby at_174 rfl rfl rfl ?_
          have f112 := (A106.keep K110)
          refine own_virtual X110 hx hby hZ (Cn := "com/example/weftwork/weftwork/io/Gml$Entry") (a := b106) (argsL := []) (rest := []) hown (hw _ tw_50) (hw _ tw_51) (hw _ tw_53) (hw _ tw_52) (hw _ tw_32) (hw _ tw_54) (by decide) (rm9_n l Z a0 hw b106 T110.heap 0 Fl110) f112 rfl (by rw [hml]; rfl) pd_10 rfl (by decide) (W := 0) (Nat.le_refl _) (by decide) (by decide) (by decide) at_176 rfl rfl (fun v111 T111 L111 X111 hQ111 => ?_)
          obtain ⟨rfl, rfl, e111⟩ := hQ111
          show Ends p.tables e below _ (T111.setTop (mkF m 179 #[.val (.int x0), .val (.int x1), .val (.int x2), .val (.int x3), .val (.int (0 : Int32)), .val (.int (0 : Int32)), .val (.int (0 : Int32)), .val (.int (0 : Int32)), .val (.ref b96), .val (.ref b99), .val .null, .val .null, .val .null, .val (.ref b106), .unset, .unset] [(.int (0 : Int32))]))
          refine own_istore X111 hx hby at_179 rfl #[.val (.int x0), .val (.int x1), .val (.int x2), .val (.int x3), .val (.int (0 : Int32)), .val (.int (0 : Int32)), .val (.int (0 : Int32)), .val (.int (0 : Int32)), .val (.ref b96), .val (.ref b99), .val .null, .val .null, .val .null, .val (.ref b106), .val (.int (0 : Int32)), .unset] rfl ?_
          refine own_aload X111 hx hby at_181 rfl rfl rfl ?_
          refine own_ifnullYes X111 hx hby at_183 (pcY := 194) (by decide) ?_
          refine own_iconst X111 hx hby at_194 rfl (1 : Int32) rfl ?_
          refine own_goto X111 hx hby at_195 (pc' := 199) (by decide) ?_
          refine own_istore X111 hx hby at_199 rfl #[.val (.int x0), .val (.int x1), .val (.int x2), .val (.int x3), .val (.int (0 : Int32)), .val (.int (0 : Int32)), .val (.int (0 : Int32)), .val (.int (0 : Int32)), .val (.ref b96), .val (.ref b99), .val .null, .val .null, .val .null, .val (.ref b106), .val (.int (0 : Int32)), .val (.int (1 : Int32))] rfl ?_
          refine own_iload X111 hx hby at_201 rfl rfl ?_
          refine own_iload X111 hx hby at_203 rfl rfl ?_
          refine own_icmp_ne X111 hx hby at_205 (pcY := 235) (pcN := 208) (by decide) rfl (fun (hc113 : ¬ (0 : Int32) = (0 : Int32)) => False.elim (by exact absurd hc113 (by decide))) (fun (hc113 : (0 : Int32) = (0 : Int32)) => ?_)
          refine own_iload X111 hx hby at_208 rfl rfl ?_
          refine own_aload X111 hx hby at_210 rfl rfl rfl ?_
          refine own_virtual X111 hx hby hZ (Cn := "com/example/weftwork/weftwork/io/Gml$Entry") (a := b106) (argsL := []) (rest := [(.int (0 : Int32))]) hown (hw _ tw_55) (hw _ tw_56) (hw _ tw_58) (hw _ tw_57) (hw _ tw_32) (hw _ tw_59) (by decide) (rm10_n l Z a0 hw b106 T110.heap 0 Fl110) f112 e111 (by rw [hml]; rfl) pd_11 rfl (by decide) (W := 1) (Nat.le_refl _) (by decide) (by decide) (by decide) at_212 rfl rfl (fun v114 T114 L114 X114 hQ114 => ?_)
          obtain ⟨rfl, rfl, e114⟩ := hQ114
          show Ends p.tables e below _ (T114.setTop (mkF m 215 #[.val (.int x0), .val (.int x1), .val (.int x2), .val (.int x3), .val (.int (0 : Int32)), .val (.int (0 : Int32)), .val (.int (0 : Int32)), .val (.int (0 : Int32)), .val (.ref b96), .val (.ref b99), .val .null, .val .null, .val .null, .val (.ref b106), .val (.int (0 : Int32)), .val (.int (1 : Int32))] [.null, (.int (0 : Int32))]))
          refine own_ifnullYes X114 hx hby at_215 (pcY := 222) (by decide) ?_
          refine own_iconst X114 hx hby at_222 rfl (0 : Int32) rfl ?_
          refine own_icmp_ne X114 hx hby at_223 (pcY := 235) (pcN := 226) (by decide) rfl (fun (hc115 : ¬ (0 : Int32) = (0 : Int32)) => False.elim (by exact absurd hc115 (by decide))) (fun (hc115 : (0 : Int32) = (0 : Int32)) => ?_)
          refine own_iload X114 hx hby at_226 rfl rfl ?_
          refine own_if_eq X114 hx hby at_228 (pcY := 235) (pcN := 231) (by decide) rfl (fun (hc116 : (1 : Int32) = (0 : Int32)) => False.elim (by exact absurd hc116 (by decide))) (fun (hc116 : ¬ (1 : Int32) = (0 : Int32)) => ?_)
          refine own_iconst X114 hx hby at_231 rfl (1 : Int32) rfl ?_
          refine own_goto X114 hx hby at_232 (pc' := 236) (by decide) ?_
          refine own_ret X114 hx hby hret hlk at_236 (.int (1 : Int32)) rfl (Or.inl ⟨rfl, by simp, _, rfl⟩) (by decide) (by decide) ?_
          exact ⟨rfl, (Fr.app (Fr.app (Fr.app (Fr.app N97 N101q) N110q) (Fr.nil _)) (Fr.nil _))⟩
        · -- pc 43: f
          refine own_iconst X0 hx hby at_46 rfl (1 : Int32) rfl ?_
          refine own_goto X0 hx hby at_47 (pc' := 51) (by decide) ?_
          refine own_istore X0 hx hby at_51 rfl #[.val (.int x0), .val (.int x1), .val (.int x2), .val (.int x3), .val (.int (0 : Int32)), .val (.int (0 : Int32)), .val (.int (0 : Int32)), .val (.int (1 : Int32)), .unset, .unset, .unset, .unset, .unset, .unset, .unset, .unset] rfl ?_
          refine own_iconst X0 hx hby at_53 rfl (1 : Int32) rfl ?_
          refine own_newarray X0 hx hby hZ (aty := .char) (hw _ tw_0) e0 (by decide) 1 (by decide) (by decide) (by decide) (by decide) .char rfl [(.int (0 : Int32))] rfl at_54 rfl (fun T117 h117 b117 k117 X117 e117 g117 E117 V117 => ?_)
          have ge_b117 : n0 ≤ b117 := own_ge O g117
          refine own_astore X117 hx hby at_56 rfl #[.val (.int x0), .val (.int x1), .val (.int x2), .val (.int x3), .val (.int (0 : Int32)), .val (.int (0 : Int32)), .val (.int (0 : Int32)), .val (.int (1 : Int32)), .val (.ref b117), .unset, .unset, .unset, .unset, .unset, .unset, .unset] rfl rfl ?_
          refine own_aload X117 hx hby at_58 rfl rfl rfl ?_
          refine own_iconst X117 hx hby at_60 rfl (0 : Int32) rfl ?_
          refine own_iloadN X117 hx hby at_61 rfl rfl ?_
          refine own_sipush X117 hx hby at_62 rfl (255 : Int32) rfl ?_
          refine own_iand X117 hx hby at_65 rfl ?_
          refine own_i2c X117 hx hby at_66 rfl ?_
          refine own_castore X117 hx hby hZ (x2 &&& (255 : Int32)) (own_charv x2) e117 V117 (by decide) 0 rfl (show 0 < 1 by decide) [(.int (x2 &&& (255 : Int32)))] rfl (own_charf x2) N0 ge_b117 at_67 rfl (fun T118 h118 L118 X118 e118 W118 V118 N118 => ?_)
          refine own_iload X118 hx hby at_68 rfl rfl ?_
          refine own_if_eq X118 hx hby at_70 (pcY := 77) (pcN := 73) (by decide) rfl (fun (hc119 : (1 : Int32) = (0 : Int32)) => False.elim (by exact absurd hc119 (by decide))) (fun (hc119 : ¬ (1 : Int32) = (0 : Int32)) => ?_)
          refine own_aconstNull X118 hx hby at_73 rfl ?_
          refine own_goto X118 hx hby at_74 (pc' := 86) (by decide) ?_
          refine own_astore X118 hx hby at_86 rfl #[.val (.int x0), .val (.int x1), .val (.int x2), .val (.int x3), .val (.int (0 : Int32)), .val (.int (0 : Int32)), .val (.int (0 : Int32)), .val (.int (1 : Int32)), .val (.ref b117), .val .null, .unset, .unset, .unset, .unset, .unset, .unset] rfl rfl ?_
          refine own_iload X118 hx hby at_88 rfl rfl ?_
          refine own_if_eq X118 hx hby at_90 (pcY := 105) (pcN := 93) (by decide) rfl (fun (hc120 : (0 : Int32) = (0 : Int32)) => ?_) (fun (hc120 : ¬ (0 : Int32) = (0 : Int32)) => False.elim (by exact absurd hc120 (by decide)))
          refine own_aconstNull X118 hx hby at_105 rfl ?_
          refine own_astore X118 hx hby at_106 rfl #[.val (.int x0), .val (.int x1), .val (.int x2), .val (.int x3), .val (.int (0 : Int32)), .val (.int (0 : Int32)), .val (.int (0 : Int32)), .val (.int (1 : Int32)), .val (.ref b117), .val .null, .val .null, .unset, .unset, .unset, .unset, .unset] rfl rfl ?_
          refine own_aconstNull X118 hx hby at_108 rfl ?_
          refine own_astore X118 hx hby at_109 rfl #[.val (.int x0), .val (.int x1), .val (.int x2), .val (.int x3), .val (.int (0 : Int32)), .val (.int (0 : Int32)), .val (.int (0 : Int32)), .val (.int (1 : Int32)), .val (.ref b117), .val .null, .val .null, .val .null, .unset, .unset, .unset, .unset] rfl rfl ?_
          refine own_aconstNull X118 hx hby at_111 rfl ?_
          refine own_astore X118 hx hby at_112 rfl #[.val (.int x0), .val (.int x1), .val (.int x2), .val (.int x3), .val (.int (0 : Int32)), .val (.int (0 : Int32)), .val (.int (0 : Int32)), .val (.int (1 : Int32)), .val (.ref b117), .val .null, .val .null, .val .null, .val .null, .unset, .unset, .unset] rfl rfl ?_
          refine own_iload X118 hx hby at_114 rfl rfl ?_
          refine own_if_eq X118 hx hby at_116 (pcY := 158) (pcN := 119) (by decide) rfl (fun (hc121 : (0 : Int32) = (0 : Int32)) => ?_) (fun (hc121 : ¬ (0 : Int32) = (0 : Int32)) => False.elim (by exact absurd hc121 (by decide)))
          have f123 := ((O.ext E117).wr W118 ge_b117)
          refine own_new X118 hx hby hZ hown (hw _ tw_30) (hw _ tw_31) (hw _ tw_32) e118 (by decide) (by decide) at_158 rfl (fun T122 h122 b122 X122 e122 g122 E122 A122 D122 => ?_)
          have ge_b122 : n0 ≤ b122 := own_ge f123 g122
          have ne_b117_b122 : b117 ≠ b122 := own_lt V118.lt g122
          have F122_key : Fld Z h122 b122 "com/example/weftwork/weftwork/io/Gml$Entry" "key" "Ljava/lang/String;" .null := D122 (Or.inr (hw _ tw_43)) (ty := (.object "java/lang/String")) (by decide)
          have F122_line : Fld Z h122 b122 "com/example/weftwork/weftwork/io/Gml$Entry" "line" "I" (.int (0 : Int32)) := D122 (Or.inr (hw _ tw_45)) (ty := .int) (by decide)
          have F122_scalar : Fld Z h122 b122 "com/example/weftwork/weftwork/io/Gml$Entry" "scalar" "Ljava/lang/String;" .null := D122 (Or.inr (hw _ tw_47)) (ty := (.object "java/lang/String")) (by decide)
          have F122_list : Fld Z h122 b122 "com/example/weftwork/weftwork/io/Gml$Entry" "list" "Ljava/util/List;" .null := D122 (Or.inr (hw _ tw_49)) (ty := (.object "java/util/List")) (by decide)
          refine own_dup X122 hx hby at_161 rfl rfl ?_
          refine own_aload X122 hx hby at_162 rfl rfl rfl ?_
          refine own_iloadN X122 hx hby at_164 rfl rfl ?_
          refine own_aload X122 hx hby at_165 rfl rfl rfl ?_
          refine own_aload X122 hx hby at_167 rfl rfl rfl ?_
          refine own_special X122 hx hby hZ (a := b122) (argsL := [.null, (.int x1), .null, .null]) (rest := [(.ref b122)]) hown rfl (hw _ tw_33) (hw _ tw_34) (hw _ tw_32) (hw _ tw_35) (by decide) (rm7 l Z a0 hw b122 x1 h122 n0 .null .null .null rfl rfl rfl ge_b122 A122 F122_key F122_line F122_scalar F122_list) e122 (by rw [hml]; rfl) pd_9 rfl (by decide) (W := 1) (Nat.le_refl _) (by decide) (by decide) (by decide) at_169 rfl rfl (fun v124 T124 L124 X124 hQ124 => ?_)
          obtain ⟨rfl, N124q, K124, Fl124⟩ := hQ124
          show Ends p.tables e below _ (T124.setTop (mkF m 172 #[.val (.int x0), .val (.int x1), .val (.int x2), .val (.int x3), .val (.int (0 : Int32)), .val (.int (0 : Int32)), .val (.int (0 : Int32)), .val (.int (1 : Int32)), .val (.ref b117), .val .null, .val .null, .val .null, .val .null, .unset, .unset, .unset] [(.ref b122)]))
          refine own_astore X124 hx hby at_172 rfl #[.val (.int x0), .val (.int x1), .val (.int x2), .val (.int x3), .val (.int (0 : Int32)), .val (.int (0 : Int32)), .val (.int (0 : Int32)), .val (.int (1 : Int32)), .val (.ref b117), .val .null, .val .null, .val .null, .val .null, .val (.ref b122), .unset, .unset] rfl rfl ?_
          refine own_aload X124 hx hby at_174 rfl rfl rfl ?_
          have f126 := (A122.keep K124)
          refine own_virtual X124 hx hby hZ (Cn := "com/example/weftwork/weftwork/io/Gml$Entry") (a := b122) (argsL := []) (rest := []) hown (hw _ tw_50) (hw _ tw_51) (hw _ tw_53) (hw _ tw_52) (hw _ tw_32) (hw _ tw_54) (by decide) (rm9_n l Z a0 hw b122 T124.heap 0 Fl124) f126 rfl (by rw [hml]; rfl) pd_10 rfl (by decide) (W := 0) (Nat.le_refl _) (by decide) (by decide) (by decide) at_176 rfl rfl (fun v125 T125 L125 X125 hQ125 => ?_)
          obtain ⟨rfl, rfl, e125⟩ := hQ125
          show Ends p.tables e below _ (T125.setTop (mkF m 179 #[.val (.int x0), .val (.int x1), .val (.int x2), .val (.int x3), .val (.int (0 : Int32)), .val (.int (0 : Int32)), .val (.int (0 : Int32)), .val (.int (1 : Int32)), .val (.ref b117), .val .null, .val .null, .val .null, .val .null, .val (.ref b122), .unset, .unset] [(.int (0 : Int32))]))
          refine own_istore X125 hx hby at_179 rfl #[.val (.int x0), .val (.int x1), .val (.int x2), .val (.int x3), .val (.int (0 : Int32)), .val (.int (0 : Int32)), .val (.int (0 : Int32)), .val (.int (1 : Int32)), .val (.ref b117), .val .null, .val .null, .val .null, .val .null, .val (.ref b122), .val (.int (0 : Int32)), .unset] rfl ?_
          refine own_aload X125 hx hby at_181 rfl rfl rfl ?_
          refine own_ifnullYes X125 hx hby at_183 (pcY := 194) (by decide) ?_
          refine own_iconst X125 hx hby at_194 rfl (1 : Int32) rfl ?_
          refine own_goto X125 hx hby at_195 (pc' := 199) (by decide) ?_
          refine own_istore X125 hx hby at_199 rfl #[.val (.int x0), .val (.int x1), .val (.int x2), .val (.int x3), .val (.int (0 : Int32)), .val (.int (0 : Int32)), .val (.int (0 : Int32)), .val (.int (1 : Int32)), .val (.ref b117), .val .null, .val .null, .val .null, .val .null, .val (.ref b122), .val (.int (0 : Int32)), .val (.int (1 : Int32))] rfl ?_
          refine own_iload X125 hx hby at_201 rfl rfl ?_
          refine own_iload X125 hx hby at_203 rfl rfl ?_
          refine own_icmp_ne X125 hx hby at_205 (pcY := 235) (pcN := 208) (by decide) rfl (fun (hc127 : ¬ (0 : Int32) = (0 : Int32)) => False.elim (by exact absurd hc127 (by decide))) (fun (hc127 : (0 : Int32) = (0 : Int32)) => ?_)
          refine own_iload X125 hx hby at_208 rfl rfl ?_
          refine own_aload X125 hx hby at_210 rfl rfl rfl ?_
          refine own_virtual X125 hx hby hZ (Cn := "com/example/weftwork/weftwork/io/Gml$Entry") (a := b122) (argsL := []) (rest := [(.int (0 : Int32))]) hown (hw _ tw_55) (hw _ tw_56) (hw _ tw_58) (hw _ tw_57) (hw _ tw_32) (hw _ tw_59) (by decide) (rm10_n l Z a0 hw b122 T124.heap 0 Fl124) f126 e125 (by rw [hml]; rfl) pd_11 rfl (by decide) (W := 1) (Nat.le_refl _) (by decide) (by decide) (by decide) at_212 rfl rfl (fun v128 T128 L128 X128 hQ128 => ?_)
          obtain ⟨rfl, rfl, e128⟩ := hQ128
          show Ends p.tables e below _ (T128.setTop (mkF m 215 #[.val (.int x0), .val (.int x1), .val (.int x2), .val (.int x3), .val (.int (0 : Int32)), .val (.int (0 : Int32)), .val (.int (0 : Int32)), .val (.int (1 : Int32)), .val (.ref b117), .val .null, .val .null, .val .null, .val .null, .val (.ref b122), .val (.int (0 : Int32)), .val (.int (1 : Int32))] [.null, (.int (0 : Int32))]))
          refine own_ifnullYes X128 hx hby at_215 (pcY := 222) (by decide) ?_
          refine own_iconst X128 hx hby at_222 rfl (0 : Int32) rfl ?_
          refine own_icmp_ne X128 hx hby at_223 (pcY := 235) (pcN := 226) (by decide) rfl (fun (hc129 : ¬ (0 : Int32) = (0 : Int32)) => False.elim (by exact absurd hc129 (by decide))) (fun (hc129 : (0 : Int32) = (0 : Int32)) => ?_)
          refine own_iload X128 hx hby at_226 rfl rfl ?_
          refine own_if_eq X128 hx hby at_228 (pcY := 235) (pcN := 231) (by decide) rfl (fun (hc130 : (1 : Int32) = (0 : Int32)) => False.elim (by exact absurd hc130 (by decide))) (fun (hc130 : ¬ (1 : Int32) = (0 : Int32)) => ?_)
          refine own_iconst X128 hx hby at_231 rfl (1 : Int32) rfl ?_
          refine own_goto X128 hx hby at_232 (pc' := 236) (by decide) ?_
          refine own_ret X128 hx hby hret hlk at_236 (.int (1 : Int32)) rfl (Or.inl ⟨rfl, by simp, _, rfl⟩) (by decide) (by decide) ?_
          exact ⟨rfl, (Fr.app (Fr.app (Fr.app N118 N124q) (Fr.nil _)) (Fr.nil _))⟩
      · -- pc 29: f
        refine own_iconst X0 hx hby at_32 rfl (1 : Int32) rfl ?_
        refine own_goto X0 hx hby at_33 (pc' := 37) (by decide) ?_
        refine own_istore X0 hx hby at_37 rfl #[.val (.int x0), .val (.int x1), .val (.int x2), .val (.int x3), .val (.int (0 : Int32)), .val (.int (0 : Int32)), .val (.int (1 : Int32)), .unset, .unset, .unset, .unset, .unset, .unset, .unset, .unset, .unset] rfl ?_
        refine own_iloadN X0 hx hby at_39 rfl rfl ?_
        refine own_bipush X0 hx hby at_40 rfl (8 : Int32) rfl ?_
        refine own_iand X0 hx hby at_42 rfl ?_
        refine own_if_eq X0 hx hby at_43 (pcY := 50) (pcN := 46) (by decide) rfl (fun (hc131 : (x0 &&& (8 : Int32)) = (0 : Int32)) => ?_) (fun (hc131 : ¬ (x0 &&& (8 : Int32)) = (0 : Int32)) => ?_)
        · -- pc 43: t
          refine own_iconst X0 hx hby at_50 rfl (0 : Int32) rfl ?_
          refine own_istore X0 hx hby at_51 rfl #[.val (.int x0), .val (.int x1), .val (.int x2), .val (.int x3), .val (.int (0 : Int32)), .val (.int (0 : Int32)), .val (.int (1 : Int32)), .val (.int (0 : Int32)), .unset, .unset, .unset, .unset, .unset, .unset, .unset, .unset] rfl ?_
          refine own_iconst X0 hx hby at_53 rfl (1 : Int32) rfl ?_
          refine own_newarray X0 hx hby hZ (aty := .char) (hw _ tw_0) e0 (by decide) 1 (by decide) (by decide) (by decide) (by decide) .char rfl [(.int (0 : Int32))] rfl at_54 rfl (fun T132 h132 b132 k132 X132 e132 g132 E132 V132 => ?_)
          have ge_b132 : n0 ≤ b132 := own_ge O g132
          refine own_astore X132 hx hby at_56 rfl #[.val (.int x0), .val (.int x1), .val (.int x2), .val (.int x3), .val (.int (0 : Int32)), .val (.int (0 : Int32)), .val (.int (1 : Int32)), .val (.int (0 : Int32)), .val (.ref b132), .unset, .unset, .unset, .unset, .unset, .unset, .unset] rfl rfl ?_
          refine own_aload X132 hx hby at_58 rfl rfl rfl ?_
          refine own_iconst X132 hx hby at_60 rfl (0 : Int32) rfl ?_
          refine own_iloadN X132 hx hby at_61 rfl rfl ?_
          refine own_sipush X132 hx hby at_62 rfl (255 : Int32) rfl ?_
          refine own_iand X132 hx hby at_65 rfl ?_
          refine own_i2c X132 hx hby at_66 rfl ?_
          refine own_castore X132 hx hby hZ (x2 &&& (255 : Int32)) (own_charv x2) e132 V132 (by decide) 0 rfl (show 0 < 1 by decide) [(.int (x2 &&& (255 : Int32)))] rfl (own_charf x2) N0 ge_b132 at_67 rfl (fun T133 h133 L133 X133 e133 W133 V133 N133 => ?_)
          refine own_iload X133 hx hby at_68 rfl rfl ?_
          refine own_if_eq X133 hx hby at_70 (pcY := 77) (pcN := 73) (by decide) rfl (fun (hc134 : (0 : Int32) = (0 : Int32)) => ?_) (fun (hc134 : ¬ (0 : Int32) = (0 : Int32)) => False.elim (by exact absurd hc134 (by decide)))
          have f136 := ((O.ext E132).wr W133 ge_b132)
          refine own_new X133 hx hby hZ hown (hw _ tw_1) (hw _ tw_2) (hw _ tw_3) e133 (by decide) (by decide) at_77 rfl (fun T135 h135 b135 X135 e135 g135 E135 A135 D135 => ?_)
          have ge_b135 : n0 ≤ b135 := own_ge f136 g135
          have ne_b132_b135 : b132 ≠ b135 := own_lt V133.lt g135
          have F135_coder : Fld Z h135 b135 "java/lang/String" "coder" "B" (.int (0 : Int32)) := D135 (Or.inr (hw _ tw_27)) (ty := .byte) (by decide)
          have F135_value : Fld Z h135 b135 "java/lang/String" "value" "[B" .null := D135 (Or.inr (hw _ tw_29)) (ty := (.array .byte)) (by decide)
          refine own_dup X135 hx hby at_80 rfl rfl ?_
          refine own_aload X135 hx hby at_81 rfl rfl rfl ?_
          have f138 := (f136.ext E135)
          have f139 := (V133.ext E135)
          refine own_specialB X135 hx hby hZ (kc := 1) (ks := 1) (a := b135) (argsL := [(.ref b132)]) (rest := [(.ref b135)]) hown rfl (hw _ tw_4) (hw _ tw_5) (hw _ tw_6) (by decide) (StrChars.Road.backV (W := 1) hZ (own_hws hw) (kI := 4) (hw _ tw_2) (cs := [x2 &&& (255 : Int32)]) (bs := [(x2 &&& (255 : Int32)).toInt8.toInt32]) (n := 1) (n0 := n0) ge_b135 (own_ge' f138) A135 F135_value F135_coder f139 (G.1.ext f138.2) G.2.1 rfl rfl (by decide) (by decide) (own_chars x2) rfl (by decide) (by decide)) e135 (by rw [hml]; rfl) pd_8 rfl (Nat.le_refl _) (by decide) (by decide) at_83 rfl rfl (fun v137 T137 L137 X137 hQ137 => ?_)
          obtain ⟨rfl, N137q, K137, A137, -, -, -, -, -, -, -, -⟩ := hQ137
          show Ends p.tables e below _ (T137.setTop (mkF m 86 #[.val (.int x0), .val (.int x1), .val (.int x2), .val (.int x3), .val (.int (0 : Int32)), .val (.int (0 : Int32)), .val (.int (1 : Int32)), .val (.int (0 : Int32)), .val (.ref b132), .unset, .unset, .unset, .unset, .unset, .unset, .unset] [(.ref b135)]))
          refine own_astore X137 hx hby at_86 rfl #[.val (.int x0), .val (.int x1), .val (.int x2), .val (.int x3), .val (.int (0 : Int32)), .val (.int (0 : Int32)), .val (.int (1 : Int32)), .val (.int (0 : Int32)), .val (.ref b132), .val (.ref b135), .unset, .unset, .unset, .unset, .unset, .unset] rfl rfl ?_
          refine own_iload X137 hx hby at_88 rfl rfl ?_
          refine own_if_eq X137 hx hby at_90 (pcY := 105) (pcN := 93) (by decide) rfl (fun (hc140 : (0 : Int32) = (0 : Int32)) => ?_) (fun (hc140 : ¬ (0 : Int32) = (0 : Int32)) => False.elim (by exact absurd hc140 (by decide)))
          refine own_aconstNull X137 hx hby at_105 rfl ?_
          refine own_astore X137 hx hby at_106 rfl #[.val (.int x0), .val (.int x1), .val (.int x2), .val (.int x3), .val (.int (0 : Int32)), .val (.int (0 : Int32)), .val (.int (1 : Int32)), .val (.int (0 : Int32)), .val (.ref b132), .val (.ref b135), .val .null, .unset, .unset, .unset, .unset, .unset] rfl rfl ?_
          refine own_aconstNull X137 hx hby at_108 rfl ?_
          refine own_astore X137 hx hby at_109 rfl #[.val (.int x0), .val (.int x1), .val (.int x2), .val (.int x3), .val (.int (0 : Int32)), .val (.int (0 : Int32)), .val (.int (1 : Int32)), .val (.int (0 : Int32)), .val (.ref b132), .val (.ref b135), .val .null, .val .null, .unset, .unset, .unset, .unset] rfl rfl ?_
          refine own_aconstNull X137 hx hby at_111 rfl ?_
          refine own_astore X137 hx hby at_112 rfl #[.val (.int x0), .val (.int x1), .val (.int x2), .val (.int x3), .val (.int (0 : Int32)), .val (.int (0 : Int32)), .val (.int (1 : Int32)), .val (.int (0 : Int32)), .val (.ref b132), .val (.ref b135), .val .null, .val .null, .val .null, .unset, .unset, .unset] rfl rfl ?_
          refine own_iload X137 hx hby at_114 rfl rfl ?_
          refine own_if_eq X137 hx hby at_116 (pcY := 158) (pcN := 119) (by decide) rfl (fun (hc141 : (0 : Int32) = (0 : Int32)) => ?_) (fun (hc141 : ¬ (0 : Int32) = (0 : Int32)) => False.elim (by exact absurd hc141 (by decide)))
          have f143 := (f138.keep K137 (allS ge_b135 all0))
          refine own_new X137 hx hby hZ hown (hw _ tw_30) (hw _ tw_31) (hw _ tw_32) rfl (by decide) (by decide) at_158 rfl (fun T142 h142 b142 X142 e142 g142 E142 A142 D142 => ?_)
          have ge_b142 : n0 ≤ b142 := own_ge f143 g142
          have f144 := (f139.keep K137 (ninS ne_b132_b135 nin0))
          have ne_b132_b142 : b132 ≠ b142 := own_lt f144.lt g142
          have f145 := (A135.keep K137)
          have ne_b135_b142 : b135 ≠ b142 := own_lt f145.lt g142
          have F142_key : Fld Z h142 b142 "com/example/weftwork/weftwork/io/Gml$Entry" "key" "Ljava/lang/String;" .null := D142 (Or.inr (hw _ tw_43)) (ty := (.object "java/lang/String")) (by decide)
          have F142_line : Fld Z h142 b142 "com/example/weftwork/weftwork/io/Gml$Entry" "line" "I" (.int (0 : Int32)) := D142 (Or.inr (hw _ tw_45)) (ty := .int) (by decide)
          have F142_scalar : Fld Z h142 b142 "com/example/weftwork/weftwork/io/Gml$Entry" "scalar" "Ljava/lang/String;" .null := D142 (Or.inr (hw _ tw_47)) (ty := (.object "java/lang/String")) (by decide)
          have F142_list : Fld Z h142 b142 "com/example/weftwork/weftwork/io/Gml$Entry" "list" "Ljava/util/List;" .null := D142 (Or.inr (hw _ tw_49)) (ty := (.object "java/util/List")) (by decide)
          refine own_dup X142 hx hby at_161 rfl rfl ?_
          refine own_aload X142 hx hby at_162 rfl rfl rfl ?_
          refine own_iloadN X142 hx hby at_164 rfl rfl ?_
          refine own_aload X142 hx hby at_165 rfl rfl rfl ?_
          refine own_aload X142 hx hby at_167 rfl rfl rfl ?_
          refine own_special X142 hx hby hZ (a := b142) (argsL := [(.ref b135), (.int x1), .null, .null]) (rest := [(.ref b142)]) hown rfl (hw _ tw_33) (hw _ tw_34) (hw _ tw_32) (hw _ tw_35) (by decide) (rm7 l Z a0 hw b142 x1 h142 n0 (.ref b135) .null .null rfl rfl rfl ge_b142 A142 F142_key F142_line F142_scalar F142_list) e142 (by rw [hml]; rfl) pd_9 rfl (by decide) (W := 1) (Nat.le_refl _) (by decide) (by decide) (by decide) at_169 rfl rfl (fun v146 T146 L146 X146 hQ146 => ?_)
          obtain ⟨rfl, N146q, K146, Fl146⟩ := hQ146
          show Ends p.tables e below _ (T146.setTop (mkF m 172 #[.val (.int x0), .val (.int x1), .val (.int x2), .val (.int x3), .val (.int (0 : Int32)), .val (.int (0 : Int32)), .val (.int (1 : Int32)), .val (.int (0 : Int32)), .val (.ref b132), .val (.ref b135), .val .null, .val .null, .val .null, .unset, .unset, .unset] [(.ref b142)]))
          refine own_astore X146 hx hby at_172 rfl #[.val (.int x0), .val (.int x1), .val (.int x2), .val (.int x3), .val (.int (0 : Int32)), .val (.int (0 : Int32)), .val (.int (1 : Int32)), .val (.int (0 : Int32)), .val (.ref b132), .val (.ref b135), .val .null, .val .null, .val .null, .val (.ref b142), .unset, .unset] rfl rfl ?_
          refine own_aload X146 hx hby at_174 rfl rfl rfl ?_
          have f148 := (A142.keep K146)
          refine own_virtual X146 hx hby hZ (Cn := "com/example/weftwork/weftwork/io/Gml$Entry") (a := b142) (argsL := []) (rest := []) hown (hw _ tw_50) (hw _ tw_51) (hw _ tw_53) (hw _ tw_52) (hw _ tw_32) (hw _ tw_54) (by decide) (rm9_n l Z a0 hw b142 T146.heap 0 Fl146) f148 rfl (by rw [hml]; rfl) pd_10 rfl (by decide) (W := 0) (Nat.le_refl _) (by decide) (by decide) (by decide) at_176 rfl rfl (fun v147 T147 L147 X147 hQ147 => ?_)
          obtain ⟨rfl, rfl, e147⟩ := hQ147
          show Ends p.tables e below _ (T147.setTop (mkF m 179 #[.val (.int x0), .val (.int x1), .val (.int x2), .val (.int x3), .val (.int (0 : Int32)), .val (.int (0 : Int32)), .val (.int (1 : Int32)), .val (.int (0 : Int32)), .val (.ref b132), .val (.ref b135), .val .null, .val .null, .val .null, .val (.ref b142), .unset, .unset] [(.int (0 : Int32))]))
          refine own_istore X147 hx hby at_179 rfl #[.val (.int x0), .val (.int x1), .val (.int x2), .val (.int x3), .val (.int (0 : Int32)), .val (.int (0 : Int32)), .val (.int (1 : Int32)), .val (.int (0 : Int32)), .val (.ref b132), .val (.ref b135), .val .null, .val .null, .val .null, .val (.ref b142), .val (.int (0 : Int32)), .unset] rfl ?_
          refine own_aload X147 hx hby at_181 rfl rfl rfl ?_
          refine own_ifnullYes X147 hx hby at_183 (pcY := 194) (by decide) ?_
          refine own_iconst X147 hx hby at_194 rfl (1 : Int32) rfl ?_
          refine own_goto X147 hx hby at_195 (pc' := 199) (by decide) ?_
          refine own_istore X147 hx hby at_199 rfl #[.val (.int x0), .val (.int x1), .val (.int x2), .val (.int x3), .val (.int (0 : Int32)), .val (.int (0 : Int32)), .val (.int (1 : Int32)), .val (.int (0 : Int32)), .val (.ref b132), .val (.ref b135), .val .null, .val .null, .val .null, .val (.ref b142), .val (.int (0 : Int32)), .val (.int (1 : Int32))] rfl ?_
          refine own_iload X147 hx hby at_201 rfl rfl ?_
          refine own_iload X147 hx hby at_203 rfl rfl ?_
          refine own_icmp_ne X147 hx hby at_205 (pcY := 235) (pcN := 208) (by decide) rfl (fun (hc149 : ¬ (0 : Int32) = (0 : Int32)) => False.elim (by exact absurd hc149 (by decide))) (fun (hc149 : (0 : Int32) = (0 : Int32)) => ?_)
          refine own_iload X147 hx hby at_208 rfl rfl ?_
          refine own_aload X147 hx hby at_210 rfl rfl rfl ?_
          refine own_virtual X147 hx hby hZ (Cn := "com/example/weftwork/weftwork/io/Gml$Entry") (a := b142) (argsL := []) (rest := [(.int (0 : Int32))]) hown (hw _ tw_55) (hw _ tw_56) (hw _ tw_58) (hw _ tw_57) (hw _ tw_32) (hw _ tw_59) (by decide) (rm10_n l Z a0 hw b142 T146.heap 0 Fl146) f148 e147 (by rw [hml]; rfl) pd_11 rfl (by decide) (W := 1) (Nat.le_refl _) (by decide) (by decide) (by decide) at_212 rfl rfl (fun v150 T150 L150 X150 hQ150 => ?_)
          obtain ⟨rfl, rfl, e150⟩ := hQ150
          show Ends p.tables e below _ (T150.setTop (mkF m 215 #[.val (.int x0), .val (.int x1), .val (.int x2), .val (.int x3), .val (.int (0 : Int32)), .val (.int (0 : Int32)), .val (.int (1 : Int32)), .val (.int (0 : Int32)), .val (.ref b132), .val (.ref b135), .val .null, .val .null, .val .null, .val (.ref b142), .val (.int (0 : Int32)), .val (.int (1 : Int32))] [.null, (.int (0 : Int32))]))
          refine own_ifnullYes X150 hx hby at_215 (pcY := 222) (by decide) ?_
          refine own_iconst X150 hx hby at_222 rfl (0 : Int32) rfl ?_
          refine own_icmp_ne X150 hx hby at_223 (pcY := 235) (pcN := 226) (by decide) rfl (fun (hc151 : ¬ (0 : Int32) = (0 : Int32)) => False.elim (by exact absurd hc151 (by decide))) (fun (hc151 : (0 : Int32) = (0 : Int32)) => ?_)
          refine own_iload X150 hx hby at_226 rfl rfl ?_
          refine own_if_eq X150 hx hby at_228 (pcY := 235) (pcN := 231) (by decide) rfl (fun (hc152 : (1 : Int32) = (0 : Int32)) => False.elim (by exact absurd hc152 (by decide))) (fun (hc152 : ¬ (1 : Int32) = (0 : Int32)) => ?_)
          refine own_iconst X150 hx hby at_231 rfl (1 : Int32) rfl ?_
          refine own_goto X150 hx hby at_232 (pc' := 236) (by decide) ?_
          refine own_ret X150 hx hby hret hlk at_236 (.int (1 : Int32)) rfl (Or.inl ⟨rfl, by simp, _, rfl⟩) (by decide) (by decide) ?_
          exact ⟨rfl, (Fr.app (Fr.app (Fr.app (Fr.app N133 N137q) N146q) (Fr.nil _)) (Fr.nil _))⟩
        · -- pc 43: f
          refine own_iconst X0 hx hby at_46 rfl (1 : Int32) rfl ?_
          refine own_goto X0 hx hby at_47 (pc' := 51) (by decide) ?_
          refine own_istore X0 hx hby at_51 rfl #[.val (.int x0), .val (.int x1), .val (.int x2), .val (.int x3), .val (.int (0 : Int32)), .val (.int (0 : Int32)), .val (.int (1 : Int32)), .val (.int (1 : Int32)), .unset, .unset, .unset, .unset, .unset, .unset, .unset, .unset] rfl ?_
          refine own_iconst X0 hx hby at_53 rfl (1 : Int32) rfl ?_
          refine own_newarray X0 hx hby hZ (aty := .char) (hw _ tw_0) e0 (by decide) 1 (by decide) (by decide) (by decide) (by decide) .char rfl [(.int (0 : Int32))] rfl at_54 rfl (fun T153 h153 b153 k153 X153 e153 g153 E153 V153 => ?_)
          have ge_b153 : n0 ≤ b153 := own_ge O g153
          refine own_astore X153 hx hby at_56 rfl #[.val (.int x0), .val (.int x1), .val (.int x2), .val (.int x3), .val (.int (0 : Int32)), .val (.int (0 : Int32)), .val (.int (1 : Int32)), .val (.int (1 : Int32)), .val (.ref b153), .unset, .unset, .unset, .unset, .unset, .unset, .unset] rfl rfl ?_
          refine own_aload X153 hx hby at_58 rfl rfl rfl ?_
          refine own_iconst X153 hx hby at_60 rfl (0 : Int32) rfl ?_
          refine own_iloadN X153 hx hby at_61 rfl rfl ?_
          refine own_sipush X153 hx hby at_62 rfl (255 : Int32) rfl ?_
          refine own_iand X153 hx hby at_65 rfl ?_
          refine own_i2c X153 hx hby at_66 rfl ?_
          refine own_castore X153 hx hby hZ (x2 &&& (255 : Int32)) (own_charv x2) e153 V153 (by decide) 0 rfl (show 0 < 1 by decide) [(.int (x2 &&& (255 : Int32)))] rfl (own_charf x2) N0 ge_b153 at_67 rfl (fun T154 h154 L154 X154 e154 W154 V154 N154 => ?_)
          refine own_iload X154 hx hby at_68 rfl rfl ?_
          refine own_if_eq X154 hx hby at_70 (pcY := 77) (pcN := 73) (by decide) rfl (fun (hc155 : (1 : Int32) = (0 : Int32)) => False.elim (by exact absurd hc155 (by decide))) (fun (hc155 : ¬ (1 : Int32) = (0 : Int32)) => ?_)
          refine own_aconstNull X154 hx hby at_73 rfl ?_
          refine own_goto X154 hx hby at_74 (pc' := 86) (by decide) ?_
          refine own_astore X154 hx hby at_86 rfl #[.val (.int x0), .val (.int x1), .val (.int x2), .val (.int x3), .val (.int (0 : Int32)), .val (.int (0 : Int32)), .val (.int (1 : Int32)), .val (.int (1 : Int32)), .val (.ref b153), .val .null, .unset, .unset, .unset, .unset, .unset, .unset] rfl rfl ?_
          refine own_iload X154 hx hby at_88 rfl rfl ?_
          refine own_if_eq X154 hx hby at_90 (pcY := 105) (pcN := 93) (by decide) rfl (fun (hc156 : (0 : Int32) = (0 : Int32)) => ?_) (fun (hc156 : ¬ (0 : Int32) = (0 : Int32)) => False.elim (by exact absurd hc156 (by decide)))
          refine own_aconstNull X154 hx hby at_105 rfl ?_
          refine own_astore X154 hx hby at_106 rfl #[.val (.int x0), .val (.int x1), .val (.int x2), .val (.int x3), .val (.int (0 : Int32)), .val (.int (0 : Int32)), .val (.int (1 : Int32)), .val (.int (1 : Int32)), .val (.ref b153), .val .null, .val .null, .unset, .unset, .unset, .unset, .unset] rfl rfl ?_
          refine own_aconstNull X154 hx hby at_108 rfl ?_
          refine own_astore X154 hx hby at_109 rfl #[.val (.int x0), .val (.int x1), .val (.int x2), .val (.int x3), .val (.int (0 : Int32)), .val (.int (0 : Int32)), .val (.int (1 : Int32)), .val (.int (1 : Int32)), .val (.ref b153), .val .null, .val .null, .val .null, .unset, .unset, .unset, .unset] rfl rfl ?_
          refine own_aconstNull X154 hx hby at_111 rfl ?_
          refine own_astore X154 hx hby at_112 rfl #[.val (.int x0), .val (.int x1), .val (.int x2), .val (.int x3), .val (.int (0 : Int32)), .val (.int (0 : Int32)), .val (.int (1 : Int32)), .val (.int (1 : Int32)), .val (.ref b153), .val .null, .val .null, .val .null, .val .null, .unset, .unset, .unset] rfl rfl ?_
          refine own_iload X154 hx hby at_114 rfl rfl ?_
          refine own_if_eq X154 hx hby at_116 (pcY := 158) (pcN := 119) (by decide) rfl (fun (hc157 : (0 : Int32) = (0 : Int32)) => ?_) (fun (hc157 : ¬ (0 : Int32) = (0 : Int32)) => False.elim (by exact absurd hc157 (by decide)))
          have f159 := ((O.ext E153).wr W154 ge_b153)
          refine own_new X154 hx hby hZ hown (hw _ tw_30) (hw _ tw_31) (hw _ tw_32) e154 (by decide) (by decide) at_158 rfl (fun T158 h158 b158 X158 e158 g158 E158 A158 D158 => ?_)
          have ge_b158 : n0 ≤ b158 := own_ge f159 g158
          have ne_b153_b158 : b153 ≠ b158 := own_lt V154.lt g158
          have F158_key : Fld Z h158 b158 "com/example/weftwork/weftwork/io/Gml$Entry" "key" "Ljava/lang/String;" .null := D158 (Or.inr (hw _ tw_43)) (ty := (.object "java/lang/String")) (by decide)
          have F158_line : Fld Z h158 b158 "com/example/weftwork/weftwork/io/Gml$Entry" "line" "I" (.int (0 : Int32)) := D158 (Or.inr (hw _ tw_45)) (ty := .int) (by decide)
          have F158_scalar : Fld Z h158 b158 "com/example/weftwork/weftwork/io/Gml$Entry" "scalar" "Ljava/lang/String;" .null := D158 (Or.inr (hw _ tw_47)) (ty := (.object "java/lang/String")) (by decide)
          have F158_list : Fld Z h158 b158 "com/example/weftwork/weftwork/io/Gml$Entry" "list" "Ljava/util/List;" .null := D158 (Or.inr (hw _ tw_49)) (ty := (.object "java/util/List")) (by decide)
          refine own_dup X158 hx hby at_161 rfl rfl ?_
          refine own_aload X158 hx hby at_162 rfl rfl rfl ?_
          refine own_iloadN X158 hx hby at_164 rfl rfl ?_
          refine own_aload X158 hx hby at_165 rfl rfl rfl ?_
          refine own_aload X158 hx hby at_167 rfl rfl rfl ?_
          refine own_special X158 hx hby hZ (a := b158) (argsL := [.null, (.int x1), .null, .null]) (rest := [(.ref b158)]) hown rfl (hw _ tw_33) (hw _ tw_34) (hw _ tw_32) (hw _ tw_35) (by decide) (rm7 l Z a0 hw b158 x1 h158 n0 .null .null .null rfl rfl rfl ge_b158 A158 F158_key F158_line F158_scalar F158_list) e158 (by rw [hml]; rfl) pd_9 rfl (by decide) (W := 1) (Nat.le_refl _) (by decide) (by decide) (by decide) at_169 rfl rfl (fun v160 T160 L160 X160 hQ160 => ?_)
          obtain ⟨rfl, N160q, K160, Fl160⟩ := hQ160
          show Ends p.tables e below _ (T160.setTop (mkF m 172 #[.val (.int x0), .val (.int x1), .val (.int x2), .val (.int x3), .val (.int (0 : Int32)), .val (.int (0 : Int32)), .val (.int (1 : Int32)), .val (.int (1 : Int32)), .val (.ref b153), .val .null, .val .null, .val .null, .val .null, .unset, .unset, .unset] [(.ref b158)]))
          refine own_astore X160 hx hby at_172 rfl #[.val (.int x0), .val (.int x1), .val (.int x2), .val (.int x3), .val (.int (0 : Int32)), .val (.int (0 : Int32)), .val (.int (1 : Int32)), .val (.int (1 : Int32)), .val (.ref b153), .val .null, .val .null, .val .null, .val .null, .val (.ref b158), .unset, .unset] rfl rfl ?_
          refine own_aload X160 hx hby at_174 rfl rfl rfl ?_
          have f162 := (A158.keep K160)
          refine own_virtual X160 hx hby hZ (Cn := "com/example/weftwork/weftwork/io/Gml$Entry") (a := b158) (argsL := []) (rest := []) hown (hw _ tw_50) (hw _ tw_51) (hw _ tw_53) (hw _ tw_52) (hw _ tw_32) (hw _ tw_54) (by decide) (rm9_n l Z a0 hw b158 T160.heap 0 Fl160) f162 rfl (by rw [hml]; rfl) pd_10 rfl (by decide) (W := 0) (Nat.le_refl _) (by decide) (by decide) (by decide) at_176 rfl rfl (fun v161 T161 L161 X161 hQ161 => ?_)
          obtain ⟨rfl, rfl, e161⟩ := hQ161
          show Ends p.tables e below _ (T161.setTop (mkF m 179 #[.val (.int x0), .val (.int x1), .val (.int x2), .val (.int x3), .val (.int (0 : Int32)), .val (.int (0 : Int32)), .val (.int (1 : Int32)), .val (.int (1 : Int32)), .val (.ref b153), .val .null, .val .null, .val .null, .val .null, .val (.ref b158), .unset, .unset] [(.int (0 : Int32))]))
          refine own_istore X161 hx hby at_179 rfl #[.val (.int x0), .val (.int x1), .val (.int x2), .val (.int x3), .val (.int (0 : Int32)), .val (.int (0 : Int32)), .val (.int (1 : Int32)), .val (.int (1 : Int32)), .val (.ref b153), .val .null, .val .null, .val .null, .val .null, .val (.ref b158), .val (.int (0 : Int32)), .unset] rfl ?_
          refine own_aload X161 hx hby at_181 rfl rfl rfl ?_
          refine own_ifnullYes X161 hx hby at_183 (pcY := 194) (by decide) ?_
          refine own_iconst X161 hx hby at_194 rfl (1 : Int32) rfl ?_
          refine own_goto X161 hx hby at_195 (pc' := 199) (by decide) ?_
          refine own_istore X161 hx hby at_199 rfl #[.val (.int x0), .val (.int x1), .val (.int x2), .val (.int x3), .val (.int (0 : Int32)), .val (.int (0 : Int32)), .val (.int (1 : Int32)), .val (.int (1 : Int32)), .val (.ref b153), .val .null, .val .null, .val .null, .val .null, .val (.ref b158), .val (.int (0 : Int32)), .val (.int (1 : Int32))] rfl ?_
          refine own_iload X161 hx hby at_201 rfl rfl ?_
          refine own_iload X161 hx hby at_203 rfl rfl ?_
          refine own_icmp_ne X161 hx hby at_205 (pcY := 235) (pcN := 208) (by decide) rfl (fun (hc163 : ¬ (0 : Int32) = (0 : Int32)) => False.elim (by exact absurd hc163 (by decide))) (fun (hc163 : (0 : Int32) = (0 : Int32)) => ?_)
          refine own_iload X161 hx hby at_208 rfl rfl ?_
          refine own_aload X161 hx hby at_210 rfl rfl rfl ?_
          refine own_virtual X161 hx hby hZ (Cn := "com/example/weftwork/weftwork/io/Gml$Entry") (a := b158) (argsL := []) (rest := [(.int (0 : Int32))]) hown (hw _ tw_55) (hw _ tw_56) (hw _ tw_58) (hw _ tw_57) (hw _ tw_32) (hw _ tw_59) (by decide) (rm10_n l Z a0 hw b158 T160.heap 0 Fl160) f162 e161 (by rw [hml]; rfl) pd_11 rfl (by decide) (W := 1) (Nat.le_refl _) (by decide) (by decide) (by decide) at_212 rfl rfl (fun v164 T164 L164 X164 hQ164 => ?_)
          obtain ⟨rfl, rfl, e164⟩ := hQ164
          show Ends p.tables e below _ (T164.setTop (mkF m 215 #[.val (.int x0), .val (.int x1), .val (.int x2), .val (.int x3), .val (.int (0 : Int32)), .val (.int (0 : Int32)), .val (.int (1 : Int32)), .val (.int (1 : Int32)), .val (.ref b153), .val .null, .val .null, .val .null, .val .null, .val (.ref b158), .val (.int (0 : Int32)), .val (.int (1 : Int32))] [.null, (.int (0 : Int32))]))
          refine own_ifnullYes X164 hx hby at_215 (pcY := 222) (by decide) ?_
          refine own_iconst X164 hx hby at_222 rfl (0 : Int32) rfl ?_
          refine own_icmp_ne X164 hx hby at_223 (pcY := 235) (pcN := 226) (by decide) rfl (fun (hc165 : ¬ (0 : Int32) = (0 : Int32)) => False.elim (by exact absurd hc165 (by decide))) (fun (hc165 : (0 : Int32) = (0 : Int32)) => ?_)
          refine own_iload X164 hx hby at_226 rfl rfl ?_
          refine own_if_eq X164 hx hby at_228 (pcY := 235) (pcN := 231) (by decide) rfl (fun (hc166 : (1 : Int32) = (0 : Int32)) => False.elim (by exact absurd hc166 (by decide))) (fun (hc166 : ¬ (1 : Int32) = (0 : Int32)) => ?_)
          refine own_iconst X164 hx hby at_231 rfl (1 : Int32) rfl ?_
          refine own_goto X164 hx hby at_232 (pc' := 236) (by decide) ?_
          refine own_ret X164 hx hby hret hlk at_236 (.int (1 : Int32)) rfl (Or.inl ⟨rfl, by simp, _, rfl⟩) (by decide) (by decide) ?_
          exact ⟨rfl, (Fr.app (Fr.app (Fr.app N154 N160q) (Fr.nil _)) (Fr.nil _))⟩
    · -- pc 16: f
      refine own_iconst X0 hx hby at_19 rfl (1 : Int32) rfl ?_
      refine own_goto X0 hx hby at_20 (pc' := 24) (by decide) ?_
      refine own_istore X0 hx hby at_24 rfl #[.val (.int x0), .val (.int x1), .val (.int x2), .val (.int x3), .val (.int (0 : Int32)), .val (.int (1 : Int32)), .unset, .unset, .unset, .unset, .unset, .unset, .unset, .unset, .unset, .unset] rfl ?_
      refine own_iloadN X0 hx hby at_26 rfl rfl ?_
      refine own_iconst X0 hx hby at_27 rfl (4 : Int32) rfl ?_
      refine own_iand X0 hx hby at_28 rfl ?_
      refine own_if_eq X0 hx hby at_29 (pcY := 36) (pcN := 32) (by decide) rfl (fun (hc167 : (x0 &&& (4 : Int32)) = (0 : Int32)) => ?_) (fun (hc167 : ¬ (x0 &&& (4 : Int32)) = (0 : Int32)) => ?_)
      · -- pc 29: t
        refine own_iconst X0 hx hby at_36 rfl (0 : Int32) rfl ?_
        refine own_istore X0 hx hby at_37 rfl #[.val (.int x0), .val (.int x1), .val (.int x2), .val (.int x3), .val (.int (0 : Int32)), .val (.int (1 : Int32)), .val (.int (0 : Int32)), .unset, .unset, .unset, .unset, .unset, .unset, .unset, .unset, .unset] rfl ?_
        refine own_iloadN X0 hx hby at_39 rfl rfl ?_
        refine own_bipush X0 hx hby at_40 rfl (8 : Int32) rfl ?_
        refine own_iand X0 hx hby at_42 rfl ?_
        refine own_if_eq X0 hx hby at_43 (pcY := 50) (pcN := 46) (by decide) rfl (fun (hc168 : (x0 &&& (8 : Int32)) = (0 : Int32)) => ?_) (fun (hc168 : ¬ (x0 &&& (8 : Int32)) = (0 : Int32)) => ?_)
        · -- pc 43: t
          refine own_iconst X0 hx hby at_50 rfl (0 : Int32) rfl ?_
          refine own_istore X0 hx hby at_51 rfl #[.val (.int x0), .val (.int x1), .val (.int x2), .val (.int x3), .val (.int (0 : Int32)), .val (.int (1 : Int32)), .val (.int (0 : Int32)), .val (.int (0 : Int32)), .unset, .unset, .unset, .unset, .unset, .unset, .unset, .unset] rfl ?_
          refine own_iconst X0 hx hby at_53 rfl (1 : Int32) rfl ?_
          refine own_newarray X0 hx hby hZ (aty := .char) (hw _ tw_0) e0 (by decide) 1 (by decide) (by decide) (by decide) (by decide) .char rfl [(.int (0 : Int32))] rfl at_54 rfl (fun T169 h169 b169 k169 X169 e169 g169 E169 V169 => ?_)
          have ge_b169 : n0 ≤ b169 := own_ge O g169
          refine own_astore X169 hx hby at_56 rfl #[.val (.int x0), .val (.int x1), .val (.int x2), .val (.int x3), .val (.int (0 : Int32)), .val (.int (1 : Int32)), .val (.int (0 : Int32)), .val (.int (0 : Int32)), .val (.ref b169), .unset, .unset, .unset, .unset, .unset, .unset, .unset] rfl rfl ?_
          refine own_aload X169 hx hby at_58 rfl rfl rfl ?_
          refine own_iconst X169 hx hby at_60 rfl (0 : Int32) rfl ?_
          refine own_iloadN X169 hx hby at_61 rfl rfl ?_
          refine own_sipush X169 hx hby at_62 rfl (255 : Int32) rfl ?_
          refine own_iand X169 hx hby at_65 rfl ?_
          refine own_i2c X169 hx hby at_66 rfl ?_
          refine own_castore X169 hx hby hZ (x2 &&& (255 : Int32)) (own_charv x2) e169 V169 (by decide) 0 rfl (show 0 < 1 by decide) [(.int (x2 &&& (255 : Int32)))] rfl (own_charf x2) N0 ge_b169 at_67 rfl (fun T170 h170 L170 X170 e170 W170 V170 N170 => ?_)
          refine own_iload X170 hx hby at_68 rfl rfl ?_
          refine own_if_eq X170 hx hby at_70 (pcY := 77) (pcN := 73) (by decide) rfl (fun (hc171 : (0 : Int32) = (0 : Int32)) => ?_) (fun (hc171 : ¬ (0 : Int32) = (0 : Int32)) => False.elim (by exact absurd hc171 (by decide)))
          have f173 := ((O.ext E169).wr W170 ge_b169)
          refine own_new X170 hx hby hZ hown (hw _ tw_1) (hw _ tw_2) (hw _ tw_3) e170 (by decide) (by decide) at_77 rfl (fun T172 h172 b172 X172 e172 g172 E172 A172 D172 => ?_)
          have ge_b172 : n0 ≤ b172 := own_ge f173 g172
          have ne_b169_b172 : b169 ≠ b172 := own_lt V170.lt g172
          have F172_coder : Fld Z h172 b172 "java/lang/String" "coder" "B" (.int (0 : Int32)) := D172 (Or.inr (hw _ tw_27)) (ty := .byte) (by decide)
          have F172_value : Fld Z h172 b172 "java/lang/String" "value" "[B" .null := D172 (Or.inr (hw _ tw_29)) (ty := (.array .byte)) (by decide)
          refine own_dup X172 hx hby at_80 rfl rfl ?_
          refine own_aload X172 hx hby at_81 rfl rfl rfl ?_
          have f175 := (f173.ext E172)
          have f176 := (V170.ext E172)
          refine own_specialB X172 hx hby hZ (kc := 1) (ks := 1) (a := b172) (argsL := [(.ref b169)]) (rest := [(.ref b172)]) hown rfl (hw _ tw_4) (hw _ tw_5) (hw _ tw_6) (by decide) (StrChars.Road.backV (W := 1) hZ (own_hws hw) (kI := 4) (hw _ tw_2) (cs := [x2 &&& (255 : Int32)]) (bs := [(x2 &&& (255 : Int32)).toInt8.toInt32]) (n := 1) (n0 := n0) ge_b172 (own_ge' f175) A172 F172_value F172_coder f176 (G.1.ext f175.2) G.2.1 rfl rfl (by decide) (by decide) (own_chars x2) rfl (by decide) (by decide)) e172 (by rw [hml]; rfl) pd_8 rfl (Nat.le_refl _) (by decide) (by decide) at_83 rfl rfl (fun v174 T174 L174 X174 hQ174 => ?_)
          obtain ⟨rfl, N174q, K174, A174, -, -, -, -, -, -, -, -⟩ := hQ174
          show Ends p.tables e below _ (T174.setTop (mkF m 86 #[.val (.int x0), .val (.int x1), .val (.int x2), .val (.int x3), .val (.int (0 : Int32)), .val (.int (1 : Int32)), .val (.int (0 : Int32)), .val (.int (0 : Int32)), .val (.ref b169), .unset, .unset, .unset, .unset, .unset, .unset, .unset] [(.ref b172)]))
          refine own_astore X174 hx hby at_86 rfl #[.val (.int x0), .val (.int x1), .val (.int x2), .val (.int x3), .val (.int (0 : Int32)), .val (.int (1 : Int32)), .val (.int (0 : Int32)), .val (.int (0 : Int32)), .val (.ref b169), .val (.ref b172), .unset, .unset, .unset, .unset, .unset, .unset] rfl rfl ?_
          refine own_iload X174 hx hby at_88 rfl rfl ?_
          refine own_if_eq X174 hx hby at_90 (pcY := 105) (pcN := 93) (by decide) rfl (fun (hc177 : (1 : Int32) = (0 : Int32)) => False.elim (by exact absurd hc177 (by decide))) (fun (hc177 : ¬ (1 : Int32) = (0 : Int32)) => ?_)
          refine own_iloadN X174 hx hby at_93 rfl rfl ?_
          refine own_sipush X174 hx hby at_94 rfl (255 : Int32) rfl ?_
          refine own_iand X174 hx hby at_97 rfl ?_
          refine own_i2c X174 hx hby at_98 rfl ?_
          have f179 := (f175.keep K174 (allS ge_b172 all0))
          refine own_static X174 hx hby hZ (argsL := [(.int (x3 &&& (255 : Int32)).toUInt32.toUInt16.toUInt32.toInt32)]) (rest := []) hown (hw _ tw_60) (hw _ tw_61) (hw _ tw_3) (hw _ tw_62) (by decide) (rm11 l Z a0 hw (x3 &&& (255 : Int32)).toUInt32.toUInt16.toUInt32.toInt32 T174.heap n0 G f179 (own_mc _)) rfl (by rw [hml]; rfl) pd_12 rfl (by decide) (W := 0) (Nat.le_refl _) (by decide) (by decide) (by decide) at_99 rfl rfl (fun v178 T178 L178 X178 hQ178 => ?_)
          obtain ⟨b178, rfl, N178q, K178, gq178, sq178, A178⟩ := hQ178
          show Ends p.tables e below _ (T178.setTop (mkF m 102 #[.val (.int x0), .val (.int x1), .val (.int x2), .val (.int x3), .val (.int (0 : Int32)), .val (.int (1 : Int32)), .val (.int (0 : Int32)), .val (.int (0 : Int32)), .val (.ref b169), .val (.ref b172), .unset, .unset, .unset, .unset, .unset, .unset] [(.ref b178)]))
          refine own_goto X178 hx hby at_102 (pc' := 106) (by decide) ?_
          refine own_astore X178 hx hby at_106 rfl #[.val (.int x0), .val (.int x1), .val (.int x2), .val (.int x3), .val (.int (0 : Int32)), .val (.int (1 : Int32)), .val (.int (0 : Int32)), .val (.int (0 : Int32)), .val (.ref b169), .val (.ref b172), .val (.ref b178), .unset, .unset, .unset, .unset, .unset] rfl rfl ?_
          refine own_aconstNull X178 hx hby at_108 rfl ?_
          refine own_astore X178 hx hby at_109 rfl #[.val (.int x0), .val (.int x1), .val (.int x2), .val (.int x3), .val (.int (0 : Int32)), .val (.int (1 : Int32)), .val (.int (0 : Int32)), .val (.int (0 : Int32)), .val (.ref b169), .val (.ref b172), .val (.ref b178), .val .null, .unset, .unset, .unset, .unset] rfl rfl ?_
          refine own_aconstNull X178 hx hby at_111 rfl ?_
          refine own_astore X178 hx hby at_112 rfl #[.val (.int x0), .val (.int x1), .val (.int x2), .val (.int x3), .val (.int (0 : Int32)), .val (.int (1 : Int32)), .val (.int (0 : Int32)), .val (.int (0 : Int32)), .val (.ref b169), .val (.ref b172), .val (.ref b178), .val .null, .val .null, .unset, .unset, .unset] rfl rfl ?_
          refine own_iload X178 hx hby at_114 rfl rfl ?_
          refine own_if_eq X178 hx hby at_116 (pcY := 158) (pcN := 119) (by decide) rfl (fun (hc180 : (0 : Int32) = (0 : Int32)) => ?_) (fun (hc180 : ¬ (0 : Int32) = (0 : Int32)) => False.elim (by exact absurd hc180 (by decide)))
          have f182 := (f179.keep K178 all0)
          refine own_new X178 hx hby hZ hown (hw _ tw_30) (hw _ tw_31) (hw _ tw_32) rfl (by decide) (by decide) at_158 rfl (fun T181 h181 b181 X181 e181 g181 E181 A181 D181 => ?_)
          have ge_b181 : n0 ≤ b181 := own_ge f182 g181
          have ne_b178_b181 : b178 ≠ b181 := own_lt A178.lt g181
          have f183 := ((f176.keep K174 (ninS ne_b169_b172 nin0)).keep K178 nin0)
          have ne_b169_b181 : b169 ≠ b181 := own_lt f183.lt g181
          have f184 := ((A172.keep K174).keep K178)
          have ne_b172_b181 : b172 ≠ b181 := own_lt f184.lt g181
          have F181_key : Fld Z h181 b181 "com/example/weftwork/weftwork/io/Gml$Entry" "key" "Ljava/lang/String;" .null := D181 (Or.inr (hw _ tw_43)) (ty := (.object "java/lang/String")) (by decide)
          have F181_line : Fld Z h181 b181 "com/example/weftwork/weftwork/io/Gml$Entry" "line" "I" (.int (0 : Int32)) := D181 (Or.inr (hw _ tw_45)) (ty := .int) (by decide)
          have F181_scalar : Fld Z h181 b181 "com/example/weftwork/weftwork/io/Gml$Entry" "scalar" "Ljava/lang/String;" .null := D181 (Or.inr (hw _ tw_47)) (ty := (.object "java/lang/String")) (by decide)
          have F181_list : Fld Z h181 b181 "com/example/weftwork/weftwork/io/Gml$Entry" "list" "Ljava/util/List;" .null := D181 (Or.inr (hw _ tw_49)) (ty := (.object "java/util/List")) (by decide)
          refine own_dup X181 hx hby at_161 rfl rfl ?_
          refine own_aload X181 hx hby at_162 rfl rfl rfl ?_
          refine own_iloadN X181 hx hby at_164 rfl rfl ?_
          refine own_aload X181 hx hby at_165 rfl rfl rfl ?_
          refine own_aload X181 hx hby at_167 rfl rfl rfl ?_
          refine own_special X181 hx hby hZ (a := b181) (argsL := [(.ref b172), (.int x1), (.ref b178), .null]) (rest := [(.ref b181)]) hown rfl (hw _ tw_33) (hw _ tw_34) (hw _ tw_32) (hw _ tw_35) (by decide) (rm7 l Z a0 hw b181 x1 h181 n0 (.ref b172) (.ref b178) .null rfl rfl rfl ge_b181 A181 F181_key F181_line F181_scalar F181_list) e181 (by rw [hml]; rfl) pd_9 rfl (by decide) (W := 1) (Nat.le_refl _) (by decide) (by decide) (by decide) at_169 rfl rfl (fun v185 T185 L185 X185 hQ185 => ?_)
          obtain ⟨rfl, N185q, K185, Fl185⟩ := hQ185
          show Ends p.tables e below _ (T185.setTop (mkF m 172 #[.val (.int x0), .val (.int x1), .val (.int x2), .val (.int x3), .val (.int (0 : Int32)), .val (.int (1 : Int32)), .val (.int (0 : Int32)), .val (.int (0 : Int32)), .val (.ref b169), .val (.ref b172), .val (.ref b178), .val .null, .val .null, .unset, .unset, .unset] [(.ref b181)]))
          refine own_astore X185 hx hby at_172 rfl #[.val (.int x0), .val (.int x1), .val (.int x2), .val (.int x3), .val (.int (0 : Int32)), .val (.int (1 : Int32)), .val (.int (0 : Int32)), .val (.int (0 : Int32)), .val (.ref b169), .val (.ref b172), .val (.ref b178), .val .null, .val .null, .val (.ref b181), .unset, .unset] rfl rfl ?_
          refine own_aload X185 hx hby at_174 rfl rfl rfl ?_
          have f187 := (A181.keep K185)
          refine own_virtual X185 hx hby hZ (Cn := "com/example/weftwork/weftwork/io/Gml$Entry") (a := b181) (argsL := []) (rest := []) hown (hw _ tw_50) (hw _ tw_51) (hw _ tw_53) (hw _ tw_52) (hw _ tw_32) (hw _ tw_54) (by decide) (rm9_n l Z a0 hw b181 T185.heap 0 Fl185) f187 rfl (by rw [hml]; rfl) pd_10 rfl (by decide) (W := 0) (Nat.le_refl _) (by decide) (by decide) (by decide) at_176 rfl rfl (fun v186 T186 L186 X186 hQ186 => ?_)
          obtain ⟨rfl, rfl, e186⟩ := hQ186
          show Ends p.tables e below _ (T186.setTop (mkF m 179 #[.val (.int x0), .val (.int x1), .val (.int x2), .val (.int x3), .val (.int (0 : Int32)), .val (.int (1 : Int32)), .val (.int (0 : Int32)), .val (.int (0 : Int32)), .val (.ref b169), .val (.ref b172), .val (.ref b178), .val .null, .val .null, .val (.ref b181), .unset, .unset] [(.int (0 : Int32))]))
          refine own_istore X186 hx hby at_179 rfl #[.val (.int x0), .val (.int x1), .val (.int x2), .val (.int x3), .val (.int (0 : Int32)), .val (.int (1 : Int32)), .val (.int (0 : Int32)), .val (.int (0 : Int32)), .val (.ref b169), .val (.ref b172), .val (.ref b178), .val .null, .val .null, .val (.ref b181), .val (.int (0 : Int32)), .unset] rfl ?_
          refine own_aload X186 hx hby at_181 rfl rfl rfl ?_
          refine own_ifnullYes X186 hx hby at_183 (pcY := 194) (by decide) ?_
          refine own_iconst X186 hx hby at_194 rfl (1 : Int32) rfl ?_
          refine own_goto X186 hx hby at_195 (pc' := 199) (by decide) ?_
          refine own_istore X186 hx hby at_199 rfl #[.val (.int x0), .val (.int x1), .val (.int x2), .val (.int x3), .val (.int (0 : Int32)), .val (.int (1 : Int32)), .val (.int (0 : Int32)), .val (.int (0 : Int32)), .val (.ref b169), .val (.ref b172), .val (.ref b178), .val .null, .val .null, .val (.ref b181), .val (.int (0 : Int32)), .val (.int (1 : Int32))] rfl ?_
          refine own_iload X186 hx hby at_201 rfl rfl ?_
          refine own_iload X186 hx hby at_203 rfl rfl ?_
          refine own_icmp_ne X186 hx hby at_205 (pcY := 235) (pcN := 208) (by decide) rfl (fun (hc188 : ¬ (0 : Int32) = (0 : Int32)) => False.elim (by exact absurd hc188 (by decide))) (fun (hc188 : (0 : Int32) = (0 : Int32)) => ?_)
          refine own_iload X186 hx hby at_208 rfl rfl ?_
          refine own_aload X186 hx hby at_210 rfl rfl rfl ?_
          refine own_virtual X186 hx hby hZ (Cn := "com/example/weftwork/weftwork/io/Gml$Entry") (a := b181) (argsL := []) (rest := [(.int (0 : Int32))]) hown (hw _ tw_55) (hw _ tw_56) (hw _ tw_58) (hw _ tw_57) (hw _ tw_32) (hw _ tw_59) (by decide) (rm10_n l Z a0 hw b181 T185.heap 0 Fl185) f187 e186 (by rw [hml]; rfl) pd_11 rfl (by decide) (W := 1) (Nat.le_refl _) (by decide) (by decide) (by decide) at_212 rfl rfl (fun v189 T189 L189 X189 hQ189 => ?_)
          obtain ⟨rfl, rfl, e189⟩ := hQ189
          show Ends p.tables e below _ (T189.setTop (mkF m 215 #[.val (.int x0), .val (.int x1), .val (.int x2), .val (.int x3), .val (.int (0 : Int32)), .val (.int (1 : Int32)), .val (.int (0 : Int32)), .val (.int (0 : Int32)), .val (.ref b169), .val (.ref b172), .val (.ref b178), .val .null, .val .null, .val (.ref b181), .val (.int (0 : Int32)), .val (.int (1 : Int32))] [.null, (.int (0 : Int32))]))
          refine own_ifnullYes X189 hx hby at_215 (pcY := 222) (by decide) ?_
          refine own_iconst X189 hx hby at_222 rfl (0 : Int32) rfl ?_
          refine own_icmp_ne X189 hx hby at_223 (pcY := 235) (pcN := 226) (by decide) rfl (fun (hc190 : ¬ (0 : Int32) = (0 : Int32)) => False.elim (by exact absurd hc190 (by decide))) (fun (hc190 : (0 : Int32) = (0 : Int32)) => ?_)
          refine own_iload X189 hx hby at_226 rfl rfl ?_
          refine own_if_eq X189 hx hby at_228 (pcY := 235) (pcN := 231) (by decide) rfl (fun (hc191 : (1 : Int32) = (0 : Int32)) => False.elim (by exact absurd hc191 (by decide))) (fun (hc191 : ¬ (1 : Int32) = (0 : Int32)) => ?_)
          refine own_iconst X189 hx hby at_231 rfl (1 : Int32) rfl ?_
          refine own_goto X189 hx hby at_232 (pc' := 236) (by decide) ?_
          refine own_ret X189 hx hby hret hlk at_236 (.int (1 : Int32)) rfl (Or.inl ⟨rfl, by simp, _, rfl⟩) (by decide) (by decide) ?_
          exact ⟨rfl, (Fr.app (Fr.app (Fr.app (Fr.app (Fr.app N170 N174q) N178q) N185q) (Fr.nil _)) (Fr.nil _))⟩
        · -- pc 43: f
          refine own_iconst X0 hx hby at_46 rfl (1 : Int32) rfl ?_
          refine own_goto X0 hx hby at_47 (pc' := 51) (by decide) ?_
          refine own_istore X0 hx hby at_51 rfl #[.val (.int x0), .val (.int x1), .val (.int x2), .val (.int x3), .val (.int (0 : Int32)), .val (.int (1 : Int32)), .val (.int (0 : Int32)), .val (.int (1 : Int32)), .unset, .unset, .unset, .unset, .unset, .unset, .unset, .unset] rfl ?_
          refine own_iconst X0 hx hby at_53 rfl (1 : Int32) rfl ?_
          refine own_newarray X0 hx hby hZ (aty := .char) (hw _ tw_0) e0 (by decide) 1 (by decide) (by decide) (by decide) (by decide) .char rfl [(.int (0 : Int32))] rfl at_54 rfl (fun T192 h192 b192 k192 X192 e192 g192 E192 V192 => ?_)
          have ge_b192 : n0 ≤ b192 := own_ge O g192
          refine own_astore X192 hx hby at_56 rfl #[.val (.int x0), .val (.int x1), .val (.int x2), .val (.int x3), .val (.int (0 : Int32)), .val (.int (1 : Int32)), .val (.int (0 : Int32)), .val (.int (1 : Int32)), .val (.ref b192), .unset, .unset, .unset, .unset, .unset, .unset, .unset] rfl rfl ?_
          refine own_aload X192 hx hby at_58 rfl rfl rfl ?_
          refine own_iconst X192 hx hby at_60 rfl (0 : Int32) rfl ?_
          refine own_iloadN X192 hx hby at_61 rfl rfl ?_
          refine own_sipush X192 hx hby at_62 rfl (255 : Int32) rfl ?_
          refine own_iand X192 hx hby at_65 rfl ?_
          refine own_i2c X192 hx hby at_66 rfl ?_
          refine own_castore X192 hx hby hZ (x2 &&& (255 : Int32)) (own_charv x2) e192 V192 (by decide) 0 rfl (show 0 < 1 by decide) [(.int (x2 &&& (255 : Int32)))] rfl (own_charf x2) N0 ge_b192 at_67 rfl (fun T193 h193 L193 X193 e193 W193 V193 N193 => ?_)
          refine own_iload X193 hx hby at_68 rfl rfl ?_
          refine own_if_eq X193 hx hby at_70 (pcY := 77) (pcN := 73) (by decide) rfl (fun (hc194 : (1 : Int32) = (0 : Int32)) => False.elim (by exact absurd hc194 (by decide))) (fun (hc194 : ¬ (1 : Int32) = (0 : Int32)) => ?_)
          refine own_aconstNull X193 hx hby at_73 rfl ?_
          refine own_goto X193 hx hby at_74 (pc' := 86) (by decide) ?_
          refine own_astore X193 hx hby at_86 rfl #[.val (.int x0), .val (.int x1), .val (.int x2), .val (.int x3), .val (.int (0 : Int32)), .val (.int (1 : Int32)), .val (.int (0 : Int32)), .val (.int (1 : Int32)), .val (.ref b192), .val .null, .unset, .unset, .unset, .unset, .unset, .unset] rfl rfl ?_
          refine own_iload X193 hx hby at_88 rfl rfl ?_
          refine own_if_eq X193 hx hby at_90 (pcY := 105) (pcN := 93) (by decide) rfl (fun (hc195 : (1 : Int32) = (0 : Int32)) => False.elim (by exact absurd hc195 (by decide))) (fun (hc195 : ¬ (1 : Int32) = (0 : Int32)) => ?_)
          refine own_iloadN X193 hx hby at_93 rfl rfl ?_
          refine own_sipush X193 hx hby at_94 rfl (255 : Int32) rfl ?_
          refine own_iand X193 hx hby at_97 rfl ?_
          refine own_i2c X193 hx hby at_98 rfl ?_
          have f197 := ((O.ext E192).wr W193 ge_b192)
          refine own_static X193 hx hby hZ (argsL := [(.int (x3 &&& (255 : Int32)).toUInt32.toUInt16.toUInt32.toInt32)]) (rest := []) hown (hw _ tw_60) (hw _ tw_61) (hw _ tw_3) (hw _ tw_62) (by decide) (rm11 l Z a0 hw (x3 &&& (255 : Int32)).toUInt32.toUInt16.toUInt32.toInt32 h193 n0 G f197 (own_mc _)) e193 (by rw [hml]; rfl) pd_12 rfl (by decide) (W := 0) (Nat.le_refl _) (by decide) (by decide) (by decide) at_99 rfl rfl (fun v196 T196 L196 X196 hQ196 => ?_)
          obtain ⟨b196, rfl, N196q, K196, gq196, sq196, A196⟩ := hQ196
          show Ends p.tables e below _ (T196.setTop (mkF m 102 #[.val (.int x0), .val (.int x1), .val (.int x2), .val (.int x3), .val (.int (0 : Int32)), .val (.int (1 : Int32)), .val (.int (0 : Int32)), .val (.int (1 : Int32)), .val (.ref b192), .val .null, .unset, .unset, .unset, .unset, .unset, .unset] [(.ref b196)]))
          refine own_goto X196 hx hby at_102 (pc' := 106) (by decide) ?_
          refine own_astore X196 hx hby at_106 rfl #[.val (.int x0), .val (.int x1), .val (.int x2), .val (.int x3), .val (.int (0 : Int32)), .val (.int (1 : Int32)), .val (.int (0 : Int32)), .val (.int (1 : Int32)), .val (.ref b192), .val .null, .val (.ref b196), .unset, .unset, .unset, .unset, .unset] rfl rfl ?_
          refine own_aconstNull X196 hx hby at_108 rfl ?_
          refine own_astore X196 hx hby at_109 rfl #[.val (.int x0), .val (.int x1), .val (.int x2), .val (.int x3), .val (.int (0 : Int32)), .val (.int (1 : Int32)), .val (.int (0 : Int32)), .val (.int (1 : Int32)), .val (.ref b192), .val .null, .val (.ref b196), .val .null, .unset, .unset, .unset, .unset] rfl rfl ?_
          refine own_aconstNull X196 hx hby at_111 rfl ?_
          refine own_astore X196 hx hby at_112 rfl #[.val (.int x0), .val (.int x1), .val (.int x2), .val (.int x3), .val (.int (0 : Int32)), .val (.int (1 : Int32)), .val (.int (0 : Int32)), .val (.int (1 : Int32)), .val (.ref b192), .val .null, .val (.ref b196), .val .null, .val .null, .unset, .unset, .unset] rfl rfl ?_
          refine own_iload X196 hx hby at_114 rfl rfl ?_
          refine own_if_eq X196 hx hby at_116 (pcY := 158) (pcN := 119) (by decide) rfl (fun (hc198 : (0 : Int32) = (0 : Int32)) => ?_) (fun (hc198 : ¬ (0 : Int32) = (0 : Int32)) => False.elim (by exact absurd hc198 (by decide)))
          have f200 := (f197.keep K196 all0)
          refine own_new X196 hx hby hZ hown (hw _ tw_30) (hw _ tw_31) (hw _ tw_32) rfl (by decide) (by decide) at_158 rfl (fun T199 h199 b199 X199 e199 g199 E199 A199 D199 => ?_)
          have ge_b199 : n0 ≤ b199 := own_ge f200 g199
          have ne_b196_b199 : b196 ≠ b199 := own_lt A196.lt g199
          have f201 := (V193.keep K196 nin0)
          have ne_b192_b199 : b192 ≠ b199 := own_lt f201.lt g199
          have F199_key : Fld Z h199 b199 "com/example/weftwork/weftwork/io/Gml$Entry" "key" "Ljava/lang/String;" .null := D199 (Or.inr (hw _ tw_43)) (ty := (.object "java/lang/String")) (by decide)
          have F199_line : Fld Z h199 b199 "com/example/weftwork/weftwork/io/Gml$Entry" "line" "I" (.int (0 : Int32)) := D199 (Or.inr (hw _ tw_45)) (ty := .int) (by decide)
          have F199_scalar : Fld Z h199 b199 "com/example/weftwork/weftwork/io/Gml$Entry" "scalar" "Ljava/lang/String;" .null := D199 (Or.inr (hw _ tw_47)) (ty := (.object "java/lang/String")) (by decide)
          have F199_list : Fld Z h199 b199 "com/example/weftwork/weftwork/io/Gml$Entry" "list" "Ljava/util/List;" .null := D199 (Or.inr (hw _ tw_49)) (ty := (.object "java/util/List")) (by decide)
          refine own_dup X199 hx hby at_161 rfl rfl ?_
          refine own_aload X199 hx hby at_162 rfl rfl rfl ?_
          refine own_iloadN X199 hx hby at_164 rfl rfl ?_
          refine own_aload X199 hx hby at_165 rfl rfl rfl ?_
          refine own_aload X199 hx hby at_167 rfl rfl rfl ?_
          refine own_special X199 hx hby hZ (a := b199) (argsL := [.null, (.int x1), (.ref b196), .null]) (rest := [(.ref b199)]) hown rfl (hw _ tw_33) (hw _ tw_34) (hw _ tw_32) (hw _ tw_35) (by decide) (rm7 l Z a0 hw b199 x1 h199 n0 .null (.ref b196) .null rfl rfl rfl ge_b199 A199 F199_key F199_line F199_scalar F199_list) e199 (by rw [hml]; rfl) pd_9 rfl (by decide) (W := 1) (Nat.le_refl _) (by decide) (by decide) (by decide) at_169 rfl rfl (fun v202 T202 L202 X202 hQ202 => ?_)
          obtain ⟨rfl, N202q, K202, Fl202⟩ := hQ202
          show Ends p.tables e below _ (T202.setTop (mkF m 172 #[.val (.int x0), .val (.int x1), .val (.int x2), .val (.int x3), .val (.int (0 : Int32)), .val (.int (1 : Int32)), .val (.int (0 : Int32)), .val (.int (1 : Int32)), .val (.ref b192), .val .null, .val (.ref b196), .val .null, .val .null, .unset, .unset, .unset] [(.ref b199)]))
          refine own_astore X202 hx hby at_172 rfl #[.val (.int x0), .val (.int x1), .val (.int x2), .val (.int x3), .val (.int (0 : Int32)), .val (.int (1 : Int32)), .val (.int (0 : Int32)), .val (.int (1 : Int32)), .val (.ref b192), .val .null, .val (.ref b196), .val .null, .val .null, .val (.ref b199), .unset, .unset] rfl rfl ?_
          refine own_aload X202 hx hby at_174 rfl rfl rfl ?_
          have f204 := (A199.keep K202)
          refine own_virtual X202 hx hby hZ (Cn := "com/example/weftwork/weftwork/io/Gml$Entry") (a := b199) (argsL := []) (rest := []) hown (hw _ tw_50) (hw _ tw_51) (hw _ tw_53) (hw _ tw_52) (hw _ tw_32) (hw _ tw_54) (by decide) (rm9_n l Z a0 hw b199 T202.heap 0 Fl202) f204 rfl (by rw [hml]; rfl) pd_10 rfl (by decide) (W := 0) (Nat.le_refl _) (by decide) (by decide) (by decide) at_176 rfl rfl (fun v203 T203 L203 X203 hQ203 => ?_)
          obtain ⟨rfl, rfl, e203⟩ := hQ203
          show Ends p.tables e below _ (T203.setTop (mkF m 179 #[.val (.int x0), .val (.int x1), .val (.int x2), .val (.int x3), .val (.int (0 : Int32)), .val (.int (1 : Int32)), .val (.int (0 : Int32)), .val (.int (1 : Int32)), .val (.ref b192), .val .null, .val (.ref b196), .val .null, .val .null, .val (.ref b199), .unset, .unset] [(.int (0 : Int32))]))
          refine own_istore X203 hx hby at_179 rfl #[.val (.int x0), .val (.int x1), .val (.int x2), .val (.int x3), .val (.int (0 : Int32)), .val (.int (1 : Int32)), .val (.int (0 : Int32)), .val (.int (1 : Int32)), .val (.ref b192), .val .null, .val (.ref b196), .val .null, .val .null, .val (.ref b199), .val (.int (0 : Int32)), .unset] rfl ?_
          refine own_aload X203 hx hby at_181 rfl rfl rfl ?_
          refine own_ifnullYes X203 hx hby at_183 (pcY := 194) (by decide) ?_
          refine own_iconst X203 hx hby at_194 rfl (1 : Int32) rfl ?_
          refine own_goto X203 hx hby at_195 (pc' := 199) (by decide) ?_
          refine own_istore X203 hx hby at_199 rfl #[.val (.int x0), .val (.int x1), .val (.int x2), .val (.int x3), .val (.int (0 : Int32)), .val (.int (1 : Int32)), .val (.int (0 : Int32)), .val (.int (1 : Int32)), .val (.ref b192), .val .null, .val (.ref b196), .val .null, .val .null, .val (.ref b199), .val (.int (0 : Int32)), .val (.int (1 : Int32))] rfl ?_
          refine own_iload X203 hx hby at_201 rfl rfl ?_
          refine own_iload X203 hx hby at_203 rfl rfl ?_
          refine own_icmp_ne X203 hx hby at_205 (pcY := 235) (pcN := 208) (by decide) rfl (fun (hc205 : ¬ (0 : Int32) = (0 : Int32)) => False.elim (by exact absurd hc205 (by decide))) (fun (hc205 : (0 : Int32) = (0 : Int32)) => ?_)
          refine own_iload X203 hx hby at_208 rfl rfl ?_
          refine own_aload X203 hx hby at_210 rfl rfl rfl ?_
          refine own_virtual X203 hx hby hZ (Cn := "com/example/weftwork/weftwork/io/Gml$Entry") (a := b199) (argsL := []) (rest := [(.int (0 : Int32))]) hown (hw _ tw_55) (hw _ tw_56) (hw _ tw_58) (hw _ tw_57) (hw _ tw_32) (hw _ tw_59) (by decide) (rm10_n l Z a0 hw b199 T202.heap 0 Fl202) f204 e203 (by rw [hml]; rfl) pd_11 rfl (by decide) (W := 1) (Nat.le_refl _) (by decide) (by decide) (by decide) at_212 rfl rfl (fun v206 T206 L206 X206 hQ206 => ?_)
          obtain ⟨rfl, rfl, e206⟩ := hQ206
          show Ends p.tables e below _ (T206.setTop (mkF m 215 #[.val (.int x0), .val (.int x1), .val (.int x2), .val (.int x3), .val (.int (0 : Int32)), .val (.int (1 : Int32)), .val (.int (0 : Int32)), .val (.int (1 : Int32)), .val (.ref b192), .val .null, .val (.ref b196), .val .null, .val .null, .val (.ref b199), .val (.int (0 : Int32)), .val (.int (1 : Int32))] [.null, (.int (0 : Int32))]))
          refine own_ifnullYes X206 hx hby at_215 (pcY := 222) (by decide) ?_
          refine own_iconst X206 hx hby at_222 rfl (0 : Int32) rfl ?_
          refine own_icmp_ne X206 hx hby at_223 (pcY := 235) (pcN := 226) (by decide) rfl (fun (hc207 : ¬ (0 : Int32) = (0 : Int32)) => False.elim (by exact absurd hc207 (by decide))) (fun (hc207 : (0 : Int32) = (0 : Int32)) => ?_)
          refine own_iload X206 hx hby at_226 rfl rfl ?_
          refine own_if_eq X206 hx hby at_228 (pcY := 235) (pcN := 231) (by decide) rfl (fun (hc208 : (1 : Int32) = (0 : Int32)) => False.elim (by exact absurd hc208 (by decide))) (fun (hc208 : ¬ (1 : Int32) = (0 : Int32)) => ?_)
          refine own_iconst X206 hx hby at_231 rfl (1 : Int32) rfl ?_
          refine own_goto X206 hx hby at_232 (pc' := 236) (by decide) ?_
          refine own_ret X206 hx hby hret hlk at_236 (.int (1 : Int32)) rfl (Or.inl ⟨rfl, by simp, _, rfl⟩) (by decide) (by decide) ?_
          exact ⟨rfl, (Fr.app (Fr.app (Fr.app (Fr.app N193 N196q) N202q) (Fr.nil _)) (Fr.nil _))⟩
      · -- pc 29: f
        refine own_iconst X0 hx hby at_32 rfl (1 : Int32) rfl ?_
        refine own_goto X0 hx hby at_33 (pc' := 37) (by decide) ?_
        refine own_istore X0 hx hby at_37 rfl #[.val (.int x0), .val (.int x1), .val (.int x2), .val (.int x3), .val (.int (0 : Int32)), .val (.int (1 : Int32)), .val (.int (1 : Int32)), .unset, .unset, .unset, .unset, .unset, .unset, .unset, .unset, .unset] rfl ?_
        refine own_iloadN X0 hx hby at_39 rfl rfl ?_
        refine own_bipush X0 hx hby at_40 rfl (8 : Int32) rfl ?_
        refine own_iand X0 hx hby at_42 rfl ?_
        refine own_if_eq X0 hx hby at_43 (pcY := 50) (pcN := 46) (by decide) rfl (fun (hc209 : (x0 &&& (8 : Int32)) = (0 : Int32)) => ?_) (fun (hc209 : ¬ (x0 &&& (8 : Int32)) = (0 : Int32)) => ?_)
        · -- pc 43: t
          refine own_iconst X0 hx hby at_50 rfl (0 : Int32) rfl ?_
          refine own_istore X0 hx hby at_51 rfl #[.val (.int x0), .val (.int x1), .val (.int x2), .val (.int x3), .val (.int (0 : Int32)), .val (.int (1 : Int32)), .val (.int (1 : Int32)), .val (.int (0 : Int32)), .unset, .unset, .unset, .unset, .unset, .unset, .unset, .unset] rfl ?_
          refine own_iconst X0 hx hby at_53 rfl (1 : Int32) rfl ?_
          refine own_newarray X0 hx hby hZ (aty := .char) (hw _ tw_0) e0 (by decide) 1 (by decide) (by decide) (by decide) (by decide) .char rfl [(.int (0 : Int32))] rfl at_54 rfl (fun T210 h210 b210 k210 X210 e210 g210 E210 V210 => ?_)
          have ge_b210 : n0 ≤ b210 := own_ge O g210
          refine own_astore X210 hx hby at_56 rfl #[.val (.int x0), .val (.int x1), .val (.int x2), .val (.int x3), .val (.int (0 : Int32)), .val (.int (1 : Int32)), .val (.int (1 : Int32)), .val (.int (0 : Int32)), .val (.ref b210), .unset, .unset, .unset, .unset, .unset, .unset, .unset] rfl rfl ?_
          refine own_aload X210 hx hby at_58 rfl rfl rfl ?_
          refine own_iconst X210 hx hby at_60 rfl (0 : Int32) rfl ?_
          refine own_iloadN X210 hx hby at_61 rfl rfl ?_
          refine own_sipush X210 hx hby at_62 rfl (255 : Int32) rfl ?_
          refine own_iand X210 hx hby at_65 rfl ?_
          refine own_i2c X210 hx hby at_66 rfl ?_
          refine own_castore X210 hx hby hZ (x2 &&& (255 : Int32)) (own_charv x2) e210 V210 (by decide) 0 rfl (show 0 < 1 by decide) [(.int (x2 &&& (255 : Int32)))] rfl (own_charf x2) N0 ge_b210 at_67 rfl (fun T211 h211 L211 X211 e211 W211 V211 N211 => ?_)
          refine own_iload X211 hx hby at_68 rfl rfl ?_
          refine own_if_eq X211 hx hby at_70 (pcY := 77) (pcN := 73) (by decide) rfl (fun (hc212 : (0 : Int32) = (0 : Int32)) => ?_) (fun (hc212 : ¬ (0 : Int32) = (0 : Int32)) => False.elim (by exact absurd hc212 (by decide)))
          have f214 := ((O.ext E210).wr W211 ge_b210)
          refine own_new X211 hx hby hZ hown (hw _ tw_1) (hw _ tw_2) (hw _ tw_3) e211 (by decide) (by decide) at_77 rfl (fun T213 h213 b213 X213 e213 g213 E213 A213 D213 => ?_)
          have ge_b213 : n0 ≤ b213 := own_ge f214 g213
          have ne_b210_b213 : b210 ≠ b213 := own_lt V211.lt g213
          have F213_coder : Fld Z h213 b213 "java/lang/String" "coder" "B" (.int (0 : Int32)) := D213 (Or.inr (hw _ tw_27)) (ty := .byte) (by decide)
          have F213_value : Fld Z h213 b213 "java/lang/String" "value" "[B" .null := D213 (Or.inr (hw _ tw_29)) (ty := (.array .byte)) (by decide)
          refine own_dup X213 hx hby at_80 rfl rfl ?_
          refine own_aload X213 hx hby at_81 rfl rfl rfl ?_
          have f216 := (f214.ext E213)
          have f217 := (V211.ext E213)
          refine own_specialB X213 hx hby hZ (kc := 1) (ks := 1) (a := b213) (argsL := [(.ref b210)]) (rest := [(.ref b213)]) hown rfl (hw _ tw_4) (hw _ tw_5) (hw _ tw_6) (by decide) (StrChars.Road.backV (W := 1) hZ (own_hws hw) (kI := 4) (hw _ tw_2) (cs := [x2 &&& (255 : Int32)]) (bs := [(x2 &&& (255 : Int32)).toInt8.toInt32]) (n := 1) (n0 := n0) ge_b213 (own_ge' f216) A213 F213_value F213_coder f217 (G.1.ext f216.2) G.2.1 rfl rfl (by decide) (by decide) (own_chars x2) rfl (by decide) (by decide)) e213 (by rw [hml]; rfl) pd_8 rfl (Nat.le_refl _) (by decide) (by decide) at_83 rfl rfl (fun v215 T215 L215 X215 hQ215 => ?_)
          obtain ⟨rfl, N215q, K215, A215, -, -, -, -, -, -, -, -⟩ := hQ215
          show Ends p.tables e below _ (T215.setTop (mkF m 86 #[.val (.int x0), .val (.int x1), .val (.int x2), .val (.int x3), .val (.int (0 : Int32)), .val (.int (1 : Int32)), .val (.int (1 : Int32)), .val (.int (0 : Int32)), .val (.ref b210), .unset, .unset, .unset, .unset, .unset, .unset, .unset] [(.ref b213)]))
          refine own_astore X215 hx hby at_86 rfl #[.val (.int x0), .val (.int x1), .val (.int x2), .val (.int x3), .val (.int (0 : Int32)), .val (.int (1 : Int32)), .val (.int (1 : Int32)), .val (.int (0 : Int32)), .val (.ref b210), .val (.ref b213), .unset, .unset, .unset, .unset, .unset, .unset] rfl rfl ?_
          refine own_iload X215 hx hby at_88 rfl rfl ?_
          refine own_if_eq X215 hx hby at_90 (pcY := 105) (pcN := 93) (by decide) rfl (fun (hc218 : (1 : Int32) = (0 : Int32)) => False.elim (by exact absurd hc218 (by decide))) (fun (hc218 : ¬ (1 : Int32) = (0 : Int32)) => ?_)
          refine own_iloadN X215 hx hby at_93 rfl rfl ?_
          refine own_sipush X215 hx hby at_94 rfl (255 : Int32) rfl ?_
          refine own_iand X215 hx hby at_97 rfl ?_
          refine own_i2c X215 hx hby at_98 rfl ?_
          have f220 := (f216.keep K215 (allS ge_b213 all0))
          refine own_static X215 hx hby hZ (argsL := [(.int (x3 &&& (255 : Int32)).toUInt32.toUInt16.toUInt32.toInt32)]) (rest := []) hown (hw _ tw_60) (hw _ tw_61) (hw _ tw_3) (hw _ tw_62) (by decide) (rm11 l Z a0 hw (x3 &&& (255 : Int32)).toUInt32.toUInt16.toUInt32.toInt32 T215.heap n0 G f220 (own_mc _)) rfl (by rw [hml]; rfl) pd_12 rfl (by decide) (W := 0) (Nat.le_refl _) (by decide) (by decide) (by decide) at_99 rfl rfl (fun v219 T219 L219 X219 hQ219 => ?_)
          obtain ⟨b219, rfl, N219q, K219, gq219, sq219, A219⟩ := hQ219
          show Ends p.tables e below _ (T219.setTop (mkF m 102 #[.val (.int x0), .val (.int x1), .val (.int x2), .val (.int x3), .val (.int (0 : Int32)), .val (.int (1 : Int32)), .val (.int (1 : Int32)), .val (.int (0 : Int32)), .val (.ref b210), .val (.ref b213), .unset, .unset, .unset, .unset, .unset, .unset] [(.ref b219)]))
          refine own_goto X219 hx hby at_102 (pc' := 106) (by decide) ?_
          refine own_astore X219 hx hby at_106 rfl #[.val (.int x0), .val (.int x1), .val (.int x2), .val (.int x3), .val (.int (0 : Int32)), .val (.int (1 : Int32)), .val (.int (1 : Int32)), .val (.int (0 : Int32)), .val (.ref b210), .val (.ref b213), .val (.ref b219), .unset, .unset, .unset, .unset, .unset] rfl rfl ?_
          refine own_aconstNull X219 hx hby at_108 rfl ?_
          refine own_astore X219 hx hby at_109 rfl #[.val (.int x0), .val (.int x1), .val (.int x2), .val (.int x3), .val (.int (0 : Int32)), .val (.int (1 : Int32)), .val (.int (1 : Int32)), .val (.int (0 : Int32)), .val (.ref b210), .val (.ref b213), .val (.ref b219), .val .null, .unset, .unset, .unset, .unset] rfl rfl ?_
          refine own_aconstNull X219 hx hby at_111 rfl ?_
          refine own_astore X219 hx hby at_112 rfl #[.val (.int x0), .val (.int x1), .val (.int x2), .val (.int x3), .val (.int (0 : Int32)), .val (.int (1 : Int32)), .val (.int (1 : Int32)), .val (.int (0 : Int32)), .val (.ref b210), .val (.ref b213), .val (.ref b219), .val .null, .val .null, .unset, .unset, .unset] rfl rfl ?_
          refine own_iload X219 hx hby at_114 rfl rfl ?_
          refine own_if_eq X219 hx hby at_116 (pcY := 158) (pcN := 119) (by decide) rfl (fun (hc221 : (0 : Int32) = (0 : Int32)) => ?_) (fun (hc221 : ¬ (0 : Int32) = (0 : Int32)) => False.elim (by exact absurd hc221 (by decide)))
          have f223 := (f220.keep K219 all0)
          refine own_new X219 hx hby hZ hown (hw _ tw_30) (hw _ tw_31) (hw _ tw_32) rfl (by decide) (by decide) at_158 rfl (fun T222 h222 b222 X222 e222 g222 E222 A222 D222 => ?_)
          have ge_b222 : n0 ≤ b222 := own_ge f223 g222
          have ne_b219_b222 : b219 ≠ b222 := own_lt A219.lt g222
          have f224 := ((f217.keep K215 (ninS ne_b210_b213 nin0)).keep K219 nin0)
          have ne_b210_b222 : b210 ≠ b222 := own_lt f224.lt g222
          have f225 := ((A213.keep K215).keep K219)
          have ne_b213_b222 : b213 ≠ b222 := own_lt f225.lt g222
          have F222_key : Fld Z h222 b222 "com/example/weftwork/weftwork/io/Gml$Entry" "key" "Ljava/lang/String;" .null := D222 (Or.inr (hw _ tw_43)) (ty := (.object "java/lang/String")) (by decide)
          have F222_line : Fld Z h222 b222 "com/example/weftwork/weftwork/io/Gml$Entry" "line" "I" (.int (0 : Int32)) := D222 (Or.inr (hw _ tw_45)) (ty := .int) (by decide)
          have F222_scalar : Fld Z h222 b222 "com/example/weftwork/weftwork/io/Gml$Entry" "scalar" "Ljava/lang/String;" .null := D222 (Or.inr (hw _ tw_47)) (ty := (.object "java/lang/String")) (by decide)
          have F222_list : Fld Z h222 b222 "com/example/weftwork/weftwork/io/Gml$Entry" "list" "Ljava/util/List;" .null := D222 (Or.inr (hw _ tw_49)) (ty := (.object "java/util/List")) (by decide)
          refine own_dup X222 hx hby at_161 rfl rfl ?_
          refine own_aload X222 hx hby at_162 rfl rfl rfl ?_
          refine own_iloadN X222 hx hby at_164 rfl rfl ?_
          refine own_aload X222 hx hby at_165 rfl rfl rfl ?_
          refine own_aload X222 hx hby at_167 rfl rfl rfl ?_
          refine own_special X222 hx hby hZ (a := b222) (argsL := [(.ref b213), (.int x1), (.ref b219), .null]) (rest := [(.ref b222)]) hown rfl (hw _ tw_33) (hw _ tw_34) (hw _ tw_32) (hw _ tw_35) (by decide) (rm7 l Z a0 hw b222 x1 h222 n0 (.ref b213) (.ref b219) .null rfl rfl rfl ge_b222 A222 F222_key F222_line F222_scalar F222_list) e222 (by rw [hml]; rfl) pd_9 rfl (by decide) (W := 1) (Nat.le_refl _) (by decide) (by decide) (by decide) at_169 rfl rfl (fun v226 T226 L226 X226 hQ226 => ?_)
          obtain ⟨rfl, N226q, K226, Fl226⟩ := hQ226
          show Ends p.tables e below _ (T226.setTop (mkF m 172 #[.val (.int x0), .val (.int x1), .val (.int x2), .val (.int x3), .val (.int (0 : Int32)), .val (.int (1 : Int32)), .val (.int (1 : Int32)), .val (.int (0 : Int32)), .val (.ref b210), .val (.ref b213), .val (.ref b219), .val .null, .val .null, .unset, .unset, .unset] [(.ref b222)]))
          refine own_astore X226 hx hby at_172 rfl #[.val (.int x0), .val (.int x1), .val (.int x2), .val (.int x3), .val (.int (0 : Int32)), .val (.int (1 : Int32)), .val (.int (1 : Int32)), .val (.int (0 : Int32)), .val (.ref b210), .val (.ref b213), .val (.ref b219), .val .null, .val .null, .val (.ref b222), .unset, .unset] rfl rfl ?_
          refine own_aload X226 hx hby at_174 rfl rfl rfl ?_
          have f228 := (A222.keep K226)
          refine own_virtual X226 hx hby hZ (Cn := "com/example/weftwork/weftwork/io/Gml$Entry") (a := b222) (argsL := []) (rest := []) hown (hw _ tw_50) (hw _ tw_51) (hw _ tw_53) (hw _ tw_52) (hw _ tw_32) (hw _ tw_54) (by decide) (rm9_n l Z a0 hw b222 T226.heap 0 Fl226) f228 rfl (by rw [hml]; rfl) pd_10 rfl (by decide) (W := 0) (Nat.le_refl _) (by decide) (by decide) (by decide) at_176 rfl rfl (fun v227 T227 L227 X227 hQ227 => ?_)
          obtain ⟨rfl, rfl, e227⟩ := hQ227
          show Ends p.tables e below _ (T227.setTop (mkF m 179 #[.val (.int x0), .val (.int x1), .val (.int x2), .val (.int x3), .val (.int (0 : Int32)), .val (.int (1 : Int32)), .val (.int (1 : Int32)), .val (.int (0 : Int32)), .val (.ref b210), .val (.ref b213), .val (.ref b219), .val .null, .val .null, .val (.ref b222), .unset, .unset] [(.int (0 : Int32))]))
          refine own_istore X227 hx hby at_179 rfl #[.val (.int x0), .val (.int x1), .val (.int x2), .val (.int x3), .val (.int (0 : Int32)), .val (.int (1 : Int32)), .val (.int (1 : Int32)), .val (.int (0 : Int32)), .val (.ref b210), .val (.ref b213), .val (.ref b219), .val .null, .val .null, .val (.ref b222), .val (.int (0 : Int32)), .unset] rfl ?_
          refine own_aload X227 hx hby at_181 rfl rfl rfl ?_
          refine own_ifnullYes X227 hx hby at_183 (pcY := 194) (by decide) ?_
          refine own_iconst X227 hx hby at_194 rfl (1 : Int32) rfl ?_
          refine own_goto X227 hx hby at_195 (pc' := 199) (by decide) ?_
          refine own_istore X227 hx hby at_199 rfl #[.val (.int x0), .val (.int x1), .val (.int x2), .val (.int x3), .val (.int (0 : Int32)), .val (.int (1 : Int32)), .val (.int (1 : Int32)), .val (.int (0 : Int32)), .val (.ref b210), .val (.ref b213), .val (.ref b219), .val .null, .val .null, .val (.ref b222), .val (.int (0 : Int32)), .val (.int (1 : Int32))] rfl ?_
          refine own_iload X227 hx hby at_201 rfl rfl ?_
          refine own_iload X227 hx hby at_203 rfl rfl ?_
          refine own_icmp_ne X227 hx hby at_205 (pcY := 235) (pcN := 208) (by decide) rfl (fun (hc229 : ¬ (0 : Int32) = (0 : Int32)) => False.elim (by exact absurd hc229 (by decide))) (fun (hc229 : (0 : Int32) = (0 : Int32)) => ?_)
          refine own_iload X227 hx hby at_208 rfl rfl ?_
          refine own_aload X227 hx hby at_210 rfl rfl rfl ?_
          refine own_virtual X227 hx hby hZ (Cn := "com/example/weftwork/weftwork/io/Gml$Entry") (a := b222) (argsL := []) (rest := [(.int (0 : Int32))]) hown (hw _ tw_55) (hw _ tw_56) (hw _ tw_58) (hw _ tw_57) (hw _ tw_32) (hw _ tw_59) (by decide) (rm10_n l Z a0 hw b222 T226.heap 0 Fl226) f228 e227 (by rw [hml]; rfl) pd_11 rfl (by decide) (W := 1) (Nat.le_refl _) (by decide) (by decide) (by decide) at_212 rfl rfl (fun v230 T230 L230 X230 hQ230 => ?_)
          obtain ⟨rfl, rfl, e230⟩ := hQ230
          show Ends p.tables e below _ (T230.setTop (mkF m 215 #[.val (.int x0), .val (.int x1), .val (.int x2), .val (.int x3), .val (.int (0 : Int32)), .val (.int (1 : Int32)), .val (.int (1 : Int32)), .val (.int (0 : Int32)), .val (.ref b210), .val (.ref b213), .val (.ref b219), .val .null, .val .null, .val (.ref b222), .val (.int (0 : Int32)), .val (.int (1 : Int32))] [.null, (.int (0 : Int32))]))
          refine own_ifnullYes X230 hx hby at_215 (pcY := 222) (by decide) ?_
          refine own_iconst X230 hx hby at_222 rfl (0 : Int32) rfl ?_
          refine own_icmp_ne X230 hx hby at_223 (pcY := 235) (pcN := 226) (by decide) rfl (fun (hc231 : ¬ (0 : Int32) = (0 : Int32)) => False.elim (by exact absurd hc231 (by decide))) (fun (hc231 : (0 : Int32) = (0 : Int32)) => ?_)
          refine own_iload X230 hx hby at_226 rfl rfl ?_
          refine own_if_eq X230 hx hby at_228 (pcY := 235) (pcN := 231) (by decide) rfl (fun (hc232 : (1 : Int32) = (0 : Int32)) => False.elim (by exact absurd hc232 (by decide))) (fun (hc232 : ¬ (1 : Int32) = (0 : Int32)) => ?_)
          refine own_iconst X230 hx hby at_231 rfl (1 : Int32) rfl ?_
          refine own_goto X230 hx hby at_232 (pc' := 236) (by decide) ?_
          refine own_ret X230 hx hby hret hlk at_236 (.int (1 : Int32)) rfl (Or.inl ⟨rfl, by simp, _, rfl⟩) (by decide) (by decide) ?_
          exact ⟨rfl, (Fr.app (Fr.app (Fr.app (Fr.app (Fr.app N211 N215q) N219q) N226q) (Fr.nil _)) (Fr.nil _))⟩
        · -- pc 43: f
          refine own_iconst X0 hx hby at_46 rfl (1 : Int32) rfl ?_
          refine own_goto X0 hx hby at_47 (pc' := 51) (by decide) ?_
          refine own_istore X0 hx hby at_51 rfl #[.val (.int x0), .val (.int x1), .val (.int x2), .val (.int x3), .val (.int (0 : Int32)), .val (.int (1 : Int32)), .val (.int (1 : Int32)), .val (.int (1 : Int32)), .unset, .unset, .unset, .unset, .unset, .unset, .unset, .unset] rfl ?_
          refine own_iconst X0 hx hby at_53 rfl (1 : Int32) rfl ?_
          refine own_newarray X0 hx hby hZ (aty := .char) (hw _ tw_0) e0 (by decide) 1 (by decide) (by decide) (by decide) (by decide) .char rfl [(.int (0 : Int32))] rfl at_54 rfl (fun T233 h233 b233 k233 X233 e233 g233 E233 V233 => ?_)
          have ge_b233 : n0 ≤ b233 := own_ge O g233
          refine own_astore X233 hx hby at_56 rfl #[.val (.int x0), .val (.int x1), .val (.int x2), .val (.int x3), .val (.int (0 : Int32)), .val (.int (1 : Int32)), .val (.int (1 : Int32)), .val (.int (1 : Int32)), .val (.ref b233), .unset, .unset, .unset, .unset, .unset, .unset, .unset] rfl rfl ?_
          refine own_aload X233 hx hby at_58 rfl rfl rfl ?_
          refine own_iconst X233 hx hby at_60 rfl (0 : Int32) rfl ?_
          refine own_iloadN X233 hx hby at_61 rfl rfl ?_
          refine own_sipush X233 hx hby at_62 rfl (255 : Int32) rfl ?_
          refine own_iand X233 hx hby at_65 rfl ?_
          refine own_i2c X233 hx hby at_66 rfl ?_
          refine own_castore X233 hx hby hZ (x2 &&& (255 : Int32)) (own_charv x2) e233 V233 (by decide) 0 rfl (show 0 < 1 by decide) [(.int (x2 &&& (255 : Int32)))] rfl (own_charf x2) N0 ge_b233 at_67 rfl (fun T234 h234 L234 X234 e234 W234 V234 N234 => ?_)
          refine own_iload X234 hx hby at_68 rfl rfl ?_
          refine own_if_eq X234 hx hby at_70 (pcY := 77) (pcN := 73) (by decide) rfl (fun (hc235 : (1 : Int32) = (0 : Int32)) => False.elim (by exact absurd hc235 (by decide))) (fun (hc235 : ¬ (1 : Int32) = (0 : Int32)) => ?_)
          refine own_aconstNull X234 hx hby at_73 rfl ?_
          refine own_goto X234 hx hby at_74 (pc' := 86) (by decide) ?_
          refine own_astore X234 hx hby at_86 rfl #[.val (.int x0), .val (.int x1), .val (.int x2), .val (.int x3), .val (.int (0 : Int32)), .val (.int (1 : Int32)), .val (.int (1 : Int32)), .val (.int (1 : Int32)), .val (.ref b233), .val .null, .unset, .unset, .unset, .unset, .unset, .unset] rfl rfl ?_
          refine own_iload X234 hx hby at_88 rfl rfl ?_
          refine own_if_eq X234 hx hby at_90 (pcY := 105) (pcN := 93) (by decide) rfl (fun (hc236 : (1 : Int32) = (0 : Int32)) => False.elim (by exact absurd hc236 (by decide))) (fun (hc236 : ¬ (1 : Int32) = (0 : Int32)) => ?_)
          refine own_iloadN X234 hx hby at_93 rfl rfl ?_
          refine own_sipush X234 hx hby at_94 rfl (255 : Int32) rfl ?_
          refine own_iand X234 hx hby at_97 rfl ?_
          refine own_i2c X234 hx hby at_98 rfl ?_
          have f238 := ((O.ext E233).wr W234 ge_b233)
          refine own_static X234 hx hby hZ (argsL := [(.int (x3 &&& (255 : Int32)).toUInt32.toUInt16.toUInt32.toInt32)]) (rest := []) hown (hw _ tw_60) (hw _ tw_61) (hw _ tw_3) (hw _ tw_62) (by decide) (rm11 l Z a0 hw (x3 &&& (255 : Int32)).toUInt32.toUInt16.toUInt32.toInt32 h234 n0 G f238 (own_mc _)) e234 (by rw [hml]; rfl) pd_12 rfl (by decide) (W := 0) (Nat.le_refl _) (by decide) (by decide) (by decide) at_99 rfl rfl (fun v237 T237 L237 X237 hQ237 => ?_)
          obtain ⟨b237, rfl, N237q, K237, gq237, sq237, A237⟩ := hQ237
          show Ends p.tables e below _ (T237.setTop (mkF m 102 #[.val (.int x0), .val (.int x1), .val (.int x2), .val (.int x3), .val (.int (0 : Int32)), .val (.int (1 : Int32)), .val (.int (1 : Int32)), .val (.int (1 : Int32)), .val (.ref b233), .val .null, .unset, .unset, .unset, .unset, .unset, .unset] [(.ref b237)]))
          refine own_goto X237 hx hby at_102 (pc' := 106) (by decide) ?_
          refine own_astore X237 hx hby at_106 rfl #[.val (.int x0), .val (.int x1), .val (.int x2), .val (.int x3), .val (.int (0 : Int32)), .val (.int (1 : Int32)), .val (.int (1 : Int32)), .val (.int (1 : Int32)), .val (.ref b233), .val .null, .val (.ref b237), .unset, .unset, .unset, .unset, .unset] rfl rfl ?_
          refine own_aconstNull X237 hx hby at_108 rfl ?_
          refine own_astore X237 hx hby at_109 rfl #[.val (.int x0), .val (.int x1), .val (.int x2), .val (.int x3), .val (.int (0 : Int32)), .val (.int (1 : Int32)), .val (.int (1 : Int32)), .val (.int (1 : Int32)), .val (.ref b233), .val .null, .val (.ref b237), .val .null, .unset, .unset, .unset, .unset] rfl rfl ?_
          refine own_aconstNull X237 hx hby at_111 rfl ?_
          refine own_astore X237 hx hby at_112 rfl #[.val (.int x0), .val (.int x1), .val (.int x2), .val (.int x3), .val (.int (0 : Int32)), .val (.int (1 : Int32)), .val (.int (1 : Int32)), .val (.int (1 : Int32)), .val (.ref b233), .val .null, .val (.ref b237), .val .null, .val .null, .unset, .unset, .unset] rfl rfl ?_
          refine own_iload X237 hx hby at_114 rfl rfl ?_
          refine own_if_eq X237 hx hby at_116 (pcY := 158) (pcN := 119) (by decide) rfl (fun (hc239 : (0 : Int32) = (0 : Int32)) => ?_) (fun (hc239 : ¬ (0 : Int32) = (0 : Int32)) => False.elim (by exact absurd hc239 (by decide)))
          have f241 := (f238.keep K237 all0)
          refine own_new X237 hx hby hZ hown (hw _ tw_30) (hw _ tw_31) (hw _ tw_32) rfl (by decide) (by decide) at_158 rfl (fun T240 h240 b240 X240 e240 g240 E240 A240 D240 => ?_)
          have ge_b240 : n0 ≤ b240 := own_ge f241 g240
          have ne_b237_b240 : b237 ≠ b240 := own_lt A237.lt g240
          have f242 := (V234.keep K237 nin0)
          have ne_b233_b240 : b233 ≠ b240 := own_lt f242.lt g240
          have F240_key : Fld Z h240 b240 "com/example/weftwork/weftwork/io/Gml$Entry" "key" "Ljava/lang/String;" .null := D240 (Or.inr (hw _ tw_43)) (ty := (.object "java/lang/String")) (by decide)
          have F240_line : Fld Z h240 b240 "com/example/weftwork/weftwork/io/Gml$Entry" "line" "I" (.int (0 : Int32)) := D240 (Or.inr (hw _ tw_45)) (ty := .int) (by decide)
          have F240_scalar : Fld Z h240 b240 "com/example/weftwork/weftwork/io/Gml$Entry" "scalar" "Ljava/lang/String;" .null := D240 (Or.inr (hw _ tw_47)) (ty := (.object "java/lang/String")) (by decide)
          have F240_list : Fld Z h240 b240 "com/example/weftwork/weftwork/io/Gml$Entry" "list" "Ljava/util/List;" .null := D240 (Or.inr (hw _ tw_49)) (ty := (.object "java/util/List")) (by decide)
          refine own_dup X240 hx hby at_161 rfl rfl ?_
          refine own_aload X240 hx hby at_162 rfl rfl rfl ?_
          refine own_iloadN X240 hx hby at_164 rfl rfl ?_
          refine own_aload X240 hx hby at_165 rfl rfl rfl ?_
          refine own_aload X240 hx hby at_167 rfl rfl rfl ?_
          refine own_special X240 hx hby hZ (a := b240) (argsL := [.null, (.int x1), (.ref b237), .null]) (rest := [(.ref b240)]) hown rfl (hw _ tw_33) (hw _ tw_34) (hw _ tw_32) (hw _ tw_35) (by decide) (rm7 l Z a0 hw b240 x1 h240 n0 .null (.ref b237) .null rfl rfl rfl ge_b240 A240 F240_key F240_line F240_scalar F240_list) e240 (by rw [hml]; rfl) pd_9 rfl (by decide) (W := 1) (Nat.le_refl _) (by decide) (by decide) (by decide) at_169 rfl rfl (fun v243 T243 L243 X243 hQ243 => ?_)
          obtain ⟨rfl, N243q, K243, Fl243⟩ := hQ243
          show Ends p.tables e below _ (T243.setTop (mkF m 172 #[.val (.int x0), .val (.int x1), .val (.int x2), .val (.int x3), .val (.int (0 : Int32)), .val (.int (1 : Int32)), .val (.int (1 : Int32)), .val (.int (1 : Int32)), .val (.ref b233), .val .null, .val (.ref b237), .val .null, .val .null, .unset, .unset, .unset] [(.ref b240)]))
          refine own_astore X243 hx hby at_172 rfl #[.val (.int x0), .val (.int x1), .val (.int x2), .val (.int x3), .val (.int (0 : Int32)), .val (.int (1 : Int32)), .val (.int (1 : Int32)), .val (.int (1 : Int32)), .val (.ref b233), .val .null, .val (.ref b237), .val .null, .val .null, .val (.ref b240), .unset, .unset] rfl rfl ?_
          refine own_aload X243 hx hby at_174 rfl rfl rfl ?_
          have f245 := (A240.keep K243)
          refine own_virtual X243 hx hby hZ (Cn := "com/example/weftwork/weftwork/io/Gml$Entry") (a := b240) (argsL := []) (rest := []) hown (hw _ tw_50) (hw _ tw_51) (hw _ tw_53) (hw _ tw_52) (hw _ tw_32) (hw _ tw_54) (by decide) (rm9_n l Z a0 hw b240 T243.heap 0 Fl243) f245 rfl (by rw [hml]; rfl) pd_10 rfl (by decide) (W := 0) (Nat.le_refl _) (by decide) (by decide) (by decide) at_176 rfl rfl (fun v244 T244 L244 X244 hQ244 => ?_)
          obtain ⟨rfl, rfl, e244⟩ := hQ244
          show Ends p.tables e below _ (T244.setTop (mkF m 179 #[.val (.int x0), .val (.int x1), .val (.int x2), .val (.int x3), .val (.int (0 : Int32)), .val (.int (1 : Int32)), .val (.int (1 : Int32)), .val (.int (1 : Int32)), .val (.ref b233), .val .null, .val (.ref b237), .val .null, .val .null, .val (.ref b240), .unset, .unset] [(.int (0 : Int32))]))
          refine own_istore X244 hx hby at_179 rfl #[.val (.int x0), .val (.int x1), .val (.int x2), .val (.int x3), .val (.int (0 : Int32)), .val (.int (1 : Int32)), .val (.int (1 : Int32)), .val (.int (1 : Int32)), .val (.ref b233), .val .null, .val (.ref b237), .val .null, .val .null, .val (.ref b240), .val (.int (0 : Int32)), .unset] rfl ?_
          refine own_aload X244 hx hby at_181 rfl rfl rfl ?_
          refine own_ifnullYes X244 hx hby at_183 (pcY := 194) (by decide) ?_
          refine own_iconst X244 hx hby at_194 rfl (1 : Int32) rfl ?_
          refine own_goto X244 hx hby at_195 (pc' := 199) (by decide) ?_
          refine own_istore X244 hx hby at_199 rfl #[.val (.int x0), .val (.int x1), .val (.int x2), .val (.int x3), .val (.int (0 : Int32)), .val (.int (1 : Int32)), .val (.int (1 : Int32)), .val (.int (1 : Int32)), .val (.ref b233), .val .null, .val (.ref b237), .val .null, .val .null, .val (.ref b240), .val (.int (0 : Int32)), .val (.int (1 : Int32))] rfl ?_
          refine own_iload X244 hx hby at_201 rfl rfl ?_
          refine own_iload X244 hx hby at_203 rfl rfl ?_
          refine own_icmp_ne X244 hx hby at_205 (pcY := 235) (pcN := 208) (by decide) rfl (fun (hc246 : ¬ (0 : Int32) = (0 : Int32)) => False.elim (by exact absurd hc246 (by decide))) (fun (hc246 : (0 : Int32) = (0 : Int32)) => ?_)
          refine own_iload X244 hx hby at_208 rfl rfl ?_
          refine own_aload X244 hx hby at_210 rfl rfl rfl ?_
          refine own_virtual X244 hx hby hZ (Cn := "com/example/weftwork/weftwork/io/Gml$Entry") (a := b240) (argsL := []) (rest := [(.int (0 : Int32))]) hown (hw _ tw_55) (hw _ tw_56) (hw _ tw_58) (hw _ tw_57) (hw _ tw_32) (hw _ tw_59) (by decide) (rm10_n l Z a0 hw b240 T243.heap 0 Fl243) f245 e244 (by rw [hml]; rfl) pd_11 rfl (by decide) (W := 1) (Nat.le_refl _) (by decide) (by decide) (by decide) at_212 rfl rfl (fun v247 T247 L247 X247 hQ247 => ?_)
          obtain ⟨rfl, rfl, e247⟩ := hQ247
          show Ends p.tables e below _ (T247.setTop (mkF m 215 #[.val (.int x0), .val (.int x1), .val (.int x2), .val (.int x3), .val (.int (0 : Int32)), .val (.int (1 : Int32)), .val (.int (1 : Int32)), .val (.int (1 : Int32)), .val (.ref b233), .val .null, .val (.ref b237), .val .null, .val .null, .val (.ref b240), .val (.int (0 : Int32)), .val (.int (1 : Int32))] [.null, (.int (0 : Int32))]))
          refine own_ifnullYes X247 hx hby at_215 (pcY := 222) (by decide) ?_
          refine own_iconst X247 hx hby at_222 rfl (0 : Int32) rfl ?_
          refine own_icmp_ne X247 hx hby at_223 (pcY := 235) (pcN := 226) (by decide) rfl (fun (hc248 : ¬ (0 : Int32) = (0 : Int32)) => False.elim (by exact absurd hc248 (by decide))) (fun (hc248 : (0 : Int32) = (0 : Int32)) => ?_)
          refine own_iload X247 hx hby at_226 rfl rfl ?_
          refine own_if_eq X247 hx hby at_228 (pcY := 235) (pcN := 231) (by decide) rfl (fun (hc249 : (1 : Int32) = (0 : Int32)) => False.elim (by exact absurd hc249 (by decide))) (fun (hc249 : ¬ (1 : Int32) = (0 : Int32)) => ?_)
          refine own_iconst X247 hx hby at_231 rfl (1 : Int32) rfl ?_
          refine own_goto X247 hx hby at_232 (pc' := 236) (by decide) ?_
          refine own_ret X247 hx hby hret hlk at_236 (.int (1 : Int32)) rfl (Or.inl ⟨rfl, by simp, _, rfl⟩) (by decide) (by decide) ?_
          exact ⟨rfl, (Fr.app (Fr.app (Fr.app (Fr.app N234 N237q) N243q) (Fr.nil _)) (Fr.nil _))⟩
  · -- pc 3: f
    refine own_iconst X0 hx hby at_6 rfl (1 : Int32) rfl ?_
    refine own_goto X0 hx hby at_7 (pc' := 11) (by decide) ?_
    refine own_istore X0 hx hby at_11 rfl #[.val (.int x0), .val (.int x1), .val (.int x2), .val (.int x3), .val (.int (1 : Int32)), .unset, .unset, .unset, .unset, .unset, .unset, .unset, .unset, .unset, .unset, .unset] rfl ?_
    refine own_iloadN X0 hx hby at_13 rfl rfl ?_
    refine own_iconst X0 hx hby at_14 rfl (2 : Int32) rfl ?_
    refine own_iand X0 hx hby at_15 rfl ?_
    refine own_if_eq X0 hx hby at_16 (pcY := 23) (pcN := 19) (by decide) rfl (fun (hc250 : (x0 &&& (2 : Int32)) = (0 : Int32)) => ?_) (fun (hc250 : ¬ (x0 &&& (2 : Int32)) = (0 : Int32)) => ?_)
    · -- pc 16: t
      refine own_iconst X0 hx hby at_23 rfl (0 : Int32) rfl ?_
      refine own_istore X0 hx hby at_24 rfl #[.val (.int x0), .val (.int x1), .val (.int x2), .val (.int x3), .val (.int (1 : Int32)), .val (.int (0 : Int32)), .unset, .unset, .unset, .unset, .unset, .unset, .unset, .unset, .unset, .unset] rfl ?_
      refine own_iloadN X0 hx hby at_26 rfl rfl ?_
      refine own_iconst X0 hx hby at_27 rfl (4 : Int32) rfl ?_
      refine own_iand X0 hx hby at_28 rfl ?_
      refine own_if_eq X0 hx hby at_29 (pcY := 36) (pcN := 32) (by decide) rfl (fun (hc251 : (x0 &&& (4 : Int32)) = (0 : Int32)) => ?_) (fun (hc251 : ¬ (x0 &&& (4 : Int32)) = (0 : Int32)) => ?_)
      · -- pc 29: t
        refine own_iconst X0 hx hby at_36 rfl (0 : Int32) rfl ?_
        refine own_istore X0 hx hby at_37 rfl #[.val (.int x0), .val (.int x1), .val (.int x2), .val (.int x3), .val (.int (1 : Int32)), .val (.int (0 : Int32)), .val (.int (0 : Int32)), .unset, .unset, .unset, .unset, .unset, .unset, .unset, .unset, .unset] rfl ?_
        refine own_iloadN X0 hx hby at_39 rfl rfl ?_
        refine own_bipush X0 hx hby at_40 rfl (8 : Int32) rfl ?_
        refine own_iand X0 hx hby at_42 rfl ?_
        refine own_if_eq X0 hx hby at_43 (pcY := 50) (pcN := 46) (by decide) rfl (fun (hc252 : (x0 &&& (8 : Int32)) = (0 : Int32)) => ?_) (fun (hc252 : ¬ (x0 &&& (8 : Int32)) = (0 : Int32)) => ?_)
        · -- pc 43: t
          refine own_iconst X0 hx hby at_50 rfl (0 : Int32) rfl ?_
          refine own_istore X0 hx hby at_51 rfl #[.val (.int x0), .val (.int x1), .val (.int x2), .val (.int x3), .val (.int (1 : Int32)), .val (.int (0 : Int32)), .val (.int (0 : Int32)), .val (.int (0 : Int32)), .unset, .unset, .unset, .unset, .unset, .unset, .unset, .unset] rfl ?_
          refine own_iconst X0 hx hby at_53 rfl (1 : Int32) rfl ?_
          refine own_newarray X0 hx hby hZ (aty := .char) (hw _ tw_0) e0 (by decide) 1 (by decide) (by decide) (by decide) (by decide) .char rfl [(.int (0 : Int32))] rfl at_54 rfl (fun T253 h253 b253 k253 X253 e253 g253 E253 V253 => ?_)
          have ge_b253 : n0 ≤ b253 := own_ge O g253
          refine own_astore X253 hx hby at_56 rfl #[.val (.int x0), .val (.int x1), .val (.int x2), .val (.int x3), .val (.int (1 : Int32)), .val (.int (0 : Int32)), .val (.int (0 : Int32)), .val (.int (0 : Int32)), .val (.ref b253), .unset, .unset, .unset, .unset, .unset, .unset, .unset] rfl rfl ?_
          refine own_aload X253 hx hby at_58 rfl rfl rfl ?_
          refine own_iconst X253 hx hby at_60 rfl (0 : Int32) rfl ?_
          refine own_iloadN X253 hx hby at_61 rfl rfl ?_
          refine own_sipush X253 hx hby at_62 rfl (255 : Int32) rfl ?_
          refine own_iand X253 hx hby at_65 rfl ?_
          refine own_i2c X253 hx hby at_66 rfl ?_
          refine own_castore X253 hx hby hZ (x2 &&& (255 : Int32)) (own_charv x2) e253 V253 (by decide) 0 rfl (show 0 < 1 by decide) [(.int (x2 &&& (255 : Int32)))] rfl (own_charf x2) N0 ge_b253 at_67 rfl (fun T254 h254 L254 X254 e254 W254 V254 N254 => ?_)
          refine own_iload X254 hx hby at_68 rfl rfl ?_
          refine own_if_eq X254 hx hby at_70 (pcY := 77) (pcN := 73) (by decide) rfl (fun (hc255 : (0 : Int32) = (0 : Int32)) => ?_) (fun (hc255 : ¬ (0 : Int32) = (0 : Int32)) => False.elim (by exact absurd hc255 (by decide)))
          have f257 := ((O.ext E253).wr W254 ge_b253)
          refine own_new X254 hx hby hZ hown (hw _ tw_1) (hw _ tw_2) (hw _ tw_3) e254 (by decide) (by decide) at_77 rfl (fun T256 h256 b256 X256 e256 g256 E256 A256 D256 => ?_)
          have ge_b256 : n0 ≤ b256 := own_ge f257 g256
          have ne_b253_b256 : b253 ≠ b256 := own_lt V254.lt g256
          have F256_coder : Fld Z h256 b256 "java/lang/String" "coder" "B" (.int (0 : Int32)) := D256 (Or.inr (hw _ tw_27)) (ty := .byte) (by decide)
          have F256_value : Fld Z h256 b256 "java/lang/String" "value" "[B" .null := D256 (Or.inr (hw _ tw_29)) (ty := (.array .byte)) (by decide)
          refine own_dup X256 hx hby at_80 rfl rfl ?_
          refine own_aload X256 hx hby at_81 rfl rfl rfl ?_
          have f259 := (f257.ext E256)
          have f260 := (V254.ext E256)
          refine own_specialB X256 hx hby hZ (kc := 1) (ks := 1) (a := b256) (argsL := [(.ref b253)]) (rest := [(.ref b256)]) hown rfl (hw _ tw_4) (hw _ tw_5) (hw _ tw_6) (by decide) (StrChars.Road.backV (W := 1) hZ (own_hws hw) (kI := 4) (hw _ tw_2) (cs := [x2 &&& (255 : Int32)]) (bs := [(x2 &&& (255 : Int32)).toInt8.toInt32]) (n := 1) (n0 := n0) ge_b256 (own_ge' f259) A256 F256_value F256_coder f260 (G.1.ext f259.2) G.2.1 rfl rfl (by decide) (by decide) (own_chars x2) rfl (by decide) (by decide)) e256 (by rw [hml]; rfl) pd_8 rfl (Nat.le_refl _) (by decide) (by decide) at_83 rfl rfl (fun v258 T258 L258 X258 hQ258 => ?_)
          obtain ⟨rfl, N258q, K258, A258, -, -, -, -, -, -, -, -⟩ := hQ258
          show Ends p.tables e below _ (T258.setTop (mkF m 86 #[.val (.int x0), .val (.int x1), .val (.int x2), .val (.int x3), .val (.int (1 : Int32)), .val (.int (0 : Int32)), .val (.int (0 : Int32)), .val (.int (0 : Int32)), .val (.ref b253), .unset, .unset, .unset, .unset, .unset, .unset, .unset] [(.ref b256)]))
          refine own_astore X258 hx hby at_86 rfl #[.val (.int x0), .val (.int x1), .val (.int x2), .val (.int x3), .val (.int (1 : Int32)), .val (.int (0 : Int32)), .val (.int (0 : Int32)), .val (.int (0 : Int32)), .val (.ref b253), .val (.ref b256), .unset, .unset, .unset, .unset, .unset, .unset] rfl rfl ?_
          refine own_iload X258 hx hby at_88 rfl rfl ?_
          refine own_if_eq X258 hx hby at_90 (pcY := 105) (pcN := 93) (by decide) rfl (fun (hc261 : (0 : Int32) = (0 : Int32)) => ?_) (fun (hc261 : ¬ (0 : Int32) = (0 : Int32)) => False.elim (by exact absurd hc261 (by decide)))
          refine own_aconstNull X258 hx hby at_105 rfl ?_
          refine own_astore X258 hx hby at_106 rfl #[.val (.int x0), .val (.int x1), .val (.int x2), .val (.int x3), .val (.int (1 : Int32)), .val (.int (0 : Int32)), .val (.int (0 : Int32)), .val (.int (0 : Int32)), .val (.ref b253), .val (.ref b256), .val .null, .unset, .unset, .unset, .unset, .unset] rfl rfl ?_
          refine own_aconstNull X258 hx hby at_108 rfl ?_
          refine own_astore X258 hx hby at_109 rfl #[.val (.int x0), .val (.int x1), .val (.int x2), .val (.int x3), .val (.int (1 : Int32)), .val (.int (0 : Int32)), .val (.int (0 : Int32)), .val (.int (0 : Int32)), .val (.ref b253), .val (.ref b256), .val .null, .val .null, .unset, .unset, .unset, .unset] rfl rfl ?_
          refine own_aconstNull X258 hx hby at_111 rfl ?_
          refine own_astore X258 hx hby at_112 rfl #[.val (.int x0), .val (.int x1), .val (.int x2), .val (.int x3), .val (.int (1 : Int32)), .val (.int (0 : Int32)), .val (.int (0 : Int32)), .val (.int (0 : Int32)), .val (.ref b253), .val (.ref b256), .val .null, .val .null, .val .null, .unset, .unset, .unset] rfl rfl ?_
          refine own_iload X258 hx hby at_114 rfl rfl ?_
          refine own_if_eq X258 hx hby at_116 (pcY := 158) (pcN := 119) (by decide) rfl (fun (hc262 : (1 : Int32) = (0 : Int32)) => False.elim (by exact absurd hc262 (by decide))) (fun (hc262 : ¬ (1 : Int32) = (0 : Int32)) => ?_)
          have f264 := (f259.keep K258 (allS ge_b256 all0))
          refine own_new X258 hx hby hZ hown (hw _ tw_74) (hw _ tw_75) (hw _ tw_76) rfl (by decide) (by decide) at_119 rfl (fun T263 h263 b263 X263 e263 g263 E263 A263 D263 => ?_)
          have ge_b263 : n0 ≤ b263 := own_ge f264 g263
          have f265 := (f260.keep K258 (ninS ne_b253_b256 nin0))
          have ne_b253_b263 : b253 ≠ b263 := own_lt f265.lt g263
          have f266 := (A256.keep K258)
          have ne_b256_b263 : b256 ≠ b263 := own_lt f266.lt g263
          have F263_modCount : Fld Z h263 b263 "java/util/AbstractList" "modCount" "I" (.int (0 : Int32)) := D263 (Or.inl (hw _ tw_94)) (ty := .int) (by decide)
          have F263_elementData : Fld Z h263 b263 "java/util/ArrayList" "elementData" "[Ljava/lang/Object;" .null := D263 (Or.inl (hw _ tw_97)) (ty := (.array (.object "java/lang/Object"))) (by decide)
          have F263_size : Fld Z h263 b263 "java/util/ArrayList" "size" "I" (.int (0 : Int32)) := D263 (Or.inl (hw _ tw_110)) (ty := .int) (by decide)
          refine own_dup X263 hx hby at_122 rfl rfl ?_
          have f268 := (f264.ext E263)
          refine own_special X263 hx hby hZ (a := b263) (argsL := []) (rest := [(.ref b263)]) hown rfl (hw _ tw_77) (hw _ tw_78) (hw _ tw_76) (hw _ tw_79) (by decide) (rm15 l Z a0 hw b263 h263 n0 G f268 ge_b263 A263 F263_modCount F263_elementData F263_size) e263 (by rw [hml]; rfl) pd_0 rfl (by decide) (W := 1) (Nat.le_refl _) (by decide) (by decide) (by decide) at_123 rfl rfl (fun v267 T267 L267 X267 hQ267 => ?_)
          obtain ⟨rfl, N267q, K267, Fm267, Fe267, Fs267⟩ := hQ267
          show Ends p.tables e below _ (T267.setTop (mkF m 126 #[.val (.int x0), .val (.int x1), .val (.int x2), .val (.int x3), .val (.int (1 : Int32)), .val (.int (0 : Int32)), .val (.int (0 : Int32)), .val (.int (0 : Int32)), .val (.ref b253), .val (.ref b256), .val .null, .val .null, .val .null, .unset, .unset, .unset] [(.ref b263)]))
          refine own_astore X267 hx hby at_126 rfl #[.val (.int x0), .val (.int x1), .val (.int x2), .val (.int x3), .val (.int (1 : Int32)), .val (.int (0 : Int32)), .val (.int (0 : Int32)), .val (.int (0 : Int32)), .val (.ref b253), .val (.ref b256), .val .null, .val (.ref b263), .val .null, .unset, .unset, .unset] rfl rfl ?_
          refine own_iload X267 hx hby at_128 rfl rfl ?_
          refine own_if_eq X267 hx hby at_130 (pcY := 158) (pcN := 133) (by decide) rfl (fun (hc269 : (0 : Int32) = (0 : Int32)) => ?_) (fun (hc269 : ¬ (0 : Int32) = (0 : Int32)) => False.elim (by exact absurd hc269 (by decide)))
          have f271 := (f268.keep K267 (allS ge_b263 all0))
          refine own_new X267 hx hby hZ hown (hw _ tw_30) (hw _ tw_31) (hw _ tw_32) rfl (by decide) (by decide) at_158 rfl (fun T270 h270 b270 X270 e270 g270 E270 A270 D270 => ?_)
          have ge_b270 : n0 ≤ b270 := own_ge f271 g270
          have ne_b263_b270 : b263 ≠ b270 := own_lt Fm267.lt g270
          have f272 := ((f265.ext E263).keep K267 (ninS ne_b253_b263 nin0))
          have ne_b253_b270 : b253 ≠ b270 := own_lt f272.lt g270
          have f273 := ((f266.ext E263).keep K267)
          have ne_b256_b270 : b256 ≠ b270 := own_lt f273.lt g270
          have F270_key : Fld Z h270 b270 "com/example/weftwork/weftwork/io/Gml$Entry" "key" "Ljava/lang/String;" .null := D270 (Or.inr (hw _ tw_43)) (ty := (.object "java/lang/String")) (by decide)
          have F270_line : Fld Z h270 b270 "com/example/weftwork/weftwork/io/Gml$Entry" "line" "I" (.int (0 : Int32)) := D270 (Or.inr (hw _ tw_45)) (ty := .int) (by decide)
          have F270_scalar : Fld Z h270 b270 "com/example/weftwork/weftwork/io/Gml$Entry" "scalar" "Ljava/lang/String;" .null := D270 (Or.inr (hw _ tw_47)) (ty := (.object "java/lang/String")) (by decide)
          have F270_list : Fld Z h270 b270 "com/example/weftwork/weftwork/io/Gml$Entry" "list" "Ljava/util/List;" .null := D270 (Or.inr (hw _ tw_49)) (ty := (.object "java/util/List")) (by decide)
          refine own_dup X270 hx hby at_161 rfl rfl ?_
          refine own_aload X270 hx hby at_162 rfl rfl rfl ?_
          refine own_iloadN X270 hx hby at_164 rfl rfl ?_
          refine own_aload X270 hx hby at_165 rfl rfl rfl ?_
          refine own_aload X270 hx hby at_167 rfl rfl rfl ?_
          refine own_special X270 hx hby hZ (a := b270) (argsL := [(.ref b256), (.int x1), .null, (.ref b263)]) (rest := [(.ref b270)]) hown rfl (hw _ tw_33) (hw _ tw_34) (hw _ tw_32) (hw _ tw_35) (by decide) (rm7 l Z a0 hw b270 x1 h270 n0 (.ref b256) .null (.ref b263) rfl rfl rfl ge_b270 A270 F270_key F270_line F270_scalar F270_list) e270 (by rw [hml]; rfl) pd_9 rfl (by decide) (W := 1) (Nat.le_refl _) (by decide) (by decide) (by decide) at_169 rfl rfl (fun v274 T274 L274 X274 hQ274 => ?_)
          obtain ⟨rfl, N274q, K274, Fl274⟩ := hQ274
          show Ends p.tables e below _ (T274.setTop (mkF m 172 #[.val (.int x0), .val (.int x1), .val (.int x2), .val (.int x3), .val (.int (1 : Int32)), .val (.int (0 : Int32)), .val (.int (0 : Int32)), .val (.int (0 : Int32)), .val (.ref b253), .val (.ref b256), .val .null, .val (.ref b263), .val .null, .unset, .unset, .unset] [(.ref b270)]))
          refine own_astore X274 hx hby at_172 rfl #[.val (.int x0), .val (.int x1), .val (.int x2), .val (.int x3), .val (.int (1 : Int32)), .val (.int (0 : Int32)), .val (.int (0 : Int32)), .val (.int (0 : Int32)), .val (.ref b253), .val (.ref b256), .val .null, .val (.ref b263), .val .null, .val (.ref b270), .unset, .unset] rfl rfl ?_
          refine own_aload X274 hx hby at_174 rfl rfl rfl ?_
          have f276 := (A270.keep K274)
          refine own_virtual X274 hx hby hZ (Cn := "com/example/weftwork/weftwork/io/Gml$Entry") (a := b270) (argsL := []) (rest := []) hown (hw _ tw_50) (hw _ tw_51) (hw _ tw_53) (hw _ tw_52) (hw _ tw_32) (hw _ tw_54) (by decide) (rm9_r l Z a0 hw b270 T274.heap b263 Fl274) f276 rfl (by rw [hml]; rfl) pd_10 rfl (by decide) (W := 0) (Nat.le_refl _) (by decide) (by decide) (by decide) at_176 rfl rfl (fun v275 T275 L275 X275 hQ275 => ?_)
          obtain ⟨rfl, rfl, e275⟩ := hQ275
          show Ends p.tables e below _ (T275.setTop (mkF m 179 #[.val (.int x0), .val (.int x1), .val (.int x2), .val (.int x3), .val (.int (1 : Int32)), .val (.int (0 : Int32)), .val (.int (0 : Int32)), .val (.int (0 : Int32)), .val (.ref b253), .val (.ref b256), .val .null, .val (.ref b263), .val .null, .val (.ref b270), .unset, .unset] [(.int (1 : Int32))]))
          refine own_istore X275 hx hby at_179 rfl #[.val (.int x0), .val (.int x1), .val (.int x2), .val (.int x3), .val (.int (1 : Int32)), .val (.int (0 : Int32)), .val (.int (0 : Int32)), .val (.int (0 : Int32)), .val (.ref b253), .val (.ref b256), .val .null, .val (.ref b263), .val .null, .val (.ref b270), .val (.int (1 : Int32)), .unset] rfl ?_
          refine own_aload X275 hx hby at_181 rfl rfl rfl ?_
          refine own_ifnullYes X275 hx hby at_183 (pcY := 194) (by decide) ?_
          refine own_iconst X275 hx hby at_194 rfl (1 : Int32) rfl ?_
          refine own_goto X275 hx hby at_195 (pc' := 199) (by decide) ?_
          refine own_istore X275 hx hby at_199 rfl #[.val (.int x0), .val (.int x1), .val (.int x2), .val (.int x3), .val (.int (1 : Int32)), .val (.int (0 : Int32)), .val (.int (0 : Int32)), .val (.int (0 : Int32)), .val (.ref b253), .val (.ref b256), .val .null, .val (.ref b263), .val .null, .val (.ref b270), .val (.int (1 : Int32)), .val (.int (1 : Int32))] rfl ?_
          refine own_iload X275 hx hby at_201 rfl rfl ?_
          refine own_iload X275 hx hby at_203 rfl rfl ?_
          refine own_icmp_ne X275 hx hby at_205 (pcY := 235) (pcN := 208) (by decide) rfl (fun (hc277 : ¬ (1 : Int32) = (1 : Int32)) => False.elim (by exact absurd hc277 (by decide))) (fun (hc277 : (1 : Int32) = (1 : Int32)) => ?_)
          refine own_iload X275 hx hby at_208 rfl rfl ?_
          refine own_aload X275 hx hby at_210 rfl rfl rfl ?_
          refine own_virtual X275 hx hby hZ (Cn := "com/example/weftwork/weftwork/io/Gml$Entry") (a := b270) (argsL := []) (rest := [(.int (1 : Int32))]) hown (hw _ tw_55) (hw _ tw_56) (hw _ tw_58) (hw _ tw_57) (hw _ tw_32) (hw _ tw_59) (by decide) (rm10_r l Z a0 hw b270 T274.heap b263 Fl274) f276 e275 (by rw [hml]; rfl) pd_11 rfl (by decide) (W := 1) (Nat.le_refl _) (by decide) (by decide) (by decide) at_212 rfl rfl (fun v278 T278 L278 X278 hQ278 => ?_)
          obtain ⟨rfl, rfl, e278⟩ := hQ278
          show Ends p.tables e below _ (T278.setTop (mkF m 215 #[.val (.int x0), .val (.int x1), .val (.int x2), .val (.int x3), .val (.int (1 : Int32)), .val (.int (0 : Int32)), .val (.int (0 : Int32)), .val (.int (0 : Int32)), .val (.ref b253), .val (.ref b256), .val .null, .val (.ref b263), .val .null, .val (.ref b270), .val (.int (1 : Int32)), .val (.int (1 : Int32))] [(.ref b263), (.int (1 : Int32))]))
          refine own_ifnullNo X278 hx hby at_215 rfl ?_
          refine own_iconst X278 hx hby at_218 rfl (1 : Int32) rfl ?_
          refine own_goto X278 hx hby at_219 (pc' := 223) (by decide) ?_
          refine own_icmp_ne X278 hx hby at_223 (pcY := 235) (pcN := 226) (by decide) rfl (fun (hc279 : ¬ (1 : Int32) = (1 : Int32)) => False.elim (by exact absurd hc279 (by decide))) (fun (hc279 : (1 : Int32) = (1 : Int32)) => ?_)
          refine own_iload X278 hx hby at_226 rfl rfl ?_
          refine own_if_eq X278 hx hby at_228 (pcY := 235) (pcN := 231) (by decide) rfl (fun (hc280 : (1 : Int32) = (0 : Int32)) => False.elim (by exact absurd hc280 (by decide))) (fun (hc280 : ¬ (1 : Int32) = (0 : Int32)) => ?_)
          refine own_iconst X278 hx hby at_231 rfl (1 : Int32) rfl ?_
          refine own_goto X278 hx hby at_232 (pc' := 236) (by decide) ?_
          refine own_ret X278 hx hby hret hlk at_236 (.int (1 : Int32)) rfl (Or.inl ⟨rfl, by simp, _, rfl⟩) (by decide) (by decide) ?_
          exact ⟨rfl, (Fr.app (Fr.app (Fr.app (Fr.app (Fr.app N254 N258q) N267q) N274q) (Fr.nil _)) (Fr.nil _))⟩
        · -- pc 43: f
          refine own_iconst X0 hx hby at_46 rfl (1 : Int32) rfl ?_
          refine own_goto X0 hx hby at_47 (pc' := 51) (by decide) ?_
          refine own_istore X0 hx hby at_51 rfl #[.val (.int x0), .val (.int x1), .val (.int x2), .val (.int x3), .val (.int (1 : Int32)), .val (.int (0 : Int32)), .val (.int (0 : Int32)), .val (.int (1 : Int32)), .unset, .unset, .unset, .unset, .unset, .unset, .unset, .unset] rfl ?_
          refine own_iconst X0 hx hby at_53 rfl (1 : Int32) rfl ?_
          refine own_newarray X0 hx hby hZ (aty := .char) (hw _ tw_0) e0 (by decide) 1 (by decide) (by decide) (by decide) (by decide) .char rfl [(.int (0 : Int32))] rfl at_54 rfl (fun T281 h281 b281 k281 X281 e281 g281 E281 V281 => ?_)
          have ge_b281 : n0 ≤ b281 := own_ge O g281
          refine own_astore X281 hx hby at_56 rfl #[.val (.int x0), .val (.int x1), .val (.int x2), .val (.int x3), .val (.int (1 : Int32)), .val (.int (0 : Int32)), .val (.int (0 : Int32)), .val (.int (1 : Int32)), .val (.ref b281), .unset, .unset, .unset, .unset, .unset, .unset, .unset] rfl rfl ?_
          refine own_aload X281 hx hby at_58 rfl rfl rfl ?_
          refine own_iconst X281 hx hby at_60 rfl (0 : Int32) rfl ?_
          refine own_iloadN X281 hx hby at_61 rfl rfl ?_
          refine own_sipush X281 hx hby at_62 rfl (255 : Int32) rfl ?_
          refine own_iand X281 hx hby at_65 rfl ?_
          refine own_i2c X281 hx hby at_66 rfl ?_
          refine own_castore X281 hx hby hZ (x2 &&& (255 : Int32)) (own_charv x2) e281 V281 (by decide) 0 rfl (show 0 < 1 by decide) [(.int (x2 &&& (255 : Int32)))] rfl (own_charf x2) N0 ge_b281 at_67 rfl (fun T282 h282 L282 X282 e282 W282 V282 N282 => ?_)
          refine own_iload X282 hx hby at_68 rfl rfl ?_
          refine own_if_eq X282 hx hby at_70 (pcY := 77) (pcN := 73) (by decide) rfl (fun (hc283 : (1 : Int32) = (0 : Int32)) => False.elim (by exact absurd hc283 (by decide))) (fun (hc283 : ¬ (1 : Int32) = (0 : Int32)) => ?_)
          refine own_aconstNull X282 hx hby at_73 rfl ?_
          refine own_goto X282 hx hby at_74 (pc' := 86) (by decide) ?_
          refine own_astore X282 hx hby at_86 rfl #[.val (.int x0), .val (.int x1), .val (.int x2), .val (.int x3), .val (.int (1 : Int32)), .val (.int (0 : Int32)), .val (.int (0 : Int32)), .val (.int (1 : Int32)), .val (.ref b281), .val .null, .unset, .unset, .unset, .unset, .unset, .unset] rfl rfl ?_
          refine own_iload X282 hx hby at_88 rfl rfl ?_
          refine own_if_eq X282 hx hby at_90 (pcY := 105) (pcN := 93) (by decide) rfl (fun (hc284 : (0 : Int32) = (0 : Int32)) => ?_) (fun (hc284 : ¬ (0 : Int32) = (0 : Int32)) => False.elim (by exact absurd hc284 (by decide)))
          refine own_aconstNull X282 hx hby at_105 rfl ?_
          refine own_astore X282 hx hby at_106 rfl #[.val (.int x0), .val (.int x1), .val (.int x2), .val (.int x3), .val (.int (1 : Int32)), .val (.int (0 : Int32)), .val (.int (0 : Int32)), .val (.int (1 : Int32)), .val (.ref b281), .val .null, .val .null, .unset, .unset, .unset, .unset, .unset] rfl rfl ?_
          refine own_aconstNull X282 hx hby at_108 rfl ?_
          refine own_astore X282 hx hby at_109 rfl #[.val (.int x0), .val (.int x1), .val (.int x2), .val (.int x3), .val (.int (1 : Int32)), .val (.int (0 : Int32)), .val (.int (0 : Int32)), .val (.int (1 : Int32)), .val (.ref b281), .val .null, .val .null, .val .null, .unset, .unset, .unset, .unset] rfl rfl ?_
          refine own_aconstNull X282 hx hby at_111 rfl ?_
          refine own_astore X282 hx hby at_112 rfl #[.val (.int x0), .val (.int x1), .val (.int x2), .val (.int x3), .val (.int (1 : Int32)), .val (.int (0 : Int32)), .val (.int (0 : Int32)), .val (.int (1 : Int32)), .val (.ref b281), .val .null, .val .null, .val .null, .val .null, .unset, .unset, .unset] rfl rfl ?_
          refine own_iload X282 hx hby at_114 rfl rfl ?_
          refine own_if_eq X282 hx hby at_116 (pcY := 158) (pcN := 119) (by decide) rfl (fun (hc285 : (1 : Int32) = (0 : Int32)) => False.elim (by exact absurd hc285 (by decide))) (fun (hc285 : ¬ (1 : Int32) = (0 : Int32)) => ?_)
          have f287 := ((O.ext E281).wr W282 ge_b281)
          refine own_new X282 hx hby hZ hown (hw _ tw_74) (hw _ tw_75) (hw _ tw_76) e282 (by decide) (by decide) at_119 rfl (fun T286 h286 b286 X286 e286 g286 E286 A286 D286 => ?_)
          have ge_b286 : n0 ≤ b286 := own_ge f287 g286
          have ne_b281_b286 : b281 ≠ b286 := own_lt V282.lt g286
          have F286_modCount : Fld Z h286 b286 "java/util/AbstractList" "modCount" "I" (.int (0 : Int32)) := D286 (Or.inl (hw _ tw_94)) (ty := .int) (by decide)
          have F286_elementData : Fld Z h286 b286 "java/util/ArrayList" "elementData" "[Ljava/lang/Object;" .null := D286 (Or.inl (hw _ tw_97)) (ty := (.array (.object "java/lang/Object"))) (by decide)
          have F286_size : Fld Z h286 b286 "java/util/ArrayList" "size" "I" (.int (0 : Int32)) := D286 (Or.inl (hw _ tw_110)) (ty := .int) (by decide)
          refine own_dup X286 hx hby at_122 rfl rfl ?_
          have f289 := (f287.ext E286)
          refine own_special X286 hx hby hZ (a := b286) (argsL := []) (rest := [(.ref b286)]) hown rfl (hw _ tw_77) (hw _ tw_78) (hw _ tw_76) (hw _ tw_79) (by decide) (rm15 l Z a0 hw b286 h286 n0 G f289 ge_b286 A286 F286_modCount F286_elementData F286_size) e286 (by rw [hml]; rfl) pd_0 rfl (by decide) (W := 1) (Nat.le_refl _) (by decide) (by decide) (by decide) at_123 rfl rfl (fun v288 T288 L288 X288 hQ288 => ?_)
          obtain ⟨rfl, N288q, K288, Fm288, Fe288, Fs288⟩ := hQ288
          show Ends p.tables e below _ (T288.setTop (mkF m 126 #[.val (.int x0), .val (.int x1), .val (.int x2), .val (.int x3), .val (.int (1 : Int32)), .val (.int (0 : Int32)), .val (.int (0 : Int32)), .val (.int (1 : Int32)), .val (.ref b281), .val .null, .val .null, .val .null, .val .null, .unset, .unset, .unset] [(.ref b286)]))
          refine own_astore X288 hx hby at_126 rfl #[.val (.int x0), .val (.int x1), .val (.int x2), .val (.int x3), .val (.int (1 : Int32)), .val (.int (0 : Int32)), .val (.int (0 : Int32)), .val (.int (1 : Int32)), .val (.ref b281), .val .null, .val .null, .val (.ref b286), .val .null, .unset, .unset, .unset] rfl rfl ?_
          refine own_iload X288 hx hby at_128 rfl rfl ?_
          refine own_if_eq X288 hx hby at_130 (pcY := 158) (pcN := 133) (by decide) rfl (fun (hc290 : (0 : Int32) = (0 : Int32)) => ?_) (fun (hc290 : ¬ (0 : Int32) = (0 : Int32)) => False.elim (by exact absurd hc290 (by decide)))
          have f292 := (f289.keep K288 (allS ge_b286 all0))
          refine own_new X288 hx hby hZ hown (hw _ tw_30) (hw _ tw_31) (hw _ tw_32) rfl (by decide) (by decide) at_158 rfl (fun T291 h291 b291 X291 e291 g291 E291 A291 D291 => ?_)
          have ge_b291 : n0 ≤ b291 := own_ge f292 g291
          have ne_b286_b291 : b286 ≠ b291 := own_lt Fm288.lt g291
          have f293 := ((V282.ext E286).keep K288 (ninS ne_b281_b286 nin0))
          have ne_b281_b291 : b281 ≠ b291 := own_lt f293.lt g291
          have F291_key : Fld Z h291 b291 "com/example/weftwork/weftwork/io/Gml$Entry" "key" "Ljava/lang/String;" .null := D291 (Or.inr (hw _ tw_43)) (ty := (.object "java/lang/String")) (by decide)
          have F291_line : Fld Z h291 b291 "com/example/weftwork/weftwork/io/Gml$Entry" "line" "I" (.int (0 : Int32)) := D291 (Or.inr (hw _ tw_45)) (ty := .int) (by decide)
          have F291_scalar : Fld Z h291 b291 "com/example/weftwork/weftwork/io/Gml$Entry" "scalar" "Ljava/lang/String;" .null := D291 (Or.inr (hw _ tw_47)) (ty := (.object "java/lang/String")) (by decide)
          have F291_list : Fld Z h291 b291 "com/example/weftwork/weftwork/io/Gml$Entry" "list" "Ljava/util/List;" .null := D291 (Or.inr (hw _ tw_49)) (ty := (.object "java/util/List")) (by decide)
          refine own_dup X291 hx hby at_161 rfl rfl ?_
          refine own_aload X291 hx hby at_162 rfl rfl rfl ?_
          refine own_iloadN X291 hx hby at_164 rfl rfl ?_
          refine own_aload X291 hx hby at_165 rfl rfl rfl ?_
          refine own_aload X291 hx hby at_167 rfl rfl rfl ?_
          refine own_special X291 hx hby hZ (a := b291) (argsL := [.null, (.int x1), .null, (.ref b286)]) (rest := [(.ref b291)]) hown rfl (hw _ tw_33) (hw _ tw_34) (hw _ tw_32) (hw _ tw_35) (by decide) (rm7 l Z a0 hw b291 x1 h291 n0 .null .null (.ref b286) rfl rfl rfl ge_b291 A291 F291_key F291_line F291_scalar F291_list) e291 (by rw [hml]; rfl) pd_9 rfl (by decide) (W := 1) (Nat.le_refl _) (by decide) (by decide) (by decide) at_169 rfl rfl (fun v294 T294 L294 X294 hQ294 => ?_)
          obtain ⟨rfl, N294q, K294, Fl294⟩ := hQ294
          show Ends p.tables e below _ (T294.setTop (mkF m 172 #[.val (.int x0), .val (.int x1), .val (.int x2), .val (.int x3), .val (.int (1 : Int32)), .val (.int (0 : Int32)), .val (.int (0 : Int32)), .val (.int (1 : Int32)), .val (.ref b281), .val .null, .val .null, .val (.ref b286), .val .null, .unset, .unset, .unset] [(.ref b291)]))
          refine own_astore X294 hx hby at_172 rfl #[.val (.int x0), .val (.int x1), .val (.int x2), .val (.int x3), .val (.int (1 : Int32)), .val (.int (0 : Int32)), .val (.int (0 : Int32)), .val (.int (1 : Int32)), .val (.ref b281), .val .null, .val .null, .val (.ref b286), .val .null, .val (.ref b291), .unset, .unset] rfl rfl ?_
          refine own_aload X294 hx hby at_174 rfl rfl rfl ?_
          have f296 := (A291.keep K294)
          refine own_virtual X294 hx hby hZ (Cn := "com/example/weftwork/weftwork/io/Gml$Entry") (a := b291) (argsL := []) (rest := []) hown (hw _ tw_50) (hw _ tw_51) (hw _ tw_53) (hw _ tw_52) (hw _ tw_32) (hw _ tw_54) (by decide) (rm9_r l Z a0 hw b291 T294.heap b286 Fl294) f296 rfl (by rw [hml]; rfl) pd_10 rfl (by decide) (W := 0) (Nat.le_refl _) (by decide) (by decide) (by decide) at_176 rfl rfl (fun v295 T295 L295 X295 hQ295 => ?_)
          obtain ⟨rfl, rfl, e295⟩ := hQ295
          show Ends p.tables e below _ (T295.setTop (mkF m 179 #[.val (.int x0), .val (.int x1), .val (.int x2), .val (.int x3), .val (.int (1 : Int32)), .val (.int (0 : Int32)), .val (.int (0 : Int32)), .val (.int (1 : Int32)), .val (.ref b281), .val .null, .val .null, .val (.ref b286), .val .null, .val (.ref b291), .unset, .unset] [(.int (1 : Int32))]))
          refine own_istore X295 hx hby at_179 rfl #[.val (.int x0), .val (.int x1), .val (.int x2), .val (.int x3), .val (.int (1 : Int32)), .val (.int (0 : Int32)), .val (.int (0 : Int32)), .val (.int (1 : Int32)), .val (.ref b281), .val .null, .val .null, .val (.ref b286), .val .null, .val (.ref b291), .val (.int (1 : Int32)), .unset] rfl ?_
          refine own_aload X295 hx hby at_181 rfl rfl rfl ?_
          refine own_ifnullYes X295 hx hby at_183 (pcY := 194) (by decide) ?_
          refine own_iconst X295 hx hby at_194 rfl (1 : Int32) rfl ?_
          refine own_goto X295 hx hby at_195 (pc' := 199) (by decide) ?_
          refine own_istore X295 hx hby at_199 rfl #[.val (.int x0), .val (.int x1), .val (.int x2), .val (.int x3), .val (.int (1 : Int32)), .val (.int (0 : Int32)), .val (.int (0 : Int32)), .val (.int (1 : Int32)), .val (.ref b281), .val .null, .val .null, .val (.ref b286), .val .null, .val (.ref b291), .val (.int (1 : Int32)), .val (.int (1 : Int32))] rfl ?_
          refine own_iload X295 hx hby at_201 rfl rfl ?_
          refine own_iload X295 hx hby at_203 rfl rfl ?_
          refine own_icmp_ne X295 hx hby at_205 (pcY := 235) (pcN := 208) (by decide) rfl (fun (hc297 : ¬ (1 : Int32) = (1 : Int32)) => False.elim (by exact absurd hc297 (by decide))) (fun (hc297 : (1 : Int32) = (1 : Int32)) => ?_)
          refine own_iload X295 hx hby at_208 rfl rfl ?_
          refine own_aload X295 hx hby at_210 rfl rfl rfl ?_
          refine own_virtual X295 hx hby hZ (Cn := "com/example/weftwork/weftwork/io/Gml$Entry") (a := b291) (argsL := []) (rest := [(.int (1 : Int32))]) hown (hw _ tw_55) (hw _ tw_56) (hw _ tw_58) (hw _ tw_57) (hw _ tw_32) (hw _ tw_59) (by decide) (rm10_r l Z a0 hw b291 T294.heap b286 Fl294) f296 e295 (by rw [hml]; rfl) pd_11 rfl (by decide) (W := 1) (Nat.le_refl _) (by decide) (by decide) (by decide) at_212 rfl rfl (fun v298 T298 L298 X298 hQ298 => ?_)
          obtain ⟨rfl, rfl, e298⟩ := hQ298
          show Ends p.tables e below _ (T298.setTop (mkF m 215 #[.val (.int x0), .val (.int x1), .val (.int x2), .val (.int x3), .val (.int (1 : Int32)), .val (.int (0 : Int32)), .val (.int (0 : Int32)), .val (.int (1 : Int32)), .val (.ref b281), .val .null, .val .null, .val (.ref b286), .val .null, .val (.ref b291), .val (.int (1 : Int32)), .val (.int (1 : Int32))] [(.ref b286), (.int (1 : Int32))]))
          refine own_ifnullNo X298 hx hby at_215 rfl ?_
          refine own_iconst X298 hx hby at_218 rfl (1 : Int32) rfl ?_
          refine own_goto X298 hx hby at_219 (pc' := 223) (by decide) ?_
          refine own_icmp_ne X298 hx hby at_223 (pcY := 235) (pcN := 226) (by decide) rfl (fun (hc299 : ¬ (1 : Int32) = (1 : Int32)) => False.elim (by exact absurd hc299 (by decide))) (fun (hc299 : (1 : Int32) = (1 : Int32)) => ?_)
          refine own_iload X298 hx hby at_226 rfl rfl ?_
          refine own_if_eq X298 hx hby at_228 (pcY := 235) (pcN := 231) (by decide) rfl (fun (hc300 : (1 : Int32) = (0 : Int32)) => False.elim (by exact absurd hc300 (by decide))) (fun (hc300 : ¬ (1 : Int32) = (0 : Int32)) => ?_)
          refine own_iconst X298 hx hby at_231 rfl (1 : Int32) rfl ?_
          refine own_goto X298 hx hby at_232 (pc' := 236) (by decide) ?_
          refine own_ret X298 hx hby hret hlk at_236 (.int (1 : Int32)) rfl (Or.inl ⟨rfl, by simp, _, rfl⟩) (by decide) (by decide) ?_
          exact ⟨rfl, (Fr.app (Fr.app (Fr.app (Fr.app N282 N288q) N294q) (Fr.nil _)) (Fr.nil _))⟩
      · -- pc 29: f
        refine own_iconst X0 hx hby at_32 rfl (1 : Int32) rfl ?_
        refine own_goto X0 hx hby at_33 (pc' := 37) (by decide) ?_
        refine own_istore X0 hx hby at_37 rfl #[.val (.int x0), .val (.int x1), .val (.int x2), .val (.int x3), .val (.int (1 : Int32)), .val (.int (0 : Int32)), .val (.int (1 : Int32)), .unset, .unset, .unset, .unset, .unset, .unset, .unset, .unset, .unset] rfl ?_
        refine own_iloadN X0 hx hby at_39 rfl rfl ?_
        refine own_bipush X0 hx hby at_40 rfl (8 : Int32) rfl ?_
        refine own_iand X0 hx hby at_42 rfl ?_
        refine own_if_eq X0 hx hby at_43 (pcY := 50) (pcN := 46) (by decide) rfl (fun (hc301 : (x0 &&& (8 : Int32)) = (0 : Int32)) => ?_) (fun (hc301 : ¬ (x0 &&& (8 : Int32)) = (0 : Int32)) => ?_)
        · -- pc 43: t
          refine own_iconst X0 hx hby at_50 rfl (0 : Int32) rfl ?_
          refine own_istore X0 hx hby at_51 rfl #[.val (.int x0), .val (.int x1), .val (.int x2), .val (.int x3), .val (.int (1 : Int32)), .val (.int (0 : Int32)), .val (.int (1 : Int32)), .val (.int (0 : Int32)), .unset, .unset, .unset, .unset, .unset, .unset, .unset, .unset] rfl ?_
          refine own_iconst X0 hx hby at_53 rfl (1 : Int32) rfl ?_
          refine own_newarray X0 hx hby hZ (aty := .char) (hw _ tw_0) e0 (by decide) 1 (by decide) (by decide) (by decide) (by decide) .char rfl [(.int (0 : Int32))] rfl at_54 rfl (fun T302 h302 b302 k302 X302 e302 g302 E302 V302 => ?_)
          have ge_b302 : n0 ≤ b302 := own_ge O g302
          refine own_astore X302 hx hby at_56 rfl #[.val (.int x0), .val (.int x1), .val (.int x2), .val (.int x3), .val (.int (1 : Int32)), .val (.int (0 : Int32)), .val (.int (1 : Int32)), .val (.int (0 : Int32)), .val (.ref b302), .unset, .unset, .unset, .unset, .unset, .unset, .unset] rfl rfl ?_
          refine own_aload X302 hx hby at_58 rfl rfl rfl ?_
          refine own_iconst X302 hx hby at_60 rfl (0 : Int32) rfl ?_
          refine own_iloadN X302 hx hby at_61 rfl rfl ?_
          refine own_sipush X302 hx hby at_62 rfl (255 : Int32) rfl ?_
          refine own_iand X302 hx hby at_65 rfl ?_
          refine own_i2c X302 hx hby at_66 rfl ?_
          refine own_castore X302 hx hby hZ (x2 &&& (255 : Int32)) (own_charv x2) e302 V302 (by decide) 0 rfl (show 0 < 1 by decide) [(.int (x2 &&& (255 : Int32)))] rfl (own_charf x2) N0 ge_b302 at_67 rfl (fun T303 h303 L303 X303 e303 W303 V303 N303 => ?_)
          refine own_iload X303 hx hby at_68 rfl rfl ?_
          refine own_if_eq X303 hx hby at_70 (pcY := 77) (pcN := 73) (by decide) rfl (fun (hc304 : (0 : Int32) = (0 : Int32)) => ?_) (fun (hc304 : ¬ (0 : Int32) = (0 : Int32)) => False.elim (by exact absurd hc304 (by decide)))
          have f306 := ((O.ext E302).wr W303 ge_b302)
          refine own_new X303 hx hby hZ hown (hw _ tw_1) (hw _ tw_2) (hw _ tw_3) e303 (by decide) (by decide) at_77 rfl (fun T305 h305 b305 X305 e305 g305 E305 A305 D305 => ?_)
          have ge_b305 : n0 ≤ b305 := own_ge f306 g305
          have ne_b302_b305 : b302 ≠ b305 := own_lt V303.lt g305
          have F305_coder : Fld Z h305 b305 "java/lang/String" "coder" "B" (.int (0 : Int32)) := D305 (Or.inr (hw _ tw_27)) (ty := .byte) (by decide)
          have F305_value : Fld Z h305 b305 "java/lang/String" "value" "[B" .null := D305 (Or.inr (hw _ tw_29)) (ty := (.array .byte)) (by decide)
          refine own_dup X305 hx hby at_80 rfl rfl ?_
          refine own_aload X305 hx hby at_81 rfl rfl rfl ?_
          have f308 := (f306.ext E305)
          have f309 := (V303.ext E305)
          refine own_specialB X305 hx hby hZ (kc := 1) (ks := 1) (a := b305) (argsL := [(.ref b302)]) (rest := [(.ref b305)]) hown rfl (hw _ tw_4) (hw _ tw_5) (hw _ tw_6) (by decide) (StrChars.Road.backV (W := 1) hZ (own_hws hw) (kI := 4) (hw _ tw_2) (cs := [x2 &&& (255 : Int32)]) (bs := [(x2 &&& (255 : Int32)).toInt8.toInt32]) (n := 1) (n0 := n0) ge_b305 (own_ge' f308) A305 F305_value F305_coder f309 (G.1.ext f308.2) G.2.1 rfl rfl (by decide) (by decide) (own_chars x2) rfl (by decide) (by decide)) e305 (by rw [hml]; rfl) pd_8 rfl (Nat.le_refl _) (by decide) (by decide) at_83 rfl rfl (fun v307 T307 L307 X307 hQ307 => ?_)
          obtain ⟨rfl, N307q, K307, A307, -, -, -, -, -, -, -, -⟩ := hQ307
          show Ends p.tables e below _ (T307.setTop (mkF m 86 #[.val (.int x0), .val (.int x1), .val (.int x2), .val (.int x3), .val (.int (1 : Int32)), .val (.int (0 : Int32)), .val (.int (1 : Int32)), .val (.int (0 : Int32)), .val (.ref b302), .unset, .unset, .unset, .unset, .unset, .unset, .unset] [(.ref b305)]))
          refine own_astore X307 hx hby at_86 rfl #[.val (.int x0), .val (.int x1), .val (.int x2), .val (.int x3), .val (.int (1 : Int32)), .val (.int (0 : Int32)), .val (.int (1 : Int32)), .val (.int (0 : Int32)), .val (.ref b302), .val (.ref b305), .unset, .unset, .unset, .unset, .unset, .unset] rfl rfl ?_
          refine own_iload X307 hx hby at_88 rfl rfl ?_
          refine own_if_eq X307 hx hby at_90 (pcY := 105) (pcN := 93) (by decide) rfl (fun (hc310 : (0 : Int32) = (0 : Int32)) => ?_) (fun (hc310 : ¬ (0 : Int32) = (0 : Int32)) => False.elim (by exact absurd hc310 (by decide)))
          refine own_aconstNull X307 hx hby at_105 rfl ?_
          refine own_astore X307 hx hby at_106 rfl #[.val (.int x0), .val (.int x1), .val (.int x2), .val (.int x3), .val (.int (1 : Int32)), .val (.int (0 : Int32)), .val (.int (1 : Int32)), .val (.int (0 : Int32)), .val (.ref b302), .val (.ref b305), .val .null, .unset, .unset, .unset, .unset, .unset] rfl rfl ?_
          refine own_aconstNull X307 hx hby at_108 rfl ?_
          refine own_astore X307 hx hby at_109 rfl #[.val (.int x0), .val (.int x1), .val (.int x2), .val (.int x3), .val (.int (1 : Int32)), .val (.int (0 : Int32)), .val (.int (1 : Int32)), .val (.int (0 : Int32)), .val (.ref b302), .val (.ref b305), .val .null, .val .null, .unset, .unset, .unset, .unset] rfl rfl ?_
          refine own_aconstNull X307 hx hby at_111 rfl ?_
          refine own_astore X307 hx hby at_112 rfl #[.val (.int x0), .val (.int x1), .val (.int x2), .val (.int x3), .val (.int (1 : Int32)), .val (.int (0 : Int32)), .val (.int (1 : Int32)), .val (.int (0 : Int32)), .val (.ref b302), .val (.ref b305), .val .null, .val .null, .val .null, .unset, .unset, .unset] rfl rfl ?_
          refine own_iload X307 hx hby at_114 rfl rfl ?_
          refine own_if_eq X307 hx hby at_116 (pcY := 158) (pcN := 119) (by decide) rfl (fun (hc311 : (1 : Int32) = (0 : Int32)) => False.elim (by exact absurd hc311 (by decide))) (fun (hc311 : ¬ (1 : Int32) = (0 : Int32)) => ?_)
          have f313 := (f308.keep K307 (allS ge_b305 all0))
          refine own_new X307 hx hby hZ hown (hw _ tw_74) (hw _ tw_75) (hw _ tw_76) rfl (by decide) (by decide) at_119 rfl (fun T312 h312 b312 X312 e312 g312 E312 A312 D312 => ?_)
          have ge_b312 : n0 ≤ b312 := own_ge f313 g312
          have f314 := (f309.keep K307 (ninS ne_b302_b305 nin0))
          have ne_b302_b312 : b302 ≠ b312 := own_lt f314.lt g312
          have f315 := (A305.keep K307)
          have ne_b305_b312 : b305 ≠ b312 := own_lt f315.lt g312
          have F312_modCount : Fld Z h312 b312 "java/util/AbstractList" "modCount" "I" (.int (0 : Int32)) := D312 (Or.inl (hw _ tw_94)) (ty := .int) (by decide)
          have F312_elementData : Fld Z h312 b312 "java/util/ArrayList" "elementData" "[Ljava/lang/Object;" .null := D312 (Or.inl (hw _ tw_97)) (ty := (.array (.object "java/lang/Object"))) (by decide)
          have F312_size : Fld Z h312 b312 "java/util/ArrayList" "size" "I" (.int (0 : Int32)) := D312 (Or.inl (hw _ tw_110)) (ty := .int) (by decide)
          refine own_dup X312 hx hby at_122 rfl rfl ?_
          have f317 := (f313.ext E312)
          refine own_special X312 hx hby hZ (a := b312) (argsL := []) (rest := [(.ref b312)]) hown rfl (hw _ tw_77) (hw _ tw_78) (hw _ tw_76) (hw _ tw_79) (by decide) (rm15 l Z a0 hw b312 h312 n0 G f317 ge_b312 A312 F312_modCount F312_elementData F312_size) e312 (by rw [hml]; rfl) pd_0 rfl (by decide) (W := 1) (Nat.le_refl _) (by decide) (by decide) (by decide) at_123 rfl rfl (fun v316 T316 L316 X316 hQ316 => ?_)
          obtain ⟨rfl, N316q, K316, Fm316, Fe316, Fs316⟩ := hQ316
          show Ends p.tables e below _ (T316.setTop (mkF m 126 #[.val (.int x0), .val (.int x1), .val (.int x2), .val (.int x3), .val (.int (1 : Int32)), .val (.int (0 : Int32)), .val (.int (1 : Int32)), .val (.int (0 : Int32)), .val (.ref b302), .val (.ref b305), .val .null, .val .null, .val .null, .unset, .unset, .unset] [(.ref b312)]))
          refine own_astore X316 hx hby at_126 rfl #[.val (.int x0), .val (.int x1), .val (.int x2), .val (.int x3), .val (.int (1 : Int32)), .val (.int (0 : Int32)), .val (.int (1 : Int32)), .val (.int (0 : Int32)), .val (.ref b302), .val (.ref b305), .val .null, .val (.ref b312), .val .null, .unset, .unset, .unset] rfl rfl ?_
          refine own_iload X316 hx hby at_128 rfl rfl ?_
          refine own_if_eq X316 hx hby at_130 (pcY := 158) (pcN := 133) (by decide) rfl (fun (hc318 : (1 : Int32) = (0 : Int32)) => False.elim (by exact absurd hc318 (by decide))) (fun (hc318 : ¬ (1 : Int32) = (0 : Int32)) => ?_)
          have f320 := (f317.keep K316 (allS ge_b312 all0))
          refine own_new X316 hx hby hZ hown (hw _ tw_30) (hw _ tw_31) (hw _ tw_32) rfl (by decide) (by decide) at_133 rfl (fun T319 h319 b319 X319 e319 g319 E319 A319 D319 => ?_)
          have ge_b319 : n0 ≤ b319 := own_ge f320 g319
          have ne_b312_b319 : b312 ≠ b319 := own_lt Fm316.lt g319
          have f321 := ((f314.ext E312).keep K316 (ninS ne_b302_b312 nin0))
          have ne_b302_b319 : b302 ≠ b319 := own_lt f321.lt g319
          have f322 := ((f315.ext E312).keep K316)
          have ne_b305_b319 : b305 ≠ b319 := own_lt f322.lt g319
          have F319_key : Fld Z h319 b319 "com/example/weftwork/weftwork/io/Gml$Entry" "key" "Ljava/lang/String;" .null := D319 (Or.inr (hw _ tw_43)) (ty := (.object "java/lang/String")) (by decide)
          have F319_line : Fld Z h319 b319 "com/example/weftwork/weftwork/io/Gml$Entry" "line" "I" (.int (0 : Int32)) := D319 (Or.inr (hw _ tw_45)) (ty := .int) (by decide)
          have F319_scalar : Fld Z h319 b319 "com/example/weftwork/weftwork/io/Gml$Entry" "scalar" "Ljava/lang/String;" .null := D319 (Or.inr (hw _ tw_47)) (ty := (.object "java/lang/String")) (by decide)
          have F319_list : Fld Z h319 b319 "com/example/weftwork/weftwork/io/Gml$Entry" "list" "Ljava/util/List;" .null := D319 (Or.inr (hw _ tw_49)) (ty := (.object "java/util/List")) (by decide)
          refine own_dup X319 hx hby at_136 rfl rfl ?_
          refine own_aload X319 hx hby at_137 rfl rfl rfl ?_
          refine own_iloadN X319 hx hby at_139 rfl rfl ?_
          refine own_aload X319 hx hby at_140 rfl rfl rfl ?_
          refine own_aconstNull X319 hx hby at_142 rfl ?_
          refine own_special X319 hx hby hZ (a := b319) (argsL := [(.ref b305), (.int x1), .null, .null]) (rest := [(.ref b319)]) hown rfl (hw _ tw_33) (hw _ tw_34) (hw _ tw_32) (hw _ tw_35) (by decide) (rm7 l Z a0 hw b319 x1 h319 n0 (.ref b305) .null .null rfl rfl rfl ge_b319 A319 F319_key F319_line F319_scalar F319_list) e319 (by rw [hml]; rfl) pd_9 rfl (by decide) (W := 1) (Nat.le_refl _) (by decide) (by decide) (by decide) at_143 rfl rfl (fun v323 T323 L323 X323 hQ323 => ?_)
          obtain ⟨rfl, N323q, K323, Fl323⟩ := hQ323
          show Ends p.tables e below _ (T323.setTop (mkF m 146 #[.val (.int x0), .val (.int x1), .val (.int x2), .val (.int x3), .val (.int (1 : Int32)), .val (.int (0 : Int32)), .val (.int (1 : Int32)), .val (.int (0 : Int32)), .val (.ref b302), .val (.ref b305), .val .null, .val (.ref b312), .val .null, .unset, .unset, .unset] [(.ref b319)]))
          refine own_astore X323 hx hby at_146 rfl #[.val (.int x0), .val (.int x1), .val (.int x2), .val (.int x3), .val (.int (1 : Int32)), .val (.int (0 : Int32)), .val (.int (1 : Int32)), .val (.int (0 : Int32)), .val (.ref b302), .val (.ref b305), .val .null, .val (.ref b312), .val (.ref b319), .unset, .unset, .unset] rfl rfl ?_
          refine own_aload X323 hx hby at_148 rfl rfl rfl ?_
          refine own_aload X323 hx hby at_150 rfl rfl rfl ?_
          have f325 := ((Fm316.ext E319).keep K323 (ninS ne_b312_b319 nin0))
          have f326 := ((Fe316.ext E319).keep K323 (ninS ne_b312_b319 nin0))
          have f327 := ((Fs316.ext E319).keep K323 (ninS ne_b312_b319 nin0))
          have f328 := ((f320.ext E319).keep K323 (allS ge_b319 all0))
          have f329 := (((A312.keep K316).ext E319).keep K323)
          have f330 := (A319.keep K323)
          refine own_interface X323 hx hby hZ (Cn := "java/util/ArrayList") (a := b312) (argsL := [(.ref b319)]) (rest := []) hown (hw _ tw_98) (hw _ tw_99) (hw _ tw_100) (hw _ tw_101) (hw _ tw_102) (hw _ tw_103) (hw _ tw_104) (hw _ tw_105) (hw _ tw_76) (hw _ tw_106) (by decide) (rm18 l Z a0 hw b312 b319 T323.heap n0 G f328 ge_b312 f329 f325 f326 f327 f330 ne_b312_b319) f329 rfl (by rw [hml]; rfl) pd_13 rfl (by decide) (W := 0) (Nat.le_refl _) (by decide) (by decide) (by decide) at_152 rfl rfl (fun v324 T324 L324 X324 hQ324 => ?_)
          obtain ⟨rfl, N324q, K324⟩ := hQ324
          show Ends p.tables e below _ (T324.setTop (mkF m 157 #[.val (.int x0), .val (.int x1), .val (.int x2), .val (.int x3), .val (.int (1 : Int32)), .val (.int (0 : Int32)), .val (.int (1 : Int32)), .val (.int (0 : Int32)), .val (.ref b302), .val (.ref b305), .val .null, .val (.ref b312), .val (.ref b319), .unset, .unset, .unset] [(.int (1 : Int32))]))
          refine own_pop X324 hx hby at_157 rfl rfl ?_
          have f332 := (f328.keep K324 (allS ge_b312 all0))
          refine own_new X324 hx hby hZ hown (hw _ tw_30) (hw _ tw_31) (hw _ tw_32) rfl (by decide) (by decide) at_158 rfl (fun T331 h331 b331 X331 e331 g331 E331 A331 D331 => ?_)
          have ge_b331 : n0 ≤ b331 := own_ge f332 g331
          have f333 := (f329.keep K324)
          have ne_b312_b331 : b312 ≠ b331 := own_lt f333.lt g331
          have f334 := (f330.keep K324)
          have ne_b319_b331 : b319 ≠ b331 := own_lt f334.lt g331
          have f335 := (((f321.ext E319).keep K323 (ninS ne_b302_b319 nin0)).keep K324 (ninS ne_b302_b312 nin0))
          have ne_b302_b331 : b302 ≠ b331 := own_lt f335.lt g331
          have f336 := (((f322.ext E319).keep K323).keep K324)
          have ne_b305_b331 : b305 ≠ b331 := own_lt f336.lt g331
          have F331_key : Fld Z h331 b331 "com/example/weftwork/weftwork/io/Gml$Entry" "key" "Ljava/lang/String;" .null := D331 (Or.inr (hw _ tw_43)) (ty := (.object "java/lang/String")) (by decide)
          have F331_line : Fld Z h331 b331 "com/example/weftwork/weftwork/io/Gml$Entry" "line" "I" (.int (0 : Int32)) := D331 (Or.inr (hw _ tw_45)) (ty := .int) (by decide)
          have F331_scalar : Fld Z h331 b331 "com/example/weftwork/weftwork/io/Gml$Entry" "scalar" "Ljava/lang/String;" .null := D331 (Or.inr (hw _ tw_47)) (ty := (.object "java/lang/String")) (by decide)
          have F331_list : Fld Z h331 b331 "com/example/weftwork/weftwork/io/Gml$Entry" "list" "Ljava/util/List;" .null := D331 (Or.inr (hw _ tw_49)) (ty := (.object "java/util/List")) (by decide)
          refine own_dup X331 hx hby at_161 rfl rfl ?_
          refine own_aload X331 hx hby at_162 rfl rfl rfl ?_
          refine own_iloadN X331 hx hby at_164 rfl rfl ?_
          refine own_aload X331 hx hby at_165 rfl rfl rfl ?_
          refine own_aload X331 hx hby at_167 rfl rfl rfl ?_
          refine own_special X331 hx hby hZ (a := b331) (argsL := [(.ref b305), (.int x1), .null, (.ref b312)]) (rest := [(.ref b331)]) hown rfl (hw _ tw_33) (hw _ tw_34) (hw _ tw_32) (hw _ tw_35) (by decide) (rm7 l Z a0 hw b331 x1 h331 n0 (.ref b305) .null (.ref b312) rfl rfl rfl ge_b331 A331 F331_key F331_line F331_scalar F331_list) e331 (by rw [hml]; rfl) pd_9 rfl (by decide) (W := 1) (Nat.le_refl _) (by decide) (by decide) (by decide) at_169 rfl rfl (fun v337 T337 L337 X337 hQ337 => ?_)
          obtain ⟨rfl, N337q, K337, Fl337⟩ := hQ337
          show Ends p.tables e below _ (T337.setTop (mkF m 172 #[.val (.int x0), .val (.int x1), .val (.int x2), .val (.int x3), .val (.int (1 : Int32)), .val (.int (0 : Int32)), .val (.int (1 : Int32)), .val (.int (0 : Int32)), .val (.ref b302), .val (.ref b305), .val .null, .val (.ref b312), .val (.ref b319), .unset, .unset, .unset] [(.ref b331)]))
          refine own_astore X337 hx hby at_172 rfl #[.val (.int x0), .val (.int x1), .val (.int x2), .val (.int x3), .val (.int (1 : Int32)), .val (.int (0 : Int32)), .val (.int (1 : Int32)), .val (.int (0 : Int32)), .val (.ref b302), .val (.ref b305), .val .null, .val (.ref b312), .val (.ref b319), .val (.ref b331), .unset, .unset] rfl rfl ?_
          refine own_aload X337 hx hby at_174 rfl rfl rfl ?_
          have f339 := (A331.keep K337)
          refine own_virtual X337 hx hby hZ (Cn := "com/example/weftwork/weftwork/io/Gml$Entry") (a := b331) (argsL := []) (rest := []) hown (hw _ tw_50) (hw _ tw_51) (hw _ tw_53) (hw _ tw_52) (hw _ tw_32) (hw _ tw_54) (by decide) (rm9_r l Z a0 hw b331 T337.heap b312 Fl337) f339 rfl (by rw [hml]; rfl) pd_10 rfl (by decide) (W := 0) (Nat.le_refl _) (by decide) (by decide) (by decide) at_176 rfl rfl (fun v338 T338 L338 X338 hQ338 => ?_)
          obtain ⟨rfl, rfl, e338⟩ := hQ338
          show Ends p.tables e below _ (T338.setTop (mkF m 179 #[.val (.int x0), .val (.int x1), .val (.int x2), .val (.int x3), .val (.int (1 : Int32)), .val (.int (0 : Int32)), .val (.int (1 : Int32)), .val (.int (0 : Int32)), .val (.ref b302), .val (.ref b305), .val .null, .val (.ref b312), .val (.ref b319), .val (.ref b331), .unset, .unset] [(.int (1 : Int32))]))
          refine own_istore X338 hx hby at_179 rfl #[.val (.int x0), .val (.int x1), .val (.int x2), .val (.int x3), .val (.int (1 : Int32)), .val (.int (0 : Int32)), .val (.int (1 : Int32)), .val (.int (0 : Int32)), .val (.ref b302), .val (.ref b305), .val .null, .val (.ref b312), .val (.ref b319), .val (.ref b331), .val (.int (1 : Int32)), .unset] rfl ?_
          refine own_aload X338 hx hby at_181 rfl rfl rfl ?_
          refine own_ifnullNo X338 hx hby at_183 rfl ?_
          refine own_aload X338 hx hby at_186 rfl rfl rfl ?_
          have f341 := (((Fl323.keep K324 (ninS (Ne.symm ne_b312_b319) nin0)).ext E331).keep K337 (ninS ne_b319_b331 nin0))
          have f342 := ((f334.ext E331).keep K337)
          refine own_virtual X338 hx hby hZ (Cn := "com/example/weftwork/weftwork/io/Gml$Entry") (a := b319) (argsL := []) (rest := []) hown (hw _ tw_50) (hw _ tw_51) (hw _ tw_53) (hw _ tw_52) (hw _ tw_32) (hw _ tw_54) (by decide) (rm9_n l Z a0 hw b319 T337.heap 0 f341) f342 e338 (by rw [hml]; rfl) pd_10 rfl (by decide) (W := 0) (Nat.le_refl _) (by decide) (by decide) (by decide) at_188 rfl rfl (fun v340 T340 L340 X340 hQ340 => ?_)
          obtain ⟨rfl, rfl, e340⟩ := hQ340
          show Ends p.tables e below _ (T340.setTop (mkF m 191 #[.val (.int x0), .val (.int x1), .val (.int x2), .val (.int x3), .val (.int (1 : Int32)), .val (.int (0 : Int32)), .val (.int (1 : Int32)), .val (.int (0 : Int32)), .val (.ref b302), .val (.ref b305), .val .null, .val (.ref b312), .val (.ref b319), .val (.ref b331), .val (.int (1 : Int32)), .unset] [(.int (0 : Int32))]))
          refine own_if_ne X340 hx hby at_191 (pcY := 198) (pcN := 194) (by decide) rfl (fun (hc343 : ¬ (0 : Int32) = (0 : Int32)) => False.elim (by exact absurd hc343 (by decide))) (fun (hc343 : (0 : Int32) = (0 : Int32)) => ?_)
          refine own_iconst X340 hx hby at_194 rfl (1 : Int32) rfl ?_
          refine own_goto X340 hx hby at_195 (pc' := 199) (by decide) ?_
          refine own_istore X340 hx hby at_199 rfl #[.val (.int x0), .val (.int x1), .val (.int x2), .val (.int x3), .val (.int (1 : Int32)), .val (.int (0 : Int32)), .val (.int (1 : Int32)), .val (.int (0 : Int32)), .val (.ref b302), .val (.ref b305), .val .null, .val (.ref b312), .val (.ref b319), .val (.ref b331), .val (.int (1 : Int32)), .val (.int (1 : Int32))] rfl ?_
          refine own_iload X340 hx hby at_201 rfl rfl ?_
          refine own_iload X340 hx hby at_203 rfl rfl ?_
          refine own_icmp_ne X340 hx hby at_205 (pcY := 235) (pcN := 208) (by decide) rfl (fun (hc344 : ¬ (1 : Int32) = (1 : Int32)) => False.elim (by exact absurd hc344 (by decide))) (fun (hc344 : (1 : Int32) = (1 : Int32)) => ?_)
          refine own_iload X340 hx hby at_208 rfl rfl ?_
          refine own_aload X340 hx hby at_210 rfl rfl rfl ?_
          refine own_virtual X340 hx hby hZ (Cn := "com/example/weftwork/weftwork/io/Gml$Entry") (a := b331) (argsL := []) (rest := [(.int (1 : Int32))]) hown (hw _ tw_55) (hw _ tw_56) (hw _ tw_58) (hw _ tw_57) (hw _ tw_32) (hw _ tw_59) (by decide) (rm10_r l Z a0 hw b331 T337.heap b312 Fl337) f339 e340 (by rw [hml]; rfl) pd_11 rfl (by decide) (W := 1) (Nat.le_refl _) (by decide) (by decide) (by decide) at_212 rfl rfl (fun v345 T345 L345 X345 hQ345 => ?_)
          obtain ⟨rfl, rfl, e345⟩ := hQ345
          show Ends p.tables e below _ (T345.setTop (mkF m 215 #[.val (.int x0), .val (.int x1), .val (.int x2), .val (.int x3), .val (.int (1 : Int32)), .val (.int (0 : Int32)), .val (.int (1 : Int32)), .val (.int (0 : Int32)), .val (.ref b302), .val (.ref b305), .val .null, .val (.ref b312), .val (.ref b319), .val (.ref b331), .val (.int (1 : Int32)), .val (.int (1 : Int32))] [(.ref b312), (.int (1 : Int32))]))
          refine own_ifnullNo X345 hx hby at_215 rfl ?_
          refine own_iconst X345 hx hby at_218 rfl (1 : Int32) rfl ?_
          refine own_goto X345 hx hby at_219 (pc' := 223) (by decide) ?_
          refine own_icmp_ne X345 hx hby at_223 (pcY := 235) (pcN := 226) (by decide) rfl (fun (hc346 : ¬ (1 : Int32) = (1 : Int32)) => False.elim (by exact absurd hc346 (by decide))) (fun (hc346 : (1 : Int32) = (1 : Int32)) => ?_)
          refine own_iload X345 hx hby at_226 rfl rfl ?_
          refine own_if_eq X345 hx hby at_228 (pcY := 235) (pcN := 231) (by decide) rfl (fun (hc347 : (1 : Int32) = (0 : Int32)) => False.elim (by exact absurd hc347 (by decide))) (fun (hc347 : ¬ (1 : Int32) = (0 : Int32)) => ?_)
          refine own_iconst X345 hx hby at_231 rfl (1 : Int32) rfl ?_
          refine own_goto X345 hx hby at_232 (pc' := 236) (by decide) ?_
          refine own_ret X345 hx hby hret hlk at_236 (.int (1 : Int32)) rfl (Or.inl ⟨rfl, by simp, _, rfl⟩) (by decide) (by decide) ?_
          exact ⟨rfl, (Fr.app (Fr.app (Fr.app (Fr.app (Fr.app (Fr.app (Fr.app (Fr.app N303 N307q) N316q) N323q) N324q) N337q) (Fr.nil _)) (Fr.nil _)) (Fr.nil _))⟩
        · -- pc 43: f
          refine own_iconst X0 hx hby at_46 rfl (1 : Int32) rfl ?_
          refine own_goto X0 hx hby at_47 (pc' := 51) (by decide) ?_
          refine own_istore X0 hx hby at_51 rfl #[.val (.int x0), .val (.int x1), .val (.int x2), .val (.int x3), .val (.int (1 : Int32)), .val (.int (0 : Int32)), .val (.int (1 : Int32)), .val (.int (1 : Int32)), .unset, .unset, .unset, .unset, .unset, .unset, .unset, .unset] rfl ?_
          refine own_iconst X0 hx hby at_53 rfl (1 : Int32) rfl ?_
          refine own_newarray X0 hx hby hZ (aty := .char) (hw _ tw_0) e0 (by decide) 1 (by decide) (by decide) (by decide) (by decide) .char rfl [(.int (0 : Int32))] rfl at_54 rfl (fun T348 h348 b348 k348 X348 e348 g348 E348 V348 => ?_)
          have ge_b348 : n0 ≤ b348 := own_ge O g348
          refine own_astore X348 hx hby at_56 rfl #[.val (.int x0), .val (.int x1), .val (.int x2), .val (.int x3), .val (.int (1 : Int32)), .val (.int (0 : Int32)), .val (.int (1 : Int32)), .val (.int (1 : Int32)), .val (.ref b348), .unset, .unset, .unset, .unset, .unset, .unset, .unset] rfl rfl ?_
          refine own_aload X348 hx hby at_58 rfl rfl rfl ?_
          refine own_iconst X348 hx hby at_60 rfl (0 : Int32) rfl ?_
          refine own_iloadN X348 hx hby at_61 rfl rfl ?_
          refine own_sipush X348 hx hby at_62 rfl (255 : Int32) rfl ?_
          refine own_iand X348 hx hby at_65 rfl ?_
          refine own_i2c X348 hx hby at_66 rfl ?_
          refine own_castore X348 hx hby hZ (x2 &&& (255 : Int32)) (own_charv x2) e348 V348 (by decide) 0 rfl (show 0 < 1 by decide) [(.int (x2 &&& (255 : Int32)))] rfl (own_charf x2) N0 ge_b348 at_67 rfl (fun T349 h349 L349 X349 e349 W349 V349 N349 => ?_)
          refine own_iload X349 hx hby at_68 rfl rfl ?_
          refine own_if_eq X349 hx hby at_70 (pcY := 77) (pcN := 73) (by decide) rfl (fun (hc350 : (1 : Int32) = (0 : Int32)) => False.elim (by exact absurd hc350 (by decide))) (fun (hc350 : ¬ (1 : Int32) = (0 : Int32)) => ?_)
          refine own_aconstNull X349 hx hby at_73 rfl ?_
          refine own_goto X349 hx hby at_74 (pc' := 86) (by decide) ?_
          refine own_astore X349 hx hby at_86 rfl #[.val (.int x0), .val (.int x1), .val (.int x2), .val (.int x3), .val (.int (1 : Int32)), .val (.int (0 : Int32)), .val (.int (1 : Int32)), .val (.int (1 : Int32)), .val (.ref b348), .val .null, .unset, .unset, .unset, .unset, .unset, .unset] rfl rfl ?_
          refine own_iload X349 hx hby at_88 rfl rfl ?_
          refine own_if_eq X349 hx hby at_90 (pcY := 105) (pcN := 93) (by decide) rfl (fun (hc351 : (0 : Int32) = (0 : Int32)) => ?_) (fun (hc351 : ¬ (0 : Int32) = (0 : Int32)) => False.elim (by exact absurd hc351 (by decide)))
          refine own_aconstNull X349 hx hby at_105 rfl ?_
          refine own_astore X349 hx hby at_106 rfl #[.val (.int x0), .val (.int x1), .val (.int x2), .val (.int x3), .val (.int (1 : Int32)), .val (.int (0 : Int32)), .val (.int (1 : Int32)), .val (.int (1 : Int32)), .val (.ref b348), .val .null, .val .null, .unset, .unset, .unset, .unset, .unset] rfl rfl ?_
          refine own_aconstNull X349 hx hby at_108 rfl ?_
          refine own_astore X349 hx hby at_109 rfl #[.val (.int x0), .val (.int x1), .val (.int x2), .val (.int x3), .val (.int (1 : Int32)), .val (.int (0 : Int32)), .val (.int (1 : Int32)), .val (.int (1 : Int32)), .val (.ref b348), .val .null, .val .null, .val .null, .unset, .unset, .unset, .unset] rfl rfl ?_
          refine own_aconstNull X349 hx hby at_111 rfl ?_
          refine own_astore X349 hx hby at_112 rfl #[.val (.int x0), .val (.int x1), .val (.int x2), .val (.int x3), .val (.int (1 : Int32)), .val (.int (0 : Int32)), .val (.int (1 : Int32)), .val (.int (1 : Int32)), .val (.ref b348), .val .null, .val .null, .val .null, .val .null, .unset, .unset, .unset] rfl rfl ?_
          refine own_iload X349 hx hby at_114 rfl rfl ?_
          refine own_if_eq X349 hx hby at_116 (pcY := 158) (pcN := 119) (by decide) rfl (fun (hc352 : (1 : Int32) = (0 : Int32)) => False.elim (by exact absurd hc352 (by decide))) (fun (hc352 : ¬ (1 : Int32) = (0 : Int32)) => ?_)
          have f354 := ((O.ext E348).wr W349 ge_b348)
          refine own_new X349 hx hby hZ hown (hw _ tw_74) (hw _ tw_75) (hw _ tw_76) e349 (by decide) (by decide) at_119 rfl (fun T353 h353 b353 X353 e353 g353 E353 A353 D353 => ?_)
          have ge_b353 : n0 ≤ b353 := own_ge f354 g353
          have ne_b348_b353 : b348 ≠ b353 := own_lt V349.lt g353
          have F353_modCount : Fld Z h353 b353 "java/util/AbstractList" "modCount" "I" (.int (0 : Int32)) := D353 (Or.inl (hw _ tw_94)) (ty := .int) (by decide)
          have F353_elementData : Fld Z h353 b353 "java/util/ArrayList" "elementData" "[Ljava/lang/Object;" .null := D353 (Or.inl (hw _ tw_97)) (ty := (.array (.object "java/lang/Object"))) (by decide)
          have F353_size : Fld Z h353 b353 "java/util/ArrayList" "size" "I" (.int (0 : Int32)) := D353 (Or.inl (hw _ tw_110)) (ty := .int) (by decide)
          refine own_dup X353 hx hby at_122 rfl rfl ?_
          have f356 := (f354.ext E353)
          refine own_special X353 hx hby hZ (a := b353) (argsL := []) (rest := [(.ref b353)]) hown rfl (hw _ tw_77) (hw _ tw_78) (hw _ tw_76) (hw _ tw_79) (by decide) (rm15 l Z a0 hw b353 h353 n0 G f356 ge_b353 A353 F353_modCount F353_elementData F353_size) e353 (by rw [hml]; rfl) pd_0 rfl (by decide) (W := 1) (Nat.le_refl _) (by decide) (by decide) (by decide) at_123 rfl rfl (fun v355 T355 L355 X355 hQ355 => ?_)
          obtain ⟨rfl, N355q, K355, Fm355, Fe355, Fs355⟩ := hQ355
          show Ends p.tables e below _ (T355.setTop (mkF m 126 #[.val (.int x0), .val (.int x1), .val (.int x2), .val (.int x3), .val (.int (1 : Int32)), .val (.int (0 : Int32)), .val (.int (1 : Int32)), .val (.int (1 : Int32)), .val (.ref b348), .val .null, .val .null, .val .null, .val .null, .unset, .unset, .unset] [(.ref b353)]))
          refine own_astore X355 hx hby at_126 rfl #[.val (.int x0), .val (.int x1), .val (.int x2), .val (.int x3), .val (.int (1 : Int32)), .val (.int (0 : Int32)), .val (.int (1 : Int32)), .val (.int (1 : Int32)), .val (.ref b348), .val .null, .val .null, .val (.ref b353), .val .null, .unset, .unset, .unset] rfl rfl ?_
          refine own_iload X355 hx hby at_128 rfl rfl ?_
          refine own_if_eq X355 hx hby at_130 (pcY := 158) (pcN := 133) (by decide) rfl (fun (hc357 : (1 : Int32) = (0 : Int32)) => False.elim (by exact absurd hc357 (by decide))) (fun (hc357 : ¬ (1 : Int32) = (0 : Int32)) => ?_)
          have f359 := (f356.keep K355 (allS ge_b353 all0))
          refine own_new X355 hx hby hZ hown (hw _ tw_30) (hw _ tw_31) (hw _ tw_32) rfl (by decide) (by decide) at_133 rfl (fun T358 h358 b358 X358 e358 g358 E358 A358 D358 => ?_)
          have ge_b358 : n0 ≤ b358 := own_ge f359 g358
          have ne_b353_b358 : b353 ≠ b358 := own_lt Fm355.lt g358
          have f360 := ((V349.ext E353).keep K355 (ninS ne_b348_b353 nin0))
          have ne_b348_b358 : b348 ≠ b358 := own_lt f360.lt g358
          have F358_key : Fld Z h358 b358 "com/example/weftwork/weftwork/io/Gml$Entry" "key" "Ljava/lang/String;" .null := D358 (Or.inr (hw _ tw_43)) (ty := (.object "java/lang/String")) (by decide)
          have F358_line : Fld Z h358 b358 "com/example/weftwork/weftwork/io/Gml$Entry" "line" "I" (.int (0 : Int32)) := D358 (Or.inr (hw _ tw_45)) (ty := .int) (by decide)
          have F358_scalar : Fld Z h358 b358 "com/example/weftwork/weftwork/io/Gml$Entry" "scalar" "Ljava/lang/String;" .null := D358 (Or.inr (hw _ tw_47)) (ty := (.object "java/lang/String")) (by decide)
          have F358_list : Fld Z h358 b358 "com/example/weftwork/weftwork/io/Gml$Entry" "list" "Ljava/util/List;" .null := D358 (Or.inr (hw _ tw_49)) (ty := (.object "java/util/List")) (by decide)
          refine own_dup X358 hx hby at_136 rfl rfl ?_
          refine own_aload X358 hx hby at_137 rfl rfl rfl ?_
          refine own_iloadN X358 hx hby at_139 rfl rfl ?_
          refine own_aload X358 hx hby at_140 rfl rfl rfl ?_
          refine own_aconstNull X358 hx hby at_142 rfl ?_
          refine own_special X358 hx hby hZ (a := b358) (argsL := [.null, (.int x1), .null, .null]) (rest := [(.ref b358)]) hown rfl (hw _ tw_33) (hw _ tw_34) (hw _ tw_32) (hw _ tw_35) (by decide) (rm7 l Z a0 hw b358 x1 h358 n0 .null .null .null rfl rfl rfl ge_b358 A358 F358_key F358_line F358_scalar F358_list) e358 (by rw [hml]; rfl) pd_9 rfl (by decide) (W := 1) (Nat.le_refl _) (by decide) (by decide) (by decide) at_143 rfl rfl (fun v361 T361 L361 X361 hQ361 => ?_)
          obtain ⟨rfl, N361q, K361, Fl361⟩ := hQ361
          show Ends p.tables e below _ (T361.setTop (mkF m 146 #[.val (.int x0), .val (.int x1), .val (.int x2), .val (.int x3), .val (.int (1 : Int32)), .val (.int (0 : Int32)), .val (.int (1 : Int32)), .val (.int (1 : Int32)), .val (.ref b348), .val .null, .val .null, .val (.ref b353), .val .null, .unset, .unset, .unset] [(.ref b358)]))
          refine own_astore X361 hx hby at_146 rfl #[.val (.int x0), .val (.int x1), .val (.int x2), .val (.int x3), .val (.int (1 : Int32)), .val (.int (0 : Int32)), .val (.int (1 : Int32)), .val (.int (1 : Int32)), .val (.ref b348), .val .null, .val .null, .val (.ref b353), .val (.ref b358), .unset, .unset, .unset] rfl rfl ?_
          refine own_aload X361 hx hby at_148 rfl rfl rfl ?_
          refine own_aload X361 hx hby at_150 rfl rfl rfl ?_
          have f363 := ((Fm355.ext E358).keep K361 (ninS ne_b353_b358 nin0))
          have f364 := ((Fe355.ext E358).keep K361 (ninS ne_b353_b358 nin0))
          have f365 := ((Fs355.ext E358).keep K361 (ninS ne_b353_b358 nin0))
          have f366 := ((f359.ext E358).keep K361 (allS ge_b358 all0))
          have f367 := (((A353.keep K355).ext E358).keep K361)
          have f368 := (A358.keep K361)
          refine own_interface X361 hx hby hZ (Cn := "java/util/ArrayList") (a := b353) (argsL := [(.ref b358)]) (rest := []) hown (hw _ tw_98) (hw _ tw_99) (hw _ tw_100) (hw _ tw_101) (hw _ tw_102) (hw _ tw_103) (hw _ tw_104) (hw _ tw_105) (hw _ tw_76) (hw _ tw_106) (by decide) (rm18 l Z a0 hw b353 b358 T361.heap n0 G f366 ge_b353 f367 f363 f364 f365 f368 ne_b353_b358) f367 rfl (by rw [hml]; rfl) pd_13 rfl (by decide) (W := 0) (Nat.le_refl _) (by decide) (by decide) (by decide) at_152 rfl rfl (fun v362 T362 L362 X362 hQ362 => ?_)
          obtain ⟨rfl, N362q, K362⟩ := hQ362
          show Ends p.tables e below _ (T362.setTop (mkF m 157 #[.val (.int x0), .val (.int x1), .val (.int x2), .val (.int x3), .val (.int (1 : Int32)), .val (.int (0 : Int32)), .val (.int (1 : Int32)), .val (.int (1 : Int32)), .val (.ref b348), .val .null, .val .null, .val (.ref b353), .val (.ref b358), .unset, .unset, .unset] [(.int (1 : Int32))]))
          refine own_pop X362 hx hby at_157 rfl rfl ?_
          have f370 := (f366.keep K362 (allS ge_b353 all0))
          refine own_new X362 hx hby hZ hown (hw _ tw_30) (hw _ tw_31) (hw _ tw_32) rfl (by decide) (by decide) at_158 rfl (fun T369 h369 b369 X369 e369 g369 E369 A369 D369 => ?_)
          have ge_b369 : n0 ≤ b369 := own_ge f370 g369
          have f371 := (f367.keep K362)
          have ne_b353_b369 : b353 ≠ b369 := own_lt f371.lt g369
          have f372 := (f368.keep K362)
          have ne_b358_b369 : b358 ≠ b369 := own_lt f372.lt g369
          have f373 := (((f360.ext E358).keep K361 (ninS ne_b348_b358 nin0)).keep K362 (ninS ne_b348_b353 nin0))
          have ne_b348_b369 : b348 ≠ b369 := own_lt f373.lt g369
          have F369_key : Fld Z h369 b369 "com/example/weftwork/weftwork/io/Gml$Entry" "key" "Ljava/lang/String;" .null := D369 (Or.inr (hw _ tw_43)) (ty := (.object "java/lang/String")) (by decide)
          have F369_line : Fld Z h369 b369 "com/example/weftwork/weftwork/io/Gml$Entry" "line" "I" (.int (0 : Int32)) := D369 (Or.inr (hw _ tw_45)) (ty := .int) (by decide)
          have F369_scalar : Fld Z h369 b369 "com/example/weftwork/weftwork/io/Gml$Entry" "scalar" "Ljava/lang/String;" .null := D369 (Or.inr (hw _ tw_47)) (ty := (.object "java/lang/String")) (by decide)
          have F369_list : Fld Z h369 b369 "com/example/weftwork/weftwork/io/Gml$Entry" "list" "Ljava/util/List;" .null := D369 (Or.inr (hw _ tw_49)) (ty := (.object "java/util/List")) (by decide)
          refine own_dup X369 hx hby at_161 rfl rfl ?_
          refine own_aload X369 hx hby at_162 rfl rfl rfl ?_
          refine own_iloadN X369 hx hby at_164 rfl rfl ?_
          refine own_aload X369 hx hby at_165 rfl rfl rfl ?_
          refine own_aload X369 hx hby at_167 rfl rfl rfl ?_
          refine own_special X369 hx hby hZ (a := b369) (argsL := [.null, (.int x1), .null, (.ref b353)]) (rest := [(.ref b369)]) hown rfl (hw _ tw_33) (hw _ tw_34) (hw _ tw_32) (hw _ tw_35) (by decide) (rm7 l Z a0 hw b369 x1 h369 n0 .null .null (.ref b353) rfl rfl rfl ge_b369 A369 F369_key F369_line F369_scalar F369_list) e369 (by rw [hml]; rfl) pd_9 rfl (by decide) (W := 1) (Nat.le_refl _) (by decide) (by decide) (by decide) at_169 rfl rfl (fun v374 T374 L374 X374 hQ374 => ?_)
          obtain ⟨rfl, N374q, K374, Fl374⟩ := hQ374
          show Ends p.tables e below _ (T374.setTop (mkF m 172 #[.val (.int x0), .val (.int x1), .val (.int x2), .val (.int x3), .val (.int (1 : Int32)), .val (.int (0 : Int32)), .val (.int (1 : Int32)), .val (.int (1 : Int32)), .val (.ref b348), .val .null, .val .null, .val (.ref b353), .val (.ref b358), .unset, .unset, .unset] [(.ref b369)]))
          refine own_astore X374 hx hby at_172 rfl #[.val (.int x0), .val (.int x1), .val (.int x2), .val (.int x3), .val (.int (1 : Int32)), .val (.int (0 : Int32)), .val (.int (1 : Int32)), .val (.int (1 : Int32)), .val (.ref b348), .val .null, .val .null, .val (.ref b353), .val (.ref b358), .val (.ref b369), .unset, .unset] rfl rfl ?_
          refine own_aload X374 hx hby at_174 rfl rfl rfl ?_
          have f376 := (A369.keep K374)
          refine own_virtual X374 hx hby hZ (Cn := "com/example/weftwork/weftwork/io/Gml$Entry") (a := b369) (argsL := []) (rest := []) hown (hw _ tw_50) (hw _ tw_51) (hw _ tw_53) (hw _ tw_52) (hw _ tw_32) (hw _ tw_54) (by decide) (rm9_r l Z a0 hw b369 T374.heap b353 Fl374) f376 rfl (by rw [hml]; rfl) pd_10 rfl (by decide) (W := 0) (Nat.le_refl _) (by decide) (by decide) (by decide) at_176 rfl rfl (fun v375 T375 L375 X375 hQ375 => ?_)
          obtain ⟨rfl, rfl, e375⟩ := hQ375
          show Ends p.tables e below _ (T375.setTop (mkF m 179 #[.val (.int x0), .val (.int x1), .val (.int x2), .val (.int x3), .val (.int (1 : Int32)), .val (.int (0 : Int32)), .val (.int (1 : Int32)), .val (.int (1 : Int32)), .val (.ref b348), .val .null, .val .null, .val (.ref b353), .val (.ref b358), .val (.ref b369), .unset, .unset] [(.int (1 : Int32))]))
          refine own_istore X375 hx hby at_179 rfl #[.val (.int x0), .val (.int x1), .val (.int x2), .val (.int x3), .val (.int (1 : Int32)), .val (.int (0 : Int32)), .val (.int (1 : Int32)), .val (.int (1 : Int32)), .val (.ref b348), .val .null, .val .null, .val (.ref b353), .val (.ref b358), .val (.ref b369), .val (.int (1 : Int32)), .unset] rfl ?_
          refine own_aload X375 hx hby at_181 rfl rfl rfl ?_
          refine own_ifnullNo X375 hx hby at_183 rfl ?_
          refine own_aload X375 hx hby at_186 rfl rfl rfl ?_
          have f378 := (((Fl361.keep K362 (ninS (Ne.symm ne_b353_b358) nin0)).ext E369).keep K374 (ninS ne_b358_b369 nin0))
          have f379 := ((f372.ext E369).keep K374)
          refine own_virtual X375 hx hby hZ (Cn := "com/example/weftwork/weftwork/io/Gml$Entry") (a := b358) (argsL := []) (rest := []) hown (hw _ tw_50) (hw _ tw_51) (hw _ tw_53) (hw _ tw_52) (hw _ tw_32) (hw _ tw_54) (by decide) (rm9_n l Z a0 hw b358 T374.heap 0 f378) f379 e375 (by rw [hml]; rfl) pd_10 rfl (by decide) (W := 0) (Nat.le_refl _) (by decide) (by decide) (by decide) at_188 rfl rfl (fun v377 T377 L377 X377 hQ377 => ?_)
          obtain ⟨rfl, rfl, e377⟩ := hQ377
          show Ends p.tables e below _ (T377.setTop (mkF m 191 #[.val (.int x0), .val (.int x1), .val (.int x2), .val (.int x3), .val (.int (1 : Int32)), .val (.int (0 : Int32)), .val (.int (1 : Int32)), .val (.int (1 : Int32)), .val (.ref b348), .val .null, .val .null, .val (.ref b353), .val (.ref b358), .val (.ref b369), .val (.int (1 : Int32)), .unset] [(.int (0 : Int32))]))
          refine own_if_ne X377 hx hby at_191 (pcY := 198) (pcN := 194) (by decide) rfl (fun (hc380 : ¬ (0 : Int32) = (0 : Int32)) => False.elim (by exact absurd hc380 (by decide))) (fun (hc380 : (0 : Int32) = (0 : Int32)) => ?_)
          refine own_iconst X377 hx hby at_194 rfl (1 : Int32) rfl ?_
          refine own_goto X377 hx hby at_195 (pc' := 199) (by decide) ?_
          refine own_istore X377 hx hby at_199 rfl #[.val (.int x0), .val (.int x1), .val (.int x2), .val (.int x3), .val (.int (1 : Int32)), .val (.int (0 : Int32)), .val (.int (1 : Int32)), .val (.int (1 : Int32)), .val (.ref b348), .val .null, .val .null, .val (.ref b353), .val (.ref b358), .val (.ref b369), .val (.int (1 : Int32)), .val (.int (1 : Int32))] rfl ?_
          refine own_iload X377 hx hby at_201 rfl rfl ?_
          refine own_iload X377 hx hby at_203 rfl rfl ?_
          refine own_icmp_ne X377 hx hby at_205 (pcY := 235) (pcN := 208) (by decide) rfl (fun (hc381 : ¬ (1 : Int32) = (1 : Int32)) => False.elim (by exact absurd hc381 (by decide))) (fun (hc381 : (1 : Int32) = (1 : Int32)) => ?_)
          refine own_iload X377 hx hby at_208 rfl rfl ?_
          refine own_aload X377 hx hby at_210 rfl rfl rfl ?_
          refine own_virtual X377 hx hby hZ (Cn := "com/example/weftwork/weftwork/io/Gml$Entry") (a := b369) (argsL := []) (rest := [(.int (1 : Int32))]) hown (hw _ tw_55) (hw _ tw_56) (hw _ tw_58) (hw _ tw_57) (hw _ tw_32) (hw _ tw_59) (by decide) (rm10_r l Z a0 hw b369 T374.heap b353 Fl374) f376 e377 (by rw [hml]; rfl) pd_11 rfl (by decide) (W := 1) (Nat.le_refl _) (by decide) (by decide) (by decide) at_212 rfl rfl (fun v382 T382 L382 X382 hQ382 => ?_)
          obtain ⟨rfl, rfl, e382⟩ := hQ382
          show Ends p.tables e below _ (T382.setTop (mkF m 215 #[.val (.int x0), .val (.int x1), .val (.int x2), .val (.int x3), .val (.int (1 : Int32)), .val (.int (0 : Int32)), .val (.int (1 : Int32)), .val (.int (1 : Int32)), .val (.ref b348), .val .null, .val .null, .val (.ref b353), .val (.ref b358), .val (.ref b369), .val (.int (1 : Int32)), .val (.int (1 : Int32))] [(.ref b353), (.int (1 : Int32))]))
          refine own_ifnullNo X382 hx hby at_215 rfl ?_
          refine own_iconst X382 hx hby at_218 rfl (1 : Int32) rfl ?_
          refine own_goto X382 hx hby at_219 (pc' := 223) (by decide) ?_
          refine own_icmp_ne X382 hx hby at_223 (pcY := 235) (pcN := 226) (by decide) rfl (fun (hc383 : ¬ (1 : Int32) = (1 : Int32)) => False.elim (by exact absurd hc383 (by decide))) (fun (hc383 : (1 : Int32) = (1 : Int32)) => ?_)
          refine own_iload X382 hx hby at_226 rfl rfl ?_
          refine own_if_eq X382 hx hby at_228 (pcY := 235) (pcN := 231) (by decide) rfl (fun (hc384 : (1 : Int32) = (0 : Int32)) => False.elim (by exact absurd hc384 (by decide))) (fun (hc384 : ¬ (1 : Int32) = (0 : Int32)) => ?_)
          refine own_iconst X382 hx hby at_231 rfl (1 : Int32) rfl ?_
          refine own_goto X382 hx hby at_232 (pc' := 236) (by decide) ?_
          refine own_ret X382 hx hby hret hlk at_236 (.int (1 : Int32)) rfl (Or.inl ⟨rfl, by simp, _, rfl⟩) (by decide) (by decide) ?_
          exact ⟨rfl, (Fr.app (Fr.app (Fr.app (Fr.app (Fr.app (Fr.app (Fr.app N349 N355q) N361q) N362q) N374q) (Fr.nil _)) (Fr.nil _)) (Fr.nil _))⟩
    · -- pc 16: f
      refine own_iconst X0 hx hby at_19 rfl (1 : Int32) rfl ?_
      refine own_goto X0 hx hby at_20 (pc' := 24) (by decide) ?_
      refine own_istore X0 hx hby at_24 rfl #[.val (.int x0), .val (.int x1), .val (.int x2), .val (.int x3), .val (.int (1 : Int32)), .val (.int (1 : Int32)), .unset, .unset, .unset, .unset, .unset, .unset, .unset, .unset, .unset, .unset] rfl ?_
      refine own_iloadN X0 hx hby at_26 rfl rfl ?_
      refine own_iconst X0 hx hby at_27 rfl (4 : Int32) rfl ?_
      refine own_iand X0 hx hby at_28 rfl ?_
      refine own_if_eq X0 hx hby at_29 (pcY := 36) (pcN := 32) (by decide) rfl (fun (hc385 : (x0 &&& (4 : Int32)) = (0 : Int32)) => ?_) (fun (hc385 : ¬ (x0 &&& (4 : Int32)) = (0 : Int32)) => ?_)
      · -- pc 29: t
        refine own_iconst X0 hx hby at_36 rfl (0 : Int32) rfl ?_
        refine own_istore X0 hx hby at_37 rfl #[.val (.int x0), .val (.int x1), .val (.int x2), .val (.int x3), .val (.int (1 : Int32)), .val (.int (1 : Int32)), .val (.int (0 : Int32)), .unset, .unset, .unset, .unset, .unset, .unset, .unset, .unset, .unset] rfl ?_
        refine own_iloadN X0 hx hby at_39 rfl rfl ?_
        refine own_bipush X0 hx hby at_40 rfl (8 : Int32) rfl ?_
        refine own_iand X0 hx hby at_42 rfl ?_
        refine own_if_eq X0 hx hby at_43 (pcY := 50) (pcN := 46) (by decide) rfl (fun (hc386 : (x0 &&& (8 : Int32)) = (0 : Int32)) => ?_) (fun (hc386 : ¬ (x0 &&& (8 : Int32)) = (0 : Int32)) => ?_)
        · -- pc 43: t
          refine own_iconst X0 hx hby at_50 rfl (0 : Int32) rfl ?_
          refine own_istore X0 hx hby at_51 rfl #[.val (.int x0), .val (.int x1), .val (.int x2), .val (.int x3), .val (.int (1 : Int32)), .val (.int (1 : Int32)), .val (.int (0 : Int32)), .val (.int (0 : Int32)), .unset, .unset, .unset, .unset, .unset, .unset, .unset, .unset] rfl ?_
          refine own_iconst X0 hx hby at_53 rfl (1 : Int32) rfl ?_
          refine own_newarray X0 hx hby hZ (aty := .char) (hw _ tw_0) e0 (by decide) 1 (by decide) (by decide) (by decide) (by decide) .char rfl [(.int (0 : Int32))] rfl at_54 rfl (fun T387 h387 b387 k387 X387 e387 g387 E387 V387 => ?_)
          have ge_b387 : n0 ≤ b387 := own_ge O g387
          refine own_astore X387 hx hby at_56 rfl #[.val (.int x0), .val (.int x1), .val (.int x2), .val (.int x3), .val (.int (1 : Int32)), .val (.int (1 : Int32)), .val (.int (0 : Int32)), .val (.int (0 : Int32)), .val (.ref b387), .unset, .unset, .unset, .unset, .unset, .unset, .unset] rfl rfl ?_
          refine own_aload X387 hx hby at_58 rfl rfl rfl ?_
          refine own_iconst X387 hx hby at_60 rfl (0 : Int32) rfl ?_
          refine own_iloadN X387 hx hby at_61 rfl rfl ?_
          refine own_sipush X387 hx hby at_62 rfl (255 : Int32) rfl ?_
          refine own_iand X387 hx hby at_65 rfl ?_
          refine own_i2c X387 hx hby at_66 rfl ?_
          refine own_castore X387 hx hby hZ (x2 &&& (255 : Int32)) (own_charv x2) e387 V387 (by decide) 0 rfl (show 0 < 1 by decide) [(.int (x2 &&& (255 : Int32)))] rfl (own_charf x2) N0 ge_b387 at_67 rfl (fun T388 h388 L388 X388 e388 W388 V388 N388 => ?_)
          refine own_iload X388 hx hby at_68 rfl rfl ?_
          refine own_if_eq X388 hx hby at_70 (pcY := 77) (pcN := 73) (by decide) rfl (fun (hc389 : (0 : Int32) = (0 : Int32)) => ?_) (fun (hc389 : ¬ (0 : Int32) = (0 : Int32)) => False.elim (by exact absurd hc389 (by decide)))
          have f391 := ((O.ext E387).wr W388 ge_b387)
          refine own_new X388 hx hby hZ hown (hw _ tw_1) (hw _ tw_2) (hw _ tw_3) e388 (by decide) (by decide) at_77 rfl (fun T390 h390 b390 X390 e390 g390 E390 A390 D390 => ?_)
          have ge_b390 : n0 ≤ b390 := own_ge f391 g390
          have ne_b387_b390 : b387 ≠ b390 := own_lt V388.lt g390
          have F390_coder : Fld Z h390 b390 "java/lang/String" "coder" "B" (.int (0 : Int32)) := D390 (Or.inr (hw _ tw_27)) (ty := .byte) (by decide)
          have F390_value : Fld Z h390 b390 "java/lang/String" "value" "[B" .null := D390 (Or.inr (hw _ tw_29)) (ty := (.array .byte)) (by decide)
          refine own_dup X390 hx hby at_80 rfl rfl ?_
          refine own_aload X390 hx hby at_81 rfl rfl rfl ?_
          have f393 := (f391.ext E390)
          have f394 := (V388.ext E390)
          refine own_specialB X390 hx hby hZ (kc := 1) (ks := 1) (a := b390) (argsL := [(.ref b387)]) (rest := [(.ref b390)]) hown rfl (hw _ tw_4) (hw _ tw_5) (hw _ tw_6) (by decide) (StrChars.Road.backV (W := 1) hZ (own_hws hw) (kI := 4) (hw _ tw_2) (cs := [x2 &&& (255 : Int32)]) (bs := [(x2 &&& (255 : Int32)).toInt8.toInt32]) (n := 1) (n0 := n0) ge_b390 (own_ge' f393) A390 F390_value F390_coder f394 (G.1.ext f393.2) G.2.1 rfl rfl (by decide) (by decide) (own_chars x2) rfl (by decide) (by decide)) e390 (by rw [hml]; rfl) pd_8 rfl (Nat.le_refl _) (by decide) (by decide) at_83 rfl rfl (fun v392 T392 L392 X392 hQ392 => ?_)
          obtain ⟨rfl, N392q, K392, A392, -, -, -, -, -, -, -, -⟩ := hQ392
          show Ends p.tables e below _ (T392.setTop (mkF m 86 #[.val (.int x0), .val (.int x1), .val (.int x2), .val (.int x3), .val (.int (1 : Int32)), .val (.int (1 : Int32)), .val (.int (0 : Int32)), .val (.int (0 : Int32)), .val (.ref b387), .unset, .unset, .unset, .unset, .unset, .unset, .unset] [(.ref b390)]))
          refine own_astore X392 hx hby at_86 rfl #[.val (.int x0), .val (.int x1), .val (.int x2), .val (.int x3), .val (.int (1 : Int32)), .val (.int (1 : Int32)), .val (.int (0 : Int32)), .val (.int (0 : Int32)), .val (.ref b387), .val (.ref b390), .unset, .unset, .unset, .unset, .unset, .unset] rfl rfl ?_
          refine own_iload X392 hx hby at_88 rfl rfl ?_
          refine own_if_eq X392 hx hby at_90 (pcY := 105) (pcN := 93) (by decide) rfl (fun (hc395 : (1 : Int32) = (0 : Int32)) => False.elim (by exact absurd hc395 (by decide))) (fun (hc395 : ¬ (1 : Int32) = (0 : Int32)) => ?_)
          refine own_iloadN X392 hx hby at_93 rfl rfl ?_
          refine own_sipush X392 hx hby at_94 rfl (255 : Int32) rfl ?_
          refine own_iand X392 hx hby at_97 rfl ?_
          refine own_i2c X392 hx hby at_98 rfl ?_
          have f397 := (f393.keep K392 (allS ge_b390 all0))
          refine own_static X392 hx hby hZ (argsL := [(.int (x3 &&& (255 : Int32)).toUInt32.toUInt16.toUInt32.toInt32)]) (rest := []) hown (hw _ tw_60) (hw _ tw_61) (hw _ tw_3) (hw _ tw_62) (by decide) (rm11 l Z a0 hw (x3 &&& (255 : Int32)).toUInt32.toUInt16.toUInt32.toInt32 T392.heap n0 G f397 (own_mc _)) rfl (by rw [hml]; rfl) pd_12 rfl (by decide) (W := 0) (Nat.le_refl _) (by decide) (by decide) (by decide) at_99 rfl rfl (fun v396 T396 L396 X396 hQ396 => ?_)
          obtain ⟨b396, rfl, N396q, K396, gq396, sq396, A396⟩ := hQ396
          show Ends p.tables e below _ (T396.setTop (mkF m 102 #[.val (.int x0), .val (.int x1), .val (.int x2), .val (.int x3), .val (.int (1 : Int32)), .val (.int (1 : Int32)), .val (.int (0 : Int32)), .val (.int (0 : Int32)), .val (.ref b387), .val (.ref b390), .unset, .unset, .unset, .unset, .unset, .unset] [(.ref b396)]))
          refine own_goto X396 hx hby at_102 (pc' := 106) (by decide) ?_
          refine own_astore X396 hx hby at_106 rfl #[.val (.int x0), .val (.int x1), .val (.int x2), .val (.int x3), .val (.int (1 : Int32)), .val (.int (1 : Int32)), .val (.int (0 : Int32)), .val (.int (0 : Int32)), .val (.ref b387), .val (.ref b390), .val (.ref b396), .unset, .unset, .unset, .unset, .unset] rfl rfl ?_
          refine own_aconstNull X396 hx hby at_108 rfl ?_
          refine own_astore X396 hx hby at_109 rfl #[.val (.int x0), .val (.int x1), .val (.int x2), .val (.int x3), .val (.int (1 : Int32)), .val (.int (1 : Int32)), .val (.int (0 : Int32)), .val (.int (0 : Int32)), .val (.ref b387), .val (.ref b390), .val (.ref b396), .val .null, .unset, .unset, .unset, .unset] rfl rfl ?_
          refine own_aconstNull X396 hx hby at_111 rfl ?_
          refine own_astore X396 hx hby at_112 rfl #[.val (.int x0), .val (.int x1), .val (.int x2), .val (.int x3), .val (.int (1 : Int32)), .val (.int (1 : Int32)), .val (.int (0 : Int32)), .val (.int (0 : Int32)), .val (.ref b387), .val (.ref b390), .val (.ref b396), .val .null, .val .null, .unset, .unset, .unset] rfl rfl ?_
          refine own_iload X396 hx hby at_114 rfl rfl ?_
          refine own_if_eq X396 hx hby at_116 (pcY := 158) (pcN := 119) (by decide) rfl (fun (hc398 : (1 : Int32) = (0 : Int32)) => False.elim (by exact absurd hc398 (by decide))) (fun (hc398 : ¬ (1 : Int32) = (0 : Int32)) => ?_)
          have f400 := (f397.keep K396 all0)
          refine own_new X396 hx hby hZ hown (hw _ tw_74) (hw _ tw_75) (hw _ tw_76) rfl (by decide) (by decide) at_119 rfl (fun T399 h399 b399 X399 e399 g399 E399 A399 D399 => ?_)
          have ge_b399 : n0 ≤ b399 := own_ge f400 g399
          have ne_b396_b399 : b396 ≠ b399 := own_lt A396.lt g399
          have f401 := ((f394.keep K392 (ninS ne_b387_b390 nin0)).keep K396 nin0)
          have ne_b387_b399 : b387 ≠ b399 := own_lt f401.lt g399
          have f402 := ((A390.keep K392).keep K396)
          have ne_b390_b399 : b390 ≠ b399 := own_lt f402.lt g399
          have F399_modCount : Fld Z h399 b399 "java/util/AbstractList" "modCount" "I" (.int (0 : Int32)) := D399 (Or.inl (hw _ tw_94)) (ty := .int) (by decide)
          have F399_elementData : Fld Z h399 b399 "java/util/ArrayList" "elementData" "[Ljava/lang/Object;" .null := D399 (Or.inl (hw _ tw_97)) (ty := (.array (.object "java/lang/Object"))) (by decide)
          have F399_size : Fld Z h399 b399 "java/util/ArrayList" "size" "I" (.int (0 : Int32)) := D399 (Or.inl (hw _ tw_110)) (ty := .int) (by decide)
          refine own_dup X399 hx hby at_122 rfl rfl ?_
          have f404 := (f400.ext E399)
          refine own_special X399 hx hby hZ (a := b399) (argsL := []) (rest := [(.ref b399)]) hown rfl (hw _ tw_77) (hw _ tw_78) (hw _ tw_76) (hw _ tw_79) (by decide) (rm15 l Z a0 hw b399 h399 n0 G f404 ge_b399 A399 F399_modCount F399_elementData F399_size) e399 (by rw [hml]; rfl) pd_0 rfl (by decide) (W := 1) (Nat.le_refl _) (by decide) (by decide) (by decide) at_123 rfl rfl (fun v403 T403 L403 X403 hQ403 => ?_)
          obtain ⟨rfl, N403q, K403, Fm403, Fe403, Fs403⟩ := hQ403
          show Ends p.tables e below _ (T403.setTop (mkF m 126 #[.val (.int x0), .val (.int x1), .val (.int x2), .val (.int x3), .val (.int (1 : Int32)), .val (.int (1 : Int32)), .val (.int (0 : Int32)), .val (.int (0 : Int32)), .val (.ref b387), .val (.ref b390), .val (.ref b396), .val .null, .val .null, .unset, .unset, .unset] [(.ref b399)]))
          refine own_astore X403 hx hby at_126 rfl #[.val (.int x0), .val (.int x1), .val (.int x2), .val (.int x3), .val (.int (1 : Int32)), .val (.int (1 : Int32)), .val (.int (0 : Int32)), .val (.int (0 : Int32)), .val (.ref b387), .val (.ref b390), .val (.ref b396), .val (.ref b399), .val .null, .unset, .unset, .unset] rfl rfl ?_
          refine own_iload X403 hx hby at_128 rfl rfl ?_
          refine own_if_eq X403 hx hby at_130 (pcY := 158) (pcN := 133) (by decide) rfl (fun (hc405 : (0 : Int32) = (0 : Int32)) => ?_) (fun (hc405 : ¬ (0 : Int32) = (0 : Int32)) => False.elim (by exact absurd hc405 (by decide)))
          have f407 := (f404.keep K403 (allS ge_b399 all0))
          refine own_new X403 hx hby hZ hown (hw _ tw_30) (hw _ tw_31) (hw _ tw_32) rfl (by decide) (by decide) at_158 rfl (fun T406 h406 b406 X406 e406 g406 E406 A406 D406 => ?_)
          have ge_b406 : n0 ≤ b406 := own_ge f407 g406
          have ne_b399_b406 : b399 ≠ b406 := own_lt Fm403.lt g406
          have f408 := ((f401.ext E399).keep K403 (ninS ne_b387_b399 nin0))
          have ne_b387_b406 : b387 ≠ b406 := own_lt f408.lt g406
          have f409 := ((f402.ext E399).keep K403)
          have ne_b390_b406 : b390 ≠ b406 := own_lt f409.lt g406
          have f410 := ((A396.ext E399).keep K403)
          have ne_b396_b406 : b396 ≠ b406 := own_lt f410.lt g406
          have F406_key : Fld Z h406 b406 "com/example/weftwork/weftwork/io/Gml$Entry" "key" "Ljava/lang/String;" .null := D406 (Or.inr (hw _ tw_43)) (ty := (.object "java/lang/String")) (by decide)
          have F406_line : Fld Z h406 b406 "com/example/weftwork/weftwork/io/Gml$Entry" "line" "I" (.int (0 : Int32)) := D406 (Or.inr (hw _ tw_45)) (ty := .int) (by decide)
          have F406_scalar : Fld Z h406 b406 "com/example/weftwork/weftwork/io/Gml$Entry" "scalar" "Ljava/lang/String;" .null := D406 (Or.inr (hw _ tw_47)) (ty := (.object "java/lang/String")) (by decide)
          have F406_list : Fld Z h406 b406 "com/example/weftwork/weftwork/io/Gml$Entry" "list" "Ljava/util/List;" .null := D406 (Or.inr (hw _ tw_49)) (ty := (.object "java/util/List")) (by decide)
          refine own_dup X406 hx hby at_161 rfl rfl ?_
          refine own_aload X406 hx hby at_162 rfl rfl rfl ?_
          refine own_iloadN X406 hx hby at_164 rfl rfl ?_
          refine own_aload X406 hx hby at_165 rfl rfl rfl ?_
          refine own_aload X406 hx hby at_167 rfl rfl rfl ?_
          refine own_special X406 hx hby hZ (a := b406) (argsL := [(.ref b390), (.int x1), (.ref b396), (.ref b399)]) (rest := [(.ref b406)]) hown rfl (hw _ tw_33) (hw _ tw_34) (hw _ tw_32) (hw _ tw_35) (by decide) (rm7 l Z a0 hw b406 x1 h406 n0 (.ref b390) (.ref b396) (.ref b399) rfl rfl rfl ge_b406 A406 F406_key F406_line F406_scalar F406_list) e406 (by rw [hml]; rfl) pd_9 rfl (by decide) (W := 1) (Nat.le_refl _) (by decide) (by decide) (by decide) at_169 rfl rfl (fun v411 T411 L411 X411 hQ411 => ?_)
          obtain ⟨rfl, N411q, K411, Fl411⟩ := hQ411
          show Ends p.tables e below _ (T411.setTop (mkF m 172 #[.val (.int x0), .val (.int x1), .val (.int x2), .val (.int x3), .val (.int (1 : Int32)), .val (.int (1 : Int32)), .val (.int (0 : Int32)), .val (.int (0 : Int32)), .val (.ref b387), .val (.ref b390), .val (.ref b396), .val (.ref b399), .val .null, .unset, .unset, .unset] [(.ref b406)]))
          refine own_astore X411 hx hby at_172 rfl #[.val (.int x0), .val (.int x1), .val (.int x2), .val (.int x3), .val (.int (1 : Int32)), .val (.int (1 : Int32)), .val (.int (0 : Int32)), .val (.int (0 : Int32)), .val (.ref b387), .val (.ref b390), .val (.ref b396), .val (.ref b399), .val .null, .val (.ref b406), .unset, .unset] rfl rfl ?_
          refine own_aload X411 hx hby at_174 rfl rfl rfl ?_
          have f413 := (A406.keep K411)
          refine own_virtual X411 hx hby hZ (Cn := "com/example/weftwork/weftwork/io/Gml$Entry") (a := b406) (argsL := []) (rest := []) hown (hw _ tw_50) (hw _ tw_51) (hw _ tw_53) (hw _ tw_52) (hw _ tw_32) (hw _ tw_54) (by decide) (rm9_r l Z a0 hw b406 T411.heap b399 Fl411) f413 rfl (by rw [hml]; rfl) pd_10 rfl (by decide) (W := 0) (Nat.le_refl _) (by decide) (by decide) (by decide) at_176 rfl rfl (fun v412 T412 L412 X412 hQ412 => ?_)
          obtain ⟨rfl, rfl, e412⟩ := hQ412
          show Ends p.tables e below _ (T412.setTop (mkF m 179 #[.val (.int x0), .val (.int x1), .val (.int x2), .val (.int x3), .val (.int (1 : Int32)), .val (.int (1 : Int32)), .val (.int (0 : Int32)), .val (.int (0 : Int32)), .val (.ref b387), .val (.ref b390), .val (.ref b396), .val (.ref b399), .val .null, .val (.ref b406), .unset, .unset] [(.int (1 : Int32))]))
          refine own_istore X412 hx hby at_179 rfl #[.val (.int x0), .val (.int x1), .val (.int x2), .val (.int x3), .val (.int (1 : Int32)), .val (.int (1 : Int32)), .val (.int (0 : Int32)), .val (.int (0 : Int32)), .val (.ref b387), .val (.ref b390), .val (.ref b396), .val (.ref b399), .val .null, .val (.ref b406), .val (.int (1 : Int32)), .unset] rfl ?_
          refine own_aload X412 hx hby at_181 rfl rfl rfl ?_
          refine own_ifnullYes X412 hx hby at_183 (pcY := 194) (by decide) ?_
          refine own_iconst X412 hx hby at_194 rfl (1 : Int32) rfl ?_
          refine own_goto X412 hx hby at_195 (pc' := 199) (by decide) ?_
          refine own_istore X412 hx hby at_199 rfl #[.val (.int x0), .val (.int x1), .val (.int x2), .val (.int x3), .val (.int (1 : Int32)), .val (.int (1 : Int32)), .val (.int (0 : Int32)), .val (.int (0 : Int32)), .val (.ref b387), .val (.ref b390), .val (.ref b396), .val (.ref b399), .val .null, .val (.ref b406), .val (.int (1 : Int32)), .val (.int (1 : Int32))] rfl ?_
          refine own_iload X412 hx hby at_201 rfl rfl ?_
          refine own_iload X412 hx hby at_203 rfl rfl ?_
          refine own_icmp_ne X412 hx hby at_205 (pcY := 235) (pcN := 208) (by decide) rfl (fun (hc414 : ¬ (1 : Int32) = (1 : Int32)) => False.elim (by exact absurd hc414 (by decide))) (fun (hc414 : (1 : Int32) = (1 : Int32)) => ?_)
          refine own_iload X412 hx hby at_208 rfl rfl ?_
          refine own_aload X412 hx hby at_210 rfl rfl rfl ?_
          refine own_virtual X412 hx hby hZ (Cn := "com/example/weftwork/weftwork/io/Gml$Entry") (a := b406) (argsL := []) (rest := [(.int (1 : Int32))]) hown (hw _ tw_55) (hw _ tw_56) (hw _ tw_58) (hw _ tw_57) (hw _ tw_32) (hw _ tw_59) (by decide) (rm10_r l Z a0 hw b406 T411.heap b399 Fl411) f413 e412 (by rw [hml]; rfl) pd_11 rfl (by decide) (W := 1) (Nat.le_refl _) (by decide) (by decide) (by decide) at_212 rfl rfl (fun v415 T415 L415 X415 hQ415 => ?_)
          obtain ⟨rfl, rfl, e415⟩ := hQ415
          show Ends p.tables e below _ (T415.setTop (mkF m 215 #[.val (.int x0), .val (.int x1), .val (.int x2), .val (.int x3), .val (.int (1 : Int32)), .val (.int (1 : Int32)), .val (.int (0 : Int32)), .val (.int (0 : Int32)), .val (.ref b387), .val (.ref b390), .val (.ref b396), .val (.ref b399), .val .null, .val (.ref b406), .val (.int (1 : Int32)), .val (.int (1 : Int32))] [(.ref b399), (.int (1 : Int32))]))
          refine own_ifnullNo X415 hx hby at_215 rfl ?_
          refine own_iconst X415 hx hby at_218 rfl (1 : Int32) rfl ?_
          refine own_goto X415 hx hby at_219 (pc' := 223) (by decide) ?_
          refine own_icmp_ne X415 hx hby at_223 (pcY := 235) (pcN := 226) (by decide) rfl (fun (hc416 : ¬ (1 : Int32) = (1 : Int32)) => False.elim (by exact absurd hc416 (by decide))) (fun (hc416 : (1 : Int32) = (1 : Int32)) => ?_)
          refine own_iload X415 hx hby at_226 rfl rfl ?_
          refine own_if_eq X415 hx hby at_228 (pcY := 235) (pcN := 231) (by decide) rfl (fun (hc417 : (1 : Int32) = (0 : Int32)) => False.elim (by exact absurd hc417 (by decide))) (fun (hc417 : ¬ (1 : Int32) = (0 : Int32)) => ?_)
          refine own_iconst X415 hx hby at_231 rfl (1 : Int32) rfl ?_
          refine own_goto X415 hx hby at_232 (pc' := 236) (by decide) ?_
          refine own_ret X415 hx hby hret hlk at_236 (.int (1 : Int32)) rfl (Or.inl ⟨rfl, by simp, _, rfl⟩) (by decide) (by decide) ?_
          exact ⟨rfl, (Fr.app (Fr.app (Fr.app (Fr.app (Fr.app (Fr.app N388 N392q) N396q) N403q) N411q) (Fr.nil _)) (Fr.nil _))⟩
        · -- pc 43: f
          refine own_iconst X0 hx hby at_46 rfl (1 : Int32) rfl ?_
          refine own_goto X0 hx hby at_47 (pc' := 51) (by decide) ?_
          refine own_istore X0 hx hby at_51 rfl #[.val (.int x0), .val (.int x1), .val (.int x2), .val (.int x3), .val (.int (1 : Int32)), .val (.int (1 : Int32)), .val (.int (0 : Int32)), .val (.int (1 : Int32)), .unset, .unset, .unset, .unset, .unset, .unset, .unset, .unset] rfl ?_
          refine own_iconst X0 hx hby at_53 rfl (1 : Int32) rfl ?_
          refine own_newarray X0 hx hby hZ (aty := .char) (hw _ tw_0) e0 (by decide) 1 (by decide) (by decide) (by decide) (by decide) .char rfl [(.int (0 : Int32))] rfl at_54 rfl (fun T418 h418 b418 k418 X418 e418 g418 E418 V418 => ?_)
          have ge_b418 : n0 ≤ b418 := own_ge O g418
          refine own_astore X418 hx hby at_56 rfl #[.val (.int x0), .val (.int x1), .val (.int x2), .val (.int x3), .val (.int (1 : Int32)), .val (.int (1 : Int32)), .val (.int (0 : Int32)), .val (.int (1 : Int32)), .val (.ref b418), .unset, .unset, .unset, .unset, .unset, .unset, .unset] rfl rfl ?_
          refine own_aload X418 hx hby at_58 rfl rfl rfl ?_
          refine own_iconst X418 hx hby at_60 rfl (0 : Int32) rfl ?_
          refine own_iloadN X418 hx hby at_61 rfl rfl ?_
          refine own_sipush X418 hx hby at_62 rfl (255 : Int32) rfl ?_
          refine own_iand X418 hx hby at_65 rfl ?_
          refine own_i2c X418 hx hby at_66 rfl ?_
          refine own_castore X418 hx hby hZ (x2 &&& (255 : Int32)) (own_charv x2) e418 V418 (by decide) 0 rfl (show 0 < 1 by decide) [(.int (x2 &&& (255 : Int32)))] rfl (own_charf x2) N0 ge_b418 at_67 rfl (fun T419 h419 L419 X419 e419 W419 V419 N419 => ?_)
          refine own_iload X419 hx hby at_68 rfl rfl ?_
          refine own_if_eq X419 hx hby at_70 (pcY := 77) (pcN := 73) (by decide) rfl (fun (hc420 : (1 : Int32) = (0 : Int32)) => False.elim (by exact absurd hc420 (by decide))) (fun (hc420 : ¬ (1 : Int32) = (0 : Int32)) => ?_)
          refine own_aconstNull X419 hx hby at_73 rfl ?_
          refine own_goto X419 hx hby at_74 (pc' := 86) (by decide) ?_
          refine own_astore X419 hx hby at_86 rfl #[.val (.int x0), .val (.int x1), .val (.int x2), .val (.int x3), .val (.int (1 : Int32)), .val (.int (1 : Int32)), .val (.int (0 : Int32)), .val (.int (1 : Int32)), .val (.ref b418), .val .null, .unset, .unset, .unset, .unset, .unset, .unset] rfl rfl ?_
          refine own_iload X419 hx hby at_88 rfl rfl ?_
          refine own_if_eq X419 hx hby at_90 (pcY := 105) (pcN := 93) (by decide) rfl (fun (hc421 : (1 : Int32) = (0 : Int32)) => False.elim (by exact absurd hc421 (by decide))) (fun (hc421 : ¬ (1 : Int32) = (0 : Int32)) => ?_)
          refine own_iloadN X419 hx hby at_93 rfl rfl ?_
          refine own_sipush X419 hx hby at_94 rfl (255 : Int32) rfl ?_
          refine own_iand X419 hx hby at_97 rfl ?_
          refine own_i2c X419 hx hby at_98 rfl ?_
          have f423 := ((O.ext E418).wr W419 ge_b418)
          refine own_static X419 hx hby hZ (argsL := [(.int (x3 &&& (255 : Int32)).toUInt32.toUInt16.toUInt32.toInt32)]) (rest := []) hown (hw _ tw_60) (hw _ tw_61) (hw _ tw_3) (hw _ tw_62) (by decide) (rm11 l Z a0 hw (x3 &&& (255 : Int32)).toUInt32.toUInt16.toUInt32.toInt32 h419 n0 G f423 (own_mc _)) e419 (by rw [hml]; rfl) pd_12 rfl (by decide) (W := 0) (Nat.le_refl _) (by decide) (by decide) (by decide) at_99 rfl rfl (fun v422 T422 L422 X422 hQ422 => ?_)
          obtain ⟨b422, rfl, N422q, K422, gq422, sq422, A422⟩ := hQ422
          show Ends p.tables e below _ (T422.setTop (mkF m 102 #[.val (.int x0), .val (.int x1), .val (.int x2), .val (.int x3), .val (.int (1 : Int32)), .val (.int (1 : Int32)), .val (.int (0 : Int32)), .val (.int (1 : Int32)), .val (.ref b418), .val .null, .unset, .unset, .unset, .unset, .unset, .unset] [(.ref b422)]))
          refine own_goto X422 hx hby at_102 (pc' := 106) (by decide) ?_
          refine own_astore X422 hx hby at_106 rfl #[.val (.int x0), .val (.int x1), .val (.int x2), .val (.int x3), .val (.int (1 : Int32)), .val (.int (1 : Int32)), .val (.int (0 : Int32)), .val (.int (1 : Int32)), .val (.ref b418), .val .null, .val (.ref b422), .unset, .unset, .unset, .unset, .unset] rfl rfl ?_
          refine own_aconstNull X422 hx hby at_108 rfl ?_
          refine own_astore X422 hx hby at_109 rfl #[.val (.int x0), .val (.int x1), .val (.int x2), .val (.int x3), .val (.int (1 : Int32)), .val (.int (1 : Int32)), .val (.int (0 : Int32)), .val (.int (1 : Int32)), .val (.ref b418), .val .null, .val (.ref b422), .val .null, .unset, .unset, .unset, .unset] rfl rfl ?_
          refine own_aconstNull X422 hx hby at_111 rfl ?_
          refine own_astore X422 hx hby at_112 rfl #[.val (.int x0), .val (.int x1), .val (.int x2), .val (.int x3), .val (.int (1 : Int32)), .val (.int (1 : Int32)), .val (.int (0 : Int32)), .val (.int (1 : Int32)), .val (.ref b418), .val .null, .val (.ref b422), .val .null, .val .null, .unset, .unset, .unset] rfl rfl ?_
          refine own_iload X422 hx hby at_114 rfl rfl ?_
          refine own_if_eq X422 hx hby at_116 (pcY := 158) (pcN := 119) (by decide) rfl (fun (hc424 : (1 : Int32) = (0 : Int32)) => False.elim (by exact absurd hc424 (by decide))) (fun (hc424 : ¬ (1 : Int32) = (0 : Int32)) => ?_)
          have f426 := (f423.keep K422 all0)
          refine own_new X422 hx hby hZ hown (hw _ tw_74) (hw _ tw_75) (hw _ tw_76) rfl (by decide) (by decide) at_119 rfl (fun T425 h425 b425 X425 e425 g425 E425 A425 D425 => ?_)
          have ge_b425 : n0 ≤ b425 := own_ge f426 g425
          have ne_b422_b425 : b422 ≠ b425 := own_lt A422.lt g425
          have f427 := (V419.keep K422 nin0)
          have ne_b418_b425 : b418 ≠ b425 := own_lt f427.lt g425
          have F425_modCount : Fld Z h425 b425 "java/util/AbstractList" "modCount" "I" (.int (0 : Int32)) := D425 (Or.inl (hw _ tw_94)) (ty := .int) (by decide)
          have F425_elementData : Fld Z h425 b425 "java/util/ArrayList" "elementData" "[Ljava/lang/Object;" .null := D425 (Or.inl (hw _ tw_97)) (ty := (.array (.object "java/lang/Object"))) (by decide)
          have F425_size : Fld Z h425 b425 "java/util/ArrayList" "size" "I" (.int (0 : Int32)) := D425 (Or.inl (hw _ tw_110)) (ty := .int) (by decide)
          refine own_dup X425 hx hby at_122 rfl rfl ?_
          have f429 := (f426.ext E425)
          refine own_special X425 hx hby hZ (a := b425) (argsL := []) (rest := [(.ref b425)]) hown rfl (hw _ tw_77) (hw _ tw_78) (hw _ tw_76) (hw _ tw_79) (by decide) (rm15 l Z a0 hw b425 h425 n0 G f429 ge_b425 A425 F425_modCount F425_elementData F425_size) e425 (by rw [hml]; rfl) pd_0 rfl (by decide) (W := 1) (Nat.le_refl _) (by decide) (by decide) (by decide) at_123 rfl rfl (fun v428 T428 L428 X428 hQ428 => ?_)
          obtain ⟨rfl, N428q, K428, Fm428, Fe428, Fs428⟩ := hQ428
          show Ends p.tables e below _ (T428.setTop (mkF m 126 #[.val (.int x0), .val (.int x1), .val (.int x2), .val (.int x3), .val (.int (1 : Int32)), .val (.int (1 : Int32)), .val (.int (0 : Int32)), .val (.int (1 : Int32)), .val (.ref b418), .val .null, .val (.ref b422), .val .null, .val .null, .unset, .unset, .unset] [(.ref b425)]))
          refine own_astore X428 hx hby at_126 rfl #[.val (.int x0), .val (.int x1), .val (.int x2), .val (.int x3), .val (.int (1 : Int32)), .val (.int (1 : Int32)), .val (.int (0 : Int32)), .val (.int (1 : Int32)), .val (.ref b418), .val .null, .val (.ref b422), .val (.ref b425), .val .null, .unset, .unset, .unset] rfl rfl ?_
          refine own_iload X428 hx hby at_128 rfl rfl ?_
          refine own_if_eq X428 hx hby at_130 (pcY := 158) (pcN := 133) (by decide) rfl (fun (hc430 : (0 : Int32) = (0 : Int32)) => ?_) (fun (hc430 : ¬ (0 : Int32) = (0 : Int32)) => False.elim (by exact absurd hc430 (by decide)))
          have f432 := (f429.keep K428 (allS ge_b425 all0))
          refine own_new X428 hx hby hZ hown (hw _ tw_30) (hw _ tw_31) (hw _ tw_32) rfl (by decide) (by decide) at_158 rfl (fun T431 h431 b431 X431 e431 g431 E431 A431 D431 => ?_)
          have ge_b431 : n0 ≤ b431 := own_ge f432 g431
          have ne_b425_b431 : b425 ≠ b431 := own_lt Fm428.lt g431
          have f433 := ((f427.ext E425).keep K428 (ninS ne_b418_b425 nin0))
          have ne_b418_b431 : b418 ≠ b431 := own_lt f433.lt g431
          have f434 := ((A422.ext E425).keep K428)
          have ne_b422_b431 : b422 ≠ b431 := own_lt f434.lt g431
          have F431_key : Fld Z h431 b431 "com/example/weftwork/weftwork/io/Gml$Entry" "key" "Ljava/lang/String;" .null := D431 (Or.inr (hw _ tw_43)) (ty := (.object "java/lang/String")) (by decide)
          have F431_line : Fld Z h431 b431 "com/example/weftwork/weftwork/io/Gml$Entry" "line" "I" (.int (0 : Int32)) := D431 (Or.inr (hw _ tw_45)) (ty := .int) (by decide)
          have F431_scalar : Fld Z h431 b431 "com/example/weftwork/weftwork/io/Gml$Entry" "scalar" "Ljava/lang/String;" .null := D431 (Or.inr (hw _ tw_47)) (ty := (.object "java/lang/String")) (by decide)
          have F431_list : Fld Z h431 b431 "com/example/weftwork/weftwork/io/Gml$Entry" "list" "Ljava/util/List;" .null := D431 (Or.inr (hw _ tw_49)) (ty := (.object "java/util/List")) (by decide)
          refine own_dup X431 hx hby at_161 rfl rfl ?_
          refine own_aload X431 hx hby at_162 rfl rfl rfl ?_
          refine own_iloadN X431 hx hby at_164 rfl rfl ?_
          refine own_aload X431 hx hby at_165 rfl rfl rfl ?_
          refine own_aload X431 hx hby at_167 rfl rfl rfl ?_
          refine own_special X431 hx hby hZ (a := b431) (argsL := [.null, (.int x1), (.ref b422), (.ref b425)]) (rest := [(.ref b431)]) hown rfl (hw _ tw_33) (hw _ tw_34) (hw _ tw_32) (hw _ tw_35) (by decide) (rm7 l Z a0 hw b431 x1 h431 n0 .null (.ref b422) (.ref b425) rfl rfl rfl ge_b431 A431 F431_key F431_line F431_scalar F431_list) e431 (by rw [hml]; rfl) pd_9 rfl (by decide) (W := 1) (Nat.le_refl _) (by decide) (by decide) (by decide) at_169 rfl rfl (fun v435 T435 L435 X435 hQ435 => ?_)
          obtain ⟨rfl, N435q, K435, Fl435⟩ := hQ435
          show Ends p.tables e below _ (T435.setTop (mkF m 172 #[.val (.int x0), .val (.int x1), .val (.int x2), .val (.int x3), .val (.int (1 : Int32)), .val (.int (1 : Int32)), .val (.int (0 : Int32)), .val (.int (1 : Int32)), .val (.ref b418), .val .null, .val (.ref b422), .val (.ref b425), .val .null, .unset, .unset, .unset] [(.ref b431)]))
          refine own_astore X435 hx hby at_172 rfl #[.val (.int x0), .val (.int x1), .val (.int x2), .val (.int x3), .val (.int (1 : Int32)), .val (.int (1 : Int32)), .val (.int (0 : Int32)), .val (.int (1 : Int32)), .val (.ref b418), .val .null, .val (.ref b422), .val (.ref b425), .val .null, .val (.ref b431), .unset, .unset] rfl rfl ?_
          refine own_aload X435 hx hby at_174 rfl rfl rfl ?_
          have f437 := (A431.keep K435)
          refine own_virtual X435 hx hby hZ (Cn := "com/example/weftwork/weftwork/io/Gml$Entry") (a := b431) (argsL := []) (rest := []) hown (hw _ tw_50) (hw _ tw_51) (hw _ tw_53) (hw _ tw_52) (hw _ tw_32) (hw _ tw_54) (by decide) (rm9_r l Z a0 hw b431 T435.heap b425 Fl435) f437 rfl (by rw [hml]; rfl) pd_10 rfl (by decide) (W := 0) (Nat.le_refl _) (by decide) (by decide) (by decide) at_176 rfl rfl (fun v436 T436 L436 X436 hQ436 => ?_)
          obtain ⟨rfl, rfl, e436⟩ := hQ436
          show Ends p.tables e below _ (T436.setTop (mkF m 179 #[.val (.int x0), .val (.int x1), .val (.int x2), .val (.int x3), .val (.int (1 : Int32)), .val (.int (1 : Int32)), .val (.int (0 : Int32)), .val (.int (1 : Int32)), .val (.ref b418), .val .null, .val (.ref b422), .val (.ref b425), .val .null, .val (.ref b431), .unset, .unset] [(.int (1 : Int32))]))
          refine own_istore X436 hx hby at_179 rfl #[.val (.int x0), .val (.int x1), .val (.int x2), .val (.int x3), .val (.int (1 : Int32)), .val (.int (1 : Int32)), .val (.int (0 : Int32)), .val (.int (1 : Int32)), .val (.ref b418), .val .null, .val (.ref b422), .val (.ref b425), .val .null, .val (.ref b431), .val (.int (1 : Int32)), .unset] rfl ?_
          refine own_aload X436 hx hby at_181 rfl rfl rfl ?_
          refine own_ifnullYes X436 hx hby at_183 (pcY := 194) (by decide) ?_
          refine own_iconst X436 hx hby at_194 rfl (1 : Int32) rfl ?_
          refine own_goto X436 hx hby at_195 (pc' := 199) (by decide) ?_
          refine own_istore X436 hx hby at_199 rfl #[.val (.int x0), .val (.int x1), .val (.int x2), .val (.int x3), .val (.int (1 : Int32)), .val (.int (1 : Int32)), .val (.int (0 : Int32)), .val (.int (1 : Int32)), .val (.ref b418), .val .null, .val (.ref b422), .val (.ref b425), .val .null, .val (.ref b431), .val (.int (1 : Int32)), .val (.int (1 : Int32))] rfl ?_
          refine own_iload X436 hx hby at_201 rfl rfl ?_
          refine own_iload X436 hx hby at_203 rfl rfl ?_
          refine own_icmp_ne X436 hx hby at_205 (pcY := 235) (pcN := 208) (by decide) rfl (fun (hc438 : ¬ (1 : Int32) = (1 : Int32)) => False.elim (by exact absurd hc438 (by decide))) (fun (hc438 : (1 : Int32) = (1 : Int32)) => ?_)
          refine own_iload X436 hx hby at_208 rfl rfl ?_
          refine own_aload X436 hx hby at_210 rfl rfl rfl ?_
          refine own_virtual X436 hx hby hZ (Cn := "com/example/weftwork/weftwork/io/Gml$Entry") (a := b431) (argsL := []) (rest := [(.int (1 : Int32))]) hown (hw _ tw_55) (hw _ tw_56) (hw _ tw_58) (hw _ tw_57) (hw _ tw_32) (hw _ tw_59) (by decide) (rm10_r l Z a0 hw b431 T435.heap b425 Fl435) f437 e436 (by rw [hml]; rfl) pd_11 rfl (by decide) (W := 1) (Nat.le_refl _) (by decide) (by decide) (by decide) at_212 rfl rfl (fun v439 T439 L439 X439 hQ439 => ?_)
          obtain ⟨rfl, rfl, e439⟩ := hQ439
          show Ends p.tables e below _ (T439.setTop (mkF m 215 #[.val (.int x0), .val (.int x1), .val (.int x2), .val (.int x3), .val (.int (1 : Int32)), .val (.int (1 : Int32)), .val (.int (0 : Int32)), .val (.int (1 : Int32)), .val (.ref b418), .val .null, .val (.ref b422), .val (.ref b425), .val .null, .val (.ref b431), .val (.int (1 : Int32)), .val (.int (1 : Int32))] [(.ref b425), (.int (1 : Int32))]))
          refine own_ifnullNo X439 hx hby at_215 rfl ?_
          refine own_iconst X439 hx hby at_218 rfl (1 : Int32) rfl ?_
          refine own_goto X439 hx hby at_219 (pc' := 223) (by decide) ?_
          refine own_icmp_ne X439 hx hby at_223 (pcY := 235) (pcN := 226) (by decide) rfl (fun (hc440 : ¬ (1 : Int32) = (1 : Int32)) => False.elim (by exact absurd hc440 (by decide))) (fun (hc440 : (1 : Int32) = (1 : Int32)) => ?_)
          refine own_iload X439 hx hby at_226 rfl rfl ?_
          refine own_if_eq X439 hx hby at_228 (pcY := 235) (pcN := 231) (by decide) rfl (fun (hc441 : (1 : Int32) = (0 : Int32)) => False.elim (by exact absurd hc441 (by decide))) (fun (hc441 : ¬ (1 : Int32) = (0 : Int32)) => ?_)
          refine own_iconst X439 hx hby at_231 rfl (1 : Int32) rfl ?_
          refine own_goto X439 hx hby at_232 (pc' := 236) (by decide) ?_
          refine own_ret X439 hx hby hret hlk at_236 (.int (1 : Int32)) rfl (Or.inl ⟨rfl, by simp, _, rfl⟩) (by decide) (by decide) ?_
          exact ⟨rfl, (Fr.app (Fr.app (Fr.app (Fr.app (Fr.app N419 N422q) N428q) N435q) (Fr.nil _)) (Fr.nil _))⟩
      · -- pc 29: f
        refine own_iconst X0 hx hby at_32 rfl (1 : Int32) rfl ?_
        refine own_goto X0 hx hby at_33 (pc' := 37) (by decide) ?_
        refine own_istore X0 hx hby at_37 rfl #[.val (.int x0), .val (.int x1), .val (.int x2), .val (.int x3), .val (.int (1 : Int32)), .val (.int (1 : Int32)), .val (.int (1 : Int32)), .unset, .unset, .unset, .unset, .unset, .unset, .unset, .unset, .unset] rfl ?_
        refine own_iloadN X0 hx hby at_39 rfl rfl ?_
        refine own_bipush X0 hx hby at_40 rfl (8 : Int32) rfl ?_
        refine own_iand X0 hx hby at_42 rfl ?_
        refine own_if_eq X0 hx hby at_43 (pcY := 50) (pcN := 46) (by decide) rfl (fun (hc442 : (x0 &&& (8 : Int32)) = (0 : Int32)) => ?_) (fun (hc442 : ¬ (x0 &&& (8 : Int32)) = (0 : Int32)) => ?_)
        · -- pc 43: t
          refine own_iconst X0 hx hby at_50 rfl (0 : Int32) rfl ?_
          refine own_istore X0 hx hby at_51 rfl #[.val (.int x0), .val (.int x1), .val (.int x2), .val (.int x3), .val (.int (1 : Int32)), .val (.int (1 : Int32)), .val (.int (1 : Int32)), .val (.int (0 : Int32)), .unset, .unset, .unset, .unset, .unset, .unset, .unset, .unset] rfl ?_
          refine own_iconst X0 hx hby at_53 rfl (1 : Int32) rfl ?_
          refine own_newarray X0 hx hby hZ (aty := .char) (hw _ tw_0) e0 (by decide) 1 (by decide) (by decide) (by decide) (by decide) .char rfl [(.int (0 : Int32))] rfl at_54 rfl (fun T443 h443 b443 k443 X443 e443 g443 E443 V443 => ?_)
          have ge_b443 : n0 ≤ b443 := own_ge O g443
          refine own_astore X443 hx hby at_56 rfl #[.val (.int x0), .val (.int x1), .val (.int x2), .val (.int x3), .val (.int (1 : Int32)), .val (.int (1 : Int32)), .val (.int (1 : Int32)), .val (.int (0 : Int32)), .val (.ref b443), .unset, .unset, .unset, .unset, .unset, .unset, .unset] rfl rfl ?_
          refine own_aload X443 hx hby at_58 rfl rfl rfl ?_
          refine own_iconst X443 hx hby at_60 rfl (0 : Int32) rfl ?_
          refine own_iloadN X443 hx hby at_61 rfl rfl ?_
          refine own_sipush X443 hx hby at_62 rfl (255 : Int32) rfl ?_
          refine own_iand X443 hx hby at_65 rfl ?_
          refine own_i2c X443 hx hby at_66 rfl ?_
          refine own_castore X443 hx hby hZ (x2 &&& (255 : Int32)) (own_charv x2) e443 V443 (by decide) 0 rfl (show 0 < 1 by decide) [(.int (x2 &&& (255 : Int32)))] rfl (own_charf x2) N0 ge_b443 at_67 rfl (fun T444 h444 L444 X444 e444 W444 V444 N444 => ?_)
          refine own_iload X444 hx hby at_68 rfl rfl ?_
          refine own_if_eq X444 hx hby at_70 (pcY := 77) (pcN := 73) (by decide) rfl (fun (hc445 : (0 : Int32) = (0 : Int32)) => ?_) (fun (hc445 : ¬ (0 : Int32) = (0 : Int32)) => False.elim (by exact absurd hc445 (by decide)))
          have f447 := ((O.ext E443).wr W444 ge_b443)
          refine own_new X444 hx hby hZ hown (hw _ tw_1) (hw _ tw_2) (hw _ tw_3) e444 (by decide) (by decide) at_77 rfl (fun T446 h446 b446 X446 e446 g446 E446 A446 D446 => ?_)
          have ge_b446 : n0 ≤ b446 := own_ge f447 g446
          have ne_b443_b446 : b443 ≠ b446 := own_lt V444.lt g446
          have F446_coder : Fld Z h446 b446 "java/lang/String" "coder" "B" (.int (0 : Int32)) := D446 (Or.inr (hw _ tw_27)) (ty := .byte) (by decide)
          have F446_value : Fld Z h446 b446 "java/lang/String" "value" "[B" .null := D446 (Or.inr (hw _ tw_29)) (ty := (.array .byte)) (by decide)
          refine own_dup X446 hx hby at_80 rfl rfl ?_
          refine own_aload X446 hx hby at_81 rfl rfl rfl ?_
          have f449 := (f447.ext E446)
          have f450 := (V444.ext E446)
          refine own_specialB X446 hx hby hZ (kc := 1) (ks := 1) (a := b446) (argsL := [(.ref b443)]) (rest := [(.ref b446)]) hown rfl (hw _ tw_4) (hw _ tw_5) (hw _ tw_6) (by decide) (StrChars.Road.backV (W := 1) hZ (own_hws hw) (kI := 4) (hw _ tw_2) (cs := [x2 &&& (255 : Int32)]) (bs := [(x2 &&& (255 : Int32)).toInt8.toInt32]) (n := 1) (n0 := n0) ge_b446 (own_ge' f449) A446 F446_value F446_coder f450 (G.1.ext f449.2) G.2.1 rfl rfl (by decide) (by decide) (own_chars x2) rfl (by decide) (by decide)) e446 (by rw [hml]; rfl) pd_8 rfl (Nat.le_refl _) (by decide) (by decide) at_83 rfl rfl (fun v448 T448 L448 X448 hQ448 => ?_)
          obtain ⟨rfl, N448q, K448, A448, -, -, -, -, -, -, -, -⟩ := hQ448
          show Ends p.tables e below _ (T448.setTop (mkF m 86 #[.val (.int x0), .val (.int x1), .val (.int x2), .val (.int x3), .val (.int (1 : Int32)), .val (.int (1 : Int32)), .val (.int (1 : Int32)), .val (.int (0 : Int32)), .val (.ref b443), .unset, .unset, .unset, .unset, .unset, .unset, .unset] [(.ref b446)]))
          refine own_astore X448 hx hby at_86 rfl #[.val (.int x0), .val (.int x1), .val (.int x2), .val (.int x3), .val (.int (1 : Int32)), .val (.int (1 : Int32)), .val (.int (1 : Int32)), .val (.int (0 : Int32)), .val (.ref b443), .val (.ref b446), .unset, .unset, .unset, .unset, .unset, .unset] rfl rfl ?_
          refine own_iload X448 hx hby at_88 rfl rfl ?_
          refine own_if_eq X448 hx hby at_90 (pcY := 105) (pcN := 93) (by decide) rfl (fun (hc451 : (1 : Int32) = (0 : Int32)) => False.elim (by exact absurd hc451 (by decide))) (fun (hc451 : ¬ (1 : Int32) = (0 : Int32)) => ?_)
          refine own_iloadN X448 hx hby at_93 rfl rfl ?_
          refine own_sipush X448 hx hby at_94 rfl (255 : Int32) rfl ?_
          refine own_iand X448 hx hby at_97 rfl ?_
          refine own_i2c X448 hx hby at_98 rfl ?_
          have f453 := (f449.keep K448 (allS ge_b446 all0))
          refine own_static X448 hx hby hZ (argsL := [(.int (x3 &&& (255 : Int32)).toUInt32.toUInt16.toUInt32.toInt32)]) (rest := []) hown (hw _ tw_60) (hw _ tw_61) (hw _ tw_3) (hw _ tw_62) (by decide) (rm11 l Z a0 hw (x3 &&& (255 : Int32)).toUInt32.toUInt16.toUInt32.toInt32 T448.heap n0 G f453 (own_mc _)) rfl (by rw [hml]; rfl) pd_12 rfl (by decide) (W := 0) (Nat.le_refl _) (by decide) (by decide) (by decide) at_99 rfl rfl (fun v452 T452 L452 X452 hQ452 => ?_)
          obtain ⟨b452, rfl, N452q, K452, gq452, sq452, A452⟩ := hQ452
          show Ends p.tables e below _ (T452.setTop (mkF m 102 #[.val (.int x0), .val (.int x1), .val (.int x2), .val (.int x3), .val (.int (1 : Int32)), .val (.int (1 : Int32)), .val (.int (1 : Int32)), .val (.int (0 : Int32)), .val (.ref b443), .val (.ref b446), .unset, .unset, .unset, .unset, .unset, .unset] [(.ref b452)]))
          refine own_goto X452 hx hby at_102 (pc' := 106) (by decide) ?_
          refine own_astore X452 hx hby at_106 rfl #[.val (.int x0), .val (.int x1), .val (.int x2), .val (.int x3), .val (.int (1 : Int32)), .val (.int (1 : Int32)), .val (.int (1 : Int32)), .val (.int (0 : Int32)), .val (.ref b443), .val (.ref b446), .val (.ref b452), .unset, .unset, .unset, .unset, .unset] rfl rfl ?_
          refine own_aconstNull X452 hx hby at_108 rfl ?_
          refine own_astore X452 hx hby at_109 rfl #[.val (.int x0), .val (.int x1), .val (.int x2), .val (.int x3), .val (.int (1 : Int32)), .val (.int (1 : Int32)), .val (.int (1 : Int32)), .val (.int (0 : Int32)), .val (.ref b443), .val (.ref b446), .val (.ref b452), .val .null, .unset, .unset, .unset, .unset] rfl rfl ?_
          refine own_aconstNull X452 hx hby at_111 rfl ?_
          refine own_astore X452 hx hby at_112 rfl #[.val (.int x0), .val (.int x1), .val (.int x2), .val (.int x3), .val (.int (1 : Int32)), .val (.int (1 : Int32)), .val (.int (1 : Int32)), .val (.int (0 : Int32)), .val (.ref b443), .val (.ref b446), .val (.ref b452), .val .null, .val .null, .unset, .unset, .unset] rfl rfl ?_
          refine own_iload X452 hx hby at_114 rfl rfl ?_
          refine own_if_eq X452 hx hby at_116 (pcY := 158) (pcN := 119) (by decide) rfl (fun (hc454 : (1 : Int32) = (0 : Int32)) => False.elim (by exact absurd hc454 (by decide))) (fun (hc454 : ¬ (1 : Int32) = (0 : Int32)) => ?_)
          have f456 := (f453.keep K452 all0)
          refine own_new X452 hx hby hZ hown (hw _ tw_74) (hw _ tw_75) (hw _ tw_76) rfl (by decide) (by decide) at_119 rfl (fun T455 h455 b455 X455 e455 g455 E455 A455 D455 => ?_)
          have ge_b455 : n0 ≤ b455 := own_ge f456 g455
          have ne_b452_b455 : b452 ≠ b455 := own_lt A452.lt g455
          have f457 := ((f450.keep K448 (ninS ne_b443_b446 nin0)).keep K452 nin0)
          have ne_b443_b455 : b443 ≠ b455 := own_lt f457.lt g455
          have f458 := ((A446.keep K448).keep K452)
          have ne_b446_b455 : b446 ≠ b455 := own_lt f458.lt g455
          have F455_modCount : Fld Z h455 b455 "java/util/AbstractList" "modCount" "I" (.int (0 : Int32)) := D455 (Or.inl (hw _ tw_94)) (ty := .int) (by decide)
          have F455_elementData : Fld Z h455 b455 "java/util/ArrayList" "elementData" "[Ljava/lang/Object;" .null := D455 (Or.inl (hw _ tw_97)) (ty := (.array (.object "java/lang/Object"))) (by decide)
          have F455_size : Fld Z h455 b455 "java/util/ArrayList" "size" "I" (.int (0 : Int32)) := D455 (Or.inl (hw _ tw_110)) (ty := .int) (by decide)
          refine own_dup X455 hx hby at_122 rfl rfl ?_
          have f460 := (f456.ext E455)
          refine own_special X455 hx hby hZ (a := b455) (argsL := []) (rest := [(.ref b455)]) hown rfl (hw _ tw_77) (hw _ tw_78) (hw _ tw_76) (hw _ tw_79) (by decide) (rm15 l Z a0 hw b455 h455 n0 G f460 ge_b455 A455 F455_modCount F455_elementData F455_size) e455 (by rw [hml]; rfl) pd_0 rfl (by decide) (W := 1) (Nat.le_refl _) (by decide) (by decide) (by decide) at_123 rfl rfl (fun v459 T459 L459 X459 hQ459 => ?_)
          obtain ⟨rfl, N459q, K459, Fm459, Fe459, Fs459⟩ := hQ459
          show Ends p.tables e below _ (T459.setTop (mkF m 126 #[.val (.int x0), .val (.int x1), .val (.int x2), .val (.int x3), .val (.int (1 : Int32)), .val (.int (1 : Int32)), .val (.int (1 : Int32)), .val (.int (0 : Int32)), .val (.ref b443), .val (.ref b446), .val (.ref b452), .val .null, .val .null, .unset, .unset, .unset] [(.ref b455)]))
          refine own_astore X459 hx hby at_126 rfl #[.val (.int x0), .val (.int x1), .val (.int x2), .val (.int x3), .val (.int (1 : Int32)), .val (.int (1 : Int32)), .val (.int (1 : Int32)), .val (.int (0 : Int32)), .val (.ref b443), .val (.ref b446), .val (.ref b452), .val (.ref b455), .val .null, .unset, .unset, .unset] rfl rfl ?_
          refine own_iload X459 hx hby at_128 rfl rfl ?_
          refine own_if_eq X459 hx hby at_130 (pcY := 158) (pcN := 133) (by decide) rfl (fun (hc461 : (1 : Int32) = (0 : Int32)) => False.elim (by exact absurd hc461 (by decide))) (fun (hc461 : ¬ (1 : Int32) = (0 : Int32)) => ?_)
          have f463 := (f460.keep K459 (allS ge_b455 all0))
          refine own_new X459 hx hby hZ hown (hw _ tw_30) (hw _ tw_31) (hw _ tw_32) rfl (by decide) (by decide) at_133 rfl (fun T462 h462 b462 X462 e462 g462 E462 A462 D462 => ?_)
          have ge_b462 : n0 ≤ b462 := own_ge f463 g462
          have ne_b455_b462 : b455 ≠ b462 := own_lt Fm459.lt g462
          have f464 := ((f457.ext E455).keep K459 (ninS ne_b443_b455 nin0))
          have ne_b443_b462 : b443 ≠ b462 := own_lt f464.lt g462
          have f465 := ((f458.ext E455).keep K459)
          have ne_b446_b462 : b446 ≠ b462 := own_lt f465.lt g462
          have f466 := ((A452.ext E455).keep K459)
          have ne_b452_b462 : b452 ≠ b462 := own_lt f466.lt g462
          have F462_key : Fld Z h462 b462 "com/example/weftwork/weftwork/io/Gml$Entry" "key" "Ljava/lang/String;" .null := D462 (Or.inr (hw _ tw_43)) (ty := (.object "java/lang/String")) (by decide)
          have F462_line : Fld Z h462 b462 "com/example/weftwork/weftwork/io/Gml$Entry" "line" "I" (.int (0 : Int32)) := D462 (Or.inr (hw _ tw_45)) (ty := .int) (by decide)
          have F462_scalar : Fld Z h462 b462 "com/example/weftwork/weftwork/io/Gml$Entry" "scalar" "Ljava/lang/String;" .null := D462 (Or.inr (hw _ tw_47)) (ty := (.object "java/lang/String")) (by decide)
          have F462_list : Fld Z h462 b462 "com/example/weftwork/weftwork/io/Gml$Entry" "list" "Ljava/util/List;" .null := D462 (Or.inr (hw _ tw_49)) (ty := (.object "java/util/List")) (by decide)
          refine own_dup X462 hx hby at_136 rfl rfl ?_
          refine own_aload X462 hx hby at_137 rfl rfl rfl ?_
          refine own_iloadN X462 hx hby at_139 rfl rfl ?_
          refine own_aload X462 hx hby at_140 rfl rfl rfl ?_
          refine own_aconstNull X462 hx hby at_142 rfl ?_
          refine own_special X462 hx hby hZ (a := b462) (argsL := [(.ref b446), (.int x1), (.ref b452), .null]) (rest := [(.ref b462)]) hown rfl (hw _ tw_33) (hw _ tw_34) (hw _ tw_32) (hw _ tw_35) (by decide) (rm7 l Z a0 hw b462 x1 h462 n0 (.ref b446) (.ref b452) .null rfl rfl rfl ge_b462 A462 F462_key F462_line F462_scalar F462_list) e462 (by rw [hml]; rfl) pd_9 rfl (by decide) (W := 1) (Nat.le_refl _) (by decide) (by decide) (by decide) at_143 rfl rfl (fun v467 T467 L467 X467 hQ467 => ?_)
          obtain ⟨rfl, N467q, K467, Fl467⟩ := hQ467
          show Ends p.tables e below _ (T467.setTop (mkF m 146 #[.val (.int x0), .val (.int x1), .val (.int x2), .val (.int x3), .val (.int (1 : Int32)), .val (.int (1 : Int32)), .val (.int (1 : Int32)), .val (.int (0 : Int32)), .val (.ref b443), .val (.ref b446), .val (.ref b452), .val (.ref b455), .val .null, .unset, .unset, .unset] [(.ref b462)]))
          refine own_astore X467 hx hby at_146 rfl #[.val (.int x0), .val (.int x1), .val (.int x2), .val (.int x3), .val (.int (1 : Int32)), .val (.int (1 : Int32)), .val (.int (1 : Int32)), .val (.int (0 : Int32)), .val (.ref b443), .val (.ref b446), .val (.ref b452), .val (.ref b455), .val (.ref b462), .unset, .unset, .unset] rfl rfl ?_
          refine own_aload X467 hx hby at_148 rfl rfl rfl ?_
          refine own_aload X467 hx hby at_150 rfl rfl rfl ?_
          have f469 := ((Fm459.ext E462).keep K467 (ninS ne_b455_b462 nin0))
          have f470 := ((Fe459.ext E462).keep K467 (ninS ne_b455_b462 nin0))
          have f471 := ((Fs459.ext E462).keep K467 (ninS ne_b455_b462 nin0))
          have f472 := ((f463.ext E462).keep K467 (allS ge_b462 all0))
          have f473 := (((A455.keep K459).ext E462).keep K467)
          have f474 := (A462.keep K467)
          refine own_interface X467 hx hby hZ (Cn := "java/util/ArrayList") (a := b455) (argsL := [(.ref b462)]) (rest := []) hown (hw _ tw_98) (hw _ tw_99) (hw _ tw_100) (hw _ tw_101) (hw _ tw_102) (hw _ tw_103) (hw _ tw_104) (hw _ tw_105) (hw _ tw_76) (hw _ tw_106) (by decide) (rm18 l Z a0 hw b455 b462 T467.heap n0 G f472 ge_b455 f473 f469 f470 f471 f474 ne_b455_b462) f473 rfl (by rw [hml]; rfl) pd_13 rfl (by decide) (W := 0) (Nat.le_refl _) (by decide) (by decide) (by decide) at_152 rfl rfl (fun v468 T468 L468 X468 hQ468 => ?_)
          obtain ⟨rfl, N468q, K468⟩ := hQ468
          show Ends p.tables e below _ (T468.setTop (mkF m 157 #[.val (.int x0), .val (.int x1), .val (.int x2), .val (.int x3), .val (.int (1 : Int32)), .val (.int (1 : Int32)), .val (.int (1 : Int32)), .val (.int (0 : Int32)), .val (.ref b443), .val (.ref b446), .val (.ref b452), .val (.ref b455), .val (.ref b462), .unset, .unset, .unset] [(.int (1 : Int32))]))
          refine own_pop X468 hx hby at_157 rfl rfl ?_
          have f476 := (f472.keep K468 (allS ge_b455 all0))
          refine own_new X468 hx hby hZ hown (hw _ tw_30) (hw _ tw_31) (hw _ tw_32) rfl (by decide) (by decide) at_158 rfl (fun T475 h475 b475 X475 e475 g475 E475 A475 D475 => ?_)
          have ge_b475 : n0 ≤ b475 := own_ge f476 g475
          have f477 := (f473.keep K468)
          have ne_b455_b475 : b455 ≠ b475 := own_lt f477.lt g475
          have f478 := (f474.keep K468)
          have ne_b462_b475 : b462 ≠ b475 := own_lt f478.lt g475
          have f479 := (((f464.ext E462).keep K467 (ninS ne_b443_b462 nin0)).keep K468 (ninS ne_b443_b455 nin0))
          have ne_b443_b475 : b443 ≠ b475 := own_lt f479.lt g475
          have f480 := (((f465.ext E462).keep K467).keep K468)
          have ne_b446_b475 : b446 ≠ b475 := own_lt f480.lt g475
          have f481 := (((f466.ext E462).keep K467).keep K468)
          have ne_b452_b475 : b452 ≠ b475 := own_lt f481.lt g475
          have F475_key : Fld Z h475 b475 "com/example/weftwork/weftwork/io/Gml$Entry" "key" "Ljava/lang/String;" .null := D475 (Or.inr (hw _ tw_43)) (ty := (.object "java/lang/String")) (by decide)
          have F475_line : Fld Z h475 b475 "com/example/weftwork/weftwork/io/Gml$Entry" "line" "I" (.int (0 : Int32)) := D475 (Or.inr (hw _ tw_45)) (ty := .int) (by decide)
          have F475_scalar : Fld Z h475 b475 "com/example/weftwork/weftwork/io/Gml$Entry" "scalar" "Ljava/lang/String;" .null := D475 (Or.inr (hw _ tw_47)) (ty := (.object "java/lang/String")) (by decide)
          have F475_list : Fld Z h475 b475 "com/example/weftwork/weftwork/io/Gml$Entry" "list" "Ljava/util/List;" .null := D475 (Or.inr (hw _ tw_49)) (ty := (.object "java/util/List")) (by decide)
          refine own_dup X475 hx hby at_161 rfl rfl ?_
          refine own_aload X475 hx hby at_162 rfl rfl rfl ?_
          refine own_iloadN X475 hx hby at_164 rfl rfl ?_
          refine own_aload X475 hx hby at_165 rfl rfl rfl ?_
          refine own_aload X475 hx hby at_167 rfl rfl rfl ?_
          refine own_special X475 hx hby hZ (a := b475) (argsL := [(.ref b446), (.int x1), (.ref b452), (.ref b455)]) (rest := [(.ref b475)]) hown rfl (hw _ tw_33) (hw _ tw_34) (hw _ tw_32) (hw _ tw_35) (by decide) (rm7 l Z a0 hw b475 x1 h475 n0 (.ref b446) (.ref b452) (.ref b455) rfl rfl rfl ge_b475 A475 F475_key F475_line F475_scalar F475_list) e475 (by rw [hml]; rfl) pd_9 rfl (by decide) (W := 1) (Nat.le_refl _) (by decide) (by decide) (by decide) at_169 rfl rfl (fun v482 T482 L482 X482 hQ482 => ?_)
          obtain ⟨rfl, N482q, K482, Fl482⟩ := hQ482
          show Ends p.tables e below _ (T482.setTop (mkF m 172 #[.val (.int x0), .val (.int x1), .val (.int x2), .val (.int x3), .val (.int (1 : Int32)), .val (.int (1 : Int32)), .val (.int (1 : Int32)), .val (.int (0 : Int32)), .val (.ref b443), .val (.ref b446), .val (.ref b452), .val (.ref b455), .val (.ref b462), .unset, .unset, .unset] [(.ref b475)]))
          refine own_astore X482 hx hby at_172 rfl #[.val (.int x0), .val (.int x1), .val (.int x2), .val (.int x3), .val (.int (1 : Int32)), .val (.int (1 : Int32)), .val (.int (1 : Int32)), .val (.int (0 : Int32)), .val (.ref b443), .val (.ref b446), .val (.ref b452), .val (.ref b455), .val (.ref b462), .val (.ref b475), .unset, .unset] rfl rfl ?_
          refine own_aload X482 hx hby at_174 rfl rfl rfl ?_
          have f484 := (A475.keep K482)
          refine own_virtual X482 hx hby hZ (Cn := "com/example/weftwork/weftwork/io/Gml$Entry") (a := b475) (argsL := []) (rest := []) hown (hw _ tw_50) (hw _ tw_51) (hw _ tw_53) (hw _ tw_52) (hw _ tw_32) (hw _ tw_54) (by decide) (rm9_r l Z a0 hw b475 T482.heap b455 Fl482) f484 rfl (by rw [hml]; rfl) pd_10 rfl (by decide) (W := 0) (Nat.le_refl _) (by decide) (by decide) (by decide) at_176 rfl rfl (fun v483 T483 L483 X483 hQ483 => ?_)
          obtain ⟨rfl, rfl, e483⟩ := hQ483
          show Ends p.tables e below _ (T483.setTop (mkF m 179 #[.val (.int x0), .val (.int x1), .val (.int x2), .val (.int x3), .val (.int (1 : Int32)), .val (.int (1 : Int32)), .val (.int (1 : Int32)), .val (.int (0 : Int32)), .val (.ref b443), .val (.ref b446), .val (.ref b452), .val (.ref b455), .val (.ref b462), .val (.ref b475), .unset, .unset] [(.int (1 : Int32))]))
          refine own_istore X483 hx hby at_179 rfl #[.val (.int x0), .val (.int x1), .val (.int x2), .val (.int x3), .val (.int (1 : Int32)), .val (.int (1 : Int32)), .val (.int (1 : Int32)), .val (.int (0 : Int32)), .val (.ref b443), .val (.ref b446), .val (.ref b452), .val (.ref b455), .val (.ref b462), .val (.ref b475), .val (.int (1 : Int32)), .unset] rfl ?_
          refine own_aload X483 hx hby at_181 rfl rfl rfl ?_
          refine own_ifnullNo X483 hx hby at_183 rfl ?_
          refine own_aload X483 hx hby at_186 rfl rfl rfl ?_
          have f486 := (((Fl467.keep K468 (ninS (Ne.symm ne_b455_b462) nin0)).ext E475).keep K482 (ninS ne_b462_b475 nin0))
          have f487 := ((f478.ext E475).keep K482)
          refine own_virtual X483 hx hby hZ (Cn := "com/example/weftwork/weftwork/io/Gml$Entry") (a := b462) (argsL := []) (rest := []) hown (hw _ tw_50) (hw _ tw_51) (hw _ tw_53) (hw _ tw_52) (hw _ tw_32) (hw _ tw_54) (by decide) (rm9_n l Z a0 hw b462 T482.heap 0 f486) f487 e483 (by rw [hml]; rfl) pd_10 rfl (by decide) (W := 0) (Nat.le_refl _) (by decide) (by decide) (by decide) at_188 rfl rfl (fun v485 T485 L485 X485 hQ485 => ?_)
          obtain ⟨rfl, rfl, e485⟩ := hQ485
          show Ends p.tables e below _ (T485.setTop (mkF m 191 #[.val (.int x0), .val (.int x1), .val (.int x2), .val (.int x3), .val (.int (1 : Int32)), .val (.int (1 : Int32)), .val (.int (1 : Int32)), .val (.int (0 : Int32)), .val (.ref b443), .val (.ref b446), .val (.ref b452), .val (.ref b455), .val (.ref b462), .val (.ref b475), .val (.int (1 : Int32)), .unset] [(.int (0 : Int32))]))
          refine own_if_ne X485 hx hby at_191 (pcY := 198) (pcN := 194) (by decide) rfl (fun (hc488 : ¬ (0 : Int32) = (0 : Int32)) => False.elim (by exact absurd hc488 (by decide))) (fun (hc488 : (0 : Int32) = (0 : Int32)) => ?_)
          refine own_iconst X485 hx hby at_194 rfl (1 : Int32) rfl ?_
          refine own_goto X485 hx hby at_195 (pc' := 199) (by decide) ?_
          refine own_istore X485 hx hby at_199 rfl #[.val (.int x0), .val (.int x1), .val (.int x2), .val (.int x3), .val (.int (1 : Int32)), .val (.int (1 : Int32)), .val (.int (1 : Int32)), .val (.int (0 : Int32)), .val (.ref b443), .val (.ref b446), .val (.ref b452), .val (.ref b455), .val (.ref b462), .val (.ref b475), .val (.int (1 : Int32)), .val (.int (1 : Int32))] rfl ?_
          refine own_iload X485 hx hby at_201 rfl rfl ?_
          refine own_iload X485 hx hby at_203 rfl rfl ?_
          refine own_icmp_ne X485 hx hby at_205 (pcY := 235) (pcN := 208) (by decide) rfl (fun (hc489 : ¬ (1 : Int32) = (1 : Int32)) => False.elim (by exact absurd hc489 (by decide))) (fun (hc489 : (1 : Int32) = (1 : Int32)) => ?_)
          refine own_iload X485 hx hby at_208 rfl rfl ?_
          refine own_aload X485 hx hby at_210 rfl rfl rfl ?_
          refine own_virtual X485 hx hby hZ (Cn := "com/example/weftwork/weftwork/io/Gml$Entry") (a := b475) (argsL := []) (rest := [(.int (1 : Int32))]) hown (hw _ tw_55) (hw _ tw_56) (hw _ tw_58) (hw _ tw_57) (hw _ tw_32) (hw _ tw_59) (by decide) (rm10_r l Z a0 hw b475 T482.heap b455 Fl482) f484 e485 (by rw [hml]; rfl) pd_11 rfl (by decide) (W := 1) (Nat.le_refl _) (by decide) (by decide) (by decide) at_212 rfl rfl (fun v490 T490 L490 X490 hQ490 => ?_)
          obtain ⟨rfl, rfl, e490⟩ := hQ490
          show Ends p.tables e below _ (T490.setTop (mkF m 215 #[.val (.int x0), .val (.int x1), .val (.int x2), .val (.int x3), .val (.int (1 : Int32)), .val (.int (1 : Int32)), .val (.int (1 : Int32)), .val (.int (0 : Int32)), .val (.ref b443), .val (.ref b446), .val (.ref b452), .val (.ref b455), .val (.ref b462), .val (.ref b475), .val (.int (1 : Int32)), .val (.int (1 : Int32))] [(.ref b455), (.int (1 : Int32))]))
          refine own_ifnullNo X490 hx hby at_215 rfl ?_
          refine own_iconst X490 hx hby at_218 rfl (1 : Int32) rfl ?_
          refine own_goto X490 hx hby at_219 (pc' := 223) (by decide) ?_
          refine own_icmp_ne X490 hx hby at_223 (pcY := 235) (pcN := 226) (by decide) rfl (fun (hc491 : ¬ (1 : Int32) = (1 : Int32)) => False.elim (by exact absurd hc491 (by decide))) (fun (hc491 : (1 : Int32) = (1 : Int32)) => ?_)
          refine own_iload X490 hx hby at_226 rfl rfl ?_
          refine own_if_eq X490 hx hby at_228 (pcY := 235) (pcN := 231) (by decide) rfl (fun (hc492 : (1 : Int32) = (0 : Int32)) => False.elim (by exact absurd hc492 (by decide))) (fun (hc492 : ¬ (1 : Int32) = (0 : Int32)) => ?_)
          refine own_iconst X490 hx hby at_231 rfl (1 : Int32) rfl ?_
          refine own_goto X490 hx hby at_232 (pc' := 236) (by decide) ?_
          refine own_ret X490 hx hby hret hlk at_236 (.int (1 : Int32)) rfl (Or.inl ⟨rfl, by simp, _, rfl⟩) (by decide) (by decide) ?_
          exact ⟨rfl, (Fr.app (Fr.app (Fr.app (Fr.app (Fr.app (Fr.app (Fr.app (Fr.app (Fr.app N444 N448q) N452q) N459q) N467q) N468q) N482q) (Fr.nil _)) (Fr.nil _)) (Fr.nil _))⟩
        · -- pc 43: f
          refine own_iconst X0 hx hby at_46 rfl (1 : Int32) rfl ?_
          refine own_goto X0 hx hby at_47 (pc' := 51) (by decide) ?_
          refine own_istore X0 hx hby at_51 rfl #[.val (.int x0), .val (.int x1), .val (.int x2), .val (.int x3), .val (.int (1 : Int32)), .val (.int (1 : Int32)), .val (.int (1 : Int32)), .val (.int (1 : Int32)), .unset, .unset, .unset, .unset, .unset, .unset, .unset, .unset] rfl ?_
          refine own_iconst X0 hx hby at_53 rfl (1 : Int32) rfl ?_
          refine own_newarray X0 hx hby hZ (aty := .char) (hw _ tw_0) e0 (by decide) 1 (by decide) (by decide) (by decide) (by decide) .char rfl [(.int (0 : Int32))] rfl at_54 rfl (fun T493 h493 b493 k493 X493 e493 g493 E493 V493 => ?_)
          have ge_b493 : n0 ≤ b493 := own_ge O g493
          refine own_astore X493 hx hby at_56 rfl #[.val (.int x0), .val (.int x1), .val (.int x2), .val (.int x3), .val (.int (1 : Int32)), .val (.int (1 : Int32)), .val (.int (1 : Int32)), .val (.int (1 : Int32)), .val (.ref b493), .unset, .unset, .unset, .unset, .unset, .unset, .unset] rfl rfl ?_
          refine own_aload X493 hx hby at_58 rfl rfl rfl ?_
          refine own_iconst X493 hx hby at_60 rfl (0 : Int32) rfl ?_
          refine own_iloadN X493 hx hby at_61 rfl rfl ?_
          refine own_sipush X493 hx hby at_62 rfl (255 : Int32) rfl ?_
          refine own_iand X493 hx hby at_65 rfl ?_
          refine own_i2c X493 hx hby at_66 rfl ?_
          refine own_castore X493 hx hby hZ (x2 &&& (255 : Int32)) (own_charv x2) e493 V493 (by decide) 0 rfl (show 0 < 1 by decide) [(.int (x2 &&& (255 : Int32)))] rfl (own_charf x2) N0 ge_b493 at_67 rfl (fun T494 h494 L494 X494 e494 W494 V494 N494 => ?_)
          refine own_iload X494 hx hby at_68 rfl rfl ?_
          refine own_if_eq X494 hx hby at_70 (pcY := 77) (pcN := 73) (by decide) rfl (fun (hc495 : (1 : Int32) = (0 : Int32)) => False.elim (by exact absurd hc495 (by decide))) (fun (hc495 : ¬ (1 : Int32) = (0 : Int32)) => ?_)
          refine own_aconstNull X494 hx hby at_73 rfl ?_
          refine own_goto X494 hx hby at_74 (pc' := 86) (by decide) ?_
          refine own_astore X494 hx hby at_86 rfl #[.val (.int x0), .val (.int x1), .val (.int x2), .val (.int x3), .val (.int (1 : Int32)), .val (.int (1 : Int32)), .val (.int (1 : Int32)), .val (.int (1 : Int32)), .val (.ref b493), .val .null, .unset, .unset, .unset, .unset, .unset, .unset] rfl rfl ?_
          refine own_iload X494 hx hby at_88 rfl rfl ?_
          refine own_if_eq X494 hx hby at_90 (pcY := 105) (pcN := 93) (by decide) rfl (fun (hc496 : (1 : Int32) = (0 : Int32)) => False.elim (by exact absurd hc496 (by decide))) (fun (hc496 : ¬ (1 : Int32) = (0 : Int32)) => ?_)
          refine own_iloadN X494 hx hby at_93 rfl rfl ?_
          refine own_sipush X494 hx hby at_94 rfl (255 : Int32) rfl ?_
          refine own_iand X494 hx hby at_97 rfl ?_
          refine own_i2c X494 hx hby at_98 rfl ?_
          have f498 := ((O.ext E493).wr W494 ge_b493)
          refine own_static X494 hx hby hZ (argsL := [(.int (x3 &&& (255 : Int32)).toUInt32.toUInt16.toUInt32.toInt32)]) (rest := []) hown (hw _ tw_60) (hw _ tw_61) (hw _ tw_3) (hw _ tw_62) (by decide) (rm11 l Z a0 hw (x3 &&& (255 : Int32)).toUInt32.toUInt16.toUInt32.toInt32 h494 n0 G f498 (own_mc _)) e494 (by rw [hml]; rfl) pd_12 rfl (by decide) (W := 0) (Nat.le_refl _) (by decide) (by decide) (by decide) at_99 rfl rfl (fun v497 T497 L497 X497 hQ497 => ?_)
          obtain ⟨b497, rfl, N497q, K497, gq497, sq497, A497⟩ := hQ497
          show Ends p.tables e below _ (T497.setTop (mkF m 102 #[.val (.int x0), .val (.int x1), .val (.int x2), .val (.int x3), .val (.int (1 : Int32)), .val (.int (1 : Int32)), .val (.int (1 : Int32)), .val (.int (1 : Int32)), .val (.ref b493), .val .null, .unset, .unset, .unset, .unset, .unset, .unset] [(.ref b497)]))
          refine own_goto X497 hx hby at_102 (pc' := 106) (by decide) ?_
          refine own_astore X497 hx hby at_106 rfl #[.val (.int x0), .val (.int x1), .val (.int x2), .val (.int x3), .val (.int (1 : Int32)), .val (.int (1 : Int32)), .val (.int (1 : Int32)), .val (.int (1 : Int32)), .val (.ref b493), .val .null, .val (.ref b497), .unset, .unset, .unset, .unset, .unset] rfl rfl ?_
          refine own_aconstNull X497 hx hby at_108 rfl ?_
          refine own_astore X497 hx hby at_109 rfl #[.val (.int x0), .val (.int x1), .val (.int x2), .val (.int x3), .val (.int (1 : Int32)), .val (.int (1 : Int32)), .val (.int (1 : Int32)), .val (.int (1 : Int32)), .val (.ref b493), .val .null, .val (.ref b497), .val .null, .unset, .unset, .unset, .unset] rfl rfl ?_
          refine own_aconstNull X497 hx hby at_111 rfl ?_
          refine own_astore X497 hx hby at_112 rfl #[.val (.int x0), .val (.int x1), .val (.int x2), .val (.int x3), .val (.int (1 : Int32)), .val (.int (1 : Int32)), .val (.int (1 : Int32)), .val (.int (1 : Int32)), .val (.ref b493), .val .null, .val (.ref b497), .val .null, .val .null, .unset, .unset, .unset] rfl rfl ?_
          refine own_iload X497 hx hby at_114 rfl rfl ?_
          refine own_if_eq X497 hx hby at_116 (pcY := 158) (pcN := 119) (by decide) rfl (fun (hc499 : (1 : Int32) = (0 : Int32)) => False.elim (by exact absurd hc499 (by decide))) (fun (hc499 : ¬ (1 : Int32) = (0 : Int32)) => ?_)
          have f501 := (f498.keep K497 all0)
          refine own_new X497 hx hby hZ hown (hw _ tw_74) (hw _ tw_75) (hw _ tw_76) rfl (by decide) (by decide) at_119 rfl (fun T500 h500 b500 X500 e500 g500 E500 A500 D500 => ?_)
          have ge_b500 : n0 ≤ b500 := own_ge f501 g500
          have ne_b497_b500 : b497 ≠ b500 := own_lt A497.lt g500
          have f502 := (V494.keep K497 nin0)
          have ne_b493_b500 : b493 ≠ b500 := own_lt f502.lt g500
          have F500_modCount : Fld Z h500 b500 "java/util/AbstractList" "modCount" "I" (.int (0 : Int32)) := D500 (Or.inl (hw _ tw_94)) (ty := .int) (by decide)
          have F500_elementData : Fld Z h500 b500 "java/util/ArrayList" "elementData" "[Ljava/lang/Object;" .null := D500 (Or.inl (hw _ tw_97)) (ty := (.array (.object "java/lang/Object"))) (by decide)
          have F500_size : Fld Z h500 b500 "java/util/ArrayList" "size" "I" (.int (0 : Int32)) := D500 (Or.inl (hw _ tw_110)) (ty := .int) (by decide)
          refine own_dup X500 hx hby at_122 rfl rfl ?_
          have f504 := (f501.ext E500)
          refine own_special X500 hx hby hZ (a := b500) (argsL := []) (rest := [(.ref b500)]) hown rfl (hw _ tw_77) (hw _ tw_78) (hw _ tw_76) (hw _ tw_79) (by decide) (rm15 l Z a0 hw b500 h500 n0 G f504 ge_b500 A500 F500_modCount F500_elementData F500_size) e500 (by rw [hml]; rfl) pd_0 rfl (by decide) (W := 1) (Nat.le_refl _) (by decide) (by decide) (by decide) at_123 rfl rfl (fun v503 T503 L503 X503 hQ503 => ?_)
          obtain ⟨rfl, N503q, K503, Fm503, Fe503, Fs503⟩ := hQ503
          show Ends p.tables e below _ (T503.setTop (mkF m 126 #[.val (.int x0), .val (.int x1), .val (.int x2), .val (.int x3), .val (.int (1 : Int32)), .val (.int (1 : Int32)), .val (.int (1 : Int32)), .val (.int (1 : Int32)), .val (.ref b493), .val .null, .val (.ref b497), .val .null, .val .null, .unset, .unset, .unset] [(.ref b500)]))
          refine own_astore X503 hx hby at_126 rfl #[.val (.int x0), .val (.int x1), .val (.int x2), .val (.int x3), .val (.int (1 : Int32)), .val (.int (1 : Int32)), .val (.int (1 : Int32)), .val (.int (1 : Int32)), .val (.ref b493), .val .null, .val (.ref b497), .val (.ref b500), .val .null, .unset, .unset, .unset] rfl rfl ?_
          refine own_iload X503 hx hby at_128 rfl rfl ?_
          refine own_if_eq X503 hx hby at_130 (pcY := 158) (pcN := 133) (by decide) rfl (fun (hc505 : (1 : Int32) = (0 : Int32)) => False.elim (by exact absurd hc505 (by decide))) (fun (hc505 : ¬ (1 : Int32) = (0 : Int32)) => ?_)
          have f507 := (f504.keep K503 (allS ge_b500 all0))
          refine own_new X503 hx hby hZ hown (hw _ tw_30) (hw _ tw_31) (hw _ tw_32) rfl (by decide) (by decide) at_133 rfl (fun T506 h506 b506 X506 e506 g506 E506 A506 D506 => ?_)
          have ge_b506 : n0 ≤ b506 := own_ge f507 g506
          have ne_b500_b506 : b500 ≠ b506 := own_lt Fm503.lt g506
          have f508 := ((f502.ext E500).keep K503 (ninS ne_b493_b500 nin0))
          have ne_b493_b506 : b493 ≠ b506 := own_lt f508.lt g506
          have f509 := ((A497.ext E500).keep K503)
          have ne_b497_b506 : b497 ≠ b506 := own_lt f509.lt g506
          have F506_key : Fld Z h506 b506 "com/example/weftwork/weftwork/io/Gml$Entry" "key" "Ljava/lang/String;" .null := D506 (Or.inr (hw _ tw_43)) (ty := (.object "java/lang/String")) (by decide)
          have F506_line : Fld Z h506 b506 "com/example/weftwork/weftwork/io/Gml$Entry" "line" "I" (.int (0 : Int32)) := D506 (Or.inr (hw _ tw_45)) (ty := .int) (by decide)
          have F506_scalar : Fld Z h506 b506 "com/example/weftwork/weftwork/io/Gml$Entry" "scalar" "Ljava/lang/String;" .null := D506 (Or.inr (hw _ tw_47)) (ty := (.object "java/lang/String")) (by decide)
          have F506_list : Fld Z h506 b506 "com/example/weftwork/weftwork/io/Gml$Entry" "list" "Ljava/util/List;" .null := D506 (Or.inr (hw _ tw_49)) (ty := (.object "java/util/List")) (by decide)
          refine own_dup X506 hx hby at_136 rfl rfl ?_
          refine own_aload X506 hx hby at_137 rfl rfl rfl ?_
          refine own_iloadN X506 hx hby at_139 rfl rfl ?_
          refine own_aload X506 hx hby at_140 rfl rfl rfl ?_
          refine own_aconstNull X506 hx hby at_142 rfl ?_
          refine own_special X506 hx hby hZ (a := b506) (argsL := [.null, (.int x1), (.ref b497), .null]) (rest := [(.ref b506)]) hown rfl (hw _ tw_33) (hw _ tw_34) (hw _ tw_32) (hw _ tw_35) (by decide) (rm7 l Z a0 hw b506 x1 h506 n0 .null (.ref b497) .null rfl rfl rfl ge_b506 A506 F506_key F506_line F506_scalar F506_list) e506 (by rw [hml]; rfl) pd_9 rfl (by decide) (W := 1) (Nat.le_refl _) (by decide) (by decide) (by decide) at_143 rfl rfl (fun v510 T510 L510 X510 hQ510 => ?_)
          obtain ⟨rfl, N510q, K510, Fl510⟩ := hQ510
          show Ends p.tables e below _ (T510.setTop (mkF m 146 #[.val (.int x0), .val (.int x1), .val (.int x2), .val (.int x3), .val (.int (1 : Int32)), .val (.int (1 : Int32)), .val (.int (1 : Int32)), .val (.int (1 : Int32)), .val (.ref b493), .val .null, .val (.ref b497), .val (.ref b500), .val .null, .unset, .unset, .unset] [(.ref b506)]))
          refine own_astore X510 hx hby at_146 rfl #[.val (.int x0), .val (.int x1), .val (.int x2), .val (.int x3), .val (.int (1 : Int32)), .val (.int (1 : Int32)), .val (.int (1 : Int32)), .val (.int (1 : Int32)), .val (.ref b493), .val .null, .val (.ref b497), .val (.ref b500), .val (.ref b506), .unset, .unset, .unset] rfl rfl ?_
          refine own_aload X510 hx hby at_148 rfl rfl rfl ?_
          refine own_aload X510 hx hby at_150 rfl rfl rfl ?_
          have f512 := ((Fm503.ext E506).keep K510 (ninS ne_b500_b506 nin0))
          have f513 := ((Fe503.ext E506).keep K510 (ninS ne_b500_b506 nin0))
          have f514 := ((Fs503.ext E506).keep K510 (ninS ne_b500_b506 nin0))
          have f515 := ((f507.ext E506).keep K510 (allS ge_b506 all0))
          have f516 := (((A500.keep K503).ext E506).keep K510)
          have f517 := (A506.keep K510)
          refine own_interface X510 hx hby hZ (Cn := "java/util/ArrayList") (a := b500) (argsL := [(.ref b506)]) (rest := []) hown (hw _ tw_98) (hw _ tw_99) (hw _ tw_100) (hw _ tw_101) (hw _ tw_102) (hw _ tw_103) (hw _ tw_104) (hw _ tw_105) (hw _ tw_76) (hw _ tw_106) (by decide) (rm18 l Z a0 hw b500 b506 T510.heap n0 G f515 ge_b500 f516 f512 f513 f514 f517 ne_b500_b506) f516 rfl (by rw [hml]; rfl) pd_13 rfl (by decide) (W := 0) (Nat.le_refl _) (by decide) (by decide) (by decide) at_152 rfl rfl (fun v511 T511 L511 X511 hQ511 => ?_)
          obtain ⟨rfl, N511q, K511⟩ := hQ511
          show Ends p.tables e below _ (T511.setTop (mkF m 157 #[.val (.int x0), .val (.int x1), .val (.int x2), .val (.int x3), .val (.int (1 : Int32)), .val (.int (1 : Int32)), .val (.int (1 : Int32)), .val (.int (1 : Int32)), .val (.ref b493), .val .null, .val (.ref b497), .val (.ref b500), .val (.ref b506), .unset, .unset, .unset] [(.int (1 : Int32))]))
          refine own_pop X511 hx hby at_157 rfl rfl ?_
          have f519 := (f515.keep K511 (allS ge_b500 all0))
          refine own_new X511 hx hby hZ hown (hw _ tw_30) (hw _ tw_31) (hw _ tw_32) rfl (by decide) (by decide) at_158 rfl (fun T518 h518 b518 X518 e518 g518 E518 A518 D518 => ?_)
          have ge_b518 : n0 ≤ b518 := own_ge f519 g518
          have f520 := (f516.keep K511)
          have ne_b500_b518 : b500 ≠ b518 := own_lt f520.lt g518
          have f521 := (f517.keep K511)
          have ne_b506_b518 : b506 ≠ b518 := own_lt f521.lt g518
          have f522 := (((f508.ext E506).keep K510 (ninS ne_b493_b506 nin0)).keep K511 (ninS ne_b493_b500 nin0))
          have ne_b493_b518 : b493 ≠ b518 := own_lt f522.lt g518
          have f523 := (((f509.ext E506).keep K510).keep K511)
          have ne_b497_b518 : b497 ≠ b518 := own_lt f523.lt g518
          have F518_key : Fld Z h518 b518 "com/example/weftwork/weftwork/io/Gml$Entry" "key" "Ljava/lang/String;" .null := D518 (Or.inr (hw _ tw_43)) (ty := (.object "java/lang/String")) (by decide)
          have F518_line : Fld Z h518 b518 "com/example/weftwork/weftwork/io/Gml$Entry" "line" "I" (.int (0 : Int32)) := D518 (Or.inr (hw _ tw_45)) (ty := .int) (by decide)
          have F518_scalar : Fld Z h518 b518 "com/example/weftwork/weftwork/io/Gml$Entry" "scalar" "Ljava/lang/String;" .null := D518 (Or.inr (hw _ tw_47)) (ty := (.object "java/lang/String")) (by decide)
          have F518_list : Fld Z h518 b518 "com/example/weftwork/weftwork/io/Gml$Entry" "list" "Ljava/util/List;" .null := D518 (Or.inr (hw _ tw_49)) (ty := (.object "java/util/List")) (by decide)
          refine own_dup X518 hx hby at_161 rfl rfl ?_
          refine own_aload X518 hx hby at_162 rfl rfl rfl ?_
          refine own_iloadN X518 hx hby at_164 rfl rfl ?_
          refine own_aload X518 hx hby at_165 rfl rfl rfl ?_
          refine own_aload X518 hx hby at_167 rfl rfl rfl ?_
          refine own_special X518 hx hby hZ (a := b518) (argsL := [.null, (.int x1), (.ref b497), (.ref b500)]) (rest := [(.ref b518)]) hown rfl (hw _ tw_33) (hw _ tw_34) (hw _ tw_32) (hw _ tw_35) (by decide) (rm7 l Z a0 hw b518 x1 h518 n0 .null (.ref b497) (.ref b500) rfl rfl rfl ge_b518 A518 F518_key F518_line F518_scalar F518_list) e518 (by rw [hml]; rfl) pd_9 rfl (by decide) (W := 1) (Nat.le_refl _) (by decide) (by decide) (by decide) at_169 rfl rfl (fun v524 T524 L524 X524 hQ524 => ?_)
          obtain ⟨rfl, N524q, K524, Fl524⟩ := hQ524
          show Ends p.tables e below _ (T524.setTop (mkF m 172 #[.val (.int x0), .val (.int x1), .val (.int x2), .val (.int x3), .val (.int (1 : Int32)), .val (.int (1 : Int32)), .val (.int (1 : Int32)), .val (.int (1 : Int32)), .val (.ref b493), .val .null, .val (.ref b497), .val (.ref b500), .val (.ref b506), .unset, .unset, .unset] [(.ref b518)]))
          refine own_astore X524 hx hby at_172 rfl #[.val (.int x0), .val (.int x1), .val (.int x2), .val (.int x3), .val (.int (1 : Int32)), .val (.int (1 : Int32)), .val (.int (1 : Int32)), .val (.int (1 : Int32)), .val (.ref b493), .val .null, .val (.ref b497), .val (.ref b500), .val (.ref b506), .val (.ref b518), .unset, .unset] rfl rfl ?_
          refine own_aload X524 hx hby at_174 rfl rfl rfl ?_
          have f526 := (A518.keep K524)
          refine own_virtual X524 hx hby hZ (Cn := "com/example/weftwork/weftwork/io/Gml$Entry") (a := b518) (argsL := []) (rest := []) hown (hw _ tw_50) (hw _ tw_51) (hw _ tw_53) (hw _ tw_52) (hw _ tw_32) (hw _ tw_54) (by decide) (rm9_r l Z a0 hw b518 T524.heap b500 Fl524) f526 rfl (by rw [hml]; rfl) pd_10 rfl (by decide) (W := 0) (Nat.le_refl _) (by decide) (by decide) (by decide) at_176 rfl rfl (fun v525 T525 L525 X525 hQ525 => ?_)
          obtain ⟨rfl, rfl, e525⟩ := hQ525
          show Ends p.tables e below _ (T525.setTop (mkF m 179 #[.val (.int x0), .val (.int x1), .val (.int x2), .val (.int x3), .val (.int (1 : Int32)), .val (.int (1 : Int32)), .val (.int (1 : Int32)), .val (.int (1 : Int32)), .val (.ref b493), .val .null, .val (.ref b497), .val (.ref b500), .val (.ref b506), .val (.ref b518), .unset, .unset] [(.int (1 : Int32))]))
          refine own_istore X525 hx hby at_179 rfl #[.val (.int x0), .val (.int x1), .val (.int x2), .val (.int x3), .val (.int (1 : Int32)), .val (.int (1 : Int32)), .val (.int (1 : Int32)), .val (.int (1 : Int32)), .val (.ref b493), .val .null, .val (.ref b497), .val (.ref b500), .val (.ref b506), .val (.ref b518), .val (.int (1 : Int32)), .unset] rfl ?_
          refine own_aload X525 hx hby at_181 rfl rfl rfl ?_
          refine own_ifnullNo X525 hx hby at_183 rfl ?_
          refine own_aload X525 hx hby at_186 rfl rfl rfl ?_
          have f528 := (((Fl510.keep K511 (ninS (Ne.symm ne_b500_b506) nin0)).ext E518).keep K524 (ninS ne_b506_b518 nin0))
          have f529 := ((f521.ext E518).keep K524)
          refine own_virtual X525 hx hby hZ (Cn := "com/example/weftwork/weftwork/io/Gml$Entry") (a := b506) (argsL := []) (rest := []) hown (hw _ tw_50) (hw _ tw_51) (hw _ tw_53) (hw _ tw_52) (hw _ tw_32) (hw _ tw_54) (by decide) (rm9_n l Z a0 hw b506 T524.heap 0 f528) f529 e525 (by rw [hml]; rfl) pd_10 rfl (by decide) (W := 0) (Nat.le_refl _) (by decide) (by decide) (by decide) at_188 rfl rfl (fun v527 T527 L527 X527 hQ527 => ?_)
          obtain ⟨rfl, rfl, e527⟩ := hQ527
          show Ends p.tables e below _ (T527.setTop (mkF m 191 #[.val (.int x0), .val (.int x1), .val (.int x2), .val (.int x3), .val (.int (1 : Int32)), .val (.int (1 : Int32)), .val (.int (1 : Int32)), .val (.int (1 : Int32)), .val (.ref b493), .val .null, .val (.ref b497), .val (.ref b500), .val (.ref b506), .val (.ref b518), .val (.int (1 : Int32)), .unset] [(.int (0 : Int32))]))
          refine own_if_ne X527 hx hby at_191 (pcY := 198) (pcN := 194) (by decide) rfl (fun (hc530 : ¬ (0 : Int32) = (0 : Int32)) => False.elim (by exact absurd hc530 (by decide))) (fun (hc530 : (0 : Int32) = (0 : Int32)) => ?_)
          refine own_iconst X527 hx hby at_194 rfl (1 : Int32) rfl ?_
          refine own_goto X527 hx hby at_195 (pc' := 199) (by decide) ?_
          refine own_istore X527 hx hby at_199 rfl #[.val (.int x0), .val (.int x1), .val (.int x2), .val (.int x3), .val (.int (1 : Int32)), .val (.int (1 : Int32)), .val (.int (1 : Int32)), .val (.int (1 : Int32)), .val (.ref b493), .val .null, .val (.ref b497), .val (.ref b500), .val (.ref b506), .val (.ref b518), .val (.int (1 : Int32)), .val (.int (1 : Int32))] rfl ?_
          refine own_iload X527 hx hby at_201 rfl rfl ?_
          refine own_iload X527 hx hby at_203 rfl rfl ?_
          refine own_icmp_ne X527 hx hby at_205 (pcY := 235) (pcN := 208) (by decide) rfl (fun (hc531 : ¬ (1 : Int32) = (1 : Int32)) => False.elim (by exact absurd hc531 (by decide))) (fun (hc531 : (1 : Int32) = (1 : Int32)) => ?_)
          refine own_iload X527 hx hby at_208 rfl rfl ?_
          refine own_aload X527 hx hby at_210 rfl rfl rfl ?_
          refine own_virtual X527 hx hby hZ (Cn := "com/example/weftwork/weftwork/io/Gml$Entry") (a := b518) (argsL := []) (rest := [(.int (1 : Int32))]) hown (hw _ tw_55) (hw _ tw_56) (hw _ tw_58) (hw _ tw_57) (hw _ tw_32) (hw _ tw_59) (by decide) (rm10_r l Z a0 hw b518 T524.heap b500 Fl524) f526 e527 (by rw [hml]; rfl) pd_11 rfl (by decide) (W := 1) (Nat.le_refl _) (by decide) (by decide) (by decide) at_212 rfl rfl (fun v532 T532 L532 X532 hQ532 => ?_)
          obtain ⟨rfl, rfl, e532⟩ := hQ532
          show Ends p.tables e below _ (T532.setTop (mkF m 215 #[.val (.int x0), .val (.int x1), .val (.int x2), .val (.int x3), .val (.int (1 : Int32)), .val (.int (1 : Int32)), .val (.int (1 : Int32)), .val (.int (1 : Int32)), .val (.ref b493), .val .null, .val (.ref b497), .val (.ref b500), .val (.ref b506), .val (.ref b518), .val (.int (1 : Int32)), .val (.int (1 : Int32))] [(.ref b500), (.int (1 : Int32))]))
          refine own_ifnullNo X532 hx hby at_215 rfl ?_
          refine own_iconst X532 hx hby at_218 rfl (1 : Int32) rfl ?_
          refine own_goto X532 hx hby at_219 (pc' := 223) (by decide) ?_
          refine own_icmp_ne X532 hx hby at_223 (pcY := 235) (pcN := 226) (by decide) rfl (fun (hc533 : ¬ (1 : Int32) = (1 : Int32)) => False.elim (by exact absurd hc533 (by decide))) (fun (hc533 : (1 : Int32) = (1 : Int32)) => ?_)
          refine own_iload X532 hx hby at_226 rfl rfl ?_
          refine own_if_eq X532 hx hby at_228 (pcY := 235) (pcN := 231) (by decide) rfl (fun (hc534 : (1 : Int32) = (0 : Int32)) => False.elim (by exact absurd hc534 (by decide))) (fun (hc534 : ¬ (1 : Int32) = (0 : Int32)) => ?_)
          refine own_iconst X532 hx hby at_231 rfl (1 : Int32) rfl ?_
          refine own_goto X532 hx hby at_232 (pc' := 236) (by decide) ?_
          refine own_ret X532 hx hby hret hlk at_236 (.int (1 : Int32)) rfl (Or.inl ⟨rfl, by simp, _, rfl⟩) (by decide) (by decide) ?_
          exact ⟨rfl, (Fr.app (Fr.app (Fr.app (Fr.app (Fr.app (Fr.app (Fr.app (Fr.app N494 N497q) N503q) N510q) N511q) N524q) (Fr.nil _)) (Fr.nil _)) (Fr.nil _))⟩
set_option maxRecDepth 65536 in
set_option maxHeartbeats 40000000 in
theorem comes_1 {Post : Tables → Env → Array Value → State → Outcome → State → Prop} (hpost : ∀ tb e args s v u, (limb_1_1.after args s (.returned v) u = true ∧ limb_1_2.after args s (.returned v) u = true ∧ True) → FrameEnd s (.returned v) u (Jvm.fieldLocs frame_1_writes args s ++ Jvm.arrayLocs frame_1_arrays args s ++ Jvm.staticLocs frame_1_statics s) 32 128 → Post tb e args s (.returned v) u) :
    ArmFor flags0 classFile x code maxLocals ret World_1 tables_1 room_1 Calls_1 rest_1 Pre_1 Post := by
  intro l hfl _ _ p e ha hc hk s m args below hf hA hF happ hP
  obtain ⟨hcalls, hrest, hpre⟩ := hP
  obtain ⟨-, -, -, hnamed, -, -, -, hat⟩ := (Spec.applies_iff hf).mp happ
  obtain ⟨hg, hn⟩ := and_e (Cond.before_iff.mp (show (Jvm.Cond.and given_1 narrow_1).before args s = true from hpre))
  obtain ⟨hcount, hg0⟩ := and_e hg
  obtain ⟨hv0, hg1⟩ := and_e hg0
  obtain ⟨hv1, hg2⟩ := and_e hg1
  obtain ⟨hv2, hg3⟩ := and_e hg2
  have hv3 := hg3
  obtain ⟨w0, w1, w2, w3, rfl⟩ : ∃ w0 w1 w2 w3 : Value, args = #[w0, w1, w2, w3] := by
    have hs : args.size = 4 := by simpa [Cond.value, given_1] using hcount
    obtain ⟨L⟩ := args
    match L, hs with
    | [w0, w1, w2, w3], _ => exact ⟨w0, w1, w2, w3, rfl⟩
  have hw := fun d (hd : d ∈ tables_1) => atoms_spec (ws := Jvm.Cond.code x code maxLocals ret :: tables_1) hat d (List.mem_cons_of_mem _ hd)
  have hfit : Fit s := fun {y c} hc i hi => by
    obtain ⟨ha, rfl⟩ := Array.getElem?_eq_some_iff.mp hc
    have q := List.all_eq_true.mp ((Array.all_eq_true_iff_forall_mem.mp hF) _ (Array.getElem_mem ha)) i (List.mem_range.mpr hi)
    simpa [Array.getElem?_eq_getElem hi] using q
  obtain ⟨hsets, hown0⟩ := atoms_of _ (rest_1_c_eq ▸ (show rest_1_c.before _ s = true from hrest))
  have hr0 := Cond.before_iff.mp hown0
  obtain ⟨i0, ei0⟩ := is_v hv0
  obtain rfl : w0 = (.int i0) := Option.some.inj ei0
  obtain ⟨i1, ei1⟩ := is_v hv1
  obtain rfl : w1 = (.int i1) := Option.some.inj ei1
  obtain ⟨i2, ei2⟩ := is_v hv2
  obtain rfl : w2 = (.int i2) := Option.some.inj ei2
  obtain ⟨i3, ei3⟩ := is_v hv3
  obtain rfl : w3 = (.int i3) := Option.some.inj ei3
  have n3 := not_v (Cond.before_iff.mp (hsets _ (List.mem_of_getElem? (i := 2) rfl)))
  obtain ⟨z, ez⟩ := is_v (Cond.before_iff.mp (hsets _ (List.mem_of_getElem? (i := 1) rfl)))
  have S1 : Sta s s.heap "java/lang/String" "COMPACT_STRINGS" "Z" (.int z) := Sta.start ez (Or.inl (hsets _ (List.mem_of_getElem? (i := 0) rfl)))
  have c1 : ¬ (z = (0 : Int32)) := gotF (Cond.eq_ints ez (Term.int_eval (0))) n3
  have nA := Cond.before_iff.mp (hsets _ (List.mem_of_getElem? (i := 15) rfl))
  obtain ⟨aD, eD⟩ := arr_v nA
  have S2 : Sta s s.heap "java/util/ArrayList" "DEFAULTCAPACITY_EMPTY_ELEMENTDATA" "[Ljava/lang/Object;" (.ref aD) := Sta.start eD (Or.inr ⟨(hw _ tw_76), hsets _ (List.mem_of_getElem? (i := 11) rfl)⟩)
  have V2 := own_enumArr hfit eD nA (Cond.before_iff.mp (hsets _ (List.mem_of_getElem? (i := 17) rfl))) (by decide) (vs := []) rfl (fun cl hc => trivial)
  have G : OwnG s z aD := ⟨S1, c1, S2, V2⟩
  obtain ⟨n, o, h1, h2, h3, _, L, rfl, ⟨rfl, N⟩, hq⟩ := rm0 l s _ hw i0 i1 i2 i3 s.heap s.heap.size G (Old.start s) p e ha hc hk s m _ below hf ((Spec.applies_iff_loose hf).mp happ).1 ⟨rfl, State.Warmed39.refl s, rfl⟩ trivial
  refine ⟨n, _, h1, h2, h3, hpost _ _ _ _ _ _ ⟨Cond.after_iff.mpr rfl, Cond.after_iff.mpr (eq_i res_at (Term.int_eval (1)) rfl), trivial⟩ ⟨hq.1, hq.2.1, (hq.2.2.sift fun y hy => Or.inr (N y hy)).mono (by decide) (by decide)⟩⟩
theorem main_1_1 : Claimed_1_1 := comes_1 fun _ _ _ _ _ _ h hF => ⟨h.1, hF⟩
theorem main_1_2 : Claimed_1_2 := comes_1 fun _ _ _ _ _ _ h hF => ⟨h.2.1, hF⟩
end Jvm.Pilot.@@N@@
namespace Jvm.Pilot.@@N@@
open Jvm Jvm.ClassFile Sem Op Lib Jvm.Free Jvm.Stand Jvm.Pilot.@@N@@.Jvm.D
/-! MADE BY PROGRAM (witnessworld.py) out of the Statement's table words and the real class files: 31 classes; the members and pool entries that the words name. The judged class is class 1, her method 1. -/
namespace start1
open Jvm.ClassFile
def u (s : String) : CpInfo := .utf8 (stringToUtf16 s)
/-- a pool by its gaps: so many unusable entries, then the entry; so many at the end -/
def gap : Nat → List CpInfo → List CpInfo
  | 0, r => r
  | n + 1, r => .unusable :: gap n r
def poolList (es : List (Nat × CpInfo)) (last : Nat) : List CpInfo := es.foldr (fun e r => gap e.1 (e.2 :: r)) (gap last [])
def pool (es : List (Nat × CpInfo)) (last : Nat) : Array CpInfo := ⟨poolList es last⟩
def fileOf (pool : Array CpInfo) (this : Nat) (attrs : Array Attribute := #[]) (ms : Array MethodInfo := #[]) (fl : Nat := 33) (sup : Nat := 0) (ifs : Array Nat := #[]) (fds : Array FieldInfo := #[]) : ClassFile where
  minorVersion := 0
  majorVersion := 65
  constantPool := pool
  accessFlags := fl
  thisClass := this
  superClass := sup
  interfaces := ifs
  fields := fds
  methods := ms
  attributes := attrs
def plain (name : String) (sup : Option ClassId) : Class where
  name := name
  kind := .ordinary
  loader := none
  accessFlags := 33
  super := sup
  interfaces := #[]
  cf := none
  fields := #[]
  methods := #[]
  instanceTypes := #[]
  staticTypes := #[]
  resolved := #[]
  callSites := []
  init := .initialized
  statics := none
  mirror := none

def pool0 : Array CpInfo := pool [(5, u "<init>"), (0, u "()V"), (1, .class_ 10), (1, u "java/lang/Object")] 113

def k0c0 : Code := { maxStack := 0, maxLocals := 1, code := object_method_1_code, exceptionTable := #[], attributes := #[] }
def k0m0 : Method := { name := "<init>", desc := "()V", sig := { parameters := [], returnType := none }, accessFlags := 1, code := some k0c0 }
/-- java/lang/Object -/
def k0 : Class := { plain "java/lang/Object" none with
  accessFlags := 33
  interfaces := #[]
  cf := some (fileOf pool0 8 #[] #[{ accessFlags := 1, nameIndex := 5, descriptorIndex := 6, attributes := #[] }] 33 0 #[] #[])
  fields := #[]
  methods := #[k0m0]
  instanceTypes := #[]
  staticTypes := #[]
  resolved := Array.replicate 124 none
  statics := none }

def pool1 : Array CpInfo := pool [(2, .class_ 4), (0, .nameAndType 5 6), (0, u "java/lang/Object"), (0, u "<init>"), (0, u "()V"), (0, .class_ 8), (0, u "java/lang/String"), (0, .methodref 7 10), (0, .nameAndType 5 11), (0, u "([C)V"), (0, .methodref 7 13), (0, .nameAndType 14 15), (0, u "valueOf"), (0, u "(C)Ljava/lang/String;"), (0, .class_ 17), (0, u "java/util/ArrayList"), (0, .methodref 16 3), (0, .class_ 20), (0, u "com/example/weftwork/weftwork/io/Gml$Entry"), (0, .methodref 19 22), (0, .nameAndType 5 23), (0, u "(Ljava/lang/String;ILjava/lang/String;Ljava/util/List;)V"), (0, .interfaceMethodref 25 26), (0, .class_ 27), (0, .nameAndType 28 29), (0, u "java/util/List"), (0, u "add"), (0, u "(Ljava/lang/Object;)Z"), (0, .methodref 19 31), (0, .nameAndType 32 33), (0, u "isList"), (0, u "()Z"), (0, .methodref 19 35), (0, .nameAndType 36 37), (0, u "list"), (0, u "()Ljava/util/List;"), (0, .class_ 39), (0, u "com/example/weftwork/weftwork/io/EntryIsListPinLaw"), (2, u "law"), (0, u "(IIII)Z")] 9

def k1m0 : Method := { name := "<init>", desc := "()V", sig := { parameters := [], returnType := none }, accessFlags := 1, code := none }
def k1c1 : Code := { maxStack := 6, maxLocals := 16, code := code, exceptionTable := #[], attributes := #[] }
def k1m1 : Method := { name := "law", desc := "(IIII)Z", sig := { parameters := [.int, .int, .int, .int], returnType := some .boolean }, accessFlags := 9, code := some k1c1 }
/-- com/example/weftwork/weftwork/io/EntryIsListPinLaw -/
def k1 : Class := { plain "com/example/weftwork/weftwork/io/EntryIsListPinLaw" (some 0) with
  accessFlags := 49
  interfaces := #[]
  cf := some (fileOf pool1 38 #[] #[{ accessFlags := 1, nameIndex := 5, descriptorIndex := 6, attributes := #[] }, { accessFlags := 9, nameIndex := 42, descriptorIndex := 43, attributes := #[] }] 49 2 #[] #[])
  fields := #[]
  methods := #[k1m0, k1m1]
  instanceTypes := #[]
  staticTypes := #[]
  resolved := Array.replicate 53 none
  statics := none }

def pool2 : Array CpInfo := pool [(1, .class_ 2), (0, u "java/io/Serializable"), (0, .class_ 4), (0, u "java/lang/Object")] 2

/-- java/io/Serializable -/
def k2 : Class := { plain "java/io/Serializable" (some 0) with
  accessFlags := 1537
  interfaces := #[]
  cf := some (fileOf pool2 1 #[] #[] 1537 3 #[] #[])
  fields := #[]
  methods := #[]
  instanceTypes := #[]
  staticTypes := #[]
  resolved := Array.replicate 7 none
  statics := none }

def pool3 : Array CpInfo := pool [(1, .class_ 2), (0, u "java/lang/Comparable"), (0, .class_ 4), (0, u "java/lang/Object")] 7

/-- java/lang/Comparable -/
def k3 : Class := { plain "java/lang/Comparable" (some 0) with
  accessFlags := 1537
  interfaces := #[]
  cf := some (fileOf pool3 1 #[] #[] 1537 3 #[] #[])
  fields := #[]
  methods := #[]
  instanceTypes := #[]
  staticTypes := #[]
  resolved := Array.replicate 12 none
  statics := none }

def pool4 : Array CpInfo := pool [(2, .class_ 4), (1, u "java/lang/CharSequence"), (42, .class_ 48), (0, u "java/lang/CharSequence$1CodePointIterator"), (10, .class_ 60), (0, u "java/lang/CharSequence$1CharIterator"), (5, .class_ 67), (0, u "java/lang/Object")] 63

/-- java/lang/CharSequence -/
def k4 : Class := { plain "java/lang/CharSequence" (some 0) with
  accessFlags := 1537
  interfaces := #[]
  cf := some (fileOf pool4 2 #[.nestMembers #[47, 59]] #[] 1537 66 #[] #[])
  fields := #[]
  methods := #[]
  instanceTypes := #[]
  staticTypes := #[]
  resolved := Array.replicate 131 none
  statics := none }

def pool5 : Array CpInfo := pool [(1, .class_ 2), (0, u "java/lang/constant/Constable"), (0, .class_ 4), (0, u "java/lang/Object")] 6

/-- java/lang/constant/Constable -/
def k5 : Class := { plain "java/lang/constant/Constable" (some 0) with
  accessFlags := 1537
  interfaces := #[]
  cf := some (fileOf pool5 1 #[] #[] 1537 3 #[] #[])
  fields := #[]
  methods := #[]
  instanceTypes := #[]
  staticTypes := #[]
  resolved := Array.replicate 11 none
  statics := none }

def pool6 : Array CpInfo := pool [(1, .class_ 2), (0, u "java/lang/constant/ConstantDesc"), (0, .class_ 4), (0, u "java/lang/Object")] 32

/-- java/lang/constant/ConstantDesc -/
def k6 : Class := { plain "java/lang/constant/ConstantDesc" (some 0) with
  accessFlags := 1537
  interfaces := #[]
  cf := some (fileOf pool6 1 #[] #[] 1537 3 #[] #[])
  fields := #[]
  methods := #[]
  instanceTypes := #[]
  staticTypes := #[]
  resolved := Array.replicate 37 none
  statics := none }

def pool7 : Array CpInfo := pool [(1, .methodref 2 3), (0, .class_ 4), (0, .nameAndType 5 6), (0, u "java/lang/Object"), (0, u "<init>"), (0, u "()V"), (2, .fieldref 10 11), (0, .class_ 12), (0, .nameAndType 13 14), (0, u "java/lang/String"), (0, u "value"), (0, u "[B"), (0, .fieldref 10 16), (0, .nameAndType 17 18), (0, u "coder"), (0, u "B"), (2, u "hash"), (0, u "I"), (2, u "hashIsZero"), (0, u "Z"), (0, .methodref 10 28), (0, .nameAndType 5 29), (0, u "([CIILjava/lang/Void;)V"), (8, .fieldref 10 39), (0, .nameAndType 40 26), (0, u "COMPACT_STRINGS"), (1, .class_ 44), (1, u "java/lang/StringUTF16"), (0, u "compress"), (1, .methodref 42 48), (0, .nameAndType 49 50), (0, u "coderFromArrayLen"), (0, u "([BI)B"), (2, u "toBytes"), (53, .class_ 109), (1, u "java/lang/StringLatin1"), (67, .methodref 42 178), (0, .nameAndType 45 179), (0, u "([CII)[B"), (29, .methodref 10 210), (0, .nameAndType 5 211), (0, u "([BB)V"), (157, u "(C)Z"), (205, .class_ 576), (0, u "java/lang/CharSequence"), (22, u "CASE_INSENSITIVE_ORDER"), (0, u "Ljava/util/Comparator;"), (181, u "valueOf"), (0, u "(C)Ljava/lang/String;"), (226, u "([C)V"), (4, .methodref 107 1016), (0, .nameAndType 1017 369), (0, u "canEncode"), (0, .methodref 107 1019), (0, .nameAndType 53 1020), (0, u "(C)[B"), (80, u "serialPersistentFields"), (0, u "[Ljava/io/ObjectStreamField;"), (0, .class_ 1104), (0, u "java/lang/String$CaseInsensitiveComparator"), (1, .class_ 1107), (0, u "java/io/Serializable"), (0, .class_ 1109), (0, u "java/lang/Comparable"), (0, .class_ 1111), (0, u "java/lang/constant/Constable"), (0, .class_ 1113), (0, u "java/lang/constant/ConstantDesc"), (2, u "serialVersionUID"), (0, u "J"), (3, u "REPL"), (0, u "C"), (2, u "LATIN1"), (1, u "UTF16")] 323

def k7m0 : Method := { name := "<init>", desc := "()V", sig := { parameters := [], returnType := none }, accessFlags := 1, code := none }
def k7c1 : Code := { maxStack := 5, maxLocals := 2, code := jdk_42_method_3_code, exceptionTable := #[], attributes := #[] }
def k7m1 : Method := { name := "<init>", desc := "([C)V", sig := { parameters := [(.array .char)], returnType := none }, accessFlags := 1, code := some k7c1 }
def k7c2 : Code := { maxStack := 4, maxLocals := 1, code := jdk_42_method_139_code, exceptionTable := #[], attributes := #[] }
def k7m2 : Method := { name := "valueOf", desc := "(C)Ljava/lang/String;", sig := { parameters := [.char], returnType := some (.object "java/lang/String") }, accessFlags := 9, code := some k7c2 }
def k7c3 : Code := { maxStack := 4, maxLocals := 6, code := jdk_42_method_149_code, exceptionTable := #[], attributes := #[] }
def k7m3 : Method := { name := "<init>", desc := "([CIILjava/lang/Void;)V", sig := { parameters := [(.array .char), .int, .int, (.object "java/lang/Void")], returnType := none }, accessFlags := 2, code := some k7c3 }
def k7c4 : Code := { maxStack := 2, maxLocals := 3, code := jdk_42_method_151_code, exceptionTable := #[], attributes := #[] }
def k7m4 : Method := { name := "<init>", desc := "([BB)V", sig := { parameters := [(.array .byte), .byte], returnType := none }, accessFlags := 0, code := some k7c4 }
/-- java/lang/String -/
def k7 : Class := { plain "java/lang/String" (some 0) with
  accessFlags := 49
  interfaces := #[2, 3, 4, 5, 6]
  cf := some (fileOf pool7 10 #[.nestMembers #[1103]] #[{ accessFlags := 1, nameIndex := 5, descriptorIndex := 6, attributes := #[] }, { accessFlags := 1, nameIndex := 5, descriptorIndex := 1010, attributes := #[] }, { accessFlags := 9, nameIndex := 782, descriptorIndex := 783, attributes := #[] }, { accessFlags := 2, nameIndex := 5, descriptorIndex := 29, attributes := #[] }, { accessFlags := 0, nameIndex := 5, descriptorIndex := 211, attributes := #[] }] 49 2 #[1106, 1108, 575, 1110, 1112] #[{ accessFlags := 18, nameIndex := 13, descriptorIndex := 14, attributes := #[] }, { accessFlags := 18, nameIndex := 17, descriptorIndex := 18, attributes := #[] }, { accessFlags := 2, nameIndex := 21, descriptorIndex := 22, attributes := #[] }, { accessFlags := 2, nameIndex := 25, descriptorIndex := 26, attributes := #[] }, { accessFlags := 26, nameIndex := 1116, descriptorIndex := 1117, attributes := #[] }, { accessFlags := 24, nameIndex := 40, descriptorIndex := 26, attributes := #[] }, { accessFlags := 26, nameIndex := 1101, descriptorIndex := 1102, attributes := #[] }, { accessFlags := 26, nameIndex := 1121, descriptorIndex := 1122, attributes := #[] }, { accessFlags := 25, nameIndex := 599, descriptorIndex := 600, attributes := #[] }, { accessFlags := 24, nameIndex := 1125, descriptorIndex := 18, attributes := #[] }, { accessFlags := 24, nameIndex := 1127, descriptorIndex := 18, attributes := #[] }])
  fields := #[{ name := "value", type := (.array .byte), accessFlags := 18, slot := 0, constantValue := 0 }, { name := "coder", type := .byte, accessFlags := 18, slot := 1, constantValue := 0 }, { name := "hash", type := .int, accessFlags := 2, slot := 2, constantValue := 0 }, { name := "hashIsZero", type := .boolean, accessFlags := 2, slot := 3, constantValue := 0 }, { name := "serialVersionUID", type := .long, accessFlags := 26, slot := 0, constantValue := 0 }, { name := "COMPACT_STRINGS", type := .boolean, accessFlags := 24, slot := 1, constantValue := 0 }, { name := "serialPersistentFields", type := (.array (.object "java/io/ObjectStreamField")), accessFlags := 26, slot := 2, constantValue := 0 }, { name := "REPL", type := .char, accessFlags := 26, slot := 3, constantValue := 0 }, { name := "CASE_INSENSITIVE_ORDER", type := (.object "java/util/Comparator"), accessFlags := 25, slot := 4, constantValue := 0 }, { name := "LATIN1", type := .byte, accessFlags := 24, slot := 5, constantValue := 0 }, { name := "UTF16", type := .byte, accessFlags := 24, slot := 6, constantValue := 0 }]
  methods := #[k7m0, k7m1, k7m2, k7m3, k7m4]
  instanceTypes := #[(.array .byte), .byte, .int, .boolean]
  staticTypes := #[.long, .boolean, (.array (.object "java/io/ObjectStreamField")), .char, (.object "java/util/Comparator"), .byte, .byte]
  resolved := Array.replicate 1451 none
  statics := some 0 }

def pool8 : Array CpInfo := pool [(6, .class_ 8), (1, u "java/lang/Object"), (0, u "<init>"), (0, u "()V"), (1, .class_ 14), (1, u "java/lang/StringUTF16"), (31, u "$assertionsDisabled"), (0, u "Z"), (13, u "HI_BYTE_SHIFT"), (0, u "I"), (2, u "LO_BYTE_SHIFT"), (49, .methodref 12 116), (0, .nameAndType 117 118), (0, u "compress"), (0, u "([CI[BII)I"), (3, u "([CII)[B"), (138, u "coderFromArrayLen"), (0, u "([BI)B"), (106, .class_ 371), (1, u "java/lang/StringUTF16$LinesSpliterator"), (58, u "MAX_LENGTH"), (196, .class_ 628), (0, u "java/lang/StringUTF16$CodePointsSpliterator"), (0, .class_ 630), (0, u "java/lang/StringUTF16$CharsSpliterator")] 4

def k8m0 : Method := { name := "<init>", desc := "()V", sig := { parameters := [], returnType := none }, accessFlags := 0, code := none }
def k8c1 : Code := { maxStack := 2, maxLocals := 2, code := jdk_52_method_15_code, exceptionTable := #[], attributes := #[] }
def k8m1 : Method := { name := "coderFromArrayLen", desc := "([BI)B", sig := { parameters := [(.array .byte), .int], returnType := some .byte }, accessFlags := 8, code := some k8c1 }
def k8c2 : Code := { maxStack := 5, maxLocals := 6, code := jdk_52_method_16_code, exceptionTable := #[], attributes := #[] }
def k8m2 : Method := { name := "compress", desc := "([CII)[B", sig := { parameters := [(.array .char), .int, .int], returnType := some (.array .byte) }, accessFlags := 9, code := some k8c2 }
def k8c3 : Code := { maxStack := 3, maxLocals := 7, code := jdk_52_method_21_code, exceptionTable := #[], attributes := #[] }
def k8m3 : Method := { name := "compress", desc := "([CI[BII)I", sig := { parameters := [(.array .char), .int, (.array .byte), .int, .int], returnType := some .int }, accessFlags := 9, code := some k8c3 }
/-- java/lang/StringUTF16 -/
def k8 : Class := { plain "java/lang/StringUTF16" (some 0) with
  accessFlags := 48
  interfaces := #[]
  cf := some (fileOf pool8 12 #[.nestMembers #[627, 629, 369]] #[{ accessFlags := 0, nameIndex := 9, descriptorIndex := 10, attributes := #[] }, { accessFlags := 8, nameIndex := 261, descriptorIndex := 262, attributes := #[] }, { accessFlags := 9, nameIndex := 117, descriptorIndex := 122, attributes := #[] }, { accessFlags := 9, nameIndex := 117, descriptorIndex := 118, attributes := #[] }] 48 6 #[] #[{ accessFlags := 26, nameIndex := 61, descriptorIndex := 62, attributes := #[] }, { accessFlags := 26, nameIndex := 65, descriptorIndex := 62, attributes := #[] }, { accessFlags := 24, nameIndex := 430, descriptorIndex := 62, attributes := #[] }, { accessFlags := 4120, nameIndex := 46, descriptorIndex := 47, attributes := #[] }])
  fields := #[{ name := "HI_BYTE_SHIFT", type := .int, accessFlags := 26, slot := 0, constantValue := 0 }, { name := "LO_BYTE_SHIFT", type := .int, accessFlags := 26, slot := 1, constantValue := 0 }, { name := "MAX_LENGTH", type := .int, accessFlags := 24, slot := 2, constantValue := 0 }, { name := "$assertionsDisabled", type := .boolean, accessFlags := 4120, slot := 3, constantValue := 0 }]
  methods := #[k8m0, k8m1, k8m2, k8m3]
  instanceTypes := #[]
  staticTypes := #[.int, .int, .int, .boolean]
  resolved := Array.replicate 635 none
  statics := none }

def pool9 : Array CpInfo := pool [(1, .methodref 2 3), (0, .class_ 4), (0, .nameAndType 5 6), (0, u "java/lang/Object"), (0, u "<init>"), (0, u "()V"), (0, .class_ 8), (0, u "java/lang/Record")] 13

def k9c0 : Code := { maxStack := 1, maxLocals := 1, code := jdk_30_method_1_code, exceptionTable := #[], attributes := #[] }
def k9m0 : Method := { name := "<init>", desc := "()V", sig := { parameters := [], returnType := none }, accessFlags := 4, code := some k9c0 }
/-- java/lang/Record -/
def k9 : Class := { plain "java/lang/Record" (some 0) with
  accessFlags := 1057
  interfaces := #[]
  cf := some (fileOf pool9 7 #[] #[{ accessFlags := 4, nameIndex := 5, descriptorIndex := 6, attributes := #[] }] 1057 2 #[] #[])
  fields := #[]
  methods := #[k9m0]
  instanceTypes := #[]
  staticTypes := #[]
  resolved := Array.replicate 22 none
  statics := none }

def pool10 : Array CpInfo := pool [(1, .methodref 2 3), (0, .class_ 4), (0, .nameAndType 5 6), (0, u "java/lang/Record"), (0, u "<init>"), (0, u "()V"), (0, .fieldref 8 9), (0, .class_ 10), (0, .nameAndType 11 12), (0, u "com/example/weftwork/weftwork/io/Gml$Entry"), (0, u "key"), (0, u "Ljava/lang/String;"), (0, .fieldref 8 14), (0, .nameAndType 15 16), (0, u "line"), (0, u "I"), (0, .fieldref 8 18), (0, .nameAndType 19 12), (0, u "scalar"), (0, .fieldref 8 21), (0, .nameAndType 22 23), (0, u "list"), (0, u "Ljava/util/List;"), (14, u "(Ljava/lang/String;ILjava/lang/String;Ljava/util/List;)V"), (4, u "isList"), (0, u "()Z"), (4, u "()Ljava/util/List;"), (4, .class_ 55), (0, u "com/example/weftwork/weftwork/io/Gml")] 22

def k10c0 : Code := { maxStack := 2, maxLocals := 5, code := prog_30_method_1_code, exceptionTable := #[], attributes := #[] }
def k10m0 : Method := { name := "<init>", desc := "(Ljava/lang/String;ILjava/lang/String;Ljava/util/List;)V", sig := { parameters := [(.object "java/lang/String"), .int, (.object "java/lang/String"), (.object "java/util/List")], returnType := none }, accessFlags := 0, code := some k10c0 }
def k10c1 : Code := { maxStack := 1, maxLocals := 1, code := prog_30_method_2_code, exceptionTable := #[], attributes := #[] }
def k10m1 : Method := { name := "isList", desc := "()Z", sig := { parameters := [], returnType := some .boolean }, accessFlags := 0, code := some k10c1 }
def k10c2 : Code := { maxStack := 1, maxLocals := 1, code := prog_30_method_9_code, exceptionTable := #[], attributes := #[] }
def k10m2 : Method := { name := "list", desc := "()Ljava/util/List;", sig := { parameters := [], returnType := some (.object "java/util/List") }, accessFlags := 1, code := some k10c2 }
/-- com/example/weftwork/weftwork/io/Gml$Entry -/
def k10 : Class := { plain "com/example/weftwork/weftwork/io/Gml$Entry" (some 9) with
  accessFlags := 48
  interfaces := #[]
  cf := some (fileOf pool10 8 #[.nestHost 54] #[{ accessFlags := 0, nameIndex := 5, descriptorIndex := 38, attributes := #[] }, { accessFlags := 0, nameIndex := 43, descriptorIndex := 44, attributes := #[] }, { accessFlags := 1, nameIndex := 22, descriptorIndex := 49, attributes := #[] }] 48 2 #[] #[{ accessFlags := 18, nameIndex := 11, descriptorIndex := 12, attributes := #[] }, { accessFlags := 18, nameIndex := 15, descriptorIndex := 16, attributes := #[] }, { accessFlags := 18, nameIndex := 19, descriptorIndex := 12, attributes := #[] }, { accessFlags := 18, nameIndex := 22, descriptorIndex := 23, attributes := #[] }])
  fields := #[{ name := "key", type := (.object "java/lang/String"), accessFlags := 18, slot := 0, constantValue := 0 }, { name := "line", type := .int, accessFlags := 18, slot := 1, constantValue := 0 }, { name := "scalar", type := (.object "java/lang/String"), accessFlags := 18, slot := 2, constantValue := 0 }, { name := "list", type := (.object "java/util/List"), accessFlags := 18, slot := 3, constantValue := 0 }]
  methods := #[k10m0, k10m1, k10m2]
  instanceTypes := #[(.object "java/lang/String"), .int, (.object "java/lang/String"), (.object "java/util/List")]
  staticTypes := #[]
  resolved := Array.replicate 78 none
  statics := none }

def pool11 : Array CpInfo := pool [(4, .class_ 6), (1, u "java/lang/Object"), (0, u "<init>"), (0, u "()V"), (5, .class_ 16), (1, u "java/lang/StringLatin1"), (73, u "canEncode"), (14, u "(C)Z"), (15, u "$assertionsDisabled"), (0, u "Z"), (98, .class_ 223), (1, u "java/lang/StringLatin1$LinesSpliterator"), (156, u "toBytes"), (1, u "(C)[B"), (7, .class_ 391), (0, u "java/lang/StringLatin1$CharsSpliterator")] 3

def k11m0 : Method := { name := "<init>", desc := "()V", sig := { parameters := [], returnType := none }, accessFlags := 0, code := none }
def k11c1 : Code := { maxStack := 2, maxLocals := 1, code := jdk_43_method_3_code, exceptionTable := #[], attributes := #[] }
def k11m1 : Method := { name := "canEncode", desc := "(C)Z", sig := { parameters := [.char], returnType := some .boolean }, accessFlags := 9, code := some k11c1 }
def k11c2 : Code := { maxStack := 4, maxLocals := 1, code := jdk_43_method_46_code, exceptionTable := #[], attributes := #[] }
def k11m2 : Method := { name := "toBytes", desc := "(C)[B", sig := { parameters := [.char], returnType := some (.array .byte) }, accessFlags := 9, code := some k11c2 }
/-- java/lang/StringLatin1 -/
def k11 : Class := { plain "java/lang/StringLatin1" (some 0) with
  accessFlags := 48
  interfaces := #[]
  cf := some (fileOf pool11 14 #[.nestMembers #[390, 221]] #[{ accessFlags := 0, nameIndex := 7, descriptorIndex := 8, attributes := #[] }, { accessFlags := 9, nameIndex := 90, descriptorIndex := 105, attributes := #[] }, { accessFlags := 9, nameIndex := 380, descriptorIndex := 382, attributes := #[] }] 48 4 #[] #[{ accessFlags := 4120, nameIndex := 121, descriptorIndex := 122, attributes := #[] }])
  fields := #[{ name := "$assertionsDisabled", type := .boolean, accessFlags := 4120, slot := 0, constantValue := 0 }]
  methods := #[k11m0, k11m1, k11m2]
  instanceTypes := #[]
  staticTypes := #[.boolean]
  resolved := Array.replicate 395 none
  statics := none }

def pool12 : Array CpInfo := pool [(8, .class_ 10), (1, u "java/lang/Iterable"), (24, .class_ 36), (0, u "java/lang/Object")] 25

/-- java/lang/Iterable -/
def k12 : Class := { plain "java/lang/Iterable" (some 0) with
  accessFlags := 1537
  interfaces := #[]
  cf := some (fileOf pool12 8 #[] #[] 1537 35 #[] #[])
  fields := #[]
  methods := #[]
  instanceTypes := #[]
  staticTypes := #[]
  resolved := Array.replicate 62 none
  statics := none }

def pool13 : Array CpInfo := pool [(10, .class_ 12), (1, u "java/util/Collection"), (47, .class_ 61), (0, u "java/lang/Object"), (0, .class_ 63), (0, u "java/lang/Iterable")] 51

/-- java/util/Collection -/
def k13 : Class := { plain "java/util/Collection" (some 0) with
  accessFlags := 1537
  interfaces := #[12]
  cf := some (fileOf pool13 10 #[] #[] 1537 60 #[62] #[])
  fields := #[]
  methods := #[]
  instanceTypes := #[]
  staticTypes := #[]
  resolved := Array.replicate 115 none
  statics := none }

def pool14 : Array CpInfo := pool [(1, .methodref 2 3), (0, .class_ 4), (0, .nameAndType 5 6), (0, u "java/lang/Object"), (0, u "<init>"), (0, u "()V"), (1, .class_ 10), (1, u "java/util/AbstractCollection"), (66, .class_ 78), (0, u "java/util/Collection")] 81

def k14c0 : Code := { maxStack := 1, maxLocals := 1, code := jdk_22_method_1_code, exceptionTable := #[], attributes := #[] }
def k14m0 : Method := { name := "<init>", desc := "()V", sig := { parameters := [], returnType := none }, accessFlags := 4, code := some k14c0 }
/-- java/util/AbstractCollection -/
def k14 : Class := { plain "java/util/AbstractCollection" (some 0) with
  accessFlags := 1057
  interfaces := #[13]
  cf := some (fileOf pool14 8 #[] #[{ accessFlags := 4, nameIndex := 5, descriptorIndex := 6, attributes := #[] }] 1057 2 #[77] #[])
  fields := #[]
  methods := #[k14m0]
  instanceTypes := #[]
  staticTypes := #[]
  resolved := Array.replicate 160 none
  statics := none }

def pool15 : Array CpInfo := pool [(8, .class_ 10), (1, u "java/util/SequencedCollection"), (15, .class_ 27), (0, u "java/lang/Object"), (0, .class_ 29), (0, u "java/util/Collection")] 27

/-- java/util/SequencedCollection -/
def k15 : Class := { plain "java/util/SequencedCollection" (some 0) with
  accessFlags := 1537
  interfaces := #[13]
  cf := some (fileOf pool15 8 #[] #[] 1537 26 #[28] #[])
  fields := #[]
  methods := #[]
  instanceTypes := #[]
  staticTypes := #[]
  resolved := Array.replicate 57 none
  statics := none }

def pool16 : Array CpInfo := pool [(8, .class_ 10), (1, u "java/util/List"), (49, u "add"), (3, u "(Ljava/lang/Object;)Z"), (38, .class_ 104), (0, u "java/lang/Object"), (15, .class_ 121), (0, u "java/util/SequencedCollection")] 129

def k16m0 : Method := { name := "add", desc := "(Ljava/lang/Object;)Z", sig := { parameters := [(.object "java/lang/Object")], returnType := some .boolean }, accessFlags := 1025, code := none }
/-- java/util/List -/
def k16 : Class := { plain "java/util/List" (some 0) with
  accessFlags := 1537
  interfaces := #[15]
  cf := some (fileOf pool16 8 #[] #[{ accessFlags := 1025, nameIndex := 60, descriptorIndex := 64, attributes := #[] }] 1537 103 #[120] #[])
  fields := #[]
  methods := #[k16m0]
  instanceTypes := #[]
  staticTypes := #[]
  resolved := Array.replicate 251 none
  statics := none }

def pool17 : Array CpInfo := pool [(1, .methodref 2 3), (0, .class_ 4), (0, .nameAndType 5 6), (0, u "java/util/AbstractCollection"), (0, u "<init>"), (0, u "()V"), (0, .fieldref 8 9), (0, .class_ 10), (0, .nameAndType 11 12), (0, u "java/util/AbstractList"), (0, u "modCount"), (0, u "I"), (64, .class_ 78), (0, u "java/util/AbstractList$Itr"), (3, .class_ 83), (0, u "java/util/AbstractList$ListItr"), (9, .class_ 94), (0, u "java/util/AbstractList$RandomAccessSubList"), (3, .class_ 99), (0, u "java/util/AbstractList$SubList"), (33, .class_ 134), (0, u "java/util/List"), (73, .class_ 209), (0, u "java/util/AbstractList$SubList$1"), (0, .class_ 211), (0, u "java/util/AbstractList$RandomAccessSpliterator")] 6

def k17c0 : Code := { maxStack := 2, maxLocals := 1, code := jdk_39_method_1_code, exceptionTable := #[], attributes := #[] }
def k17m0 : Method := { name := "<init>", desc := "()V", sig := { parameters := [], returnType := none }, accessFlags := 4, code := some k17c0 }
/-- java/util/AbstractList -/
def k17 : Class := { plain "java/util/AbstractList" (some 14) with
  accessFlags := 1057
  interfaces := #[16]
  cf := some (fileOf pool17 8 #[.nestMembers #[93, 98, 208, 210, 82, 77]] #[{ accessFlags := 4, nameIndex := 5, descriptorIndex := 6, attributes := #[] }] 1057 2 #[133] #[{ accessFlags := 132, nameIndex := 11, descriptorIndex := 12, attributes := #[] }])
  fields := #[{ name := "modCount", type := .int, accessFlags := 132, slot := 0, constantValue := 0 }]
  methods := #[k17m0]
  instanceTypes := #[.int]
  staticTypes := #[]
  resolved := Array.replicate 218 none
  statics := none }

def pool18 : Array CpInfo := pool [(1, .class_ 2), (0, u "java/util/RandomAccess"), (0, .class_ 4), (0, u "java/lang/Object")] 2

/-- java/util/RandomAccess -/
def k18 : Class := { plain "java/util/RandomAccess" (some 0) with
  accessFlags := 1537
  interfaces := #[]
  cf := some (fileOf pool18 1 #[] #[] 1537 3 #[] #[])
  fields := #[]
  methods := #[]
  instanceTypes := #[]
  staticTypes := #[]
  resolved := Array.replicate 7 none
  statics := none }

def pool19 : Array CpInfo := pool [(1, .class_ 2), (0, u "java/lang/Cloneable"), (0, .class_ 4), (0, u "java/lang/Object")] 2

/-- java/lang/Cloneable -/
def k19 : Class := { plain "java/lang/Cloneable" (some 0) with
  accessFlags := 1537
  interfaces := #[]
  cf := some (fileOf pool19 1 #[] #[] 1537 3 #[] #[])
  fields := #[]
  methods := #[]
  instanceTypes := #[]
  staticTypes := #[]
  resolved := Array.replicate 7 none
  statics := none }

def pool20 : Array CpInfo := pool [(1, .methodref 2 3), (0, .class_ 4), (0, .nameAndType 5 6), (0, u "java/util/AbstractList"), (0, u "<init>"), (0, u "()V"), (0, .class_ 8), (0, u "java/lang/Object"), (0, .fieldref 10 11), (0, .class_ 12), (0, .nameAndType 13 14), (0, u "java/util/ArrayList"), (0, u "elementData"), (0, u "[Ljava/lang/Object;"), (2, u "EMPTY_ELEMENTDATA"), (21, .fieldref 10 40), (0, .nameAndType 41 14), (0, u "DEFAULTCAPACITY_EMPTY_ELEMENTDATA"), (5, u "()[Ljava/lang/Object;"), (0, .fieldref 10 49), (0, .nameAndType 50 51), (0, u "size"), (0, u "I"), (11, .fieldref 10 64), (0, .nameAndType 65 51), (0, u "modCount"), (3, .methodref 10 70), (0, .nameAndType 71 72), (0, u "grow"), (0, u "(I)[Ljava/lang/Object;"), (6, .methodref 80 81), (0, .class_ 82), (0, .nameAndType 83 84), (0, u "java/lang/Math"), (0, u "max"), (0, u "(II)I"), (11, u "(Ljava/lang/Object;)Z"), (32, .methodref 10 130), (0, .nameAndType 71 47), (0, .methodref 10 132), (0, .nameAndType 133 134), (0, u "add"), (0, u "(Ljava/lang/Object;[Ljava/lang/Object;I)V"), (13, .class_ 149), (0, u "java/util/List"), (112, .class_ 263), (0, u "java/util/ArrayList$ListItr"), (3, .class_ 268), (0, u "java/util/ArrayList$Itr"), (7, .class_ 277), (0, u "java/util/ArrayList$SubList"), (12, .class_ 291), (0, u "java/util/ArrayList$ArrayListSpliterator"), (37, .class_ 330), (0, u "java/util/RandomAccess"), (0, .class_ 332), (0, u "java/lang/Cloneable"), (0, .class_ 334), (0, u "java/io/Serializable"), (0, u "serialVersionUID"), (0, u "J"), (3, u "DEFAULT_CAPACITY"), (159, .class_ 501), (0, u "java/util/ArrayList$SubList$2"), (0, .class_ 503), (0, u "java/util/ArrayList$SubList$1")] 5

def k20c0 : Code := { maxStack := 2, maxLocals := 1, code := jdk_38_method_2_code, exceptionTable := #[], attributes := #[] }
def k20m0 : Method := { name := "<init>", desc := "()V", sig := { parameters := [], returnType := none }, accessFlags := 1, code := some k20c0 }
def k20c1 : Code := { maxStack := 4, maxLocals := 4, code := jdk_38_method_6_code, exceptionTable := #[], attributes := #[] }
def k20m1 : Method := { name := "grow", desc := "(I)[Ljava/lang/Object;", sig := { parameters := [.int], returnType := some (.array (.object "java/lang/Object")) }, accessFlags := 2, code := some k20c1 }
def k20c2 : Code := { maxStack := 3, maxLocals := 1, code := jdk_38_method_7_code, exceptionTable := #[], attributes := #[] }
def k20m2 : Method := { name := "grow", desc := "()[Ljava/lang/Object;", sig := { parameters := [], returnType := some (.array (.object "java/lang/Object")) }, accessFlags := 2, code := some k20c2 }
def k20c3 : Code := { maxStack := 3, maxLocals := 4, code := jdk_38_method_24_code, exceptionTable := #[], attributes := #[] }
def k20m3 : Method := { name := "add", desc := "(Ljava/lang/Object;[Ljava/lang/Object;I)V", sig := { parameters := [(.object "java/lang/Object"), (.array (.object "java/lang/Object")), .int], returnType := none }, accessFlags := 2, code := some k20c3 }
def k20c4 : Code := { maxStack := 4, maxLocals := 2, code := jdk_38_method_25_code, exceptionTable := #[], attributes := #[] }
def k20m4 : Method := { name := "add", desc := "(Ljava/lang/Object;)Z", sig := { parameters := [(.object "java/lang/Object")], returnType := some .boolean }, accessFlags := 1, code := some k20c4 }
/-- java/util/ArrayList -/
def k20 : Class := { plain "java/util/ArrayList" (some 17) with
  accessFlags := 33
  interfaces := #[16, 18, 19, 2]
  cf := some (fileOf pool20 10 #[.nestMembers #[290, 276, 500, 502, 262, 267]] #[{ accessFlags := 1, nameIndex := 5, descriptorIndex := 6, attributes := #[] }, { accessFlags := 2, nameIndex := 71, descriptorIndex := 72, attributes := #[] }, { accessFlags := 2, nameIndex := 71, descriptorIndex := 47, attributes := #[] }, { accessFlags := 2, nameIndex := 133, descriptorIndex := 134, attributes := #[] }, { accessFlags := 1, nameIndex := 133, descriptorIndex := 96, attributes := #[] }] 33 2 #[148, 329, 331, 333] #[{ accessFlags := 26, nameIndex := 335, descriptorIndex := 336, attributes := #[] }, { accessFlags := 26, nameIndex := 340, descriptorIndex := 51, attributes := #[] }, { accessFlags := 26, nameIndex := 17, descriptorIndex := 14, attributes := #[] }, { accessFlags := 26, nameIndex := 41, descriptorIndex := 14, attributes := #[] }, { accessFlags := 128, nameIndex := 13, descriptorIndex := 14, attributes := #[] }, { accessFlags := 2, nameIndex := 50, descriptorIndex := 51, attributes := #[] }])
  fields := #[{ name := "serialVersionUID", type := .long, accessFlags := 26, slot := 0, constantValue := 0 }, { name := "DEFAULT_CAPACITY", type := .int, accessFlags := 26, slot := 1, constantValue := 0 }, { name := "EMPTY_ELEMENTDATA", type := (.array (.object "java/lang/Object")), accessFlags := 26, slot := 2, constantValue := 0 }, { name := "DEFAULTCAPACITY_EMPTY_ELEMENTDATA", type := (.array (.object "java/lang/Object")), accessFlags := 26, slot := 3, constantValue := 0 }, { name := "elementData", type := (.array (.object "java/lang/Object")), accessFlags := 128, slot := 1, constantValue := 0 }, { name := "size", type := .int, accessFlags := 2, slot := 2, constantValue := 0 }]
  methods := #[k20m0, k20m1, k20m2, k20m3, k20m4]
  instanceTypes := #[.int, (.array (.object "java/lang/Object")), .int]
  staticTypes := #[.long, .int, (.array (.object "java/lang/Object")), (.array (.object "java/lang/Object"))]
  resolved := Array.replicate 509 none
  statics := some 1 }

def pool21 : Array CpInfo := pool [(1, .class_ 2), (0, u "java/lang/Math"), (1, .class_ 6), (1, u "java/lang/Object"), (0, u "<init>"), (0, u "()V"), (89, .class_ 100), (1, u "java/lang/Math$RandomNumberGeneratorHolder"), (71, u "negativeZeroFloatBits"), (0, u "J"), (2, u "negativeZeroDoubleBits"), (21, u "max"), (46, u "$assertionsDisabled"), (0, u "Z"), (88, u "(II)I"), (2, u "twoToTheDoubleScaleDown"), (0, u "D"), (4, u "twoToTheDoubleScaleUp"), (9, u "E"), (3, u "PI"), (2, u "TAU"), (2, u "DEGREES_TO_RADIANS"), (0, u "RADIANS_TO_DEGREES")] 94

def k21m0 : Method := { name := "<init>", desc := "()V", sig := { parameters := [], returnType := none }, accessFlags := 2, code := none }
def k21c1 : Code := { maxStack := 2, maxLocals := 2, code := jdk_29_method_65_code, exceptionTable := #[], attributes := #[] }
def k21m1 : Method := { name := "max", desc := "(II)I", sig := { parameters := [.int, .int], returnType := some .int }, accessFlags := 9, code := some k21c1 }
/-- java/lang/Math -/
def k21 : Class := { plain "java/lang/Math" (some 0) with
  accessFlags := 49
  interfaces := #[]
  cf := some (fileOf pool21 1 #[.nestMembers #[98]] #[{ accessFlags := 2, nameIndex := 7, descriptorIndex := 8, attributes := #[] }, { accessFlags := 9, nameIndex := 198, descriptorIndex := 335, attributes := #[] }] 49 4 #[] #[{ accessFlags := 25, nameIndex := 354, descriptorIndex := 339, attributes := #[] }, { accessFlags := 25, nameIndex := 358, descriptorIndex := 339, attributes := #[] }, { accessFlags := 25, nameIndex := 361, descriptorIndex := 339, attributes := #[] }, { accessFlags := 26, nameIndex := 364, descriptorIndex := 339, attributes := #[] }, { accessFlags := 26, nameIndex := 365, descriptorIndex := 339, attributes := #[] }, { accessFlags := 26, nameIndex := 172, descriptorIndex := 173, attributes := #[] }, { accessFlags := 26, nameIndex := 176, descriptorIndex := 173, attributes := #[] }, { accessFlags := 8, nameIndex := 344, descriptorIndex := 339, attributes := #[] }, { accessFlags := 8, nameIndex := 338, descriptorIndex := 339, attributes := #[] }, { accessFlags := 4120, nameIndex := 245, descriptorIndex := 246, attributes := #[] }])
  fields := #[{ name := "E", type := .double, accessFlags := 25, slot := 0, constantValue := 0 }, { name := "PI", type := .double, accessFlags := 25, slot := 1, constantValue := 0 }, { name := "TAU", type := .double, accessFlags := 25, slot := 2, constantValue := 0 }, { name := "DEGREES_TO_RADIANS", type := .double, accessFlags := 26, slot := 3, constantValue := 0 }, { name := "RADIANS_TO_DEGREES", type := .double, accessFlags := 26, slot := 4, constantValue := 0 }, { name := "negativeZeroFloatBits", type := .long, accessFlags := 26, slot := 5, constantValue := 0 }, { name := "negativeZeroDoubleBits", type := .long, accessFlags := 26, slot := 6, constantValue := 0 }, { name := "twoToTheDoubleScaleUp", type := .double, accessFlags := 8, slot := 7, constantValue := 0 }, { name := "twoToTheDoubleScaleDown", type := .double, accessFlags := 8, slot := 8, constantValue := 0 }, { name := "$assertionsDisabled", type := .boolean, accessFlags := 4120, slot := 9, constantValue := 0 }]
  methods := #[k21m0, k21m1]
  instanceTypes := #[]
  staticTypes := #[.double, .double, .double, .double, .double, .long, .long, .double, .double, .boolean]
  resolved := Array.replicate 460 none
  statics := none }

def pool22 : Array CpInfo := pool [(2, .class_ 4), (1, u "java/lang/Object"), (0, u "<init>"), (0, u "()V"), (17, .class_ 26), (1, u "jdk/internal/util/Preconditions"), (28, .class_ 56), (0, u "jdk/internal/util/Preconditions$4"), (57, .class_ 115), (0, u "jdk/internal/util/Preconditions$1"), (7, u "SIOOBE_FORMATTER"), (0, u "Ljava/util/function/BiFunction;"), (0, .class_ 126), (0, u "jdk/internal/util/Preconditions$2"), (3, u "AIOOBE_FORMATTER"), (0, .class_ 132), (0, u "jdk/internal/util/Preconditions$3"), (3, u "IOOBE_FORMATTER")] 57

def k22m0 : Method := { name := "<init>", desc := "()V", sig := { parameters := [], returnType := none }, accessFlags := 1, code := none }
/-- jdk/internal/util/Preconditions -/
def k22 : Class := { plain "jdk/internal/util/Preconditions" (some 0) with
  accessFlags := 33
  interfaces := #[]
  cf := some (fileOf pool22 24 #[.nestMembers #[55, 131, 125, 114]] #[{ accessFlags := 1, nameIndex := 5, descriptorIndex := 6, attributes := #[] }] 33 2 #[] #[{ accessFlags := 25, nameIndex := 123, descriptorIndex := 124, attributes := #[] }, { accessFlags := 25, nameIndex := 130, descriptorIndex := 124, attributes := #[] }, { accessFlags := 25, nameIndex := 136, descriptorIndex := 124, attributes := #[] }])
  fields := #[{ name := "SIOOBE_FORMATTER", type := (.object "java/util/function/BiFunction"), accessFlags := 25, slot := 0, constantValue := 0 }, { name := "AIOOBE_FORMATTER", type := (.object "java/util/function/BiFunction"), accessFlags := 25, slot := 1, constantValue := 0 }, { name := "IOOBE_FORMATTER", type := (.object "java/util/function/BiFunction"), accessFlags := 25, slot := 2, constantValue := 0 }]
  methods := #[k22m0]
  instanceTypes := #[]
  staticTypes := #[(.object "java/util/function/BiFunction"), (.object "java/util/function/BiFunction"), (.object "java/util/function/BiFunction")]
  resolved := Array.replicate 194 none
  statics := some 2 }

def pool23 : Array CpInfo := pool [(9, u "<init>"), (6, .class_ 18), (1, u "java/lang/Object"), (0, u "()V"), (1, .class_ 23), (1, u "jdk/internal/util/ArraysSupport"), (0, u "LOG2_ARRAY_LONG_INDEX_SCALE"), (0, u "I"), (2, u "U"), (0, u "Ljdk/internal/misc/Unsafe;"), (8, u "BIG_ENDIAN"), (0, u "Z"), (8, u "LOG2_BYTE_BIT_SIZE"), (4, u "LOG2_ARRAY_INT_INDEX_SCALE"), (54, u "JLA"), (0, u "Ljdk/internal/access/JavaLangAccess;"), (11, u "LOG2_ARRAY_BOOLEAN_INDEX_SCALE"), (9, u "LOG2_ARRAY_BYTE_INDEX_SCALE"), (5, u "LOG2_ARRAY_CHAR_INDEX_SCALE"), (5, u "LOG2_ARRAY_SHORT_INDEX_SCALE"), (18, u "LOG2_ARRAY_FLOAT_INDEX_SCALE"), (24, u "LOG2_ARRAY_DOUBLE_INDEX_SCALE"), (89, u "T_BOOLEAN"), (2, u "T_CHAR"), (1, u "T_FLOAT"), (1, u "T_DOUBLE"), (1, u "T_BYTE"), (1, u "T_SHORT"), (1, u "T_INT"), (1, u "T_LONG"), (1, u "SOFT_MAX_ARRAY_LENGTH")] 83

def k23m0 : Method := { name := "<init>", desc := "()V", sig := { parameters := [], returnType := none }, accessFlags := 2, code := none }
/-- jdk/internal/util/ArraysSupport -/
def k23 : Class := { plain "jdk/internal/util/ArraysSupport" (some 0) with
  accessFlags := 33
  interfaces := #[]
  cf := some (fileOf pool23 21 #[] #[{ accessFlags := 2, nameIndex := 9, descriptorIndex := 19, attributes := #[] }] 33 16 #[] #[{ accessFlags := 24, nameIndex := 28, descriptorIndex := 29, attributes := #[] }, { accessFlags := 26, nameIndex := 38, descriptorIndex := 39, attributes := #[] }, { accessFlags := 25, nameIndex := 121, descriptorIndex := 25, attributes := #[] }, { accessFlags := 25, nameIndex := 131, descriptorIndex := 25, attributes := #[] }, { accessFlags := 25, nameIndex := 137, descriptorIndex := 25, attributes := #[] }, { accessFlags := 25, nameIndex := 143, descriptorIndex := 25, attributes := #[] }, { accessFlags := 25, nameIndex := 53, descriptorIndex := 25, attributes := #[] }, { accessFlags := 25, nameIndex := 24, descriptorIndex := 25, attributes := #[] }, { accessFlags := 25, nameIndex := 162, descriptorIndex := 25, attributes := #[] }, { accessFlags := 25, nameIndex := 187, descriptorIndex := 25, attributes := #[] }, { accessFlags := 26, nameIndex := 48, descriptorIndex := 25, attributes := #[] }, { accessFlags := 25, nameIndex := 277, descriptorIndex := 25, attributes := #[] }, { accessFlags := 25, nameIndex := 280, descriptorIndex := 25, attributes := #[] }, { accessFlags := 25, nameIndex := 282, descriptorIndex := 25, attributes := #[] }, { accessFlags := 25, nameIndex := 284, descriptorIndex := 25, attributes := #[] }, { accessFlags := 25, nameIndex := 286, descriptorIndex := 25, attributes := #[] }, { accessFlags := 25, nameIndex := 288, descriptorIndex := 25, attributes := #[] }, { accessFlags := 25, nameIndex := 290, descriptorIndex := 25, attributes := #[] }, { accessFlags := 25, nameIndex := 292, descriptorIndex := 25, attributes := #[] }, { accessFlags := 26, nameIndex := 108, descriptorIndex := 109, attributes := #[] }, { accessFlags := 25, nameIndex := 294, descriptorIndex := 25, attributes := #[] }])
  fields := #[{ name := "U", type := (.object "jdk/internal/misc/Unsafe"), accessFlags := 24, slot := 0, constantValue := 0 }, { name := "BIG_ENDIAN", type := .boolean, accessFlags := 26, slot := 1, constantValue := 0 }, { name := "LOG2_ARRAY_BOOLEAN_INDEX_SCALE", type := .int, accessFlags := 25, slot := 2, constantValue := 0 }, { name := "LOG2_ARRAY_BYTE_INDEX_SCALE", type := .int, accessFlags := 25, slot := 3, constantValue := 0 }, { name := "LOG2_ARRAY_CHAR_INDEX_SCALE", type := .int, accessFlags := 25, slot := 4, constantValue := 0 }, { name := "LOG2_ARRAY_SHORT_INDEX_SCALE", type := .int, accessFlags := 25, slot := 5, constantValue := 0 }, { name := "LOG2_ARRAY_INT_INDEX_SCALE", type := .int, accessFlags := 25, slot := 6, constantValue := 0 }, { name := "LOG2_ARRAY_LONG_INDEX_SCALE", type := .int, accessFlags := 25, slot := 7, constantValue := 0 }, { name := "LOG2_ARRAY_FLOAT_INDEX_SCALE", type := .int, accessFlags := 25, slot := 8, constantValue := 0 }, { name := "LOG2_ARRAY_DOUBLE_INDEX_SCALE", type := .int, accessFlags := 25, slot := 9, constantValue := 0 }, { name := "LOG2_BYTE_BIT_SIZE", type := .int, accessFlags := 26, slot := 10, constantValue := 0 }, { name := "T_BOOLEAN", type := .int, accessFlags := 25, slot := 11, constantValue := 0 }, { name := "T_CHAR", type := .int, accessFlags := 25, slot := 12, constantValue := 0 }, { name := "T_FLOAT", type := .int, accessFlags := 25, slot := 13, constantValue := 0 }, { name := "T_DOUBLE", type := .int, accessFlags := 25, slot := 14, constantValue := 0 }, { name := "T_BYTE", type := .int, accessFlags := 25, slot := 15, constantValue := 0 }, { name := "T_SHORT", type := .int, accessFlags := 25, slot := 16, constantValue := 0 }, { name := "T_INT", type := .int, accessFlags := 25, slot := 17, constantValue := 0 }, { name := "T_LONG", type := .int, accessFlags := 25, slot := 18, constantValue := 0 }, { name := "JLA", type := (.object "jdk/internal/access/JavaLangAccess"), accessFlags := 26, slot := 19, constantValue := 0 }, { name := "SOFT_MAX_ARRAY_LENGTH", type := .int, accessFlags := 25, slot := 20, constantValue := 0 }]
  methods := #[k23m0]
  instanceTypes := #[]
  staticTypes := #[(.object "jdk/internal/misc/Unsafe"), .boolean, .int, .int, .int, .int, .int, .int, .int, .int, .int, .int, .int, .int, .int, .int, .int, .int, .int, (.object "jdk/internal/access/JavaLangAccess"), .int]
  resolved := Array.replicate 378 none
  statics := none }

/-- the primitive byte -/
def k24 : Class := { plain "byte" none with kind := .primitive 'B', accessFlags := 0x411 }
/-- [B -/
def k25 : Class := { plain "[B" (some 0) with kind := .array 24 .byte, interfaces := #[19, 2], accessFlags := 1041 }

/-- the primitive char -/
def k26 : Class := { plain "char" none with kind := .primitive 'C', accessFlags := 0x411 }
/-- [C -/
def k27 : Class := { plain "[C" (some 0) with kind := .array 26 .char, interfaces := #[19, 2], accessFlags := 1041 }

/-- the primitive int -/
def k28 : Class := { plain "int" none with kind := .primitive 'I', accessFlags := 0x411 }
/-- [I -/
def k29 : Class := { plain "[I" (some 0) with kind := .array 28 .int, interfaces := #[19, 2], accessFlags := 1041 }

/-- [Ljava/lang/Object; -/
def k30 : Class := { plain "[Ljava/lang/Object;" (some 0) with kind := .array 0 (.object "java/lang/Object"), interfaces := #[19, 2], accessFlags := 1041 }

def heap : Heap := #[{ cls := 7, slots := #[.long 0, .int 1, .null, .int 0, .null, .int 0, .int 0], vm := .statics 7 },
  { cls := 20, slots := #[.long 0, .int 0, .ref 3, .ref 4], vm := .statics 20 },
  { cls := 22, slots := #[.null, .null, .null], vm := .statics 22 },
  { cls := 30, slots := #[], vm := .none },
  { cls := 30, slots := #[], vm := .none }]
def classes : Array Class := #[k0, k1, k2, k3, k4, k5, k6, k7, k8, k9, k10, k11, k12, k13, k14, k15, k16, k17, k18, k19, k20, k21, k22, k23, k24, k25, k26, k27, k28, k29, k30]
def interned : List (Array UInt16 × Addr) := []
def slotsUsed : Nat := 14
def theMethod : MethodId := ⟨1, 1⟩
def args0 : Array Value := #[.int 5, .int 5, .int 5, .int 5]
def aboutOver (below : List Frame) : State where
  vm := { classes := classes, interned := interned.toArray }
  heap := heap
  slotsUsed := slotsUsed
  threads := #[{ frames := .invoking theMethod args0 :: below }]
def below0 : List Frame := [.native { method := ⟨0, 0⟩, args := #[] }]
def about1 : State := aboutOver below0
def p0 : Program := .bare "" "" ""
def e0 : Env := launch0.env 0 0 0
theorem w_frames : about1.frames = Frame.invoking theMethod args0 :: below0 := rfl
set_option maxRecDepth 65536 in
theorem w_args : argsFit about1.vm theMethod args0 = true := by decide +kernel
set_option maxRecDepth 65536 in
theorem w_heap : heapFits about1 = true := by decide +kernel
set_option maxRecDepth 65536 in
theorem w_runnable : about1.curStatus? = some .runnable := by decide +kernel
set_option maxRecDepth 65536 in
theorem w_alone : about1.alone = true := by decide +kernel
set_option maxRecDepth 65536 in
theorem w_named : about1.methodNamed? x = some theMethod := by decide +kernel
set_option maxRecDepth 65536 in
theorem w_hears : about1.hears theMethod below0 = true := by decide +kernel
set_option maxRecDepth 65536 in
theorem w_ripe : about1.ripe theMethod args0 below0 = true := by decide +kernel
theorem w_running : about1.status = .running := rfl
set_option maxRecDepth 65536 in
theorem w_room : about1.hasRoom e0.platform room_1 = true :=
  launch0.hasRoom_least _ room_1 (by decide +kernel) (by decide +kernel) (by decide +kernel) (by decide +kernel) (by decide +kernel) (by decide +kernel)
theorem allAtoms_all (ts : List Jvm.Cond) (a : Array Jvm.Value) (st : Jvm.State) : (allAtoms ts).before a st = ts.all (fun c => c.before a st) := by
  induction ts with
  | nil => rfl
  | cons c t ih =>
    show (Jvm.Cond.and c (allAtoms t)).before a st = _
    rw [Jvm.Cond.before_and, ih, List.all_cons]
def words1 : List Jvm.Cond := Jvm.Cond.code x code maxLocals ret :: tables_1
/-- a 'code' word, met by the world's own term for the bytes: nothing is compared byte by byte -/
theorem code_word {y : MethodName} {bytes : ByteArray} {mx : Nat} {rt : Option FieldType} {a : Array Value} {s : State} {m : MethodId} {meth : Method} {c : Code} (h1 : s.methodNamed? y = some m) (h2 : s.vm.method? m = some meth) (h3 : meth.code = some c) (h4 : c.code = bytes)
    (h5 : (c.maxLocals == mx && c.exceptionTable.isEmpty && decide (c.maxStack ≤ mostOperands) && decide (meth.sig.returnType = rt) && !meth.locks && decide (parseMethodDescriptor y.desc = some meth.sig)) = true) : (Jvm.Cond.code y bytes mx rt).before a s = true := by
  simp only [Bool.and_eq_true, beq_iff_eq, Bool.not_eq_true', decide_eq_true_eq] at h5
  obtain ⟨⟨⟨⟨⟨g1, g2⟩, g3⟩, g4⟩, g5⟩, g6⟩ := h5
  simp [Cond.before, Cond.holds, Cond.value, h1, h2, h3, h4, g1, g2, g3, g4, g5, g6]
def isCode : Jvm.Cond → Bool
  | .code _ _ _ _ => true
  | _ => false
theorem all_split {L : List Jvm.Cond} {P : Jvm.Cond → Bool} (h1 : L.all (fun c => isCode c || P c) = true) (h2 : ∀ c ∈ L.filter isCode, P c = true) : L.all P = true := by
  refine List.all_eq_true.mpr fun c hc => ?_
  have h := List.all_eq_true.mp h1 c hc
  rcases Bool.eq_false_or_eq_true (isCode c) with hi | hi
  · exact h2 c (List.mem_filter.mpr ⟨hc, hi⟩)
  · simpa [hi] using h
set_option maxRecDepth 65536 in
theorem w_c0 : (Jvm.Cond.code x code maxLocals ret).before args0 about1 = true := code_word (m := ⟨1, 1⟩) (meth := k1m1) (c := k1c1) (by decide +kernel) rfl rfl rfl (by decide +kernel)
set_option maxRecDepth 65536 in
theorem w_c1 : (Jvm.Cond.code ({ cls := "java/lang/String", name := "<init>", desc := "([C)V" } : Jvm.MethodName) jdk_42_method_3_code (2 : Nat) (Option.none : Option Jvm.ClassFile.FieldType)).before args0 about1 = true := code_word (m := ⟨7, 1⟩) (meth := k7m1) (c := k7c1) (by decide +kernel) rfl rfl rfl (by decide +kernel)
set_option maxRecDepth 65536 in
theorem w_c2 : (Jvm.Cond.code ({ cls := "java/lang/String", name := "<init>", desc := "([CIILjava/lang/Void;)V" } : Jvm.MethodName) jdk_42_method_149_code (6 : Nat) (Option.none : Option Jvm.ClassFile.FieldType)).before args0 about1 = true := code_word (m := ⟨7, 3⟩) (meth := k7m3) (c := k7c3) (by decide +kernel) rfl rfl rfl (by decide +kernel)
set_option maxRecDepth 65536 in
theorem w_c3 : (Jvm.Cond.code ({ cls := "java/lang/Object", name := "<init>", desc := "()V" } : Jvm.MethodName) object_method_1_code (1 : Nat) (Option.none : Option Jvm.ClassFile.FieldType)).before args0 about1 = true := code_word (m := ⟨0, 0⟩) (meth := k0m0) (c := k0c0) (by decide +kernel) rfl rfl rfl (by decide +kernel)
set_option maxRecDepth 65536 in
theorem w_c4 : (Jvm.Cond.code ({ cls := "java/lang/StringUTF16", name := "compress", desc := "([CII)[B" } : Jvm.MethodName) jdk_52_method_16_code (6 : Nat) (Option.some (Jvm.ClassFile.FieldType.array Jvm.ClassFile.FieldType.byte))).before args0 about1 = true := code_word (m := ⟨8, 2⟩) (meth := k8m2) (c := k8c2) (by decide +kernel) rfl rfl rfl (by decide +kernel)
set_option maxRecDepth 65536 in
theorem w_c5 : (Jvm.Cond.code ({ cls := "java/lang/StringUTF16", name := "compress", desc := "([CI[BII)I" } : Jvm.MethodName) jdk_52_method_21_code (7 : Nat) (Option.some Jvm.ClassFile.FieldType.int)).before args0 about1 = true := code_word (m := ⟨8, 3⟩) (meth := k8m3) (c := k8c3) (by decide +kernel) rfl rfl rfl (by decide +kernel)
set_option maxRecDepth 65536 in
theorem w_c6 : (Jvm.Cond.code ({ cls := "java/lang/StringUTF16", name := "coderFromArrayLen", desc := "([BI)B" } : Jvm.MethodName) jdk_52_method_15_code (2 : Nat) (Option.some Jvm.ClassFile.FieldType.byte)).before args0 about1 = true := code_word (m := ⟨8, 1⟩) (meth := k8m1) (c := k8c1) (by decide +kernel) rfl rfl rfl (by decide +kernel)
set_option maxRecDepth 65536 in
theorem w_c7 : (Jvm.Cond.code ({ cls := "com/example/weftwork/weftwork/io/Gml$Entry", name := "<init>", desc := "(Ljava/lang/String;ILjava/lang/String;Ljava/util/List;)V" } : Jvm.MethodName) prog_30_method_1_code (5 : Nat) (Option.none : Option Jvm.ClassFile.FieldType)).before args0 about1 = true := code_word (m := ⟨10, 0⟩) (meth := k10m0) (c := k10c0) (by decide +kernel) rfl rfl rfl (by decide +kernel)
set_option maxRecDepth 65536 in
theorem w_c8 : (Jvm.Cond.code ({ cls := "java/lang/Record", name := "<init>", desc := "()V" } : Jvm.MethodName) jdk_30_method_1_code (1 : Nat) (Option.none : Option Jvm.ClassFile.FieldType)).before args0 about1 = true := code_word (m := ⟨9, 0⟩) (meth := k9m0) (c := k9c0) (by decide +kernel) rfl rfl rfl (by decide +kernel)
set_option maxRecDepth 65536 in
theorem w_c9 : (Jvm.Cond.code ({ cls := "com/example/weftwork/weftwork/io/Gml$Entry", name := "isList", desc := "()Z" } : Jvm.MethodName) prog_30_method_2_code (1 : Nat) (Option.some Jvm.ClassFile.FieldType.boolean)).before args0 about1 = true := code_word (m := ⟨10, 1⟩) (meth := k10m1) (c := k10c1) (by decide +kernel) rfl rfl rfl (by decide +kernel)
set_option maxRecDepth 65536 in
theorem w_c10 : (Jvm.Cond.code ({ cls := "com/example/weftwork/weftwork/io/Gml$Entry", name := "list", desc := "()Ljava/util/List;" } : Jvm.MethodName) prog_30_method_9_code (1 : Nat) (Option.some (Jvm.ClassFile.FieldType.object "java/util/List"))).before args0 about1 = true := code_word (m := ⟨10, 2⟩) (meth := k10m2) (c := k10c2) (by decide +kernel) rfl rfl rfl (by decide +kernel)
set_option maxRecDepth 65536 in
theorem w_c11 : (Jvm.Cond.code ({ cls := "java/lang/String", name := "valueOf", desc := "(C)Ljava/lang/String;" } : Jvm.MethodName) jdk_42_method_139_code (1 : Nat) (Option.some (Jvm.ClassFile.FieldType.object "java/lang/String"))).before args0 about1 = true := code_word (m := ⟨7, 2⟩) (meth := k7m2) (c := k7c2) (by decide +kernel) rfl rfl rfl (by decide +kernel)
set_option maxRecDepth 65536 in
theorem w_c12 : (Jvm.Cond.code ({ cls := "java/lang/StringLatin1", name := "canEncode", desc := "(C)Z" } : Jvm.MethodName) jdk_43_method_3_code (1 : Nat) (Option.some Jvm.ClassFile.FieldType.boolean)).before args0 about1 = true := code_word (m := ⟨11, 1⟩) (meth := k11m1) (c := k11c1) (by decide +kernel) rfl rfl rfl (by decide +kernel)
set_option maxRecDepth 65536 in
theorem w_c13 : (Jvm.Cond.code ({ cls := "java/lang/StringLatin1", name := "toBytes", desc := "(C)[B" } : Jvm.MethodName) jdk_43_method_46_code (1 : Nat) (Option.some (Jvm.ClassFile.FieldType.array Jvm.ClassFile.FieldType.byte))).before args0 about1 = true := code_word (m := ⟨11, 2⟩) (meth := k11m2) (c := k11c2) (by decide +kernel) rfl rfl rfl (by decide +kernel)
set_option maxRecDepth 65536 in
theorem w_c14 : (Jvm.Cond.code ({ cls := "java/lang/String", name := "<init>", desc := "([BB)V" } : Jvm.MethodName) jdk_42_method_151_code (3 : Nat) (Option.none : Option Jvm.ClassFile.FieldType)).before args0 about1 = true := code_word (m := ⟨7, 4⟩) (meth := k7m4) (c := k7c4) (by decide +kernel) rfl rfl rfl (by decide +kernel)
set_option maxRecDepth 65536 in
theorem w_c15 : (Jvm.Cond.code ({ cls := "java/util/ArrayList", name := "<init>", desc := "()V" } : Jvm.MethodName) jdk_38_method_2_code (1 : Nat) (Option.none : Option Jvm.ClassFile.FieldType)).before args0 about1 = true := code_word (m := ⟨20, 0⟩) (meth := k20m0) (c := k20c0) (by decide +kernel) rfl rfl rfl (by decide +kernel)
set_option maxRecDepth 65536 in
theorem w_c16 : (Jvm.Cond.code ({ cls := "java/util/AbstractList", name := "<init>", desc := "()V" } : Jvm.MethodName) jdk_39_method_1_code (1 : Nat) (Option.none : Option Jvm.ClassFile.FieldType)).before args0 about1 = true := code_word (m := ⟨17, 0⟩) (meth := k17m0) (c := k17c0) (by decide +kernel) rfl rfl rfl (by decide +kernel)
set_option maxRecDepth 65536 in
theorem w_c17 : (Jvm.Cond.code ({ cls := "java/util/AbstractCollection", name := "<init>", desc := "()V" } : Jvm.MethodName) jdk_22_method_1_code (1 : Nat) (Option.none : Option Jvm.ClassFile.FieldType)).before args0 about1 = true := code_word (m := ⟨14, 0⟩) (meth := k14m0) (c := k14c0) (by decide +kernel) rfl rfl rfl (by decide +kernel)
set_option maxRecDepth 65536 in
theorem w_c18 : (Jvm.Cond.code ({ cls := "java/util/ArrayList", name := "add", desc := "(Ljava/lang/Object;)Z" } : Jvm.MethodName) jdk_38_method_25_code (2 : Nat) (Option.some Jvm.ClassFile.FieldType.boolean)).before args0 about1 = true := code_word (m := ⟨20, 4⟩) (meth := k20m4) (c := k20c4) (by decide +kernel) rfl rfl rfl (by decide +kernel)
set_option maxRecDepth 65536 in
theorem w_c19 : (Jvm.Cond.code ({ cls := "java/util/ArrayList", name := "add", desc := "(Ljava/lang/Object;[Ljava/lang/Object;I)V" } : Jvm.MethodName) jdk_38_method_24_code (4 : Nat) (Option.none : Option Jvm.ClassFile.FieldType)).before args0 about1 = true := code_word (m := ⟨20, 3⟩) (meth := k20m3) (c := k20c3) (by decide +kernel) rfl rfl rfl (by decide +kernel)
set_option maxRecDepth 65536 in
theorem w_c20 : (Jvm.Cond.code ({ cls := "java/util/ArrayList", name := "grow", desc := "()[Ljava/lang/Object;" } : Jvm.MethodName) jdk_38_method_7_code (1 : Nat) (Option.some (Jvm.ClassFile.FieldType.array (Jvm.ClassFile.FieldType.object "java/lang/Object")))).before args0 about1 = true := code_word (m := ⟨20, 2⟩) (meth := k20m2) (c := k20c2) (by decide +kernel) rfl rfl rfl (by decide +kernel)
set_option maxRecDepth 65536 in
theorem w_c21 : (Jvm.Cond.code ({ cls := "java/util/ArrayList", name := "grow", desc := "(I)[Ljava/lang/Object;" } : Jvm.MethodName) jdk_38_method_6_code (4 : Nat) (Option.some (Jvm.ClassFile.FieldType.array (Jvm.ClassFile.FieldType.object "java/lang/Object")))).before args0 about1 = true := code_word (m := ⟨20, 1⟩) (meth := k20m1) (c := k20c1) (by decide +kernel) rfl rfl rfl (by decide +kernel)
set_option maxRecDepth 65536 in
theorem w_c22 : (Jvm.Cond.code ({ cls := "java/lang/Math", name := "max", desc := "(II)I" } : Jvm.MethodName) jdk_29_method_65_code (2 : Nat) (Option.some Jvm.ClassFile.FieldType.int)).before args0 about1 = true := code_word (m := ⟨21, 1⟩) (meth := k21m1) (c := k21c1) (by decide +kernel) rfl rfl rfl (by decide +kernel)
def codes1 : List Jvm.Cond := [Jvm.Cond.code x code maxLocals ret, Jvm.Cond.code ({ cls := "java/lang/String", name := "<init>", desc := "([C)V" } : Jvm.MethodName) jdk_42_method_3_code (2 : Nat) (Option.none : Option Jvm.ClassFile.FieldType), Jvm.Cond.code ({ cls := "java/lang/String", name := "<init>", desc := "([CIILjava/lang/Void;)V" } : Jvm.MethodName) jdk_42_method_149_code (6 : Nat) (Option.none : Option Jvm.ClassFile.FieldType), Jvm.Cond.code ({ cls := "java/lang/Object", name := "<init>", desc := "()V" } : Jvm.MethodName) object_method_1_code (1 : Nat) (Option.none : Option Jvm.ClassFile.FieldType), Jvm.Cond.code ({ cls := "java/lang/StringUTF16", name := "compress", desc := "([CII)[B" } : Jvm.MethodName) jdk_52_method_16_code (6 : Nat) (Option.some (Jvm.ClassFile.FieldType.array Jvm.ClassFile.FieldType.byte)), Jvm.Cond.code ({ cls := "java/lang/StringUTF16", name := "compress", desc := "([CI[BII)I" } : Jvm.MethodName) jdk_52_method_21_code (7 : Nat) (Option.some Jvm.ClassFile.FieldType.int), Jvm.Cond.code ({ cls := "java/lang/StringUTF16", name := "coderFromArrayLen", desc := "([BI)B" } : Jvm.MethodName) jdk_52_method_15_code (2 : Nat) (Option.some Jvm.ClassFile.FieldType.byte), Jvm.Cond.code ({ cls := "com/example/weftwork/weftwork/io/Gml$Entry", name := "<init>", desc := "(Ljava/lang/String;ILjava/lang/String;Ljava/util/List;)V" } : Jvm.MethodName) prog_30_method_1_code (5 : Nat) (Option.none : Option Jvm.ClassFile.FieldType), Jvm.Cond.code ({ cls := "java/lang/Record", name := "<init>", desc := "()V" } : Jvm.MethodName) jdk_30_method_1_code (1 : Nat) (Option.none : Option Jvm.ClassFile.FieldType), Jvm.Cond.code ({ cls := "com/example/weftwork/weftwork/io/Gml$Entry", name := "isList", desc := "()Z" } : Jvm.MethodName) prog_30_method_2_code (1 : Nat) (Option.some Jvm.ClassFile.FieldType.boolean), Jvm.Cond.code ({ cls := "com/example/weftwork/weftwork/io/Gml$Entry", name := "list", desc := "()Ljava/util/List;" } : Jvm.MethodName) prog_30_method_9_code (1 : Nat) (Option.some (Jvm.ClassFile.FieldType.object "java/util/List")), Jvm.Cond.code ({ cls := "java/lang/String", name := "valueOf", desc := "(C)Ljava/lang/String;" } : Jvm.MethodName) jdk_42_method_139_code (1 : Nat) (Option.some (Jvm.ClassFile.FieldType.object "java/lang/String")), Jvm.Cond.code ({ cls := "java/lang/StringLatin1", name := "canEncode", desc := "(C)Z" } : Jvm.MethodName) jdk_43_method_3_code (1 : Nat) (Option.some Jvm.ClassFile.FieldType.boolean), Jvm.Cond.code ({ cls := "java/lang/StringLatin1", name := "toBytes", desc := "(C)[B" } : Jvm.MethodName) jdk_43_method_46_code (1 : Nat) (Option.some (Jvm.ClassFile.FieldType.array Jvm.ClassFile.FieldType.byte)), Jvm.Cond.code ({ cls := "java/lang/String", name := "<init>", desc := "([BB)V" } : Jvm.MethodName) jdk_42_method_151_code (3 : Nat) (Option.none : Option Jvm.ClassFile.FieldType), Jvm.Cond.code ({ cls := "java/util/ArrayList", name := "<init>", desc := "()V" } : Jvm.MethodName) jdk_38_method_2_code (1 : Nat) (Option.none : Option Jvm.ClassFile.FieldType), Jvm.Cond.code ({ cls := "java/util/AbstractList", name := "<init>", desc := "()V" } : Jvm.MethodName) jdk_39_method_1_code (1 : Nat) (Option.none : Option Jvm.ClassFile.FieldType), Jvm.Cond.code ({ cls := "java/util/AbstractCollection", name := "<init>", desc := "()V" } : Jvm.MethodName) jdk_22_method_1_code (1 : Nat) (Option.none : Option Jvm.ClassFile.FieldType), Jvm.Cond.code ({ cls := "java/util/ArrayList", name := "add", desc := "(Ljava/lang/Object;)Z" } : Jvm.MethodName) jdk_38_method_25_code (2 : Nat) (Option.some Jvm.ClassFile.FieldType.boolean), Jvm.Cond.code ({ cls := "java/util/ArrayList", name := "add", desc := "(Ljava/lang/Object;[Ljava/lang/Object;I)V" } : Jvm.MethodName) jdk_38_method_24_code (4 : Nat) (Option.none : Option Jvm.ClassFile.FieldType), Jvm.Cond.code ({ cls := "java/util/ArrayList", name := "grow", desc := "()[Ljava/lang/Object;" } : Jvm.MethodName) jdk_38_method_7_code (1 : Nat) (Option.some (Jvm.ClassFile.FieldType.array (Jvm.ClassFile.FieldType.object "java/lang/Object"))), Jvm.Cond.code ({ cls := "java/util/ArrayList", name := "grow", desc := "(I)[Ljava/lang/Object;" } : Jvm.MethodName) jdk_38_method_6_code (4 : Nat) (Option.some (Jvm.ClassFile.FieldType.array (Jvm.ClassFile.FieldType.object "java/lang/Object"))), Jvm.Cond.code ({ cls := "java/lang/Math", name := "max", desc := "(II)I" } : Jvm.MethodName) jdk_29_method_65_code (2 : Nat) (Option.some Jvm.ClassFile.FieldType.int)]
set_option maxRecDepth 65536 in
theorem codes_eq : words1.filter isCode = codes1 := rfl
theorem w_codes : ∀ c ∈ words1.filter isCode, c.before args0 about1 = true := by
  rw [codes_eq]
  intro c hc
  simp only [codes1, List.mem_cons, List.not_mem_nil, or_false] at hc
  rcases hc with rfl | rfl | rfl | rfl | rfl | rfl | rfl | rfl | rfl | rfl | rfl | rfl | rfl | rfl | rfl | rfl | rfl | rfl | rfl | rfl | rfl | rfl | rfl
  · exact w_c0
  · exact w_c1
  · exact w_c2
  · exact w_c3
  · exact w_c4
  · exact w_c5
  · exact w_c6
  · exact w_c7
  · exact w_c8
  · exact w_c9
  · exact w_c10
  · exact w_c11
  · exact w_c12
  · exact w_c13
  · exact w_c14
  · exact w_c15
  · exact w_c16
  · exact w_c17
  · exact w_c18
  · exact w_c19
  · exact w_c20
  · exact w_c21
  · exact w_c22
set_option maxRecDepth 65536 in
theorem w_t1 : (words1.take 24).all (fun c => isCode c || c.before args0 about1) = true := by decide +kernel
set_option maxRecDepth 65536 in
theorem w_t2 : ((words1.drop 24).take 24).all (fun c => isCode c || c.before args0 about1) = true := by decide +kernel
set_option maxRecDepth 65536 in
theorem w_t3 : (((words1.drop 24).drop 24).take 24).all (fun c => isCode c || c.before args0 about1) = true := by decide +kernel
set_option maxRecDepth 65536 in
theorem w_t4 : ((((words1.drop 24).drop 24).drop 24).take 24).all (fun c => isCode c || c.before args0 about1) = true := by decide +kernel
set_option maxRecDepth 65536 in
theorem w_t5 : (((((words1.drop 24).drop 24).drop 24).drop 24).take 24).all (fun c => isCode c || c.before args0 about1) = true := by decide +kernel
set_option maxRecDepth 65536 in
theorem w_t6 : (((((words1.drop 24).drop 24).drop 24).drop 24).drop 24).all (fun c => isCode c || c.before args0 about1) = true := by decide +kernel
theorem w_tables : (allAtoms (Jvm.Cond.code x code maxLocals ret :: tables_1)).before args0 about1 = true := by
  rw [allAtoms_all]
  show words1.all (fun c => c.before args0 about1) = true
  refine all_split ?_ w_codes
  rw [← List.take_append_drop 24 words1, List.all_append, w_t1, ← List.take_append_drop 24 (words1.drop 24), List.all_append, w_t2, ← List.take_append_drop 24 ((words1.drop 24).drop 24), List.all_append, w_t3, ← List.take_append_drop 24 (((words1.drop 24).drop 24).drop 24), List.all_append, w_t4, ← List.take_append_drop 24 ((((words1.drop 24).drop 24).drop 24).drop 24), List.all_append, w_t5, w_t6]
  rfl
set_option maxRecDepth 65536 in
theorem w_rest : rest_1_c.before args0 about1 = true := by decide +kernel
set_option maxRecDepth 65536 in
theorem w_case : (Jvm.Cond.and given_1 narrow_1).before args0 about1 = true := by decide +kernel
theorem w_applies : (headSpec (Jvm.Cond.code x code maxLocals ret :: tables_1) room_1).applies x e0.platform about1 = true :=
  (Spec.applies_iff w_frames).mpr ⟨w_running, w_runnable, w_alone, w_named, w_hears, w_ripe, w_room, w_tables⟩
theorem atStart : AtStart classFile x code maxLocals ret World_1 tables_1 room_1 Calls_1 rest_1 Pre_1 launch0 p0 e0 about1 theMethod args0 below0 :=
  ⟨lists_1, trivial, launch0.admits_env _ _ _, launch0.least_env, fairChoices_fair.cas, fairChoices_fair.clock, w_frames, w_args, w_heap, w_applies, trivial, w_rest, w_case⟩
end start1
theorem witness_1 : WitnessClaimed_1 := ⟨start1.p0, start1.e0, start1.about1, start1.theMethod, start1.args0, start1.below0, start1.atStart⟩
end Jvm.Pilot.@@N@@
